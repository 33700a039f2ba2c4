/- spec.Under, spec.Holds, spec.Meets; laws.epReq. -/
import Derived.Test.YthfjolafikgpoaaGreatDoorDLGLabB
import Derived.Test.YthfjolafikgpoaaGreatDoorDLLabFair
import Derived.Test.YthfjolafikgpoaaGreatDoorDLGLabC
namespace Go.Proofs.YthfjolafikgpoaaGreatDoor.Hand
open Go.RowKit Go.Maps Go.Proofs.YthfjolafikgpoaaGreatDoorW.PrintWords Go.Proofs.YthfjolafikgpoaaGreatDoorW.PrintLast Go.Proofs.YthfjolafikgpoaaGreatDoorW.PrintMore Go.Proofs.YthfjolafikgpoaaGreatDoor.Base
set_option linter.unusedVariables false
set_option linter.unusedSimpArgs false
set_option maxRecDepth 100000
theorem mget_app (a b : List (L × L)) (k : L) : mget (a ++ b) k = (match mget a k with | some v => some v | none => mget b k) := by
  unfold mget
  rw [List.find?_append]
  cases a.find? fun p => p.1 == k <;> rfl
theorem labRev_cons (p : ByteArray × ByteArray) (l : List (ByteArray × ByteArray)) : labRev (p :: l) = labRev l ++ [(p.1.data.toList, p.2.data.toList)] := by unfold labRev; simp
theorem labRev_app (a b : List (ByteArray × ByteArray)) : labRev (a ++ b) = labRev b ++ labRev a := by unfold labRev; simp
theorem mget_one (a b k : L) : mget [(a, b)] k = if a = k then some b else none := by
  rw [mget_cons]; rfl
theorem under_none {ls : List (ByteArray × ByteArray)} {i : Nat} {p : ByteArray × ByteArray} {k : L} (hp : ls[i]? = some p) (h : mget (labRev (ls.drop (i + 1))) k = none) (hne : p.1.data.toList ≠ k) : mget (labRev (ls.drop i)) k = none := by
  obtain ⟨hi, e⟩ := List.getElem?_eq_some_iff.1 hp
  rw [List.drop_eq_getElem_cons hi, e, labRev_cons, mget_app, h]
  simp only
  rw [mget_one, if_neg hne]
theorem under_some {ls : List (ByteArray × ByteArray)} {i : Nat} {p : ByteArray × ByteArray} {k : L} (hp : ls[i]? = some p) (h : mget (labRev (ls.drop (i + 1))) k = none) (he : p.1.data.toList = k) : mget (labRev ls) k = some p.2.data.toList := by
  obtain ⟨hi, e⟩ := List.getElem?_eq_some_iff.1 hp
  have h1 : ls = ls.take i ++ p :: ls.drop (i + 1) := by
    have := (List.take_append_drop i ls).symm
    rwa [List.drop_eq_getElem_cons hi, e] at this
  rw [h1, labRev_app, labRev_cons, mget_app, mget_app, h]
  simp only
  rw [mget_one, if_pos he]
theorem pk_get {w : World} {A : Option Addr} {n : Nat} {ls : List (ByteArray × ByteArray)} (h : PK.C w A n ls) (i : Nat) (h1 : i < n) (p : ByteArray × ByteArray) (hp : ls[i]? = some p) :
    ∃ ad, A = some ad ∧ w.cell? (ad.add (i * 2)) = some (.string p.1) ∧ w.cell? ⟨(ad.add (i * 2)).block, (ad.add (i * 2)).off + 1, none⟩ = some (.string p.2) := by
  obtain ⟨ad, e, k0, k1⟩ := pk_at h i h1
  have : ls.getD i (⟨#[]⟩, ⟨#[]⟩) = p := by rw [List.getD_eq_getElem?_getD, hp]; rfl
  rw [this] at k0 k1
  exact ⟨ad, e, k0, k1⟩
def UnderV (r : Option L) : Value := match r with | some v => .tuple #[.string (mk v), .bool true] | none => .tuple #[.string ⟨#[]⟩, .bool false]
set_option maxHeartbeats 2000000 in
theorem Under_calls (A : Option Addr) (c n : Nat) (ls : List (ByteArray × ByteArray)) (hn : ls.length = n) (hn2 : n ≤ 1000000) (key : ByteArray) (w : World) (hC : PK.C w A n ls) :
    Calls Tryz.prog 25 #[.slice A n c, .string key] w fun e w' => e = .returned (UnderV (mget (labRev ls) key.data.toList)) ∧ Below w.heap.size w w' := by
  have HC := Aside0.mk hC
  have HLN := Aside0.mk hn
  have HD : Aside0 (mget (labRev (ls.drop n)) key.data.toList = none) := ⟨by rw [List.drop_of_length_le (by omega)]; rfl⟩
  clear hC hn
  go_enter Tryz.func25, Tryz.ntmps25
  go_wp2
  go_loopg [6] (n) (fun k v6 w' => ∃ i : Nat, v6 = .int .i64 ((i : Int) - 1) ∧ Aside0 (k = i ∧ i ≤ n) ∧ Aside0 (mget (labRev (ls.drop i)) key.data.toList = none) ∧ Aside0 (Below w.heap.size w w'))
  case atStart => exact ⟨n, by first | rfl | go_num, ⟨rfl, Nat.le_refl _⟩, HD, ⟨Below.refl _ _⟩⟩
  case round =>
    obtain ⟨i, rfl, HI, HG, HB⟩ := hrel
    by_cases hi : 0 < i
    · obtain ⟨j, rfl⟩ : ∃ j, i = j + 1 := ⟨i - 1, by omega⟩
      have hj : j < n := by have := HI.out.2; omega
      obtain ⟨p, hp⟩ : ∃ p, ls[j]? = some p := ⟨_, List.getElem?_eq_getElem (by rw [HLN.out]; exact hj)⟩
      obtain ⟨ad, rfl, k0, k1⟩ := pk_get (Kd.C_below HC.out HB.out) j hj p hp
      have e1 : ((j + 1 : Nat) : Int) - 1 = (j : Int) := by omega
      have hw2 : IntKind.i64.wrap ((j : Int) - 1) = (j : Int) - 1 := by rw [IntKind.wrap_i64]; omega
      rw [e1]
      by_cases hk : p.1.data.toList = key.data.toList
      · have HF := Aside0.mk (under_some hp HG.out hk)
        have hq : (p.1.toList == key.toList) = true := by rw [toList_eq, toList_eq, hk]; simp
        clear hp hk e1
        go_wp2
        go_ret2
        exact ⟨by rw [HF.out]; rfl, HB.out⟩
      · have HF := Aside0.mk (under_none hp HG.out hk)
        have hq : (p.1.toList == key.toList) = false := by rw [toList_eq, toList_eq]; simpa using hk
        clear hp hk e1
        go_wp2
        go_roundg (j)
        case measure => have := HI.out.1; omega
        case rel => exact ⟨j, by first | rfl | go_num, ⟨rfl, by omega⟩, HF, HB⟩
    · have hi0 : i = 0 := by omega
      subst hi0
      have HF : Aside0 (mget (labRev ls) key.data.toList = none) := ⟨by have := HG.out; rwa [List.drop_zero] at this⟩
      have e1 : ((0 : Nat) : Int) - 1 = -1 := rfl
      rw [e1]
      go_wp2
      go_ret2
      exact ⟨by rw [HF.out]; rfl, HB.out⟩
set_option maxHeartbeats 2000000 in
theorem SHolds_calls (A : Option Addr) (c n : Nat) (vs : List ByteArray) (hn : vs.length = n) (hn2 : n ≤ 1000000) (v : ByteArray) (w : World) (hC : Kd.C Kd.string w A n vs) :
    Calls Tryz.prog 64 #[.slice A n c, .string v] w fun e w' => e = .returned (.bool ((vL vs).contains v.data.toList)) ∧ Below w.heap.size w w' := by
  have HC := Aside0.mk hC
  have HLN := Aside0.mk hn
  clear hC hn
  go_enter Tryz.func64, Tryz.ntmps64
  go_wp2
  go_loopg [9] (n) (fun k v9 w' => ∃ j : Nat, v9 = .int .i64 j ∧ Aside0 (k + j = n) ∧ Aside0 ((vL (vs.take j)).contains v.data.toList = false) ∧ Aside0 (Below w.heap.size w w'))
  case atStart => exact ⟨0, rfl, ⟨by omega⟩, ⟨rfl⟩, ⟨Below.refl _ _⟩⟩
  case round =>
    obtain ⟨j, rfl, HJ, HA, HB⟩ := hrel
    by_cases hjl : j < n
    · obtain ⟨ad, rfl, hk0⟩ := Kd.at_string (Kd.C_below HC.out HB.out) (j : Int) (by omega) (by omega)
      rw [Int.toNat_natCast] at hk0
      obtain ⟨p, hp⟩ : ∃ p, vs[j]? = some p := ⟨_, List.getElem?_eq_getElem (by rw [HLN.out]; exact hjl)⟩
      have hg : rdOf ByteArray.empty vs (j : Int) = p := by unfold rdOf; rw [Int.toNat_natCast, List.getD_eq_getElem?_getD, hp]; rfl
      rw [hg] at hk0
      by_cases hpv : p.data.toList = v.data.toList
      · have hq : (p.toList == v.toList) = true := by rw [toList_eq, toList_eq, hpv]; simp
        have HF : Aside0 ((vL vs).contains v.data.toList = true) := ⟨by simp only [List.contains_iff_mem, vL]; exact List.mem_map.2 ⟨p, List.mem_of_getElem? hp, hpv⟩⟩
        clear hp hg hpv
        go_wp2
        go_ret
        exact ⟨by rw [HF.out]; rfl, HB.out⟩
      · have hq : (p.toList == v.toList) = false := by rw [toList_eq, toList_eq]; simpa using hpv
        have HA2 := Aside0.mk (has_take hp HA.out hpv)
        clear hp hg hpv
        go_wp2
        go_roundg (n - (j + 1))
        case measure => have := HJ.out; omega
        case rel => exact ⟨j + 1, by go_num, ⟨by omega⟩, HA2, HB⟩
    · have hje : j = n := by have := HJ.out; omega
      have HF : Aside0 ((vL vs).contains v.data.toList = false) := ⟨by have := HA.out; rwa [List.take_of_length_le (by rw [HLN.out, hje]; exact Nat.le_refl _)] at this⟩
      subst hje
      go_wp2
      go_ret
      exact ⟨by rw [HF.out]; rfl, HB.out⟩
end Go.Proofs.YthfjolafikgpoaaGreatDoor.Hand

/- spec.Meets. -/
namespace Go.Proofs.YthfjolafikgpoaaGreatDoor.Hand
open Go.RowKit Go.Maps Go.Proofs.YthfjolafikgpoaaGreatDoorW.PrintWords Go.Proofs.YthfjolafikgpoaaGreatDoorW.PrintLast Go.Proofs.YthfjolafikgpoaaGreatDoorW.PrintMore Go.Proofs.YthfjolafikgpoaaGreatDoor.Base
set_option linter.unusedVariables false
set_option linter.unusedSimpArgs false
set_option maxRecDepth 100000
theorem fair_num {key x : L} {vs : List L} (hx : x = [103, 116] ∨ x = [108, 116]) (h : fairR key x vs = true) : ∃ u b, vs = [u] ∧ pint u = some b := by
  unfold fairR at h
  have h1 := (Bool.and_eq_true_iff.1 h).1
  clear h
  have h2 : opOk x vs = (match (generalizing := false) vs with | [v] => (pint v).isSome | _ => false) := by rcases hx with rfl | rfl <;> rfl
  rw [h2] at h1
  match vs, h1 with
  | [u], h1 => exact ⟨u, (pint u).get h1, rfl, by simp⟩
theorem fair_op {key x : L} {vs : List L} (h : fairR key x vs = true) : x = [105, 110] ∨ x = [61] ∨ x = [61, 61] ∨ x = [110, 111, 116, 105, 110] ∨ x = [33, 61] ∨ x = [101, 120, 105, 115, 116, 115] ∨ x = [33] ∨ x = [103, 116] ∨ x = [108, 116] := by
  apply Classical.byContradiction
  intro hn
  have h1 := (Bool.and_eq_true_iff.1 h).1
  unfold opOk at h1
  simp only [not_or] at hn
  obtain ⟨h0, h1_, h2, h3, h4, h5, h6, h7, h8⟩ := hn
  rw [if_neg (not_or.2 ⟨h0, h3⟩), if_neg (not_or.2 ⟨h1_, not_or.2 ⟨h2, h4⟩⟩), if_neg (not_or.2 ⟨h5, h6⟩), if_neg (not_or.2 ⟨h7, h8⟩)] at h1
  cases h1
set_option maxHeartbeats 16000000 in
theorem Meets_calls (key op : ByteArray) (A : Option Addr) (c n : Nat) (vs : List ByteArray) (hn : vs.length = n) (hn2 : n ≤ 1000000) (hz : ∀ p ∈ vs, p.size ≤ 100000000) (AL : Option Addr) (cl nl : Nat) (ls : List (ByteArray × ByteArray)) (hnl : ls.length = nl) (hnl2 : nl ≤ 1000000) (hlz : ∀ v, mget (labRev ls) key.data.toList = some v → v.length ≤ 100000000) (w : World) (hC : Kd.C Kd.string w A n vs) (hP : PK.C w AL nl ls) (hT : TV w) (hf : fairR key.data.toList op.data.toList (vL vs) = true) :
    Calls Tryz.prog 30 #[.agg #[.string key, .string op, .slice A n c], .slice AL nl cl] w fun e w' => e = .returned (.bool (meetsR op.data.toList (vL vs) (mget (labRev ls) key.data.toList))) ∧ Below w.heap.size w w' := by
  have hbk := heap_alloc_new w (.cells #[.string key, .string op, .slice A n c] 53)
  have HB1 := Aside0.mk (below_alloc (Below.refl w.heap.size w) (.cells #[.string key, .string op, .slice A n c] 53))
  obtain ⟨W, hW⟩ : ∃ W, w.alloc (.cells #[.string key, .string op, .slice A n c] 53) = W := ⟨_, rfl⟩
  rw [hW] at hbk HB1
  have c0 : W.cell? ⟨w.heap.size, 0, none⟩ = some (.string key) := (blk_cell hbk 0).trans rfl
  have c1 : W.cell? ⟨w.heap.size, 1, none⟩ = some (.string op) := (blk_cell hbk 1).trans rfl
  have c2 : W.cell? ⟨w.heap.size, 2, none⟩ = some (.slice A n c) := (blk_cell hbk 2).trans rfl
  have HK := Aside0.mk hbk
  have HLK := Aside0.mk (blk_lt hbk)
  have HC := Aside0.mk (Kd.C_below hC HB1.out)
  have HT := Aside0.mk (hT.below HB1.out)
  have HU := Aside0.mk (Under_calls AL cl nl ls hnl hnl2 key W (Kd.C_below hP HB1.out))
  have HH := Aside0.mk (fun (v : ByteArray) (W2 : World) (hb : Below W.heap.size W W2) => SHolds_calls A c n vs hn hn2 v W2 (Kd.C_below HC.out hb))
  have HZ := Aside0.mk hz
  have HLN := Aside0.mk hn
  obtain ⟨x, hx⟩ : ∃ x, op.toList = x := ⟨_, rfl⟩
  have hx2 : op.data.toList = x := by rw [← hx, toList_eq]
  rw [hx2] at hf ⊢
  clear hx2
  obtain ⟨got, hgot⟩ : ∃ got, mget (labRev ls) key.data.toList = got := ⟨_, rfl⟩
  rw [hgot] at HU hlz ⊢
  clear hgot hC hP hT hz hnl hn hbk
  have hop := fair_op hf
  by_cases h0 : x = [105, 110]
  · have e0_ : (op.toList == ([105, 110] : List UInt8)) = true := by rw [hx, h0]; rfl
    cases got with
    | none =>
      rw [show UnderV none = .tuple #[.string ⟨#[]⟩, .bool false] from rfl] at HU
      have HF : Aside0 (meetsR x (vL vs) none = false) := ⟨by rw [h0]; rfl⟩
      clear hx h0 hf hop hlz HH
      go_enter Tryz.func30, Tryz.ntmps30
      go_wp2_with (first | ((with_reducible refine (HU.out).mono ?_); rintro e w1 ⟨rfl, hb⟩; have HB2 := Aside0.mk hb; have hk2 := (hb.block _ HLK.out).trans HK.out; have e1 : w1.cell? ⟨w.heap.size, 1, none⟩ = some (.string op) := (blk_cell hk2 1).trans rfl; have e2 : w1.cell? ⟨w.heap.size, 2, none⟩ = some (.slice _ _ c) := (blk_cell hk2 2).trans rfl; clear hk2 hb HU))
      go_ret
      exact ⟨by rw [HF.out]; first | rfl | (simp; done), below_step HB1.out HB2.out⟩
    | some v =>
      rw [show UnderV (some v) = .tuple #[.string (mk v), .bool true] from rfl] at HU
      have HF : Aside0 (meetsR x (vL vs) (some v) = (vL vs).contains v) := ⟨by rw [h0]; rfl⟩
      have HQ := Aside0.mk (HH.out (mk v))
      rw [show (mk v).data.toList = v from rfl] at HQ
      obtain ⟨q, hq⟩ : ∃ q, (vL vs).contains v = q := ⟨_, rfl⟩
      rw [hq] at HQ HF
      obtain ⟨sv, hsv⟩ : ∃ sv, mk v = sv := ⟨_, rfl⟩
      rw [hsv] at HQ HU
      clear hx h0 hf hop hlz HH hq hsv
      go_enter Tryz.func30, Tryz.ntmps30
      go_wp2_with (first | ((with_reducible refine (HU.out).mono ?_); rintro e w1 ⟨rfl, hb⟩; have HB2 := Aside0.mk hb; have hk2 := (hb.block _ HLK.out).trans HK.out; have e1 : w1.cell? ⟨w.heap.size, 1, none⟩ = some (.string op) := (blk_cell hk2 1).trans rfl; have e2 : w1.cell? ⟨w.heap.size, 2, none⟩ = some (.slice _ _ c) := (blk_cell hk2 2).trans rfl; clear hk2 hb HU) | ((with_reducible refine (HQ.out _ HB2.out).mono ?_); rintro e w2 ⟨rfl, hb⟩; have HB3 := Aside0.mk (below_step HB2.out hb); clear hb HQ))
      go_ret
      exact ⟨by rw [HF.out]; first | rfl | (simp; done), below_step HB1.out HB3.out⟩
  have e0_ : (op.toList == ([105, 110] : List UInt8)) = false := by rw [hx]; simpa using h0
  by_cases h1 : x = [61]
  · have e1_ : (op.toList == ([61] : List UInt8)) = true := by rw [hx, h1]; rfl
    cases got with
    | none =>
      rw [show UnderV none = .tuple #[.string ⟨#[]⟩, .bool false] from rfl] at HU
      have HF : Aside0 (meetsR x (vL vs) none = false) := ⟨by rw [h1]; rfl⟩
      clear hx h1 hf hop hlz HH
      go_enter Tryz.func30, Tryz.ntmps30
      go_wp2_with (first | ((with_reducible refine (HU.out).mono ?_); rintro e w1 ⟨rfl, hb⟩; have HB2 := Aside0.mk hb; have hk2 := (hb.block _ HLK.out).trans HK.out; have e1 : w1.cell? ⟨w.heap.size, 1, none⟩ = some (.string op) := (blk_cell hk2 1).trans rfl; have e2 : w1.cell? ⟨w.heap.size, 2, none⟩ = some (.slice _ _ c) := (blk_cell hk2 2).trans rfl; clear hk2 hb HU))
      go_ret
      exact ⟨by rw [HF.out]; first | rfl | (simp; done), below_step HB1.out HB2.out⟩
    | some v =>
      rw [show UnderV (some v) = .tuple #[.string (mk v), .bool true] from rfl] at HU
      have HF : Aside0 (meetsR x (vL vs) (some v) = (vL vs).contains v) := ⟨by rw [h1]; rfl⟩
      have HQ := Aside0.mk (HH.out (mk v))
      rw [show (mk v).data.toList = v from rfl] at HQ
      obtain ⟨q, hq⟩ : ∃ q, (vL vs).contains v = q := ⟨_, rfl⟩
      rw [hq] at HQ HF
      obtain ⟨sv, hsv⟩ : ∃ sv, mk v = sv := ⟨_, rfl⟩
      rw [hsv] at HQ HU
      clear hx h1 hf hop hlz HH hq hsv
      go_enter Tryz.func30, Tryz.ntmps30
      go_wp2_with (first | ((with_reducible refine (HU.out).mono ?_); rintro e w1 ⟨rfl, hb⟩; have HB2 := Aside0.mk hb; have hk2 := (hb.block _ HLK.out).trans HK.out; have e1 : w1.cell? ⟨w.heap.size, 1, none⟩ = some (.string op) := (blk_cell hk2 1).trans rfl; have e2 : w1.cell? ⟨w.heap.size, 2, none⟩ = some (.slice _ _ c) := (blk_cell hk2 2).trans rfl; clear hk2 hb HU) | ((with_reducible refine (HQ.out _ HB2.out).mono ?_); rintro e w2 ⟨rfl, hb⟩; have HB3 := Aside0.mk (below_step HB2.out hb); clear hb HQ))
      go_ret
      exact ⟨by rw [HF.out]; first | rfl | (simp; done), below_step HB1.out HB3.out⟩
  have e1_ : (op.toList == ([61] : List UInt8)) = false := by rw [hx]; simpa using h1
  by_cases h2 : x = [61, 61]
  · have e2_ : (op.toList == ([61, 61] : List UInt8)) = true := by rw [hx, h2]; rfl
    cases got with
    | none =>
      rw [show UnderV none = .tuple #[.string ⟨#[]⟩, .bool false] from rfl] at HU
      have HF : Aside0 (meetsR x (vL vs) none = false) := ⟨by rw [h2]; rfl⟩
      clear hx h2 hf hop hlz HH
      go_enter Tryz.func30, Tryz.ntmps30
      go_wp2_with (first | ((with_reducible refine (HU.out).mono ?_); rintro e w1 ⟨rfl, hb⟩; have HB2 := Aside0.mk hb; have hk2 := (hb.block _ HLK.out).trans HK.out; have e1 : w1.cell? ⟨w.heap.size, 1, none⟩ = some (.string op) := (blk_cell hk2 1).trans rfl; have e2 : w1.cell? ⟨w.heap.size, 2, none⟩ = some (.slice _ _ c) := (blk_cell hk2 2).trans rfl; clear hk2 hb HU))
      go_ret
      exact ⟨by rw [HF.out]; first | rfl | (simp; done), below_step HB1.out HB2.out⟩
    | some v =>
      rw [show UnderV (some v) = .tuple #[.string (mk v), .bool true] from rfl] at HU
      have HF : Aside0 (meetsR x (vL vs) (some v) = (vL vs).contains v) := ⟨by rw [h2]; rfl⟩
      have HQ := Aside0.mk (HH.out (mk v))
      rw [show (mk v).data.toList = v from rfl] at HQ
      obtain ⟨q, hq⟩ : ∃ q, (vL vs).contains v = q := ⟨_, rfl⟩
      rw [hq] at HQ HF
      obtain ⟨sv, hsv⟩ : ∃ sv, mk v = sv := ⟨_, rfl⟩
      rw [hsv] at HQ HU
      clear hx h2 hf hop hlz HH hq hsv
      go_enter Tryz.func30, Tryz.ntmps30
      go_wp2_with (first | ((with_reducible refine (HU.out).mono ?_); rintro e w1 ⟨rfl, hb⟩; have HB2 := Aside0.mk hb; have hk2 := (hb.block _ HLK.out).trans HK.out; have e1 : w1.cell? ⟨w.heap.size, 1, none⟩ = some (.string op) := (blk_cell hk2 1).trans rfl; have e2 : w1.cell? ⟨w.heap.size, 2, none⟩ = some (.slice _ _ c) := (blk_cell hk2 2).trans rfl; clear hk2 hb HU) | ((with_reducible refine (HQ.out _ HB2.out).mono ?_); rintro e w2 ⟨rfl, hb⟩; have HB3 := Aside0.mk (below_step HB2.out hb); clear hb HQ))
      go_ret
      exact ⟨by rw [HF.out]; first | rfl | (simp; done), below_step HB1.out HB3.out⟩
  have e2_ : (op.toList == ([61, 61] : List UInt8)) = false := by rw [hx]; simpa using h2
  by_cases h3 : x = [110, 111, 116, 105, 110]
  · have e3_ : (op.toList == ([110, 111, 116, 105, 110] : List UInt8)) = true := by rw [hx, h3]; rfl
    cases got with
    | none =>
      rw [show UnderV none = .tuple #[.string ⟨#[]⟩, .bool false] from rfl] at HU
      have HF : Aside0 (meetsR x (vL vs) none = true) := ⟨by rw [h3]; rfl⟩
      clear hx h3 hf hop hlz HH
      go_enter Tryz.func30, Tryz.ntmps30
      go_wp2_with (first | ((with_reducible refine (HU.out).mono ?_); rintro e w1 ⟨rfl, hb⟩; have HB2 := Aside0.mk hb; have hk2 := (hb.block _ HLK.out).trans HK.out; have e1 : w1.cell? ⟨w.heap.size, 1, none⟩ = some (.string op) := (blk_cell hk2 1).trans rfl; have e2 : w1.cell? ⟨w.heap.size, 2, none⟩ = some (.slice _ _ c) := (blk_cell hk2 2).trans rfl; clear hk2 hb HU))
      go_ret
      exact ⟨by rw [HF.out]; first | rfl | (simp; done), below_step HB1.out HB2.out⟩
    | some v =>
      rw [show UnderV (some v) = .tuple #[.string (mk v), .bool true] from rfl] at HU
      have HF : Aside0 (meetsR x (vL vs) (some v) = !(vL vs).contains v) := ⟨by rw [h3]; rfl⟩
      have HQ := Aside0.mk (HH.out (mk v))
      rw [show (mk v).data.toList = v from rfl] at HQ
      obtain ⟨q, hq⟩ : ∃ q, (vL vs).contains v = q := ⟨_, rfl⟩
      rw [hq] at HQ HF
      obtain ⟨sv, hsv⟩ : ∃ sv, mk v = sv := ⟨_, rfl⟩
      rw [hsv] at HQ HU
      clear hx h3 hf hop hlz HH hq hsv
      go_enter Tryz.func30, Tryz.ntmps30
      go_wp2_with (first | ((with_reducible refine (HU.out).mono ?_); rintro e w1 ⟨rfl, hb⟩; have HB2 := Aside0.mk hb; have hk2 := (hb.block _ HLK.out).trans HK.out; have e1 : w1.cell? ⟨w.heap.size, 1, none⟩ = some (.string op) := (blk_cell hk2 1).trans rfl; have e2 : w1.cell? ⟨w.heap.size, 2, none⟩ = some (.slice _ _ c) := (blk_cell hk2 2).trans rfl; clear hk2 hb HU) | ((with_reducible refine (HQ.out _ HB2.out).mono ?_); rintro e w2 ⟨rfl, hb⟩; have HB3 := Aside0.mk (below_step HB2.out hb); clear hb HQ))
      go_ret
      exact ⟨by rw [HF.out]; first | rfl | (simp; done), below_step HB1.out HB3.out⟩
  have e3_ : (op.toList == ([110, 111, 116, 105, 110] : List UInt8)) = false := by rw [hx]; simpa using h3
  by_cases h4 : x = [33, 61]
  · have e4_ : (op.toList == ([33, 61] : List UInt8)) = true := by rw [hx, h4]; rfl
    cases got with
    | none =>
      rw [show UnderV none = .tuple #[.string ⟨#[]⟩, .bool false] from rfl] at HU
      have HF : Aside0 (meetsR x (vL vs) none = true) := ⟨by rw [h4]; rfl⟩
      clear hx h4 hf hop hlz HH
      go_enter Tryz.func30, Tryz.ntmps30
      go_wp2_with (first | ((with_reducible refine (HU.out).mono ?_); rintro e w1 ⟨rfl, hb⟩; have HB2 := Aside0.mk hb; have hk2 := (hb.block _ HLK.out).trans HK.out; have e1 : w1.cell? ⟨w.heap.size, 1, none⟩ = some (.string op) := (blk_cell hk2 1).trans rfl; have e2 : w1.cell? ⟨w.heap.size, 2, none⟩ = some (.slice _ _ c) := (blk_cell hk2 2).trans rfl; clear hk2 hb HU))
      go_ret
      exact ⟨by rw [HF.out]; first | rfl | (simp; done), below_step HB1.out HB2.out⟩
    | some v =>
      rw [show UnderV (some v) = .tuple #[.string (mk v), .bool true] from rfl] at HU
      have HF : Aside0 (meetsR x (vL vs) (some v) = !(vL vs).contains v) := ⟨by rw [h4]; rfl⟩
      have HQ := Aside0.mk (HH.out (mk v))
      rw [show (mk v).data.toList = v from rfl] at HQ
      obtain ⟨q, hq⟩ : ∃ q, (vL vs).contains v = q := ⟨_, rfl⟩
      rw [hq] at HQ HF
      obtain ⟨sv, hsv⟩ : ∃ sv, mk v = sv := ⟨_, rfl⟩
      rw [hsv] at HQ HU
      clear hx h4 hf hop hlz HH hq hsv
      go_enter Tryz.func30, Tryz.ntmps30
      go_wp2_with (first | ((with_reducible refine (HU.out).mono ?_); rintro e w1 ⟨rfl, hb⟩; have HB2 := Aside0.mk hb; have hk2 := (hb.block _ HLK.out).trans HK.out; have e1 : w1.cell? ⟨w.heap.size, 1, none⟩ = some (.string op) := (blk_cell hk2 1).trans rfl; have e2 : w1.cell? ⟨w.heap.size, 2, none⟩ = some (.slice _ _ c) := (blk_cell hk2 2).trans rfl; clear hk2 hb HU) | ((with_reducible refine (HQ.out _ HB2.out).mono ?_); rintro e w2 ⟨rfl, hb⟩; have HB3 := Aside0.mk (below_step HB2.out hb); clear hb HQ))
      go_ret
      exact ⟨by rw [HF.out]; first | rfl | (simp; done), below_step HB1.out HB3.out⟩
  have e4_ : (op.toList == ([33, 61] : List UInt8)) = false := by rw [hx]; simpa using h4
  by_cases h5 : x = [101, 120, 105, 115, 116, 115]
  · have e5_ : (op.toList == ([101, 120, 105, 115, 116, 115] : List UInt8)) = true := by rw [hx, h5]; rfl
    cases got with
    | none =>
      rw [show UnderV none = .tuple #[.string ⟨#[]⟩, .bool false] from rfl] at HU
      have HF : Aside0 (meetsR x (vL vs) none = false) := ⟨by rw [h5]; rfl⟩
      clear hx h5 hf hop hlz HH
      go_enter Tryz.func30, Tryz.ntmps30
      go_wp2_with (first | ((with_reducible refine (HU.out).mono ?_); rintro e w1 ⟨rfl, hb⟩; have HB2 := Aside0.mk hb; have hk2 := (hb.block _ HLK.out).trans HK.out; have e1 : w1.cell? ⟨w.heap.size, 1, none⟩ = some (.string op) := (blk_cell hk2 1).trans rfl; have e2 : w1.cell? ⟨w.heap.size, 2, none⟩ = some (.slice _ _ c) := (blk_cell hk2 2).trans rfl; clear hk2 hb HU))
      go_ret
      exact ⟨by rw [HF.out]; first | rfl | (simp; done), below_step HB1.out HB2.out⟩
    | some v =>
      rw [show UnderV (some v) = .tuple #[.string (mk v), .bool true] from rfl] at HU
      have HF : Aside0 (meetsR x (vL vs) (some v) = true) := ⟨by rw [h5]; rfl⟩
      clear hx h5 hf hop hlz HH
      go_enter Tryz.func30, Tryz.ntmps30
      go_wp2_with (first | ((with_reducible refine (HU.out).mono ?_); rintro e w1 ⟨rfl, hb⟩; have HB2 := Aside0.mk hb; have hk2 := (hb.block _ HLK.out).trans HK.out; have e1 : w1.cell? ⟨w.heap.size, 1, none⟩ = some (.string op) := (blk_cell hk2 1).trans rfl; have e2 : w1.cell? ⟨w.heap.size, 2, none⟩ = some (.slice _ _ c) := (blk_cell hk2 2).trans rfl; clear hk2 hb HU))
      go_ret
      exact ⟨by rw [HF.out]; first | rfl | (simp; done), below_step HB1.out HB2.out⟩
  have e5_ : (op.toList == ([101, 120, 105, 115, 116, 115] : List UInt8)) = false := by rw [hx]; simpa using h5
  by_cases h6 : x = [33]
  · have e6_ : (op.toList == ([33] : List UInt8)) = true := by rw [hx, h6]; rfl
    cases got with
    | none =>
      rw [show UnderV none = .tuple #[.string ⟨#[]⟩, .bool false] from rfl] at HU
      have HF : Aside0 (meetsR x (vL vs) none = true) := ⟨by rw [h6]; rfl⟩
      clear hx h6 hf hop hlz HH
      go_enter Tryz.func30, Tryz.ntmps30
      go_wp2_with (first | ((with_reducible refine (HU.out).mono ?_); rintro e w1 ⟨rfl, hb⟩; have HB2 := Aside0.mk hb; have hk2 := (hb.block _ HLK.out).trans HK.out; have e1 : w1.cell? ⟨w.heap.size, 1, none⟩ = some (.string op) := (blk_cell hk2 1).trans rfl; have e2 : w1.cell? ⟨w.heap.size, 2, none⟩ = some (.slice _ _ c) := (blk_cell hk2 2).trans rfl; clear hk2 hb HU))
      go_ret
      exact ⟨by rw [HF.out]; first | rfl | (simp; done), below_step HB1.out HB2.out⟩
    | some v =>
      rw [show UnderV (some v) = .tuple #[.string (mk v), .bool true] from rfl] at HU
      have HF : Aside0 (meetsR x (vL vs) (some v) = false) := ⟨by rw [h6]; rfl⟩
      clear hx h6 hf hop hlz HH
      go_enter Tryz.func30, Tryz.ntmps30
      go_wp2_with (first | ((with_reducible refine (HU.out).mono ?_); rintro e w1 ⟨rfl, hb⟩; have HB2 := Aside0.mk hb; have hk2 := (hb.block _ HLK.out).trans HK.out; have e1 : w1.cell? ⟨w.heap.size, 1, none⟩ = some (.string op) := (blk_cell hk2 1).trans rfl; have e2 : w1.cell? ⟨w.heap.size, 2, none⟩ = some (.slice _ _ c) := (blk_cell hk2 2).trans rfl; clear hk2 hb HU))
      go_ret
      exact ⟨by rw [HF.out]; first | rfl | (simp; done), below_step HB1.out HB2.out⟩
  have e6_ : (op.toList == ([33] : List UInt8)) = false := by rw [hx]; simpa using h6
  by_cases h7 : x = [103, 116]
  · have e7_ : (op.toList == ([103, 116] : List UInt8)) = true := by rw [hx, h7]; rfl
    have e8_ : (op.toList == ([108, 116] : List UInt8)) = false := by rw [hx, h7]; rfl
    obtain ⟨u, b, hvu, hpu⟩ := fair_num (.inl h7) hf
    have hn1 : n = 1 := by have := congrArg List.length hvu; rw [vL, List.length_map, HLN.out] at this; exact this
    obtain ⟨xv, hxv⟩ := one_of (HLN.out.trans hn1)
    have hxu : xv.data.toList = u := by rw [hxv] at hvu; simpa [vL] using hvu
    have hxz : xv.size ≤ 2147483647 := by have := HZ.out xv (by rw [hxv]; simp); omega
    obtain ⟨ad, hA, hk0⟩ := Kd.at_string HC.out 0 (by omega) (by omega)
    rw [hxv] at hk0
    have hk1 : W.cell? ad = some (.string xv) := by rw [show (0 : Int).toNat = 0 from rfl, add0] at hk0; exact hk0
    have HK1 := Aside0.mk hk1
    have HLT2 := Aside0.mk (World.block_lt_of_cell? W _ hk1)
    subst hA
    have HPX := Aside0.mk (fun (W2 : World) => pint_ok xv hxz b (by rw [hxu]; exact hpu) W2)
    rw [hvu]
    cases got with
    | none =>
      rw [show UnderV none = .tuple #[.string ⟨#[]⟩, .bool false] from rfl] at HU
      have HF : Aside0 (meetsR x [u] none = false) := ⟨by rw [h7]; rfl⟩
      have HP1 := Aside0.mk (fun (W2 : World) (hb : Below W.heap.size W W2) => pint_bad ⟨#[]⟩ (by decide) (by decide) W2 (HT.out.below hb))
      clear hx h7 hf hop HH hk0 hk1 hvu hpu hxv hxu hxz
      clear hlz
      subst hn1
      go_enter Tryz.func30, Tryz.ntmps30
      go_wp2_with (first | ((with_reducible refine (HU.out).mono ?_); rintro e w1 ⟨rfl, hb⟩; have HB2 := Aside0.mk hb; have hk2 := (hb.block _ HLK.out).trans HK.out; have e1 : w1.cell? ⟨w.heap.size, 1, none⟩ = some (.string op) := (blk_cell hk2 1).trans rfl; have e2 : w1.cell? ⟨w.heap.size, 2, none⟩ = some (.slice _ _ c) := (blk_cell hk2 2).trans rfl; clear hk2 hb HU) | ((with_reducible refine (HP1.out _ HB2.out).mono ?_); rintro e w2 ⟨vi, gi, rfl, hb⟩; have HB3 := Aside0.mk (below_step HB2.out hb); have f1 : w2.cell? ⟨w.heap.size, 1, none⟩ = some (.string op) := (hb.cell (World.block_lt_of_cell? _ _ e1)).trans e1; have f2 := (hb.cell (World.block_lt_of_cell? _ _ e2)).trans e2; have f3 : w2.cell? ad = some (.string xv) := (HB3.out.cell HLT2.out).trans HK1.out; clear hb HP1) | ((with_reducible refine (HPX.out _).mono ?_); rintro e w3 ⟨rfl, hb⟩; have HB4 := Aside0.mk (below_step HB3.out hb); have g1 : w3.cell? ⟨w.heap.size, 1, none⟩ = some (.string op) := (hb.cell (World.block_lt_of_cell? _ _ f1)).trans f1; clear hb HPX))
      go_ret
      exact ⟨by rw [HF.out]; first | rfl | (simp; done), below_step HB1.out HB4.out⟩
    | some v =>
      rw [show UnderV (some v) = .tuple #[.string (mk v), .bool true] from rfl] at HU
      have hvz := hlz v rfl
      have hsz : (mk v).size ≤ 2147483647 := by rw [mk_size]; omega
      obtain ⟨sv, hsv⟩ : ∃ sv, mk v = sv := ⟨_, rfl⟩
      have hsd : sv.data.toList = v := by rw [← hsv]; rfl
      rw [hsv] at HU hsz
      cases hpv : pint v with
      | none =>
        have HF : Aside0 (meetsR x [u] (some v) = false) := ⟨by rw [h7]; simp [meetsR, hpv]⟩
        have HP1 := Aside0.mk (fun (W2 : World) (hb : Below W.heap.size W W2) => pint_bad sv hsz (by rw [hsd]; exact hpv) W2 (HT.out.below hb))
        clear hx h7 hf hop HH hk0 hk1 hvu hpu hxv hxu hxz
        clear hlz hsv hsd hpv hvz hsz
        subst hn1
        go_enter Tryz.func30, Tryz.ntmps30
        go_wp2_with (first | ((with_reducible refine (HU.out).mono ?_); rintro e w1 ⟨rfl, hb⟩; have HB2 := Aside0.mk hb; have hk2 := (hb.block _ HLK.out).trans HK.out; have e1 : w1.cell? ⟨w.heap.size, 1, none⟩ = some (.string op) := (blk_cell hk2 1).trans rfl; have e2 : w1.cell? ⟨w.heap.size, 2, none⟩ = some (.slice _ _ c) := (blk_cell hk2 2).trans rfl; clear hk2 hb HU) | ((with_reducible refine (HP1.out _ HB2.out).mono ?_); rintro e w2 ⟨vi, gi, rfl, hb⟩; have HB3 := Aside0.mk (below_step HB2.out hb); have f1 : w2.cell? ⟨w.heap.size, 1, none⟩ = some (.string op) := (hb.cell (World.block_lt_of_cell? _ _ e1)).trans e1; have f2 := (hb.cell (World.block_lt_of_cell? _ _ e2)).trans e2; have f3 : w2.cell? ad = some (.string xv) := (HB3.out.cell HLT2.out).trans HK1.out; clear hb HP1) | ((with_reducible refine (HPX.out _).mono ?_); rintro e w3 ⟨rfl, hb⟩; have HB4 := Aside0.mk (below_step HB3.out hb); have g1 : w3.cell? ⟨w.heap.size, 1, none⟩ = some (.string op) := (hb.cell (World.block_lt_of_cell? _ _ f1)).trans f1; clear hb HPX))
        go_ret
        exact ⟨by rw [HF.out]; first | rfl | (simp; done), below_step HB1.out HB4.out⟩
      | some a =>
        have HP1 := Aside0.mk (fun (W2 : World) (_ : Below W.heap.size W W2) => pint_ok sv hsz a (by rw [hsd]; exact hpv) W2)
        by_cases hab : b < a
        · have HF : Aside0 (meetsR x [u] (some v) = true) := ⟨by rw [h7]; simp [meetsR, hpv, hpu, hab]⟩
          clear hx h7 hf hop HH hk0 hk1 hvu hpu hxv hxu hxz
          clear hlz hsv hsd hpv hvz hsz
          subst hn1
          go_enter Tryz.func30, Tryz.ntmps30
          go_wp2_with (first | ((with_reducible refine (HU.out).mono ?_); rintro e w1 ⟨rfl, hb⟩; have HB2 := Aside0.mk hb; have hk2 := (hb.block _ HLK.out).trans HK.out; have e1 : w1.cell? ⟨w.heap.size, 1, none⟩ = some (.string op) := (blk_cell hk2 1).trans rfl; have e2 : w1.cell? ⟨w.heap.size, 2, none⟩ = some (.slice _ _ c) := (blk_cell hk2 2).trans rfl; clear hk2 hb HU) | ((with_reducible refine (HP1.out _ HB2.out).mono ?_); rintro e w2 ⟨rfl, hb⟩; have HB3 := Aside0.mk (below_step HB2.out hb); have f1 : w2.cell? ⟨w.heap.size, 1, none⟩ = some (.string op) := (hb.cell (World.block_lt_of_cell? _ _ e1)).trans e1; have f2 := (hb.cell (World.block_lt_of_cell? _ _ e2)).trans e2; have f3 : w2.cell? ad = some (.string xv) := (HB3.out.cell HLT2.out).trans HK1.out; clear hb HP1) | ((with_reducible refine (HPX.out _).mono ?_); rintro e w3 ⟨rfl, hb⟩; have HB4 := Aside0.mk (below_step HB3.out hb); have g1 : w3.cell? ⟨w.heap.size, 1, none⟩ = some (.string op) := (hb.cell (World.block_lt_of_cell? _ _ f1)).trans f1; clear hb HPX))
          go_ret
          exact ⟨by rw [HF.out]; first | rfl | (simp; done), below_step HB1.out HB4.out⟩
        · have HF : Aside0 (meetsR x [u] (some v) = false) := ⟨by rw [h7]; simp [meetsR, hpv, hpu, hab]⟩
          have hab2 : (b < a) = False := eq_false hab
          clear hab
          clear hx h7 hf hop HH hk0 hk1 hvu hpu hxv hxu hxz
          clear hlz hsv hsd hpv hvz hsz
          subst hn1
          go_enter Tryz.func30, Tryz.ntmps30
          go_wp2_with (first | ((with_reducible refine (HU.out).mono ?_); rintro e w1 ⟨rfl, hb⟩; have HB2 := Aside0.mk hb; have hk2 := (hb.block _ HLK.out).trans HK.out; have e1 : w1.cell? ⟨w.heap.size, 1, none⟩ = some (.string op) := (blk_cell hk2 1).trans rfl; have e2 : w1.cell? ⟨w.heap.size, 2, none⟩ = some (.slice _ _ c) := (blk_cell hk2 2).trans rfl; clear hk2 hb HU) | ((with_reducible refine (HP1.out _ HB2.out).mono ?_); rintro e w2 ⟨rfl, hb⟩; have HB3 := Aside0.mk (below_step HB2.out hb); have f1 : w2.cell? ⟨w.heap.size, 1, none⟩ = some (.string op) := (hb.cell (World.block_lt_of_cell? _ _ e1)).trans e1; have f2 := (hb.cell (World.block_lt_of_cell? _ _ e2)).trans e2; have f3 : w2.cell? ad = some (.string xv) := (HB3.out.cell HLT2.out).trans HK1.out; clear hb HP1) | ((with_reducible refine (HPX.out _).mono ?_); rintro e w3 ⟨rfl, hb⟩; have HB4 := Aside0.mk (below_step HB3.out hb); have g1 : w3.cell? ⟨w.heap.size, 1, none⟩ = some (.string op) := (hb.cell (World.block_lt_of_cell? _ _ f1)).trans f1; clear hb HPX))
          go_ret
          exact ⟨by rw [HF.out]; first | rfl | (simp; done), below_step HB1.out HB4.out⟩
  have e7_ : (op.toList == ([103, 116] : List UInt8)) = false := by rw [hx]; simpa using h7
  by_cases h8 : x = [108, 116]
  · have e8_ : (op.toList == ([108, 116] : List UInt8)) = true := by rw [hx, h8]; rfl
    obtain ⟨u, b, hvu, hpu⟩ := fair_num (.inr h8) hf
    have hn1 : n = 1 := by have := congrArg List.length hvu; rw [vL, List.length_map, HLN.out] at this; exact this
    obtain ⟨xv, hxv⟩ := one_of (HLN.out.trans hn1)
    have hxu : xv.data.toList = u := by rw [hxv] at hvu; simpa [vL] using hvu
    have hxz : xv.size ≤ 2147483647 := by have := HZ.out xv (by rw [hxv]; simp); omega
    obtain ⟨ad, hA, hk0⟩ := Kd.at_string HC.out 0 (by omega) (by omega)
    rw [hxv] at hk0
    have hk1 : W.cell? ad = some (.string xv) := by rw [show (0 : Int).toNat = 0 from rfl, add0] at hk0; exact hk0
    have HK1 := Aside0.mk hk1
    have HLT2 := Aside0.mk (World.block_lt_of_cell? W _ hk1)
    subst hA
    have HPX := Aside0.mk (fun (W2 : World) => pint_ok xv hxz b (by rw [hxu]; exact hpu) W2)
    rw [hvu]
    cases got with
    | none =>
      rw [show UnderV none = .tuple #[.string ⟨#[]⟩, .bool false] from rfl] at HU
      have HF : Aside0 (meetsR x [u] none = false) := ⟨by rw [h8]; rfl⟩
      have HP1 := Aside0.mk (fun (W2 : World) (hb : Below W.heap.size W W2) => pint_bad ⟨#[]⟩ (by decide) (by decide) W2 (HT.out.below hb))
      clear hx h8 hf hop HH hk0 hk1 hvu hpu hxv hxu hxz
      clear hlz
      subst hn1
      go_enter Tryz.func30, Tryz.ntmps30
      go_wp2_with (first | ((with_reducible refine (HU.out).mono ?_); rintro e w1 ⟨rfl, hb⟩; have HB2 := Aside0.mk hb; have hk2 := (hb.block _ HLK.out).trans HK.out; have e1 : w1.cell? ⟨w.heap.size, 1, none⟩ = some (.string op) := (blk_cell hk2 1).trans rfl; have e2 : w1.cell? ⟨w.heap.size, 2, none⟩ = some (.slice _ _ c) := (blk_cell hk2 2).trans rfl; clear hk2 hb HU) | ((with_reducible refine (HP1.out _ HB2.out).mono ?_); rintro e w2 ⟨vi, gi, rfl, hb⟩; have HB3 := Aside0.mk (below_step HB2.out hb); have f1 : w2.cell? ⟨w.heap.size, 1, none⟩ = some (.string op) := (hb.cell (World.block_lt_of_cell? _ _ e1)).trans e1; have f2 := (hb.cell (World.block_lt_of_cell? _ _ e2)).trans e2; have f3 : w2.cell? ad = some (.string xv) := (HB3.out.cell HLT2.out).trans HK1.out; clear hb HP1) | ((with_reducible refine (HPX.out _).mono ?_); rintro e w3 ⟨rfl, hb⟩; have HB4 := Aside0.mk (below_step HB3.out hb); have g1 : w3.cell? ⟨w.heap.size, 1, none⟩ = some (.string op) := (hb.cell (World.block_lt_of_cell? _ _ f1)).trans f1; clear hb HPX))
      go_ret
      exact ⟨by rw [HF.out]; first | rfl | (simp; done), below_step HB1.out HB4.out⟩
    | some v =>
      rw [show UnderV (some v) = .tuple #[.string (mk v), .bool true] from rfl] at HU
      have hvz := hlz v rfl
      have hsz : (mk v).size ≤ 2147483647 := by rw [mk_size]; omega
      obtain ⟨sv, hsv⟩ : ∃ sv, mk v = sv := ⟨_, rfl⟩
      have hsd : sv.data.toList = v := by rw [← hsv]; rfl
      rw [hsv] at HU hsz
      cases hpv : pint v with
      | none =>
        have HF : Aside0 (meetsR x [u] (some v) = false) := ⟨by rw [h8]; simp [meetsR, hpv]⟩
        have HP1 := Aside0.mk (fun (W2 : World) (hb : Below W.heap.size W W2) => pint_bad sv hsz (by rw [hsd]; exact hpv) W2 (HT.out.below hb))
        clear hx h8 hf hop HH hk0 hk1 hvu hpu hxv hxu hxz
        clear hlz hsv hsd hpv hvz hsz
        subst hn1
        go_enter Tryz.func30, Tryz.ntmps30
        go_wp2_with (first | ((with_reducible refine (HU.out).mono ?_); rintro e w1 ⟨rfl, hb⟩; have HB2 := Aside0.mk hb; have hk2 := (hb.block _ HLK.out).trans HK.out; have e1 : w1.cell? ⟨w.heap.size, 1, none⟩ = some (.string op) := (blk_cell hk2 1).trans rfl; have e2 : w1.cell? ⟨w.heap.size, 2, none⟩ = some (.slice _ _ c) := (blk_cell hk2 2).trans rfl; clear hk2 hb HU) | ((with_reducible refine (HP1.out _ HB2.out).mono ?_); rintro e w2 ⟨vi, gi, rfl, hb⟩; have HB3 := Aside0.mk (below_step HB2.out hb); have f1 : w2.cell? ⟨w.heap.size, 1, none⟩ = some (.string op) := (hb.cell (World.block_lt_of_cell? _ _ e1)).trans e1; have f2 := (hb.cell (World.block_lt_of_cell? _ _ e2)).trans e2; have f3 : w2.cell? ad = some (.string xv) := (HB3.out.cell HLT2.out).trans HK1.out; clear hb HP1) | ((with_reducible refine (HPX.out _).mono ?_); rintro e w3 ⟨rfl, hb⟩; have HB4 := Aside0.mk (below_step HB3.out hb); have g1 : w3.cell? ⟨w.heap.size, 1, none⟩ = some (.string op) := (hb.cell (World.block_lt_of_cell? _ _ f1)).trans f1; clear hb HPX))
        go_ret
        exact ⟨by rw [HF.out]; first | rfl | (simp; done), below_step HB1.out HB4.out⟩
      | some a =>
        have HP1 := Aside0.mk (fun (W2 : World) (_ : Below W.heap.size W W2) => pint_ok sv hsz a (by rw [hsd]; exact hpv) W2)
        by_cases hab : a < b
        · have HF : Aside0 (meetsR x [u] (some v) = true) := ⟨by rw [h8]; simp [meetsR, hpv, hpu, hab]⟩
          clear hx h8 hf hop HH hk0 hk1 hvu hpu hxv hxu hxz
          clear hlz hsv hsd hpv hvz hsz
          subst hn1
          go_enter Tryz.func30, Tryz.ntmps30
          go_wp2_with (first | ((with_reducible refine (HU.out).mono ?_); rintro e w1 ⟨rfl, hb⟩; have HB2 := Aside0.mk hb; have hk2 := (hb.block _ HLK.out).trans HK.out; have e1 : w1.cell? ⟨w.heap.size, 1, none⟩ = some (.string op) := (blk_cell hk2 1).trans rfl; have e2 : w1.cell? ⟨w.heap.size, 2, none⟩ = some (.slice _ _ c) := (blk_cell hk2 2).trans rfl; clear hk2 hb HU) | ((with_reducible refine (HP1.out _ HB2.out).mono ?_); rintro e w2 ⟨rfl, hb⟩; have HB3 := Aside0.mk (below_step HB2.out hb); have f1 : w2.cell? ⟨w.heap.size, 1, none⟩ = some (.string op) := (hb.cell (World.block_lt_of_cell? _ _ e1)).trans e1; have f2 := (hb.cell (World.block_lt_of_cell? _ _ e2)).trans e2; have f3 : w2.cell? ad = some (.string xv) := (HB3.out.cell HLT2.out).trans HK1.out; clear hb HP1) | ((with_reducible refine (HPX.out _).mono ?_); rintro e w3 ⟨rfl, hb⟩; have HB4 := Aside0.mk (below_step HB3.out hb); have g1 : w3.cell? ⟨w.heap.size, 1, none⟩ = some (.string op) := (hb.cell (World.block_lt_of_cell? _ _ f1)).trans f1; clear hb HPX))
          go_ret
          exact ⟨by rw [HF.out]; first | rfl | (simp; done), below_step HB1.out HB4.out⟩
        · have HF : Aside0 (meetsR x [u] (some v) = false) := ⟨by rw [h8]; simp [meetsR, hpv, hpu, hab]⟩
          have hab2 : (a < b) = False := eq_false hab
          clear hab
          clear hx h8 hf hop HH hk0 hk1 hvu hpu hxv hxu hxz
          clear hlz hsv hsd hpv hvz hsz
          subst hn1
          go_enter Tryz.func30, Tryz.ntmps30
          go_wp2_with (first | ((with_reducible refine (HU.out).mono ?_); rintro e w1 ⟨rfl, hb⟩; have HB2 := Aside0.mk hb; have hk2 := (hb.block _ HLK.out).trans HK.out; have e1 : w1.cell? ⟨w.heap.size, 1, none⟩ = some (.string op) := (blk_cell hk2 1).trans rfl; have e2 : w1.cell? ⟨w.heap.size, 2, none⟩ = some (.slice _ _ c) := (blk_cell hk2 2).trans rfl; clear hk2 hb HU) | ((with_reducible refine (HP1.out _ HB2.out).mono ?_); rintro e w2 ⟨rfl, hb⟩; have HB3 := Aside0.mk (below_step HB2.out hb); have f1 : w2.cell? ⟨w.heap.size, 1, none⟩ = some (.string op) := (hb.cell (World.block_lt_of_cell? _ _ e1)).trans e1; have f2 := (hb.cell (World.block_lt_of_cell? _ _ e2)).trans e2; have f3 : w2.cell? ad = some (.string xv) := (HB3.out.cell HLT2.out).trans HK1.out; clear hb HP1) | ((with_reducible refine (HPX.out _).mono ?_); rintro e w3 ⟨rfl, hb⟩; have HB4 := Aside0.mk (below_step HB3.out hb); have g1 : w3.cell? ⟨w.heap.size, 1, none⟩ = some (.string op) := (hb.cell (World.block_lt_of_cell? _ _ f1)).trans f1; clear hb HPX))
          go_ret
          exact ⟨by rw [HF.out]; first | rfl | (simp; done), below_step HB1.out HB4.out⟩
  have e8_ : (op.toList == ([108, 116] : List UInt8)) = false := by rw [hx]; simpa using h8
  exfalso
  rcases hop with h | h | h | h | h | h | h | h | h <;> contradiction
end Go.Proofs.YthfjolafikgpoaaGreatDoor.Hand

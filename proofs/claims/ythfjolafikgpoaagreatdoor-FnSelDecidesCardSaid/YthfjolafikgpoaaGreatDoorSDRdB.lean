/- The reference's reader: values. -/
import Derived.Test.YthfjolafikgpoaaGreatDoorSDM30
import Derived.Test.YthfjolafikgpoaaGreatDoorSDGParB
namespace Go.Proofs.YthfjolafikgpoaaGreatDoor.Hand
open Go.RowKit Go.Maps Go.Proofs.YthfjolafikgpoaaGreatDoorW.PrintWords Go.Proofs.YthfjolafikgpoaaGreatDoorW.PrintLast Go.Proofs.YthfjolafikgpoaaGreatDoorW.PrintMore Go.Proofs.YthfjolafikgpoaaGreatDoor.Base
set_option linter.unusedVariables false
set_option linter.unusedSimpArgs false
set_option maxRecDepth 100000
theorem Kb.step {w w1 w2 : World} {g : Nat} (h : Kb w w1 g) (hb : Below w.heap.size w1 w2) : Kb w w2 g :=
 ⟨h.out.trans (hb.mono (Nat.zero_le _)), ⟨Nat.le_trans h.ke.1 hb.size, fun k hk hne hr => (hb.block k hk).trans (h.ke.2 k hk hne hr)⟩⟩
theorem lit1_R (W : World) (base : Nat) (hb : base ≤ W.heap.size) (s : ByteArray) (ok : Nat → Prop) (hok : ok W.heap.size) : Kd.R Kd.string 9 (W.alloc (.cells #[.string s] 9)) base ok (.slice (some ⟨W.heap.size, 0, none⟩) 1 1) [s] := by
 have h2 := World.ownsRow_lit (base := base) (e := 9) (size := 1) W #[.string s] 1 hb (by unfold maxLen; omega) rfl
 refine Kd.R_of_own (xs := [s]) h2 (fun k hk => ?_)
 have : W.heap.size = k := by simpa [Value.ownBlock] using hk
 subst this; exact hok
def fin (r : Option (List L × List Tk)) : Option (List L × List Tk) := match r with
 | some (ks, (k3, _) :: ts3) => if vk k3 = 2 then some (ks, ts3) else none
 | _ => none
theorem pVals_in {k k2 : Nat} {s s2 : L} {ts2 : List Tk} (hk : vk k = 13) (h2 : vk k2 = 8 ∨ vk k2 = 3) : pVals ((k, s) :: (k2, s2) :: ts2) = fin (pIds ((k2, s2) :: ts2).length ((k2, s2) :: ts2) []) := by
 unfold pVals
 simp only
 rw [if_pos hk, if_pos h2]
 rfl
theorem fin_some {ks : List L} {k3 : Nat} {s3 : L} {ts3 : List Tk} (h : vk k3 = 2) : fin (some (ks, (k3, s3) :: ts3)) = some (ks, ts3) := by
 unfold fin; simp only; rw [if_pos h]
theorem set_same {ks out : List L} (h : ∀ x, x ∈ ks ↔ x ∈ out) : setL out = setL ks := up_ext (setL_up _) (setL_up _) (fun y => by rw [setL_mem, setL_mem]; exact (h y).symm)
theorem mem_step {ks out : List L} (h : ∀ x, x ∈ ks ↔ x ∈ out) (s : L) : ∀ x, x ∈ addK ks s ↔ x ∈ out ++ [s] := fun x => by
 rw [List.mem_append, List.mem_singleton, ← h x]
 unfold addK
 split
 · rename_i hm
   constructor
   · exact .inl
   · rintro (e | rfl)
     · exact e
     · simpa using hm
 · simp
structure RV (w0 w : World) (rb B : Nat) (T : List Tk) (q : Nat) (vo : Value) (out : List L) : Prop where
 ex : EX w rb B T q
 kb : Kb w0 w rb
 rw_ : Kd.R Kd.string 9 w w0.heap.size (fun k => w0.heap.size ≤ k) vo (out.map mk)
theorem RV.move {w0 w w' : World} {rb B q q' : Nat} {T : List Tk} {vo : Value} {out : List L} (h : RV w0 w rb B T q vo out) (hlt : rb < w0.heap.size) (hp : EX w' rb B T q') (hk : Kb w w' rb) : RV w0 w' rb B T q' vo out :=
 ⟨hp, h.kb.trans hk, Kd.R_keep h.rw_ hk.ke (fun k hk' => by omega)⟩
theorem RV.below {w0 w w' : World} {rb B q : Nat} {T : List Tk} {vo : Value} {out : List L} (h : RV w0 w rb B T q vo out) (hb : Below w.heap.size w w') : RV w0 w' rb B T q vo out :=
 ⟨h.ex.belowS hb, h.kb.trans (Kb.of_below hb rb), Kd.R_below h.rw_ hb⟩
theorem RV.app {w0 w w' : World} {rb B q : Nat} {T : List Tk} {vo v1 : Value} {out : List L} (h : RV w0 w rb B T q vo out) (hB : B ≤ w0.heap.size) {p : ByteArray} {s : L} (hp : p = Base.mk s) (ho : Kd.R Kd.string 9 w' w0.heap.size (fun k => w0.heap.size ≤ k) v1 (out.map Base.mk ++ [p])) (hb : Below w0.heap.size w w') : RV w0 w' rb B T q v1 (out ++ [s]) := by
 subst hp
 exact ⟨h.ex.below (hb.mono hB), h.kb.step hb, by rw [List.map_append]; exact ho⟩
theorem RV.slice {w0 w : World} {rb B q : Nat} {T : List Tk} {vo : Value} {out : List L} (h : RV w0 w rb B T q vo out) : ∃ (A : Option Addr) (c : Nat), vo = .slice A out.length c := by
 obtain ⟨A, c, e⟩ := Kd.R_slice h.rw_
 rw [List.length_map] at e
 exact ⟨A, c, e⟩
theorem rset_calls {w0 w : World} {rb B q : Nat} {T : List Tk} {A : Option Addr} {n c : Nat} (out : List L) (hl : out.length ≤ 1000) (h : RV w0 w rb B T q (.slice A n c) out) :
   Calls Tryz.prog 42 #[.slice A n c] w fun e w' => ∃ v : Value, e = .returned v ∧ Kd.R Kd.string 9 w' w.heap.size (fun _ => True) v ((setL out).map mk) ∧ Below w.heap.size w w' := by
 obtain ⟨h1, h2, h3⟩ := Kd.R_reads' h.rw_
 rw [List.length_map] at h1 h3
 subst h1
 exact SetOf_calls A c out hl w h3 h2
def ValR (r : Option (List L × List Tk)) (w0 : World) (rb B : Nat) (T : List Tk) (e : Ending) (w' : World) : Prop :=
 Kb w0 w' rb ∧ ∃ (A : Option Addr) (n c : Nat) (b : Bool), e = .returned (.tuple #[.slice A n c, .bool b]) ∧ (match r with
   | some (ks, ts') => b = true ∧ ∃ q, T.drop q = ts' ∧ EX w' rb B T q ∧ Kd.R Kd.string 9 w' w0.heap.size (fun k => w0.heap.size ≤ k) (.slice A n c) ((setL ks).map mk)
   | none => b = false)
theorem ValR.none' {r : Option (List L × List Tk)} {w0 w' : World} {rb B : Nat} {T : List Tk} {A : Option Addr} {n c : Nat} (hr : r = none) (hk : Kb w0 w' rb) : ValR r w0 rb B T (.returned (.tuple #[.slice A n c, .bool false])) w' := by
 subst hr; exact ⟨hk, A, n, c, false, rfl, rfl⟩
theorem ValR.some' {r : Option (List L × List Tk)} {w0 w' : World} {rb B q : Nat} {T ts' : List Tk} {v : Value} {ks : List L} (hr : r = some (ks, ts')) (hk : Kb w0 w' rb) (hq : T.drop q = ts') (hx : EX w' rb B T q) (h : Kd.R Kd.string 9 w' w0.heap.size (fun k => w0.heap.size ≤ k) v ((setL ks).map mk)) : ValR r w0 rb B T (.returned (.tuple #[v, .bool true])) w' := by
 subst hr
 obtain ⟨A, c, rfl⟩ := Kd.R_slice h
 exact ⟨hk, A, _, c, true, rfl, rfl, q, hq, hx, h⟩
theorem ValR.end' {r : Option (List L × List Tk)} {w0 w w' : World} {rb B q : Nat} {T ts' : List Tk} {vo v : Value} {ks out : List L} (hr : r = some (ks, ts')) (hx : RV w0 w rb B T q vo out) (hq : T.drop q = ts') (hm : ∀ x, x ∈ ks ↔ x ∈ out)
   (h1 : Kd.R Kd.string 9 w' w.heap.size (fun _ => True) v ((setL out).map mk)) (h2 : Below w.heap.size w w') : ValR r w0 rb B T (.returned (.tuple #[v, .bool true])) w' := by
 have hle : w0.heap.size ≤ w.heap.size := hx.kb.size
 refine ValR.some' hr (hx.below h2).kb hq (hx.below h2).ex ?_
 rw [← set_same hm]
 exact Kd.R_mono (Kd.R_bound (Kd.R_lower h1 hle)) (fun k hk => hk.2.1)
theorem nx_calls (rb B p : Nat) (T ts : List Tk) (k : Nat) (s : L) (hT : T.length ≤ 1000000) (ht : T.drop p = (k, s) :: ts) (hts : ts ≠ []) (w : World) (h : EX w rb B T p) :
   Calls Tryz.prog 63 #[.pointer (some ⟨rb, 0, none⟩), .bool true] w fun e w' => e = .returned (.tuple #[.int .i64 ((vk k : Nat) : Int), .string (mk s)]) ∧ EX w' rb B T (p + 1) ∧ Kb w w' rb :=
 (next_calls rb B p T ts k s hT ht true w h).mono fun e w' ⟨h1, h2, h3⟩ => ⟨h1, by rw [show stp p ts = p + 1 from if_neg hts] at h2; exact h2, h3⟩
theorem nx0_calls (rb B p : Nat) (T ts : List Tk) (k : Nat) (s : L) (hT : T.length ≤ 1000000) (ht : T.drop p = (k, s) :: ts) (w : World) (h : EX w rb B T p) :
   Calls Tryz.prog 63 #[.pointer (some ⟨rb, 0, none⟩), .bool true] w fun e w' => e = .returned (.tuple #[.int .i64 ((vk k : Nat) : Int), .string (mk s)]) ∧ Kb w w' rb :=
 (next_calls rb B p T ts k s hT ht true w h).mono fun e w' ⟨h1, h2, h3⟩ => ⟨h1, h3⟩
theorem pk_calls (rb B p : Nat) (T ts : List Tk) (k : Nat) (s : L) (hT : T.length ≤ 1000000) (ht : T.drop p = (k, s) :: ts) (w : World) (h : EX w rb B T p) :
   Calls Tryz.prog 61 #[.pointer (some ⟨rb, 0, none⟩), .bool true] w fun e w' => e = .returned (.int .i64 ((vk k : Nat) : Int)) ∧ Below w.heap.size w w' :=
 (peek_calls rb B p T ts k s hT ht true w h).mono fun e w' ⟨h1, q, h2⟩ => ⟨h1, by subst h2; exact pw_below_drewN (Below.refl _ _) q⟩
set_option maxHeartbeats 8000000 in
theorem rone_calls (rb B p : Nat) (T ts : List Tk) (k : Nat) (s : L) (hT : T.length ≤ 900) (hE : EndsT T) (ht : T.drop p = (k, s) :: ts) (op : ByteArray) (h1 : (op.toList == ([105, 110] : List UInt8)) = false) (h2 : (op.toList == ([110, 111, 116, 105, 110] : List UInt8)) = false) (w : World) (hB : B ≤ w.heap.size) (h : EX w rb B T p) :
   Calls Tryz.prog 86 #[.pointer (some ⟨rb, 0, none⟩), .string op] w fun e w' => ValR (pOne (T.drop p)) w rb B T e w' := by
 have HX := Aside0.mk h
 have HL := Aside0.mk (pk_calls rb B p T ts k s (by omega) ht w h)
 have HLT := Aside0.mk (Nat.lt_of_lt_of_le h.1 hB)
 have HP := Aside0.mk ht
 rw [ht]
 by_cases e1 : vk k = 1
 · have HR : Aside0 (pOne ((k, s) :: ts) = some ([[]], (k, s) :: ts)) := ⟨by unfold pOne; simp [e1]⟩
   rw [e1] at HL
   clear e1  hT hE ht h
   go_enter Tryz.func86, Tryz.ntmps86
   go_wp2_with (first | ((with_reducible refine (HL.out).mono ?_); rintro e w1 ⟨rfl, hb⟩; have HX1 := Aside0.mk (HX.out.belowS hb); have HB1 := Aside0.mk hb; clear hb HL))
   go_ret2
   exact ValR.some' HR.out (Kb.of_below (below_step HB1.out (below_alloc (Below.refl _ _) _)) rb) HP.out (HX1.out.belowS (below_alloc (Below.refl _ _) _)) (lit1_R _ _ (below_size HB1.out) _ _ (below_size HB1.out))
 by_cases e3 : vk k = 3
 · have HR : Aside0 (pOne ((k, s) :: ts) = some ([[]], (k, s) :: ts)) := ⟨by unfold pOne; simp [e3]⟩
   rw [e3] at HL
   clear e3 e1 hT hE ht h
   go_enter Tryz.func86, Tryz.ntmps86
   go_wp2_with (first | ((with_reducible refine (HL.out).mono ?_); rintro e w1 ⟨rfl, hb⟩; have HX1 := Aside0.mk (HX.out.belowS hb); have HB1 := Aside0.mk hb; clear hb HL))
   go_ret2
   exact ValR.some' HR.out (Kb.of_below (below_step HB1.out (below_alloc (Below.refl _ _) _)) rb) HP.out (HX1.out.belowS (below_alloc (Below.refl _ _) _)) (lit1_R _ _ (below_size HB1.out) _ _ (below_size HB1.out))
 have f1 : ((vk k : Int) == 1) = false := by rw [beq_eq_false_iff_ne]; omega
 have f3 : ((vk k : Int) == 3) = false := by rw [beq_eq_false_iff_ne]; omega
 by_cases e8 : vk k = 8
 · have HR : Aside0 (pOne ((k, s) :: ts) = some ([s], ts)) := ⟨by unfold pOne; simp only; rw [if_neg (by omega), if_pos e8]⟩
   obtain ⟨k2, s2, ts2, hts, ht2⟩ := hE.more ht (by omega)
   have HN := Aside0.mk (fun (W : World) (h : EX W rb B T p) => nx_calls rb B p T ts k s (by omega) ht (by rw [hts]; simp) W h)
   have HD := Aside0.mk (drop_one ht)
   rw [e8] at HL HN
   clear f1 f3 e8 e1 e3 hT hE ht h hts ht2
   go_enter Tryz.func86, Tryz.ntmps86
   go_wp2_with (first | ((with_reducible refine (HL.out).mono ?_); rintro e w1 ⟨rfl, hb⟩; have HX1 := Aside0.mk (HX.out.belowS hb); have HB1 := Aside0.mk hb; clear hb HL) | ((with_reducible refine (HN.out _ HX1.out).mono ?_); rintro e w2 ⟨rfl, hp3, hk3⟩; have HX2 := Aside0.mk hp3; have HK2 := Aside0.mk ((Kb.of_below HB1.out rb).trans hk3); clear hp3 hk3 HN))
   go_ret2
   exact ValR.some' HR.out (HK2.out.trans (Kb.of_below (below_alloc (Below.refl _ _) _) rb)) HD.out (HX2.out.belowS (below_alloc (Below.refl _ _) _)) (lit1_R _ _ HK2.out.size _ _ HK2.out.size)
 have HR : Aside0 (pOne ((k, s) :: ts) = none) := ⟨by unfold pOne; simp only; rw [if_neg (by omega), if_neg e8]⟩
 have HN := Aside0.mk (fun (W : World) (h : EX W rb B T p) => nx0_calls rb B p T ts k s (by omega) ht W h)
 have f8 : ((vk k : Int) == 8) = false := by rw [beq_eq_false_iff_ne]; omega
 obtain ⟨kk, hkk⟩ : ∃ kk, vk k = kk := ⟨_, rfl⟩
 rw [hkk] at HL HN f1 f3 f8
 clear hkk e8 e1 e3 hT hE ht h
 go_enter Tryz.func86, Tryz.ntmps86
 go_wp2_with (first | ((with_reducible refine (HL.out).mono ?_); rintro e w1 ⟨rfl, hb⟩; have HX1 := Aside0.mk (HX.out.belowS hb); have HB1 := Aside0.mk hb; clear hb HL) | ((with_reducible refine (HN.out _ HX1.out).mono ?_); rintro e w2 ⟨rfl, hk3⟩; have HK2 := Aside0.mk ((Kb.of_below HB1.out rb).trans hk3); clear hk3 HN))
 go_ret2
 exact ValR.none' HR.out (HK2.out.trans (Kb.of_below (below_alloc (Below.refl _ _) _) rb))
set_option maxHeartbeats 16000000 in
theorem rvals_calls (rb B p : Nat) (T ts : List Tk) (k : Nat) (s : L) (hT : T.length ≤ 400) (hE : EndsT T) (ht : T.drop p = (k, s) :: ts) (op : ByteArray) (h1 : op = ⟨#[105, 110]⟩ ∨ op = ⟨#[110, 111, 116, 105, 110]⟩) (w : World) (hB : B ≤ w.heap.size) (h : EX w rb B T p) :
   Calls Tryz.prog 86 #[.pointer (some ⟨rb, 0, none⟩), .string op] w fun e w' => ValR (pVals (T.drop p)) w rb B T e w' := by
 have HX := Aside0.mk h
 have HLT := Aside0.mk (Nat.lt_of_lt_of_le h.1 hB)
 have HB0 := Aside0.mk hB
 have HO : (op.toList == ([105, 110] : List UInt8)) = true ∨ ((op.toList == ([105, 110] : List UInt8)) = false ∧ (op.toList == ([110, 111, 116, 105, 110] : List UInt8)) = true) := by
  rcases h1 with rfl | rfl
  · exact .inl (by rw [toList_eq]; rfl)
  · exact .inr ⟨by rw [toList_eq]; rfl, by rw [toList_eq]; rfl⟩
 clear h1
 rw [ht]
 by_cases hk : vk k = 13
 rotate_left
 · have HR : Aside0 (pVals ((k, s) :: ts) = none) := ⟨by unfold pVals; simp only; rw [if_neg hk]⟩
   have HN := Aside0.mk (fun (W : World) (h : EX W rb B T p) => nx0_calls rb B p T ts k s (by omega) ht W h)
   obtain ⟨kk, hkk⟩ : ∃ kk, vk k = kk := ⟨_, rfl⟩
   rw [hkk] at HN hk
   have f1 : ((kk : Int) != 13) = true := by rw [bne_iff_ne]; omega
   have f2 : ((kk : Int) == 13) = false := by rw [beq_eq_false_iff_ne]; omega
   clear hkk hk hT hE ht h
   go_enter Tryz.func86, Tryz.ntmps86
   go_upto_region 1 with (fail)
   go_cut [19] (fun v wx => v = .bool false ∧ w = wx)
   case first =>
    rcases HO with h1 | ⟨h1, h2⟩
    · go_wp2
      go_meet
      case rel => exact ⟨rfl, rfl⟩
    · go_wp2
      go_meet
      case rel => exact ⟨rfl, rfl⟩
   case rest =>
   obtain ⟨rfl, rfl⟩ := hcut
   clear HO
   go_wp2_with (first | ((with_reducible refine (HN.out _ HX.out).mono ?_); rintro e w2 ⟨rfl, hk3⟩; have HK2 := Aside0.mk hk3; clear hk3 HN))
   go_ret2
   exact ValR.none' HR.out HK2.out
 obtain ⟨k2, s2, ts2, hts, ht2⟩ := hE.more ht (by omega)
 have HN := Aside0.mk (fun (W : World) (h : EX W rb B T p) => nx_calls rb B p T ts k s (by omega) ht (by rw [hts]; simp) W h)
 have HL := Aside0.mk (fun (W : World) (h : EX W rb B T (p + 1)) => pk_calls rb B (p + 1) T ts2 k2 s2 (by omega) ht2 W h)
 rw [hk] at HN
 rw [hts]
 by_cases hc2 : vk k2 = 2
 · have HR : Aside0 (pVals ((k, s) :: (k2, s2) :: ts2) = some ([[]], ts2)) := ⟨by unfold pVals; simp only; rw [if_pos hk, if_neg (by omega), if_pos hc2]⟩
   obtain ⟨k3, s3, ts3, hts3, ht3⟩ := hE.more ht2 (by omega)
   have HN2 := Aside0.mk (fun (W : World) (h : EX W rb B T (p + 1)) => nx_calls rb B (p + 1) T ts2 k2 s2 (by omega) ht2 (by rw [hts3]; simp) W h)
   have HD := Aside0.mk (drop_one ht2)
   rw [hc2] at HL HN2
   clear hk hc2 hT hE ht h hts ht2 hts3 ht3
   go_enter Tryz.func86, Tryz.ntmps86
   go_upto_region 1 with (fail)
   go_cut [19] (fun v wx => v = .bool false ∧ w = wx)
   case first =>
    rcases HO with h1 | ⟨h1, h2⟩
    · go_wp2
      go_meet
      case rel => exact ⟨rfl, rfl⟩
    · go_wp2
      go_meet
      case rel => exact ⟨rfl, rfl⟩
   case rest =>
   obtain ⟨rfl, rfl⟩ := hcut
   clear HO
   go_wp2_with (first | ((with_reducible refine (HN.out _ HX.out).mono ?_); rintro e w2 ⟨rfl, hp3, hk3⟩; have HX2 := Aside0.mk hp3; have HK2 := Aside0.mk hk3; clear hp3 hk3 HN) | ((with_reducible refine (HL.out _ HX2.out).mono ?_); rintro e w3 ⟨rfl, hb⟩; have HX3 := Aside0.mk (HX2.out.belowS hb); have HK3 := Aside0.mk (HK2.out.trans (Kb.of_below hb rb)); clear hb HL) | ((with_reducible refine (HN2.out _ HX3.out).mono ?_); rintro e w4 ⟨rfl, hp3, hk3⟩; have HX4 := Aside0.mk hp3; have HK4 := Aside0.mk (HK3.out.trans hk3); clear hp3 hk3 HN2))
   go_ret2
   exact ValR.some' HR.out (HK4.out.trans (Kb.of_below (below_alloc (Below.refl _ _) _) rb)) HD.out (HX4.out.belowS (below_alloc (Below.refl _ _) _)) (lit1_R _ _ HK4.out.size _ _ HK4.out.size)
 have g2 : ((vk k2 : Int) == 2) = false := by rw [beq_eq_false_iff_ne]; omega
 by_cases hc8 : vk k2 = 8 ∨ vk k2 = 3
 rotate_left
 · have HR : Aside0 (pVals ((k, s) :: (k2, s2) :: ts2) = none) := ⟨by unfold pVals; simp only; rw [if_pos hk, if_neg hc8, if_neg hc2]⟩
   have g8 : ((vk k2 : Int) == 8) = false := by rw [beq_eq_false_iff_ne]; omega
   have g3 : ((vk k2 : Int) == 3) = false := by rw [beq_eq_false_iff_ne]; omega
   obtain ⟨kk, hkk⟩ : ∃ kk, vk k2 = kk := ⟨_, rfl⟩
   rw [hkk] at HL g2 g8 g3
   clear hkk hk hc2 hc8 hT hE ht h hts ht2
   go_enter Tryz.func86, Tryz.ntmps86
   go_upto_region 1 with (fail)
   go_cut [19] (fun v wx => v = .bool false ∧ w = wx)
   case first =>
    rcases HO with h1 | ⟨h1, h2⟩
    · go_wp2
      go_meet
      case rel => exact ⟨rfl, rfl⟩
    · go_wp2
      go_meet
      case rel => exact ⟨rfl, rfl⟩
   case rest =>
   obtain ⟨rfl, rfl⟩ := hcut
   clear HO
   go_wp2_with (first | ((with_reducible refine (HN.out _ HX.out).mono ?_); rintro e w2 ⟨rfl, hp3, hk3⟩; have HX2 := Aside0.mk hp3; have HK2 := Aside0.mk hk3; clear hp3 hk3 HN) | ((with_reducible refine (HL.out _ HX2.out).mono ?_); rintro e w3 ⟨rfl, hb⟩; have HX3 := Aside0.mk (HX2.out.belowS hb); have HK3 := Aside0.mk (HK2.out.trans (Kb.of_below hb rb)); clear hb HL))
   go_ret2
   exact ValR.none' HR.out HK3.out
 obtain ⟨R, hR⟩ : ∃ R, pVals ((k, s) :: (k2, s2) :: ts2) = R := ⟨_, rfl⟩
 rw [hR]
 rw [pVals_in hk hc8, ← ht2] at hR
 obtain ⟨n, hn⟩ : ∃ n, (T.drop (p + 1)).length = n := ⟨_, rfl⟩
 have hn9 : n ≤ 400 := by rw [← hn, List.length_drop]; omega
 rw [hn] at hR
 have HR := Aside0.mk hR
 have HNL := Aside0.mk hn
 have HT0 : Aside0 (T.drop (p + 1) ≠ []) := ⟨by rw [ht2]; simp⟩
 have HE := Aside0.mk hE
 have HK8 := Aside0.mk hc8
 clear hR hn hk hc2 h hts ht ht2 hE
 obtain ⟨kk, hkk⟩ : ∃ kk, vk k2 = kk := ⟨_, rfl⟩
 rw [hkk] at HL HK8 g2
 clear hkk hc8
 have HG : ((kk : Int) == 8) = true ∨ (((kk : Int) == 8) = false ∧ ((kk : Int) == 3) = true) := by
  rcases HK8.out with rfl | rfl
  · exact .inl rfl
  · exact .inr ⟨rfl, rfl⟩
 clear HK8
 go_enter Tryz.func86, Tryz.ntmps86
 go_upto_region 1 with (fail)
 go_cut [19] (fun v wx => v = .bool false ∧ w = wx)
 case first =>
  rcases HO with h1 | ⟨h1, h2⟩
  · go_wp2
    go_meet
    case rel => exact ⟨rfl, rfl⟩
  · go_wp2
    go_meet
    case rel => exact ⟨rfl, rfl⟩
 case rest =>
 obtain ⟨rfl, rfl⟩ := hcut
 clear HO
 go_upto_block 0 with (first | ((with_reducible refine (HN.out _ HX.out).mono ?_); rintro e w2 ⟨rfl, hp3, hk3⟩; have HX2 := Aside0.mk hp3; have HK2 := Aside0.mk hk3; clear hp3 hk3 HN) | ((with_reducible refine (HL.out _ HX2.out).mono ?_); rintro e w3 ⟨rfl, hb⟩; have HX3 := Aside0.mk (HX2.out.belowS hb); have HK3 := Aside0.mk (HK2.out.trans (Kb.of_below hb rb)); clear hb HL))
 go_cut [] (fun wx => w3 = wx)
 case first =>
  rcases HG with g8 | ⟨g8, g3⟩
  · go_wp2
    go_meet
    case rel => rfl
  · go_wp2
    go_meet
    case rel => rfl
 case rest =>
 obtain rfl := hcut
 clear HG
 go_wp2
 have HV3 := Aside0.mk (RV.mk (vo := .slice none 0 0) (out := []) HX3.out HK3.out (Kd.R_nil _ _ _ _ _))
 go_loopg [11] (n) (fun k vo w' => ∃ (q : Nat) (ks out : List L), Aside0 (fin (pIds k (T.drop q) ks) = R) ∧ Aside0 ((T.drop q).length ≤ k ∧ out.length + 2 * k ≤ 800 ∧ T.drop q ≠ []) ∧ Aside0 (∀ x, x ∈ ks ↔ x ∈ out) ∧ Aside0 (RV w w' rb B T q vo out))
 case atStart => exact ⟨p + 1, [], [], HR, ⟨by rw [HNL.out]; exact Nat.le_refl _, by simp; omega, HT0.out⟩, ⟨fun x => Iff.rfl⟩, HV3⟩
 case round =>
  obtain ⟨q, ks, out, HRQ, HQ, HM, HX⟩ := hrel
  clear HV3 HX2 HX3 HK2 HK3 HR HNL HT0
  obtain ⟨k1, s1, ts1, ht1⟩ : ∃ k1 s1 ts1, T.drop q = (k1, s1) :: ts1 := by
   cases e : T.drop q with
   | nil => exact absurd e HQ.out.2.2
   | cons t ts => exact ⟨t.1, t.2, ts, rfl⟩
  obtain ⟨m, rfl⟩ : ∃ m, gk = m + 1 := ⟨gk - 1, by have := HQ.out.1; rw [ht1] at this; simp at this; omega⟩
  have hlen : ts1.length ≤ m := by have := HQ.out.1; rw [ht1] at this; simpa using this
  have HNB : Aside0 (out.length + 2 * m ≤ 798) := ⟨by have := HQ.out.2.1; omega⟩
  have hrq := HRQ.out
  rw [ht1] at hrq
  unfold pIds at hrq
  clear HRQ HQ
  have HD := Aside0.mk (drop_one ht1)
  obtain ⟨AV, cV, eV⟩ := HX.out.slice
  obtain ⟨nV, hnV⟩ : ∃ nV, out.length = nV := ⟨_, rfl⟩
  rw [hnV] at eV
  subst eV
  by_cases h8 : vk k1 = 8
  · rw [if_pos h8] at hrq
    obtain ⟨k2, s2, ts2, hts, ht2⟩ := HE.out.more ht1 (by omega)
    rw [hts] at hrq
    simp only at hrq
    have HC := Aside0.mk (fun (W : World) (h : EX W rb B T q) => nx_calls rb B q T ts1 k1 s1 (by omega) ht1 (by rw [hts]; simp) W h)
    have HL := Aside0.mk (fun (W : World) (h : EX W rb B T (q + 1)) => pk_calls rb B (q + 1) T ts2 k2 s2 (by omega) ht2 W h)
    rw [h8] at HC
    have HM2 := Aside0.mk (mem_step HM.out s1)
    by_cases h3 : vk k2 = 3
    · rw [if_pos h3] at hrq
      rw [h3] at HL
      have HR : Aside0 (fin (pIds m (T.drop (q + 1)) (addK ks s1)) = R) := ⟨by rw [ht2]; exact hrq⟩
      have HLQ : Aside0 ((T.drop (q + 1)).length ≤ m ∧ T.drop (q + 1) ≠ []) := ⟨by rw [HD.out]; exact hlen, by rw [ht2]; simp⟩
      clear h8 h3 hrq hts ht2 ht1 hlen
      go_wp2_with (first | ((with_reducible refine (HC.out _ HX.out.ex).mono ?_); rintro e xa ⟨rfl, hp3, hk3⟩; have HXA := Aside0.mk (HX.out.move HLT.out hp3 hk3); clear hp3 hk3 HC) | ((with_reducible refine gate_builtin (b := .append) (xs := #[.tmp 63, .tmp 65]) rfl ?_); (try (refine gate_guard (by rfl) ?_; dsimp only)); at_builtin; refine Kd.R_append (Kd.string) (w0 := xa) (w.heap.size) rfl (.tmp 63) (.tmp 65) 51 9 (.string ⟨#[]⟩) 16 rfl Tryz.underlying51 infoS rfl (by decide) (by decide) (.slice AV nV cV) (out.map mk) (mk s1) [.string (mk s1)] (fun k => w.heap.size ≤ k) (fun _ => False) rfl (by first | rfl | (simp [Act.eval]; done)) ?aP (fun _ hk => hk.elim) ?aF ?aO ?aB ?aS ?aL ?_; (case aP => exact rfl); (case aF => exact (fun k hk => Nat.le_trans HXA.out.kb.size hk)); (case aO => exact HXA.out.rw_); (case aB => exact Below.refl _ _); (case aS => exact HXA.out.kb.size); (case aL => have := HNB.out; simp only [List.length_map, List.length_append, List.length_singleton, List.length_nil] at *; omega); intro vN wN ho hb hg hat; have HXB := Aside0.mk (HXA.out.app HB0.out (s := s1) rfl ho hb); clear ho hb hg hat; obtain ⟨AXB, cXB, eXB⟩ := HXB.out.slice; obtain ⟨nXB, hnXB⟩ : ∃ n, (out ++ [s1]).length = n := ⟨_, rfl⟩; rw [hnXB] at eXB; clear hnXB; subst eXB) | ((with_reducible refine (HL.out _ HXB.out.ex).mono ?_); rintro e xc ⟨rfl, hb⟩; have HXC := Aside0.mk (HXB.out.below hb); clear hb HL))
      go_roundg m
      case measure => omega
      case rel => exact ⟨q + 1, _, _, HR, ⟨HLQ.out.1, by have := HNB.out; simp; omega, HLQ.out.2⟩, HM2, HXC⟩
    rw [if_neg h3] at hrq
    by_cases h2 : vk k2 = 2
    · rw [if_pos h2] at hrq
      obtain ⟨k3, s3, ts3, hts3, ht3⟩ := HE.out.more ht2 (by omega)
      have HC2 := Aside0.mk (fun (W : World) (h : EX W rb B T (q + 1)) => nx_calls rb B (q + 1) T ts2 k2 s2 (by omega) ht2 (by rw [hts3]; simp) W h)
      have HD2 := Aside0.mk (drop_one ht2)
      rw [h2] at HL HC2
      have HR : Aside0 (R = some (addK ks s1, ts2)) := ⟨by rw [← hrq]; exact fin_some h2⟩
      clear h8 h3 h2 hrq hts ht2 ht1 hlen hts3 ht3
      go_wp2_with (first | ((with_reducible refine (HC.out _ HX.out.ex).mono ?_); rintro e xa ⟨rfl, hp3, hk3⟩; have HXA := Aside0.mk (HX.out.move HLT.out hp3 hk3); clear hp3 hk3 HC) | ((with_reducible refine gate_builtin (b := .append) (xs := #[.tmp 63, .tmp 65]) rfl ?_); (try (refine gate_guard (by rfl) ?_; dsimp only)); at_builtin; refine Kd.R_append (Kd.string) (w0 := xa) (w.heap.size) rfl (.tmp 63) (.tmp 65) 51 9 (.string ⟨#[]⟩) 16 rfl Tryz.underlying51 infoS rfl (by decide) (by decide) (.slice AV nV cV) (out.map mk) (mk s1) [.string (mk s1)] (fun k => w.heap.size ≤ k) (fun _ => False) rfl (by first | rfl | (simp [Act.eval]; done)) ?aP (fun _ hk => hk.elim) ?aF ?aO ?aB ?aS ?aL ?_; (case aP => exact rfl); (case aF => exact (fun k hk => Nat.le_trans HXA.out.kb.size hk)); (case aO => exact HXA.out.rw_); (case aB => exact Below.refl _ _); (case aS => exact HXA.out.kb.size); (case aL => have := HNB.out; simp only [List.length_map, List.length_append, List.length_singleton, List.length_nil] at *; omega); intro vN wN ho hb hg hat; have HXB := Aside0.mk (HXA.out.app HB0.out (s := s1) rfl ho hb); clear ho hb hg hat; obtain ⟨AXB, cXB, eXB⟩ := HXB.out.slice; obtain ⟨nXB, hnXB⟩ : ∃ n, (out ++ [s1]).length = n := ⟨_, rfl⟩; rw [hnXB] at eXB; clear hnXB; subst eXB) | ((with_reducible refine (HL.out _ HXB.out.ex).mono ?_); rintro e xc ⟨rfl, hb⟩; have HXC := Aside0.mk (HXB.out.below hb); clear hb HL) | ((with_reducible refine (HC2.out _ HXC.out.ex).mono ?_); rintro e xd ⟨rfl, hp3, hk3⟩; have HXD := Aside0.mk (HXC.out.move HLT.out hp3 hk3); clear hp3 hk3 HC2) | ((with_reducible refine (rset_calls (out ++ [s1]) (by have := HNB.out; simp; omega) HXD.out).mono ?_); rintro e w9 ⟨v9, rfl, hr9, hb9⟩; have HR9 := Aside0.mk hr9; have HB9 := Aside0.mk hb9; clear hr9 hb9))
      go_ret2
      exact ValR.end' HR.out HXD.out HD2.out HM2.out HR9.out HB9.out
    rw [if_neg h2] at hrq
    have HR : Aside0 (R = none) := ⟨hrq.symm⟩
    obtain ⟨kk, hkk⟩ : ∃ kk, vk k2 = kk := ⟨_, rfl⟩
    rw [hkk] at HL h2 h3
    have f2 : ((kk : Int) == 2) = false := by rw [beq_eq_false_iff_ne]; omega
    have f3 : ((kk : Int) == 3) = false := by rw [beq_eq_false_iff_ne]; omega
    clear hkk h8 h3 h2 hrq hts ht2 ht1 hlen
    go_wp2_with (first | ((with_reducible refine (HC.out _ HX.out.ex).mono ?_); rintro e xa ⟨rfl, hp3, hk3⟩; have HXA := Aside0.mk (HX.out.move HLT.out hp3 hk3); clear hp3 hk3 HC) | ((with_reducible refine gate_builtin (b := .append) (xs := #[.tmp 63, .tmp 65]) rfl ?_); (try (refine gate_guard (by rfl) ?_; dsimp only)); at_builtin; refine Kd.R_append (Kd.string) (w0 := xa) (w.heap.size) rfl (.tmp 63) (.tmp 65) 51 9 (.string ⟨#[]⟩) 16 rfl Tryz.underlying51 infoS rfl (by decide) (by decide) (.slice AV nV cV) (out.map mk) (mk s1) [.string (mk s1)] (fun k => w.heap.size ≤ k) (fun _ => False) rfl (by first | rfl | (simp [Act.eval]; done)) ?aP (fun _ hk => hk.elim) ?aF ?aO ?aB ?aS ?aL ?_; (case aP => exact rfl); (case aF => exact (fun k hk => Nat.le_trans HXA.out.kb.size hk)); (case aO => exact HXA.out.rw_); (case aB => exact Below.refl _ _); (case aS => exact HXA.out.kb.size); (case aL => have := HNB.out; simp only [List.length_map, List.length_append, List.length_singleton, List.length_nil] at *; omega); intro vN wN ho hb hg hat; have HXB := Aside0.mk (HXA.out.app HB0.out (s := s1) rfl ho hb); clear ho hb hg hat; obtain ⟨AXB, cXB, eXB⟩ := HXB.out.slice; obtain ⟨nXB, hnXB⟩ : ∃ n, (out ++ [s1]).length = n := ⟨_, rfl⟩; rw [hnXB] at eXB; clear hnXB; subst eXB) | ((with_reducible refine (HL.out _ HXB.out.ex).mono ?_); rintro e xc ⟨rfl, hb⟩; have HXC := Aside0.mk (HXB.out.below hb); clear hb HL))
    go_ret2
    exact ValR.none' HR.out HXC.out.kb
  rw [if_neg h8] at hrq
  by_cases hc : vk k1 = 3
  rotate_left
  · rw [if_neg hc] at hrq
    have HR : Aside0 (R = none) := ⟨hrq.symm⟩
    have HC := Aside0.mk (fun (W : World) (h : EX W rb B T q) => nx0_calls rb B q T ts1 k1 s1 (by omega) ht1 W h)
    obtain ⟨kk, hkk⟩ : ∃ kk, vk k1 = kk := ⟨_, rfl⟩
    rw [hkk] at HC h8 hc
    have f8 : ((kk : Int) == 8) = false := by rw [beq_eq_false_iff_ne]; omega
    have f3 : ((kk : Int) == 3) = false := by rw [beq_eq_false_iff_ne]; omega
    clear hkk h8 hc hrq ht1 hlen
    go_wp2_with (first | ((with_reducible refine (HC.out _ HX.out.ex).mono ?_); rintro e xa ⟨rfl, hk3⟩; have HKXA := Aside0.mk (HX.out.kb.trans hk3); clear hk3 HC))
    go_ret2
    exact ValR.none' HR.out HKXA.out
  rw [if_pos hc] at hrq
  obtain ⟨k2, s2, ts2, hts, ht2⟩ := HE.out.more ht1 (by omega)
  rw [hts] at hrq
  simp only at hrq
  have HC := Aside0.mk (fun (W : World) (h : EX W rb B T q) => nx_calls rb B q T ts1 k1 s1 (by omega) ht1 (by rw [hts]; simp) W h)
  rw [hc] at HC
  have HL := Aside0.mk (fun (W : World) (h : EX W rb B T (q + 1)) => pk_calls rb B (q + 1) T ts2 k2 s2 (by omega) ht2 W h)
  by_cases hks : ks = []
  · subst hks
    rw [if_pos rfl] at hrq
    have hout : out = [] := List.eq_nil_iff_forall_not_mem.2 (fun x hx => by have := (HM.out x).2 hx; simp at this)
    subst hout
    have f0 : ((nV : Int) == 0) = true := by rw [← hnV]; rfl
    have HM2 := Aside0.mk (mem_step HM.out [])
    rw [show ([[]] : List L) = (addK [] []) from rfl] at hrq
    clear hnV
    by_cases h2 : vk k2 = 2
    · rw [if_pos h2] at hrq
      obtain ⟨k3, s3, ts3, hts3, ht3⟩ := HE.out.more ht2 (by omega)
      have HC2 := Aside0.mk (fun (W : World) (h : EX W rb B T (q + 1)) => nx_calls rb B (q + 1) T ts2 k2 s2 (by omega) ht2 (by rw [hts3]; simp) W h)
      have HD2 := Aside0.mk (drop_one ht2)
      rw [h2] at HL HC2
      have HR : Aside0 (R = some (addK (addK [] []) [], ts2)) := ⟨by rw [← hrq]; exact fin_some h2⟩
      have HM3 := Aside0.mk (mem_step HM2.out [])
      clear h8 hc h2 hrq hts ht2 ht1 hlen hts3 ht3
      go_wp2_with (first | ((with_reducible refine (HC.out _ HX.out.ex).mono ?_); rintro e xa ⟨rfl, hp3, hk3⟩; have HXA := Aside0.mk (HX.out.move HLT.out hp3 hk3); clear hp3 hk3 HC) | ((with_reducible refine gate_builtin (b := .append) (xs := #[.tmp 82, .tmp 83]) rfl ?_); (try (refine gate_guard (by rfl) ?_; dsimp only)); at_builtin; refine Kd.R_append (Kd.string) (w0 := xa) (w.heap.size) rfl (.tmp 82) (.tmp 83) 51 9 (.string ⟨#[]⟩) 16 rfl Tryz.underlying51 infoS rfl (by decide) (by decide) (.slice AV nV cV) (([] : List L).map mk) (⟨#[]⟩) [.string (⟨#[]⟩)] (fun k => w.heap.size ≤ k) (fun _ => False) rfl (by first | rfl | (simp [Act.eval]; done)) ?aP (fun _ hk => hk.elim) ?aF ?aO ?aB ?aS ?aL ?_; (case aP => exact rfl); (case aF => exact (fun k hk => Nat.le_trans HXA.out.kb.size hk)); (case aO => exact HXA.out.rw_); (case aB => exact Below.refl _ _); (case aS => exact HXA.out.kb.size); (case aL => have := HNB.out; simp only [List.length_map, List.length_append, List.length_singleton, List.length_nil] at *; omega); intro vN wN ho hb hg hat; have HXB := Aside0.mk (HXA.out.app HB0.out (s := []) rfl ho hb); clear ho hb hg hat; obtain ⟨AXB, cXB, eXB⟩ := HXB.out.slice; obtain ⟨nXB, hnXB⟩ : ∃ n, (([] : List L) ++ [[]]).length = n := ⟨_, rfl⟩; rw [hnXB] at eXB; clear hnXB; subst eXB) | ((with_reducible refine (HL.out _ HXB.out.ex).mono ?_); rintro e xc ⟨rfl, hb⟩; have HXC := Aside0.mk (HXB.out.below hb); clear hb HL) | ((with_reducible refine (HC2.out _ HXC.out.ex).mono ?_); rintro e xd ⟨rfl, hp3, hk3⟩; have HXD := Aside0.mk (HXC.out.move HLT.out hp3 hk3); clear hp3 hk3 HC2) | ((with_reducible refine gate_builtin (b := .append) (xs := #[.tmp 91, .tmp 92]) rfl ?_); (try (refine gate_guard (by rfl) ?_; dsimp only)); at_builtin; refine Kd.R_append (Kd.string) (w0 := xd) (w.heap.size) rfl (.tmp 91) (.tmp 92) 51 9 (.string ⟨#[]⟩) 16 rfl Tryz.underlying51 infoS rfl (by decide) (by decide) (.slice AXB nXB cXB) ((([] : List L) ++ [([] : L)]).map mk) (⟨#[]⟩) [.string (⟨#[]⟩)] (fun k => w.heap.size ≤ k) (fun _ => False) rfl (by first | rfl | (simp [Act.eval]; done)) ?aP (fun _ hk => hk.elim) ?aF ?aO ?aB ?aS ?aL ?_; (case aP => exact rfl); (case aF => exact (fun k hk => Nat.le_trans HXD.out.kb.size hk)); (case aO => exact HXD.out.rw_); (case aB => exact Below.refl _ _); (case aS => exact HXD.out.kb.size); (case aL => have := HNB.out; simp only [List.length_map, List.length_append, List.length_singleton, List.length_nil] at *; omega); intro vN wN ho hb hg hat; have HXE := Aside0.mk (HXD.out.app HB0.out (s := []) rfl ho hb); clear ho hb hg hat; obtain ⟨AXE, cXE, eXE⟩ := HXE.out.slice; obtain ⟨nXE, hnXE⟩ : ∃ n, ((([] : List L) ++ [([] : L)]) ++ [[]]).length = n := ⟨_, rfl⟩; rw [hnXE] at eXE; clear hnXE; subst eXE) | ((with_reducible refine (rset_calls ((([] : List L) ++ [([] : L)]) ++ [[]]) (by have := HNB.out; simp only [List.length_append, List.length_singleton, List.length_nil] at *; omega) HXE.out).mono ?_); rintro e w9 ⟨v9, rfl, hr9, hb9⟩; have HR9 := Aside0.mk hr9; have HB9 := Aside0.mk hb9; clear hr9 hb9))
      go_ret2
      exact ValR.end' HR.out HXE.out HD2.out HM3.out HR9.out HB9.out
    rw [if_neg h2] at hrq
    by_cases h3 : vk k2 = 3
    · rw [if_pos h3] at hrq
      obtain ⟨k3, s3, ts3, hts3, ht3⟩ := HE.out.more ht2 (by omega)
      have HC2 := Aside0.mk (fun (W : World) (h : EX W rb B T (q + 1)) => nx_calls rb B (q + 1) T ts2 k2 s2 (by omega) ht2 (by rw [hts3]; simp) W h)
      have HD2 := Aside0.mk (drop_one ht2)
      rw [h3] at HL HC2
      have HR : Aside0 (fin (pIds m (T.drop (q + 1 + 1)) (addK (addK [] []) [])) = R) := ⟨by rw [HD2.out]; exact hrq⟩
      have HLQ : Aside0 ((T.drop (q + 1 + 1)).length ≤ m ∧ T.drop (q + 1 + 1) ≠ []) := ⟨by rw [HD2.out]; rw [hts] at hlen; simp at hlen; omega, by rw [ht3]; simp⟩
      have HM3 := Aside0.mk (mem_step HM2.out [])
      clear h8 hc h2 h3 hrq hts hts3 ht2 ht1 ht3 hlen
      go_wp2_with (first | ((with_reducible refine (HC.out _ HX.out.ex).mono ?_); rintro e xa ⟨rfl, hp3, hk3⟩; have HXA := Aside0.mk (HX.out.move HLT.out hp3 hk3); clear hp3 hk3 HC) | ((with_reducible refine gate_builtin (b := .append) (xs := #[.tmp 82, .tmp 83]) rfl ?_); (try (refine gate_guard (by rfl) ?_; dsimp only)); at_builtin; refine Kd.R_append (Kd.string) (w0 := xa) (w.heap.size) rfl (.tmp 82) (.tmp 83) 51 9 (.string ⟨#[]⟩) 16 rfl Tryz.underlying51 infoS rfl (by decide) (by decide) (.slice AV nV cV) (([] : List L).map mk) (⟨#[]⟩) [.string (⟨#[]⟩)] (fun k => w.heap.size ≤ k) (fun _ => False) rfl (by first | rfl | (simp [Act.eval]; done)) ?aP (fun _ hk => hk.elim) ?aF ?aO ?aB ?aS ?aL ?_; (case aP => exact rfl); (case aF => exact (fun k hk => Nat.le_trans HXA.out.kb.size hk)); (case aO => exact HXA.out.rw_); (case aB => exact Below.refl _ _); (case aS => exact HXA.out.kb.size); (case aL => have := HNB.out; simp only [List.length_map, List.length_append, List.length_singleton, List.length_nil] at *; omega); intro vN wN ho hb hg hat; have HXB := Aside0.mk (HXA.out.app HB0.out (s := []) rfl ho hb); clear ho hb hg hat; obtain ⟨AXB, cXB, eXB⟩ := HXB.out.slice; obtain ⟨nXB, hnXB⟩ : ∃ n, (([] : List L) ++ [[]]).length = n := ⟨_, rfl⟩; rw [hnXB] at eXB; clear hnXB; subst eXB) | ((with_reducible refine (HL.out _ HXB.out.ex).mono ?_); rintro e xc ⟨rfl, hb⟩; have HXC := Aside0.mk (HXB.out.below hb); clear hb HL) | ((with_reducible refine (HC2.out _ HXC.out.ex).mono ?_); rintro e xd ⟨rfl, hp3, hk3⟩; have HXD := Aside0.mk (HXC.out.move HLT.out hp3 hk3); clear hp3 hk3 HC2) | ((with_reducible refine gate_builtin (b := .append) (xs := #[.tmp 99, .tmp 100]) rfl ?_); (try (refine gate_guard (by rfl) ?_; dsimp only)); at_builtin; refine Kd.R_append (Kd.string) (w0 := xd) (w.heap.size) rfl (.tmp 99) (.tmp 100) 51 9 (.string ⟨#[]⟩) 16 rfl Tryz.underlying51 infoS rfl (by decide) (by decide) (.slice AXB nXB cXB) ((([] : List L) ++ [([] : L)]).map mk) (⟨#[]⟩) [.string (⟨#[]⟩)] (fun k => w.heap.size ≤ k) (fun _ => False) rfl (by first | rfl | (simp [Act.eval]; done)) ?aP (fun _ hk => hk.elim) ?aF ?aO ?aB ?aS ?aL ?_; (case aP => exact rfl); (case aF => exact (fun k hk => Nat.le_trans HXD.out.kb.size hk)); (case aO => exact HXD.out.rw_); (case aB => exact Below.refl _ _); (case aS => exact HXD.out.kb.size); (case aL => have := HNB.out; simp only [List.length_map, List.length_append, List.length_singleton, List.length_nil] at *; omega); intro vN wN ho hb hg hat; have HXE := Aside0.mk (HXD.out.app HB0.out (s := []) rfl ho hb); clear ho hb hg hat; obtain ⟨AXE, cXE, eXE⟩ := HXE.out.slice; obtain ⟨nXE, hnXE⟩ : ∃ n, ((([] : List L) ++ [([] : L)]) ++ [[]]).length = n := ⟨_, rfl⟩; rw [hnXE] at eXE; clear hnXE; subst eXE))
      go_roundg m
      case measure => omega
      case rel => exact ⟨q + 1 + 1, _, _, HR, ⟨HLQ.out.1, by have := HNB.out; simp at *; omega, HLQ.out.2⟩, HM3, HXE⟩
    rw [if_neg h3] at hrq
    have HR : Aside0 (fin (pIds m (T.drop (q + 1)) (addK [] [])) = R) := ⟨by rw [ht2]; exact hrq⟩
    have HLQ : Aside0 ((T.drop (q + 1)).length ≤ m ∧ T.drop (q + 1) ≠ []) := ⟨by rw [HD.out]; exact hlen, by rw [ht2]; simp⟩
    obtain ⟨kk, hkk⟩ : ∃ kk, vk k2 = kk := ⟨_, rfl⟩
    rw [hkk] at HL h2 h3
    have f2 : ((kk : Int) == 2) = false := by rw [beq_eq_false_iff_ne]; omega
    have f3 : ((kk : Int) == 3) = false := by rw [beq_eq_false_iff_ne]; omega
    clear hkk h8 hc h3 h2 hrq hts ht2 ht1 hlen
    go_wp2_with (first | ((with_reducible refine (HC.out _ HX.out.ex).mono ?_); rintro e xa ⟨rfl, hp3, hk3⟩; have HXA := Aside0.mk (HX.out.move HLT.out hp3 hk3); clear hp3 hk3 HC) | ((with_reducible refine gate_builtin (b := .append) (xs := #[.tmp 82, .tmp 83]) rfl ?_); (try (refine gate_guard (by rfl) ?_; dsimp only)); at_builtin; refine Kd.R_append (Kd.string) (w0 := xa) (w.heap.size) rfl (.tmp 82) (.tmp 83) 51 9 (.string ⟨#[]⟩) 16 rfl Tryz.underlying51 infoS rfl (by decide) (by decide) (.slice AV nV cV) (([] : List L).map mk) (⟨#[]⟩) [.string (⟨#[]⟩)] (fun k => w.heap.size ≤ k) (fun _ => False) rfl (by first | rfl | (simp [Act.eval]; done)) ?aP (fun _ hk => hk.elim) ?aF ?aO ?aB ?aS ?aL ?_; (case aP => exact rfl); (case aF => exact (fun k hk => Nat.le_trans HXA.out.kb.size hk)); (case aO => exact HXA.out.rw_); (case aB => exact Below.refl _ _); (case aS => exact HXA.out.kb.size); (case aL => have := HNB.out; simp only [List.length_map, List.length_append, List.length_singleton, List.length_nil] at *; omega); intro vN wN ho hb hg hat; have HXB := Aside0.mk (HXA.out.app HB0.out (s := []) rfl ho hb); clear ho hb hg hat; obtain ⟨AXB, cXB, eXB⟩ := HXB.out.slice; obtain ⟨nXB, hnXB⟩ : ∃ n, (([] : List L) ++ [[]]).length = n := ⟨_, rfl⟩; rw [hnXB] at eXB; clear hnXB; subst eXB) | ((with_reducible refine (HL.out _ HXB.out.ex).mono ?_); rintro e xc ⟨rfl, hb⟩; have HXC := Aside0.mk (HXB.out.below hb); clear hb HL))
    go_roundg m
    case measure => omega
    case rel => exact ⟨q + 1, _, _, HR, ⟨HLQ.out.1, by have := HNB.out; simp at *; omega, HLQ.out.2⟩, HM2, HXC⟩
  rw [if_neg hks] at hrq
  have f0 : ((nV : Int) == 0) = false := by
   rw [beq_eq_false_iff_ne]; intro e; apply hks; refine List.eq_nil_iff_forall_not_mem.2 (fun x hx => ?_)
   have h1 := (HM.out x).1 hx
   rw [List.eq_nil_of_length_eq_zero (l := out) (by omega)] at h1
   simp at h1
  clear hks hnV
  have HM2 := HM
  by_cases h2 : vk k2 = 2
  · rw [if_pos h2] at hrq
    obtain ⟨k3, s3, ts3, hts3, ht3⟩ := HE.out.more ht2 (by omega)
    have HC2 := Aside0.mk (fun (W : World) (h : EX W rb B T (q + 1)) => nx_calls rb B (q + 1) T ts2 k2 s2 (by omega) ht2 (by rw [hts3]; simp) W h)
    have HD2 := Aside0.mk (drop_one ht2)
    rw [h2] at HL HC2
    have HR : Aside0 (R = some (addK ks [], ts2)) := ⟨by rw [← hrq]; exact fin_some h2⟩
    have HM3 := Aside0.mk (mem_step HM2.out [])
    clear h8 hc h2 hrq hts ht2 ht1 hlen hts3 ht3
    go_wp2_with (first | ((with_reducible refine (HC.out _ HX.out.ex).mono ?_); rintro e xa ⟨rfl, hp3, hk3⟩; have HXA := Aside0.mk (HX.out.move HLT.out hp3 hk3); clear hp3 hk3 HC) | ((with_reducible refine (HL.out _ HXA.out.ex).mono ?_); rintro e xc ⟨rfl, hb⟩; have HXC := Aside0.mk (HXA.out.below hb); clear hb HL) | ((with_reducible refine (HC2.out _ HXC.out.ex).mono ?_); rintro e xd ⟨rfl, hp3, hk3⟩; have HXD := Aside0.mk (HXC.out.move HLT.out hp3 hk3); clear hp3 hk3 HC2) | ((with_reducible refine gate_builtin (b := .append) (xs := #[.tmp 91, .tmp 92]) rfl ?_); (try (refine gate_guard (by rfl) ?_; dsimp only)); at_builtin; refine Kd.R_append (Kd.string) (w0 := xd) (w.heap.size) rfl (.tmp 91) (.tmp 92) 51 9 (.string ⟨#[]⟩) 16 rfl Tryz.underlying51 infoS rfl (by decide) (by decide) (.slice AV nV cV) (out.map mk) (⟨#[]⟩) [.string (⟨#[]⟩)] (fun k => w.heap.size ≤ k) (fun _ => False) rfl (by first | rfl | (simp [Act.eval]; done)) ?aP (fun _ hk => hk.elim) ?aF ?aO ?aB ?aS ?aL ?_; (case aP => exact rfl); (case aF => exact (fun k hk => Nat.le_trans HXD.out.kb.size hk)); (case aO => exact HXD.out.rw_); (case aB => exact Below.refl _ _); (case aS => exact HXD.out.kb.size); (case aL => have := HNB.out; simp only [List.length_map, List.length_append, List.length_singleton, List.length_nil] at *; omega); intro vN wN ho hb hg hat; have HXE := Aside0.mk (HXD.out.app HB0.out (s := []) rfl ho hb); clear ho hb hg hat; obtain ⟨AXE, cXE, eXE⟩ := HXE.out.slice; obtain ⟨nXE, hnXE⟩ : ∃ n, (out ++ [[]]).length = n := ⟨_, rfl⟩; rw [hnXE] at eXE; clear hnXE; subst eXE) | ((with_reducible refine (rset_calls (out ++ [[]]) (by have := HNB.out; simp only [List.length_append, List.length_singleton, List.length_nil] at *; omega) HXE.out).mono ?_); rintro e w9 ⟨v9, rfl, hr9, hb9⟩; have HR9 := Aside0.mk hr9; have HB9 := Aside0.mk hb9; clear hr9 hb9))
    go_ret2
    exact ValR.end' HR.out HXE.out HD2.out HM3.out HR9.out HB9.out
  rw [if_neg h2] at hrq
  by_cases h3 : vk k2 = 3
  · rw [if_pos h3] at hrq
    obtain ⟨k3, s3, ts3, hts3, ht3⟩ := HE.out.more ht2 (by omega)
    have HC2 := Aside0.mk (fun (W : World) (h : EX W rb B T (q + 1)) => nx_calls rb B (q + 1) T ts2 k2 s2 (by omega) ht2 (by rw [hts3]; simp) W h)
    have HD2 := Aside0.mk (drop_one ht2)
    rw [h3] at HL HC2
    have HR : Aside0 (fin (pIds m (T.drop (q + 1 + 1)) (addK ks [])) = R) := ⟨by rw [HD2.out]; exact hrq⟩
    have HLQ : Aside0 ((T.drop (q + 1 + 1)).length ≤ m ∧ T.drop (q + 1 + 1) ≠ []) := ⟨by rw [HD2.out]; rw [hts] at hlen; simp at hlen; omega, by rw [ht3]; simp⟩
    have HM3 := Aside0.mk (mem_step HM2.out [])
    clear h8 hc h2 h3 hrq hts hts3 ht2 ht1 ht3 hlen
    go_wp2_with (first | ((with_reducible refine (HC.out _ HX.out.ex).mono ?_); rintro e xa ⟨rfl, hp3, hk3⟩; have HXA := Aside0.mk (HX.out.move HLT.out hp3 hk3); clear hp3 hk3 HC) | ((with_reducible refine (HL.out _ HXA.out.ex).mono ?_); rintro e xc ⟨rfl, hb⟩; have HXC := Aside0.mk (HXA.out.below hb); clear hb HL) | ((with_reducible refine (HC2.out _ HXC.out.ex).mono ?_); rintro e xd ⟨rfl, hp3, hk3⟩; have HXD := Aside0.mk (HXC.out.move HLT.out hp3 hk3); clear hp3 hk3 HC2) | ((with_reducible refine gate_builtin (b := .append) (xs := #[.tmp 99, .tmp 100]) rfl ?_); (try (refine gate_guard (by rfl) ?_; dsimp only)); at_builtin; refine Kd.R_append (Kd.string) (w0 := xd) (w.heap.size) rfl (.tmp 99) (.tmp 100) 51 9 (.string ⟨#[]⟩) 16 rfl Tryz.underlying51 infoS rfl (by decide) (by decide) (.slice AV nV cV) (out.map mk) (⟨#[]⟩) [.string (⟨#[]⟩)] (fun k => w.heap.size ≤ k) (fun _ => False) rfl (by first | rfl | (simp [Act.eval]; done)) ?aP (fun _ hk => hk.elim) ?aF ?aO ?aB ?aS ?aL ?_; (case aP => exact rfl); (case aF => exact (fun k hk => Nat.le_trans HXD.out.kb.size hk)); (case aO => exact HXD.out.rw_); (case aB => exact Below.refl _ _); (case aS => exact HXD.out.kb.size); (case aL => have := HNB.out; simp only [List.length_map, List.length_append, List.length_singleton, List.length_nil] at *; omega); intro vN wN ho hb hg hat; have HXE := Aside0.mk (HXD.out.app HB0.out (s := []) rfl ho hb); clear ho hb hg hat; obtain ⟨AXE, cXE, eXE⟩ := HXE.out.slice; obtain ⟨nXE, hnXE⟩ : ∃ n, (out ++ [[]]).length = n := ⟨_, rfl⟩; rw [hnXE] at eXE; clear hnXE; subst eXE))
    go_roundg m
    case measure => omega
    case rel => exact ⟨q + 1 + 1, _, _, HR, ⟨HLQ.out.1, by have := HNB.out; simp at *; omega, HLQ.out.2⟩, HM3, HXE⟩
  rw [if_neg h3] at hrq
  have HR : Aside0 (fin (pIds m (T.drop (q + 1)) ks) = R) := ⟨by rw [ht2]; exact hrq⟩
  have HLQ : Aside0 ((T.drop (q + 1)).length ≤ m ∧ T.drop (q + 1) ≠ []) := ⟨by rw [HD.out]; exact hlen, by rw [ht2]; simp⟩
  obtain ⟨kk, hkk⟩ : ∃ kk, vk k2 = kk := ⟨_, rfl⟩
  rw [hkk] at HL h2 h3
  have f2 : ((kk : Int) == 2) = false := by rw [beq_eq_false_iff_ne]; omega
  have f3 : ((kk : Int) == 3) = false := by rw [beq_eq_false_iff_ne]; omega
  clear hkk h8 hc h3 h2 hrq hts ht2 ht1 hlen
  go_wp2_with (first | ((with_reducible refine (HC.out _ HX.out.ex).mono ?_); rintro e xa ⟨rfl, hp3, hk3⟩; have HXA := Aside0.mk (HX.out.move HLT.out hp3 hk3); clear hp3 hk3 HC) | ((with_reducible refine (HL.out _ HXA.out.ex).mono ?_); rintro e xc ⟨rfl, hb⟩; have HXC := Aside0.mk (HXA.out.below hb); clear hb HL))
  go_roundg m
  case measure => omega
  case rel => exact ⟨q + 1, _, _, HR, ⟨HLQ.out.1, by have := HNB.out; simp at *; omega, HLQ.out.2⟩, HM2, HXC⟩
end Go.Proofs.YthfjolafikgpoaaGreatDoor.Hand

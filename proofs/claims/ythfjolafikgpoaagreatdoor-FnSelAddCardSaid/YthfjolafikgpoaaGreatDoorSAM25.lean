/- Arguments that are requirements, bytes, texts: opened to what the walks ask for. -/
import Derived.Test.YthfjolafikgpoaaGreatDoorSAM10
import Derived.Test.YthfjolafikgpoaaGreatDoorSAM18
import Derived.Test.YthfjolafikgpoaaGreatDoorSASpWords
import Derived.Test.YthfjolafikgpoaaGreatDoorSAGLabB
import Derived.RegionTactic
import Derived.Deep.RegionLaw
import Derived.Deep.RegionWith
import Derived.Deep.RegionHeldLaw
import Derived.Test.YthfjolafikgpoaaGreatDoorSALabNew
import Derived.Test.YthfjolafikgpoaaGreatDoorSAM4
set_option maxRecDepth 100000
namespace Go.Proofs.YthfjolafikgpoaaGreatDoor.Laid
open Go.Joins Go.ChangeShapes Go.WideShapes Go.RowKit Go.Deep Go.ChangeAt Go.Proofs.YthfjolafikgpoaaGreatDoorW.PrintWords Go.Proofs.YthfjolafikgpoaaGreatDoor.Hand Go.Proofs.YthfjolafikgpoaaGreatDoor.Base
section
variable {H : Type} {enc : TypeId × Value → H} {W : World}
theorem open_reqs {v : Value} {d : DataW H} {p : List MemPlace} (h : DataW.Trod enc Tryz.prog W 0 (fun _ => true) true 22 v d p) (hs : ∃ b len cap, v = .slice b len cap) :
   ∃ (A : Option Addr) (c n : Nat) (l : List Rq), v = .slice A n c ∧ l.length = n ∧ n ≤ c ∧ c ≤ 9223372036854775807 ∧ KQ.C W A n (rqV l) := by
 obtain ⟨b, len, cap, rfl⟩ := hs
 obtain ⟨fuel, hf⟩ := h
 have hf' : DataW.trod enc Tryz.prog W 0 (fun _ => true) true fuel 22 [.slice b len cap] = some (d, p) := by simpa [Value.cells] using hf
 rcases open_slice_fields (e := 53) Tryz.underlying22 Tryz.underlying53 (by kernel_rfl) (by kernel_rfl) hf' with ⟨hcs, _⟩ | ⟨a, len', cap', m, D, Pl, hcs, _, hl, hm, hmm, _, hi⟩
 · simp only [List.cons.injEq, Value.slice.injEq, and_true] at hcs
   obtain ⟨rfl, rfl, rfl⟩ := hcs
   exact ⟨none, 0, 0, [], rfl, rfl, Nat.le_refl _, by decide, ⟨rfl, by decide, fun h => absurd h (Nat.lt_irrefl 0)⟩⟩
 · simp only [List.cons.injEq, Value.slice.injEq, and_true] at hcs
   obtain ⟨rfl, rfl, rfl⟩ := hcs
   simp only [if_true] at hmm
   unfold maxLen at hm
   have each : ∀ i, i < len → ∃ (q : ByteArray × ByteArray × List ByteArray) (B : Option Addr) (cc : Nat), W.cell? (a.add (i * 3)) = some (.string q.1) ∧ W.cell? (a.add (i * 3 + 1)) = some (.string q.2.1) ∧ W.cell? (a.add (i * 3 + 2)) = some (.slice B q.2.2.length cc) ∧ q.2.2.length ≤ cc ∧ Kd.C Kd.string W B q.2.2.length q.2.2 := by
    intro i him
    obtain ⟨ys, n, _, _, _, hfe⟩ := hi i (by omega)
    obtain ⟨v0, y0, hc0, _, h0⟩ := hfe 0 _ rfl
    obtain ⟨v1, y1, hc1, _, h1⟩ := hfe 1 _ rfl
    obtain ⟨v2, y2, hc2, _, h2⟩ := hfe 2 _ rfl
    obtain ⟨x, e0, _, _⟩ := DataW.trod_string Tryz.underlying9 h0
    obtain ⟨y, e1, _, _⟩ := DataW.trod_string Tryz.underlying9 h1
    obtain ⟨B, cc, n2, vs, e2, hl2, hcc, hC⟩ := c_of_strings h2
    simp only [List.cons.injEq, and_true] at e0 e1 e2
    subst e0 e1 e2
    subst hl2
    exact ⟨(x, y, vs), B, cc, hc0, hc1, hc2, hcc, hC⟩
   have ex : ∃ ls : List (ByteArray × ByteArray × List ByteArray), ls.length = len ∧ ∀ (j : Nat) q, ls[j]? = some q → ∃ (B : Option Addr) (cc : Nat), W.cell? (a.add (j * 3)) = some (.string q.1) ∧ W.cell? (a.add (j * 3 + 1)) = some (.string q.2.1) ∧ W.cell? (a.add (j * 3 + 2)) = some (.slice B q.2.2.length cc) ∧ q.2.2.length ≤ cc ∧ Kd.C Kd.string W B q.2.2.length q.2.2 := by
    refine ⟨List.ofFn (n := len) (fun i => (each i.1 i.2).choose), by simp, fun j q hq => ?_⟩
    obtain ⟨hj, e⟩ := List.getElem?_eq_some_iff.1 hq
    have hjl : j < len := by simpa using hj
    rw [List.getElem_ofFn] at e
    rw [← e]
    exact (each j hjl).choose_spec
   obtain ⟨ls, hlen, hls⟩ := ex
   have hrq : rqV (ls.map fun q => (q.1.data.toList, q.2.1.data.toList, vL q.2.2)) = ls := by
    unfold rqV
    rw [List.map_map]
    refine (List.map_congr_left (g := id) fun q _ => ?_).trans (List.map_id ls)
    show (mk q.1.data.toList, mk q.2.1.data.toList, (vL q.2.2).map mk) = q
    rw [mk_vL]; rfl
   refine ⟨some a, cap, len, ls.map fun q => (q.1.data.toList, q.2.1.data.toList, vL q.2.2), rfl, by rw [List.length_map, hlen], hl, by omega, ?_⟩
   rw [hrq]
   refine ⟨hlen, by omega, fun _ => ⟨a, rfl, fun j q hq => ?_⟩⟩
   obtain ⟨B, cc, c0, c1, c2, hcc, hC⟩ := hls j q hq
   refine ⟨[.string q.1, .string q.2.1, .slice B q.2.2.length cc], rfl, ⟨[_], [_, _], rfl, rfl, [_], [_], rfl, rfl, B, cc, rfl, hcc, hC⟩, fun i u hu => ?_⟩
   match i, hu with
   | 0, hu => obtain rfl : Value.string q.1 = u := by simpa using hu
              exact c0
   | 1, hu => obtain rfl : Value.string q.2.1 = u := by simpa using hu
              exact c1
   | 2, hu => obtain rfl : Value.slice B q.2.2.length cc = u := by simpa using hu
              exact c2
theorem byte_of {n : Int} (h : (Lit.int .u8 n).wf = true) : ∃ c : UInt8, (c.toNat : Int) = n := by
 have h1 : 0 ≤ n ∧ n ≤ 255 := by
  unfold Lit.wf at h
  simp only [Bool.and_eq_true, decide_eq_true_eq] at h
  exact ⟨h.1, h.2⟩
 refine ⟨UInt8.ofNat n.toNat, ?_⟩
 have : (UInt8.ofNat n.toNat).toNat = n.toNat % 256 := by simp
 rw [this]; omega
end
end Go.Proofs.YthfjolafikgpoaaGreatDoor.Laid
namespace Go.Proofs.YthfjolafikgpoaaGreatDoor.Hand
open Go.RowKit Go.Maps Go.Proofs.YthfjolafikgpoaaGreatDoorW.PrintWords Go.Proofs.YthfjolafikgpoaaGreatDoorW.PrintLast Go.Proofs.YthfjolafikgpoaaGreatDoorW.PrintMore Go.Proofs.YthfjolafikgpoaaGreatDoor.Base
set_option linter.unusedVariables false
set_option linter.unusedSimpArgs false
set_option maxRecDepth 100000
def joinB (sg : ByteArray) : List ByteArray → ByteArray
 | [] => ByteArray.empty
 | v :: r => r.foldl (fun a s => a ++ sg ++ s) (ByteArray.empty ++ v)
theorem joinB_snoc (sg p : ByteArray) (l : List ByteArray) (h : l ≠ []) : joinB sg (l ++ [p]) = joinB sg l ++ sg ++ p := by
 cases l with
 | nil => exact absurd rfl h
 | cons v r => simp [joinB, List.foldl_append]
theorem joinB_first {vs : List ByteArray} {p : ByteArray} (sg : ByteArray) (hp : vs[0]? = some p) : joinB sg (vs.take 1) = ByteArray.empty ++ p := by
 cases vs with
 | nil => cases hp
 | cons v r => simp only [List.getElem?_cons_zero, Option.some.injEq] at hp; subst hp; rfl
theorem joinB_next {vs : List ByteArray} {p : ByteArray} {i : Nat} (sg : ByteArray) (h0 : i ≠ 0) (hp : vs[i]? = some p) : joinB sg (vs.take (i + 1)) = joinB sg (vs.take i) ++ sg ++ p := by
 rw [List.take_add_one, hp]
 refine joinB_snoc sg p _ fun e => ?_
 have h1 : i < vs.length := (List.getElem?_eq_some_iff.1 hp).1
 have h2 := congrArg List.length e
 rw [List.length_take] at h2
 simp only [List.length_nil] at h2
 omega
theorem joinB_size (sg : ByteArray) (M : Nat) : ∀ (vs : List ByteArray), (∀ p ∈ vs, p.size ≤ M) → (joinB sg vs).size ≤ vs.length * (M + sg.size) := by
 have h : ∀ (r : List ByteArray) (a : ByteArray), (∀ p ∈ r, p.size ≤ M) → (r.foldl (fun a s => a ++ sg ++ s) a).size ≤ a.size + r.length * (M + sg.size) := by
  intro r
  induction r with
  | nil => intro a _; simp
  | cons v r ih =>
    intro a hz
    have h1 := ih (a ++ sg ++ v) (fun p hp => hz p (List.mem_cons_of_mem _ hp))
    have h2 := hz v (List.mem_cons_self ..)
    simp only [ByteArray.size_append] at h1
    simp only [List.foldl_cons, List.length_cons]
    rw [Nat.add_mul, Nat.one_mul]
    omega
 intro vs hz
 cases vs with
 | nil => simp [joinB]
 | cons v r =>
   have h1 := h r (ByteArray.empty ++ v) (fun p hp => hz p (List.mem_cons_of_mem _ hp))
   have h2 := hz v (List.mem_cons_self ..)
   simp only [ByteArray.size_append] at h1
   have h3 : ByteArray.empty.size = 0 := rfl
   unfold joinB
   simp only [List.length_cons]
   rw [Nat.add_mul, Nat.one_mul]
   omega
theorem small_sum {a b : ByteArray} (h : a.size + b.size ≤ 1000000000) : (9223372036854775807 < a.size + b.size) = False ∧ ((9223372036854775807 : Int) < (a.size : Int) + (b.size : Int)) = False ∧ decide (9223372036854775807 < a.size + b.size) = false :=
 ⟨eq_false (by omega), eq_false (by omega), decide_eq_false (by omega)⟩
set_option maxHeartbeats 8000000 in
theorem joined_calls (sg : ByteArray) (hs : sg.size ≤ 10) (A : Option Addr) (c n : Nat) (vs : List ByteArray) (hn : vs.length = n) (hn2 : n ≤ 1000) (hz : ∀ p ∈ vs, p.size ≤ 10000) (w : World) (hC : Kd.C Kd.string w A n vs) :
   Calls Tryz.prog 48 #[.slice A n c, .string sg] w fun e w' => e = .returned (.string (joinB sg vs)) ∧ w = w' := by
 have HC := Aside0.mk hC
 have HZ := Aside0.mk hz
 have HLN := Aside0.mk hn
 clear hC hz
 go_enter Tryz.func48, Tryz.ntmps48
 go_wp2
 go_loopg [5, 10] (n) (fun k v5 v10 w' => ∃ i : Nat, v10 = .int .i64 i ∧ v5 = .string (joinB sg (vs.take i)) ∧ w = w' ∧ Aside0 (k + i = n))
 case atStart => exact ⟨0, rfl, rfl, rfl, ⟨by omega⟩⟩
 case round =>
  obtain ⟨i, rfl, rfl, rfl, HI⟩ := hrel
  by_cases hil : i < n
  · obtain ⟨ad, rfl, hk0⟩ := Kd.at_string HC.out (i : Int) (by omega) (by omega)
    rw [Int.toNat_natCast] at hk0
    obtain ⟨p, hp⟩ : ∃ p, vs[i]? = some p := ⟨_, List.getElem?_eq_getElem (by rw [HLN.out]; exact hil)⟩
    have hg : rdOf ByteArray.empty vs (i : Int) = p := by unfold rdOf; rw [Int.toNat_natCast, List.getD_eq_getElem?_getD, hp]; rfl
    rw [hg] at hk0
    have hj : (joinB sg (vs.take i)).size ≤ 1000 * 10010 := by
     have h1 := joinB_size sg 10000 (vs.take i) (fun p hp => HZ.out p (List.mem_of_mem_take hp))
     refine Nat.le_trans h1 (Nat.mul_le_mul ?_ (by omega))
     rw [List.length_take]; omega
    have hps := HZ.out p (List.mem_of_getElem? hp)
    by_cases h0 : i = 0
    · have b0 : decide ((0 : Int) < (i : Int)) = false := decide_eq_false (by omega)
      have b1 : decide (0 < i) = false := decide_eq_false (by omega)
      have HX : Aside0 (joinB sg (vs.take (i + 1)) = joinB sg (vs.take i) ++ p) := ⟨by subst h0; exact joinB_first sg hp⟩
      obtain ⟨z1, z2, z3⟩ := small_sum (a := joinB sg (vs.take i)) (b := p) (by omega)
      clear hp hg h0 hj hps
      go_wp2
      go_roundg (n - (i + 1))
      case measure => have := HI.out; omega
      case rel => exact ⟨i + 1, by go_num, by rw [HX.out]; try rfl, rfl, ⟨by omega⟩⟩
    · have b0 : decide ((0 : Int) < (i : Int)) = true := decide_eq_true (by omega)
      have b1 : decide (0 < i) = true := decide_eq_true (by omega)
      have HX : Aside0 (joinB sg (vs.take (i + 1)) = joinB sg (vs.take i) ++ sg ++ p) := ⟨joinB_next sg h0 hp⟩
      obtain ⟨z1, z2, z3⟩ := small_sum (a := joinB sg (vs.take i)) (b := sg) (by omega)
      have z4 : (9223372036854775807 < (joinB sg (vs.take i)).size + sg.size + p.size) = False := eq_false (by omega)
      have z5 : ((9223372036854775807 : Int) < ((joinB sg (vs.take i)).size : Int) + (sg.size : Int) + (p.size : Int)) = False := eq_false (by omega)
      have z6 : decide (9223372036854775807 < (joinB sg (vs.take i)).size + sg.size + p.size) = false := decide_eq_false (by omega)
      clear hp hg h0 hj hps
      go_wp2
      go_roundg (n - (i + 1))
      case measure => have := HI.out; omega
      case rel => exact ⟨i + 1, by go_num, by rw [HX.out]; try rfl, rfl, ⟨by omega⟩⟩
  · have hje : i = n := by have := HI.out; omega
    have HX : Aside0 (joinB sg (vs.take i) = joinB sg vs) := ⟨by rw [List.take_of_length_le (by rw [HLN.out, hje]; exact Nat.le_refl _)]⟩
    go_wp2
    go_ret
    exact ⟨by rw [HX.out]; try rfl, rfl⟩
set_option maxHeartbeats 8000000 in
theorem zzJoin_calls (sg : ByteArray) (hs : sg.size ≤ 10) (A : Option Addr) (c n : Nat) (vs : List ByteArray) (hn : vs.length = n) (hn2 : n ≤ 1000) (hz : ∀ p ∈ vs, p.size ≤ 10000) (w : World) (hC : Kd.C Kd.string w A n vs) :
   Calls Tryz.prog 90 #[.slice A n c, .string sg] w fun e w' => e = .returned (.string (joinB sg vs)) ∧ w = w' := by
 have HC := Aside0.mk hC
 have HZ := Aside0.mk hz
 have HLN := Aside0.mk hn
 clear hC hz
 go_enter Tryz.func90, Tryz.ntmps90
 go_wp2
 go_loopg [5, 10] (n) (fun k v5 v10 w' => ∃ i : Nat, v10 = .int .i64 i ∧ v5 = .string (joinB sg (vs.take i)) ∧ w = w' ∧ Aside0 (k + i = n))
 case atStart => exact ⟨0, rfl, rfl, rfl, ⟨by omega⟩⟩
 case round =>
  obtain ⟨i, rfl, rfl, rfl, HI⟩ := hrel
  by_cases hil : i < n
  · obtain ⟨ad, rfl, hk0⟩ := Kd.at_string HC.out (i : Int) (by omega) (by omega)
    rw [Int.toNat_natCast] at hk0
    obtain ⟨p, hp⟩ : ∃ p, vs[i]? = some p := ⟨_, List.getElem?_eq_getElem (by rw [HLN.out]; exact hil)⟩
    have hg : rdOf ByteArray.empty vs (i : Int) = p := by unfold rdOf; rw [Int.toNat_natCast, List.getD_eq_getElem?_getD, hp]; rfl
    rw [hg] at hk0
    have hj : (joinB sg (vs.take i)).size ≤ 1000 * 10010 := by
     have h1 := joinB_size sg 10000 (vs.take i) (fun p hp => HZ.out p (List.mem_of_mem_take hp))
     refine Nat.le_trans h1 (Nat.mul_le_mul ?_ (by omega))
     rw [List.length_take]; omega
    have hps := HZ.out p (List.mem_of_getElem? hp)
    by_cases h0 : i = 0
    · have b0 : decide ((0 : Int) < (i : Int)) = false := decide_eq_false (by omega)
      have b1 : decide (0 < i) = false := decide_eq_false (by omega)
      have HX : Aside0 (joinB sg (vs.take (i + 1)) = joinB sg (vs.take i) ++ p) := ⟨by subst h0; exact joinB_first sg hp⟩
      obtain ⟨z1, z2, z3⟩ := small_sum (a := joinB sg (vs.take i)) (b := p) (by omega)
      clear hp hg h0 hj hps
      go_wp2
      go_roundg (n - (i + 1))
      case measure => have := HI.out; omega
      case rel => exact ⟨i + 1, by go_num, by rw [HX.out]; try rfl, rfl, ⟨by omega⟩⟩
    · have b0 : decide ((0 : Int) < (i : Int)) = true := decide_eq_true (by omega)
      have b1 : decide (0 < i) = true := decide_eq_true (by omega)
      have HX : Aside0 (joinB sg (vs.take (i + 1)) = joinB sg (vs.take i) ++ sg ++ p) := ⟨joinB_next sg h0 hp⟩
      obtain ⟨z1, z2, z3⟩ := small_sum (a := joinB sg (vs.take i)) (b := sg) (by omega)
      have z4 : (9223372036854775807 < (joinB sg (vs.take i)).size + sg.size + p.size) = False := eq_false (by omega)
      have z5 : ((9223372036854775807 : Int) < ((joinB sg (vs.take i)).size : Int) + (sg.size : Int) + (p.size : Int)) = False := eq_false (by omega)
      have z6 : decide (9223372036854775807 < (joinB sg (vs.take i)).size + sg.size + p.size) = false := decide_eq_false (by omega)
      clear hp hg h0 hj hps
      go_wp2
      go_roundg (n - (i + 1))
      case measure => have := HI.out; omega
      case rel => exact ⟨i + 1, by go_num, by rw [HX.out]; try rfl, rfl, ⟨by omega⟩⟩
  · have hje : i = n := by have := HI.out; omega
    have HX : Aside0 (joinB sg (vs.take i) = joinB sg vs) := ⟨by rw [List.take_of_length_le (by rw [HLN.out, hje]; exact Nat.le_refl _)]⟩
    go_wp2
    go_ret
    exact ⟨by rw [HX.out]; try rfl, rfl⟩
set_option maxHeartbeats 8000000 in
theorem BufW_calls (g : Nat) (a s : ByteArray) (hs : a.size + s.size ≤ 1000000000) (w : World) (hg : w.heap[g]? = some (.cells #[.string a] 274 (0, 0))) :
   Calls Tryz.prog 220 #[.pointer (some ⟨g, 0, none⟩), .string s] w fun e w' => e = .returned (.tuple #[]) ∧ w' = w.setCell ⟨g, 0, none⟩ (.string (a ++ s)) := by
 have h0 : w.cell? ⟨g, 0, none⟩ = some (.string a) := (blk_cell hg 0).trans rfl
 have h1 : w.frozen? ⟨g, 0, none⟩ = false := blk_frozen hg 0
 obtain ⟨z1, z2, z3⟩ := small_sum hs
 clear hg
 go_enter Tryz.func220, Tryz.ntmps220
 go_wp2
 go_end0
 exact ⟨rfl, rfl⟩
set_option maxHeartbeats 8000000 in
theorem BufS_calls (g : Nat) (a : ByteArray) (w : World) (hg : w.heap[g]? = some (.cells #[.string a] 274 (0, 0))) :
   Calls Tryz.prog 221 #[.pointer (some ⟨g, 0, none⟩)] w fun e w' => e = .returned (.string a) ∧ w = w' := by
 have h0 : w.cell? ⟨g, 0, none⟩ = some (.string a) := (blk_cell hg 0).trans rfl
 go_enter Tryz.func221, Tryz.ntmps221
 go_wp2
 go_ret
 exact ⟨rfl, rfl⟩
end Go.Proofs.YthfjolafikgpoaaGreatDoor.Hand
namespace Go.Proofs.YthfjolafikgpoaaGreatDoor.PFnSelDecidesLabels
open Go.RowKit Go.Proofs.YthfjolafikgpoaaGreatDoorW.PrintWords Go.Proofs.YthfjolafikgpoaaGreatDoorW.PrintLast Go.Proofs.YthfjolafikgpoaaGreatDoorW.PrintMore
set_option linter.unusedVariables false
set_option linter.unusedSimpArgs false
def cmp_isNaN_string.f (a0 : ByteArray) : Option (Bool) := some (a0.toList != a0.toList)
set_option maxHeartbeats 8000000 in
set_option maxRecDepth 100000 in
theorem cmp_isNaN_string.calls (a0 : ByteArray) (r : Bool) (w : World) (h : cmp_isNaN_string.f a0 = some r) :
   Calls Tryz.prog 114 #[.string a0] w fun e w' => e = .returned (.bool r) ∧ Drawn0 w w' := by
 have H : (some (a0.toList != a0.toList)) = some r := h
 clear h
 obtain rfl := Option.some.inj H
 go_enter Tryz.func114, Tryz.ntmps114
 go_wp2
 go_ret
 exact ⟨by first | rfl | (simp; done) | (simp [*]; done), by repeat (first | exact Drawn0.refl _ | apply Drawn0.step)⟩
def cmp_Less_string.f (a0 : ByteArray) (a1 : ByteArray) : Option (Bool) := (cmp_isNaN_string.f a0).bind fun t217 => (if t217 = true then ((cmp_isNaN_string.f a1).bind fun t218 => (if t218 = true then (some (Op.bytesLess a0.toList a1.toList)) else (some true))) else (some (Op.bytesLess a0.toList a1.toList)))
set_option maxHeartbeats 8000000 in
set_option maxRecDepth 100000 in
theorem cmp_Less_string.calls (a0 : ByteArray) (a1 : ByteArray) (r : Bool) (w : World) (h : cmp_Less_string.f a0 a1 = some r) :
   Calls Tryz.prog 227 #[.string a0, .string a1] w fun e w' => e = .returned (.bool r) ∧ Drawn0 w w' := by
 have H : ((cmp_isNaN_string.f a0).bind fun t217 => (if t217 = true then ((cmp_isNaN_string.f a1).bind fun t218 => (if t218 = true then (some (Op.bytesLess a0.toList a1.toList)) else (some true))) else (some (Op.bytesLess a0.toList a1.toList)))) = some r := h
 clear h
 replace H := Option.bind_eq_some_iff.mp H
 obtain ⟨t217, A30, H⟩ := H
 replace H : (if t217 = true then ((cmp_isNaN_string.f a1).bind fun t218 => (if t218 = true then (some (Op.bytesLess a0.toList a1.toList)) else (some true))) else (some (Op.bytesLess a0.toList a1.toList))) = some r := H
 have A3 := Aside0.mk A30
 clear A30
 by_cases c4 : t217 = true
 · subst c4
   have H1 : ((cmp_isNaN_string.f a1).bind fun t218 => (if t218 = true then (some (Op.bytesLess a0.toList a1.toList)) else (some true))) = some r := by rw [if_pos rfl] at H; exact H
   clear H
   have H := H1
   clear H1
   replace H := Option.bind_eq_some_iff.mp H
   obtain ⟨t218, A50, H⟩ := H
   replace H : (if t218 = true then (some (Op.bytesLess a0.toList a1.toList)) else (some true)) = some r := H
   have A5 := Aside0.mk A50
   clear A50
   by_cases c6 : t218 = true
   · subst c6
     have H1 : (some (Op.bytesLess a0.toList a1.toList)) = some r := by rw [if_pos rfl] at H; exact H
     clear H
     have H := H1
     clear H1
     obtain rfl := Option.some.inj H
     go_enter Tryz.func227, Tryz.ntmps227
     go_wp2_with (first | ((with_reducible refine gate_callee (f := 114) rfl ?_); refine goesL_ (some 6) rfl rfl Tryz.func114 (by kernel_rfl) rfl #[.string a0] rfl (by (try simp only [List.map_toArray, List.map_cons, List.map_nil]); first | done | rfl | (simp only [List.length_drop, List.length_take]; rfl)) ?_; (with_reducible refine (cmp_isNaN_string.calls a0 true _ A3.out).mono ?_); rintro e w' ⟨rfl, ⟨nd, rfl⟩⟩; refine ⟨_, rfl, ?_⟩) | (go_at_call 114; (with_reducible refine (cmp_isNaN_string.calls a1 true _ A5.out).mono ?_); rintro e w' ⟨rfl, ⟨nd, rfl⟩⟩))
     go_ret
     exact ⟨by first | rfl | (simp; done) | (simp [*]; done), by repeat (first | exact Drawn0.refl _ | apply Drawn0.step)⟩
   · replace c6 := Bool.eq_false_iff.mpr c6
     subst c6
     have H1 : (some true) = some r := by rw [if_neg (show ¬ (false = true) by decide)] at H; exact H
     clear H
     have H := H1
     clear H1
     obtain rfl := Option.some.inj H
     go_enter Tryz.func227, Tryz.ntmps227
     go_wp2_with (first | ((with_reducible refine gate_callee (f := 114) rfl ?_); refine goesL_ (some 6) rfl rfl Tryz.func114 (by kernel_rfl) rfl #[.string a0] rfl (by (try simp only [List.map_toArray, List.map_cons, List.map_nil]); first | done | rfl | (simp only [List.length_drop, List.length_take]; rfl)) ?_; (with_reducible refine (cmp_isNaN_string.calls a0 true _ A3.out).mono ?_); rintro e w' ⟨rfl, ⟨nd, rfl⟩⟩; refine ⟨_, rfl, ?_⟩) | (go_at_call 114; (with_reducible refine (cmp_isNaN_string.calls a1 false _ A5.out).mono ?_); rintro e w' ⟨rfl, ⟨nd, rfl⟩⟩))
     go_ret
     exact ⟨by first | rfl | (simp; done) | (simp [*]; done), by repeat (first | exact Drawn0.refl _ | apply Drawn0.step)⟩
 · replace c4 := Bool.eq_false_iff.mpr c4
   subst c4
   have H1 : (some (Op.bytesLess a0.toList a1.toList)) = some r := by rw [if_neg (show ¬ (false = true) by decide)] at H; exact H
   clear H
   have H := H1
   clear H1
   obtain rfl := Option.some.inj H
   go_enter Tryz.func227, Tryz.ntmps227
   go_wp2_with (first | ((with_reducible refine gate_callee (f := 114) rfl ?_); refine goesL_ (some 6) rfl rfl Tryz.func114 (by kernel_rfl) rfl #[.string a0] rfl (by (try simp only [List.map_toArray, List.map_cons, List.map_nil]); first | done | rfl | (simp only [List.length_drop, List.length_take]; rfl)) ?_; (with_reducible refine (cmp_isNaN_string.calls a0 false _ A3.out).mono ?_); rintro e w' ⟨rfl, ⟨nd, rfl⟩⟩; refine ⟨_, rfl, ?_⟩))
   go_ret
   exact ⟨by first | rfl | (simp; done) | (simp [*]; done), by repeat (first | exact Drawn0.refl _ | apply Drawn0.step)⟩
def slices_IsSorted_string_string.l0 : Nat → List ByteArray → Int → Option (Bool)
 | 0, _, _ => none
 | k + 1, x0, x3 => if x3 > 0 then (if 0 ≤ x3 then (if x3 < (x0.length : Int) then (if 0 ≤ (wrap64 (x3 - 1)) then (if (wrap64 (x3 - 1)) < (x0.length : Int) then ((cmp_Less_string.f (rdOf ByteArray.empty x0 x3) (rdOf ByteArray.empty x0 (wrap64 (x3 - 1)))).bind fun t221 => (if t221 = true then (some false) else (slices_IsSorted_string_string.l0 k x0 (wrap64 (x3 - 1))))) else (none)) else (none)) else (none)) else (none)) else (some true)
def slices_IsSorted_string_string.f (k : Nat) (l0 : List ByteArray) : Option (Bool) := slices_IsSorted_string_string.l0 k l0 (wrap64 ((l0.length : Int) - 1))
set_option maxHeartbeats 8000000 in
set_option maxRecDepth 100000 in
theorem slices_IsSorted_string_string.calls (k : Nat) (A0 : Option Addr) (c0 : Nat) (l0 : List ByteArray) (r : Bool) (w : World) (hr0 : Kd.C Kd.string w A0 l0.length l0) (hc0 : l0.length ≤ c0) (h : slices_IsSorted_string_string.f k l0 = some r) :
   Calls Tryz.prog 225 #[.slice A0 l0.length c0] w fun e w' => e = .returned (.bool r) ∧ Drawn0 w w' := by
 have HR0 := Aside0.mk hr0
 have HC0 := Aside0.mk hc0
 clear hr0 hc0
 have H : (slices_IsSorted_string_string.l0 k l0 (wrap64 ((l0.length : Int) - 1))) = some r := h
 clear h
 have H' := Aside0.mk H
 clear H
 go_enter Tryz.func225, Tryz.ntmps225
 go_wp2
 repeat (go_quiet (fail); try go_wp2)
 go_loopg [3] k (fun kq v3 w' => ∃ (x3_1 : Int), v3 = .int .i64 x3_1 ∧ Aside0 (slices_IsSorted_string_string.l0 kq l0 x3_1 = some r) ∧ Aside0 (kq ≤ k) ∧ Drawn0 w w')
 case atStart => exact ⟨(wrap64 ((l0.length : Int) - 1)), (by first | rfl | (simp; done) | (simp [*]; done)), H', ⟨Nat.le_refl _⟩, by repeat (first | exact Drawn0.refl _ | apply Drawn0.step)⟩
 case round =>
  clear H'
  try clear c1
  obtain ⟨x3_1, rfl, HA, HK1, ⟨m1, rfl⟩⟩ := hrel
  cases gk with
  | zero => exact absurd HA.out (by simp [slices_IsSorted_string_string.l0])
  | succ k1 =>
    have H := HA.out
    clear HA
    simp only [slices_IsSorted_string_string.l0] at H
    by_cases c2 : x3_1 > 0
    · rw [if_pos c2] at H
      have c2b0 : decide (0 < x3_1) = true := decide_eq_true c2
      clear c2
      by_cases c3 : 0 ≤ x3_1
      · rw [if_pos c3] at H
        have c3b0 : decide (0 ≤ x3_1) = true := decide_eq_true c3
        clear c3
        by_cases c4 : x3_1 < (l0.length : Int)
        · rw [if_pos c4] at H
          have c4b0 : decide (x3_1 < (l0.length : Int)) = true := decide_eq_true c4
          clear c4
          obtain ⟨ji5, hji5⟩ : ∃ j_ : Int, (wrap64 (x3_1 - 1)) = j_ := ⟨_, rfl⟩
          replace H : (if 0 ≤ (ji5) then (if (ji5) < (l0.length : Int) then ((cmp_Less_string.f (rdOf ByteArray.empty l0 x3_1) (rdOf ByteArray.empty l0 (ji5))).bind fun t221 => (if t221 = true then (some false) else (slices_IsSorted_string_string.l0 k1 l0 ji5))) else (none)) else (none)) = some r := by first | (rw [hji5] at H; exact H) | (simp only [hji5] at H ⊢; exact H)
          have hji5w : (IntKind.i64.wrap (x3_1 - 1)) = ji5 := (i64_w _).trans hji5
          by_cases c6 : 0 ≤ (ji5)
          · rw [if_pos c6] at H
            have c6b0 : decide (0 ≤ (ji5)) = true := decide_eq_true c6
            clear c6
            by_cases c7 : (ji5) < (l0.length : Int)
            · rw [if_pos c7] at H
              have c7b0 : decide ((ji5) < (l0.length : Int)) = true := decide_eq_true c7
              clear c7
              replace H := Option.bind_eq_some_iff.mp H
              obtain ⟨t221, A80, H⟩ := H
              replace H : (if t221 = true then (some false) else (slices_IsSorted_string_string.l0 k1 l0 ji5)) = some r := H
              have A8 := Aside0.mk A80
              clear A80
              by_cases c9 : t221 = true
              · subst c9
                have H1 : (some false) = some r := by rw [if_pos rfl] at H; exact H
                clear H
                have H := H1
                clear H1
                obtain rfl := Option.some.inj H
                have p219 : 0 ≤ (x3_1 : Int) := of_decide_eq_true (by first | (with_reducible assumption) | assumption)
                have q219 : x3_1 < (l0.length : Int) := of_decide_eq_true (by first | (with_reducible assumption) | assumption)
                obtain ⟨ad219, e219, hx219_0⟩ := Kd.at_string HR0.out x3_1 p219 q219
                cases e219
                replace p219 := eq_true p219
                replace q219 := eq_true q219
                have p220 : 0 ≤ ((ji5) : Int) := of_decide_eq_true (by first | (with_reducible assumption) | assumption)
                have q220 : (ji5) < (l0.length : Int) := of_decide_eq_true (by first | (with_reducible assumption) | assumption)
                obtain ⟨ad220, e220, hx220_0⟩ := Kd.at_string HR0.out (ji5) p220 q220
                obtain rfl : ad219 = ad220 := (by injection e220)
                replace p220 := eq_true p220
                replace q220 := eq_true q220
                go_wp2_with (first | (go_at_call 227; (with_reducible refine (cmp_Less_string.calls (rdOf ByteArray.empty l0 x3_1) (rdOf ByteArray.empty l0 (ji5)) true _ A8.out).mono ?_); rintro e w' ⟨rfl, ⟨nd, rfl⟩⟩; (try first | exact ⟨rfl, _, World.drewN_drewN _ _ _⟩ | exact ⟨rfl, _, Eq.trans (World.drewN_drewN _ _ _) (congrArg (World.drewN _) (Nat.add_assoc _ _ _))⟩)))
                repeat (go_quiet (first | (go_at_call 227; (with_reducible refine (cmp_Less_string.calls (rdOf ByteArray.empty l0 x3_1) (rdOf ByteArray.empty l0 (ji5)) true _ A8.out).mono ?_); rintro e w' ⟨rfl, ⟨nd, rfl⟩⟩; (try first | exact ⟨rfl, _, World.drewN_drewN _ _ _⟩ | exact ⟨rfl, _, Eq.trans (World.drewN_drewN _ _ _) (congrArg (World.drewN _) (Nat.add_assoc _ _ _))⟩))); try go_wp2_with (first | (go_at_call 227; (with_reducible refine (cmp_Less_string.calls (rdOf ByteArray.empty l0 x3_1) (rdOf ByteArray.empty l0 (ji5)) true _ A8.out).mono ?_); rintro e w' ⟨rfl, ⟨nd, rfl⟩⟩; (try first | exact ⟨rfl, _, World.drewN_drewN _ _ _⟩ | exact ⟨rfl, _, Eq.trans (World.drewN_drewN _ _ _) (congrArg (World.drewN _) (Nat.add_assoc _ _ _))⟩))))
                go_ret
                exact ⟨by first | rfl | (simp; done) | (simp only [← hji5] <;> (first | rfl | simp)) | (simp [*]; done), by repeat (first | exact Drawn0.refl _ | apply Drawn0.step)⟩
              · replace c9 := Bool.eq_false_iff.mpr c9
                subst c9
                have H1 : (slices_IsSorted_string_string.l0 k1 l0 ji5) = some r := by rw [if_neg (show ¬ (false = true) by decide)] at H; exact H
                clear H
                have H := H1
                clear H1
                have H' := Aside0.mk H
                clear H
                have p219 : 0 ≤ (x3_1 : Int) := of_decide_eq_true (by first | (with_reducible assumption) | assumption)
                have q219 : x3_1 < (l0.length : Int) := of_decide_eq_true (by first | (with_reducible assumption) | assumption)
                obtain ⟨ad219, e219, hx219_0⟩ := Kd.at_string HR0.out x3_1 p219 q219
                cases e219
                replace p219 := eq_true p219
                replace q219 := eq_true q219
                have p220 : 0 ≤ ((ji5) : Int) := of_decide_eq_true (by first | (with_reducible assumption) | assumption)
                have q220 : (ji5) < (l0.length : Int) := of_decide_eq_true (by first | (with_reducible assumption) | assumption)
                obtain ⟨ad220, e220, hx220_0⟩ := Kd.at_string HR0.out (ji5) p220 q220
                obtain rfl : ad219 = ad220 := (by injection e220)
                replace p220 := eq_true p220
                replace q220 := eq_true q220
                go_wp2_with (first | (go_at_call 227; (with_reducible refine (cmp_Less_string.calls (rdOf ByteArray.empty l0 x3_1) (rdOf ByteArray.empty l0 (ji5)) false _ A8.out).mono ?_); rintro e w' ⟨rfl, ⟨nd, rfl⟩⟩; (try first | exact ⟨rfl, _, World.drewN_drewN _ _ _⟩ | exact ⟨rfl, _, Eq.trans (World.drewN_drewN _ _ _) (congrArg (World.drewN _) (Nat.add_assoc _ _ _))⟩)))
                repeat (go_quiet (first | (go_at_call 227; (with_reducible refine (cmp_Less_string.calls (rdOf ByteArray.empty l0 x3_1) (rdOf ByteArray.empty l0 (ji5)) false _ A8.out).mono ?_); rintro e w' ⟨rfl, ⟨nd, rfl⟩⟩; (try first | exact ⟨rfl, _, World.drewN_drewN _ _ _⟩ | exact ⟨rfl, _, Eq.trans (World.drewN_drewN _ _ _) (congrArg (World.drewN _) (Nat.add_assoc _ _ _))⟩))); try go_wp2_with (first | (go_at_call 227; (with_reducible refine (cmp_Less_string.calls (rdOf ByteArray.empty l0 x3_1) (rdOf ByteArray.empty l0 (ji5)) false _ A8.out).mono ?_); rintro e w' ⟨rfl, ⟨nd, rfl⟩⟩; (try first | exact ⟨rfl, _, World.drewN_drewN _ _ _⟩ | exact ⟨rfl, _, Eq.trans (World.drewN_drewN _ _ _) (congrArg (World.drewN _) (Nat.add_assoc _ _ _))⟩))))
                go_roundg k1
                case measure => have := HK1.out; omega
                case rel => exact ⟨(ji5), (by first | rfl | (simp; done) | (simp only [← hji5] <;> (first | rfl | simp)) | (simp [*]; done)), H', ⟨by have := HK1.out; omega⟩, by repeat (first | exact Drawn0.refl _ | apply Drawn0.step)⟩
            · rw [if_neg c7] at H
              exact absurd H (by simp)
          · rw [if_neg c6] at H
            exact absurd H (by simp)
        · rw [if_neg c4] at H
          exact absurd H (by simp)
      · rw [if_neg c3] at H
        exact absurd H (by simp)
    · rw [if_neg c2] at H
      have c2b0 : decide (0 < x3_1) = false := decide_eq_false c2
      clear c2
      obtain rfl := Option.some.inj H
      go_wp2
      repeat (go_quiet (fail); try go_wp2)
      go_ret
      exact ⟨by first | rfl | (simp; done) | (simp [*]; done), by repeat (first | exact Drawn0.refl _ | apply Drawn0.step)⟩
def sort_StringsAreSorted.f (k : Nat) (l0 : List ByteArray) : Option (Bool) := (slices_IsSorted_string_string.f k l0).bind fun t222 => (some t222)
set_option maxHeartbeats 8000000 in
set_option maxRecDepth 100000 in
theorem sort_StringsAreSorted.calls (k : Nat) (A0 : Option Addr) (c0 : Nat) (l0 : List ByteArray) (r : Bool) (w : World) (hr0 : Kd.C Kd.string w A0 l0.length l0) (hc0 : l0.length ≤ c0) (h : sort_StringsAreSorted.f k l0 = some r) :
   Calls Tryz.prog 223 #[.slice A0 l0.length c0] w fun e w' => e = .returned (.bool r) ∧ Drawn0 w w' := by
 have HR0 := Aside0.mk hr0
 have HC0 := Aside0.mk hc0
 clear hr0 hc0
 have H : ((slices_IsSorted_string_string.f k l0).bind fun t222 => (some t222)) = some r := h
 clear h
 replace H := Option.bind_eq_some_iff.mp H
 obtain ⟨t222, A20, H⟩ := H
 replace H : (some t222) = some r := H
 have A2 := Aside0.mk A20
 clear A20
 obtain rfl := Option.some.inj H
 go_enter Tryz.func223, Tryz.ntmps223
 go_wp2_with (first | ((with_reducible refine gate_callee (f := 225) rfl ?_); refine goesL_ (some 4) rfl rfl Tryz.func225 (by kernel_rfl) rfl #[.slice A0 l0.length c0] rfl (by (try simp only [List.map_toArray, List.map_cons, List.map_nil]); first | done | rfl | (simp only [List.length_drop, List.length_take]; rfl)) ?_; (with_reducible refine (slices_IsSorted_string_string.calls k _ _ l0 t222 _ ?side1 ?side2 A2.out).mono ?_); (case side1 => repeat (first | exact HR0.out | (with_reducible refine Kd.C_alloc ?_ _) | (with_reducible refine Kd.C_drewN ?_ _) | (with_reducible refine Kd.C_drew ?_))); (case side2 => exact HC0.out); rintro e w' ⟨rfl, ⟨nd, rfl⟩⟩; refine ⟨_, rfl, ?_⟩))
 go_ret
 exact ⟨by first | rfl | (simp; done) | (simp [*]; done), by repeat (first | exact Drawn0.refl _ | apply Drawn0.step)⟩
end Go.Proofs.YthfjolafikgpoaaGreatDoor.PFnSelDecidesLabels

/- Texts out of texts: spec.joined, labels.zzJoin, the buffer, sort.StringsAreSorted. -/
import Derived.Test.YteigfmchnblkgaaGreatDoorRTLabNew
namespace Go.Proofs.YteigfmchnblkgaaGreatDoor.Hand
open Go.RowKit Go.Maps Go.Proofs.YteigfmchnblkgaaGreatDoorW.PrintWords Go.Proofs.YteigfmchnblkgaaGreatDoorW.PrintLast Go.Proofs.YteigfmchnblkgaaGreatDoorW.PrintMore Go.Proofs.YteigfmchnblkgaaGreatDoor.Base
set_option linter.unusedVariables false
set_option linter.unusedSimpArgs false
set_option maxRecDepth 100000
/-- The texts one after the other, the sign between them. -/
def joinB (sg : ByteArray) : List ByteArray → ByteArray
  | [] => ByteArray.empty
  | v :: r => r.foldl (fun a s => a ++ sg ++ s) (ByteArray.empty ++ v)
theorem joinB_snoc (sg p : ByteArray) (l : List ByteArray) (h : l ≠ []) : joinB sg (l ++ [p]) = joinB sg l ++ sg ++ p := by
  cases l with
  | nil => exact absurd rfl h
  | cons v r => simp [joinB, List.foldl_append]
theorem joinB_first {vs : List ByteArray} {p : ByteArray} (sg : ByteArray) (hp : vs[0]? = some p) : joinB sg (vs.take 1) = ByteArray.empty ++ p := by
  cases vs with
  | nil => cases hp
  | cons v r => simp only [List.getElem?_cons_zero, Option.some.injEq] at hp; subst hp; rfl
theorem joinB_next {vs : List ByteArray} {p : ByteArray} {i : Nat} (sg : ByteArray) (h0 : i ≠ 0) (hp : vs[i]? = some p) : joinB sg (vs.take (i + 1)) = joinB sg (vs.take i) ++ sg ++ p := by
  rw [List.take_add_one, hp]
  refine joinB_snoc sg p _ fun e => ?_
  have h1 : i < vs.length := (List.getElem?_eq_some_iff.1 hp).1
  have h2 := congrArg List.length e
  rw [List.length_take] at h2
  simp only [List.length_nil] at h2
  omega
theorem joinB_size (sg : ByteArray) (M : Nat) : ∀ (vs : List ByteArray), (∀ p ∈ vs, p.size ≤ M) → (joinB sg vs).size ≤ vs.length * (M + sg.size) := by
  have h : ∀ (r : List ByteArray) (a : ByteArray), (∀ p ∈ r, p.size ≤ M) → (r.foldl (fun a s => a ++ sg ++ s) a).size ≤ a.size + r.length * (M + sg.size) := by
    intro r
    induction r with
    | nil => intro a _; simp
    | cons v r ih =>
      intro a hz
      have h1 := ih (a ++ sg ++ v) (fun p hp => hz p (List.mem_cons_of_mem _ hp))
      have h2 := hz v (List.mem_cons_self ..)
      simp only [ByteArray.size_append] at h1
      simp only [List.foldl_cons, List.length_cons]
      rw [Nat.add_mul, Nat.one_mul]
      omega
  intro vs hz
  cases vs with
  | nil => simp [joinB]
  | cons v r =>
    have h1 := h r (ByteArray.empty ++ v) (fun p hp => hz p (List.mem_cons_of_mem _ hp))
    have h2 := hz v (List.mem_cons_self ..)
    simp only [ByteArray.size_append] at h1
    have h3 : ByteArray.empty.size = 0 := rfl
    unfold joinB
    simp only [List.length_cons]
    rw [Nat.add_mul, Nat.one_mul]
    omega
/-- What the walk asks of two texts that are put together. -/
theorem small_sum {a b : ByteArray} (h : a.size + b.size ≤ 1000000000) : (9223372036854775807 < a.size + b.size) = False ∧ ((9223372036854775807 : Int) < (a.size : Int) + (b.size : Int)) = False ∧ decide (9223372036854775807 < a.size + b.size) = false :=
  ⟨eq_false (by omega), eq_false (by omega), decide_eq_false (by omega)⟩
set_option maxHeartbeats 8000000 in
theorem joined_calls (sg : ByteArray) (hs : sg.size ≤ 10) (A : Option Addr) (c n : Nat) (vs : List ByteArray) (hn : vs.length = n) (hn2 : n ≤ 1000) (hz : ∀ p ∈ vs, p.size ≤ 10000) (w : World) (hC : Kd.C Kd.string w A n vs) :
    Calls Tryz.prog 60 #[.slice A n c, .string sg] w fun e w' => e = .returned (.string (joinB sg vs)) ∧ w = w' := by
  have HC := Aside0.mk hC
  have HZ := Aside0.mk hz
  have HLN := Aside0.mk hn
  clear hC hz
  go_enter Tryz.func60, Tryz.ntmps60
  go_wp2
  go_loopg [5, 10] (n) (fun k v5 v10 w' => ∃ i : Nat, v10 = .int .i64 i ∧ v5 = .string (joinB sg (vs.take i)) ∧ w = w' ∧ Aside0 (k + i = n))
  case atStart => exact ⟨0, rfl, rfl, rfl, ⟨by omega⟩⟩
  case round =>
    obtain ⟨i, rfl, rfl, rfl, HI⟩ := hrel
    by_cases hil : i < n
    · obtain ⟨ad, rfl, hk0⟩ := Kd.at_string HC.out (i : Int) (by omega) (by omega)
      rw [Int.toNat_natCast] at hk0
      obtain ⟨p, hp⟩ : ∃ p, vs[i]? = some p := ⟨_, List.getElem?_eq_getElem (by rw [HLN.out]; exact hil)⟩
      have hg : rdOf ByteArray.empty vs (i : Int) = p := by unfold rdOf; rw [Int.toNat_natCast, List.getD_eq_getElem?_getD, hp]; rfl
      rw [hg] at hk0
      have hj : (joinB sg (vs.take i)).size ≤ 1000 * 10010 := by
        have h1 := joinB_size sg 10000 (vs.take i) (fun p hp => HZ.out p (List.mem_of_mem_take hp))
        refine Nat.le_trans h1 (Nat.mul_le_mul ?_ (by omega))
        rw [List.length_take]; omega
      have hps := HZ.out p (List.mem_of_getElem? hp)
      by_cases h0 : i = 0
      · have b0 : decide ((0 : Int) < (i : Int)) = false := decide_eq_false (by omega)
        have b1 : decide (0 < i) = false := decide_eq_false (by omega)
        have HX : Aside0 (joinB sg (vs.take (i + 1)) = joinB sg (vs.take i) ++ p) := ⟨by subst h0; exact joinB_first sg hp⟩
        obtain ⟨z1, z2, z3⟩ := small_sum (a := joinB sg (vs.take i)) (b := p) (by omega)
        clear hp hg h0 hj hps
        go_wp2
        go_roundg (n - (i + 1))
        case measure => have := HI.out; omega
        case rel => exact ⟨i + 1, by go_num, by rw [HX.out]; try rfl, rfl, ⟨by omega⟩⟩
      · have b0 : decide ((0 : Int) < (i : Int)) = true := decide_eq_true (by omega)
        have b1 : decide (0 < i) = true := decide_eq_true (by omega)
        have HX : Aside0 (joinB sg (vs.take (i + 1)) = joinB sg (vs.take i) ++ sg ++ p) := ⟨joinB_next sg h0 hp⟩
        obtain ⟨z1, z2, z3⟩ := small_sum (a := joinB sg (vs.take i)) (b := sg) (by omega)
        have z4 : (9223372036854775807 < (joinB sg (vs.take i)).size + sg.size + p.size) = False := eq_false (by omega)
        have z5 : ((9223372036854775807 : Int) < ((joinB sg (vs.take i)).size : Int) + (sg.size : Int) + (p.size : Int)) = False := eq_false (by omega)
        have z6 : decide (9223372036854775807 < (joinB sg (vs.take i)).size + sg.size + p.size) = false := decide_eq_false (by omega)
        clear hp hg h0 hj hps
        go_wp2
        go_roundg (n - (i + 1))
        case measure => have := HI.out; omega
        case rel => exact ⟨i + 1, by go_num, by rw [HX.out]; try rfl, rfl, ⟨by omega⟩⟩
    · have hje : i = n := by have := HI.out; omega
      have HX : Aside0 (joinB sg (vs.take i) = joinB sg vs) := ⟨by rw [List.take_of_length_le (by rw [HLN.out, hje]; exact Nat.le_refl _)]⟩
      go_wp2
      go_ret
      exact ⟨by rw [HX.out]; try rfl, rfl⟩
set_option maxHeartbeats 8000000 in
theorem zzJoin_calls (sg : ByteArray) (hs : sg.size ≤ 10) (A : Option Addr) (c n : Nat) (vs : List ByteArray) (hn : vs.length = n) (hn2 : n ≤ 1000) (hz : ∀ p ∈ vs, p.size ≤ 10000) (w : World) (hC : Kd.C Kd.string w A n vs) :
    Calls Tryz.prog 84 #[.slice A n c, .string sg] w fun e w' => e = .returned (.string (joinB sg vs)) ∧ w = w' := by
  have HC := Aside0.mk hC
  have HZ := Aside0.mk hz
  have HLN := Aside0.mk hn
  clear hC hz
  go_enter Tryz.func84, Tryz.ntmps84
  go_wp2
  go_loopg [5, 10] (n) (fun k v5 v10 w' => ∃ i : Nat, v10 = .int .i64 i ∧ v5 = .string (joinB sg (vs.take i)) ∧ w = w' ∧ Aside0 (k + i = n))
  case atStart => exact ⟨0, rfl, rfl, rfl, ⟨by omega⟩⟩
  case round =>
    obtain ⟨i, rfl, rfl, rfl, HI⟩ := hrel
    by_cases hil : i < n
    · obtain ⟨ad, rfl, hk0⟩ := Kd.at_string HC.out (i : Int) (by omega) (by omega)
      rw [Int.toNat_natCast] at hk0
      obtain ⟨p, hp⟩ : ∃ p, vs[i]? = some p := ⟨_, List.getElem?_eq_getElem (by rw [HLN.out]; exact hil)⟩
      have hg : rdOf ByteArray.empty vs (i : Int) = p := by unfold rdOf; rw [Int.toNat_natCast, List.getD_eq_getElem?_getD, hp]; rfl
      rw [hg] at hk0
      have hj : (joinB sg (vs.take i)).size ≤ 1000 * 10010 := by
        have h1 := joinB_size sg 10000 (vs.take i) (fun p hp => HZ.out p (List.mem_of_mem_take hp))
        refine Nat.le_trans h1 (Nat.mul_le_mul ?_ (by omega))
        rw [List.length_take]; omega
      have hps := HZ.out p (List.mem_of_getElem? hp)
      by_cases h0 : i = 0
      · have b0 : decide ((0 : Int) < (i : Int)) = false := decide_eq_false (by omega)
        have b1 : decide (0 < i) = false := decide_eq_false (by omega)
        have HX : Aside0 (joinB sg (vs.take (i + 1)) = joinB sg (vs.take i) ++ p) := ⟨by subst h0; exact joinB_first sg hp⟩
        obtain ⟨z1, z2, z3⟩ := small_sum (a := joinB sg (vs.take i)) (b := p) (by omega)
        clear hp hg h0 hj hps
        go_wp2
        go_roundg (n - (i + 1))
        case measure => have := HI.out; omega
        case rel => exact ⟨i + 1, by go_num, by rw [HX.out]; try rfl, rfl, ⟨by omega⟩⟩
      · have b0 : decide ((0 : Int) < (i : Int)) = true := decide_eq_true (by omega)
        have b1 : decide (0 < i) = true := decide_eq_true (by omega)
        have HX : Aside0 (joinB sg (vs.take (i + 1)) = joinB sg (vs.take i) ++ sg ++ p) := ⟨joinB_next sg h0 hp⟩
        obtain ⟨z1, z2, z3⟩ := small_sum (a := joinB sg (vs.take i)) (b := sg) (by omega)
        have z4 : (9223372036854775807 < (joinB sg (vs.take i)).size + sg.size + p.size) = False := eq_false (by omega)
        have z5 : ((9223372036854775807 : Int) < ((joinB sg (vs.take i)).size : Int) + (sg.size : Int) + (p.size : Int)) = False := eq_false (by omega)
        have z6 : decide (9223372036854775807 < (joinB sg (vs.take i)).size + sg.size + p.size) = false := decide_eq_false (by omega)
        clear hp hg h0 hj hps
        go_wp2
        go_roundg (n - (i + 1))
        case measure => have := HI.out; omega
        case rel => exact ⟨i + 1, by go_num, by rw [HX.out]; try rfl, rfl, ⟨by omega⟩⟩
    · have hje : i = n := by have := HI.out; omega
      have HX : Aside0 (joinB sg (vs.take i) = joinB sg vs) := ⟨by rw [List.take_of_length_le (by rw [HLN.out, hje]; exact Nat.le_refl _)]⟩
      go_wp2
      go_ret
      exact ⟨by rw [HX.out]; try rfl, rfl⟩

set_option maxHeartbeats 8000000 in
theorem BufW_calls (g : Nat) (a s : ByteArray) (hs : a.size + s.size ≤ 1000000000) (w : World) (hg : w.heap[g]? = some (.cells #[.string a] 135 (0, 0))) :
    Calls Tryz.prog 88 #[.pointer (some ⟨g, 0, none⟩), .string s] w fun e w' => e = .returned (.tuple #[]) ∧ w' = w.setCell ⟨g, 0, none⟩ (.string (a ++ s)) := by
  have h0 : w.cell? ⟨g, 0, none⟩ = some (.string a) := (blk_cell hg 0).trans rfl
  have h1 : w.frozen? ⟨g, 0, none⟩ = false := blk_frozen hg 0
  obtain ⟨z1, z2, z3⟩ := small_sum hs
  clear hg
  go_enter Tryz.func88, Tryz.ntmps88
  go_wp2
  go_end0
  exact ⟨rfl, rfl⟩
set_option maxHeartbeats 8000000 in
theorem BufS_calls (g : Nat) (a : ByteArray) (w : World) (hg : w.heap[g]? = some (.cells #[.string a] 135 (0, 0))) :
    Calls Tryz.prog 89 #[.pointer (some ⟨g, 0, none⟩)] w fun e w' => e = .returned (.string a) ∧ w = w' := by
  have h0 : w.cell? ⟨g, 0, none⟩ = some (.string a) := (blk_cell hg 0).trans rfl
  go_enter Tryz.func89, Tryz.ntmps89
  go_wp2
  go_ret
  exact ⟨rfl, rfl⟩
end Go.Proofs.YteigfmchnblkgaaGreatDoor.Hand

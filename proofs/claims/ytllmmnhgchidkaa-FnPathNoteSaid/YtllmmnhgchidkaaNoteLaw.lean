/- foPath, foWord, the law FnPathNote. -/
import Derived.Test.YtllmmnhgchidkaaNoteWalk
import Derived.Test.YtllmmnhgchidkaaPFnPathNotex1
namespace Go.Proofs.Ytllmmnhgchidkaa.Hand
open Go.RowKit Go.Proofs.YtllmmnhgchidkaaW.PrintWords Go.Proofs.YtllmmnhgchidkaaW.PrintLast Go.Proofs.YtllmmnhgchidkaaW.PrintMore Go.Proofs.Ytllmmnhgchidkaa.Base
set_option linter.unusedVariables false
set_option linter.unusedSimpArgs false
set_option maxRecDepth 100000
set_option maxHeartbeats 2000000 in
theorem foPath_calls (d n k m : ByteArray) (hd : d.size ≤ 20) (hk : k.size ≤ 20) (hm : m.size ≤ 20) (hn : n.size ≤ 20) (w : World) :
    Calls Try.prog 32 #[.string d, .string n, .string k, .string m] w fun e w' => e = .returned (.string (mk (notePath d.data.toList n.data.toList k.data.toList m.data.toList))) ∧ Below w.heap.size w w' := by
  have HB := Aside0.mk (Below.refl w.heap.size w)
  obtain ⟨lo, hlo⟩ : ∃ lo, mk (lowL k.data.toList) = lo := ⟨_, rfl⟩
  have HZ := Aside0.mk (fun w => FoLower_calls k (by omega) w)
  rw [hlo] at HZ
  have hlz : lo.size ≤ 20 := by
    rw [← hlo, mk_size]
    have : (lowL k.data.toList).length = k.size := by rw [Lib.size_eq]; simp [lowL]
    omega
  have b1 : (lo.size + 1 ≤ 9223372036854775807) = True := eq_true (by omega)
  have b2 : (9223372036854775807 < lo.size + 1) = False := eq_false (by omega)
  have b3 : (lo.size + 1 + m.size ≤ 9223372036854775807) = True := eq_true (by omega)
  have b4 : (9223372036854775807 < lo.size + 1 + m.size) = False := eq_false (by omega)
  have b5 : (lo.size + 1 + m.size + 5 ≤ 9223372036854775807) = True := eq_true (by omega)
  have b6 : (9223372036854775807 < lo.size + 1 + m.size + 5) = False := eq_false (by omega)
  have b7 : (n.size + 1 ≤ 9223372036854775807) = True := eq_true (by omega)
  have b8 : (n.size + 1 + (lo.size + 1 + m.size + 5) ≤ 9223372036854775807) = True := eq_true (by omega)
  have b9 : (d.size + 1 ≤ 9223372036854775807) = True := eq_true (by omega)
  have b10 : (d.size + 1 + (lo.size + 1 + m.size + 5) ≤ 9223372036854775807) = True := eq_true (by omega)
  have b11 : (d.size + 1 + (n.size + 1 + (lo.size + 1 + m.size + 5)) ≤ 9223372036854775807) = True := eq_true (by omega)
  have v0 : (9223372036854775807 < n.size + 1) = False := eq_false (by omega)
  have v1 : (9223372036854775807 < n.size + 1 + (lo.size + 1 + m.size + 5)) = False := eq_false (by omega)
  have v2 : (9223372036854775807 < d.size + 1) = False := eq_false (by omega)
  have v3 : (9223372036854775807 < d.size + 1 + (lo.size + 1 + m.size + 5)) = False := eq_false (by omega)
  have v4 : (9223372036854775807 < d.size + 1 + (n.size + 1 + (lo.size + 1 + m.size + 5))) = False := eq_false (by omega)
  have hfile : lo ++ ⟨#[95]⟩ ++ m ++ ⟨#[46, 121, 97, 109, 108]⟩ = mk (fileOf k.data.toList m.data.toList) := by
    rw [← hlo]
    have hmm : m = mk m.data.toList := mk_of m
    unfold fileOf
    rw [← mk_append, ← mk_append, ← mk_append, ← hmm]
    rfl
  have HF := Aside0.mk hfile
  clear hfile hlo hlz hd hk hm hn
  by_cases en : n.data.toList = [] <;> by_cases ed : d.data.toList = []
  · have tn : (n.toList == ([] : List UInt8)) = true := by rw [toList_eq]; simpa using en
    have td : (d.toList == ([] : List UInt8)) = true := by rw [toList_eq]; simpa using ed
    have HN := Aside0.mk en; have HD := Aside0.mk ed
    clear en ed
    go_enter Try.func32, Try.ntmps32
    go_wp2_with (first | ((with_reducible refine (HZ.out _).mono ?_); rintro e w' ⟨rfl, hb⟩; have nb_ := Aside0.mk (below_step (by repeat (first | (with_reducible first | exact HB.out | apply below_alloc | apply pw_below_drewN | apply below_drew1) | exact HB.out)) hb); clear HB; have HB := nb_; clear nb_; (try clear hb)))
    go_ret
    refine ⟨?_, (by repeat (first | (with_reducible first | exact HB.out | apply below_alloc | apply pw_below_drewN | apply below_drew1) | exact HB.out))⟩
    unfold notePath
    rw [if_pos HD.out, if_pos HN.out, ← HF.out]
    try rfl
  · have tn : (n.toList == ([] : List UInt8)) = true := by rw [toList_eq]; simpa using en
    have td : (d.toList == ([] : List UInt8)) = false := by rw [toList_eq]; simpa using ed
    have HN := Aside0.mk en; have HD := Aside0.mk ed
    clear en ed
    go_enter Try.func32, Try.ntmps32
    go_wp2_with (first | ((with_reducible refine (HZ.out _).mono ?_); rintro e w' ⟨rfl, hb⟩; have nb_ := Aside0.mk (below_step (by repeat (first | (with_reducible first | exact HB.out | apply below_alloc | apply pw_below_drewN | apply below_drew1) | exact HB.out)) hb); clear HB; have HB := nb_; clear nb_; (try clear hb)))
    go_ret
    refine ⟨?_, (by repeat (first | (with_reducible first | exact HB.out | apply below_alloc | apply pw_below_drewN | apply below_drew1) | exact HB.out))⟩
    unfold notePath
    rw [if_neg HD.out, if_pos HN.out, ← mk_append, ← mk_append, ← HF.out, ← mk_of d]
    try rfl
  · have tn : (n.toList == ([] : List UInt8)) = false := by rw [toList_eq]; simpa using en
    have td : (d.toList == ([] : List UInt8)) = true := by rw [toList_eq]; simpa using ed
    have HN := Aside0.mk en; have HD := Aside0.mk ed
    clear en ed
    go_enter Try.func32, Try.ntmps32
    go_wp2_with (first | ((with_reducible refine (HZ.out _).mono ?_); rintro e w' ⟨rfl, hb⟩; have nb_ := Aside0.mk (below_step (by repeat (first | (with_reducible first | exact HB.out | apply below_alloc | apply pw_below_drewN | apply below_drew1) | exact HB.out)) hb); clear HB; have HB := nb_; clear nb_; (try clear hb)))
    go_ret
    refine ⟨?_, (by repeat (first | (with_reducible first | exact HB.out | apply below_alloc | apply pw_below_drewN | apply below_drew1) | exact HB.out))⟩
    unfold notePath
    rw [if_pos HD.out, if_neg HN.out, ← mk_append, ← mk_append, ← HF.out, ← mk_of n]
    try rfl
  · have tn : (n.toList == ([] : List UInt8)) = false := by rw [toList_eq]; simpa using en
    have td : (d.toList == ([] : List UInt8)) = false := by rw [toList_eq]; simpa using ed
    have HN := Aside0.mk en; have HD := Aside0.mk ed
    clear en ed
    go_enter Try.func32, Try.ntmps32
    go_wp2_with (first | ((with_reducible refine (HZ.out _).mono ?_); rintro e w' ⟨rfl, hb⟩; have nb_ := Aside0.mk (below_step (by repeat (first | (with_reducible first | exact HB.out | apply below_alloc | apply pw_below_drewN | apply below_drew1) | exact HB.out)) hb); clear HB; have HB := nb_; clear nb_; (try clear hb)))
    go_ret
    refine ⟨?_, (by repeat (first | (with_reducible first | exact HB.out | apply below_alloc | apply pw_below_drewN | apply below_drew1) | exact HB.out))⟩
    unfold notePath
    rw [if_neg HD.out, if_neg HN.out, ← mk_append, ← mk_append, ← mk_append, ← mk_append, ← HF.out, ← mk_of d, ← mk_of n]
    try rfl
theorem word_l0 (x : L) (hz : x.length ≤ 2147483647) : ∀ (d i : Nat), i + d = x.length →
    Ev (fun k => PFnPathNote.laws_foWord.l0 k (mk x) (x.length : Int) i) ((x.drop i).all letterB && (!(x == []) && decide (x.length ≤ 20))) := by
  intro d
  induction d with
  | zero =>
    intro i hi
    rw [List.drop_eq_nil_of_le (by omega)]
    by_cases he : x = []
    · subst he
      exact Ev.step (fun k => by simp only [PFnPathNote.laws_foWord.l0]; rw [if_neg (show ¬ ((i : Int) < (([] : L).length : Int)) by simp at hi ⊢; try omega), if_pos (by rw [mk_toList])]) (Ev.now false)
    · have e1 : (([] : L).all letterB && (!(x == []) && decide (x.length ≤ 20))) = decide (((mk x).size : Int) ≤ 20) := by rw [mk_size, List.all_nil, Bool.true_and, show (x == []) = false from by simpa using he, Bool.not_false, Bool.true_and]; exact decide_eq_decide.2 (by omega)
      rw [e1]
      exact Ev.step (fun k => by simp only [PFnPathNote.laws_foWord.l0]; rw [if_neg (show ¬ ((i : Int) < (x.length : Int)) by omega), if_neg (by rw [mk_toList]; exact he)]) (Ev.now _)
  | succ d ih =>
    intro i hi
    have hlt : i < x.length := by omega
    rw [List.drop_eq_getElem_cons hlt, List.all_cons]
    have hb : bt (mk x) (i : Int) = ((x[i].toNat : Nat) : Int) := by rw [bt_mk, Int.toNat_natCast, getD_of x 0 hlt]
    have ih2 := ih (i + 1) (by omega)
    have hw : wrap64 ((i : Int) + 1) = ((i + 1 : Nat) : Int) := by rw [wrap_id (by omega) (by omega)]; rfl
    cases hl : letterB x[i] with
    | true =>
      rw [Bool.true_and]
      refine Ev.step (f := fun k => PFnPathNote.laws_foWord.l0 k (mk x) (x.length : Int) ((i + 1 : Nat) : Int)) (fun k => ?_) ih2
      simp only [PFnPathNote.laws_foWord.l0]
      simp only [letterB, Bool.or_eq_true, Bool.and_eq_true, decide_eq_true_eq] at hl
      rw [if_pos (by omega), if_pos (by omega), if_pos (by rw [mk_size]; omega), hb, hw]
      by_cases c1 : ((x[i].toNat : Nat) : Int) ≥ 97
      · rw [if_pos c1]
        by_cases c2 : ((x[i].toNat : Nat) : Int) ≤ 122
        · rw [if_pos c2]
        · rw [if_neg c2]; omega
      · rw [if_neg c1, if_pos (by omega), if_pos (by omega)]
    | false =>
      rw [Bool.false_and, Bool.false_and]
      refine Ev.step (f := fun k => some false) (fun k => ?_) (Ev.now false)
      simp only [PFnPathNote.laws_foWord.l0]
      simp only [letterB, Bool.or_eq_false_iff, Bool.and_eq_false_iff, decide_eq_false_iff_not] at hl
      rw [if_pos (by omega), if_pos (by omega), if_pos (by rw [mk_size]; omega), hb]
      by_cases c1 : ((x[i].toNat : Nat) : Int) ≥ 97
      · rw [if_pos c1, if_neg (by omega), if_pos (by omega), if_neg (by omega)]
      · rw [if_neg c1]
        by_cases c2 : ((x[i].toNat : Nat) : Int) ≥ 65
        · rw [if_pos c2, if_neg (by omega)]
        · rw [if_neg c2]
theorem foWord_calls (s : ByteArray) (hs : s.size ≤ 2147483647) (w : World) : Calls Try.prog 30 #[.string s] w fun e w' => e = .returned (.bool (word s.data.toList)) ∧ Drawn0 w w' := by
  obtain ⟨x, hx, hxs⟩ : ∃ x : L, s = mk x ∧ s.size = x.length := exists_mk s
  have hsd : s.data.toList = x := by rw [hx]; rfl
  obtain ⟨k, hk⟩ := (word_l0 x (by omega) x.length 0 (by omega)).rounds
  refine PFnPathNote.laws_foWord.calls k s _ w ?_
  unfold PFnPathNote.laws_foWord.f
  rw [hsd, hx, mk_size]
  unfold word
  rw [Bool.and_assoc]
  exact hk
end Go.Proofs.Ytllmmnhgchidkaa.Hand

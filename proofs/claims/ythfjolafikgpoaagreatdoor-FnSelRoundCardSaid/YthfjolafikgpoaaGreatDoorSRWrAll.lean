/- spec.WrittenAll: requirements as the text of a selector. -/
import Derived.Test.YthfjolafikgpoaaGreatDoorSRM29
import Derived.Test.YthfjolafikgpoaaGreatDoorSRM30
import Derived.Test.YthfjolafikgpoaaGreatDoorSRLabSetOf
namespace Go.Proofs.YthfjolafikgpoaaGreatDoor.Hand
open Go.RowKit Go.Maps Go.Proofs.YthfjolafikgpoaaGreatDoorW.PrintWords Go.Proofs.YthfjolafikgpoaaGreatDoorW.PrintLast Go.Proofs.YthfjolafikgpoaaGreatDoorW.PrintMore Go.Proofs.YthfjolafikgpoaaGreatDoor.Base
set_option linter.unusedVariables false
set_option linter.unusedSimpArgs false
set_option maxRecDepth 100000
theorem mk_app_ (a b : L) : mk (a ++ b) = mk a ++ mk b := by apply ByteArray.ext; simp [mk, ByteArray.data_append]
/-- A requirement's text, as spec.Written writes it. -/
def txtW (r : Rq) : ByteArray := textM r.2.1 (mk r.1) (joinB ⟨#[44]⟩ ((setL r.2.2).map mk))
theorem join_pcw (vs : List L) (cs : L) : joinB ⟨#[44]⟩ (vs.map mk) = mk (outL (pcwV vs) cs) := by
  cases vs with
  | nil => rfl
  | cons v r =>
    have h : ∀ (r : List L) (a : L), (r.map mk).foldl (fun x s => x ++ ⟨#[44]⟩ ++ s) (mk a) = mk (a ++ outL (r.flatMap fun s => [.str [44], .str s]) cs) := by
      intro r
      induction r with
      | nil => intro a; simp [outL]
      | cons s r ih =>
        intro a
        have e : mk a ++ (⟨#[44]⟩ : ByteArray) ++ mk s = mk (a ++ [44] ++ s) := by rw [mk_app_, mk_app_]; rfl
        show (r.map mk).foldl _ (mk a ++ ⟨#[44]⟩ ++ mk s) = _
        rw [e, ih]
        congr 1
        rw [List.flatMap_cons]
        show _ = a ++ ([44] ++ (s ++ outL (r.flatMap fun s => [.str [44], .str s]) cs))
        simp only [List.append_assoc]
    show (r.map mk).foldl _ (ByteArray.empty ++ mk v) = mk (v ++ outL (r.flatMap fun s => [.str [44], .str s]) cs)
    rw [ByteArray.empty_append, h]
theorem txtW_out {r : Rq} (hw : WordR r.1 r.2.1 (setL r.2.2)) (cs : L) : txtW r = mk (outL (pcwR r.1 r.2.1 (setL r.2.2)) cs) := by
  unfold txtW
  rw [join_pcw _ cs]
  rcases hw.o with e | e | e | e
  · rw [e]; show mk [33] ++ mk r.1 = mk ([33] ++ (r.1 ++ [])); rw [List.append_nil, mk_app_]
  · rw [e]; show mk r.1 = mk (r.1 ++ []); rw [List.append_nil]
  · rcases e with e | e
    · rw [e]
      have e2 : outL (pcwR r.1 [105, 110] (setL r.2.2)) cs = r.1 ++ ([32] ++ ([105, 110] ++ ([32] ++ ([40] ++ [])))) ++ (outL (pcwV (setL r.2.2)) cs ++ ([41] ++ [])) := by
        unfold pcwR
        rw [if_neg (by decide), if_neg (by decide), if_pos (.inl rfl), outL_app, outL_app]
        rfl
      rw [e2]
      show mk r.1 ++ mk [32, 105, 110, 32] ++ mk [40] ++ mk (outL (pcwV (setL r.2.2)) cs) ++ mk [41] = _
      rw [← mk_app_, ← mk_app_, ← mk_app_, ← mk_app_]
      simp
    · rw [e]
      have e2 : outL (pcwR r.1 [110, 111, 116, 105, 110] (setL r.2.2)) cs = r.1 ++ ([32] ++ ([110, 111, 116, 105, 110] ++ ([32] ++ ([40] ++ [])))) ++ (outL (pcwV (setL r.2.2)) cs ++ ([41] ++ [])) := by
        unfold pcwR
        rw [if_neg (by decide), if_neg (by decide), if_pos (.inr rfl), outL_app, outL_app]
        rfl
      rw [e2]
      show mk r.1 ++ mk [32, 110, 111, 116, 105, 110, 32] ++ mk [40] ++ mk (outL (pcwV (setL r.2.2)) cs) ++ mk [41] = _
      rw [← mk_app_, ← mk_app_, ← mk_app_, ← mk_app_]
      simp
  · obtain ⟨x, hx⟩ := hw.n e
    rw [hx]
    have e3 : outL (pcwV [x]) cs = x := by show x ++ [] = x; rw [List.append_nil]
    rw [e3]
    rcases e with e | e | e | e | e
    · rw [e]; show mk r.1 ++ mk [62] ++ mk x = mk (r.1 ++ ([62] ++ (x ++ []))); rw [← mk_app_, ← mk_app_]; simp
    · rw [e]; show mk r.1 ++ mk [60] ++ mk x = mk (r.1 ++ ([60] ++ (x ++ []))); rw [← mk_app_, ← mk_app_]; simp
    · rw [e]; show mk r.1 ++ mk [61] ++ mk x = mk (r.1 ++ ([61] ++ (x ++ []))); rw [← mk_app_, ← mk_app_]; simp
    · rw [e]; show mk r.1 ++ mk [61, 61] ++ mk x = mk (r.1 ++ ([61, 61] ++ (x ++ []))); rw [← mk_app_, ← mk_app_]; simp
    · rw [e]; show mk r.1 ++ mk [33, 61] ++ mk x = mk (r.1 ++ ([33, 61] ++ (x ++ []))); rw [← mk_app_, ← mk_app_]; simp
theorem word_set {key op : L} {vs : List L} (h : WordR key op vs) : WordR key op (setL vs) := by
  refine ⟨h.k, fun x hx => h.v x ((setL_mem vs x).1 hx), h.o, fun e => ?_, fun e e2 => ?_⟩
  · obtain ⟨x, rfl⟩ := h.n e; exact ⟨x, rfl⟩
  · have := setL_isEmpty vs
    rw [e2] at this
    exact h.m e (by simpa using this.symm)
/-- All requirements' texts, with commas between, are the text of their pieces. -/
theorem join_all (l : List Rq) (hw : ∀ r ∈ l, WordR r.1 r.2.1 r.2.2) : joinB ⟨#[44]⟩ (l.map txtW) = mk (outL (pcwAll (l.map setR)) []) := by
  cases l with
  | nil => rfl
  | cons r0 l =>
    have hg : ∀ (ps : List Pc) (cs : L), restL ps cs = cs ∨ True := fun _ _ => .inr trivial
    have h : ∀ (l : List Rq) (a : L) (cs : L), (∀ r ∈ l, WordR r.1 r.2.1 r.2.2) → (l.map txtW).foldl (fun x s => x ++ ⟨#[44]⟩ ++ s) (mk a) = mk (a ++ outL ((l.map setR).flatMap pcwF) cs) := by
      intro l
      induction l with
      | nil => intro a cs _; simp [outL]
      | cons s l ih =>
        intro a cs hw
        have hs := txtW_out (word_set (hw s (List.mem_cons_self ..))) cs
        have e : mk a ++ (⟨#[44]⟩ : ByteArray) ++ txtW s = mk (a ++ [44] ++ outL (pcwR s.1 s.2.1 (setL s.2.2)) cs) := by rw [mk_app_, mk_app_, hs]; rfl
        show (l.map txtW).foldl _ (mk a ++ ⟨#[44]⟩ ++ txtW s) = _
        rw [e, ih _ (restL (pcwF (setR s)) cs) (fun x hx => hw x (List.mem_cons_of_mem _ hx))]
        congr 1
        rw [List.map_cons, List.flatMap_cons, outL_app]
        show _ = a ++ (([44] ++ outL (pcwR s.1 s.2.1 (setL s.2.2)) cs) ++ _)
        simp only [List.append_assoc]
    have h0 := txtW_out (word_set (hw r0 (List.mem_cons_self ..))) []
    show (l.map txtW).foldl _ (ByteArray.empty ++ txtW r0) = mk (outL (pcwR r0.1 r0.2.1 (setL r0.2.2) ++ (l.map setR).flatMap pcwF) [])
    rw [ByteArray.empty_append, h0, h l _ (restL (pcwR r0.1 r0.2.1 (setL r0.2.2)) []) (fun x hx => hw x (List.mem_cons_of_mem _ hx)), outL_app]
end Go.Proofs.YthfjolafikgpoaaGreatDoor.Hand

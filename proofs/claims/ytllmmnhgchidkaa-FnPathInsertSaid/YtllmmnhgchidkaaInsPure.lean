/- The plain law of a part put into a path. -/
import Derived.Test.YtllmmnhgchidkaaPathJoinG
namespace Go.Proofs.Ytllmmnhgchidkaa.Hand
open Go.RowKit Go.Proofs.YtllmmnhgchidkaaW.PrintWords Go.Proofs.YtllmmnhgchidkaaW.PrintLast Go.Proofs.YtllmmnhgchidkaaW.PrintMore Go.Proofs.Ytllmmnhgchidkaa.Base Go.Proofs.Ytllmmnhgchidkaa.PFnPathParts
set_option linter.unusedVariables false
set_option linter.unusedSimpArgs false
set_option maxRecDepth 100000
/-- A place among n names. -/
def clampI (p : Int) (n : Nat) : Nat := if p < 0 then 0 else if p > (n : Int) then n else p.toNat
theorem clampI_le (p : Int) (n : Nat) : clampI p n ≤ n := by unfold clampI; split; omega; split <;> omega
def insI (l : List L) (i : Nat) (q : L) : List L := l.take i ++ q :: l.drop i
/-- What the program joins: the made row is longer than what it holds. -/
def resI (l : List L) (i : Nat) (q : L) : List L := l.take i ++ q :: List.replicate (l.length - i) [] ++ l.drop i
theorem full_append (a b : List L) : full (a ++ b) = full a ++ full b := by simp [full]
theorem full_rep (n : Nat) : full (List.replicate n []) = [] := by simp [full]
theorem good_take {l : List L} (h : Good l) (i : Nat) : Good (l.take i) := fun p hp => h p (List.mem_of_mem_take hp)
theorem good_drop {l : List L} (h : Good l) (i : Nat) : Good (l.drop i) := fun p hp => h p (List.mem_of_mem_drop hp)
theorem insI_good {l : List L} (h : Good l) (i : Nat) {q : L} (hq : Good [q]) : Good (insI l i q) := by
  intro p hp
  simp only [insI, List.mem_append, List.mem_cons] at hp
  rcases hp with hp | rfl | hp
  · exact good_take h i p hp
  · exact hq _ (by simp)
  · exact good_drop h i p hp
theorem resI_full {l : List L} (h : Good l) (i : Nat) {q : L} (hq : Good [q]) : full (resI l i q) = insI l i q := by
  unfold resI insI
  rw [full_append, full_append, (good_take h i).full, (good_drop h i).full, show q :: List.replicate (l.length - i) [] = [q] ++ List.replicate (l.length - i) [] from rfl, full_append, full_rep, hq.full]
  simp
theorem insI_ne (l : List L) (i : Nat) (q : L) : insI l i q ≠ [] := by simp [insI]
theorem res_join {l : List L} (h : Good l) (i : Nat) {q : L} (hq : Good [q]) : joinPath (resI l i q) = joinL [47] (insI l i q) := by
  unfold joinPath; rw [resI_full h i hq, if_neg (insI_ne l i q)]; exact clean_join (insI_good h i hq) (insI_ne l i q)
theorem ins_join {l : List L} (h : Good l) (i : Nat) {q : L} (hq : Good [q]) : joinPath (insI l i q) = joinL [47] (insI l i q) := joinPath_good (insI_good h i hq) (insI_ne l i q)
theorem resI_len (l : List L) (i : Nat) (q : L) (hi : i ≤ l.length) : (resI l i q).length = l.length + 1 + (l.length - i) := by simp [resI]; omega
/-- Where the program puts it: an empty first part stands aside. -/
def spotI (P : List L) (p : Int) : Nat := let i := clampI p P.length; if P.head? = some [] ∧ i < P.length then i + 1 else i
theorem spot_rooted (ns : List L) (p : Int) : spotI ([] :: ns) p = clampI p ns.length + 1 := by
  unfold spotI clampI
  simp only [List.head?_cons, List.length_cons, true_and]
  split
  · simp
  · split
    · rename_i h1 h2
      have h3 : p > (ns.length : Int) := by omega
      rw [if_pos h3]; simp
    · rename_i h1 h2
      by_cases h3 : p > (ns.length : Int)
      · rw [if_pos h3]; have : p.toNat = ns.length + 1 := by omega
        rw [this]; simp
      · rw [if_neg h3, if_pos (by omega)]
theorem spot_plain {ns : List L} (h : Good ns) (p : Int) : spotI ns p = clampI p ns.length := by
  unfold spotI
  have : ¬ (ns.head? = some [] ∧ clampI p ns.length < ns.length) := by
    rintro ⟨h1, _⟩
    cases ns with
    | nil => simp at h1
    | cons a t => simp at h1; subst h1; exact (h [] (by simp)).1 rfl
  simp only [this, if_false]
theorem res_rooted (ns : List L) (i : Nat) (q : L) : resI ([] :: ns) (i + 1) q = [] :: resI ns i q := by simp [resI]
theorem res_head {ns : List L} (h : Good ns) (i : Nat) {q : L} (hq : Good [q]) : (resI ns i q).getD 0 [] ≠ [] ∧ resI ns i q ≠ [] := by
  cases ns with
  | nil => simp [resI]; exact (hq q (by simp)).1
  | cons a t =>
    cases i with
    | zero => simp [resI]; exact (hq q (by simp)).1
    | succ i => simp [resI]; exact (h a (by simp)).1
end Go.Proofs.Ytllmmnhgchidkaa.Hand

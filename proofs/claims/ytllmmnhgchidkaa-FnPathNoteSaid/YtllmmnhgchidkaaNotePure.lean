/- The plain law of a resource's path: letters joined are a clean path. -/
import Derived.Test.YtllmmnhgchidkaaPathPure
namespace Go.Proofs.Ytllmmnhgchidkaa.Hand
open Go.RowKit Go.Proofs.YtllmmnhgchidkaaW.PrintWords Go.Proofs.YtllmmnhgchidkaaW.PrintLast Go.Proofs.YtllmmnhgchidkaaW.PrintMore Go.Proofs.Ytllmmnhgchidkaa.Base
set_option linter.unusedVariables false
set_option linter.unusedSimpArgs false
set_option maxRecDepth 100000
def letterB (c : UInt8) : Bool := (decide (97 ≤ c.toNat) && decide (c.toNat ≤ 122)) || (decide (65 ≤ c.toNat) && decide (c.toNat ≤ 90))
def word (s : L) : Bool := s.all letterB && !(s == []) && decide (s.length ≤ 20)
def lowB (c : UInt8) : UInt8 := if 65 ≤ c.toNat ∧ c.toNat ≤ 90 then c + 32 else c
def lowL (s : L) : L := s.map lowB
def fileOf (k m : L) : L := lowL k ++ [95] ++ m ++ [46, 121, 97, 109, 108]
def notePath (d n k m : L) : L :=
  if d = [] then (if n = [] then fileOf k m else n ++ [47] ++ fileOf k m) else d ++ [47] ++ (if n = [] then fileOf k m else n ++ [47] ++ fileOf k m)
theorem letter_low {c : UInt8} (h : letterB c = true) : lowB c ≠ 47 := by
  intro e
  have e2 := congrArg UInt8.toNat e
  have h47 : (47 : UInt8).toNat = 47 := rfl
  rw [h47] at e2
  simp only [letterB, Bool.or_eq_true, Bool.and_eq_true, decide_eq_true_eq] at h
  unfold lowB at e2
  split at e2
  · rw [UInt8.toNat_add] at e2
    have : (32 : UInt8).toNat = 32 := rfl
    rw [this] at e2; omega
  · omega
theorem letter_ne {c : UInt8} (h : letterB c = true) : c ≠ 47 ∧ c ≠ 46 := by
  constructor <;> intro e <;> subst e <;> exact absurd h (by decide)
theorem word_parts {s : L} (h : word s = true) : (∀ c ∈ s, letterB c = true) ∧ s ≠ [] ∧ s.length ≤ 20 := by
  unfold word at h
  simp only [Bool.and_eq_true, List.all_eq_true, decide_eq_true_eq, Bool.not_eq_true', beq_eq_false_iff_ne, ne_eq] at h
  exact ⟨h.1.1, h.1.2, h.2⟩
theorem word_good {s : L} (h : word s = true) : s ≠ [] ∧ noSep s ∧ s ≠ [46] ∧ s ≠ [46, 46] := by
  obtain ⟨h1, h2, _⟩ := word_parts h
  refine ⟨h2, fun c hc => (letter_ne (h1 c hc)).1, ?_, ?_⟩ <;> intro e <;> subst e
  · exact (letter_ne (h1 46 (by simp))).2 rfl
  · exact (letter_ne (h1 46 (by simp))).2 rfl
theorem file_good {k m : L} (hk : word k = true) (hm : word m = true) : fileOf k m ≠ [] ∧ noSep (fileOf k m) ∧ fileOf k m ≠ [46] ∧ fileOf k m ≠ [46, 46] ∧ (fileOf k m).length ≤ 46 := by
  obtain ⟨h1, h2, h3⟩ := word_parts hk
  obtain ⟨g1, g2, g3⟩ := word_parts hm
  have hl : (fileOf k m).length = k.length + 1 + m.length + 5 := by simp [fileOf, lowL]; omega
  refine ⟨fun e => ?_, fun c hc => ?_, fun e => ?_, fun e => ?_, by omega⟩
  · rw [e] at hl; simp at hl
  · simp only [fileOf, lowL, List.mem_append, List.mem_map, List.mem_singleton, List.mem_cons, List.not_mem_nil, or_false] at hc
    rcases hc with ((⟨a, ha, rfl⟩ | rfl) | hc) | rfl | rfl | rfl | rfl | rfl
    · exact letter_low (h1 a ha)
    · decide
    · exact (letter_ne (g1 c hc)).1
    all_goals decide
  · rw [e] at hl; simp at hl; try omega
  · rw [e] at hl; simp at hl; try omega
theorem joinPath_full {l ns : List L} (hf : full l = ns) (h : Good ns) (hne : ns ≠ []) : joinPath l = joinL [47] ns := by
  unfold joinPath; rw [hf, if_neg hne]; exact clean_join h hne
theorem note_join {d n k m : L} (hd : d = [] ∨ word d = true) (hn : n = [] ∨ word n = true) (hk : word k = true) (hm : word m = true) : joinPath [d, n, fileOf k m] = notePath d n k m := by
  have hf := file_good hk hm
  have f1 : Good [fileOf k m] := fun p hp => by simp at hp; subst hp; exact ⟨hf.1, hf.2.1, hf.2.2.1, hf.2.2.2.1⟩
  unfold notePath
  by_cases ed : d = []
  · by_cases en : n = []
    · rw [if_pos ed, if_pos en, joinPath_full (ns := [fileOf k m]) (by subst ed en; simp [full, hf.1]) f1 (by simp)]; simp [joinL]
    · have gn := word_good (hn.resolve_left en)
      rw [if_pos ed, if_neg en, joinPath_full (ns := [n, fileOf k m]) (by subst ed; simp [full, hf.1, en]) (fun p hp => by simp at hp; rcases hp with rfl | rfl; exact gn; exact f1 _ (by simp)) (by simp)]; simp [joinL]
  · have gd := word_good (hd.resolve_left ed)
    by_cases en : n = []
    · rw [if_neg ed, if_pos en, joinPath_full (ns := [d, fileOf k m]) (by subst en; simp [full, hf.1, ed]) (fun p hp => by simp at hp; rcases hp with rfl | rfl; exact gd; exact f1 _ (by simp)) (by simp)]; simp [joinL]
    · have gn := word_good (hn.resolve_left en)
      rw [if_neg ed, if_neg en, joinPath_full (ns := [d, n, fileOf k m]) (by simp [full, hf.1, ed, en]) (fun p hp => by simp at hp; rcases hp with rfl | rfl | rfl; exact gd; exact gn; exact f1 _ (by simp)) (by simp)]; simp [joinL]
end Go.Proofs.Ytllmmnhgchidkaa.Hand

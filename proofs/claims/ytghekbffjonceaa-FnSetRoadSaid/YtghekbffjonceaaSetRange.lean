/- A range over a set: what is still to come, as a list of keys. -/
import Derived.Test.YtghekbffjonceaaSetSort
namespace Go.Proofs.Ytghekbffjonceaa.Hand
open Go.RowKit Go.Maps Go.Proofs.YtghekbffjonceaaW.PrintWords Go.Proofs.YtghekbffjonceaaW.PrintLast Go.Proofs.YtghekbffjonceaaW.PrintMore Go.Proofs.Ytghekbffjonceaa.Base
set_option linter.unusedVariables false
set_option linter.unusedSimpArgs false
set_option maxRecDepth 100000
/-- Block r is a loop over the set of block b: the keys of left are still to come, each once; cnt rounds at most. -/
def IsRange (w : World) (b r N cnt : Nat) (ks left : List L) : Prop :=
  ∃ (D : DataW Unit) (lf : Lit → Bool), w.ranges Try.prog 9 unitElem b r N D lf cnt ∧ ks.Nodup ∧ (∀ x : L, Maps.has D (.string x) = ks.contains x) ∧ Maps.size D = ks.length ∧ (∀ x : L, lf (.string x) = left.contains x)
theorem IsRange.set {w : World} {b r N cnt : Nat} {ks left : List L} (h : IsRange w b r N cnt ks left) : IsSet w b N ks := by
  obtain ⟨D, lf, h1, h2, h3, h4, _⟩ := h; exact ⟨D, h1.owns, h2, h3, h4⟩
theorem IsRange.iter {w : World} {b r N cnt : Nat} {ks left : List L} (h : IsRange w b r N cnt ks left) : ∃ x y z t, w.heap[r]? = some (.mapIter x y z t) := by
  obtain ⟨D, lf, ⟨es, clock, since, seen, c0, _, _, _, _, hr, _⟩, _⟩ := h; exact ⟨_, _, _, _, hr⟩
theorem IsRange.kept {w w' : World} {b r N cnt : Nat} {ks left : List L} {row : Option Nat} (h : IsRange w b r N cnt ks left) (hg : w.grownBy w' row) (h1 : some b ≠ row) (h2 : some r ≠ row) : IsRange w' b r N cnt ks left := by
  obtain ⟨D, lf, h3, h4⟩ := h; exact ⟨D, lf, h3.kept hg h1 h2, h4⟩
theorem IsRange.below {w w' : World} {b r N cnt : Nat} {ks left : List L} (h : IsRange w b r N cnt ks left) (hb : Below w.heap.size w w') : IsRange w' b r N cnt ks left := h.kept (grown_of_below hb none) (by simp) (by simp)
theorem IsRange.alloc {w : World} {b r N cnt : Nat} {ks left : List L} (h : IsRange w b r N cnt ks left) (o : Obj) : IsRange (w.alloc o) b r N cnt ks left := h.below (below_alloc (Below.refl _ _) o)
theorem IsRange.drewN {w : World} {b r N cnt : Nat} {ks left : List L} (h : IsRange w b r N cnt ks left) (n : Nat) : IsRange (w.drewN n) b r N cnt ks left := h.below (pw_below_drewN (Below.refl _ _) n)
/-- A row of texts while a loop's own block is written. -/
theorem R_iter {W W' : World} {base r : Nat} {v : Value} {xs : List ByteArray} (h : Kd.R Kd.string 9 W base (fun _ => True) v xs) (hr : ∃ x y z t, W.heap[r]? = some (.mapIter x y z t)) (hg : W.grownBy W' (some r)) : Kd.R Kd.string 9 W' base (fun _ => True) v xs := by
  refine Kd.R_grown1 h rfl hg (fun he => ?_)
  obtain ⟨cells, hc⟩ := Kd.R_typed h r he.symm
  obtain ⟨x, y, z, t, hr⟩ := hr
  rw [hr] at hc; cases hc
/-- The blocks of a loop are none of a row's. -/
theorem row_ne {W : World} {base b r N cnt : Nat} {v : Value} {xs : List ByteArray} {ks left : List L} (h : Kd.R Kd.string 9 W base (fun _ => True) v xs) (hr : IsRange W b r N cnt ks left) : some b ≠ v.ownBlock ∧ some r ≠ v.ownBlock := by
  constructor
  · intro he
    obtain ⟨cells, hc⟩ := Kd.R_typed h b he.symm
    obtain ⟨es, c, hm⟩ := hr.set.map
    rw [hm] at hc; cases hc
  · intro he
    obtain ⟨cells, hc⟩ := Kd.R_typed h r he.symm
    obtain ⟨x, y, z, t, hm⟩ := hr.iter
    rw [hm] at hc; cases hc
theorem contains_nil {left : List L} (h : ∀ x : L, left.contains x = false) : left = [] := by
  cases left with
  | nil => rfl
  | cons a l => have := h a; simp at this
section
variable (w : World) {ops : Array Oper} {rest : List Oper} {o : Oper} {a : Act} {Q : Exit → Act → World → Prop}
theorem range_set (hg : o.guard = none) (m : Operand) (hop : o.op = Op.range 42 m) (b N : Nat) (ks : List L) (hm : a.eval m = .map (some b)) (h : IsSet w b N ks)
    (hK : ∀ w', IsRange w' b w.heap.size N ks.length ks ks → w.grownBy w' none → w'.heap.size = w.heap.size + 1 → wpList Try.prog ops Q rest (a.put o.dst (.pointer (some ⟨w.heap.size, 0, none⟩))) w') :
    wpList Try.prog ops Q (o :: rest) a w := by
  obtain ⟨D, hown, hn, hh, hs⟩ := h
  refine wpList_range_own w hg m 42 hop 9 51 lawK Try.underlying42 _ b N D hm hown ?_
  intro w' h1 h2 h3
  rw [hs] at h1
  exact hK w' ⟨D, _, h1, hn, hh, hs, hh⟩ h2 h3
theorem next_set (hg : o.guard = none) (it : Operand) (hop : o.op = Op.next it false) (b r N cnt : Nat) (ks left : List L) (hit : a.eval it = .pointer (some ⟨r, 0, none⟩)) (h : IsRange w b r N cnt ks left)
    (hDone : cnt = 0 → left = [] → wpList Try.prog ops Q rest (a.put o.dst (.tuple #[.bool false])) w)
    (hMore : ∀ (s : ByteArray) (w' : World) (cnt' : Nat), s.size ≤ 9223372036854775807 → s.data.toList ∈ left → IsRange w' b r N cnt' ks (delK left s.data.toList) → cnt' < cnt → w.grownBy w' (some r) → w'.heap.size = w.heap.size →
      (Instr.entry (.pointer (some ⟨r, 0, none⟩))).run Try.prog w' = .ok (.tuple #[.string s, .agg #[]]) w' → wpList Try.prog ops Q rest (a.put o.dst (.tuple #[.bool true, .string s, .agg #[]])) w') :
    wpList Try.prog ops Q (o :: rest) a w := by
  obtain ⟨D, lf, hrg, hn, hh, hs, hl⟩ := h
  refine wpList_next_ranges (β := Unit) w hg it hop 9 lawK unitElem Value.string (fun _ => .agg #[]) (fun key kl hkey => by obtain ⟨s, rfl, _⟩ := WideMaps.string_of_keyOf Try.underlying9 hkey; exact ⟨s, rfl⟩) (fun v y hv => by obtain ⟨rfl, _⟩ := unitElem_inv hv; exact ⟨(), rfl⟩)
    b r N D lf cnt hit hrg (fun h0 hall => hDone h0 (contains_nil fun x => by rw [← hl]; exact hall _)) ?_
  intro s c kl y w' cnt' hkey hlk hv hat hrg' hlt hgr hsz hen
  obtain ⟨s', e, rfl, hss⟩ := WideMaps.string_of_keyOf Try.underlying9 hkey
  cases e
  refine hMore s w' cnt' hss (by have h := hl s.data.toList; rw [hlk] at h; simpa using h.symm) ⟨D, _, hrg', hn, hh, hs, fun x => ?_⟩ hlt hgr hsz hen
  rw [delK_contains, hl]
  congr 1
end
end Go.Proofs.Ytghekbffjonceaa.Hand

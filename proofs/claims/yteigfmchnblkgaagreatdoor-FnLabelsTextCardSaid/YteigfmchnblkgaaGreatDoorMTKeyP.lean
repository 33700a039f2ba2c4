/- Labels by their keys: the list that spec.Keyed makes; pairs of texts in a row of the call's own. -/
import Derived.Test.YteigfmchnblkgaaGreatDoorMTM9
import Derived.Test.YteigfmchnblkgaaGreatDoorMTM11
namespace Go.Proofs.YteigfmchnblkgaaGreatDoor.Hand
open Go.RowKit Go.Maps Go.Proofs.YteigfmchnblkgaaGreatDoorW.PrintWords Go.Proofs.YteigfmchnblkgaaGreatDoorW.PrintLast Go.Proofs.YteigfmchnblkgaaGreatDoorW.PrintMore Go.Proofs.YteigfmchnblkgaaGreatDoor.Base
open Go.Sort (ltStr)
set_option linter.unusedVariables false
set_option linter.unusedSimpArgs false
set_option maxRecDepth 100000
abbrev LP := L × L
def posK : List LP → L → Nat
  | [], _ => 0
  | y :: r, s => if ltStr y.1 s = true then posK r s + 1 else 0
def insK (out : List LP) (p : LP) : List LP := if (out[posK out p.1]?).map (·.1) = some p.1 then out.set (posK out p.1) p else out.take (posK out p.1) ++ p :: out.drop (posK out p.1)
/-- Labels by rising keys, of keys that stand twice the last one. -/
def keyL (l : List LP) : List LP := l.foldl insK []
theorem posK_le : ∀ (out : List LP) (s : L), posK out s ≤ out.length
  | [], _ => Nat.le_refl _
  | y :: r, s => by
    unfold posK
    split
    · have := posK_le r s; simp only [List.length_cons]; omega
    · exact Nat.zero_le _
theorem posK_lt : ∀ (out : List LP) (s : L) (k : Nat) (h : k < out.length), k < posK out s → ltStr out[k].1 s = true
  | y :: r, s, 0, h, hk => by
    unfold posK at hk
    split at hk
    · assumption
    · omega
  | y :: r, s, k + 1, h, hk => by
    unfold posK at hk
    split at hk
    · exact posK_lt r s k (by simpa using h) (by omega)
    · omega
theorem posK_at : ∀ (out : List LP) (s : L) (h : posK out s < out.length), ltStr out[posK out s].1 s = false
  | y :: r, s, h => by
    by_cases e : ltStr y.1 s = true
    · have hp : posK (y :: r) s = posK r s + 1 := by show (if _ then _ else _) = _; rw [if_pos e]
      have h2 : posK r s < r.length := by rw [hp] at h; simpa using h
      have := posK_at r s h2
      simp only [hp, List.getElem_cons_succ]
      exact this
    · have hp : posK (y :: r) s = 0 := by show (if _ then _ else _) = _; rw [if_neg e]
      simp only [hp, List.getElem_cons_zero]
      simpa using e
theorem keyL_len (l : List LP) : (keyL l).length ≤ l.length := by
  have h : ∀ (l out : List LP), (l.foldl insK out).length ≤ out.length + l.length := by
    intro l
    induction l with
    | nil => intro out; exact Nat.le_refl _
    | cons p l ih =>
      intro out
      have h1 := ih (insK out p)
      have h2 : (insK out p).length ≤ out.length + 1 := by
        unfold insK
        split
        · rw [List.length_set]; omega
        · rw [List.length_append, List.length_cons, List.length_take, List.length_drop]; omega
      rw [List.foldl_cons, List.length_cons]; omega
  simpa [keyL] using h l []
theorem keyL_snoc {l : List LP} {j : Nat} {p : LP} (h : l[j]? = some p) : keyL (l.take (j + 1)) = insK (keyL (l.take j)) p := by
  unfold keyL
  rw [List.take_add_one, h, List.foldl_append]; rfl
abbrev mkP (p : LP) : ByteArray × ByteArray := (mk p.1, mk p.2)
abbrev unP (p : ByteArray × ByteArray) : LP := (p.1.data.toList, p.2.data.toList)
/-- The cells of pairs. -/
def encP (xs : List (ByteArray × ByteArray)) : List Value := xs.flatMap fun p => [.string p.1, .string p.2]
theorem encP_len (xs : List (ByteArray × ByteArray)) : (encP xs).length = xs.length * 2 := by
  induction xs with
  | nil => rfl
  | cons p xs ih => rw [List.length_cons]; show (encP xs).length + 1 + 1 = _; rw [ih]; omega
theorem encP_take (xs : List (ByteArray × ByteArray)) (n : Nat) : (encP xs).take (n * 2) = encP (xs.take n) := by
  induction xs generalizing n with
  | nil => simp [encP]
  | cons p xs ih =>
    cases n with
    | zero => rfl
    | succ n =>
      show ([Value.string p.1, .string p.2] ++ encP xs).take ((n + 1) * 2) = [Value.string p.1, .string p.2] ++ encP (xs.take n)
      rw [← ih, show (n + 1) * 2 = n * 2 + 1 + 1 by omega]; rfl
theorem encP_drop (xs : List (ByteArray × ByteArray)) (n : Nat) : (encP xs).drop (n * 2) = encP (xs.drop n) := by
  induction xs generalizing n with
  | nil => simp [encP]
  | cons p xs ih =>
    cases n with
    | zero => rfl
    | succ n =>
      show ([Value.string p.1, .string p.2] ++ encP xs).drop ((n + 1) * 2) = encP (xs.drop n)
      rw [← ih, show (n + 1) * 2 = n * 2 + 1 + 1 by omega]; rfl
theorem encP_app (a b : List (ByteArray × ByteArray)) : encP (a ++ b) = encP a ++ encP b := by simp [encP]
theorem encP_one (v : Value) (xs : List (ByteArray × ByteArray)) (h : v ∈ encP xs) : v.oneCell' = true := by
  obtain ⟨p, _, hv⟩ := List.mem_flatMap.1 h
  rcases List.mem_cons.1 hv with e | hv
  · rw [e]; rfl
  · rw [List.mem_singleton.1 hv]; rfl
theorem pk_cs {w : World} {base : Nat} {ok : Nat → Prop} {p : ByteArray × ByteArray} {cs : List Value} (h : PK.M w base ok p cs) : cs = [.string p.1, .string p.2] := by
  obtain ⟨c0, c1, rfl, h0, h1⟩ := h
  have e0 : c0 = [.string p.1] := h0
  have e1 : c1 = [.string p.2] := h1
  rw [e0, e1]; rfl
theorem reps_enc {w : World} {base : Nat} {ok : Nat → Prop} : ∀ (xs : List (ByteArray × ByteArray)), Reps (PK.M w base ok) 2 xs (encP xs) := fun xs => by
  refine ⟨encP_len xs, fun j p hp => ?_⟩
  obtain ⟨hj, e⟩ := List.getElem?_eq_some_iff.1 hp
  rw [encP_drop, List.drop_eq_getElem_cons hj, e]
  exact ⟨[_], [_], rfl, rfl, rfl⟩
theorem enc_reps {w : World} {base : Nat} {ok : Nat → Prop} : ∀ (xs : List (ByteArray × ByteArray)) (inner : List Value), Reps (PK.M w base ok) 2 xs inner → inner = encP xs
  | [], inner, h => by
    have := h.1
    simpa [encP] using this
  | p :: xs, inner, h => by
    have hl := h.1
    have h0 := pk_cs (h.2 0 p rfl)
    rw [Nat.zero_mul, List.drop_zero] at h0
    have hr : Reps (PK.M w base ok) 2 xs (inner.drop 2) := by
      refine ⟨by rw [List.length_drop, hl, List.length_cons]; omega, fun j q hq => ?_⟩
      have := h.2 (j + 1) q hq
      rw [List.drop_drop]
      rw [show (j + 1) * 2 = 2 + j * 2 by omega] at this
      exact this
    have ih := enc_reps xs _ hr
    rw [← List.take_append_drop 2 inner, h0, ih]
    rfl
theorem pk_own {e : Nat} {w : World} {base : Nat} {ok : Nat → Prop} {v : Value} {xs : List (ByteArray × ByteArray)} (h : PK.R e w base ok v xs) : w.ownsRow base e 2 v xs.length (encP xs) := by
  obtain ⟨_, inner, ho, hr⟩ := h
  rw [← enc_reps xs inner hr]; exact ho
theorem pk_of_own {e : Nat} {w : World} {base : Nat} {v : Value} {xs : List (ByteArray × ByteArray)} (h : w.ownsRow base e 2 v xs.length (encP xs)) : PK.R e w base (fun _ => True) v xs := ⟨fun _ _ => trivial, encP xs, h, reps_enc xs⟩
/-- copy(out[p+1:], out[p:]) over an owned row of n + 1 pairs. -/
theorem shift_pk {e : Nat} {W : World} {base g cap n p : Nat} {xs : List (ByteArray × ByteArray)} (hR : PK.R e W base (fun _ => True) (.slice (some ⟨g, 0, none⟩) (n + 1) cap) xs) (hp : p ≤ n) :
    ∃ cur cs : List Value, cs.length = (n - p) * 2 ∧ n + 1 ≤ cap ∧ cur.length = cap * 2 ∧ base ≤ g ∧ W.heap[g]? = some (.cells cur.toArray e (0, 0)) ∧ (∀ j v, cs[j]? = some v → W.cell? ((⟨g, p * 2, none⟩ : Addr).add j) = some v) ∧ (∀ v ∈ cs, v.oneCell' = true) ∧
      ∀ W' : World, W'.heap[g]? = some (.cells (splice cur ((p + 1) * 2) cs).toArray e (0, 0)) → PK.R e W' base (fun _ => True) (.slice (some ⟨g, 0, none⟩) (n + 1) cap) (xs.take (p + 1) ++ (xs.drop p).take (n - p)) := by
  have hown := pk_own hR
  obtain ⟨hl, ⟨e0, _⟩ | ⟨g', cap', cur, e0, hbase, hcur, hn, hcm, hsz, htk⟩⟩ := hown
  · exact absurd e0 (by simp)
  · have hg : g' = g ∧ n + 1 = xs.length ∧ cap' = cap := by
      simp only [Value.slice.injEq, Option.some.injEq, Addr.mk.injEq] at e0
      exact ⟨e0.1.1.symm, e0.2.1, e0.2.2.symm⟩
    obtain ⟨rfl, hnx, rfl⟩ := hg
    have hxs : (cur.toList.take ((n + 1) * 2)) = encP xs := by rw [← htk, ← hnx]
    have hcl : cur.toList.length = cap' * 2 := by rw [Array.length_toList, hsz]
    have hcs : (cur.toList.drop (p * 2)).take ((n - p) * 2) = encP ((xs.drop p).take (n - p)) := by
      rw [← encP_take, ← encP_drop, ← hxs, List.drop_take, List.take_take]
      congr 1; omega
    refine ⟨cur.toList, (cur.toList.drop (p * 2)).take ((n - p) * 2), by rw [List.length_take, List.length_drop, hcl]; omega, by omega, hcl, hbase, by simpa using hcur, fun j v hv => ?_, fun v hv => ?_, fun W' hW' => pk_of_own ?_⟩
    · have hj : j < (n - p) * 2 := by
        have := (List.getElem?_eq_some_iff.1 hv).1
        rw [List.length_take] at this; omega
      rw [List.getElem?_take_of_lt hj, List.getElem?_drop] at hv
      rw [Addr.add_lit]
      simpa [World.cell?, hcur] using hv
    · rw [hcs] at hv; exact encP_one v _ hv
    · have hyl : (xs.take (p + 1) ++ (xs.drop p).take (n - p)).length = n + 1 := by simp; omega
      refine ⟨encP_len _, .inr ⟨g', cap', (splice cur.toList ((p + 1) * 2) ((cur.toList.drop (p * 2)).take ((n - p) * 2))).toArray, by rw [hyl], hbase, hW', by rw [hyl]; omega, hcm, ?_, ?_⟩⟩
      · rw [List.size_toArray]; unfold splice; simp only [List.length_append, List.length_take, List.length_drop, hcl]; omega
      · rw [hyl, List.toList_toArray]
        have e1 : (splice cur.toList ((p + 1) * 2) ((cur.toList.drop (p * 2)).take ((n - p) * 2))).take ((n + 1) * 2) = cur.toList.take ((p + 1) * 2) ++ (cur.toList.drop (p * 2)).take ((n - p) * 2) := by
          unfold splice
          rw [← List.append_assoc, List.take_append_of_le_length (by simp only [List.length_append, List.length_take, List.length_drop, hcl]; omega)]
          exact List.take_of_length_le (by simp only [List.length_append, List.length_take, List.length_drop, hcl]; omega)
        have e2 : cur.toList.take ((p + 1) * 2) = encP (xs.take (p + 1)) := by
          rw [← encP_take, ← hxs, List.take_take]
          congr 1; omega
        rw [e1, hcs, e2, encP_app]
/-- A pair of an owned row, set. -/
theorem put_pk {e : Nat} {W : World} {base g cap : Nat} {xs : List (ByteArray × ByteArray)} (hR : PK.R e W base (fun _ => True) (.slice (some ⟨g, 0, none⟩) xs.length cap) xs) (p : Nat) (hp : p < xs.length) (k t : ByteArray) :
    W.cell? ⟨g, p * 2, none⟩ = some (.string (xs[p]).1) ∧ W.cell? ⟨g, p * 2 + 1, none⟩ = some (.string (xs[p]).2) ∧ W.frozen? ⟨g, p * 2, none⟩ = false ∧ W.frozen? ⟨g, p * 2 + 1, none⟩ = false ∧
    (W.setCell ⟨g, p * 2, none⟩ (.string k)).cell? ⟨g, p * 2 + 1, none⟩ = some (.string (xs[p]).2) ∧ (W.setCell ⟨g, p * 2, none⟩ (.string k)).frozen? ⟨g, p * 2 + 1, none⟩ = false ∧ base ≤ g ∧
    PK.R e ((W.setCell ⟨g, p * 2, none⟩ (.string k)).setCell ⟨g, p * 2 + 1, none⟩ (.string t)) base (fun _ => True) (.slice (some ⟨g, 0, none⟩) xs.length cap) (xs.set p (k, t)) := by
  have hown := pk_own hR
  obtain ⟨hl, ⟨e0, _⟩ | ⟨g', cap', cur, e0, hbase, hcur, hn, hcm, hsz, htk⟩⟩ := hown
  · exact absurd e0 (by simp)
  · have hg : g' = g ∧ cap' = cap := by
      simp only [Value.slice.injEq, Option.some.injEq, Addr.mk.injEq] at e0
      exact ⟨e0.1.1.symm, e0.2.2.symm⟩
    obtain ⟨rfl, rfl⟩ := hg
    have hat : ∀ i, i < 2 → cur[p * 2 + i]? = (encP xs)[p * 2 + i]? := fun i hi => by
      rw [← htk, List.getElem?_take_of_lt (by omega), Array.getElem?_toList]
    have hpx : (encP xs).drop (p * 2) = [.string (xs[p]).1, .string (xs[p]).2] ++ encP (xs.drop (p + 1)) := by
      rw [encP_drop, List.drop_eq_getElem_cons hp]; rfl
    have h0 : cur[p * 2]? = some (.string (xs[p]).1) := by
      have := hat 0 (by omega)
      rw [Nat.add_zero] at this
      rw [this, show p * 2 = p * 2 + 0 from rfl, ← List.getElem?_drop, hpx]; rfl
    have h1 : cur[p * 2 + 1]? = some (.string (xs[p]).2) := by
      rw [hat 1 (by omega), ← List.getElem?_drop, hpx]; rfl
    have hput1 := blk_put hcur (p * 2) (.string k) (cs' := cur.setIfInBounds (p * 2) (.string k)) rfl
    have hput2 := blk_put hput1 (p * 2 + 1) (.string t) (cs' := (cur.setIfInBounds (p * 2) (.string k)).setIfInBounds (p * 2 + 1) (.string t)) rfl
    refine ⟨(blk_cell hcur _).trans h0, (blk_cell hcur _).trans h1, blk_frozen hcur _, blk_frozen hcur _, (blk_cell hput1 _).trans (by rw [Array.getElem?_setIfInBounds_ne (by omega)]; exact h1), blk_frozen hput1 _, hbase, pk_of_own ?_⟩
    refine ⟨by rw [encP_len, List.length_set], .inr ⟨g', cap', _, by rw [List.length_set], hbase, hput2, by rw [List.length_set]; exact hn, hcm, by rw [Array.size_setIfInBounds, Array.size_setIfInBounds]; exact hsz, ?_⟩⟩
    rw [List.length_set, Array.toList_setIfInBounds, Array.toList_setIfInBounds, List.take_set, List.take_set, htk]
    have e1 : encP xs = encP (xs.take p) ++ ([.string (xs[p]).1, .string (xs[p]).2] ++ encP (xs.drop (p + 1))) := by
      rw [← hpx, ← encP_take, List.take_append_drop]
    have e2 : xs.set p (k, t) = xs.take p ++ (k, t) :: xs.drop (p + 1) := List.set_eq_take_append_cons_drop .. |>.trans (if_pos hp)
    have hln : (encP (xs.take p)).length = p * 2 := by rw [encP_len, List.length_take]; congr 1; omega
    rw [e1, e2, encP_app]
    rw [List.set_append_right _ _ (by omega), hln, Nat.sub_self]
    rw [List.set_append_right _ _ (by omega), hln, show p * 2 + 1 - p * 2 = 1 by omega]
    rfl
end Go.Proofs.YteigfmchnblkgaaGreatDoor.Hand

/- Errors of labels: errors.New, strconv.ParseInt, validateLabelKey, validateLabelValue. -/
import Derived.Test.YteigfmchnblkgaaDoorLabMap
import Derived.Test.YteigfmchnblkgaaDoorNmChk60
import Derived.Test.YteigfmchnblkgaaDoorNmChk76
import Derived.Lib.ParseIntB
namespace Go.Proofs.YteigfmchnblkgaaDoor.Hand
open Go.RowKit Go.Maps Go.Proofs.YteigfmchnblkgaaDoorW.PrintWords Go.Proofs.YteigfmchnblkgaaDoorW.PrintLast Go.Proofs.YteigfmchnblkgaaDoorW.PrintMore Go.Proofs.YteigfmchnblkgaaDoor.Base
set_option linter.unusedVariables false
set_option linter.unusedSimpArgs false
set_option maxRecDepth 100000

/-- What the program's variables hold. -/
structure TV (w : World) : Prop where
  tab : Tab w
  sy : ∃ ev, w.cell? ⟨0, 0, none⟩ = some ev ∧ (ev = .nilIface ∨ ∃ te pe, ev = .iface te pe)
  rg : ∃ ev, w.cell? ⟨1, 0, none⟩ = some ev ∧ (ev = .nilIface ∨ ∃ te pe, ev = .iface te pe)
theorem TV.below {w w' : World} (h : TV w) (hb : Below w.heap.size w w') : TV w' := by
  refine ⟨h.tab.below hb, ?_, ?_⟩
  · obtain ⟨ev, h1, h2⟩ := h.sy
    exact ⟨ev, (hb.cell (World.block_lt_of_cell? w _ h1)).trans h1, h2⟩
  · obtain ⟨ev, h1, h2⟩ := h.rg
    exact ⟨ev, (hb.cell (World.block_lt_of_cell? w _ h1)).trans h1, h2⟩
/-- A whole number, as it is read. -/
def pint (l : L) : Option Int := match Lib.parseIntB 64 l with | .ok v => some v | _ => none
theorem pint_ok (s : ByteArray) (hs : s.size ≤ 2147483647) (v : Int) (h : pint s.data.toList = some v) (w : World) :
    Calls Tryd.prog 17 #[.string s, .int .i64 10, .int .i64 64] w fun e w' => e = .returned (.tuple #[.int .i64 v, .nilIface]) ∧ Below w.heap.size w w' := by
  have h1 : Lib.parseIntB 64 s.data.toList = .ok v := by
    unfold pint at h
    cases e : Lib.parseIntB 64 s.data.toList <;> rw [e] at h <;> simp at h
    rw [h]
  refine (Tryd.strconv_ParseInt_10_at64_ok s (by omega) v h1 w).mono ?_
  rintro e w' ⟨rfl, rfl | ⟨t, rfl⟩⟩
  · exact ⟨rfl, Below.refl _ _⟩
  · exact ⟨rfl, bytes_below (Below.refl _ _) (Nat.le_refl _) _ _⟩
theorem pint_bad (s : ByteArray) (hs : s.size ≤ 2147483647) (h : pint s.data.toList = none) (w : World) (hT : TV w) :
    Calls Tryd.prog 17 #[.string s, .int .i64 10, .int .i64 64] w fun e w' => ∃ (v : Int) (g : Nat), e = .returned (.tuple #[.int .i64 v, .iface 71 (.pointer (some ⟨g, 0, none⟩))]) ∧ Below w.heap.size w w' := by
  unfold pint at h
  rcases e : Lib.parseIntB 64 s.data.toList with v | _ | _
  · rw [e] at h; simp at h
  · obtain ⟨ev, h1, h2⟩ := hT.sy
    refine (Any.strconv_ParseInt_10_at64_syntax Tryd.laysC174 s (by omega) e ev w h1 h2).mono ?_
    rintro e w' ⟨g, rfl, _, _, hb⟩
    exact ⟨_, g, rfl, hb⟩
  · obtain ⟨ev, h1, h2⟩ := hT.rg
    refine (Tryd.strconv_ParseInt_10_at64_range s (by omega) e ev w h1 h2).mono ?_
    rintro e w' ⟨g, rfl, _, _, hb⟩
    exact ⟨_, g, rfl, hb⟩
theorem ENew_calls (s : ByteArray) (w : World) :
    Calls Tryd.prog 29 #[.string s] w fun e w' => e = .returned (.iface 76 (.pointer (some ⟨w.heap.size, 0, none⟩))) ∧ Below w.heap.size w w' := by
  go_enter Tryd.func29, Tryd.ntmps29
  go_wp2
  go_ret
  exact ⟨rfl, below_alloc (Below.refl _ _) _⟩
theorem len_nil {xs : List ByteArray} {q : Bool} (h : (xs == []) = q) : (((xs.length : Nat) : Int) == 0) = q ∧ (((xs.length : Nat) : Int) != 0) = !q := by
  subst h
  cases xs with
  | nil => exact ⟨rfl, rfl⟩
  | cons a l =>
    have e1 : (((a :: l).length : Nat) : Int) ≠ 0 := by simp; omega
    exact ⟨by simpa using e1, by simpa using e1⟩
theorem vKey_calls (s : ByteArray) (hs : s.size ≤ 100000000) (w : World) (hT : TV w) :
    Calls Tryd.prog 28 #[.string s] w fun e w' => (if pQ s.data.toList then e = .returned .nilIface else ∃ g : Nat, e = .returned (.iface 76 (.pointer (some ⟨g, 0, none⟩)))) ∧ Below w.heap.size w w' := by
  have HE := Aside0.mk (errs76 s hs w hT.tab)
  have HN := Aside0.mk ENew_calls
  obtain ⟨q, hq⟩ : ∃ q, pQ s.data.toList = q := ⟨_, rfl⟩
  rw [hq] at HE ⊢
  clear hq
  cases q
  · go_enter Tryd.func28, Tryd.ntmps28
    go_wp2_with (first | ((with_reducible refine (HE.out).mono ?_); rintro e w1 ⟨v, xs, rfl, hR, hx, _, _, hb⟩; obtain ⟨h1, h2⟩ := len_nil hx; obtain ⟨A, c, rfl⟩ := Kd.R_slice hR; have HB1 := Aside0.mk hb; clear hR hx hb) | ((with_reducible refine (HN.out _ _).mono ?_); rintro e w2 ⟨rfl, hb⟩; have HB2 := Aside0.mk (below_step HB1.out hb); clear hb))
    go_ret
    exact ⟨⟨_, rfl⟩, HB2.out⟩
  · go_enter Tryd.func28, Tryd.ntmps28
    go_wp2_with (first | ((with_reducible refine (HE.out).mono ?_); rintro e w1 ⟨v, xs, rfl, hR, hx, _, _, hb⟩; obtain ⟨h1, h2⟩ := len_nil hx; obtain ⟨A, c, rfl⟩ := Kd.R_slice hR; have HB1 := Aside0.mk hb; clear hR hx hb))
    go_ret
    exact ⟨rfl, HB1.out⟩
theorem vValue_calls (k s : ByteArray) (hs : s.size ≤ 100000000) (w : World) :
    Calls Tryd.prog 30 #[.string k, .string s] w fun e w' => (if pValue s.data.toList then e = .returned .nilIface else ∃ g : Nat, e = .returned (.iface 76 (.pointer (some ⟨g, 0, none⟩)))) ∧ Below w.heap.size w w' := by
  have HE := Aside0.mk (errs60 s (by omega) w)
  have HN := Aside0.mk ENew_calls
  obtain ⟨q, hq⟩ : ∃ q, (most 63 s.data.toList && labelValue s.data.toList) = q := ⟨_, rfl⟩
  rw [show pValue s.data.toList = q from hq]
  rw [hq] at HE
  clear hq
  cases q
  · go_enter Tryd.func30, Tryd.ntmps30
    go_wp2_with (first | ((with_reducible refine (HE.out).mono ?_); rintro e w1 ⟨v, xs, rfl, hR, hx, _, _, hb⟩; obtain ⟨h1, h2⟩ := len_nil hx; obtain ⟨A, c, rfl⟩ := Kd.R_slice hR; have HB1 := Aside0.mk hb; clear hR hx hb) | ((with_reducible refine (HN.out _ _).mono ?_); rintro e w2 ⟨rfl, hb⟩; have HB2 := Aside0.mk (below_step HB1.out hb); clear hb))
    go_ret
    exact ⟨⟨_, rfl⟩, HB2.out⟩
  · go_enter Tryd.func30, Tryd.ntmps30
    go_wp2_with (first | ((with_reducible refine (HE.out).mono ?_); rintro e w1 ⟨v, xs, rfl, hR, hx, _, _, hb⟩; obtain ⟨h1, h2⟩ := len_nil hx; obtain ⟨A, c, rfl⟩ := Kd.R_slice hR; have HB1 := Aside0.mk hb; clear hR hx hb))
    go_ret
    exact ⟨rfl, HB1.out⟩
end Go.Proofs.YteigfmchnblkgaaDoor.Hand

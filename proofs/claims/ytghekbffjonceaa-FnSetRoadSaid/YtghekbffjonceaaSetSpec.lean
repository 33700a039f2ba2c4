/- What the reference and the laws of sets use: sizes, equal lists, Holds, Kept, epFew. -/
import Derived.Test.YtghekbffjonceaaSetKit
import Derived.Test.YtghekbffjonceaaSetSame
import Derived.Test.YtghekbffjonceaaPFnSetHasx1
namespace Go.Proofs.Ytghekbffjonceaa.Hand
open Go.RowKit Go.Proofs.Ytghekbffjonceaa.PFnSetHas Go.Proofs.YtghekbffjonceaaW.PrintWords Go.Proofs.YtghekbffjonceaaW.PrintLast Go.Proofs.YtghekbffjonceaaW.PrintMore Go.Proofs.Ytghekbffjonceaa.Base
set_option linter.unusedVariables false
set_option linter.unusedSimpArgs false
set_option maxRecDepth 100000
set_option maxRecDepth 100000

def fits5 (l : List L) : Bool := decide (l.length ≤ 2147483647) && l.all (fun s => decide (s.length ≤ 2147483647))
theorem fits5_l0 (l : List L) (hl : l.length ≤ 2147483647) : ∀ (d i : Nat), i + d = l.length →
    Ev (fun k => laws_zzFits5.l0 k (l.map mk) ((l.map mk).length : Int) i) ((l.drop i).all (fun s => decide (s.length ≤ 2147483647))) := by
  intro d
  induction d with
  | zero =>
    intro i hi
    rw [List.drop_eq_nil_of_le (by omega)]
    exact Ev.step (fun k => by simp only [laws_zzFits5.l0]; rw [if_neg (by rw [List.length_map]; omega)]) (Ev.now true)
  | succ d ih =>
    intro i hi
    have hlt : i < l.length := by omega
    rw [List.drop_eq_getElem_cons hlt, List.all_cons]
    by_cases h : l[i].length ≤ 2147483647
    · rw [decide_eq_true h, Bool.true_and]
      exact Ev.step (fun k => by
        simp only [laws_zzFits5.l0]
        rw [if_pos (by rw [List.length_map]; omega), if_pos (by omega), if_pos (by rw [List.length_map]; omega), rd_mk, Int.toNat_natCast, getD_of l [] hlt, mk_size, if_neg (by omega), wrap_id (by omega) (by omega)]
        rfl) (ih (i + 1) (by omega))
    · rw [decide_eq_false h, Bool.false_and]
      exact Ev.step (fun k => by
        simp only [laws_zzFits5.l0]
        rw [if_pos (by rw [List.length_map]; omega), if_pos (by omega), if_pos (by rw [List.length_map]; omega), rd_mk, Int.toNat_natCast, getD_of l [] hlt, mk_size, if_pos (by omega)]) (Ev.now false)
theorem fits5_ev (l : List L) : Ev (fun k => laws_zzFits5.f k (l.map mk)) (fits5 l) := by
  unfold laws_zzFits5.f fits5
  by_cases h : l.length ≤ 2147483647
  · rw [decide_eq_true h, Bool.true_and]
    exact Ev.neg (by rw [List.length_map]; omega) (fits5_l0 l h l.length 0 (by omega))
  · rw [decide_eq_false h, Bool.false_and]
    exact Ev.pos (by rw [List.length_map]; omega) (Ev.now false)
theorem fits5_calls (A : Option Addr) (c : Nat) (l : List L) (w : World) (hr : Kd.C Kd.string w A l.length (l.map mk)) (hc : l.length ≤ c) :
    Calls Try.prog 8 #[.slice A l.length c] w fun e w' => e = .returned (.bool (fits5 l)) ∧ Drawn0 w w' := by
  obtain ⟨k, hk⟩ := (fits5_ev l).rounds
  have h := laws_zzFits5.calls k A c (l.map mk) (fits5 l) w (by rw [List.length_map]; exact hr) (by rw [List.length_map]; exact hc) hk
  rw [List.length_map] at h; exact h

/-- epSame. -/
theorem same_l0 (a b : List L) (hl : a.length = b.length) (hz : a.length ≤ 140737488351232) : ∀ (d i : Nat), i + d = a.length →
    Ev (fun k => PFnSetRoad.laws_epSame.l0 k (a.map mk) (b.map mk) (a.length : Int) i) (a.drop i == b.drop i) := by
  intro d
  induction d with
  | zero =>
    intro i hi
    rw [List.drop_eq_nil_of_le (by omega), List.drop_eq_nil_of_le (by omega)]
    exact Ev.step (fun k => by simp only [PFnSetRoad.laws_epSame.l0]; rw [if_neg (by omega)]) (Ev.now true)
  | succ d ih =>
    intro i hi
    have h1 : i < a.length := by omega
    have h2 : i < b.length := by omega
    rw [List.drop_eq_getElem_cons h1, List.drop_eq_getElem_cons h2]
    by_cases h : a[i] = b[i]
    · rw [h, show (b[i] :: a.drop (i + 1) == b[i] :: b.drop (i + 1)) = (a.drop (i + 1) == b.drop (i + 1)) by rw [List.cons_beq_cons, beq_self_eq_true, Bool.true_and]]
      exact Ev.step (fun k => by
        simp only [PFnSetRoad.laws_epSame.l0]
        rw [if_pos (by omega), if_pos (by omega), if_pos (by rw [List.length_map]; omega), if_pos (by rw [List.length_map]; omega), rd_mk, rd_mk, Int.toNat_natCast, getD_of a [] h1, getD_of b [] h2, mk_toList, mk_toList, if_pos h, wrap_id (by omega) (by omega)]
        rfl) (ih (i + 1) (by omega))
    · rw [show (a[i] :: a.drop (i + 1) == b[i] :: b.drop (i + 1)) = false by rw [List.cons_beq_cons, show (a[i] == b[i]) = false by simpa using h, Bool.false_and]]
      exact Ev.step (fun k => by
        simp only [PFnSetRoad.laws_epSame.l0]
        rw [if_pos (by omega), if_pos (by omega), if_pos (by rw [List.length_map]; omega), if_pos (by rw [List.length_map]; omega), rd_mk, rd_mk, Int.toNat_natCast, getD_of a [] h1, getD_of b [] h2, mk_toList, mk_toList, if_neg h]) (Ev.now false)
theorem same_ev (a b : List L) (hz : a.length ≤ 140737488351232) : Ev (fun k => PFnSetRoad.laws_epSame.f k (a.map mk) (b.map mk)) (a == b) := by
  unfold PFnSetRoad.laws_epSame.f
  by_cases h : a.length = b.length
  · refine Ev.pos (by simp [h]) ?_
    have := same_l0 a b h hz a.length 0 (by omega)
    simp only [List.drop_zero] at this
    refine Ev.congr (fun k => ?_) this
    rw [List.length_map]; rfl
  · rw [show (a == b) = false by simpa using fun e => h (by rw [e])]
    exact Ev.neg (by simp; omega) (Ev.now false)

theorem SameC (A : Option Addr) (c : Nat) (B : Option Addr) (d : Nat) (a b : List L) (w : World) (ha : Kd.C Kd.string w A a.length (a.map mk)) (hb : Kd.C Kd.string w B b.length (b.map mk)) (hc : a.length ≤ c) (hd : b.length ≤ d) (hz : a.length ≤ 140737488351232) :
    Calls Try.prog 15 #[.slice A a.length c, .slice B b.length d] w fun e w' => e = .returned (.bool (a == b)) ∧ Drawn0 w w' := by
  obtain ⟨k, hk⟩ := (same_ev a b hz).rounds
  have h := PFnSetRoad.laws_epSame.calls k A c (a.map mk) B d (b.map mk) (a == b) w (by rw [List.length_map]; exact ha) (by rw [List.length_map]; exact hc) (by rw [List.length_map]; exact hb) (by rw [List.length_map]; exact hd) hk
  rw [List.length_map, List.length_map] at h; exact h


theorem holds_l0 (l : List L) (s : L) (hz : l.length ≤ 140737488351232) : ∀ (d i : Nat), i + d = l.length →
    Ev (fun k => spec_Holds.l0 k (mk s) (l.map mk) (l.length : Int) i) ((l.drop i).contains s) := by
  intro d
  induction d with
  | zero =>
    intro i hi
    rw [List.drop_eq_nil_of_le (by omega)]
    exact Ev.step (fun k => by simp only [spec_Holds.l0]; rw [if_neg (by omega)]) (Ev.now false)
  | succ d ih =>
    intro i hi
    have h1 : i < l.length := by omega
    rw [List.drop_eq_getElem_cons h1, List.contains_cons]
    by_cases h : l[i] = s
    · rw [show (s == l[i]) = true by simpa using h.symm, Bool.true_or]
      exact Ev.step (fun k => by
        simp only [spec_Holds.l0]
        rw [if_pos (by omega), if_pos (by omega), if_pos (by rw [List.length_map]; omega), rd_mk, Int.toNat_natCast, getD_of l [] h1, mk_toList, mk_toList, if_pos h]) (Ev.now true)
    · rw [show (s == l[i]) = false by simpa using fun e => h e.symm, Bool.false_or]
      exact Ev.step (fun k => by
        simp only [spec_Holds.l0]
        rw [if_pos (by omega), if_pos (by omega), if_pos (by rw [List.length_map]; omega), rd_mk, Int.toNat_natCast, getD_of l [] h1, mk_toList, mk_toList, if_neg h, wrap_id (by omega) (by omega)]
        rfl) (ih (i + 1) (by omega))
theorem holds_ev (l : List L) (s : L) (hz : l.length ≤ 140737488351232) : Ev (fun k => spec_Holds.f k (l.map mk) (mk s)) (l.contains s) := by
  have h := holds_l0 l s hz l.length 0 (by omega)
  simp only [List.drop_zero] at h
  unfold spec_Holds.f
  refine Ev.congr (fun k => ?_) h
  rw [List.length_map]; rfl
theorem Holds_calls (A : Option Addr) (c : Nat) (l : List L) (s : ByteArray) (w : World) (hr : Kd.C Kd.string w A l.length (l.map mk)) (hc : l.length ≤ c) (hz : l.length ≤ 140737488351232) :
    Calls Try.prog 12 #[.slice A l.length c, .string s] w fun e w' => e = .returned (.bool (l.contains s.data.toList)) ∧ Drawn0 w w' := by
  obtain ⟨k, hk⟩ := (holds_ev l s.data.toList hz).rounds
  have h := spec_Holds.calls k A c (l.map mk) s (l.contains s.data.toList) w (by rw [List.length_map]; exact hr) (by rw [List.length_map]; exact hc) hk
  rw [List.length_map] at h; exact h

/-- Kept. -/
def kept (l o : List L) (has : Bool) : List L := l.filter fun s => o.contains s == has
theorem kept_l0 (l o : List L) (has : Bool) (hz : l.length ≤ 1000000) (hzo : o.length ≤ 1000000) : ∀ (d i : Nat) (out : List L), i + d = l.length → out.length ≤ i →
    Ev (fun k => spec_Kept.l0 k (o.map mk) has (out.map mk) (l.map mk) (l.length : Int) i) ((out ++ kept (l.drop i) o has).map mk) := by
  intro d
  induction d with
  | zero =>
    intro i out hi ho
    rw [List.drop_eq_nil_of_le (by omega)]
    refine Ev.step (f := fun _ => some ((out ++ kept [] o has).map mk)) (fun k => ?_) (Ev.now _)
    simp only [spec_Kept.l0]
    rw [if_neg (by omega)]
    simp [kept]
  | succ d ih =>
    intro i out hi ho
    have h1 : i < l.length := by omega
    have hh := holds_ev o l[i] (by omega)
    have e1 : kept (l.drop i) o has = if (o.contains l[i] == has) = true then l[i] :: kept (l.drop (i + 1)) o has else kept (l.drop (i + 1)) o has := by
      rw [List.drop_eq_getElem_cons h1]; unfold kept; rw [List.filter_cons]
    rw [e1]
    have hb : ((out.map mk).length < 8796093022208) := by rw [List.length_map]; omega
    refine Ev.step (f := fun k => (spec_Holds.f k (o.map mk) (mk l[i])).bind fun t => if (t == has) = true then (if (out.map mk).length < 8796093022208 then spec_Kept.l0 k (o.map mk) has (out.map mk ++ [mk l[i]]) (l.map mk) (l.length : Int) (wrap64 ((i : Int) + 1)) else none) else spec_Kept.l0 k (o.map mk) has (out.map mk) (l.map mk) (l.length : Int) (wrap64 ((i : Int) + 1))) (fun k => by
      simp only [spec_Kept.l0]
      rw [if_pos (by omega), if_pos (by omega), if_pos (by rw [List.length_map]; omega), rd_mk, Int.toNat_natCast, getD_of l [] h1]) (Ev.bind hh ?_)
    rw [wrap_id (by omega) (by omega)]
    by_cases h : (o.contains l[i] == has) = true
    · simp only [if_pos h, if_pos hb]
      have h2 := ih (i + 1) (out ++ [l[i]]) (by omega) (by simp; omega)
      rw [List.append_assoc, List.singleton_append, List.map_append] at h2
      exact h2
    · simp only [if_neg h]
      exact ih (i + 1) out (by omega) (by omega)
theorem kept_ev (l o : List L) (has : Bool) (hz : l.length ≤ 1000000) (hzo : o.length ≤ 1000000) : Ev (fun k => spec_Kept.f k (l.map mk) (o.map mk) has) ((kept l o has).map mk) := by
  have h := kept_l0 l o has hz hzo l.length 0 [] (by omega) (by simp)
  simp only [List.drop_zero, List.nil_append, List.map_nil] at h
  unfold spec_Kept.f
  refine Ev.congr (fun k => ?_) h
  rw [List.length_map]; rfl
theorem Kept_calls (A : Option Addr) (c : Nat) (l : List L) (B : Option Addr) (d : Nat) (o : List L) (has : Bool) (w : World) (hr : Kd.C Kd.string w A l.length (l.map mk)) (hc : l.length ≤ c) (hs : Kd.C Kd.string w B o.length (o.map mk)) (hd : o.length ≤ d) (hz : l.length ≤ 1000000) (hzo : o.length ≤ 1000000) :
    Calls Try.prog 11 #[.slice A l.length c, .slice B o.length d, .bool has] w fun e w' => ∃ v0 : Value, e = .returned v0 ∧ Kd.R Kd.string 9 w' w.heap.size (fun _ => True) v0 ((kept l o has).map mk) ∧ Below w.heap.size w w' := by
  obtain ⟨k, hk⟩ := (kept_ev l o has hz hzo).rounds
  have h := spec_Kept.calls k A c (l.map mk) B d (o.map mk) has _ w (by rw [List.length_map]; exact hr) (by rw [List.length_map]; exact hc) (by rw [List.length_map]; exact hs) (by rw [List.length_map]; exact hd) hk
  rw [List.length_map, List.length_map] at h; exact h

/-- epFew: a list of lists, as it is built for the call. -/
theorem Few_calls (ad : Addr) (c : Nat) (vs : List (Option Addr × Nat × Nat)) (w : World) (hl : vs.length ≤ 10) (h : ∀ i (hi : i < vs.length), w.cell? (ad.add i) = some (.slice (vs[i]).1 (vs[i]).2.1 (vs[i]).2.2)) (hn : ∀ v ∈ vs, v.2.1 ≤ 2147483647) :
    Calls Try.prog 9 #[.slice (some ad) vs.length c] w fun e w' => e = .returned (.bool (vs.all fun v => decide (v.2.1 ≤ 30))) ∧ w = w' := by
  have H := Aside0.mk h
  have HN := Aside0.mk hn
  clear h hn
  go_enter Try.func9, Try.ntmps9
  go_wp2
  go_loopg [4, 7] (vs.length) (fun g v4 v7 w' => ∃ i : Nat, v7 = .int .i64 i ∧ w = w' ∧ Aside0 (g + i = vs.length) ∧ Aside0 ((vs.all fun v => decide (v.2.1 ≤ 30)) = ((vs.drop i).all fun v => decide (v.2.1 ≤ 30))))
  case atStart => exact ⟨0, rfl, rfl, ⟨by omega⟩, ⟨rfl⟩⟩
  case round =>
    obtain ⟨i, rfl, rfl, HI, HA⟩ := hrel
    have hi : i ≤ vs.length := by have := HI.out; omega
    by_cases hlt : i < vs.length
    · obtain ⟨v, hv⟩ : ∃ v, vs[i] = v := ⟨_, rfl⟩
      have hcell := H.out i hlt
      rw [hv] at hcell
      have hvn := HN.out v (by rw [← hv]; exact List.getElem_mem hlt)
      have HST : Aside0 (((vs.drop i).all fun v => decide (v.2.1 ≤ 30)) = (decide (v.2.1 ≤ 30) && (vs.drop (i + 1)).all fun v => decide (v.2.1 ≤ 30))) := ⟨by rw [List.drop_eq_getElem_cons hlt, List.all_cons, hv]⟩
      obtain ⟨vA, vn, vc⟩ := v
      simp only at hcell hvn HST
      clear hv
      by_cases h30 : vn ≤ 30
      · have HM : Aside0 ((vs.all fun v => decide (v.2.1 ≤ 30)) = ((vs.drop (i + 1)).all fun v => decide (v.2.1 ≤ 30))) := ⟨by rw [HA.out, HST.out, decide_eq_true h30]; rfl⟩
        clear HST HA
        go_wp2
        go_roundg (gk - 1)
        case measure => have := HI.out; omega
        case rel => exact ⟨i + 1, by go_num, rfl, ⟨by have := HI.out; omega⟩, HM⟩
      · have HM : Aside0 ((vs.all fun v => decide (v.2.1 ≤ 30)) = false) := ⟨by rw [HA.out, HST.out, decide_eq_false h30]; rfl⟩
        clear HST HA
        go_wp2
        go_ret
        exact ⟨by rw [HM.out]; rfl, rfl⟩
    · have HM : Aside0 ((vs.all fun v => decide (v.2.1 ≤ 30)) = true) := ⟨by rw [HA.out, List.drop_eq_nil_of_le (by omega)]; rfl⟩
      clear HA
      go_wp2
      go_ret
      exact ⟨by rw [HM.out]; rfl, rfl⟩
end Go.Proofs.Ytghekbffjonceaa.Hand

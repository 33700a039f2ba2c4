/- What the printed functions epPath, Pieces, Names, joined come to, over lists. -/
import Derived.Test.YtllmmnhgchidkaaClean
import Derived.Test.YtllmmnhgchidkaaPFnPathPartsx1
namespace Go.Proofs.Ytllmmnhgchidkaa.Hand
open Go.RowKit Go.Proofs.Ytllmmnhgchidkaa.PFnPathParts Go.Proofs.YtllmmnhgchidkaaW.PrintWords Go.Proofs.YtllmmnhgchidkaaW.PrintLast Go.Proofs.Ytllmmnhgchidkaa.Base

def byteOk (c : UInt8) : Bool := !(c == 0) && decide (c.toNat ≤ 127)
def strOk (s : L) : Bool := s.all byteOk && decide (s.length ≤ 200)
def epOk (l : List L) : Bool := l.all strOk && decide (l.length ≤ 20)

theorem getD_of {α : Type} (x : List α) (d : α) {i : Nat} (h : i < x.length) : x.getD i d = x[i] := by
  rw [List.getD_eq_getElem?_getD, List.getElem?_eq_getElem h, Option.getD_some]

theorem epPath_l1 (l : List L) (i : Nat) (s : L) (hs : s.length ≤ 140737488351232) (hi : i < 140737488351232) (r : Bool) (h0 : Ev (fun k => laws_epPath.l0 k (l.map mk) (l.map mk) ((l.map mk).length : Int) ((i : Int) + 1)) r) :
    ∀ (d j : Nat), j + d = s.length → Ev (fun k => laws_epPath.l1 k (l.map mk) (mk s) (l.map mk) ((l.map mk).length : Int) i ((mk s).size : Int) j) ((s.drop j).all byteOk && (decide (s.length ≤ 200) && r)) := by
  intro d
  induction d with
  | zero =>
    intro j hj
    have e : s.drop j = [] := List.drop_eq_nil_of_le (by omega)
    rw [e, List.all_nil, Bool.true_and]
    by_cases h : s.length ≤ 200
    · rw [decide_eq_true h, Bool.true_and]
      exact Ev.step (fun k => by simp only [laws_epPath.l1]; rw [if_neg (by rw [mk_size]; omega), if_neg (by rw [mk_size]; omega), wrap_id (by omega) (by omega)]) h0
    · rw [decide_eq_false h, Bool.false_and]
      exact Ev.step (fun k => by simp only [laws_epPath.l1]; rw [if_neg (by rw [mk_size]; omega), if_pos (by rw [mk_size]; omega)]) (Ev.now false)
  | succ d ih =>
    intro j hj
    have hlt : j < s.length := by omega
    rw [drop_cons hlt, List.all_cons]
    by_cases h1 : s.getD j 0 = 0
    · have : byteOk (s.getD j 0) = false := by rw [h1]; rfl
      rw [this, Bool.false_and, Bool.false_and]
      exact Ev.step (fun k => by simp only [laws_epPath.l1]; rw [if_pos (by rw [mk_size]; omega), if_pos (by omega), if_pos (by rw [mk_size]; omega), bt_mk, if_pos (by rw [Int.toNat_natCast, h1]; rfl)]) (Ev.now false)
    · have hne : ¬ ((s.getD j 0).toNat : Int) = 0 := fun h => h1 (UInt8.toNat_inj.1 (by simpa using (by omega : (s.getD j 0).toNat = 0)))
      by_cases h2 : (s.getD j 0).toNat ≤ 127
      · have : byteOk (s.getD j 0) = true := by unfold byteOk; rw [decide_eq_true h2, Bool.and_true]; simpa using h1
        rw [this, Bool.true_and]
        exact Ev.step (fun k => by simp only [laws_epPath.l1]; rw [if_pos (by rw [mk_size]; omega), if_pos (by omega), if_pos (by rw [mk_size]; omega), bt_mk, Int.toNat_natCast, if_neg hne, if_neg (by omega), wrap_id (by omega) (by omega)]; rfl) (ih (j + 1) (by omega))
      · have : byteOk (s.getD j 0) = false := by unfold byteOk; rw [decide_eq_false h2, Bool.and_false]
        rw [this, Bool.false_and, Bool.false_and]
        exact Ev.step (fun k => by simp only [laws_epPath.l1]; rw [if_pos (by rw [mk_size]; omega), if_pos (by omega), if_pos (by rw [mk_size]; omega), bt_mk, Int.toNat_natCast, if_neg hne, if_pos (by omega)]) (Ev.now false)

theorem epPath_l0 (l : List L) (hl : l.length ≤ 140737488351232) (hs : ∀ s ∈ l, s.length ≤ 140737488351232) :
    ∀ (d i : Nat), i + d = l.length → Ev (fun k => laws_epPath.l0 k (l.map mk) (l.map mk) ((l.map mk).length : Int) i) ((l.drop i).all strOk && decide (l.length ≤ 20)) := by
  intro d
  induction d with
  | zero =>
    intro i hi
    have e : l.drop i = [] := List.drop_eq_nil_of_le (by omega)
    rw [e, List.all_nil, Bool.true_and]
    exact Ev.step (fun k => by simp only [laws_epPath.l0]; rw [if_neg (by rw [List.length_map]; omega), List.length_map]; congr 1; rw [decide_eq_decide]; omega) (Ev.now (decide (l.length ≤ 20)))
  | succ d ih =>
    intro i hi
    have hlt : i < l.length := by omega
    rw [List.drop_eq_getElem_cons hlt, List.all_cons]
    have h1 := epPath_l1 l i l[i] (hs _ (List.getElem_mem hlt)) (by omega) _ (ih (i + 1) (by omega)) l[i].length 0 (by omega)
    have e : (strOk l[i] && (l.drop (i + 1)).all strOk && decide (l.length ≤ 20)) = ((l[i].drop 0).all byteOk && (decide (l[i].length ≤ 200) && ((l.drop (i + 1)).all strOk && decide (l.length ≤ 20)))) := by
      unfold strOk; simp only [List.drop_zero, Bool.and_assoc]
    rw [e]
    exact Ev.step (fun k => by simp only [laws_epPath.l0]; rw [if_pos (by rw [List.length_map]; omega), if_pos (by omega), if_pos (by rw [List.length_map]; omega), rd_mk, Int.toNat_natCast, getD_of l [] hlt]; rfl) h1

theorem epPath_ev (l : List L) (hl : l.length ≤ 140737488351232) (hs : ∀ s ∈ l, s.length ≤ 140737488351232) : Ev (fun k => laws_epPath.f k (l.map mk)) (epOk l) := by
  have h := epPath_l0 l hl hs l.length 0 (by omega)
  exact h

/-- Pieces. -/
theorem pieces_l0 (x : L) (c : UInt8) (hx : x.length ≤ 140737488351232) :
    ∀ (d i f : Nat) (out : List L), i + d = x.length → f ≤ i → out.length ≤ i → x.length < 8796093022208 →
      Ev (fun k => spec_Pieces.l0 k (mk x) (c.toNat : Int) (out.map mk) f (x.length : Int) i) ((out ++ glue ((x.take i).drop f) (pieces c (x.drop i))).map mk) := by
  intro d
  induction d with
  | zero =>
    intro i f out hi hf ho hb
    have e : x.drop i = [] := List.drop_eq_nil_of_le (by omega)
    have e2 : i = x.length := by omega
    rw [e]
    refine Ev.step (f := fun _ => some ((out ++ glue ((x.take i).drop f) (pieces c [])).map mk)) (fun k => ?_) (Ev.now _)
    simp only [spec_Pieces.l0]
    rw [if_neg (by omega), if_pos (by omega), if_pos (by rw [mk_size]; omega), if_pos (by rw [List.length_map]; omega), mk_size, extract_mk]
    simp [glue, pieces, e2]
  | succ d ih =>
    intro i f out hi hf ho hb
    have hlt : i < x.length := by omega
    rw [drop_cons hlt, pieces]
    by_cases h : x.getD i 0 = c
    · rw [if_pos h]
      have h1 := ih (i + 1) (i + 1) (out ++ [(x.take i).drop f]) (by omega) (by omega) (by simp; omega) hb
      have e : (x.take (i + 1)).drop (i + 1) = [] := List.drop_eq_nil_of_le (by simp; omega)
      rw [e, glue_pieces_nil] at h1
      have e3 : (out ++ glue ((x.take i).drop f) ([] :: pieces c (x.drop (i + 1)))).map mk = (out ++ [(x.take i).drop f] ++ pieces c (x.drop (i + 1))).map mk := by simp [glue]
      rw [e3]
      exact Ev.step (fun k => by
        simp only [spec_Pieces.l0]
        rw [if_pos (by omega), if_pos (by omega), if_pos (by rw [mk_size]; omega), bt_mk, Int.toNat_natCast, if_pos (by rw [h]), if_pos (by omega), if_pos (by omega), if_pos (by rw [mk_size]; omega), if_pos (by rw [List.length_map]; omega), wrap_id (by omega) (by omega), extract_mk]
        simp) h1
    · rw [if_neg h, glue_glue, ← take_drop_snoc hlt hf]
      have h1 := ih (i + 1) f out (by omega) (by omega) (by omega) hb
      exact Ev.step (fun k => by
        simp only [spec_Pieces.l0]
        rw [if_pos (by omega), if_pos (by omega), if_pos (by rw [mk_size]; omega), bt_mk, Int.toNat_natCast, if_neg (fun e => h (UInt8.toNat_inj.1 (by omega))), wrap_id (by omega) (by omega)]
        rfl) h1
theorem pieces_ev (x : L) (c : UInt8) (hx : x.length < 8796093022208) : Ev (fun k => spec_Pieces.f k (mk x) (c.toNat : Int)) ((pieces c x).map mk) := by
  have h := pieces_l0 x c (by omega) x.length 0 0 [] (by omega) (by omega) (by simp) hx
  simp only [List.take_zero, List.drop_nil, List.drop_zero, List.nil_append, glue_pieces_nil] at h
  refine Ev.congr (fun k => ?_) h
  unfold spec_Pieces.f; rw [mk_size]; rfl

def names (x : L) : List L := (pieces 47 x).filter (fun p => !(p == []))
theorem names_l0 (ps : List L) (hp : ps.length < 8796093022208) :
    ∀ (d i : Nat) (out : List L), i + d = ps.length → out.length ≤ i → Ev (fun k => spec_Names.l0 k (out.map mk) (ps.map mk) (ps.length : Int) i) ((out ++ (ps.drop i).filter (fun p => !(p == []))).map mk) := by
  intro d
  induction d with
  | zero =>
    intro i out hi ho
    have e : ps.drop i = [] := List.drop_eq_nil_of_le (by omega)
    rw [e, List.filter_nil, List.append_nil]
    exact Ev.step (fun k => by simp only [spec_Names.l0]; rw [if_neg (by omega)]) (Ev.now _)
  | succ d ih =>
    intro i out hi ho
    have hlt : i < ps.length := by omega
    rw [List.drop_eq_getElem_cons hlt, List.filter_cons]
    by_cases h : ps[i] = []
    · rw [if_neg (by simp [h])]
      exact Ev.step (fun k => by
        simp only [spec_Names.l0]
        rw [if_pos (by omega), if_pos (by omega), if_pos (by rw [List.length_map]; omega), rd_mk, Int.toNat_natCast, getD_of ps [] hlt, mk_toList, if_pos h, wrap_id (by omega) (by omega)]
        rfl) (ih (i + 1) out (by omega) (by omega))
    · rw [if_pos (by simpa using h)]
      have h1 := ih (i + 1) (out ++ [ps[i]]) (by omega) (by simp; omega)
      rw [List.append_assoc, List.singleton_append] at h1
      exact Ev.step (fun k => by
        simp only [spec_Names.l0]
        rw [if_pos (by omega), if_pos (by omega), if_pos (by rw [List.length_map]; omega), rd_mk, Int.toNat_natCast, getD_of ps [] hlt, mk_toList, if_neg h, if_pos (by rw [List.length_map]; omega), wrap_id (by omega) (by omega)]
        simp) h1
theorem names_ev (x : L) (hx : x.length < 8796093022200) : Ev (fun k => spec_Names.f k (mk x)) ((names x).map mk) := by
  have hl := pieces_len 47 x
  have h := names_l0 (pieces 47 x) (by omega) (pieces 47 x).length 0 [] (by omega) (by simp)
  have hp := pieces_ev x 47 (by omega)
  unfold spec_Names.f
  refine Ev.bind hp ?_
  simp only [List.drop_zero, List.nil_append] at h
  refine Ev.congr (fun k => ?_) h
  rw [List.length_map]; rfl

theorem joined_l0 (sep : L) (l : List L) (m : Nat) (hm : ∀ p ∈ l, p.length ≤ m) (hl : l.length * (m + sep.length) ≤ 9000000000000000000) (hl2 : l.length ≤ 140737488351232) :
    ∀ (d i : Nat), i + d = l.length → Ev (fun k => spec_joined.l0 k (mk sep) (mk (joinL sep (l.take i))) (l.map mk) (l.length : Int) i) (mk (joinL sep l)) := by
  intro d
  induction d with
  | zero =>
    intro i hi
    rw [List.take_of_length_le (by omega)]
    exact Ev.step (fun k => by simp only [spec_joined.l0]; rw [if_neg (by omega)]) (Ev.now _)
  | succ d ih =>
    intro i hi
    have hlt : i < l.length := by omega
    have h1 := ih (i + 1) (by omega)
    have hz1 := joinL_le sep m (l.take (i + 1)) (fun p hp => hm p (List.mem_of_mem_take hp))
    have hz2 : (l.take (i + 1)).length * (m + sep.length) ≤ l.length * (m + sep.length) := Nat.mul_le_mul (by rw [List.length_take]; omega) (Nat.le_refl _)
    rw [joinL_take sep l i hlt] at h1 hz1
    by_cases h0 : i = 0
    · subst h0
      rw [if_pos rfl] at h1 hz1
      rw [List.take_zero]
      exact Ev.step (fun k => by
        simp only [spec_joined.l0]
        rw [if_pos (by omega), if_pos (by omega), if_pos (by rw [List.length_map]; omega), if_neg (by omega), rd_mk, Int.toNat_natCast, if_pos (by simp only [mk_size, joinL, List.length_nil]; omega), wrap_id (by omega) (by omega)]
        simp only [joinL, mk_append, List.nil_append]
        rfl) h1
    · rw [if_neg h0] at h1 hz1
      simp only [List.length_append] at hz1
      exact Ev.step (fun k => by
        simp only [spec_joined.l0]
        rw [if_pos (by omega), if_pos (by omega), if_pos (by rw [List.length_map]; omega), if_pos (by omega), rd_mk, Int.toNat_natCast, if_pos (by simp only [mk_size]; omega), mk_append, if_pos (by simp only [mk_size, List.length_append]; omega), wrap_id (by omega) (by omega), mk_append]
        rfl) h1
theorem joined_ev (sep : L) (l : List L) (m : Nat) (hm : ∀ p ∈ l, p.length ≤ m) (hl : l.length * (m + sep.length) ≤ 9000000000000000000) (hl2 : l.length ≤ 140737488351232) :
    Ev (fun k => spec_joined.f k (l.map mk) (mk sep)) (mk (joinL sep l)) := by
  have h := joined_l0 sep l m hm hl hl2 l.length 0 (by omega)
  refine Ev.congr (fun k => ?_) h
  unfold spec_joined.f
  rw [List.length_map]; rfl
end Go.Proofs.Ytllmmnhgchidkaa.Hand

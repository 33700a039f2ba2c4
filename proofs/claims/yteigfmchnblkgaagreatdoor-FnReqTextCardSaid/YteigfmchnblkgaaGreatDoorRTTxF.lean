/- (*labels.Requirement).String, in one: for requirements that may be. -/
import Derived.Test.YteigfmchnblkgaaGreatDoorRTTxE
namespace Go.Proofs.YteigfmchnblkgaaGreatDoor.Hand
open Go.RowKit Go.Proofs.YteigfmchnblkgaaGreatDoorW.PrintWords Go.Proofs.YteigfmchnblkgaaGreatDoorW.PrintLast Go.Proofs.YteigfmchnblkgaaGreatDoorW.PrintMore Go.Proofs.YteigfmchnblkgaaGreatDoor.Base
set_option linter.unusedVariables false
set_option linter.unusedSimpArgs false
/-- What a requirement is written as, m: its values, a comma between. -/
def textM (x : L) (key m : ByteArray) : ByteArray :=
  if x = [105, 110] then key ++ ⟨#[32, 105, 110, 32]⟩ ++ ⟨#[40]⟩ ++ m ++ ⟨#[41]⟩
  else if x = [110, 111, 116, 105, 110] then key ++ ⟨#[32, 110, 111, 116, 105, 110, 32]⟩ ++ ⟨#[40]⟩ ++ m ++ ⟨#[41]⟩
  else if x = [103, 116] then key ++ ⟨#[62]⟩ ++ m
  else if x = [108, 116] then key ++ ⟨#[60]⟩ ++ m
  else if x = [101, 120, 105, 115, 116, 115] then key
  else if x = [33] then ⟨#[33]⟩ ++ key
  else key ++ ⟨x.toArray⟩ ++ m
theorem join_one (v : ByteArray) : joinB ⟨#[44]⟩ [v] = v := by unfold joinB; simp only [List.foldl_nil]; exact empty_app v
theorem one_us (v : ByteArray) : [v.data.toList].Perm (vL [v]) ∧ Asc [v.data.toList] ∧ joinB ⟨#[44]⟩ ([v.data.toList].map mk) = v :=
  ⟨List.Perm.refl _, List.pairwise_singleton _ _, by simp only [List.map_cons, List.map_nil]; rw [← mk_of v]; exact join_one v⟩
set_option maxHeartbeats 2000000 in
theorem Str_calls (key op : ByteArray) (hk : key.size ≤ 2000) (rb c n : Nat) (vs : List ByteArray) (hn : vs.length = n) (hn2 : n ≤ 1000) (hc : n ≤ c) (hz : ∀ v ∈ vs, v.size ≤ 10000) (A : Option Addr) (w : World) (hb : w.heap[rb]? = some (.cells #[.string key, .string op, .slice A n c] 128 (0, 0))) (hC : Kd.C Kd.string w A n vs) (hf : opOk op.data.toList (vL vs) = true) :
    Calls Tryz.prog 70 #[.pointer (some ⟨rb, 0, none⟩)] w fun e w' => ∃ us : List L, us.Perm (vL vs) ∧ Asc us ∧ e = .returned (.string (textM op.data.toList key (joinB ⟨#[44]⟩ (us.map mk)))) ∧ Below w.heap.size w w' := by
  have hx : op.toList = op.data.toList := toList_eq op
  have hvl : (vL vs).length = n := by rw [List.length_map, hn]
  by_cases h : op.data.toList = [105, 110]
  · rw [h] at hf
    by_cases h1 : n = 1
    · obtain ⟨v, rfl⟩ := one_of (vs := vs) (by omega)
      obtain rfl : n = 1 := hn.symm
      refine (Str_in key op v (hx.trans h) hk (by have := hz v (List.mem_cons_self ..); omega) rb c A w hb hC).mono ?_
      rintro e w' ⟨rfl, h2⟩
      obtain ⟨u1, u2, u3⟩ := one_us v
      exact ⟨_, u1, u2, by rw [u3, h]; rfl, h2⟩
    · refine (StrN_in key op (hx.trans h) hk rb c n vs hn h1 hn2 hc hz A w hb hC).mono ?_
      rintro e w' ⟨us, u1, u2, rfl, h2⟩
      exact ⟨us, u1, u2, by rw [h]; rfl, h2⟩
  have h_in := h; clear h
  by_cases h : op.data.toList = [110, 111, 116, 105, 110]
  · rw [h] at hf
    by_cases h1 : n = 1
    · obtain ⟨v, rfl⟩ := one_of (vs := vs) (by omega)
      obtain rfl : n = 1 := hn.symm
      refine (Str_notin key op v (hx.trans h) hk (by have := hz v (List.mem_cons_self ..); omega) rb c A w hb hC).mono ?_
      rintro e w' ⟨rfl, h2⟩
      obtain ⟨u1, u2, u3⟩ := one_us v
      exact ⟨_, u1, u2, by rw [u3, h]; rfl, h2⟩
    · refine (StrN_notin key op (hx.trans h) hk rb c n vs hn h1 hn2 hc hz A w hb hC).mono ?_
      rintro e w' ⟨us, u1, u2, rfl, h2⟩
      exact ⟨us, u1, u2, by rw [h]; rfl, h2⟩
  have h_notin := h; clear h
  by_cases h : op.data.toList = [61]
  · rw [h] at hf
    have h1 : n = 1 := by unfold opOk at hf; rw [← hvl]; simpa using hf
    · obtain ⟨v, rfl⟩ := one_of (vs := vs) (by omega)
      obtain rfl : n = 1 := hn.symm
      refine (Str_eq key op v (hx.trans h) hk (by have := hz v (List.mem_cons_self ..); omega) rb c A w hb hC).mono ?_
      rintro e w' ⟨rfl, h2⟩
      obtain ⟨u1, u2, u3⟩ := one_us v
      exact ⟨_, u1, u2, by rw [u3, h]; rfl, h2⟩
  have h_eq := h; clear h
  by_cases h : op.data.toList = [61, 61]
  · rw [h] at hf
    have h1 : n = 1 := by unfold opOk at hf; rw [← hvl]; simpa using hf
    · obtain ⟨v, rfl⟩ := one_of (vs := vs) (by omega)
      obtain rfl : n = 1 := hn.symm
      refine (Str_deq key op v (hx.trans h) hk (by have := hz v (List.mem_cons_self ..); omega) rb c A w hb hC).mono ?_
      rintro e w' ⟨rfl, h2⟩
      obtain ⟨u1, u2, u3⟩ := one_us v
      exact ⟨_, u1, u2, by rw [u3, h]; rfl, h2⟩
  have h_deq := h; clear h
  by_cases h : op.data.toList = [33, 61]
  · rw [h] at hf
    have h1 : n = 1 := by unfold opOk at hf; rw [← hvl]; simpa using hf
    · obtain ⟨v, rfl⟩ := one_of (vs := vs) (by omega)
      obtain rfl : n = 1 := hn.symm
      refine (Str_ne key op v (hx.trans h) hk (by have := hz v (List.mem_cons_self ..); omega) rb c A w hb hC).mono ?_
      rintro e w' ⟨rfl, h2⟩
      obtain ⟨u1, u2, u3⟩ := one_us v
      exact ⟨_, u1, u2, by rw [u3, h]; rfl, h2⟩
  have h_ne := h; clear h
  by_cases h : op.data.toList = [101, 120, 105, 115, 116, 115]
  · rw [h] at hf
    have h1 : n = 0 := by unfold opOk at hf; rw [← hvl]; simpa using hf
    · obtain rfl : vs = [] := List.eq_nil_of_length_eq_zero (by omega)
      refine (Str_ex key op (hx.trans h) hk rb n c A w hb).mono ?_
      rintro e w' ⟨rfl, h2⟩
      exact ⟨[], List.Perm.refl _, List.Pairwise.nil, by rw [h]; rfl, h2⟩
  have h_ex := h; clear h
  by_cases h : op.data.toList = [33]
  · rw [h] at hf
    have h1 : n = 0 := by unfold opOk at hf; rw [← hvl]; simpa using hf
    · obtain rfl : vs = [] := List.eq_nil_of_length_eq_zero (by omega)
      refine (Str_nex key op (hx.trans h) hk rb n c A w hb).mono ?_
      rintro e w' ⟨rfl, h2⟩
      exact ⟨[], List.Perm.refl _, List.Pairwise.nil, by rw [h]; rfl, h2⟩
  have h_nex := h; clear h
  by_cases h : op.data.toList = [103, 116]
  · rw [h] at hf
    have h1 : n = 1 := by
      rw [← hvl]; unfold opOk at hf; revert hf; cases vL vs with
      | nil => intro hf; exact absurd hf (by decide)
      | cons a r => cases r with
        | nil => intro _; rfl
        | cons b r => intro hf; exact absurd hf (by simp)
    · obtain ⟨v, rfl⟩ := one_of (vs := vs) (by omega)
      obtain rfl : n = 1 := hn.symm
      refine (Str_gt key op v (hx.trans h) hk (by have := hz v (List.mem_cons_self ..); omega) rb c A w hb hC).mono ?_
      rintro e w' ⟨rfl, h2⟩
      obtain ⟨u1, u2, u3⟩ := one_us v
      exact ⟨_, u1, u2, by rw [u3, h]; rfl, h2⟩
  have h_gt := h; clear h
  by_cases h : op.data.toList = [108, 116]
  · rw [h] at hf
    have h1 : n = 1 := by
      rw [← hvl]; unfold opOk at hf; revert hf; cases vL vs with
      | nil => intro hf; exact absurd hf (by decide)
      | cons a r => cases r with
        | nil => intro _; rfl
        | cons b r => intro hf; exact absurd hf (by simp)
    · obtain ⟨v, rfl⟩ := one_of (vs := vs) (by omega)
      obtain rfl : n = 1 := hn.symm
      refine (Str_lt key op v (hx.trans h) hk (by have := hz v (List.mem_cons_self ..); omega) rb c A w hb hC).mono ?_
      rintro e w' ⟨rfl, h2⟩
      obtain ⟨u1, u2, u3⟩ := one_us v
      exact ⟨_, u1, u2, by rw [u3, h]; rfl, h2⟩
  have h_lt := h; clear h
  exfalso
  unfold opOk at hf
  simp [h_in, h_notin, h_eq, h_deq, h_ne, h_ex, h_nex, h_gt, h_lt] at hf
end Go.Proofs.YteigfmchnblkgaaGreatDoor.Hand

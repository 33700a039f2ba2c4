/- spec.Written, at every requirement whose operator fits its values. (Printed by writtenk.py.) -/
import Derived.Test.YthfjolafikgpoaaGreatDoorSDM27
import Derived.Test.YthfjolafikgpoaaGreatDoorSDM18
import Derived.Test.YthfjolafikgpoaaGreatDoorSDM23
import Derived.Test.YthfjolafikgpoaaGreatDoorSDGParB
namespace Go.Proofs.YthfjolafikgpoaaGreatDoor.Hand
open Go.RowKit Go.Proofs.YthfjolafikgpoaaGreatDoorW.PrintWords Go.Proofs.YthfjolafikgpoaaGreatDoorW.PrintLast Go.Proofs.YthfjolafikgpoaaGreatDoorW.PrintMore Go.Proofs.YthfjolafikgpoaaGreatDoor.Base
set_option linter.unusedVariables false
set_option linter.unusedSimpArgs false
set_option maxRecDepth 100000
theorem ba_app3 (a b c : ByteArray) : a ++ b ++ c = a ++ (b ++ c) := ByteArray.append_assoc
theorem ba_lit2 (a b : L) : (⟨a.toArray⟩ : ByteArray) ++ ⟨b.toArray⟩ = ⟨(a ++ b).toArray⟩ := by
 apply ByteArray.ext; simp [ByteArray.data_append]
theorem op_mk {op : ByteArray} {l : L} (h : op.data.toList = l) : op = ⟨l.toArray⟩ := by
 apply ByteArray.ext; rw [← h]
theorem wr_text (key op m : ByteArray) (o : L) (h : op.data.toList = o) : key ++ ⟨#[32]⟩ ++ op ++ ⟨#[32, 40]⟩ ++ m ++ ⟨#[41]⟩ = key ++ ⟨([32] ++ o ++ [32]).toArray⟩ ++ ⟨#[40]⟩ ++ m ++ ⟨#[41]⟩ := by
 have e : (⟨#[32]⟩ : ByteArray) ++ op ++ ⟨#[32, 40]⟩ = ⟨([32] ++ o ++ [32]).toArray⟩ ++ ⟨#[40]⟩ := by
  rw [op_mk h, show (⟨#[32]⟩ : ByteArray) = ⟨([32] : L).toArray⟩ from rfl, show (⟨#[32, 40]⟩ : ByteArray) = ⟨([32, 40] : L).toArray⟩ from rfl, show (⟨#[40]⟩ : ByteArray) = ⟨([40] : L).toArray⟩ from rfl, ba_lit2, ba_lit2, ba_lit2]
  simp
 congr 2
 rw [ba_app3 key, ba_app3 key, ba_app3 key, e]
theorem setL_single (v : ByteArray) : joinB ⟨#[44]⟩ ((setL (vL [v])).map mk) = v := join_one v
set_option maxHeartbeats 4000000 in
theorem Written_calls (key op : ByteArray) (hk : key.size ≤ 2000) (c n : Nat) (vs : List ByteArray) (hn : vs.length = n) (hn2 : n ≤ 1000) (hc : n ≤ c) (hz : ∀ v ∈ vs, v.size ≤ 10000) (A : Option Addr) (w : World) (hC : Kd.C Kd.string w A n vs) (hf : opOk op.data.toList (vL vs) = true) :
   Calls Tryz.prog 51 #[.agg #[.string key, .string op, .slice A n c]] w fun e w' => e = .returned (.string (textM op.data.toList key (joinB ⟨#[44]⟩ ((setL (vL vs)).map mk)))) ∧ Below w.heap.size w w' := by
 have hx : op.toList = op.data.toList := toList_eq op
 have hvl : (vL vs).length = n := by rw [List.length_map, hn]
 have hsz : op.size = op.data.toList.length := rfl
 have hJ : (joinB ⟨#[44]⟩ ((setL (vL vs)).map mk)).size ≤ 20000000 := by
  refine Nat.le_trans (joinB_size ⟨#[44]⟩ 10000 _ fun p hp => ?_) ?_
  · obtain ⟨x, hx, rfl⟩ := List.mem_map.1 hp
    obtain ⟨q, hq, rfl⟩ := List.mem_map.1 ((setL_mem (vL vs) x).1 hx)
    rw [← mk_of q]; exact hz q hq
  · have := setL_len (vL vs)
    rw [List.length_map]
    refine Nat.le_trans (Nat.mul_le_mul (show _ ≤ 1000 by omega) (Nat.le_refl _)) ?_
    decide
 by_cases h : op.data.toList = [105, 110]
 · refine (Wr_in key op (hx.trans h) (by rw [hsz, h]; decide) hk vs n hn hn2 c hc hz _ rfl hJ A w hC).mono ?_
   rintro e w' ⟨rfl, h2⟩
   exact ⟨congrArg (fun s => Ending.returned (.string s)) (by rw [wr_text _ _ _ _ h]; rw [h]; rfl), h2⟩
 have h_in := h; clear h
 by_cases h : op.data.toList = [110, 111, 116, 105, 110]
 · refine (Wr_notin key op (hx.trans h) (by rw [hsz, h]; decide) hk vs n hn hn2 c hc hz _ rfl hJ A w hC).mono ?_
   rintro e w' ⟨rfl, h2⟩
   exact ⟨congrArg (fun s => Ending.returned (.string s)) (by rw [wr_text _ _ _ _ h]; rw [h]; rfl), h2⟩
 have h_notin := h; clear h
 by_cases h : op.data.toList = [61]
 · rw [h] at hf
   have h1 : n = 1 := by unfold opOk at hf; rw [← hvl]; simpa using hf
   obtain ⟨v, rfl⟩ := one_of (vs := vs) (by omega)
   obtain rfl : n = 1 := hn.symm
   refine (Wr_eq key op v (hx.trans h) (by rw [hsz, h]; decide) hk (by have := hz v (List.mem_cons_self ..); omega) c A w hC).mono ?_
   rintro e w' ⟨rfl, h2⟩
   exact ⟨congrArg (fun s => Ending.returned (.string s)) (by rw [setL_single, h]; rw [op_mk h]; rfl), h2⟩
 have h_eq := h; clear h
 by_cases h : op.data.toList = [61, 61]
 · rw [h] at hf
   have h1 : n = 1 := by unfold opOk at hf; rw [← hvl]; simpa using hf
   obtain ⟨v, rfl⟩ := one_of (vs := vs) (by omega)
   obtain rfl : n = 1 := hn.symm
   refine (Wr_deq key op v (hx.trans h) (by rw [hsz, h]; decide) hk (by have := hz v (List.mem_cons_self ..); omega) c A w hC).mono ?_
   rintro e w' ⟨rfl, h2⟩
   exact ⟨congrArg (fun s => Ending.returned (.string s)) (by rw [setL_single, h]; rw [op_mk h]; rfl), h2⟩
 have h_deq := h; clear h
 by_cases h : op.data.toList = [33, 61]
 · rw [h] at hf
   have h1 : n = 1 := by unfold opOk at hf; rw [← hvl]; simpa using hf
   obtain ⟨v, rfl⟩ := one_of (vs := vs) (by omega)
   obtain rfl : n = 1 := hn.symm
   refine (Wr_ne key op v (hx.trans h) (by rw [hsz, h]; decide) hk (by have := hz v (List.mem_cons_self ..); omega) c A w hC).mono ?_
   rintro e w' ⟨rfl, h2⟩
   exact ⟨congrArg (fun s => Ending.returned (.string s)) (by rw [setL_single, h]; rw [op_mk h]; rfl), h2⟩
 have h_ne := h; clear h
 by_cases h : op.data.toList = [103, 116]
 · rw [h] at hf
   have h1 : n = 1 := by 
     unfold opOk at hf
     rw [if_neg (by decide), if_neg (by decide), if_neg (by decide), if_pos (by decide)] at hf
     rw [← hvl]
     match vL vs, hf with
     | [x], _ => rfl
   obtain ⟨v, rfl⟩ := one_of (vs := vs) (by omega)
   obtain rfl : n = 1 := hn.symm
   refine (Wr_gt key op v (hx.trans h) (by rw [hsz, h]; decide) hk (by have := hz v (List.mem_cons_self ..); omega) c A w hC).mono ?_
   rintro e w' ⟨rfl, h2⟩
   exact ⟨congrArg (fun s => Ending.returned (.string s)) (by rw [setL_single, h]; rfl), h2⟩
 have h_gt := h; clear h
 by_cases h : op.data.toList = [108, 116]
 · rw [h] at hf
   have h1 : n = 1 := by 
     unfold opOk at hf
     rw [if_neg (by decide), if_neg (by decide), if_neg (by decide), if_pos (by decide)] at hf
     rw [← hvl]
     match vL vs, hf with
     | [x], _ => rfl
   obtain ⟨v, rfl⟩ := one_of (vs := vs) (by omega)
   obtain rfl : n = 1 := hn.symm
   refine (Wr_lt key op v (hx.trans h) (by rw [hsz, h]; decide) hk (by have := hz v (List.mem_cons_self ..); omega) c A w hC).mono ?_
   rintro e w' ⟨rfl, h2⟩
   exact ⟨congrArg (fun s => Ending.returned (.string s)) (by rw [setL_single, h]; rfl), h2⟩
 have h_lt := h; clear h
 by_cases h : op.data.toList = [101, 120, 105, 115, 116, 115]
 · refine (Wr_ex key op (hx.trans h) hk c n A w).mono ?_
   rintro e w' ⟨rfl, h2⟩
   exact ⟨congrArg (fun s => Ending.returned (.string s)) (by rw [h]; rfl), h2⟩
 have h_ex := h; clear h
 by_cases h : op.data.toList = [33]
 · refine (Wr_nex key op (hx.trans h) hk c n A w).mono ?_
   rintro e w' ⟨rfl, h2⟩
   exact ⟨congrArg (fun s => Ending.returned (.string s)) (by rw [h]; rfl), h2⟩
 have h_nex := h; clear h
 exfalso
 unfold opOk at hf
 rw [if_neg (by rintro (h | h); exact h_in h; exact h_notin h), if_neg (by rintro (h | h | h); exact h_eq h; exact h_deq h; exact h_ne h), if_neg (by rintro (h | h); exact h_ex h; exact h_nex h), if_neg (by rintro (h | h); exact h_gt h; exact h_lt h)] at hf
 cases hf
end Go.Proofs.YthfjolafikgpoaaGreatDoor.Hand
namespace Go.Proofs.YthfjolafikgpoaaGreatDoor.Hand
open Go.RowKit Go.Proofs.YthfjolafikgpoaaGreatDoor.Base
set_option linter.unusedVariables false
set_option linter.unusedSimpArgs false
set_option maxRecDepth 100000
def nz (p : L) : Bool := p.all fun c => !(c == 0)
def nmB (c : UInt8) : Bool := alnum c || (c == 45 || (c == 95 || (c == 46 || c == 47)))
theorem pieces_all (P : UInt8 → Bool) (c : UInt8) (hc : P c = true) : ∀ x : L, (∀ p ∈ pieces c x, p.all P = true) → x.all P = true
 | [], _ => rfl
 | b :: t, h => by
   unfold pieces at h
   by_cases e : b = c
   · rw [if_pos e] at h
     rw [List.all_cons, e, hc, Bool.true_and]
     exact pieces_all P c hc t fun p hp => h p (List.mem_cons_of_mem _ hp)
   · rw [if_neg e] at h
     have hne := pieces_ne c t
     rcases hp : pieces c t with _ | ⟨q, r⟩
     · exact absurd hp hne
     · rw [hp] at h
       have h1 := h (b :: q) (List.mem_cons_self ..)
       simp only [List.all_cons, Bool.and_eq_true] at h1 ⊢
       refine ⟨h1.1, pieces_all P c hc t fun p hp2 => ?_⟩
       rw [hp] at hp2
       rcases List.mem_cons.1 hp2 with e2 | hp2
       · rw [e2]; exact h1.2
       · exact h p (List.mem_cons_of_mem _ hp2)
theorem all_imp {P Q : UInt8 → Bool} (h : ∀ c, P c = true → Q c = true) {x : L} (hx : x.all P = true) : x.all Q = true :=
 List.all_eq_true.2 fun c hc => h c (List.all_eq_true.1 hx c hc)
theorem small_nmB (c : UInt8) (h : small c = true) : nmB c = true := by unfold nmB alnum; simp [h]
theorem endsF_bytes {p : UInt8 → Bool} {set x : L} (h : endsF p set x = true) : x.all (fun c => p c || inSet c set) = true := by
 unfold endsF allF at h
 simp only [Bool.and_eq_true] at h
 exact h.1.1
theorem pValue_all {x : L} (h : pValue x = true) : x.all nmB = true := by
 unfold pValue labelValue at h
 simp only [Bool.and_eq_true, Bool.or_eq_true, beq_iff_eq] at h
 rcases h.2 with e | h
 · subst e; rfl
 · refine all_imp (fun c hc => ?_) (endsF_bytes h)
   unfold nmB inSet at *
   simp only [Bool.or_eq_true, List.any_cons, List.any_nil, Bool.or_false, beq_iff_eq] at hc ⊢
   rcases hc with h | h | h | h
   · exact .inl h
   · exact .inr (.inl h.symm)
   · exact .inr (.inr (.inl h.symm))
   · exact .inr (.inr (.inr (.inl h.symm)))
theorem label_all {x : L} (h : label x = true) : x.all nmB = true := by
 refine all_imp (fun c hc => ?_) (endsF_bytes h)
 simp only [Bool.or_eq_true] at hc
 rcases hc with h | h
 · exact small_nmB c h
 · unfold inSet at h; simp only [List.any_cons, List.any_nil, Bool.or_false, beq_iff_eq] at h
   subst h; rfl
theorem sub_all {x : L} (h : sub x = true) : x.all nmB = true :=
 pieces_all nmB 46 rfl x fun p hp => label_all (List.all_eq_true.1 h p hp)
theorem pName_all {x : L} (h : pName x = true) : x.all nmB = true := by
 unfold pName at h; simp only [Bool.and_eq_true] at h; exact pValue_all h.2
theorem pQ_all {x : L} (h : pQ x = true) : x.all nmB = true ∧ x ≠ [] := by
 refine ⟨pieces_all nmB 47 rfl x fun p hp => ?_, fun e => by subst e; cases h⟩
 unfold pQ at h
 split at h
 · rename_i n e; rw [e] at hp; rw [List.mem_singleton.1 hp]; exact pName_all h
 · rename_i q n e
   simp only [Bool.and_eq_true] at h
   rw [e] at hp
   rcases List.mem_cons.1 hp with hp | hp
   · rw [hp]; exact sub_all h.1.2
   · rw [List.mem_singleton.1 hp]; exact pName_all h.2
 · cases h
end Go.Proofs.YthfjolafikgpoaaGreatDoor.Hand

/- spec.Under, spec.Holds, spec.Meets; laws.epReq. -/
import Derived.Test.YthfjolafikgpoaaGreatDoorSAGLabB
import Derived.Test.YthfjolafikgpoaaGreatDoorSALabFair
import Derived.Test.YthfjolafikgpoaaGreatDoorSAGLabC
import Derived.Test.YthfjolafikgpoaaGreatDoorSATxO
import Derived.Test.YthfjolafikgpoaaGreatDoorSAM23
import Derived.Test.YthfjolafikgpoaaGreatDoorSAWrAll
import Derived.Test.YthfjolafikgpoaaGreatDoorSAGSelA
import Derived.Test.YthfjolafikgpoaaGreatDoorSAGParA
import Derived.Deep.QuietTactic
import Derived.Test.YthfjolafikgpoaaGreatDoorSAGParB
import Derived.StillTailTactics
import Derived.Maps.OwnSet
import Derived.Maps.OwnOps
import Derived.StringKeys
import Derived.Deep.RegionLaw
import Derived.Carry
import Derived.Test.YthfjolafikgpoaaGreatDoorSAGParC
import Derived.Test.YthfjolafikgpoaaGreatDoorSAM25
namespace Go.Proofs.YthfjolafikgpoaaGreatDoor.Hand
open Go.RowKit Go.Maps Go.Proofs.YthfjolafikgpoaaGreatDoorW.PrintWords Go.Proofs.YthfjolafikgpoaaGreatDoorW.PrintLast Go.Proofs.YthfjolafikgpoaaGreatDoorW.PrintMore Go.Proofs.YthfjolafikgpoaaGreatDoor.Base
set_option linter.unusedVariables false
set_option linter.unusedSimpArgs false
set_option maxRecDepth 100000
theorem fair_op {key x : L} {vs : List L} (h : fairR key x vs = true) : x = [105, 110] ∨ x = [61] ∨ x = [61, 61] ∨ x = [110, 111, 116, 105, 110] ∨ x = [33, 61] ∨ x = [101, 120, 105, 115, 116, 115] ∨ x = [33] ∨ x = [103, 116] ∨ x = [108, 116] := by
 apply Classical.byContradiction
 intro hn
 have h1 := (Bool.and_eq_true_iff.1 h).1
 unfold opOk at h1
 simp only [not_or] at hn
 obtain ⟨h0, h1_, h2, h3, h4, h5, h6, h7, h8⟩ := hn
 rw [if_neg (not_or.2 ⟨h0, h3⟩), if_neg (not_or.2 ⟨h1_, not_or.2 ⟨h2, h4⟩⟩), if_neg (not_or.2 ⟨h5, h6⟩), if_neg (not_or.2 ⟨h7, h8⟩)] at h1
 cases h1
open Go.Sort (ltStr)
set_option maxHeartbeats 8000000 in
theorem zzJoinL_calls (sg : ByteArray) (hs : sg.size ≤ 10) (A : Option Addr) (c n : Nat) (vs : List ByteArray) (hn : vs.length = n) (hn2 : n ≤ 1000) (hz : ∀ p ∈ vs, p.size ≤ 100000) (w : World) (hC : Kd.C Kd.string w A n vs) :
   Calls Tryz.prog 90 #[.slice A n c, .string sg] w fun e w' => e = .returned (.string (joinB sg vs)) ∧ w = w' := by
 have HC := Aside0.mk hC
 have HZ := Aside0.mk hz
 have HLN := Aside0.mk hn
 clear hC hz
 go_enter Tryz.func90, Tryz.ntmps90
 go_wp2
 go_loopg [5, 10] (n) (fun k v5 v10 w' => ∃ i : Nat, v10 = .int .i64 i ∧ v5 = .string (joinB sg (vs.take i)) ∧ w = w' ∧ Aside0 (k + i = n))
 case atStart => exact ⟨0, rfl, rfl, rfl, ⟨by omega⟩⟩
 case round =>
  obtain ⟨i, rfl, rfl, rfl, HI⟩ := hrel
  by_cases hil : i < n
  · obtain ⟨ad, rfl, hk0⟩ := Kd.at_string HC.out (i : Int) (by omega) (by omega)
    rw [Int.toNat_natCast] at hk0
    obtain ⟨p, hp⟩ : ∃ p, vs[i]? = some p := ⟨_, List.getElem?_eq_getElem (by rw [HLN.out]; exact hil)⟩
    have hg : rdOf ByteArray.empty vs (i : Int) = p := by unfold rdOf; rw [Int.toNat_natCast, List.getD_eq_getElem?_getD, hp]; rfl
    rw [hg] at hk0
    have hj : (joinB sg (vs.take i)).size ≤ 1000 * 100010 := by
     have h1 := joinB_size sg 100000 (vs.take i) (fun p hp => HZ.out p (List.mem_of_mem_take hp))
     refine Nat.le_trans h1 (Nat.mul_le_mul ?_ (by omega))
     rw [List.length_take]; omega
    have hps := HZ.out p (List.mem_of_getElem? hp)
    by_cases h0 : i = 0
    · have b0 : decide ((0 : Int) < (i : Int)) = false := decide_eq_false (by omega)
      have b1 : decide (0 < i) = false := decide_eq_false (by omega)
      have HX : Aside0 (joinB sg (vs.take (i + 1)) = joinB sg (vs.take i) ++ p) := ⟨by subst h0; exact joinB_first sg hp⟩
      obtain ⟨z1, z2, z3⟩ := small_sum (a := joinB sg (vs.take i)) (b := p) (by omega)
      clear hp hg h0 hj hps
      go_wp2
      go_roundg (n - (i + 1))
      case measure => have := HI.out; omega
      case rel => exact ⟨i + 1, by go_num, by rw [HX.out]; try rfl, rfl, ⟨by omega⟩⟩
    · have b0 : decide ((0 : Int) < (i : Int)) = true := decide_eq_true (by omega)
      have b1 : decide (0 < i) = true := decide_eq_true (by omega)
      have HX : Aside0 (joinB sg (vs.take (i + 1)) = joinB sg (vs.take i) ++ sg ++ p) := ⟨joinB_next sg h0 hp⟩
      obtain ⟨z1, z2, z3⟩ := small_sum (a := joinB sg (vs.take i)) (b := sg) (by omega)
      have z4 : (9223372036854775807 < (joinB sg (vs.take i)).size + sg.size + p.size) = False := eq_false (by omega)
      have z5 : ((9223372036854775807 : Int) < ((joinB sg (vs.take i)).size : Int) + (sg.size : Int) + (p.size : Int)) = False := eq_false (by omega)
      have z6 : decide (9223372036854775807 < (joinB sg (vs.take i)).size + sg.size + p.size) = false := decide_eq_false (by omega)
      clear hp hg h0 hj hps
      go_wp2
      go_roundg (n - (i + 1))
      case measure => have := HI.out; omega
      case rel => exact ⟨i + 1, by go_num, by rw [HX.out]; try rfl, rfl, ⟨by omega⟩⟩
  · have hje : i = n := by have := HI.out; omega
    have HX : Aside0 (joinB sg (vs.take i) = joinB sg vs) := ⟨by rw [List.take_of_length_le (by rw [HLN.out, hje]; exact Nat.le_refl _)]⟩
    go_wp2
    go_ret
    exact ⟨by rw [HX.out]; try rfl, rfl⟩
theorem setL_id {vs : List L} (hu : Up vs) : setL vs = vs := up_ext (setL_up vs) hu (fun y => setL_mem vs y)
def txtV (r : Rq) : ByteArray := textM r.2.1 (mk r.1) (joinB ⟨#[44]⟩ (r.2.2.map mk))
theorem txtV_W {r : Rq} (h : Up r.2.2) : txtV r = txtW r := by unfold txtV txtW; rw [setL_id h]
theorem textM_size (x : L) (key m : ByteArray) (hx : x.length ≤ 10) : (textM x key m).size ≤ key.size + m.size + 20 := by
 have e1 : (⟨#[32, 105, 110, 32]⟩ : ByteArray).size = 4 := rfl
 have e2 : (⟨#[32, 110, 111, 116, 105, 110, 32]⟩ : ByteArray).size = 7 := rfl
 have e3 : (⟨#[40]⟩ : ByteArray).size = 1 := rfl
 have e4 : (⟨#[41]⟩ : ByteArray).size = 1 := rfl
 have e5 : (⟨#[62]⟩ : ByteArray).size = 1 := rfl
 have e6 : (⟨#[60]⟩ : ByteArray).size = 1 := rfl
 have e7 : (⟨#[33]⟩ : ByteArray).size = 1 := rfl
 have e8 : (⟨x.toArray⟩ : ByteArray).size = x.length := mk_size x
 unfold textM
 (repeat' split) <;> (try simp only [ByteArray.size_append]) <;> omega
end Go.Proofs.YthfjolafikgpoaaGreatDoor.Hand
namespace Go.Proofs.YthfjolafikgpoaaGreatDoor.Hand
open Go.RowKit Go.Proofs.YthfjolafikgpoaaGreatDoor.PFnSelDecidesLabels Go.Proofs.YthfjolafikgpoaaGreatDoorW.PrintWords Go.Proofs.YthfjolafikgpoaaGreatDoorW.PrintLast Go.Proofs.YthfjolafikgpoaaGreatDoorW.PrintMore Go.Proofs.YthfjolafikgpoaaGreatDoor.Base
set_option linter.unusedVariables false
set_option linter.unusedSimpArgs false
set_option maxRecDepth 100000
end Go.Proofs.YthfjolafikgpoaaGreatDoor.Hand
namespace Go.Proofs.YthfjolafikgpoaaGreatDoor.Hand
open Go.RowKit Go.Maps Go.Proofs.YthfjolafikgpoaaGreatDoorW.PrintWords Go.Proofs.YthfjolafikgpoaaGreatDoorW.PrintLast Go.Proofs.YthfjolafikgpoaaGreatDoorW.PrintMore Go.Proofs.YthfjolafikgpoaaGreatDoor.Base
set_option linter.unusedVariables false
set_option linter.unusedSimpArgs false
set_option maxRecDepth 100000
def EX (w : World) (rb B : Nat) (T : List Tk) (p : Nat) : Prop :=
 rb < B ∧ ∃ (A : Option Addr) (c : Nat), w.heap[rb]? = some (.cells #[.slice A T.length c, .int .i64 (p : Int)] 105 (0, 0)) ∧ KT.R 136 w 0 (fun k => k ≠ rb ∧ k < B) (.slice A T.length c) (toksV T)
def fin (r : Option (List L × List Tk)) : Option (List L × List Tk) := match r with
 | some (ks, (k3, _) :: ts3) => if vk k3 = 2 then some (ks, ts3) else none
 | _ => none
structure RV (w0 w : World) (rb B : Nat) (T : List Tk) (q : Nat) (vo : Value) (out : List L) : Prop where
 ex : EX w rb B T q
 kb : Kb w0 w rb
 rw_ : Kd.R Kd.string 9 w w0.heap.size (fun k => w0.heap.size ≤ k) vo (out.map mk)
theorem RV.slice {w0 w : World} {rb B q : Nat} {T : List Tk} {vo : Value} {out : List L} (h : RV w0 w rb B T q vo out) : ∃ (A : Option Addr) (c : Nat), vo = .slice A out.length c := by
 obtain ⟨A, c, e⟩ := Kd.R_slice h.rw_
 rw [List.length_map] at e
 exact ⟨A, c, e⟩
section
variable {w0 w w' : World} {rb B g2 g4 q q' : Nat} {T : List Tk} {key op : ByteArray} {v : Value}
end
theorem blk3 {w : World} {g t : Nat} {a b c : Value} (h : w.heap[g]? = some (.cells #[a, b, c] t (0, 0))) : w.cell? ⟨g, 0, none⟩ = some a ∧ w.cell? ⟨g, 1, none⟩ = some b ∧ w.cell? ⟨g, 2, none⟩ = some c :=
 ⟨(blk_cell h 0).trans rfl, (blk_cell h 1).trans rfl, (blk_cell h 2).trans rfl⟩
end Go.Proofs.YthfjolafikgpoaaGreatDoor.Hand
namespace Go.Proofs.YthfjolafikgpoaaGreatDoor.Hand
open Go.RowKit Go.Maps Go.Proofs.YthfjolafikgpoaaGreatDoor.PFnSelDecidesLabels Go.Proofs.YthfjolafikgpoaaGreatDoorW.PrintWords Go.Proofs.YthfjolafikgpoaaGreatDoorW.PrintLast Go.Proofs.YthfjolafikgpoaaGreatDoorW.PrintMore Go.Proofs.YthfjolafikgpoaaGreatDoor.Base
set_option linter.unusedVariables false
set_option linter.unusedSimpArgs false
set_option maxRecDepth 100000
end Go.Proofs.YthfjolafikgpoaaGreatDoor.Hand
namespace Go.Proofs.YthfjolafikgpoaaGreatDoor.Hand
open Go.RowKit Go.Maps Go.Proofs.YthfjolafikgpoaaGreatDoorW.PrintWords Go.Proofs.YthfjolafikgpoaaGreatDoorW.PrintLast Go.Proofs.YthfjolafikgpoaaGreatDoorW.PrintMore Go.Proofs.YthfjolafikgpoaaGreatDoor.Base
set_option linter.unusedVariables false
set_option linter.unusedSimpArgs false
set_option maxRecDepth 100000
theorem rq_elem2 {W : World} {B base : Nat} {r : Rq} {A : Option Addr} {c : Nat} (hb : base ≤ B) (h : Kd.R Kd.string 9 W B (fun k => B ≤ k) (.slice A r.2.2.length c) (r.2.2.map mk)) :
   KQ.M W base (fun k => B ≤ k) (mk r.1, mk r.2.1, r.2.2.map mk) [.string (mk r.1), .string (mk r.2.1), .slice A r.2.2.length c] :=
 ⟨[_], [_, _], rfl, rfl, ⟨[_], [_], rfl, rfl, ⟨_, rfl, Kd.R_lower h hb⟩⟩⟩
section
variable {w0 W W' : World} {rb B q q' : Nat} {T : List Tk} {v v' : Value} {acc acc' : List Rq}
end
theorem rq_elem3 {W : World} {B base n : Nat} {r : Rq} {A : Option Addr} {c : Nat} (hb : base ≤ B) (hn : r.2.2.length = n) (h : Kd.R Kd.string 9 W B (fun k => B ≤ k) (.slice A n c) (r.2.2.map mk)) :
   KQ.M W base (fun k => B ≤ k) (mk r.1, mk r.2.1, r.2.2.map mk) [.string (mk r.1), .string (mk r.2.1), .slice A n c] := by
 subst hn; exact rq_elem2 hb h
set_option maxHeartbeats 8000000 in
theorem requirement3_calls (key op : ByteArray) (hk : key.size ≤ 2000) (A : Option Addr) (c n : Nat) (vs : List ByteArray) (hn : vs.length = n) (hn2 : n ≤ 200) (hz : ∀ p ∈ vs, p.size ≤ 100000000) (w : World) (hC : Kd.C Kd.string w A n vs) (hT : TV w) (hf : fairR key.data.toList op.data.toList (vL vs) = true) :
   Calls Tryz.prog 50 #[.agg #[.string key, .string op, .slice A n c]] w fun e w' => ∃ (b c' : Nat) (A' : Option Addr), e = .returned (.tuple #[.pointer (some ⟨b, 0, none⟩), .int .i64 0]) ∧ w'.heap[b]? = some (.cells #[.string key, .string op, .slice A' n c'] 88 (0, 0)) ∧ Kd.R Kd.string 9 w' w.heap.size (fun k => w.heap.size ≤ k) (.slice A' n c') vs ∧ Below w.heap.size w w' := by
 have h1 : ((key.size : Int) ≤ 2000) = True := eq_true (by omega)
 have h2 : (2000 < (key.size : Int)) = False := eq_false (by omega)
 have h3 : ((n : Int) ≤ 200) = True := eq_true (by omega)
 have h4 : (200 < (n : Int)) = False := eq_false (by omega)
 have HN := Aside0.mk (fun (A' : Option Addr) (c' : Nat) (W : World) (hC : Kd.C Kd.string W A' n vs) (hT : TV W) => NewReq_calls key op (by omega) A' c' n vs hn (by omega) hz W hC hT)
 have HT := Aside0.mk hT
 have HLN := Aside0.mk hn
 clear hT hn hz
 rw [hf] at HN
 clear hf
 go_enter Tryz.func50, Tryz.ntmps50
 go_upto_region 3 with (fail)
 have hbk := heap_alloc_new w (.cells #[.string key, .string op, .slice A n c] 53)
 have HB := Aside0.mk (below_alloc (Below.refl w.heap.size w) (.cells #[.string key, .string op, .slice A n c] 53))
 obtain ⟨W1, hW1⟩ : ∃ W1, w.alloc (.cells #[.string key, .string op, .slice A n c] 53) = W1 := ⟨_, rfl⟩
 rw [hW1] at hbk HB ⊢
 have c0 : W1.cell? ⟨w.heap.size, 0, none⟩ = some (.string key) := (blk_cell hbk 0).trans rfl
 have c1 : W1.cell? ⟨w.heap.size, 1, none⟩ = some (.string op) := (blk_cell hbk 1).trans rfl
 have c2 : W1.cell? ⟨w.heap.size, 2, none⟩ = some (.slice A n c) := (blk_cell hbk 2).trans rfl
 have hbk2 := blk_alloc hbk (.cells #[] 9)
 have d0 : (W1.alloc (.cells #[] 9)).cell? ⟨w.heap.size, 0, none⟩ = some (.string key) := (blk_cell hbk2 0).trans rfl
 have d1 : (W1.alloc (.cells #[] 9)).cell? ⟨w.heap.size, 1, none⟩ = some (.string op) := (blk_cell hbk2 1).trans rfl
 have d2 : (W1.alloc (.cells #[] 9)).cell? ⟨w.heap.size, 2, none⟩ = some (.slice A n c) := (blk_cell hbk2 2).trans rfl
 have HBK := Aside0.mk hbk
 clear hbk2
 have HC := Aside0.mk (Kd.C_below hC HB.out)
 clear hbk hW1 hC
 have HR0 := Aside0.mk (R_empty W1 w.heap.size HB.out.size)
 have HB2 := Aside0.mk (below_alloc HB.out (.cells #[] 9))
 have HC2 := Aside0.mk (Kd.C_below HC.out (below_alloc (Below.refl _ _) (.cells #[] 9)))
 have HLV : Aside0 (([] ++ vs : List ByteArray).length = n) := ⟨by rw [List.nil_append]; exact HLN.out⟩
 go_region_held_law (fun w' => w'.cell? ⟨w.heap.size, 0, none⟩ = some (.string key) ∧ w'.cell? ⟨w.heap.size, 1, none⟩ = some (.string op) ∧ w'.cell? ⟨w.heap.size, 2, none⟩ = some (.slice A n c)) (first | exact ⟨c0, c1, c2⟩ | exact ⟨d0, d1, d2⟩ | exact ⟨f0, f1, f2⟩ | exact ⟨k0, k1, k2⟩ | go_keep) (first | (refine Kd.R_append_rows_step Kd.string (w0 := w) w.heap.size (by rfl) (.tmp 21) (.tmp 23) 51 9 (.string ⟨#[]⟩) 16 rfl Tryz.underlying51 infoLS rfl (by decide) (by decide) (.slice (some ⟨W1.heap.size, 0, none⟩) 0 0) [] vs A n c (fun _ => True) (fun _ => False) rfl rfl ?aO ?aR (fun _ _ h => h) (fun _ h => h.elim) (fun _ _ => trivial) ?aB ?aS ?aL ?_; (case aO => first | exact HR0.out | exact Kd.R_drew HR0.out | exact Kd.R_drewN HR0.out _); (case aR => first | exact HC2.out | exact Kd.C_drew HC2.out | exact Kd.C_drewN HC2.out _); (case aB => first | exact HB2.out | exact below_drew1 HB2.out | exact pw_below_drewN HB2.out _); (case aS => first | exact below_size HB2.out | exact below_size (below_drew1 HB2.out) | exact below_size (pw_below_drewN HB2.out _)); (case aL => simp only [List.length_nil]; omega); intro v1 w1 ho hb hg hat; obtain ⟨A2, c2, hv1⟩ := Kd.R_slice ho; rw [HLV.out] at hv1; subst hv1; have HCP := Aside0.mk (Kd.R_reads' ho).2.1; have HRV := Aside0.mk (Kd.R_reads' ho).2.2; rw [HLV.out] at HRV; have HB3 := Aside0.mk hb; have hbk3 := blk_grown (blk_drew (blk_alloc HBK.out (.cells #[] 9))) hg (fun e => by have h9 := blk_lt HBK.out; simp [Value.ownBlock] at e; omega); have f0 : w1.cell? ⟨w.heap.size, 0, none⟩ = some (.string key) := (blk_cell hbk3 0).trans rfl; have f1 : w1.cell? ⟨w.heap.size, 1, none⟩ = some (.string op) := (blk_cell hbk3 1).trans rfl; have f2 : w1.cell? ⟨w.heap.size, 2, none⟩ = some (.slice A n c) := (blk_cell hbk3 2).trans rfl; have HLT := Aside0.mk (blk_lt hbk3); have HRO := Aside0.mk ho; clear ho hb hg hat hbk3) | (refine goes_ (N := some 25) Tryz.func82 (by kernel_rfl) rfl #[.string key, .string op, .slice A2 n c2] (by rfl) rfl rfl (by (try simp only [List.map_toArray, List.map_cons, List.map_nil]); first | done | rfl) ?_; refine (HN.out A2 c2 _ (by rw [List.nil_append] at HRV; exact HRV.out) (HT.out.below HB3.out)).mono ?_; rintro e w4 ⟨hcp, hb⟩; obtain ⟨b, rfl, hbb, hbl⟩ := hcp.1 rfl; have HBL := Aside0.mk hbl; have HRO2 := Aside0.mk (Kd.R_below HRO.out hb); clear hbb hbl; have HB4 := Aside0.mk (below_step HB3.out hb); have k0 := (hb.cell HLT.out).trans f0; have k1 := (hb.cell HLT.out).trans f1; have k2 := (hb.cell HLT.out).trans f2; clear hb hcp; refine ⟨_, rfl, ?_⟩))
 go_wp2
 go_ret2
 exact ⟨_, _, _, rfl, HBL.out, Kd.R_mono (Kd.R_bound (by have := HRO2.out; rwa [List.nil_append] at this)) (fun k hk => hk.2.1), HB4.out⟩
theorem SelEmpty_calls (A : Option Addr) (c n : Nat) (h0 : (A = none ∧ n = 0 ∧ c = 0) ∨ A ≠ none) (w : World) :
   Calls Tryz.prog 245 #[.slice A n c] w fun e w' => e = .returned (.bool (n == 0)) ∧ w' = w := by
 cases A with
 | none =>
   obtain ⟨_, rfl, rfl⟩ : (none : Option Addr) = none ∧ n = 0 ∧ c = 0 := by
    rcases h0 with h | h
    · exact h
    · exact absurd rfl h
   have hne : ∀ W : World, (binOp .eql 121 (.slice none 0 0) (.slice none 0 0)).run Tryz.prog W = .ok (.bool true) W := fun W => by kernel_rfl
   clear h0
   go_enter Tryz.func245, Tryz.ntmps245
   go_wp2
   go_ret
   exact ⟨rfl, rfl⟩
 | some ad =>
   have e : ((n : Int) == 0) = (n == 0) := by rw [Bool.eq_iff_iff, beq_iff_eq, beq_iff_eq]; omega
   obtain ⟨q, hq⟩ : ∃ q, (n == 0) = q := ⟨_, rfl⟩
   rw [hq] at e ⊢
   have hne : ∀ W : World, (binOp .eql 121 (.slice (some ad) n c) (.slice none 0 0)).run Tryz.prog W = .ok (.bool false) W := fun W => by kernel_rfl
   clear hq h0
   go_enter Tryz.func245, Tryz.ntmps245
   go_wp2
   go_ret
   exact ⟨rfl, rfl⟩
theorem own_new {s B : Nat} {v v1 : Value} (HV : ∀ k, v.ownBlock = some k → s ≤ k) (hB : s ≤ B) (hat : v1.ownBlock = v.ownBlock ∨ ∃ b, v1.ownBlock = some b ∧ B ≤ b) (k : Nat) (e : v1.ownBlock = some k) : s ≤ k := by
 rcases hat with h | ⟨b, h, hb⟩
 · exact HV k (h.symm.trans e)
 · rw [h] at e; injection e with e; omega
theorem kq_elemM {w : World} {base n c : Nat} {ok : Nat → Prop} {A : Option Addr} {l : List Rq} (hR : KQ.R 88 w base ok (.slice A n c) (rqV l)) (i : Nat) (r : Rq) (hr : l[i]? = some r) :
   ∃ (g : Nat) (X : Option Addr) (xl xc : Nat), A = some ⟨g, 0, none⟩ ∧ KQ.M w base (fun k => k < w.heap.size) (rq1 r) [.string (mk r.1), .string (mk r.2.1), .slice X xl xc] ∧ w.cell? ⟨g, i * 3, none⟩ = some (.string (mk r.1)) ∧ w.cell? ⟨g, i * 3 + 1, none⟩ = some (.string (mk r.2.1)) ∧ w.cell? ⟨g, i * 3 + 2, none⟩ = some (.slice X xl xc) := by
 have hil : i < l.length := (List.getElem?_eq_some_iff.1 hr).1
 obtain ⟨g, cap, hv, _, _, _⟩ := Kd.R_form hR (by rw [List.length_map]; omega)
 injection hv with h1 h2 h3
 subst h1 h2 h3
 have hi : i < (rqV l).length := by rw [List.length_map]; exact hil
 obtain ⟨v, hM, c0, c1, c2, _⟩ := q_elem hR i hi (rq1 default)
 have e : (rqV l).getD i (rq1 default) = rq1 r := by rw [List.getD_eq_getElem?_getD, rqV, List.getElem?_map, hr]; rfl
 rw [e] at hM c0 c1
 have sl : ∃ A l c, v = .slice A l c := by
  obtain ⟨c0, c1, e, h0, c2, c3, rfl, h2, u, h3, hr⟩ := hM
  have e0 : c0 = [.string (rq1 r).1] := h0
  have e2 : c2 = [.string (rq1 r).2.1] := h2
  subst e0 e2 h3
  simp only [List.singleton_append, List.cons.injEq, and_true, true_and] at e
  subst e
  obtain ⟨A, c, e⟩ := Kd.R_slice hr
  exact ⟨A, _, c, e⟩
 obtain ⟨X, xl, xc, rfl⟩ := sl
 exact ⟨g, X, xl, xc, rfl, KQ.M_mono (fun k hk => hk.2.2.1) (KQ.M_bound hM), c0, c1, c2⟩
set_option maxHeartbeats 16000000 in
theorem Add_calls (A1 A2 : Option Addr) (c1 c2 n1 n2 : Nat) (l1 l2 : List Rq) (h1 : l1.length = n1) (h2 : l2.length = n2) (hs : n1 + n2 ≤ 900) (hS : SortOK (l1 ++ l2)) (w : World) (base : Nat) (hb0 : base ≤ w.heap.size) (ok1 ok2 : Nat → Prop) (hR1 : KQ.R 88 w base ok1 (.slice A1 n1 c1) (rqV l1)) (hR2 : KQ.R 88 w base ok2 (.slice A2 n2 c2) (rqV l2)) :
   Calls Tryz.prog 243 #[.slice A1 n1 c1, .slice A2 n2 c2] w fun e w' => ∃ (v : Value) (l' : List Rq), e = .returned (.iface 121 v) ∧ l'.Perm (l1 ++ l2) ∧ KAsc l' ∧ KQ.R 88 w' base (fun _ => True) v (rqV l') ∧ Below w.heap.size w w' := by
 have HE1 := Aside0.mk (fun (i : Nat) (r : Rq) (hr : l1[i]? = some r) => kq_elemM hR1 i r hr)
 have HE2 := Aside0.mk (fun (i : Nat) (r : Rq) (hr : l2[i]? = some r) => kq_elemM hR2 i r hr)
 have Hl1 := Aside0.mk h1
 have Hl2 := Aside0.mk h2
 have HBS := Aside0.mk hb0
 have HSO := Aside0.mk (fun (W : World) (v : Value) (h : KQ.R 88 W base (fun _ => True) v (rqV (l1 ++ l2))) => hS W base _ v h)
 have HB := Aside0.mk (Below.refl w.heap.size w)
 clear h1 h2 hb0 hS hR1 hR2
 go_enter Tryz.func243, Tryz.ntmps243
 go_wp2
 go_loopg [5, 6, 11] (n1) (fun k s5 v6 v11 w' => ∃ (i : Nat) (v5 : Value), v5 = s5 ∧ v11 = .int .i64 i ∧ Aside0 (k + i = n1) ∧ Aside0 (KQ.R 88 w' base (fun _ => True) v5 (rqV (l1.take i))) ∧ Aside0 (Below w.heap.size w w') ∧ Aside0 (∀ k, v5.ownBlock = some k → w.heap.size ≤ k))
 case atStart => exact ⟨0, _, rfl, rfl, ⟨by omega⟩, ⟨Kd.R_nil _ _ _ _ _⟩, HB, ⟨fun k e => by simp [Value.ownBlock] at e⟩⟩
 case round =>
  clear HB
  obtain ⟨i, v5, rfl, rfl, HI, HR, HB, HV⟩ := hrel
  by_cases hil : i < n1
  · obtain ⟨r, hr⟩ : ∃ r, l1[i]? = some r := ⟨_, List.getElem?_eq_getElem (by rw [Hl1.out]; exact hil)⟩
    obtain ⟨g, X, xl, xc, rfl, hM, c0, c1_, c2_⟩ := HE1.out i r hr
    have d0 := (HB.out.cell (World.block_lt_of_cell? _ _ c0)).trans c0
    have d1 := (HB.out.cell (World.block_lt_of_cell? _ _ c1_)).trans c1_
    have d2 := (HB.out.cell (World.block_lt_of_cell? _ _ c2_)).trans c2_
    have HME := Aside0.mk (KQ.M_move (fun k hk => HB.out.block k hk) hM)
    have HNEW : Aside0 (rqV (l1.take i) ++ [rq1 r] = rqV (l1.take (i + 1))) := ⟨by rw [List.take_add_one, hr]; simp [rqV]⟩
    have HLEN : Aside0 ((rqV (l1.take i)).length ≤ 900) := ⟨by rw [List.length_map, List.length_take]; omega⟩
    have HBB := Aside0.mk (HB.out.mono HBS.out)
    clear hr hM c0 c1_ c2_
    go_wp2_with (first | ((with_reducible refine gate_builtin (b := .append) (xs := #[.tmp 14, .tmp 19]) rfl ?_); (try (refine gate_guard (by rfl) ?_; dsimp only)); at_builtin; refine Kd.R_append KQ (w0 := w) base rfl (.tmp 14) (.tmp 19) 121 88 (.agg #[.string ⟨#[]⟩, .string ⟨#[]⟩, .slice none 0 0]) 56 rfl Tryz.underlying121 infoRQ rfl (by decide) (by decide) v5 (rqV (l1.take i)) (rq1 r) [.string (mk r.1), .string (mk r.2.1), .slice X xl xc] (fun _ => True) (fun k => k < w.heap.size) rfl (by first | rfl | (simp [Act.eval]; done)) ?aP ?aK ?aF ?aO ?aB ?aS ?aL ?_; (case aP => exact HME.out); (case aK => exact fun k hk => ⟨trivial, fun e => by have := HV.out k e.symm; omega⟩); (case aF => exact fun _ _ => trivial); (case aO => exact HR.out); (case aB => exact HBB.out); (case aS => exact Nat.le_trans HBS.out HB.out.size); (case aL => have := HLEN.out; omega); intro vN wN ho hb hg hat; rw [HNEW.out] at ho; have HR5 := Aside0.mk ho; have HB5 := Aside0.mk (pw_below_grown HB.out v5.ownBlock HB.out.size hg (fun k e => HV.out k e)); have HV5 := Aside0.mk (fun (k : Nat) (e : vN.ownBlock = some k) => own_new HV.out HB.out.size hat k e); clear ho hb hg hat))
    go_roundg (n1 - (i + 1))
    case measure => have := HI.out; omega
    case rel => exact ⟨i + 1, _, rfl, by go_num, ⟨by omega⟩, HR5, HB5, HV5⟩
  · have hie : i = n1 := by have := HI.out; omega
    have hr := HR.out
    rw [List.take_of_length_le (by rw [Hl1.out, hie]; exact Nat.le_refl _)] at hr
    have HR0 := Aside0.mk hr
    have HV0 := HV
    have HB0 := HB
    clear hr hie HR HB HV
    go_wp2
    generalize gk = go at *
    go_loopg [5, 8, 24] (n2) (fun k s5 v8 v24 w' => ∃ (j : Nat) (v5 : Value), v5 = s5 ∧ v24 = .int .i64 j ∧ Aside0 (k + j = n2) ∧ Aside0 (KQ.R 88 w' base (fun _ => True) v5 (rqV (l1 ++ l2.take j))) ∧ Aside0 (Below w.heap.size w w') ∧ Aside0 (∀ k, v5.ownBlock = some k → w.heap.size ≤ k))
    case atStart => exact ⟨0, _, rfl, rfl, ⟨by omega⟩, ⟨by rw [List.take_zero, List.append_nil]; exact HR0.out⟩, HB0, HV0⟩
    case round =>
     clear HR0 HB0 HV0
     obtain ⟨j, v5, rfl, rfl, HJ, HR, HB, HV⟩ := hrel
     by_cases hjl : j < n2
     · obtain ⟨r, hr⟩ : ∃ r, l2[j]? = some r := ⟨_, List.getElem?_eq_getElem (by rw [Hl2.out]; exact hjl)⟩
       obtain ⟨g, X, xl, xc, rfl, hM, c0, c1_, c2_⟩ := HE2.out j r hr
       have d0 := (HB.out.cell (World.block_lt_of_cell? _ _ c0)).trans c0
       have d1 := (HB.out.cell (World.block_lt_of_cell? _ _ c1_)).trans c1_
       have d2 := (HB.out.cell (World.block_lt_of_cell? _ _ c2_)).trans c2_
       have HME := Aside0.mk (KQ.M_move (fun k hk => ((below_alloc HB.out (.cells #[.string (mk r.1), .string (mk r.2.1), .slice X xl xc] 88)).block k hk)) hM)
       have HNEW : Aside0 (rqV (l1 ++ l2.take j) ++ [rq1 r] = rqV (l1 ++ l2.take (j + 1))) := ⟨by rw [List.take_add_one, hr]; simp [rqV]⟩
       have HLEN : Aside0 ((rqV (l1 ++ l2.take j)).length ≤ 900) := ⟨by rw [List.length_map, List.length_append, List.length_take, Hl1.out]; omega⟩
       have HB2 := Aside0.mk (below_alloc HB.out (.cells #[.string (mk r.1), .string (mk r.2.1), .slice X xl xc] 88))
       have HR2 := Aside0.mk (Kd.R_alloc HR.out (.cells #[.string (mk r.1), .string (mk r.2.1), .slice X xl xc] 88))
       have HBB := Aside0.mk (HB2.out.mono HBS.out)
       have hbk := heap_alloc_new wr (.cells #[.string (mk r.1), .string (mk r.2.1), .slice X xl xc] 88)
       obtain ⟨f0, f1, f2⟩ := blk3 hbk
       clear hr hM c0 c1_ c2_ hbk HR HB
       go_wp2_with (first | ((with_reducible refine gate_builtin (b := .append) (xs := #[.tmp 28, .tmp 30]) rfl ?_); (try (refine gate_guard (by rfl) ?_; dsimp only)); at_builtin; refine Kd.R_append KQ (w0 := w) base rfl (.tmp 28) (.tmp 30) 121 88 (.agg #[.string ⟨#[]⟩, .string ⟨#[]⟩, .slice none 0 0]) 56 rfl Tryz.underlying121 infoRQ rfl (by decide) (by decide) v5 (rqV (l1 ++ l2.take j)) (rq1 r) [.string (mk r.1), .string (mk r.2.1), .slice X xl xc] (fun _ => True) (fun k => k < w.heap.size) rfl (by first | rfl | (simp [Act.eval]; done)) ?aP ?aK ?aF ?aO ?aB ?aS ?aL ?_; (case aP => exact HME.out); (case aK => exact fun k hk => ⟨trivial, fun e => by have := HV.out k e.symm; omega⟩); (case aF => exact fun _ _ => trivial); (case aO => exact HR2.out); (case aB => exact HBB.out); (case aS => exact Nat.le_trans HBS.out HB2.out.size); (case aL => have := HLEN.out; omega); intro vN wN ho hb hg hat; rw [HNEW.out] at ho; have HR5 := Aside0.mk ho; have HB5 := Aside0.mk (pw_below_grown HB2.out v5.ownBlock HB2.out.size hg (fun k e => HV.out k e)); have HV5 := Aside0.mk (fun (k : Nat) (e : vN.ownBlock = some k) => own_new HV.out HB2.out.size hat k e); clear ho hb hg hat))
       go_roundg (n2 - (j + 1))
       case measure => have := HJ.out; omega
       case rel => exact ⟨j + 1, _, rfl, by go_num, ⟨by omega⟩, HR5, HB5, HV5⟩
     · have hje : j = n2 := by have := HJ.out; omega
       have hr := HR.out
       rw [List.take_of_length_le (l := l2) (by rw [Hl2.out, hje]; exact Nat.le_refl _)] at hr
       have HR0 := Aside0.mk hr
       clear hr hje HR
       go_wp2_with (first | ((with_reducible refine (HSO.out _ _ HR0.out).mono ?_); rintro e w2 ⟨rfl, l', hp, ha, hr, hg⟩; have HP := Aside0.mk hp; have HA := Aside0.mk ha; have HR9 := Aside0.mk hr; have HB9 := Aside0.mk (pw_below_grown HB.out v5.ownBlock HB.out.size hg (fun k e => HV.out k e)); clear hp ha hr hg))
       go_ret
       exact ⟨_, l', rfl, HP.out, HA.out, HR9.out, HB9.out⟩
end Go.Proofs.YthfjolafikgpoaaGreatDoor.Hand

/- spec.Under, spec.Holds, spec.Meets; laws.epReq. -/
import Derived.Test.YthfjolafikgpoaaGreatDoorSFGLabB
import Derived.Test.YthfjolafikgpoaaGreatDoorSFLabFair
import Derived.Test.YthfjolafikgpoaaGreatDoorSFGLabC
import Derived.Test.YthfjolafikgpoaaGreatDoorSFTxO
import Derived.Test.YthfjolafikgpoaaGreatDoorSFM23
import Derived.Test.YthfjolafikgpoaaGreatDoorSFWrAll
import Derived.Test.YthfjolafikgpoaaGreatDoorSFGSelA
import Derived.Test.YthfjolafikgpoaaGreatDoorSFGParA
import Derived.Deep.QuietTactic
import Derived.Test.YthfjolafikgpoaaGreatDoorSFGParB
import Derived.StillTailTactics
import Derived.Maps.OwnSet
import Derived.Maps.OwnOps
import Derived.StringKeys
import Derived.Deep.RegionLaw
import Derived.Carry
import Derived.Test.YthfjolafikgpoaaGreatDoorSFGParC
import Derived.BigQuiet
namespace Go.Proofs.YthfjolafikgpoaaGreatDoor.Hand
open Go.RowKit Go.Maps Go.Proofs.YthfjolafikgpoaaGreatDoorW.PrintWords Go.Proofs.YthfjolafikgpoaaGreatDoorW.PrintLast Go.Proofs.YthfjolafikgpoaaGreatDoorW.PrintMore Go.Proofs.YthfjolafikgpoaaGreatDoor.Base
set_option linter.unusedVariables false
set_option linter.unusedSimpArgs false
set_option maxRecDepth 100000
theorem fair_op {key x : L} {vs : List L} (h : fairR key x vs = true) : x = [105, 110] ∨ x = [61] ∨ x = [61, 61] ∨ x = [110, 111, 116, 105, 110] ∨ x = [33, 61] ∨ x = [101, 120, 105, 115, 116, 115] ∨ x = [33] ∨ x = [103, 116] ∨ x = [108, 116] := by
 apply Classical.byContradiction
 intro hn
 have h1 := (Bool.and_eq_true_iff.1 h).1
 unfold opOk at h1
 simp only [not_or] at hn
 obtain ⟨h0, h1_, h2, h3, h4, h5, h6, h7, h8⟩ := hn
 rw [if_neg (not_or.2 ⟨h0, h3⟩), if_neg (not_or.2 ⟨h1_, not_or.2 ⟨h2, h4⟩⟩), if_neg (not_or.2 ⟨h5, h6⟩), if_neg (not_or.2 ⟨h7, h8⟩)] at h1
 cases h1
open Go.Sort (ltStr)
set_option maxHeartbeats 8000000 in
theorem zzJoinL_calls (sg : ByteArray) (hs : sg.size ≤ 10) (A : Option Addr) (c n : Nat) (vs : List ByteArray) (hn : vs.length = n) (hn2 : n ≤ 1000) (hz : ∀ p ∈ vs, p.size ≤ 100000) (w : World) (hC : Kd.C Kd.string w A n vs) :
   Calls Tryz.prog 90 #[.slice A n c, .string sg] w fun e w' => e = .returned (.string (joinB sg vs)) ∧ w = w' := by
 have HC := Aside0.mk hC
 have HZ := Aside0.mk hz
 have HLN := Aside0.mk hn
 clear hC hz
 go_enter Tryz.func90, Tryz.ntmps90
 go_wp2
 go_loopg [5, 10] (n) (fun k v5 v10 w' => ∃ i : Nat, v10 = .int .i64 i ∧ v5 = .string (joinB sg (vs.take i)) ∧ w = w' ∧ Aside0 (k + i = n))
 case atStart => exact ⟨0, rfl, rfl, rfl, ⟨by omega⟩⟩
 case round =>
  obtain ⟨i, rfl, rfl, rfl, HI⟩ := hrel
  by_cases hil : i < n
  · obtain ⟨ad, rfl, hk0⟩ := Kd.at_string HC.out (i : Int) (by omega) (by omega)
    rw [Int.toNat_natCast] at hk0
    obtain ⟨p, hp⟩ : ∃ p, vs[i]? = some p := ⟨_, List.getElem?_eq_getElem (by rw [HLN.out]; exact hil)⟩
    have hg : rdOf ByteArray.empty vs (i : Int) = p := by unfold rdOf; rw [Int.toNat_natCast, List.getD_eq_getElem?_getD, hp]; rfl
    rw [hg] at hk0
    have hj : (joinB sg (vs.take i)).size ≤ 1000 * 100010 := by
     have h1 := joinB_size sg 100000 (vs.take i) (fun p hp => HZ.out p (List.mem_of_mem_take hp))
     refine Nat.le_trans h1 (Nat.mul_le_mul ?_ (by omega))
     rw [List.length_take]; omega
    have hps := HZ.out p (List.mem_of_getElem? hp)
    by_cases h0 : i = 0
    · have b0 : decide ((0 : Int) < (i : Int)) = false := decide_eq_false (by omega)
      have b1 : decide (0 < i) = false := decide_eq_false (by omega)
      have HX : Aside0 (joinB sg (vs.take (i + 1)) = joinB sg (vs.take i) ++ p) := ⟨by subst h0; exact joinB_first sg hp⟩
      obtain ⟨z1, z2, z3⟩ := small_sum (a := joinB sg (vs.take i)) (b := p) (by omega)
      clear hp hg h0 hj hps
      go_wp2
      go_roundg (n - (i + 1))
      case measure => have := HI.out; omega
      case rel => exact ⟨i + 1, by go_num, by rw [HX.out]; try rfl, rfl, ⟨by omega⟩⟩
    · have b0 : decide ((0 : Int) < (i : Int)) = true := decide_eq_true (by omega)
      have b1 : decide (0 < i) = true := decide_eq_true (by omega)
      have HX : Aside0 (joinB sg (vs.take (i + 1)) = joinB sg (vs.take i) ++ sg ++ p) := ⟨joinB_next sg h0 hp⟩
      obtain ⟨z1, z2, z3⟩ := small_sum (a := joinB sg (vs.take i)) (b := sg) (by omega)
      have z4 : (9223372036854775807 < (joinB sg (vs.take i)).size + sg.size + p.size) = False := eq_false (by omega)
      have z5 : ((9223372036854775807 : Int) < ((joinB sg (vs.take i)).size : Int) + (sg.size : Int) + (p.size : Int)) = False := eq_false (by omega)
      have z6 : decide (9223372036854775807 < (joinB sg (vs.take i)).size + sg.size + p.size) = false := decide_eq_false (by omega)
      clear hp hg h0 hj hps
      go_wp2
      go_roundg (n - (i + 1))
      case measure => have := HI.out; omega
      case rel => exact ⟨i + 1, by go_num, by rw [HX.out]; try rfl, rfl, ⟨by omega⟩⟩
  · have hje : i = n := by have := HI.out; omega
    have HX : Aside0 (joinB sg (vs.take i) = joinB sg vs) := ⟨by rw [List.take_of_length_le (by rw [HLN.out, hje]; exact Nat.le_refl _)]⟩
    go_wp2
    go_ret
    exact ⟨by rw [HX.out]; try rfl, rfl⟩
theorem up_nodup {l : List L} (h : Up l) : l.Nodup := List.Pairwise.imp (fun {a b} (h : ltStr a b = true) (e : a = b) => by subst e; rw [lt_irr] at h; cases h) h
theorem us_eq {us vs : List L} (hp : us.Perm vs) (ha : Asc us) (hu : Up vs) : us = vs :=
 up_ext (asc_up (hp.nodup_iff.2 (up_nodup hu)) ha) hu (fun y => hp.mem_iff)
structure RqG (r : Rq) : Prop where
 k : r.1.length ≤ 400
 n : r.2.2.length ≤ 900
 v : ∀ v ∈ r.2.2, v.length ≤ 63
 f : fairR r.1 r.2.1 r.2.2 = true
 u : Up r.2.2
def txtV (r : Rq) : ByteArray := textM r.2.1 (mk r.1) (joinB ⟨#[44]⟩ (r.2.2.map mk))
theorem textM_size (x : L) (key m : ByteArray) (hx : x.length ≤ 10) : (textM x key m).size ≤ key.size + m.size + 20 := by
 have e1 : (⟨#[32, 105, 110, 32]⟩ : ByteArray).size = 4 := rfl
 have e2 : (⟨#[32, 110, 111, 116, 105, 110, 32]⟩ : ByteArray).size = 7 := rfl
 have e3 : (⟨#[40]⟩ : ByteArray).size = 1 := rfl
 have e4 : (⟨#[41]⟩ : ByteArray).size = 1 := rfl
 have e5 : (⟨#[62]⟩ : ByteArray).size = 1 := rfl
 have e6 : (⟨#[60]⟩ : ByteArray).size = 1 := rfl
 have e7 : (⟨#[33]⟩ : ByteArray).size = 1 := rfl
 have e8 : (⟨x.toArray⟩ : ByteArray).size = x.length := mk_size x
 unfold textM
 (repeat' split) <;> (try simp only [ByteArray.size_append]) <;> omega
theorem RqG.o {r : Rq} (h : RqG r) : opOk r.2.1 r.2.2 = true := by
 have := h.f
 unfold fairR at this
 rw [Bool.and_eq_true] at this
 exact this.1
theorem txtV_size {r : Rq} (h : RqG r) : (txtV r).size ≤ 100000 := by
 have h1 := joinB_size ⟨#[44]⟩ 63 (r.2.2.map mk) (fun p hp => by obtain ⟨x, hx, rfl⟩ := List.mem_map.1 hp; rw [mk_size]; exact h.v x hx)
 have h2 : r.2.1.length ≤ 10 := by
  rcases fair_op h.f with e | e | e | e | e | e | e | e | e <;> rw [e] <;> decide
 have h3 := textM_size r.2.1 (mk r.1) (joinB ⟨#[44]⟩ (r.2.2.map mk)) h2
 have h4 := h.k
 have h5 := h.n
 rw [List.length_map] at h1
 have h6 : r.2.2.length * (63 + (⟨#[44]⟩ : ByteArray).size) ≤ 900 * 64 := Nat.mul_le_mul h5 (by decide)
 rw [mk_size] at h3
 show (textM _ _ _).size ≤ _
 omega
set_option maxHeartbeats 8000000 in
theorem SelStr_calls (l : List Rq) (n : Nat) (hn : l.length = n) (hn2 : n ≤ 900) (hg : ∀ r ∈ l, RqG r) (A : Option Addr) (c : Nat) (w : World) (hsp : ∀ ad, A = some ad → ad.spot = none) (hC : KQ.C w A n (rqV l)) :
   Calls Tryz.prog 249 #[.slice A n c] w fun e w' => e = .returned (.string (joinB ⟨#[44]⟩ (l.map txtV))) ∧ Below w.heap.size w w' := by
 have HC := Aside0.mk hC
 have HLN := Aside0.mk hn
 have HG := Aside0.mk hg
 have HB := Aside0.mk (Below.refl w.heap.size w)
 have HST := Aside0.mk (fun (r : Rq) (hr : r ∈ l) (b o : Nat) (B : Option Addr) (cb : Nat) (W : World) (hcb : r.2.2.length ≤ cb) (hq : RqC W b o (.string (mk r.1)) (.string (mk r.2.1)) (.slice B r.2.2.length cb)) (hCC : Kd.C Kd.string W B r.2.2.length (r.2.2.map mk)) => show Calls Tryz.prog 218 #[.pointer (some ⟨b, o, none⟩)] W fun e w' => e = .returned (.string (txtV r)) ∧ Below W.heap.size W w' from
   (StrO_calls (mk r.1) (mk r.2.1) (by rw [mk_size]; have := (hg r hr).k; omega) b o cb r.2.2.length (r.2.2.map mk) (by rw [List.length_map]) (by have := (hg r hr).n; omega) hcb (fun p hp => by obtain ⟨x, hx, rfl⟩ := List.mem_map.1 hp; rw [mk_size]; have := (hg r hr).v x hx; omega) B W hq hCC (by rw [vL_mk]; exact (hg r hr).o)).mono fun e w' ⟨us, h1, h2, h3, h4⟩ => ⟨by
    rw [vL_mk] at h1
    rw [h3, us_eq h1 h2 (hg r hr).u]; rfl, h4⟩)
 clear hC hn hg
 go_enter Tryz.func249, Tryz.ntmps249
 go_wp2
 go_loopg [3, 7] (n) (fun k v3 v7 w' => ∃ i : Nat, v7 = .int .i64 i ∧ Aside0 (k + i = n) ∧ Aside0 (Kd.R Kd.string 9 w' w.heap.size (fun _ => True) v3 ((l.take i).map txtV)) ∧ Aside0 (Below w.heap.size w w'))
 case atStart => exact ⟨0, rfl, ⟨by omega⟩, ⟨Kd.R_nil _ _ _ _ _⟩, HB⟩
 case round =>
  clear HB
  obtain ⟨i, rfl, HI, HR, HB⟩ := hrel
  by_cases hil : i < n
  · obtain ⟨r, hr⟩ : ∃ r, l[i]? = some r := ⟨_, List.getElem?_eq_getElem (by rw [HLN.out]; exact hil)⟩
    obtain ⟨ad, B, cb, rfl, c0, c1, c2, hcb, hCC⟩ := kq_at2 (Kd.C_below HC.out HB.out) i hil r hr
    have ea : ad.add (i * 3) = ⟨ad.block, ad.off + i * 3, none⟩ := add_spot (hsp ad rfl) _
    have HM : Aside0 (Calls Tryz.prog 218 #[.pointer (some (ad.add (i * 3)))] wr fun e w' => e = .returned (.string (txtV r)) ∧ Below wr.heap.size wr w') := by
     rw [ea] at c0 c1 c2
     have h := HST.out r (List.mem_of_getElem? hr) ad.block (ad.off + i * 3) B cb wr hcb ⟨c0, c1, c2, World.block_lt_of_cell? wr ⟨ad.block, ad.off + i * 3, none⟩ c0⟩ hCC
     rw [ea]
     exact ⟨h⟩
    have HNEW : Aside0 ((l.take i).map txtV ++ [txtV r] = (l.take (i + 1)).map txtV) := ⟨by rw [List.take_add_one, hr]; simp⟩
    have HLEN : Aside0 ((l.take i).length ≤ 900) := ⟨by rw [List.length_take]; omega⟩
    obtain ⟨tv, htv⟩ : ∃ tv, txtV r = tv := ⟨_, rfl⟩
    rw [htv] at HM HNEW
    clear ea hr c0 c1 c2 hcb hCC htv
    go_wp2_with (first | ((with_reducible refine (HM.out).mono ?_); rintro e w2 ⟨rfl, hb⟩; have nb_ := Aside0.mk (below_step HB.out hb); have nr_ := Aside0.mk (Kd.R_below HR.out hb); clear HB HR hb HM; have HB := nb_; have HR := nr_; clear nb_ nr_) | ((with_reducible refine gate_builtin (b := .append) (xs := #[.tmp 10, .tmp 15]) rfl ?_); (try (refine gate_guard (by rfl) ?_; dsimp only)); at_builtin; refine Kd.R_append Kd.string (w0 := w) w.heap.size rfl (.tmp 10) (.tmp 15) 51 9 (.string ⟨#[]⟩) 16 rfl Tryz.underlying51 infoS rfl (by decide) (by omega) u3 ((l.take i).map txtV) (tv) [.string (tv)] (fun _ => True) (fun _ => False) rfl rfl ?aP (fun _ hk => hk.elim) ?aF ?aO ?aB ?aS ?aL ?_; (case aP => exact rfl); (case aB => exact (by repeat (first | (with_reducible first | exact HB.out | apply below_alloc | apply pw_below_drewN | apply below_drew1) | exact HB.out))); (case aF => exact (fun _ _ => trivial)); (case aO => exact (by (with_reducible repeat (first | apply Kd.R_alloc | apply Kd.R_drewN | apply Kd.R_drew)); exact HR.out)); (case aS => exact (below_size (by repeat (first | (with_reducible first | exact HB.out | apply below_alloc | apply pw_below_drewN | apply below_drew1) | exact HB.out)))); (case aL => have := HLEN.out; (try simp only [List.length_map, List.length_nil] at *); omega); intro vN wN ho hb hg hat; rw [HNEW.out] at ho; clear HB; clear HR; have HB := Aside0.mk hb; have HR := Aside0.mk ho; clear ho hb hg hat))
    go_roundg (n - (i + 1))
    case measure => have := HI.out; omega
    case rel => exact ⟨i + 1, by go_num, ⟨by omega⟩, HR, HB⟩
  · have hie : i = n := by have := HI.out; omega
    have HX : Aside0 ((l.take i).map txtV = l.map txtV) := ⟨by rw [List.take_of_length_le (by rw [HLN.out, hie]; exact Nat.le_refl _)]⟩
    have hr3 := HR.out
    rw [HX.out] at hr3
    obtain ⟨A3, c3, e3, hc3, hC3⟩ := Kd.R_reads hr3
    rw [List.length_map, HLN.out] at e3 hC3
    subst e3
    have HJ := Aside0.mk (zzJoinL_calls ⟨#[44]⟩ (by decide) A3 c3 n (l.map txtV) (by rw [List.length_map, HLN.out]) (by omega) (fun p hp => by obtain ⟨r, hr, rfl⟩ := List.mem_map.1 hp; exact txtV_size (HG.out r hr)) wr hC3)
    clear HX hr3 hc3 hC3 HR hie
    go_wp2_with (first | ((with_reducible refine (HJ.out).mono ?_); rintro e w2 ⟨rfl, rfl⟩; clear HJ))
    go_ret
    exact ⟨rfl, HB.out⟩
end Go.Proofs.YthfjolafikgpoaaGreatDoor.Hand
namespace Go.Proofs.YthfjolafikgpoaaGreatDoor.Hand
open Go.RowKit Go.Proofs.YthfjolafikgpoaaGreatDoor.PFnSelDecidesLabels Go.Proofs.YthfjolafikgpoaaGreatDoorW.PrintWords Go.Proofs.YthfjolafikgpoaaGreatDoorW.PrintLast Go.Proofs.YthfjolafikgpoaaGreatDoorW.PrintMore Go.Proofs.YthfjolafikgpoaaGreatDoor.Base
set_option linter.unusedVariables false
set_option linter.unusedSimpArgs false
set_option maxRecDepth 100000
end Go.Proofs.YthfjolafikgpoaaGreatDoor.Hand
namespace Go.Proofs.YthfjolafikgpoaaGreatDoor.Hand
open Go.RowKit Go.Maps Go.Proofs.YthfjolafikgpoaaGreatDoorW.PrintWords Go.Proofs.YthfjolafikgpoaaGreatDoorW.PrintLast Go.Proofs.YthfjolafikgpoaaGreatDoorW.PrintMore Go.Proofs.YthfjolafikgpoaaGreatDoor.Base
set_option linter.unusedVariables false
set_option linter.unusedSimpArgs false
set_option maxRecDepth 100000
def EX (w : World) (rb B : Nat) (T : List Tk) (p : Nat) : Prop :=
 rb < B ∧ ∃ (A : Option Addr) (c : Nat), w.heap[rb]? = some (.cells #[.slice A T.length c, .int .i64 (p : Int)] 105 (0, 0)) ∧ KT.R 136 w 0 (fun k => k ≠ rb ∧ k < B) (.slice A T.length c) (toksV T)
def fin (r : Option (List L × List Tk)) : Option (List L × List Tk) := match r with
 | some (ks, (k3, _) :: ts3) => if vk k3 = 2 then some (ks, ts3) else none
 | _ => none
structure RV (w0 w : World) (rb B : Nat) (T : List Tk) (q : Nat) (vo : Value) (out : List L) : Prop where
 ex : EX w rb B T q
 kb : Kb w0 w rb
 rw_ : Kd.R Kd.string 9 w w0.heap.size (fun k => w0.heap.size ≤ k) vo (out.map mk)
theorem RV.slice {w0 w : World} {rb B q : Nat} {T : List Tk} {vo : Value} {out : List L} (h : RV w0 w rb B T q vo out) : ∃ (A : Option Addr) (c : Nat), vo = .slice A out.length c := by
 obtain ⟨A, c, e⟩ := Kd.R_slice h.rw_
 rw [List.length_map] at e
 exact ⟨A, c, e⟩
section
variable {w0 w w' : World} {rb B g2 g4 q q' : Nat} {T : List Tk} {key op : ByteArray} {v : Value}
end
theorem blk3 {w : World} {g t : Nat} {a b c : Value} (h : w.heap[g]? = some (.cells #[a, b, c] t (0, 0))) : w.cell? ⟨g, 0, none⟩ = some a ∧ w.cell? ⟨g, 1, none⟩ = some b ∧ w.cell? ⟨g, 2, none⟩ = some c :=
 ⟨(blk_cell h 0).trans rfl, (blk_cell h 1).trans rfl, (blk_cell h 2).trans rfl⟩
end Go.Proofs.YthfjolafikgpoaaGreatDoor.Hand
namespace Go.Proofs.YthfjolafikgpoaaGreatDoor.Hand
open Go.RowKit Go.Maps Go.Proofs.YthfjolafikgpoaaGreatDoor.PFnSelDecidesLabels Go.Proofs.YthfjolafikgpoaaGreatDoorW.PrintWords Go.Proofs.YthfjolafikgpoaaGreatDoorW.PrintLast Go.Proofs.YthfjolafikgpoaaGreatDoorW.PrintMore Go.Proofs.YthfjolafikgpoaaGreatDoor.Base
set_option linter.unusedVariables false
set_option linter.unusedSimpArgs false
set_option maxRecDepth 100000
end Go.Proofs.YthfjolafikgpoaaGreatDoor.Hand
namespace Go.Proofs.YthfjolafikgpoaaGreatDoor.Hand
open Go.RowKit Go.Maps Go.Proofs.YthfjolafikgpoaaGreatDoorW.PrintWords Go.Proofs.YthfjolafikgpoaaGreatDoorW.PrintLast Go.Proofs.YthfjolafikgpoaaGreatDoorW.PrintMore Go.Proofs.YthfjolafikgpoaaGreatDoor.Base
set_option linter.unusedVariables false
set_option linter.unusedSimpArgs false
set_option maxRecDepth 100000
theorem infoIR : (Tryz.prog.info? 53).map (fun i => (i.zero, i.size, i.bytes)) = some (some (.agg #[.string ⟨#[]⟩, .string ⟨#[]⟩, .slice none 0 0]), 3, 56) := by kernel_rfl
theorem rq_elem2 {W : World} {B base : Nat} {r : Rq} {A : Option Addr} {c : Nat} (hb : base ≤ B) (h : Kd.R Kd.string 9 W B (fun k => B ≤ k) (.slice A r.2.2.length c) (r.2.2.map mk)) :
   KQ.M W base (fun k => B ≤ k) (mk r.1, mk r.2.1, r.2.2.map mk) [.string (mk r.1), .string (mk r.2.1), .slice A r.2.2.length c] :=
 ⟨[_], [_, _], rfl, rfl, ⟨[_], [_], rfl, rfl, ⟨_, rfl, Kd.R_lower h hb⟩⟩⟩
section
variable {w0 W W' : World} {rb B q q' : Nat} {T : List Tk} {v v' : Value} {acc acc' : List Rq}
end
theorem RKey_calls (g : Nat) (s : ByteArray) (w : World) (h : w.cell? ⟨g, 0, none⟩ = some (.string s)) :
   Calls Tryz.prog 79 #[.pointer (some ⟨g, 0, none⟩)] w fun e w' => e = .returned (.string s) ∧ w' = w := by
 go_enter Tryz.func79, Tryz.ntmps79
 go_wp2
 go_ret
 exact ⟨rfl, rfl⟩
theorem ROp_calls (g : Nat) (s : ByteArray) (w : World) (h : w.cell? ⟨g, 1, none⟩ = some (.string s)) :
   Calls Tryz.prog 80 #[.pointer (some ⟨g, 0, none⟩)] w fun e w' => e = .returned (.string s) ∧ w' = w := by
 go_enter Tryz.func80, Tryz.ntmps80
 go_wp2
 go_ret
 exact ⟨rfl, rfl⟩
set_option maxHeartbeats 8000000 in
theorem ZzVals_calls (key op : ByteArray) (A : Option Addr) (c n : Nat) (vs : List ByteArray) (hn : vs.length = n) (hn2 : n ≤ 1000000) (w : World) (hC : Kd.C Kd.string w A n vs) :
   Calls Tryz.prog 81 #[.agg #[.string key, .string op, .slice A n c]] w fun e w' => ∃ v : Value, e = .returned v ∧ Kd.R Kd.string 9 w' w.heap.size (fun k => w.heap.size ≤ k) v vs ∧ Below w.heap.size w w' := by
 have hbk := heap_alloc_new w (.cells #[.string key, .string op, .slice A n c] 88)
 have hb1 := below_alloc (Below.refl w.heap.size w) (.cells #[.string key, .string op, .slice A n c] 88)
 obtain ⟨W1, hW1⟩ : ∃ W1, w.alloc (.cells #[.string key, .string op, .slice A n c] 88) = W1 := ⟨_, rfl⟩
 rw [hW1] at hbk hb1
 have c2 : W1.cell? ⟨w.heap.size, 2, none⟩ = some (.slice A n c) := (blk_cell hbk 2).trans rfl
 have hb2 := below_alloc hb1 (.cells #[] 9)
 have c2' : (W1.alloc (.cells #[] 9)).cell? ⟨w.heap.size, 2, none⟩ = some (.slice A n c) := ((below_alloc (Below.refl W1.heap.size W1) (.cells #[] 9)).cell (p := ⟨w.heap.size, 2, none⟩) (blk_lt hbk)).trans c2
 have HR0 := Aside0.mk (R_empty W1 w.heap.size hb1.size)
 have HB2 := Aside0.mk hb2
 have HC2 := Aside0.mk (Kd.C_below hC hb2)
 have HN := Aside0.mk hn
 clear hbk hb1 hb2 hC hn
 go_enter Tryz.func81, Tryz.ntmps81
 go_wp2_with (first | ((with_reducible refine gate_builtin (b := .append) (xs := #[.tmp 3, .tmp 5]) rfl ?_); (try (refine gate_guard (by rfl) ?_; dsimp only)); at_builtin; refine Kd.R_append_rows Kd.string (w0 := w) w.heap.size rfl (.tmp 3) (.tmp 5) 51 9 (.string ⟨#[]⟩) 16 rfl Tryz.underlying51 infoS rfl (by decide) (by decide) (.slice (some ⟨W1.heap.size, 0, none⟩) 0 0) [] vs A n c (fun _ => True) (fun _ => False) rfl rfl ?aO ?aR (fun _ _ h => h) (fun _ h => h.elim) ?aF ?aB ?aS ?aL ?_; (case aR => exact HC2.out); (case aB => exact HB2.out); (case aF => exact (fun _ _ => trivial)); (case aO => exact HR0.out); (case aS => exact below_size HB2.out); (case aL => have := HN.out; simp only [List.length_nil]; omega); intro v1 w1 ho hb hg hat; rw [List.nil_append] at ho; have HO := Aside0.mk ho; have HB := Aside0.mk hb; clear ho hb hg hat))
 go_ret
 exact ⟨_, rfl, Kd.R_mono (Kd.R_bound HO.out) (fun k hk => hk.2.1), HB.out⟩
theorem rq_elem3 {W : World} {B base n : Nat} {r : Rq} {A : Option Addr} {c : Nat} (hb : base ≤ B) (hn : r.2.2.length = n) (h : Kd.R Kd.string 9 W B (fun k => B ≤ k) (.slice A n c) (r.2.2.map mk)) :
   KQ.M W base (fun k => B ≤ k) (mk r.1, mk r.2.1, r.2.2.map mk) [.string (mk r.1), .string (mk r.2.1), .slice A n c] := by
 subst hn; exact rq_elem2 hb h
set_option maxHeartbeats 16000000 in
theorem Reqs_calls (l : List Rq) (n : Nat) (hn : l.length = n) (hn2 : n ≤ 900) (hg : ∀ r ∈ l, r.2.2.length ≤ 900) (A : Option Addr) (c : Nat) (w : World) (hC : KQ.C w A n (rqV l)) :
   Calls Tryz.prog 45 #[.iface 121 (.slice A n c)] w fun e w' => ∃ v, e = .returned v ∧ KQ.R 53 w' w.heap.size (fun _ => True) v (rqV l) ∧ Below w.heap.size w w' := by
 have HC := Aside0.mk hC
 have HLN := Aside0.mk hn
 have HG := Aside0.mk hg
 have HB := Aside0.mk (Below.refl w.heap.size w)
 have na1 : ∀ w : World, (nilAhead 390 121 (.slice A n c) "Requirements").run Tryz.prog w = .ok (some false) w := fun _ => by kernel_rfl
 have me1 : ∀ w : World, (method 390 121 (.slice A n c) "Requirements").run Tryz.prog w = .ok (247, .slice A n c) w := fun _ => by kernel_rfl
 have HRQ := Aside0.mk (show ∀ W : World, Calls Tryz.prog 247 #[.slice A n c] W fun e w' => e = .returned (.tuple #[.slice A n c, .bool true]) ∧ w' = W from fun W => by
  go_enter Tryz.func247, Tryz.ntmps247
  go_wp2
  go_ret2
  exact ⟨rfl, rfl⟩)
 clear hC hn hg
 go_enter Tryz.func45, Tryz.ntmps45
 go_wp2_with (first | ((with_reducible refine (HRQ.out _).mono ?_); rintro e w1 ⟨rfl, rfl⟩))
 go_loopg [5, 15] (n) (fun k v5 v15 w' => ∃ i : Nat, v15 = .int .i64 i ∧ Aside0 (k + i = n) ∧ Aside0 (KQ.R 53 w' w1.heap.size (fun _ => True) v5 (rqV (l.take i))) ∧ Aside0 (Below w1.heap.size w1 w'))
 case atStart => exact ⟨0, rfl, ⟨by omega⟩, ⟨Kd.R_nil _ _ _ _ _⟩, HB⟩
 case round =>
  clear HB
  obtain ⟨i, rfl, HI, HR, HB⟩ := hrel
  by_cases hil : i < n
  · obtain ⟨r, hr⟩ : ∃ r, l[i]? = some r := ⟨_, List.getElem?_eq_getElem (by rw [HLN.out]; exact hil)⟩
    obtain ⟨ad, B, cb, rfl, c0, c1, c2, hcb, hCC⟩ := kq_at2 (Kd.C_below HC.out HB.out) i hil r hr
    obtain ⟨nv, hnv⟩ : ∃ nv, r.2.2.length = nv := ⟨_, rfl⟩
    rw [hnv] at c2 hCC
    have hbk := heap_alloc_new wr (.cells #[.string (mk r.1), .string (mk r.2.1), .slice B nv cb] 88)
    have hb2 := below_alloc HB.out (.cells #[.string (mk r.1), .string (mk r.2.1), .slice B nv cb] 88)
    have hb3 := below_alloc (Below.refl wr.heap.size wr) (.cells #[.string (mk r.1), .string (mk r.2.1), .slice B nv cb] 88)
    obtain ⟨g7, hg7⟩ : ∃ g, wr.heap.size = g := ⟨_, rfl⟩
    have HLR := Aside0.mk (fun k (e : u5.ownBlock = some k) => Kd.R_lt HR.out k e)
    obtain ⟨w2, hw2⟩ : ∃ w2, wr.alloc (.cells #[.string (mk r.1), .string (mk r.2.1), .slice B nv cb] 88) = w2 := ⟨_, rfl⟩
    rw [hw2] at hbk hb2 hb3
    have HNEW : Aside0 (rqV (l.take i) ++ [(mk r.1, mk r.2.1, r.2.2.map mk)] = rqV (l.take (i + 1))) := ⟨by rw [List.take_add_one, hr]; simp [rqV]⟩
    have HLEN : Aside0 ((rqV (l.take i)).length ≤ 900) := ⟨by rw [List.length_map, List.length_take]; omega⟩
    have HNV : Aside0 (nv ≤ 900) := ⟨by rw [← hnv]; exact HG.out r (List.mem_of_getElem? hr)⟩
    have HNL := Aside0.mk hnv
    have HR2 := Aside0.mk (Kd.R_below HR.out hb3)
    have HB2 := Aside0.mk hb2
    have HCV := Aside0.mk (Kd.C_below hCC hb3)
    clear hr hcb hCC hnv hb2 hb3
    go_upto_region 6 with (fail)
    rw [hg7] at hbk
    obtain ⟨d0, d1, d2⟩ := blk3 hbk
    have HBK := Aside0.mk hbk
    have HLV : Aside0 (∀ k, u5.ownBlock = some k → k < g7) := ⟨fun k e => by rw [← hg7]; exact HLR.out k e⟩
    have HG7 : Aside0 (g7 < w2.heap.size) := ⟨blk_lt HBK.out⟩
    clear c0 c1 c2 hw2 hbk hg7 HB HR
    go_region_held3 (fun w' => w'.cell? ⟨g7, 0, none⟩ = some (.string (mk r.1)) ∧ w'.cell? ⟨g7, 1, none⟩ = some (.string (mk r.2.1)) ∧ w'.cell? ⟨g7, 2, none⟩ = some (.slice B nv cb)) (first | exact ⟨d0, d1, d2⟩ | exact ⟨f0, f1, f2⟩ | exact ⟨q0, q1, q2⟩ | go_keep) (first | (refine Kd.R_append_step KQ (w0 := w1) (w1.heap.size) (by rfl) (.tmp 19) (.tmp 25) 22 53 (.agg #[.string ⟨#[]⟩, .string ⟨#[]⟩, .slice none 0 0]) 56 rfl Tryz.underlying22 infoIR rfl (by decide) (by decide) u5 (rqV (l.take i)) (mk r.1, mk r.2.1, r.2.2.map mk) [.string (mk r.1), .string (mk r.2.1), .slice A4 nv c4] (fun _ => True) (fun k => w2.heap.size ≤ k) rfl (by first | rfl | (simp [Act.eval]; done)) ?aP ?aK ?aF ?aO ?aB ?aS ?aL ?_; (case aP => exact rq_elem3 HSZ.out.2 HNL.out HR4.out); (case aK => exact fun k hk => ⟨trivial, fun e => by have := HLV.out k e.symm; have := HG7.out; omega⟩); (case aF => exact fun _ _ => trivial); (case aO => exact HRW.out); (case aB => exact HB4.out); (case aS => exact HB4.out.size); (case aL => have := HLEN.out; omega); intro vN wN ho hb hg hat; rw [HNEW.out] at ho; have HR5 := Aside0.mk ho; have HB5 := Aside0.mk hb; have hbk5 := blk_grown HBK4.out hg (fun e => by have h1 := HLV.out _ e.symm; have h2 := HG7.out; omega); obtain ⟨q0, q1, q2⟩ := blk3 hbk5; clear ho hb hg hat hbk5) | (go_at_call 79; refine (RKey_calls g7 (mk r.1) _ ?hb).mono ?_; (case hb => exact d0); rintro e wk ⟨rfl, rfl⟩) | (go_at_call 80; refine (ROp_calls g7 (mk r.2.1) _ ?hb).mono ?_; (case hb => exact d1); rintro e wk ⟨rfl, rfl⟩) | (go_at_call 81; refine (ZzVals_calls (mk r.1) (mk r.2.1) B cb nv (r.2.2.map mk) (by rw [List.length_map]; exact HNL.out) (by have := HNV.out; omega) _ ?hc).mono ?_; (case hc => first | exact HCV.out | exact Kd.C_drew HCV.out | exact Kd.C_drewN HCV.out _); rintro e w4 ⟨v4, rfl, hr4_, hb_⟩; have hr4 : Kd.R Kd.string 9 w4 w2.heap.size (fun k => w2.heap.size ≤ k) v4 (r.2.2.map mk) := hr4_; have hb : Below w2.heap.size w2 w4 := (by first | exact hb_ | exact (below_drew1 (Below.refl _ _)).trans hb_ | exact (pw_below_drewN (Below.refl _ _) _).trans hb_); obtain ⟨A4, c4, e4⟩ := Kd.R_slice hr4; rw [List.length_map, HNL.out] at e4; subst e4; have HR4 := Aside0.mk hr4; have HRW := Aside0.mk (Kd.R_below HR2.out hb); have HB4 := Aside0.mk (below_step HB2.out hb); have HSZ : Aside0 (w2.heap.size ≤ w4.heap.size ∧ w1.heap.size ≤ w2.heap.size) := ⟨hb.size, HB2.out.size⟩; have hbk4 := (hb.block _ (blk_lt HBK.out)).trans HBK.out; obtain ⟨f0, f1, f2⟩ := blk3 hbk4; have HBK4 := Aside0.mk hbk4; clear hr4 hr4_ hb hb_ hbk4))
    all_goals go_wp2
    go_roundg (n - (i + 1))
    case measure => have := HI.out; omega
    case rel => exact ⟨i + 1, by go_num, ⟨by omega⟩, HR5, HB5⟩
  · have hie : i = n := by have := HI.out; omega
    have hr := HR.out
    rw [List.take_of_length_le (by rw [HLN.out, hie]; exact Nat.le_refl _)] at hr
    have HX := Aside0.mk hr
    clear hr HR hie
    go_wp2
    go_ret
    exact ⟨_, rfl, HX.out, HB.out⟩
end Go.Proofs.YthfjolafikgpoaaGreatDoor.Hand
namespace Go.Proofs.YthfjolafikgpoaaGreatDoor.Hand
open Go.RowKit Go.Maps Go.Proofs.YthfjolafikgpoaaGreatDoor.PFnSelDecidesLabels Go.Proofs.YthfjolafikgpoaaGreatDoorW.PrintWords Go.Proofs.YthfjolafikgpoaaGreatDoorW.PrintLast Go.Proofs.YthfjolafikgpoaaGreatDoorW.PrintMore Go.Proofs.YthfjolafikgpoaaGreatDoor.Base
set_option linter.unusedVariables false
set_option linter.unusedSimpArgs false
set_option maxRecDepth 100000
theorem pReq_fair {ts ts' : List Tk} {r : Rq} (h : pReq ts = some (r, ts')) : fairR r.1 r.2.1 r.2.2 = true := by
 unfold pReq at h
 split at h
 · cases h
 · split at h
   · split at h
     · cases h
     · split at h
       · cases h
       · split at h
         · rename_i hf
           simp only [Option.some.injEq, Prod.mk.injEq] at h
           rw [← h.1]; exact hf
         · cases h
   · split at h
     · rename_i hf
       simp only [Option.some.injEq, Prod.mk.injEq] at h
       rw [← h.1]; exact hf
     · cases h
end Go.Proofs.YthfjolafikgpoaaGreatDoor.Hand

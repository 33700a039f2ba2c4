/- spec.Under, spec.Holds, spec.Meets; laws.epReq. -/
import Derived.Test.YthfjolafikgpoaaGreatDoorSDGLabB
import Derived.Test.YthfjolafikgpoaaGreatDoorSDLabFair
import Derived.Test.YthfjolafikgpoaaGreatDoorSDGLabC
import Derived.Test.YthfjolafikgpoaaGreatDoorSDTxO
import Derived.Test.YthfjolafikgpoaaGreatDoorSDM23
import Derived.Test.YthfjolafikgpoaaGreatDoorSDWrAll
import Derived.Test.YthfjolafikgpoaaGreatDoorSDGSelA
import Derived.Test.YthfjolafikgpoaaGreatDoorSDGParA
import Derived.Deep.QuietTactic
namespace Go.Proofs.YthfjolafikgpoaaGreatDoor.Hand
open Go.RowKit Go.Maps Go.Proofs.YthfjolafikgpoaaGreatDoorW.PrintWords Go.Proofs.YthfjolafikgpoaaGreatDoorW.PrintLast Go.Proofs.YthfjolafikgpoaaGreatDoorW.PrintMore Go.Proofs.YthfjolafikgpoaaGreatDoor.Base
set_option linter.unusedVariables false
set_option linter.unusedSimpArgs false
set_option maxRecDepth 100000
theorem fair_op {key x : L} {vs : List L} (h : fairR key x vs = true) : x = [105, 110] ∨ x = [61] ∨ x = [61, 61] ∨ x = [110, 111, 116, 105, 110] ∨ x = [33, 61] ∨ x = [101, 120, 105, 115, 116, 115] ∨ x = [33] ∨ x = [103, 116] ∨ x = [108, 116] := by
 apply Classical.byContradiction
 intro hn
 have h1 := (Bool.and_eq_true_iff.1 h).1
 unfold opOk at h1
 simp only [not_or] at hn
 obtain ⟨h0, h1_, h2, h3, h4, h5, h6, h7, h8⟩ := hn
 rw [if_neg (not_or.2 ⟨h0, h3⟩), if_neg (not_or.2 ⟨h1_, not_or.2 ⟨h2, h4⟩⟩), if_neg (not_or.2 ⟨h5, h6⟩), if_neg (not_or.2 ⟨h7, h8⟩)] at h1
 cases h1
open Go.Sort (ltStr)
set_option maxHeartbeats 8000000 in
theorem zzJoinL_calls (sg : ByteArray) (hs : sg.size ≤ 10) (A : Option Addr) (c n : Nat) (vs : List ByteArray) (hn : vs.length = n) (hn2 : n ≤ 1000) (hz : ∀ p ∈ vs, p.size ≤ 100000) (w : World) (hC : Kd.C Kd.string w A n vs) :
   Calls Tryz.prog 90 #[.slice A n c, .string sg] w fun e w' => e = .returned (.string (joinB sg vs)) ∧ w = w' := by
 have HC := Aside0.mk hC
 have HZ := Aside0.mk hz
 have HLN := Aside0.mk hn
 clear hC hz
 go_enter Tryz.func90, Tryz.ntmps90
 go_wp2
 go_loopg [5, 10] (n) (fun k v5 v10 w' => ∃ i : Nat, v10 = .int .i64 i ∧ v5 = .string (joinB sg (vs.take i)) ∧ w = w' ∧ Aside0 (k + i = n))
 case atStart => exact ⟨0, rfl, rfl, rfl, ⟨by omega⟩⟩
 case round =>
  obtain ⟨i, rfl, rfl, rfl, HI⟩ := hrel
  by_cases hil : i < n
  · obtain ⟨ad, rfl, hk0⟩ := Kd.at_string HC.out (i : Int) (by omega) (by omega)
    rw [Int.toNat_natCast] at hk0
    obtain ⟨p, hp⟩ : ∃ p, vs[i]? = some p := ⟨_, List.getElem?_eq_getElem (by rw [HLN.out]; exact hil)⟩
    have hg : rdOf ByteArray.empty vs (i : Int) = p := by unfold rdOf; rw [Int.toNat_natCast, List.getD_eq_getElem?_getD, hp]; rfl
    rw [hg] at hk0
    have hj : (joinB sg (vs.take i)).size ≤ 1000 * 100010 := by
     have h1 := joinB_size sg 100000 (vs.take i) (fun p hp => HZ.out p (List.mem_of_mem_take hp))
     refine Nat.le_trans h1 (Nat.mul_le_mul ?_ (by omega))
     rw [List.length_take]; omega
    have hps := HZ.out p (List.mem_of_getElem? hp)
    by_cases h0 : i = 0
    · have b0 : decide ((0 : Int) < (i : Int)) = false := decide_eq_false (by omega)
      have b1 : decide (0 < i) = false := decide_eq_false (by omega)
      have HX : Aside0 (joinB sg (vs.take (i + 1)) = joinB sg (vs.take i) ++ p) := ⟨by subst h0; exact joinB_first sg hp⟩
      obtain ⟨z1, z2, z3⟩ := small_sum (a := joinB sg (vs.take i)) (b := p) (by omega)
      clear hp hg h0 hj hps
      go_wp2
      go_roundg (n - (i + 1))
      case measure => have := HI.out; omega
      case rel => exact ⟨i + 1, by go_num, by rw [HX.out]; try rfl, rfl, ⟨by omega⟩⟩
    · have b0 : decide ((0 : Int) < (i : Int)) = true := decide_eq_true (by omega)
      have b1 : decide (0 < i) = true := decide_eq_true (by omega)
      have HX : Aside0 (joinB sg (vs.take (i + 1)) = joinB sg (vs.take i) ++ sg ++ p) := ⟨joinB_next sg h0 hp⟩
      obtain ⟨z1, z2, z3⟩ := small_sum (a := joinB sg (vs.take i)) (b := sg) (by omega)
      have z4 : (9223372036854775807 < (joinB sg (vs.take i)).size + sg.size + p.size) = False := eq_false (by omega)
      have z5 : ((9223372036854775807 : Int) < ((joinB sg (vs.take i)).size : Int) + (sg.size : Int) + (p.size : Int)) = False := eq_false (by omega)
      have z6 : decide (9223372036854775807 < (joinB sg (vs.take i)).size + sg.size + p.size) = false := decide_eq_false (by omega)
      clear hp hg h0 hj hps
      go_wp2
      go_roundg (n - (i + 1))
      case measure => have := HI.out; omega
      case rel => exact ⟨i + 1, by go_num, by rw [HX.out]; try rfl, rfl, ⟨by omega⟩⟩
  · have hje : i = n := by have := HI.out; omega
    have HX : Aside0 (joinB sg (vs.take i) = joinB sg vs) := ⟨by rw [List.take_of_length_le (by rw [HLN.out, hje]; exact Nat.le_refl _)]⟩
    go_wp2
    go_ret
    exact ⟨by rw [HX.out]; try rfl, rfl⟩
theorem up_nodup {l : List L} (h : Up l) : l.Nodup := List.Pairwise.imp (fun {a b} (h : ltStr a b = true) (e : a = b) => by subst e; rw [lt_irr] at h; cases h) h
theorem us_eq {us vs : List L} (hp : us.Perm vs) (ha : Asc us) (hu : Up vs) : us = vs :=
 up_ext (asc_up (hp.nodup_iff.2 (up_nodup hu)) ha) hu (fun y => hp.mem_iff)
theorem setL_id {vs : List L} (hu : Up vs) : setL vs = vs := up_ext (setL_up vs) hu (fun y => setL_mem vs y)
structure RqG (r : Rq) : Prop where
 k : r.1.length ≤ 400
 n : r.2.2.length ≤ 900
 v : ∀ v ∈ r.2.2, v.length ≤ 63
 f : fairR r.1 r.2.1 r.2.2 = true
 u : Up r.2.2
def txtV (r : Rq) : ByteArray := textM r.2.1 (mk r.1) (joinB ⟨#[44]⟩ (r.2.2.map mk))
theorem txtV_W {r : Rq} (h : Up r.2.2) : txtV r = txtW r := by unfold txtV txtW; rw [setL_id h]
theorem textM_size (x : L) (key m : ByteArray) (hx : x.length ≤ 10) : (textM x key m).size ≤ key.size + m.size + 20 := by
 have e1 : (⟨#[32, 105, 110, 32]⟩ : ByteArray).size = 4 := rfl
 have e2 : (⟨#[32, 110, 111, 116, 105, 110, 32]⟩ : ByteArray).size = 7 := rfl
 have e3 : (⟨#[40]⟩ : ByteArray).size = 1 := rfl
 have e4 : (⟨#[41]⟩ : ByteArray).size = 1 := rfl
 have e5 : (⟨#[62]⟩ : ByteArray).size = 1 := rfl
 have e6 : (⟨#[60]⟩ : ByteArray).size = 1 := rfl
 have e7 : (⟨#[33]⟩ : ByteArray).size = 1 := rfl
 have e8 : (⟨x.toArray⟩ : ByteArray).size = x.length := mk_size x
 unfold textM
 (repeat' split) <;> (try simp only [ByteArray.size_append]) <;> omega
theorem RqG.o {r : Rq} (h : RqG r) : opOk r.2.1 r.2.2 = true := by
 have := h.f
 unfold fairR at this
 rw [Bool.and_eq_true] at this
 exact this.1
theorem txtV_size {r : Rq} (h : RqG r) : (txtV r).size ≤ 100000 := by
 have h1 := joinB_size ⟨#[44]⟩ 63 (r.2.2.map mk) (fun p hp => by obtain ⟨x, hx, rfl⟩ := List.mem_map.1 hp; rw [mk_size]; exact h.v x hx)
 have h2 : r.2.1.length ≤ 10 := by
  rcases fair_op h.f with e | e | e | e | e | e | e | e | e <;> rw [e] <;> decide
 have h3 := textM_size r.2.1 (mk r.1) (joinB ⟨#[44]⟩ (r.2.2.map mk)) h2
 have h4 := h.k
 have h5 := h.n
 rw [List.length_map] at h1
 have h6 : r.2.2.length * (63 + (⟨#[44]⟩ : ByteArray).size) ≤ 900 * 64 := Nat.mul_le_mul h5 (by decide)
 rw [mk_size] at h3
 show (textM _ _ _).size ≤ _
 omega
set_option maxHeartbeats 8000000 in
theorem SelStr_calls (l : List Rq) (n : Nat) (hn : l.length = n) (hn2 : n ≤ 900) (hg : ∀ r ∈ l, RqG r) (A : Option Addr) (c : Nat) (w : World) (hsp : ∀ ad, A = some ad → ad.spot = none) (hC : KQ.C w A n (rqV l)) :
   Calls Tryz.prog 249 #[.slice A n c] w fun e w' => e = .returned (.string (joinB ⟨#[44]⟩ (l.map txtV))) ∧ Below w.heap.size w w' := by
 have HC := Aside0.mk hC
 have HLN := Aside0.mk hn
 have HG := Aside0.mk hg
 have HB := Aside0.mk (Below.refl w.heap.size w)
 have HST := Aside0.mk (fun (r : Rq) (hr : r ∈ l) (b o : Nat) (B : Option Addr) (cb : Nat) (W : World) (hcb : r.2.2.length ≤ cb) (hq : RqC W b o (.string (mk r.1)) (.string (mk r.2.1)) (.slice B r.2.2.length cb)) (hCC : Kd.C Kd.string W B r.2.2.length (r.2.2.map mk)) => show Calls Tryz.prog 218 #[.pointer (some ⟨b, o, none⟩)] W fun e w' => e = .returned (.string (txtV r)) ∧ Below W.heap.size W w' from
   (StrO_calls (mk r.1) (mk r.2.1) (by rw [mk_size]; have := (hg r hr).k; omega) b o cb r.2.2.length (r.2.2.map mk) (by rw [List.length_map]) (by have := (hg r hr).n; omega) hcb (fun p hp => by obtain ⟨x, hx, rfl⟩ := List.mem_map.1 hp; rw [mk_size]; have := (hg r hr).v x hx; omega) B W hq hCC (by rw [vL_mk]; exact (hg r hr).o)).mono fun e w' ⟨us, h1, h2, h3, h4⟩ => ⟨by
    rw [vL_mk] at h1
    rw [h3, us_eq h1 h2 (hg r hr).u]; rfl, h4⟩)
 clear hC hn hg
 go_enter Tryz.func249, Tryz.ntmps249
 go_wp2
 go_loopg [3, 7] (n) (fun k v3 v7 w' => ∃ i : Nat, v7 = .int .i64 i ∧ Aside0 (k + i = n) ∧ Aside0 (Kd.R Kd.string 9 w' w.heap.size (fun _ => True) v3 ((l.take i).map txtV)) ∧ Aside0 (Below w.heap.size w w'))
 case atStart => exact ⟨0, rfl, ⟨by omega⟩, ⟨Kd.R_nil _ _ _ _ _⟩, HB⟩
 case round =>
  clear HB
  obtain ⟨i, rfl, HI, HR, HB⟩ := hrel
  by_cases hil : i < n
  · obtain ⟨r, hr⟩ : ∃ r, l[i]? = some r := ⟨_, List.getElem?_eq_getElem (by rw [HLN.out]; exact hil)⟩
    obtain ⟨ad, B, cb, rfl, c0, c1, c2, hcb, hCC⟩ := kq_at2 (Kd.C_below HC.out HB.out) i hil r hr
    have ea : ad.add (i * 3) = ⟨ad.block, ad.off + i * 3, none⟩ := add_spot (hsp ad rfl) _
    have HM : Aside0 (Calls Tryz.prog 218 #[.pointer (some (ad.add (i * 3)))] wr fun e w' => e = .returned (.string (txtV r)) ∧ Below wr.heap.size wr w') := by
     rw [ea] at c0 c1 c2
     have h := HST.out r (List.mem_of_getElem? hr) ad.block (ad.off + i * 3) B cb wr hcb ⟨c0, c1, c2, World.block_lt_of_cell? wr ⟨ad.block, ad.off + i * 3, none⟩ c0⟩ hCC
     rw [ea]
     exact ⟨h⟩
    have HNEW : Aside0 ((l.take i).map txtV ++ [txtV r] = (l.take (i + 1)).map txtV) := ⟨by rw [List.take_add_one, hr]; simp⟩
    have HLEN : Aside0 ((l.take i).length ≤ 900) := ⟨by rw [List.length_take]; omega⟩
    obtain ⟨tv, htv⟩ : ∃ tv, txtV r = tv := ⟨_, rfl⟩
    rw [htv] at HM HNEW
    clear ea hr c0 c1 c2 hcb hCC htv
    go_wp2_with (first | ((with_reducible refine (HM.out).mono ?_); rintro e w2 ⟨rfl, hb⟩; have nb_ := Aside0.mk (below_step HB.out hb); have nr_ := Aside0.mk (Kd.R_below HR.out hb); clear HB HR hb HM; have HB := nb_; have HR := nr_; clear nb_ nr_) | ((with_reducible refine gate_builtin (b := .append) (xs := #[.tmp 10, .tmp 15]) rfl ?_); (try (refine gate_guard (by rfl) ?_; dsimp only)); at_builtin; refine Kd.R_append Kd.string (w0 := w) w.heap.size rfl (.tmp 10) (.tmp 15) 51 9 (.string ⟨#[]⟩) 16 rfl Tryz.underlying51 infoS rfl (by decide) (by omega) u3 ((l.take i).map txtV) (tv) [.string (tv)] (fun _ => True) (fun _ => False) rfl rfl ?aP (fun _ hk => hk.elim) ?aF ?aO ?aB ?aS ?aL ?_; (case aP => exact rfl); (case aB => exact (by repeat (first | (with_reducible first | exact HB.out | apply below_alloc | apply pw_below_drewN | apply below_drew1) | exact HB.out))); (case aF => exact (fun _ _ => trivial)); (case aO => exact (by (with_reducible repeat (first | apply Kd.R_alloc | apply Kd.R_drewN | apply Kd.R_drew)); exact HR.out)); (case aS => exact (below_size (by repeat (first | (with_reducible first | exact HB.out | apply below_alloc | apply pw_below_drewN | apply below_drew1) | exact HB.out)))); (case aL => have := HLEN.out; (try simp only [List.length_map, List.length_nil] at *); omega); intro vN wN ho hb hg hat; rw [HNEW.out] at ho; clear HB; clear HR; have HB := Aside0.mk hb; have HR := Aside0.mk ho; clear ho hb hg hat))
    go_roundg (n - (i + 1))
    case measure => have := HI.out; omega
    case rel => exact ⟨i + 1, by go_num, ⟨by omega⟩, HR, HB⟩
  · have hie : i = n := by have := HI.out; omega
    have HX : Aside0 ((l.take i).map txtV = l.map txtV) := ⟨by rw [List.take_of_length_le (by rw [HLN.out, hie]; exact Nat.le_refl _)]⟩
    have hr3 := HR.out
    rw [HX.out] at hr3
    obtain ⟨A3, c3, e3, hc3, hC3⟩ := Kd.R_reads hr3
    rw [List.length_map, HLN.out] at e3 hC3
    subst e3
    have HJ := Aside0.mk (zzJoinL_calls ⟨#[44]⟩ (by decide) A3 c3 n (l.map txtV) (by rw [List.length_map, HLN.out]) (by omega) (fun p hp => by obtain ⟨r, hr, rfl⟩ := List.mem_map.1 hp; exact txtV_size (HG.out r hr)) wr hC3)
    clear HX hr3 hc3 hC3 HR hie
    go_wp2_with (first | ((with_reducible refine (HJ.out).mono ?_); rintro e w2 ⟨rfl, rfl⟩; clear HJ))
    go_ret
    exact ⟨rfl, HB.out⟩
end Go.Proofs.YthfjolafikgpoaaGreatDoor.Hand
namespace Go.Proofs.YthfjolafikgpoaaGreatDoor.Hand
open Go.RowKit Go.Proofs.YthfjolafikgpoaaGreatDoor.PFnSelDecidesLabels Go.Proofs.YthfjolafikgpoaaGreatDoorW.PrintWords Go.Proofs.YthfjolafikgpoaaGreatDoorW.PrintLast Go.Proofs.YthfjolafikgpoaaGreatDoorW.PrintMore Go.Proofs.YthfjolafikgpoaaGreatDoor.Base
set_option linter.unusedVariables false
set_option linter.unusedSimpArgs false
set_option maxRecDepth 100000
theorem infoIT : (Tryz.prog.info? 136).map (fun i => (i.zero, i.size, i.bytes)) = some (some (.agg #[.int .i64 0, .string ⟨#[]⟩]), 2, 24) := by kernel_rfl
end Go.Proofs.YthfjolafikgpoaaGreatDoor.Hand
namespace Go.Proofs.YthfjolafikgpoaaGreatDoor.Hand
open Go.RowKit Go.Maps Go.Proofs.YthfjolafikgpoaaGreatDoorW.PrintWords Go.Proofs.YthfjolafikgpoaaGreatDoorW.PrintLast Go.Proofs.YthfjolafikgpoaaGreatDoorW.PrintMore Go.Proofs.YthfjolafikgpoaaGreatDoor.Base
set_option linter.unusedVariables false
set_option linter.unusedSimpArgs false
set_option maxRecDepth 100000
def EX (w : World) (rb B : Nat) (T : List Tk) (p : Nat) : Prop :=
 rb < B ∧ ∃ (A : Option Addr) (c : Nat), w.heap[rb]? = some (.cells #[.slice A T.length c, .int .i64 (p : Int)] 105 (0, 0)) ∧ KT.R 136 w 0 (fun k => k ≠ rb ∧ k < B) (.slice A T.length c) (toksV T)
theorem EX.below {w w' : World} {rb B p : Nat} {T : List Tk} (h : EX w rb B T p) (hb : Below B w w') : EX w' rb B T p := by
 obtain ⟨h0, A, c, h1, h2⟩ := h
 exact ⟨h0, A, c, (hb.block rb h0).trans h1, Kd.R_step h2 (fun k hk _ => hb.block k hk.2)⟩
theorem EX.belowS {w w' : World} {rb B p : Nat} {T : List Tk} (h : EX w rb B T p) (hb : Below w.heap.size w w') : EX w' rb B T p := by
 obtain ⟨h0, A, c, h1, h2⟩ := h
 exact ⟨h0, A, c, (hb.block rb (blk_lt h1)).trans h1, Kd.R_below h2 hb⟩
theorem EX.set {w : World} {rb B p : Nat} {T : List Tk} (h : EX w rb B T p) (q : Nat) : EX (w.setCell ⟨rb, 1, none⟩ (.int .i64 (q : Int))) rb B T q := by
 obtain ⟨h0, A, c, h1, h2⟩ := h
 exact ⟨h0, A, c, blk_put h1 1 (.int .i64 (q : Int)) rfl, Kd.R_far (p := ⟨rb, 1, none⟩) h2 (fun k hk => hk.1) _⟩
theorem ex_cells {w : World} {rb B p : Nat} {T : List Tk} (h : EX w rb B T p) :
   ∃ (A : Option Addr) (c : Nat), w.cell? ⟨rb, 0, none⟩ = some (.slice A T.length c) ∧ w.cell? ⟨rb, 1, none⟩ = some (.int .i64 (p : Int)) ∧ w.frozen? ⟨rb, 1, none⟩ = false ∧ T.length ≤ c ∧ KT.C w A T.length (toksV T) := by
 obtain ⟨h0, A, c, h1, h2⟩ := h
 obtain ⟨A', c', e, hl, hr⟩ := Kd.R_reads h2
 rw [List.length_map] at e hl hr
 simp only [Value.slice.injEq] at e
 obtain ⟨rfl, _, rfl⟩ := e
 exact ⟨A, c, (blk_cell h1 0).trans rfl, (blk_cell h1 1).trans rfl, blk_frozen h1 1, hl, hr⟩
abbrev vkb (nm : Bool) (k : Nat) : Nat := bif nm then vk k else k
set_option maxHeartbeats 4000000 in
theorem peek_calls (rb B p : Nat) (T ts : List Tk) (k : Nat) (s : L) (hT : T.length ≤ 1000000) (ht : T.drop p = (k, s) :: ts) (nm : Bool) (w : World) (h : EX w rb B T p) :
   Calls Tryz.prog 61 #[.pointer (some ⟨rb, 0, none⟩), .bool nm] w fun e w' => e = .returned (.int .i64 ((vkb nm k : Nat) : Int)) ∧ ∃ q, w' = w.drewN q := by
 obtain ⟨A, c, h1, h2, h3, hc, hC⟩ := ex_cells h
 obtain ⟨ad, rfl, k0, k1⟩ := px_tok hC ht
 have hp : p < T.length := by
  have := congrArg List.length ht
  rw [List.length_drop, List.length_cons] at this; omega
 obtain ⟨n, hn⟩ : ∃ n, T.length = n := ⟨_, rfl⟩
 rw [hn] at h1 hp hc hT
 clear hn h hC ht h3 k1
 cases nm with
 | false =>
   go_enter Tryz.func61, Tryz.ntmps61
   go_wp2
   go_quiet (fail)
   go_wp2
   go_ret
   exact ⟨rfl, _, rfl⟩
 | true =>
   by_cases e9 : k = 9
   · have HV : Aside0 (vkb true k = 8) := ⟨by show vk k = 8; unfold vk; rw [if_pos (Or.inl e9)]⟩
     subst e9
     go_enter Tryz.func61, Tryz.ntmps61
     go_wp2
     go_quiet (fail)
     go_wp2
     go_ret
     exact ⟨by rw [HV.out]; rfl, _, rfl⟩
   by_cases e12 : k = 12
   · have HV : Aside0 (vkb true k = 8) := ⟨by show vk k = 8; unfold vk; rw [if_pos (Or.inr e12)]⟩
     subst e12
     go_enter Tryz.func61, Tryz.ntmps61
     go_wp2
     go_quiet (fail)
     go_wp2
     go_ret
     exact ⟨by rw [HV.out]; rfl, _, rfl⟩
   have HV : Aside0 (vkb true k = k) := ⟨vk_id e9 e12⟩
   have f9 : ((k : Int) == 9) = false := by rw [beq_eq_false_iff_ne]; omega
   have f12 : ((k : Int) == 12) = false := by rw [beq_eq_false_iff_ne]; omega
   clear e9 e12
   go_enter Tryz.func61, Tryz.ntmps61
   go_wp2
   go_quiet (fail)
   go_wp2
   go_ret
   exact ⟨by rw [HV.out]; rfl, _, rfl⟩
abbrev stp (p : Nat) (ts : List Tk) : Nat := if ts = [] then p else p + 1
set_option maxHeartbeats 4000000 in
theorem next_calls (rb B p : Nat) (T ts : List Tk) (k : Nat) (s : L) (hT : T.length ≤ 1000000) (ht : T.drop p = (k, s) :: ts) (nm : Bool) (w : World) (h : EX w rb B T p) :
   Calls Tryz.prog 63 #[.pointer (some ⟨rb, 0, none⟩), .bool nm] w fun e w' => e = .returned (.tuple #[.int .i64 ((vkb nm k : Nat) : Int), .string (mk s)]) ∧ EX w' rb B T (stp p ts) ∧ Kb w w' rb := by
 have hp : p + 1 + ts.length = T.length := by
  have := congrArg List.length ht
  rw [List.length_drop, List.length_cons] at this; omega
 have HPK := Aside0.mk (fun q => peek_calls rb B p T ts k s hT ht nm (w.drewN q) (h.belowS (pw_below_drewN (Below.refl _ _) q)))
 have HX := Aside0.mk h
 obtain ⟨A, c, h1, h2, h3, hc, hC⟩ := ex_cells h
 obtain ⟨ad, rfl, k0, k1⟩ := px_tok hC ht
 obtain ⟨n, hn⟩ : ∃ n, T.length = n := ⟨_, rfl⟩
 rw [hn] at h1 hp hc hT
 obtain ⟨K, hK⟩ : ∃ K, vkb nm k = K := ⟨_, rfl⟩
 rw [hK] at HPK ⊢
 obtain ⟨sv, hsv⟩ : ∃ sv, mk s = sv := ⟨_, rfl⟩
 rw [hsv] at k1 ⊢
 have hw1 : IntKind.i64.wrap ((n : Int) - 1) = (n : Int) - 1 := by rw [IntKind.wrap_i64]; omega
 clear hn h hC ht hK hsv k0
 cases ts with
 | nil =>
   have hlt : ((p : Int) < (n : Int) - 1) = False := eq_false (by simp at hp; omega)
   have HS : Aside0 (stp p ([] : List Tk) = p) := ⟨if_pos rfl⟩
   rw [HS.out]
   have hpn : p < n := by simp at hp; omega
   clear hp
   go_enter Tryz.func63, Tryz.ntmps63
   go_wp2
   go_quiet (first | (go_at_call_of 61 (Value.bool nm); exact Calls.quiet_of (HPK.out _)))
   go_wp2
   go_quiet (fail)
   go_wp2
   go_ret2
   exact ⟨rfl, by first | exact HX.out.belowS (pw_below_drewN (Below.refl _ _) _) | exact HX.out.belowS (pw_below_drewN (pw_below_drewN (Below.refl _ _) _) _), by first | exact (Kb.refl _ _).drewN _ | exact ((Kb.refl _ _).drewN _).drewN _⟩
 | cons t ts =>
   have hlt : ((p : Int) < (n : Int) - 1) = True := eq_true (by simp at hp; omega)
   have HS : Aside0 (stp p (t :: ts) = p + 1) := ⟨if_neg (by simp)⟩
   rw [HS.out]
   have hpn : p < n := by simp at hp; omega
   have hw2 : IntKind.i64.wrap ((p : Int) + 1) = (p : Int) + 1 := by rw [IntKind.wrap_i64]; omega
   have e0 : ((p + 1 : Nat) : Int) = (p : Int) + 1 := by omega
   have HE0 := Aside0.mk e0
   clear hp e0
   go_enter Tryz.func63, Tryz.ntmps63
   go_wp2
   go_quiet (first | (go_at_call_of 61 (Value.bool nm); exact Calls.quiet_of (HPK.out _)))
   go_wp2
   go_quiet (fail)
   go_wp2
   go_ret2
   rw [← HE0.out]
   refine ⟨rfl, by first | exact (HX.out.belowS (pw_below_drewN (Below.refl _ _) _)).set _ | exact (HX.out.belowS (pw_below_drewN (pw_below_drewN (Below.refl _ _) _) _)).set _, by first | exact ((Kb.refl _ _).drewN _).trans (Kb.set _ _ _ _) | exact (((Kb.refl _ _).drewN _).drewN _).trans (Kb.set _ _ _ _)⟩
end Go.Proofs.YthfjolafikgpoaaGreatDoor.Hand

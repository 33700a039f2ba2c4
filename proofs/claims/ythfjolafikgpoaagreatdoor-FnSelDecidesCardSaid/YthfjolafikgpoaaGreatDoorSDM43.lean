/- sort.Sort over requirements at any length: SortOK of every list; how long a list the parser may make. -/
import Derived.Test.YthfjolafikgpoaaGreatDoorSDM42
import Derived.Test.YthfjolafikgpoaaGreatDoorSDGParC
import Derived.Test.YthfjolafikgpoaaGreatDoorSDSrtK
import Derived.Test.YthfjolafikgpoaaGreatDoorSDM36
import Derived.Test.YthfjolafikgpoaaGreatDoorSDM35
import Derived.Test.YthfjolafikgpoaaGreatDoorSDM23
namespace Go.Proofs.YthfjolafikgpoaaGreatDoor.Hand
open Go.RowKit Go.Maps Go.Proofs.YthfjolafikgpoaaGreatDoorW.PrintWords Go.Proofs.YthfjolafikgpoaaGreatDoorW.PrintLast Go.Proofs.YthfjolafikgpoaaGreatDoorW.PrintMore Go.Proofs.YthfjolafikgpoaaGreatDoor.Base
set_option linter.unusedVariables false
set_option linter.unusedSimpArgs false
set_option maxRecDepth 100000
open Go.Sort (ltStr SWO PermIn SortedIn swp size_swp pdq pdq_sorts)
set_option maxHeartbeats 4000000 in
theorem sortKA_calls (l : List Rq) (hl : l.length < 4611686018427387904) (W : World) (base : Nat) (ok : Nat → Prop) (v : Value) (hR : KQ.R 88 W base ok v (rqV l)) :
   Calls Tryz.prog 100 #[.iface 157 v] W fun e w' => e = .returned (.tuple #[]) ∧ ∃ l' : List Rq, l'.Perm l ∧ KAsc l' ∧ KQ.R 88 w' base ok v (rqV l') ∧ W.grownBy w' v.ownBlock := by
 by_cases h2 : 2 ≤ l.length
 · obtain ⟨g, cap, rfl, hbg, hlt, _⟩ := Kd.R_form hR (by rw [List.length_map]; omega)
   rw [List.length_map] at hR ⊢
   have hQ : QK W W base g cap ok l.toArray := ⟨by simpa using hR, World.grownBy.refl _ _⟩
   obtain ⟨n, hn⟩ : ∃ n, l.length = n := ⟨_, rfl⟩
   have hda : l.toArray.size = n := by simpa using hn
   have hlim : Lib.bitLen n < 4611686018427387904 := Nat.lt_of_le_of_lt (Lib.bitLen_le n 62 (by omega) (by omega)) (by omega)
   have hs := pdq_sorts klt klt_swo l.toArray 0 n (Lib.bitLen n) true true (Nat.zero_le _) (by omega) (Or.inl rfl)
   have HS := Aside0.mk hs
   have HDA := Aside0.mk hda
   have HQ := Aside0.mk hQ
   have HP := Aside0.mk (fun (w : World) (h : QK W w base g cap ok l.toArray) => pdq_q g cap n base ok (by omega) W (n + 1) 0 n (Lib.bitLen n) l.toArray w (by omega) hda h (Nat.zero_le _) (Nat.le_refl _) hlim (Or.inl rfl))
   rw [show ((0 : Nat) : Int) = 0 from rfl] at HP
   have HLE : Aside0 (∀ w, Calls Tryz.prog 253 #[.slice (some ⟨g, 0, none⟩) n cap] w fun e w' => e = .returned (.int .i64 n) ∧ ∃ q, w' = w.drewN q) := ⟨fun w => byk_len (some ⟨g, 0, none⟩) n cap w⟩
   have HB := Aside0.mk (fun w => Tryz.bits_Len (n : Int) w (by omega) (by omega))
   have mN : ∀ w, Sem.run Tryz.prog (method 390 157 (.slice (some ⟨g, 0, none⟩) n cap) "Len") w = .ok (253, .slice (some ⟨g, 0, none⟩) n cap) w := fun _ => by kernel_rfl
   have hu : IntKind.u64.wrap (n : Int) = (n : Int) := by simp [IntKind.wrap, IntKind.bits, IntKind.signed]; omega
   rw [hn] at h2 hl hR ⊢
   have hgt : ((n : Int) ≤ 1) = False := eq_false (by omega)
   have e1 : Aside0 ((pdq klt l.toArray 0 n (Lib.bitLen n) true true).size = n) := ⟨by have := hs.1.1; omega⟩
   clear hs hda hQ hR hn
   go_enter Tryz.func100, Tryz.ntmps100
   go_wp2_with (first | ((with_reducible refine (HLE.out _).mono ?_); rintro e w1 ⟨rfl, q, rfl⟩) | ((with_reducible refine (HB.out _).mono ?_); rintro e w2 ⟨rfl, rfl⟩) | ((with_reducible refine (HP.out _ (HQ.out.below (pw_below_drewN (Below.refl _ _) _))).mono ?_); rintro e w3 ⟨rfl, hq⟩; have HQ3 := Aside0.mk hq; clear hq))
   first | refine bodyPost_ret (results_none rfl _ _ _) rfl ?_ | go_end0
   have hq := HQ3.out
   have hs := HS.out
   refine ⟨rfl, (pdq klt l.toArray 0 n (Lib.bitLen n) true true).toList, ?_, ?_, ?_, hq.2⟩
   · rw [← HDA.out] at hs ⊢; exact (perm_of hs.1)
   · exact kasc_of (by rw [e1.out]; exact hs.2)
   · have := hq.1; rw [e1.out] at this; exact this
 · exact sortK_calls l (by omega) W base ok v hR
theorem sortOK_all (l : List Rq) (h : l.length < 4611686018427387904) : SortOK l := fun W base ok v hR => sortKA_calls l h W base ok v hR
theorem pAll_len : ∀ (n : Nat) (T : List Tk) (l : List Rq), pAll n T = some l → l.length ≤ n := by
 intro n
 induction n with
 | zero => intro T l h; simp [pAll] at h
 | succ m ih =>
   intro T l h
   match T, h with
   | [], h => simp [pAll] at h
   | (k, s) :: ts, h =>
     unfold pAll at h
     split at h
     · split at h
       · split at h
         · simp only [Option.some.injEq] at h; subst h; simp
         · split at h
           · split at h
             · split at h
               · obtain ⟨l', e, rfl⟩ := Option.map_eq_some_iff.1 h
                 have := ih _ _ e
                 simp only [List.length_cons]
                 omega
               · cases h
             · cases h
           · cases h
       · cases h
     · split at h
       · simp only [Option.some.injEq] at h; subst h; simp
       · cases h
theorem sortOK_parsed {T : List Tk} (hT : T.length ≤ 900) : ∀ l, pAll T.length T = some l → SortOK l := fun l h => sortOK_all l (by have := pAll_len _ _ _ h; omega)
end Go.Proofs.YthfjolafikgpoaaGreatDoor.Hand
namespace Go.Proofs.YthfjolafikgpoaaGreatDoor.Hand
open Go.RowKit Go.Maps Go.Proofs.YthfjolafikgpoaaGreatDoorW.PrintWords Go.Proofs.YthfjolafikgpoaaGreatDoorW.PrintLast Go.Proofs.YthfjolafikgpoaaGreatDoorW.PrintMore Go.Proofs.YthfjolafikgpoaaGreatDoor.Base
set_option linter.unusedVariables false
set_option linter.unusedSimpArgs false
set_option maxRecDepth 100000
set_option maxHeartbeats 32000000 in
theorem SD_calls (s : ByteArray) (w : World) (hT : TV w) :
   Calls Tryz.prog 8 #[.string s] w fun e w' => e = .returned (.bool true) ∧ Below w.heap.size w w' := by
 have HTT := Aside0.mk hT
 have HB0 := Aside0.mk (Below.refl w.heap.size w)
 have HSE := Aside0.mk (fun (W : World) (hb : Below w.heap.size w W) => epSel_calls W (hT.below hb))
 obtain ⟨y, hy⟩ : ∃ y, s.data.toList = y := ⟨_, rfl⟩
 have HSB : Aside0 (mk y = s) := ⟨by rw [← hy]; exact (mk_of s).symm⟩
 have HZ : Aside0 (s.size = y.length) := ⟨by rw [← hy]; exact Lib.size_eq s⟩
 clear hT hy
 by_cases hnc : s.size ≤ 2147483647
 rotate_left
 · have b0 : decide ((2147483647 : Int) < (s.size : Int)) = true := decide_eq_true (by omega)
   have b1 : decide (2147483647 < s.size) = true := decide_eq_true (by omega)
   go_enter Tryz.func8, Tryz.ntmps8
   go_wp2
   go_ret
   exact ⟨rfl, HB0.out⟩
 have b0 : decide ((2147483647 : Int) < (s.size : Int)) = false := decide_eq_false (by omega)
 have b1 : decide (2147483647 < s.size) = false := decide_eq_false (by omega)
 have HET := Aside0.mk (fun (W : World) => epText_calls y (by have := HZ.out; omega) W)
 rw [HSB.out] at HET
 cases htx : txtOk y
 · rw [htx] at HET
   clear htx
   go_enter Tryz.func8, Tryz.ntmps8
   go_wp2_with (first | ((with_reducible refine (HET.out _).mono ?_); rintro e w1 ⟨rfl, hb⟩; have HB1 := Aside0.mk (below_step HB0.out hb); clear hb HET))
   go_ret
   exact ⟨by simp; try rfl, HB1.out⟩
 rw [htx] at HET
 obtain ⟨h300, hz0⟩ := txtOk_t htx
 clear htx
 obtain ⟨T, hT⟩ : ∃ T, tokensL y = T := ⟨_, rfl⟩
 have hT4 : T.length ≤ 301 := by rw [← hT]; have := tokens_len y.length y (Nat.le_refl _); omega
 have hE : EndsT T := by rw [← hT]; exact tokens_ends y.length y (Nat.le_refl _)
 have hz : ∀ t ∈ T, t.2.length ≤ 1000000 := by rw [← hT]; intro t ht; have := tokens_lit y.length y (Nat.le_refl _) t ht; omega
 have HSL := Aside0.mk (fun (W : World) (hb : Below w.heap.size w W) => Sel_calls y (by omega) W (HTT.out.below hb))
 have HPS := Aside0.mk (fun (W : World) (hb : Below w.heap.size w W) => PSel_calls y (by omega) hz0 T hT (by omega) (sortOK_parsed (by omega)) W (HTT.out.below hb))
 rw [hT] at HSL
 rw [HSB.out] at HSL HPS
 cases hR : pAll T.length T with
 | none =>
   rw [hR] at HSL HPS
   clear h300 hz0 hT hT4 hE hz hR HZ HSB
   go_enter Tryz.func8, Tryz.ntmps8
   go_wp2_with (first | ((with_reducible refine (HET.out _).mono ?_); rintro e w1 ⟨rfl, hb⟩; have HB1 := Aside0.mk (below_step HB0.out hb); clear hb HET) | ((with_reducible refine (HPS.out _ HB1.out).mono ?_); rintro e w2 ⟨hb, rfl⟩; have HB2 := Aside0.mk (below_step HB1.out hb); clear hb HPS) | ((with_reducible refine (HSL.out _ HB2.out).mono ?_); rintro e w3 ⟨hb, rfl⟩; have HB3 := Aside0.mk (below_step HB2.out hb); clear hb HSL) | ((with_reducible refine (HSE.out _ HB3.out).mono ?_); rintro e w4 ⟨rfl, hb⟩; have HB4 := Aside0.mk (below_step HB3.out hb); clear hb HSE))
   go_ret
   exact ⟨by simp; try rfl, HB4.out⟩
 | some l =>
   rw [hR] at HSL HPS
   have hgg := pAll_g _ _ _ hz (by omega) hR
   have hl3 : l.length ≤ 301 := by have := pAll_len _ _ _ hR; omega
   obtain ⟨N, hN⟩ : ∃ N, l.length = N := ⟨_, rfl⟩
   have HLN := Aside0.mk hN
   have HN4 : Aside0 (N ≤ 301) := ⟨by omega⟩
   have HSS := Aside0.mk (fun (l2 : List Rq) (hp : l2.Perm l) (A : Option Addr) (c : Nat) (W : World) (hC : KQ.C W A N (rqV l2)) => Srt_calls A c N l2 (by rw [hp.length_eq, hN]) (by omega) (fun r hr => hgg r (hp.mem_iff.1 hr)) W hC)
   have HUN : Aside0 (∀ a b : List Rq, a.Perm l → b.Perm l → SAsc a → SAsc b → a = b) := ⟨fun a b ha hb h1 h2 => sasc_uniq (ha.trans hb.symm) (fun r hr => (hgg r (ha.mem_iff.1 hr)).f) h1 h2⟩
   have HSM := Aside0.mk (fun (l2 : List Rq) (hp : l2.Perm l) (A : Option Addr) (c : Nat) (A2 : Option Addr) (c2 : Nat) (W : World) (h1 : KQ.C W A N (rqV l2)) (h2 : KQ.C W A2 N (rqV l2)) => SameR_calls l2 l2 N (by rw [hp.length_eq, hN]) (by rw [hp.length_eq, hN]) (by omega) (fun i r q h1 h2 => by rw [h1] at h2; injection h2 with h2; subst h2; exact ⟨rfl, rfl, rfl⟩)
     (fun r hr => ⟨(hgg r (hp.mem_iff.1 hr)).n, fun v hv => by have := (hgg r (hp.mem_iff.1 hr)).v v hv; omega⟩) (fun r hr => ⟨(hgg r (hp.mem_iff.1 hr)).n, fun v hv => by have := (hgg r (hp.mem_iff.1 hr)).v v hv; omega⟩) A c A2 c2 W h1 h2)
   clear h300 hz0 hT hT4 hE hz hR HZ HSB hgg hl3 hN
   go_enter Tryz.func8, Tryz.ntmps8
   go_wp2_with (first | ((with_reducible refine (HET.out _).mono ?_); rintro e w1 ⟨rfl, hb⟩; have HB1 := Aside0.mk (below_step HB0.out hb); clear hb HET) | ((with_reducible refine (HPS.out _ HB1.out).mono ?_); rintro e w2 ⟨hb, v4, l1, hp, ha, he, hr⟩; obtain ⟨A4, c4, e4⟩ := Kd.R_slice hr; have hl1 : l1.length = N := (by rw [hp.length_eq, HLN.out]); rw [show (rqV l1).length = N from by rw [List.length_map, hl1]] at e4; subst e4; obtain ⟨t2, ht2⟩ : ∃ t2, joinB ⟨#[44]⟩ (l1.map txtV) = t2 := ⟨_, rfl⟩; rw [ht2] at he; subst he; have HB2 := Aside0.mk (below_step HB1.out hb); have HC2 := Aside0.mk (Kd.R_reads' hr).2.2; rw [show (rqV l1).length = N from by rw [List.length_map, hl1]] at HC2; have HPA := Aside0.mk hp; have HL1 := Aside0.mk hl1; clear hb hp ha hr ht2 hl1 HPS) | ((with_reducible refine (HSL.out _ HB2.out).mono ?_); rintro e w3 ⟨hb, v6, rfl, hR6⟩; have HB3 := Aside0.mk (below_step HB2.out hb); obtain ⟨AQ, cq, eq_, hcq, hC6⟩ := Kd.R_reads hR6; rw [List.length_map, HLN.out] at eq_ hC6; subst eq_; have HQ3 := Aside0.mk hC6; have HC3 := Aside0.mk (Kd.C_below HC2.out hb); have HS1 := Aside0.mk (HSS.out l1 HPA.out A4 c4 w3 HC3.out); have HS2 := Aside0.mk (fun (W : World) (hb : Below w3.heap.size w3 W) => HSS.out l (List.Perm.refl _) AQ cq W (Kd.C_below HQ3.out hb)); clear hb hR6 hcq hC6 HSL HC2) | ((with_reducible refine (HS1.out).mono ?_); rintro e w4 ⟨hb, A7, c7, l3, rfl, hp, ha, hq⟩; have HB4 := Aside0.mk (below_step HB3.out hb); have HB34 := Aside0.mk hb; have HC7 := Aside0.mk hq; have HP3 := Aside0.mk (hp.trans HPA.out); have HA3 := Aside0.mk ha; clear hb hp ha hq HS1) | ((with_reducible refine (HS2.out _ HB34.out).mono ?_); rintro e w5 ⟨hb, A8, c8, l4, rfl, hp, ha, hq⟩; have HB5 := Aside0.mk (below_step HB4.out hb); have HC8 := Aside0.mk (Kd.C_below HC7.out hb); obtain rfl := HUN.out l3 l4 HP3.out hp HA3.out ha; have HSR := Aside0.mk (HSM.out l3 hp A7 c7 A8 c8 w5 HC8.out hq); clear hb hp ha hq HS2 HC7) | ((with_reducible refine (HSR.out).mono ?_); rintro e w6 ⟨rfl, hb⟩; have HB6 := Aside0.mk (below_step HB5.out hb); clear hb HSR) | ((with_reducible refine (HSE.out _ HB6.out).mono ?_); rintro e w7 ⟨rfl, hb⟩; have HB7 := Aside0.mk (below_step HB6.out hb); clear hb HSE))
   go_ret
   exact ⟨by simp; try rfl, HB7.out⟩
end Go.Proofs.YthfjolafikgpoaaGreatDoor.Hand

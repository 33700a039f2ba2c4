/- sort.Sort over requirements at any length: SortOK of every list; how long a list the parser may make. -/
import Derived.Test.YthfjolafikgpoaaGreatDoorLRM37
import Derived.Test.YthfjolafikgpoaaGreatDoorLRGParC
import Derived.Test.YthfjolafikgpoaaGreatDoorLRM34
import Derived.Test.YthfjolafikgpoaaGreatDoorLRM18
import Derived.Test.YthfjolafikgpoaaGreatDoorLRM31
import Derived.Test.YthfjolafikgpoaaGreatDoorLRM16
import Derived.Test.YthfjolafikgpoaaGreatDoorLRM15
import Derived.Test.YthfjolafikgpoaaGreatDoorLRLabStr
import Derived.Test.YthfjolafikgpoaaGreatDoorLRM27
import Derived.Test.YthfjolafikgpoaaGreatDoorLRM30
import Derived.Test.YthfjolafikgpoaaGreatDoorLRM26
namespace Go.Proofs.YthfjolafikgpoaaGreatDoor.Hand
open Go.RowKit Go.Maps Go.Proofs.YthfjolafikgpoaaGreatDoorW.PrintWords Go.Proofs.YthfjolafikgpoaaGreatDoorW.PrintLast Go.Proofs.YthfjolafikgpoaaGreatDoorW.PrintMore Go.Proofs.YthfjolafikgpoaaGreatDoor.Base
set_option linter.unusedVariables false
set_option linter.unusedSimpArgs false
set_option maxRecDepth 100000
open Go.Sort (ltStr SWO PermIn SortedIn swp size_swp pdq pdq_sorts)
set_option maxHeartbeats 4000000 in
theorem sortKA_calls (l : List Rq) (hl : l.length < 4611686018427387904) (W : World) (base : Nat) (ok : Nat → Prop) (v : Value) (hR : KQ.R 88 W base ok v (rqV l)) :
    Calls Tryz.prog 100 #[.iface 157 v] W fun e w' => e = .returned (.tuple #[]) ∧ ∃ l' : List Rq, l'.Perm l ∧ KAsc l' ∧ KQ.R 88 w' base ok v (rqV l') ∧ W.grownBy w' v.ownBlock := by
  by_cases h2 : 2 ≤ l.length
  · obtain ⟨g, cap, rfl, hbg, hlt, _⟩ := Kd.R_form hR (by rw [List.length_map]; omega)
    rw [List.length_map] at hR ⊢
    have hQ : QK W W base g cap ok l.toArray := ⟨by simpa using hR, World.grownBy.refl _ _⟩
    obtain ⟨n, hn⟩ : ∃ n, l.length = n := ⟨_, rfl⟩
    have hda : l.toArray.size = n := by simpa using hn
    have hlim : Lib.bitLen n < 4611686018427387904 := Nat.lt_of_le_of_lt (Lib.bitLen_le n 62 (by omega) (by omega)) (by omega)
    have hs := pdq_sorts klt klt_swo l.toArray 0 n (Lib.bitLen n) true true (Nat.zero_le _) (by omega) (Or.inl rfl)
    have HS := Aside0.mk hs
    have HDA := Aside0.mk hda
    have HQ := Aside0.mk hQ
    have HP := Aside0.mk (fun (w : World) (h : QK W w base g cap ok l.toArray) => pdq_q g cap n base ok (by omega) W (n + 1) 0 n (Lib.bitLen n) l.toArray w (by omega) hda h (Nat.zero_le _) (Nat.le_refl _) hlim (Or.inl rfl))
    rw [show ((0 : Nat) : Int) = 0 from rfl] at HP
    have HLE : Aside0 (∀ w, Calls Tryz.prog 253 #[.slice (some ⟨g, 0, none⟩) n cap] w fun e w' => e = .returned (.int .i64 n) ∧ ∃ q, w' = w.drewN q) := ⟨fun w => byk_len (some ⟨g, 0, none⟩) n cap w⟩
    have HB := Aside0.mk (fun w => Tryz.bits_Len (n : Int) w (by omega) (by omega))
    have mN : ∀ w, Sem.run Tryz.prog (method 390 157 (.slice (some ⟨g, 0, none⟩) n cap) "Len") w = .ok (253, .slice (some ⟨g, 0, none⟩) n cap) w := fun _ => by kernel_rfl
    have hu : IntKind.u64.wrap (n : Int) = (n : Int) := by simp [IntKind.wrap, IntKind.bits, IntKind.signed]; omega
    rw [hn] at h2 hl hR ⊢
    have hgt : ((n : Int) ≤ 1) = False := eq_false (by omega)
    have e1 : Aside0 ((pdq klt l.toArray 0 n (Lib.bitLen n) true true).size = n) := ⟨by have := hs.1.1; omega⟩
    clear hs hda hQ hR hn
    go_enter Tryz.func100, Tryz.ntmps100
    go_wp2_with (first | ((with_reducible refine (HLE.out _).mono ?_); rintro e w1 ⟨rfl, q, rfl⟩) | ((with_reducible refine (HB.out _).mono ?_); rintro e w2 ⟨rfl, rfl⟩) | ((with_reducible refine (HP.out _ (HQ.out.below (pw_below_drewN (Below.refl _ _) _))).mono ?_); rintro e w3 ⟨rfl, hq⟩; have HQ3 := Aside0.mk hq; clear hq))
    first | refine bodyPost_ret (results_none rfl _ _ _) rfl ?_ | go_end0
    have hq := HQ3.out
    have hs := HS.out
    refine ⟨rfl, (pdq klt l.toArray 0 n (Lib.bitLen n) true true).toList, ?_, ?_, ?_, hq.2⟩
    · rw [← HDA.out] at hs ⊢; exact (perm_of hs.1)
    · exact kasc_of (by rw [e1.out]; exact hs.2)
    · have := hq.1; rw [e1.out] at this; exact this
  · exact sortK_calls l (by omega) W base ok v hR
theorem sortOK_all (l : List Rq) (h : l.length < 4611686018427387904) : SortOK l := fun W base ok v hR => sortKA_calls l h W base ok v hR
theorem pAll_len : ∀ (n : Nat) (T : List Tk) (l : List Rq), pAll n T = some l → l.length ≤ n := by
  intro n
  induction n with
  | zero => intro T l h; simp [pAll] at h
  | succ m ih =>
    intro T l h
    match T, h with
    | [], h => simp [pAll] at h
    | (k, s) :: ts, h =>
      unfold pAll at h
      split at h
      · split at h
        · split at h
          · simp only [Option.some.injEq] at h; subst h; simp
          · split at h
            · split at h
              · split at h
                · obtain ⟨l', e, rfl⟩ := Option.map_eq_some_iff.1 h
                  have := ih _ _ e
                  simp only [List.length_cons]
                  omega
                · cases h
              · cases h
            · cases h
        · cases h
      · split at h
        · simp only [Option.some.injEq] at h; subst h; simp
        · cases h
theorem sortOK_parsed {T : List Tk} (hT : T.length ≤ 900) : ∀ l, pAll T.length T = some l → SortOK l := fun l h => sortOK_all l (by have := pAll_len _ _ _ h; omega)
end Go.Proofs.YthfjolafikgpoaaGreatDoor.Hand

/- The law FnLabelsRound. (Printed by lawlr.py.) -/
namespace Go.Proofs.YthfjolafikgpoaaGreatDoor.Hand
open Go.RowKit Go.Maps Go.Proofs.YthfjolafikgpoaaGreatDoorW.PrintWords Go.Proofs.YthfjolafikgpoaaGreatDoorW.PrintLast Go.Proofs.YthfjolafikgpoaaGreatDoorW.PrintMore Go.Proofs.YthfjolafikgpoaaGreatDoor.Base
set_option linter.unusedVariables false
set_option linter.unusedSimpArgs false
set_option maxRecDepth 100000
theorem insK_ne (out : List LP) (p : LP) : insK out p ≠ [] := by
  unfold insK
  split
  · rename_i h
    intro e
    have h2 : out = [] := List.eq_nil_of_length_eq_zero (by have := congrArg List.length e; simpa using this)
    subst h2
    simp at h
  · simp
theorem keyL_ne {l : List LP} (h : l ≠ []) : keyL l ≠ [] := by
  rcases List.eq_nil_or_concat l with e | ⟨l', p, e⟩
  · exact absurd e h
  · subst e
    unfold keyL
    rw [List.concat_eq_append, List.foldl_append]
    exact insK_ne _ _
theorem fair_no61 {p : LP} (h : FairP p) : (61 : UInt8) ∉ p.1 := fun hm => by
  have h1 := (pQ_all h.1).1
  rw [List.all_eq_true] at h1
  exact absurd (h1 61 hm) (by decide)
set_option maxHeartbeats 16000000 in
theorem LR_calls (A : Option Addr) (c n : Nat) (ls : List (ByteArray × ByteArray)) (hn : ls.length = n) (hnc : n ≤ c) (w : World) (hP : PK.C w A n ls) (hT : TV w) :
    Calls Tryz.prog 7 #[.slice A n c] w fun e w' => e = .returned (.bool true) ∧ Below w.heap.size w w' := by
  have HP := Aside0.mk hP
  have HTT := Aside0.mk hT
  have HL := Aside0.mk hn
  have HBA := Aside0.mk (Below.refl w.heap.size w)
  have HF1 := Aside0.mk (fun (W : World) (hb : Below w.heap.size w W) => Fits1_calls A c n ls hn W (Kd.C_below hP hb))
  clear hP hT hn
  cases hf1 : fits1 ls
  · rw [hf1] at HF1
    clear hf1
    go_enter Tryz.func7, Tryz.ntmps7
    go_wp2_with (first | ((with_reducible refine (HF1.out _ HBA.out).mono ?_); rintro e w1 ⟨rfl, hb⟩; have HB1 := Aside0.mk (below_step HBA.out hb); clear hb HF1))
    go_ret
    exact ⟨rfl, HB1.out⟩
  rw [hf1] at HF1
  obtain ⟨hm1, hz1⟩ := fits1_t hf1
  rw [HL.out] at hm1
  clear hf1
  have HEP := Aside0.mk (fun (b : Nat) (W : World) (hb : Below w.heap.size w W) (hk : W.cell? ⟨b, 0, none⟩ = some (.slice A n c)) => epPairs_calls b 1 1 (fun _ => A) (fun _ => n) (fun _ => c) (fun _ => ls) W (by omega) (fun _ _ => HL.out) (fun _ _ => hm1) (fun i hi => by have h0 : i = 0 := (by omega); subst h0; exact hk) (fun _ _ => Kd.C_below HP.out hb))
  rw [show ((List.range 1).all fun _ => pairsOk ls) = pairsOk ls from by simp [List.range_succ]] at HEP
  cases hep : pairsOk ls
  · rw [hep] at HEP
    clear hep hz1 hm1
    go_enter Tryz.func7, Tryz.ntmps7
    go_wp2_with (first | ((with_reducible refine (HF1.out _ HBA.out).mono ?_); rintro e w1 ⟨rfl, hb⟩; have HB1 := Aside0.mk (below_step HBA.out hb); have hbk6 := heap_alloc_new w1 (.cells #[.slice A n c] 37); have HS6 := Aside0.mk ((blk_cell hbk6 0).trans (show _ = some (Value.slice A n c) from rfl)); have HB6 := Aside0.mk (below_alloc HB1.out (.cells #[.slice A n c] 37)); clear hb HF1 hbk6) | ((with_reducible refine (HEP.out _ _ HB6.out HS6.out).mono ?_); rintro e w7 ⟨rfl, hb⟩; have HB7 := Aside0.mk (below_step HB6.out hb); clear hb HEP))
    go_ret
    exact ⟨rfl, HB7.out⟩
  rw [hep] at HEP
  obtain ⟨hl1, hs1⟩ := pairsOk_t hep
  rw [HL.out] at hl1
  have HSZ := Aside0.mk (And.intro hl1 hs1)
  clear hep hz1 hm1 hs1
  by_cases hn0 : n = 0
  · have n0 : (((n : Nat) : Int) == 0) = true := by rw [hn0]; rfl
    have n1 : (n == 0) = true := by rw [hn0]; rfl
    clear hl1 hn0
    go_enter Tryz.func7, Tryz.ntmps7
    go_wp2_with (first | ((with_reducible refine (HF1.out _ HBA.out).mono ?_); rintro e w1 ⟨rfl, hb⟩; have HB1 := Aside0.mk (below_step HBA.out hb); have hbk6 := heap_alloc_new w1 (.cells #[.slice A n c] 37); have HS6 := Aside0.mk ((blk_cell hbk6 0).trans (show _ = some (Value.slice A n c) from rfl)); have HB6 := Aside0.mk (below_alloc HB1.out (.cells #[.slice A n c] 37)); clear hb HF1 hbk6) | ((with_reducible refine (HEP.out _ _ HB6.out HS6.out).mono ?_); rintro e w7 ⟨rfl, hb⟩; have HB7 := Aside0.mk (below_step HB6.out hb); clear hb HEP))
    go_ret
    exact ⟨rfl, HB7.out⟩
  have n0 : (((n : Nat) : Int) == 0) = false := by rw [beq_eq_false_iff_ne]; omega
  have n1 : (n == 0) = false := by rw [beq_eq_false_iff_ne]; exact hn0
  have HLB := Aside0.mk (fun (W : World) (hb : Below w.heap.size w W) => LBytes_calls A c n ls HL.out (by omega) (fun p hp => by have := HSZ.out.2 p hp; omega) W (Kd.C_below HP.out hb))
  obtain ⟨lb, hlb⟩ : ∃ lb, lbB (ls.map unP) = lb := ⟨_, rfl⟩
  rw [hlb] at HLB
  by_cases hbig : 1500 < lb
  · have d0 : decide ((1500 : Int) < ((lb : Nat) : Int)) = true := decide_eq_true (by omega)
    have d1 : decide (1500 < lb) = true := decide_eq_true hbig
    clear hlb hl1 hn0 hbig
    go_enter Tryz.func7, Tryz.ntmps7
    go_wp2_with (first | ((with_reducible refine (HF1.out _ HBA.out).mono ?_); rintro e w1 ⟨rfl, hb⟩; have HB1 := Aside0.mk (below_step HBA.out hb); have hbk6 := heap_alloc_new w1 (.cells #[.slice A n c] 37); have HS6 := Aside0.mk ((blk_cell hbk6 0).trans (show _ = some (Value.slice A n c) from rfl)); have HB6 := Aside0.mk (below_alloc HB1.out (.cells #[.slice A n c] 37)); clear hb HF1 hbk6) | ((with_reducible refine (HEP.out _ _ HB6.out HS6.out).mono ?_); rintro e w7 ⟨rfl, hb⟩; have HB7 := Aside0.mk (below_step HB6.out hb); clear hb HEP) | ((with_reducible refine (HLB.out _ HB7.out).mono ?_); rintro e w8 ⟨rfl, hb⟩; have HB8 := Aside0.mk (below_step HB7.out hb); clear hb HLB))
    go_ret
    exact ⟨rfl, HB8.out⟩
  have d0 : decide ((1500 : Int) < ((lb : Nat) : Int)) = false := decide_eq_false (by omega)
  have d1 : decide (1500 < lb) = false := decide_eq_false (by omega)
  have HLBB : Aside0 (lbB (ls.map unP) ≤ 1500) := ⟨by omega⟩
  have HN0 := Aside0.mk hn0
  clear hlb hbig
  go_enter Tryz.func7, Tryz.ntmps7
  go_wp2_with (first | ((with_reducible refine (HF1.out _ HBA.out).mono ?_); rintro e w1 ⟨rfl, hb⟩; have HB1 := Aside0.mk (below_step HBA.out hb); have hbk6 := heap_alloc_new w1 (.cells #[.slice A n c] 37); have HS6 := Aside0.mk ((blk_cell hbk6 0).trans (show _ = some (Value.slice A n c) from rfl)); have HB6 := Aside0.mk (below_alloc HB1.out (.cells #[.slice A n c] 37)); clear hb HF1 hbk6) | ((with_reducible refine (HEP.out _ _ HB6.out HS6.out).mono ?_); rintro e w7 ⟨rfl, hb⟩; have HB7 := Aside0.mk (below_step HB6.out hb); clear hb HEP) | ((with_reducible refine (HLB.out _ HB7.out).mono ?_); rintro e w8 ⟨rfl, hb⟩; have HB8 := Aside0.mk (below_step HB7.out hb); clear hb HLB))
  go_loopg [33] (n) (fun g v33 w' => ∃ (j : Nat), v33 = .int .i64 j ∧ Aside0 (g + j = n) ∧ Aside0 (∀ q ∈ (ls.take j).map unP, FairP q) ∧ Aside0 (Below w.heap.size w w'))
  case atStart => exact ⟨0, rfl, ⟨by omega⟩, ⟨fun q hq => by simp at hq⟩, HB8⟩
  case round =>
    clear HB8
    obtain ⟨j, rfl, HJ, HFA, HB⟩ := hrel
    have hj : j ≤ n := by have := HJ.out; omega
    by_cases hjl : j < n
    · have hjl2 : j < ls.length := by rw [HL.out]; exact hjl
      obtain ⟨ad, eA, hk0, hk1⟩ := pk_both (Kd.C_below HP.out HB.out) j hjl hjl2
      subst eA
      obtain ⟨q, hq⟩ : ∃ q, ls[j] = q := ⟨_, rfl⟩
      rw [hq] at hk0 hk1
      have hqs := HSZ.out.2 q (by rw [← hq]; exact List.getElem_mem _)
      have HTK : Aside0 ((ls.take (j + 1)).map unP = (ls.take j).map unP ++ [unP q]) := ⟨by rw [List.take_succ_eq_append_getElem hjl2, hq, List.map_append]; rfl⟩
      obtain ⟨sk, st⟩ := q
      replace hk0 : wr.cell? (ad.add (j * 2)) = some (.string sk) := hk0
      replace hk1 : wr.cell? ⟨(ad.add (j * 2)).block, (ad.add (j * 2)).off + 1, none⟩ = some (.string st) := hk1
      have hbk := heap_alloc_new wr (.cells #[.string sk, .string st] 42)
      have hb3 := below_alloc HB.out (.cells #[.string sk, .string st] 42)
      obtain ⟨w1, hw1⟩ : ∃ w1, wr.alloc (.cells #[.string sk, .string st] 42) = w1 := ⟨_, rfl⟩
      rw [hw1] at hbk hb3
      have c0 : w1.cell? ⟨wr.heap.size, 0, none⟩ = some (.string sk) := (blk_cell hbk 0).trans rfl
      have c1 : w1.cell? ⟨wr.heap.size, 1, none⟩ = some (.string st) := (blk_cell hbk 1).trans rfl
      have HBK := Aside0.mk hbk
      have HB1 := Aside0.mk hb3
      have HQ1 := Aside0.mk (Qualified_calls sk (by have h9 : sk.size ≤ 100 ∧ st.size ≤ 100 := hqs; omega) w1)
      have HV1 := Aside0.mk (fun W => LabelText_calls st (by have h9 : sk.size ≤ 100 ∧ st.size ≤ 100 := hqs; omega) W)
      clear hq hbk hb3 hqs
      cases hpq : pQ sk.data.toList
      · rw [hpq] at HQ1
        clear hpq HTK HV1
        go_wp2_with (first | ((with_reducible refine (HQ1.out).mono ?_); rintro e w2 ⟨rfl, hb⟩; have HB2 := Aside0.mk (below_step HB1.out hb); have HK2 := Aside0.mk ((hb.block _ (blk_lt HBK.out)).trans HBK.out); have c0 : w2.cell? ⟨wr.heap.size, 0, none⟩ = some (.string sk) := (blk_cell HK2.out 0).trans rfl; have c1 : w2.cell? ⟨wr.heap.size, 1, none⟩ = some (.string st) := (blk_cell HK2.out 1).trans rfl; clear hb HQ1))
        go_ret
        exact ⟨rfl, HB2.out⟩
      rw [hpq] at HQ1
      cases hpv : pValue st.data.toList
      · rw [hpv] at HV1
        clear hpq hpv HTK
        go_wp2_with (first | ((with_reducible refine (HQ1.out).mono ?_); rintro e w2 ⟨rfl, hb⟩; have HB2 := Aside0.mk (below_step HB1.out hb); have HK2 := Aside0.mk ((hb.block _ (blk_lt HBK.out)).trans HBK.out); have c0 : w2.cell? ⟨wr.heap.size, 0, none⟩ = some (.string sk) := (blk_cell HK2.out 0).trans rfl; have c1 : w2.cell? ⟨wr.heap.size, 1, none⟩ = some (.string st) := (blk_cell HK2.out 1).trans rfl; clear hb HQ1) | ((with_reducible refine (HV1.out _).mono ?_); rintro e w4 ⟨rfl, rfl⟩; clear HV1))
        go_ret
        exact ⟨rfl, HB2.out⟩
      rw [hpv] at HV1
      by_cases hst : st.toList = []
      · have e0 : (st.toList == ([] : List UInt8)) = true := by rw [hst]; rfl
        clear hpq hpv HTK hst
        go_wp2_with (first | ((with_reducible refine (HQ1.out).mono ?_); rintro e w2 ⟨rfl, hb⟩; have HB2 := Aside0.mk (below_step HB1.out hb); have HK2 := Aside0.mk ((hb.block _ (blk_lt HBK.out)).trans HBK.out); have c0 : w2.cell? ⟨wr.heap.size, 0, none⟩ = some (.string sk) := (blk_cell HK2.out 0).trans rfl; have c1 : w2.cell? ⟨wr.heap.size, 1, none⟩ = some (.string st) := (blk_cell HK2.out 1).trans rfl; clear hb HQ1) | ((with_reducible refine (HV1.out _).mono ?_); rintro e w4 ⟨rfl, rfl⟩; clear HV1))
        go_ret
        exact ⟨rfl, HB2.out⟩
      have e0 : (st.toList == ([] : List UInt8)) = false := by rw [beq_eq_false_iff_ne]; exact hst
      have HFQ : Aside0 (FairP (unP (sk, st))) := ⟨hpq, hpv, by rw [ByteArray.toList_eq] at hst; exact hst⟩
      clear hpq hpv hst
      go_wp2_with (first | ((with_reducible refine (HQ1.out).mono ?_); rintro e w2 ⟨rfl, hb⟩; have HB2 := Aside0.mk (below_step HB1.out hb); have HK2 := Aside0.mk ((hb.block _ (blk_lt HBK.out)).trans HBK.out); have c0 : w2.cell? ⟨wr.heap.size, 0, none⟩ = some (.string sk) := (blk_cell HK2.out 0).trans rfl; have c1 : w2.cell? ⟨wr.heap.size, 1, none⟩ = some (.string st) := (blk_cell HK2.out 1).trans rfl; clear hb HQ1) | ((with_reducible refine (HV1.out _).mono ?_); rintro e w4 ⟨rfl, rfl⟩; clear HV1))
      go_roundg (n - (j + 1))
      case measure => have := HJ.out; omega
      case rel => exact ⟨j + 1, by go_num, ⟨by omega⟩, ⟨by rw [HTK.out]; intro x hx; rcases List.mem_append.1 hx with hx | hx; exact HFA.out x hx; rw [List.mem_singleton.1 hx]; exact HFQ.out⟩, HB2⟩
    · have hje : j = n := by omega
      have hfa := HFA.out
      rw [hje, List.take_of_length_le (by rw [HL.out]; exact Nat.le_refl _)] at hfa
      obtain ⟨qs, hqs⟩ : ∃ qs, ls.map unP = qs := ⟨_, rfl⟩
      rw [hqs] at hfa
      have hqn : qs ≠ [] := by intro e; have := congrArg List.length hqs; rw [List.length_map, HL.out, e] at this; exact HN0.out this
      have hKF : ∀ p ∈ keyL qs, FairP p := fun p hp => hfa p (keyL_sub hp)
      have hL0 : ((keyL qs).map kv).Nodup := kv_nodup (keyL_mem qs).1 (fun p hp => fair_no61 (hKF p hp))
      obtain ⟨hTA, hTP⟩ := setL_all hL0
      obtain ⟨P, hPP, hTM⟩ := perm_map_inv hTP (keyL qs) rfl
      have hPF : ∀ p ∈ P, FairP p := fun p hp => hKF p (hPP.mem_iff.1 hp)
      have hPl : P.length ≤ 20 := by
        have h1 := hPP.length_eq
        have h2 := keyL_len qs
        have h3 := congrArg List.length hqs
        rw [List.length_map, HL.out] at h3
        omega
      have hPs : ∀ p ∈ P, p.1.length + p.2.length ≤ 10000 := fun p hp => by
        have h1 := keyL_sub (hPP.mem_iff.1 hp)
        rw [← hqs] at h1
        obtain ⟨u, hu, rfl⟩ := List.mem_map.1 h1
        have h2 := HSZ.out.2 u hu
        have h3 : u.1.size = u.1.data.toList.length := Lib.size_eq _
        have h4 : u.2.size = u.2.data.toList.length := Lib.size_eq _
        show u.1.data.toList.length + u.2.data.toList.length ≤ 10000
        omega
      obtain ⟨f1, f2, f3, f4, f5, f6⟩ := txt_facts hPF
      have hPne : P ≠ [] := by intro e; have := hPP.length_eq; rw [e] at this; exact keyL_ne hqn (List.eq_nil_of_length_eq_zero this.symm)
      have hxl : (lbTxt P).length ≤ 1500 ∧ lbTxt P ≠ [] := by
        cases P with
        | nil => exact absurd rfl hPne
        | cons p P =>
          have h1 := txt_len p P
          have h2 := lbB_perm hPP
          have h3 := lbB_keyL qs
          have h4 := HLBB.out
          rw [hqs] at h4
          refine ⟨by omega, ?_⟩
          rw [txt_cons]; simp [kv]
      have hpc : pieces 44 (lbTxt P) = (P.map eqnE).map Eqn.text := by
        cases P with
        | nil => exact absurd rfl hPne
        | cons p P =>
          rw [txt_cons, txt_pieces P p (fun q hq => by have := eqn_no44 (eqnE_ok (hPF q hq) (hPs q hq)); rwa [eqnE_text] at this), List.map_map]
          exact List.map_congr_left (fun q _ => (eqnE_text q).symm)
      have hpr : (P.map eqnE).map Eqn.pr = P := by rw [List.map_map]; exact (List.map_congr_left (g := id) (fun p _ => rfl)).trans (List.map_id _)
      have hsel : selR (some (P.map rqE)) (labRev ls) = true := by
        show (P.map rqE).all (rqMeets (labRev ls)) = true
        rw [List.all_eq_true]
        intro r hr
        obtain ⟨p, hp, rfl⟩ := List.mem_map.1 hr
        have h1 := ((keyL_mem qs).2 p.1 p.2).1 (hPP.mem_iff.1 hp)
        show meetsR [61] [p.2] (mget (labRev ls) p.1) = true
        rw [labRev_un, hqs, h1]
        simp [meetsR]
      have HIT := Aside0.mk (fun (W : World) (hb : Below w.heap.size w W) => IText_calls A c ls (by rw [HL.out]; omega) (fun p hp => by have := HSZ.out.2 p hp; omega) (setL ((keyL qs).map kv)) hTA (by rw [hqs]; exact hTP) W (by rw [HL.out]; exact Kd.C_below HP.out hb))
      rw [HL.out, hTM, f1] at HIT
      obtain ⟨nO, hnO⟩ : ∃ nO, ((keyL qs).map mkP).length = nO := ⟨_, rfl⟩
      have HNO := Aside0.mk hnO
      have HNB : Aside0 (nO ≤ 1000000) := ⟨by rw [← hnO, List.length_map, ← hPP.length_eq]; omega⟩
      have HLO := Aside0.mk (fun (W : World) (hb : Below w.heap.size w W) => LabelsOf_calls (P.map eqnE) (fun e he => by obtain ⟨p, hp, rfl⟩ := List.mem_map.1 he; exact eqnE_ok (hPF p hp) (hPs p hp)) (by rw [List.length_map]; omega) (lbTxt P) hpc hxl.2 (by omega) W (HTT.out.below hb))
      rw [hpr, keyL_of_perm hPP] at HLO
      have hszK : ∀ p ∈ (keyL qs).map mkP, p.1.size ≤ 140737488351232 ∧ p.2.size ≤ 140737488351232 := fun p hp => by
        obtain ⟨u, hu, rfl⟩ := List.mem_map.1 hp
        have h1 := hPs u (hPP.mem_iff.2 hu)
        show (mk u.1).size ≤ _ ∧ (mk u.2).size ≤ _
        rw [mk_size, mk_size]; omega
      have HBO := Aside0.mk (fun (AO : Option Addr) (cO : Nat) (W : World) (hb : Below w.heap.size w W) (hC : PK.C W AO nO ((keyL qs).map mkP)) => Both_calls A AO c cO ls ((keyL qs).map mkP) (by rw [HL.out]; omega) (by have := HNO.out; have := hPP.length_eq; rw [List.length_map] at *; omega) (fun p hp => by have := HSZ.out.2 p hp; omega) hszK W (by rw [HL.out]; exact Kd.C_below HP.out hb) (by rw [HNO.out]; exact hC))
      rw [HL.out, HNO.out, ← hqs, both_self ls, hqs] at HBO
      have HSM := Aside0.mk (fun (W : World) (hb : Below w.heap.size w W) => SMS_calls (lbTxt P) (by omega) f2 (toksAll (P.map rqE) ++ [(1, [])]) f3 (by omega) (sortOK_parsed (by omega)) A c n ls HL.out (by omega) (fun p hp => by have := HSZ.out.2 p hp; omega) W (Kd.C_below HP.out hb) (HTT.out.below hb))
      rw [f6, hsel, show ((bif (some (P.map rqE) : Option (List Rq)).isSome then 0 else 1 : Int)) = 0 from rfl] at HSM
      have HME := Aside0.mk (fun (W : World) (hb : Below w.heap.size w W) => LMerge_calls A A c c ls ls (by rw [HL.out]; omega) (by rw [HL.out]; omega) (fun p hp => by have := HSZ.out.2 p hp; omega) (fun p hp => by have := HSZ.out.2 p hp; omega) W (by rw [HL.out]; exact Kd.C_below HP.out hb) (by rw [HL.out]; exact Kd.C_below HP.out hb))
      rw [hqs, keyL_twice, HL.out] at HME
      obtain ⟨tx, htx⟩ : ∃ tx, mk (lbTxt P) = tx := ⟨_, rfl⟩
      rw [htx] at HIT HLO HSM
      obtain ⟨fx, hfx⟩ : ∃ fx, fmtB tx = fx := ⟨_, rfl⟩
      rw [hfx] at HIT
      have HB8 := HB
      clear hje hfa hqn hKF hL0 hTA hTP hPP hTM hPF hPl hPs f1 f2 f3 f4 f5 f6 hPne hxl hpc hpr hsel hnO hszK htx hfx hqs HB HFA hl1
      go_wp2_with (first | ((with_reducible refine (HIT.out _ HB8.out).mono ?_); rintro e w11 ⟨rfl, hb⟩; have HB11 := Aside0.mk (below_step HB8.out hb); clear hb HIT) | ((with_reducible refine (HLO.out _ HB11.out).mono ?_); rintro e w12 ⟨vo, rfl, hro, hb⟩; have HB12 := Aside0.mk (below_step HB11.out hb); obtain ⟨AO, cO, eO, hcO, hCO⟩ := Kd.R_reads hro; rw [HNO.out] at eO hCO; subst eO; have HCO := Aside0.mk hCO; clear hb hro hcO hCO HLO) | ((with_reducible refine (HBO.out AO cO _ HB12.out HCO.out).mono ?_); rintro e w13 ⟨rfl, hb⟩; have HB13 := Aside0.mk (below_step HB12.out hb); have HCO2 := Aside0.mk (Kd.C_below HCO.out hb); clear hb HBO HCO) | ((with_reducible refine (HSM.out _ HB13.out).mono ?_); rintro e w14 ⟨rfl, hb⟩; have HB14 := Aside0.mk (below_step HB13.out hb); have HCO3 := Aside0.mk (Kd.C_below HCO2.out hb); clear hb HSM HCO2) | ((with_reducible refine (HME.out _ HB14.out).mono ?_); rintro e w15 ⟨vm, rfl, hrm, hb⟩; have HB15 := Aside0.mk (below_step HB14.out hb); have HCO4 := Aside0.mk (Kd.C_below HCO3.out hb); obtain ⟨AM, cM, eM, hcM, hCM⟩ := Kd.R_reads hrm; rw [HNO.out] at eM hCM; subst eM; have HCM := Aside0.mk hCM; clear hb hrm hcM hCM HME HCO3) | ((with_reducible refine (SamePairs_calls AM AO nO cM nO cO _ _ HNO.out HNO.out HNB.out HNB.out _ HCM.out HCO4.out).mono ?_); rintro e w16 ⟨rfl, hb⟩; have HB16 := Aside0.mk (below_step HB15.out hb); clear hb))
      go_ret
      exact ⟨by simp; try rfl, HB16.out⟩
end Go.Proofs.YthfjolafikgpoaaGreatDoor.Hand

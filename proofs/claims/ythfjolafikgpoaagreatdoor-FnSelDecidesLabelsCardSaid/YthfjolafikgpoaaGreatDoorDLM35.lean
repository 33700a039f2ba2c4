/- sort.Sort over requirements at any length: SortOK of every list; how long a list the parser may make. -/
import Derived.Test.YthfjolafikgpoaaGreatDoorDLM34
import Derived.Test.YthfjolafikgpoaaGreatDoorDLGParC
import Derived.Test.YthfjolafikgpoaaGreatDoorDLM29
import Derived.Test.YthfjolafikgpoaaGreatDoorDLGSelB
import Derived.Test.YthfjolafikgpoaaGreatDoorDLGSpA
import Derived.Test.YthfjolafikgpoaaGreatDoorDLM24
namespace Go.Proofs.YthfjolafikgpoaaGreatDoor.Hand
open Go.RowKit Go.Maps Go.Proofs.YthfjolafikgpoaaGreatDoorW.PrintWords Go.Proofs.YthfjolafikgpoaaGreatDoorW.PrintLast Go.Proofs.YthfjolafikgpoaaGreatDoorW.PrintMore Go.Proofs.YthfjolafikgpoaaGreatDoor.Base
set_option linter.unusedVariables false
set_option linter.unusedSimpArgs false
set_option maxRecDepth 100000
open Go.Sort (ltStr SWO PermIn SortedIn swp size_swp pdq pdq_sorts)
set_option maxHeartbeats 4000000 in
theorem sortKA_calls (l : List Rq) (hl : l.length < 4611686018427387904) (W : World) (base : Nat) (ok : Nat → Prop) (v : Value) (hR : KQ.R 88 W base ok v (rqV l)) :
    Calls Tryz.prog 100 #[.iface 157 v] W fun e w' => e = .returned (.tuple #[]) ∧ ∃ l' : List Rq, l'.Perm l ∧ KAsc l' ∧ KQ.R 88 w' base ok v (rqV l') ∧ W.grownBy w' v.ownBlock := by
  by_cases h2 : 2 ≤ l.length
  · obtain ⟨g, cap, rfl, hbg, hlt, _⟩ := Kd.R_form hR (by rw [List.length_map]; omega)
    rw [List.length_map] at hR ⊢
    have hQ : QK W W base g cap ok l.toArray := ⟨by simpa using hR, World.grownBy.refl _ _⟩
    obtain ⟨n, hn⟩ : ∃ n, l.length = n := ⟨_, rfl⟩
    have hda : l.toArray.size = n := by simpa using hn
    have hlim : Lib.bitLen n < 4611686018427387904 := Nat.lt_of_le_of_lt (Lib.bitLen_le n 62 (by omega) (by omega)) (by omega)
    have hs := pdq_sorts klt klt_swo l.toArray 0 n (Lib.bitLen n) true true (Nat.zero_le _) (by omega) (Or.inl rfl)
    have HS := Aside0.mk hs
    have HDA := Aside0.mk hda
    have HQ := Aside0.mk hQ
    have HP := Aside0.mk (fun (w : World) (h : QK W w base g cap ok l.toArray) => pdq_q g cap n base ok (by omega) W (n + 1) 0 n (Lib.bitLen n) l.toArray w (by omega) hda h (Nat.zero_le _) (Nat.le_refl _) hlim (Or.inl rfl))
    rw [show ((0 : Nat) : Int) = 0 from rfl] at HP
    have HLE : Aside0 (∀ w, Calls Tryz.prog 253 #[.slice (some ⟨g, 0, none⟩) n cap] w fun e w' => e = .returned (.int .i64 n) ∧ ∃ q, w' = w.drewN q) := ⟨fun w => byk_len (some ⟨g, 0, none⟩) n cap w⟩
    have HB := Aside0.mk (fun w => Tryz.bits_Len (n : Int) w (by omega) (by omega))
    have mN : ∀ w, Sem.run Tryz.prog (method 390 157 (.slice (some ⟨g, 0, none⟩) n cap) "Len") w = .ok (253, .slice (some ⟨g, 0, none⟩) n cap) w := fun _ => by kernel_rfl
    have hu : IntKind.u64.wrap (n : Int) = (n : Int) := by simp [IntKind.wrap, IntKind.bits, IntKind.signed]; omega
    rw [hn] at h2 hl hR ⊢
    have hgt : ((n : Int) ≤ 1) = False := eq_false (by omega)
    have e1 : Aside0 ((pdq klt l.toArray 0 n (Lib.bitLen n) true true).size = n) := ⟨by have := hs.1.1; omega⟩
    clear hs hda hQ hR hn
    go_enter Tryz.func100, Tryz.ntmps100
    go_wp2_with (first | ((with_reducible refine (HLE.out _).mono ?_); rintro e w1 ⟨rfl, q, rfl⟩) | ((with_reducible refine (HB.out _).mono ?_); rintro e w2 ⟨rfl, rfl⟩) | ((with_reducible refine (HP.out _ (HQ.out.below (pw_below_drewN (Below.refl _ _) _))).mono ?_); rintro e w3 ⟨rfl, hq⟩; have HQ3 := Aside0.mk hq; clear hq))
    first | refine bodyPost_ret (results_none rfl _ _ _) rfl ?_ | go_end0
    have hq := HQ3.out
    have hs := HS.out
    refine ⟨rfl, (pdq klt l.toArray 0 n (Lib.bitLen n) true true).toList, ?_, ?_, ?_, hq.2⟩
    · rw [← HDA.out] at hs ⊢; exact (perm_of hs.1)
    · exact kasc_of (by rw [e1.out]; exact hs.2)
    · have := hq.1; rw [e1.out] at this; exact this
  · exact sortK_calls l (by omega) W base ok v hR
theorem sortOK_all (l : List Rq) (h : l.length < 4611686018427387904) : SortOK l := fun W base ok v hR => sortKA_calls l h W base ok v hR
theorem pAll_len : ∀ (n : Nat) (T : List Tk) (l : List Rq), pAll n T = some l → l.length ≤ n := by
  intro n
  induction n with
  | zero => intro T l h; simp [pAll] at h
  | succ m ih =>
    intro T l h
    match T, h with
    | [], h => simp [pAll] at h
    | (k, s) :: ts, h =>
      unfold pAll at h
      split at h
      · split at h
        · split at h
          · simp only [Option.some.injEq] at h; subst h; simp
          · split at h
            · split at h
              · split at h
                · obtain ⟨l', e, rfl⟩ := Option.map_eq_some_iff.1 h
                  have := ih _ _ e
                  simp only [List.length_cons]
                  omega
                · cases h
              · cases h
            · cases h
        · cases h
      · split at h
        · simp only [Option.some.injEq] at h; subst h; simp
        · cases h
theorem sortOK_parsed {T : List Tk} (hT : T.length ≤ 900) : ∀ l, pAll T.length T = some l → SortOK l := fun l h => sortOK_all l (by have := pAll_len _ _ _ h; omega)
end Go.Proofs.YthfjolafikgpoaaGreatDoor.Hand

/- The law FnSelDecidesLabels. (Printed by lawdl.py.) -/
namespace Go.Proofs.YthfjolafikgpoaaGreatDoor.Hand
open Go.RowKit Go.Maps Go.Proofs.YthfjolafikgpoaaGreatDoorW.PrintWords Go.Proofs.YthfjolafikgpoaaGreatDoorW.PrintLast Go.Proofs.YthfjolafikgpoaaGreatDoorW.PrintMore Go.Proofs.YthfjolafikgpoaaGreatDoor.Base
set_option linter.unusedVariables false
set_option linter.unusedSimpArgs false
set_option maxRecDepth 100000
theorem all_take_succD {α : Type} {f : α → Bool} {l : List α} {i : Nat} {p : α} (hp : l[i]? = some p) : (l.take (i + 1)).all f = ((l.take i).all f && f p) := by
  rw [List.take_add_one, hp]; simp
set_option maxHeartbeats 32000000 in
theorem DL_calls (s : ByteArray) (AL : Option Addr) (cl nl : Nat) (ls : List (ByteArray × ByteArray)) (hnl : ls.length = nl) (hncl : nl ≤ cl) (w : World) (hP : PK.C w AL nl ls) (hT : TV w) :
    Calls Tryz.prog 6 #[.string s, .slice AL nl cl] w fun e w' => e = .returned (.bool true) ∧ Below w.heap.size w w' := by
  have HPP := Aside0.mk hP
  have HTT := Aside0.mk hT
  have HLL := Aside0.mk hnl
  have HB0 := Aside0.mk (Below.refl w.heap.size w)
  have HF1 := Aside0.mk (fun (W : World) (hb : Below w.heap.size w W) => Fits1_calls AL cl nl ls hnl W (Kd.C_below hP hb))
  have HSE := Aside0.mk (fun (W : World) (hb : Below w.heap.size w W) => epSel_calls W (hT.below hb))
  obtain ⟨y, hy⟩ : ∃ y, s.data.toList = y := ⟨_, rfl⟩
  have HSB : Aside0 (mk y = s) := ⟨by rw [← hy]; exact (mk_of s).symm⟩
  have HZ : Aside0 (s.size = y.length) := ⟨by rw [← hy]; exact Lib.size_eq s⟩
  clear hP hT hnl hy
  by_cases hnc : s.size ≤ 2147483647
  rotate_left
  · have b0 : decide ((2147483647 : Int) < (s.size : Int)) = true := decide_eq_true (by omega)
    have b1 : decide (2147483647 < s.size) = true := decide_eq_true (by omega)
    skip
    go_enter Tryz.func6, Tryz.ntmps6
    go_wp2
    go_ret
    exact ⟨rfl, HB0.out⟩
  have b0 : decide ((2147483647 : Int) < (s.size : Int)) = false := decide_eq_false (by omega)
  have b1 : decide (2147483647 < s.size) = false := decide_eq_false (by omega)
  cases hf1 : fits1 ls
  · rw [hf1] at HF1
    clear hf1
    go_enter Tryz.func6, Tryz.ntmps6
    go_wp2_with (first | ((with_reducible refine (HF1.out _ HB0.out).mono ?_); rintro e w1 ⟨rfl, hb⟩; have HB1 := Aside0.mk (below_step HB0.out hb); clear hb HF1))
    go_ret
    exact ⟨rfl, HB1.out⟩
  rw [hf1] at HF1
  obtain ⟨hnl2, hlz⟩ := fits1_t hf1
  rw [HLL.out] at hnl2
  clear hf1
  have HET := Aside0.mk (fun (W : World) => epText_calls y (by have := HZ.out; omega) W)
  rw [HSB.out] at HET
  have HEP := Aside0.mk (fun (b : Nat) (W : World) (hb : Below w.heap.size w W) (hk : W.cell? ⟨b, 0, none⟩ = some (.slice AL nl cl)) => epPairs_calls b 1 1 (fun _ => AL) (fun _ => nl) (fun _ => cl) (fun _ => ls) W (by omega) (fun _ _ => HLL.out) (fun _ _ => hnl2) (fun i hi => by have h0 : i = 0 := (by omega); subst h0; exact hk) (fun _ _ => Kd.C_below HPP.out hb))
  rw [show ((List.range 1).all fun _ => pairsOk ls) = pairsOk ls from by simp [List.range_succ]] at HEP
  skip
  cases htx : txtOk y
  · rw [htx] at HET
    clear htx hnl2 hlz
    go_enter Tryz.func6, Tryz.ntmps6
    go_wp2_with (first | ((with_reducible refine (HF1.out _ HB0.out).mono ?_); rintro e w1 ⟨rfl, hb⟩; have HB1 := Aside0.mk (below_step HB0.out hb); clear hb HF1) | ((with_reducible refine (HET.out _).mono ?_); rintro e w3 ⟨rfl, hb⟩; have HB3 := Aside0.mk (below_step HB1.out hb); clear hb HET))
    go_ret
    exact ⟨rfl, HB3.out⟩
  rw [htx] at HET
  obtain ⟨h300, hz0⟩ := txtOk_t htx
  clear htx
  cases hep : pairsOk ls
  · rw [hep] at HEP
    clear hep hnl2 hlz h300 hz0
    go_enter Tryz.func6, Tryz.ntmps6
    go_wp2_with (first | ((with_reducible refine (HF1.out _ HB0.out).mono ?_); rintro e w1 ⟨rfl, hb⟩; have HB1 := Aside0.mk (below_step HB0.out hb); clear hb HF1) | ((with_reducible refine (HET.out _).mono ?_); rintro e w3 ⟨rfl, hb⟩; have HB3 := Aside0.mk (below_step HB1.out hb); have hbk_ := heap_alloc_new w3 (.cells #[.slice AL nl cl] 37); have HS4 := Aside0.mk ((blk_cell hbk_ 0).trans (show _ = some (Value.slice AL nl cl) from rfl)); have HB4 := Aside0.mk (below_alloc HB3.out (.cells #[.slice AL nl cl] 37)); clear hbk_; clear hb HET) | ((with_reducible refine (HEP.out _ _ HB4.out HS4.out).mono ?_); rintro e w5 ⟨rfl, hb⟩; have HB5 := Aside0.mk (below_step HB4.out hb); clear hb HEP))
    go_ret
    exact ⟨rfl, HB5.out⟩
  rw [hep] at HEP
  obtain ⟨hl20, hl100⟩ := pairsOk_t hep
  rw [HLL.out] at hl20
  clear hep
  obtain ⟨T, hT⟩ : ∃ T, tokensL y = T := ⟨_, rfl⟩
  have hT4 : T.length ≤ 301 := by rw [← hT]; have := tokens_len y.length y (Nat.le_refl _); omega
  have hE : EndsT T := by rw [← hT]; exact tokens_ends y.length y (Nat.le_refl _)
  have hz : ∀ t ∈ T, t.2.length ≤ 1000000 := by rw [← hT]; intro t ht; have := tokens_lit y.length y (Nat.le_refl _) t ht; omega
  have HSL := Aside0.mk (fun (W : World) (hb : Below w.heap.size w W) => Sel_calls y (by omega) W (HTT.out.below hb))
  have HSM := Aside0.mk (fun (W : World) (hb : Below w.heap.size w W) => SMS_calls y (by omega) hz0 T hT (by omega) (sortOK_parsed (by omega)) AL cl nl ls HLL.out (by omega) (fun p hp => ⟨by have := (hl100 p hp).1; omega, by have := (hl100 p hp).2; omega⟩) W (Kd.C_below HPP.out hb) (HTT.out.below hb))
  rw [hT] at HSL
  rw [HSB.out] at HSL HSM
  cases hR : pAll T.length T with
  | none =>
    rw [hR] at HSL HSM
    rw [show selR none (labRev ls) = false from rfl, show ((bif (none : Option (List Rq)).isSome then 0 else 1 : Int)) = 1 from rfl] at HSM
    clear hnl2 hlz h300 hz0 hl20 hl100 hT hT4 hE hz hR HZ HSB
    go_enter Tryz.func6, Tryz.ntmps6
    go_wp2_with (first | ((with_reducible refine (HF1.out _ HB0.out).mono ?_); rintro e w1 ⟨rfl, hb⟩; have HB1 := Aside0.mk (below_step HB0.out hb); clear hb HF1) | ((with_reducible refine (HET.out _).mono ?_); rintro e w3 ⟨rfl, hb⟩; have HB3 := Aside0.mk (below_step HB1.out hb); have hbk_ := heap_alloc_new w3 (.cells #[.slice AL nl cl] 37); have HS4 := Aside0.mk ((blk_cell hbk_ 0).trans (show _ = some (Value.slice AL nl cl) from rfl)); have HB4 := Aside0.mk (below_alloc HB3.out (.cells #[.slice AL nl cl] 37)); clear hbk_; clear hb HET) | ((with_reducible refine (HEP.out _ _ HB4.out HS4.out).mono ?_); rintro e w5 ⟨rfl, hb⟩; have HB5 := Aside0.mk (below_step HB4.out hb); clear hb HEP) | ((with_reducible refine (HSL.out _ HB5.out).mono ?_); rintro e w6 ⟨hb, rfl⟩; have HB6 := Aside0.mk (below_step HB5.out hb); clear hb HSL))
    go_loopg [7, 37] (0) (fun k v7 v37 w' => v37 = .int .i64 0 ∧ v7 = .bool false ∧ w6 = w')
    case atStart => exact ⟨rfl, rfl, rfl⟩
    case round =>
      obtain ⟨rfl, rfl, rfl⟩ := hrel
      have HB7 := HB6
      go_wp2_with (first | ((with_reducible refine (HSM.out _ HB7.out).mono ?_); rintro e w8 ⟨rfl, hb⟩; have HB8 := Aside0.mk (below_step HB7.out hb); clear hb HSM) | ((with_reducible refine (HSE.out _ HB8.out).mono ?_); rintro e w9 ⟨rfl, hb⟩; have HB9 := Aside0.mk (below_step HB8.out hb); clear hb HSE))
      go_ret
      exact ⟨rfl, HB9.out⟩
  | some l =>
    rw [hR] at HSL HSM
    have hfa := pAll_fair _ _ _ hR
    obtain ⟨hl3, hsm⟩ := pAll_sm hE (by omega) hz T.length 0 l (by rw [List.drop_zero]; exact hR)
    obtain ⟨mt, hmt⟩ : ∃ mt, rqMeets (labRev ls) = mt := ⟨_, rfl⟩
    rw [show selR (some l) (labRev ls) = l.all (rqMeets (labRev ls)) from rfl, hmt, show ((bif (some l : Option (List Rq)).isSome then 0 else 1 : Int)) = 0 from rfl] at HSM
    have HME := Aside0.mk (fun (r : Rq) (hr : r ∈ l) (AV : Option Addr) (cv nv : Nat) (hnv : r.2.2.length = nv) (W : World) (hb : Below w.heap.size w W) (hC : Kd.C Kd.string W AV nv (r.2.2.map mk)) => Meets_calls (mk r.1) (mk r.2.1) AV cv nv (r.2.2.map mk) (by rw [List.length_map, hnv]) (by have := (hsm r hr).2.1; omega) (fun p hp => by
      obtain ⟨x, hx, rfl⟩ := List.mem_map.1 hp
      rw [mk_size]; exact (hsm r hr).2.2 x hx) AL cl nl ls HLL.out (by omega) (fun v hv => by have := mget_size (M := 100) (fun p hp => hl100 p hp) _ v hv; omega) W hC (Kd.C_below HPP.out hb) (HTT.out.below hb) (by rw [vL_mk]; exact hfa r hr))
    have HMT : Aside0 (∀ r : Rq, meetsR (mk r.2.1).data.toList (vL (r.2.2.map mk)) (mget (labRev ls) (mk r.1).data.toList) = mt r) := ⟨fun r => by rw [vL_mk, ← hmt]; rfl⟩
    obtain ⟨want, hwant⟩ : ∃ want, l.all mt = want := ⟨_, rfl⟩
    rw [hwant] at HSM
    have HWT := Aside0.mk hwant
    obtain ⟨N, hN⟩ : ∃ N, l.length = N := ⟨_, rfl⟩
    have HLN := Aside0.mk hN
    have hN4 : N ≤ 301 := by omega
    clear hnl2 hlz h300 hz0 hl20 hl100 hT hT4 hE hz hR HZ HSB hfa hl3 hsm hmt hwant
    go_enter Tryz.func6, Tryz.ntmps6
    go_wp2_with (first | ((with_reducible refine (HF1.out _ HB0.out).mono ?_); rintro e w1 ⟨rfl, hb⟩; have HB1 := Aside0.mk (below_step HB0.out hb); clear hb HF1) | ((with_reducible refine (HET.out _).mono ?_); rintro e w3 ⟨rfl, hb⟩; have HB3 := Aside0.mk (below_step HB1.out hb); have hbk_ := heap_alloc_new w3 (.cells #[.slice AL nl cl] 37); have HS4 := Aside0.mk ((blk_cell hbk_ 0).trans (show _ = some (Value.slice AL nl cl) from rfl)); have HB4 := Aside0.mk (below_alloc HB3.out (.cells #[.slice AL nl cl] 37)); clear hbk_; clear hb HET) | ((with_reducible refine (HEP.out _ _ HB4.out HS4.out).mono ?_); rintro e w5 ⟨rfl, hb⟩; have HB5 := Aside0.mk (below_step HB4.out hb); clear hb HEP) | ((with_reducible refine (HSL.out _ HB5.out).mono ?_); rintro e w6 ⟨hb, v6, rfl, hR6⟩; have HB6 := Aside0.mk (below_step HB5.out hb); obtain ⟨AQ, cq, eq_, hcq, hC6⟩ := Kd.R_reads hR6; rw [List.length_map, HLN.out] at eq_ hC6; subst eq_; have HQQ := Aside0.mk hC6; clear hb hR6 hcq hC6 HSL))
    go_loopg [7, 37] (N) (fun k v7 v37 w' => ∃ i : Nat, v37 = .int .i64 i ∧ v7 = .bool ((l.take i).all mt) ∧ Aside0 (k + i = N) ∧ Aside0 (Below w6.heap.size w6 w'))
    case atStart => exact ⟨0, rfl, rfl, ⟨by omega⟩, ⟨Below.refl _ _⟩⟩
    case round =>
      obtain ⟨i, rfl, rfl, HI, HBB⟩ := hrel
      have HB := Aside0.mk (below_step HB6.out HBB.out)
      by_cases hin : i < N
      · obtain ⟨r, hr⟩ : ∃ r, l[i]? = some r := ⟨_, List.getElem?_eq_getElem (by rw [HLN.out]; exact hin)⟩
        obtain ⟨aq, AV, cv, rfl, r0, r1, r2, hnc, hCV⟩ := kq_at2 (Kd.C_below HQQ.out HBB.out) i hin r hr
        obtain ⟨nv, hnv⟩ : ∃ nv, r.2.2.length = nv := ⟨_, rfl⟩
        rw [hnv] at r2 hCV
        have hbk := heap_alloc_new wr (.cells #[.string (mk r.1), .string (mk r.2.1), .slice AV nv cv] 53)
        have HB2 := Aside0.mk (below_alloc HB.out (.cells #[.string (mk r.1), .string (mk r.2.1), .slice AV nv cv] 53))
        have HBB2 := Aside0.mk (below_alloc HBB.out (.cells #[.string (mk r.1), .string (mk r.2.1), .slice AV nv cv] 53))
        have hBA := below_alloc (Below.refl wr.heap.size wr) (.cells #[.string (mk r.1), .string (mk r.2.1), .slice AV nv cv] 53)
        have d0 := (blk_cell hbk 0).trans (show _ = some (Value.string (mk r.1)) from rfl)
        have d1 := (blk_cell hbk 1).trans (show _ = some (Value.string (mk r.2.1)) from rfl)
        have d2 := (blk_cell hbk 2).trans (show _ = some (Value.slice AV nv cv) from rfl)
        have HM := Aside0.mk (HME.out r (List.mem_of_getElem? hr) AV cv nv hnv _ HB2.out (Kd.C_below hCV hBA))
        rw [HMT.out r] at HM
        have hsn := all_take_succD (f := mt) hr
        obtain ⟨bq, hbq⟩ : ∃ bq, (l.take i).all mt = bq := ⟨_, rfl⟩
        rw [hbq] at hsn ⊢
        have HSN := Aside0.mk hsn
        obtain ⟨mr, hmr⟩ : ∃ mr, mt r = mr := ⟨_, rfl⟩
        rw [hmr] at HM HSN
        clear hr hbk hBA hCV hnc hnv hsn hbq hmr
        cases bq
        · go_wp2
          go_roundg (N - (i + 1))
          case measure => have := HI.out; omega
          case rel => exact ⟨i + 1, by go_num, congrArg Value.bool (by rw [HSN.out]; rfl), ⟨by omega⟩, HBB2⟩
        · go_wp2_with (first | ((with_reducible refine (HM.out).mono ?_); rintro e w2 ⟨rfl, hb⟩; have HB3_ := Aside0.mk (below_step HBB2.out hb); clear hb HM))
          go_roundg (N - (i + 1))
          case measure => have := HI.out; omega
          case rel => exact ⟨i + 1, by go_num, congrArg Value.bool (by rw [HSN.out]; first | rfl | simp), ⟨by omega⟩, HB3_⟩
      · have hie : i = N := by have := HI.out; omega
        have HX : Aside0 ((l.take i).all mt = want) := ⟨by rw [List.take_of_length_le (by rw [HLN.out, hie]; exact Nat.le_refl _)]; exact HWT.out⟩
        rw [HX.out]
        have HB7 := HB
        clear hie HB HX HWT
        cases want
        · go_wp2_with (first | ((with_reducible refine (HSM.out _ HB7.out).mono ?_); rintro e w8 ⟨rfl, hb⟩; have HB8 := Aside0.mk (below_step HB7.out hb); clear hb HSM) | ((with_reducible refine (HSE.out _ HB8.out).mono ?_); rintro e w9 ⟨rfl, hb⟩; have HB9 := Aside0.mk (below_step HB8.out hb); clear hb HSE))
          go_ret
          exact ⟨rfl, HB9.out⟩
        · go_wp2_with (first | ((with_reducible refine (HSM.out _ HB7.out).mono ?_); rintro e w8 ⟨rfl, hb⟩; have HB8 := Aside0.mk (below_step HB7.out hb); clear hb HSM) | ((with_reducible refine (HSE.out _ HB8.out).mono ?_); rintro e w9 ⟨rfl, hb⟩; have HB9 := Aside0.mk (below_step HB8.out hb); clear hb HSE))
          go_ret
          exact ⟨rfl, HB9.out⟩
end Go.Proofs.YthfjolafikgpoaaGreatDoor.Hand

/- Conflicts. (Printed by labops.py.) -/
import Derived.Test.YteigfmchnblkgaaGreatDoorLBM22
import Derived.Test.YteigfmchnblkgaaGreatDoorLBKeyed
import Derived.Laws.StructEq
namespace Go.Proofs.YteigfmchnblkgaaGreatDoor.Hand
open Go.RowKit Go.Maps Go.Proofs.YteigfmchnblkgaaGreatDoorW.PrintWords Go.Proofs.YteigfmchnblkgaaGreatDoorW.PrintLast Go.Proofs.YteigfmchnblkgaaGreatDoorW.PrintMore Go.Proofs.YteigfmchnblkgaaGreatDoor.Base
set_option linter.unusedVariables false
set_option linter.unusedSimpArgs false
set_option maxRecDepth 100000
def cfV (v : L) (g : Option L) : Bool := match g with | some b => !(v == b) | none => false
theorem cf_some {m1 m2 : List (L × L)} {k v : L} (h : mget m1 k = some v) : cfM m1 m2 k = cfV v (mget m2 k) := by
  unfold cfM cfV
  rw [h]
  cases mget m2 k <;> rfl
set_option maxHeartbeats 8000000 in
theorem Conflicts_calls (b1 N1 : Nat) (m1 : List (L × L)) (b2 N2 : Nat) (m2 : List (L × L)) (hz1 : ∀ k ∈ dk m1, k.length ≤ 140737488351232) (hz2 : ∀ k ∈ dk m2, k.length ≤ 140737488351232) (w : World) (h1 : IsLz w b1 N1 m1) (h2 : IsLz w b2 N2 m2) :
    Calls Tryz.prog 64 #[.map (some b1), .map (some b2)] w fun e w' => e = .returned (.bool (conflictM m1 m2)) ∧ Below w.heap.size w w' := by
  have HB := Aside0.mk (Below.refl w.heap.size w)
  have HS1 := Aside0.mk h1
  have HS2 := Aside0.mk h2
  have HZ1 := Aside0.mk hz1
  have HZ2 := Aside0.mk hz2
  clear h1 h2 hz1 hz2
  obtain ⟨n1, hn1⟩ : ∃ n1, (dk m1).length = n1 := ⟨_, rfl⟩
  obtain ⟨n2, hn2⟩ : ∃ n2, (dk m2).length = n2 := ⟨_, rfl⟩
  have HN1 := Aside0.mk hn1
  have HN2 := Aside0.mk hn2
  clear hn1 hn2
  have HU1 : Aside0 (conflictM m1 m2 = (dk m1).any (cfM m1 m2)) := ⟨rfl⟩
  have HU2 : Aside0 (conflictM m1 m2 = (dk m2).any (cfM m2 m1)) := ⟨conflict_comm m1 m2⟩
  obtain ⟨res, hres⟩ : ∃ res, conflictM m1 m2 = res := ⟨_, rfl⟩
  rw [hres] at HU1 HU2 ⊢
  clear hres
  by_cases hl : n2 < n1
  · have c0 : decide ((n2 : Int) < (n1 : Int)) = true := decide_eq_true (by omega)
    have c1 : decide (n2 < n1) = true := decide_eq_true hl
    go_enter Tryz.func64, Tryz.ntmps64
    go_wp2_with (first | (at_len; refine len_lab _ (.tmp 13) 92 Tryz.underlying92 rfl rfl b2 N2 m2 rfl HS2.out ?_; rw [HN2.out]) | (at_len; refine len_lab _ (.tmp 15) 92 Tryz.underlying92 rfl rfl b1 N1 m1 rfl HS1.out ?_; rw [HN1.out]) | (at_range; refine range_lab _ 92 Tryz.underlying92 rfl _ rfl b2 N2 m2 rfl HS2.out ?_; intro w2 hrg hg hs2; have HRG := Aside0.mk hrg; have HB2 := Aside0.mk (pw_below_grown HB.out none (below_size HB.out) hg (fun j hj => by cases hj)); clear hrg hg HB; have HB := HB2; clear HB2))
    go_frame
    go_loopg [4] ((dk m2).length) (fun g v4 w' => ∃ (left : List L), Aside0 (LzR w' b2 w.heap.size N2 g m2 left ∧ left.Nodup ∧ ∀ x ∈ left, x ∈ dk m2) ∧ Aside0 ((dk m2).any (cfM m2 m1) = left.any (cfM m2 m1)) ∧ Aside0 (Below w.heap.size w w'))
    case atStart => exact ⟨dk m2, ⟨HRG.out, dk_nodup m2, fun x h => h⟩, ⟨rfl⟩, HB⟩
    case round =>
      clear HRG HB
      obtain ⟨left, HRG, HA, HB⟩ := hrel
      go_wp2_with (first | (at_next; refine next_lab _ rfl _ rfl b2 w.heap.size N2 gk m2 left rfl HRG.out.1 ?_ ?_))
      · intro h0 hl0
        have HN : Aside0 ((dk m2).any (cfM m2 m1) = false) := ⟨by rw [HA.out, hl0]; rfl⟩
        clear hl0 h0 HA
        go_wp2
        go_ret
        exact ⟨by rw [HU2.out, HN.out]; rfl, HB.out⟩
      · intro s v w3 cnt hs hv hrg hlt hg hsz hen
        have HB3 := Aside0.mk (pw_below_grown HB.out _ (below_size HB.out) hg (fun k hk => by cases hk; exact Nat.le_refl _))
        have HRG3 := Aside0.mk (And.intro hrg (And.intro (delK_nodup HRG.out.2.1 s.data.toList) (fun x (hx : x ∈ delK left s.data.toList) => HRG.out.2.2 x (delK_sub hx))))
        have HST := Aside0.mk (any_step HRG.out.2.1 hs (cfM m2 m1))
        have HS23 : Aside0 (IsLz w3 b1 N1 m1) := ⟨HS1.out.below HB3.out⟩
        have hss : s.size ≤ 140737488351232 := by
          have := HZ2.out _ (HRG.out.2.2 _ hs); rw [Lib.size_eq]; exact this
        have HLT := Aside0.mk hlt
        obtain ⟨g2, hg2⟩ : ∃ g2, mget m1 s.data.toList = g2 := ⟨_, rfl⟩
        have hq : cfM m2 m1 s.data.toList = cfV v.data.toList g2 := by rw [← hg2]; exact cf_some hv
        rw [hq] at HST
        have HG2 := Aside0.mk hg2
        clear HB HRG hs hrg hlt hg hsz hq hv hg2
        cases g2 with
        | none =>
          have HN : Aside0 ((dk m2).any (cfM m2 m1) = (delK left s.data.toList).any (cfM m2 m1)) := ⟨by rw [HA.out, HST.out]; rfl⟩
          clear HST HA
          go_wp2_with (first | (at_lookup; refine look_lab _ 92 Tryz.underlying92 rfl _ _ rfl b1 N1 m1 rfl HS23.out s hss rfl ?_; rw [HG2.out]))
          go_roundg cnt
          case measure => exact HLT.out
          case rel => exact ⟨_, HRG3, HN, HB3⟩
        | some u =>
          by_cases huv : u = v.data.toList
          · have HN : Aside0 ((dk m2).any (cfM m2 m1) = (delK left s.data.toList).any (cfM m2 m1)) := ⟨by rw [HA.out, HST.out, huv]; simp [cfV]⟩
            have e1 : (mk u) = v := by rw [huv, mk_data]
            have HE := Aside0.mk e1
            clear HST HA huv e1
            go_wp2_with (first | (at_lookup; refine look_lab _ 92 Tryz.underlying92 rfl _ _ rfl b1 N1 m1 rfl HS23.out s hss rfl ?_; rw [HG2.out, Option.getD_some, HE.out]))
            go_roundg cnt
            case measure => exact HLT.out
            case rel => exact ⟨_, HRG3, HN, HB3⟩
          · have HN : Aside0 ((dk m2).any (cfM m2 m1) = true) := ⟨by rw [HA.out, HST.out]; show ((!(v.data.toList == u)) || _) = true; rw [show (v.data.toList == u) = false from by simpa using fun h => huv h.symm]; rfl⟩
            have e1 : ((mk u).toList == v.toList) = false := by rw [mk_toList, toList_eq]; simpa using huv
            have e2 : ((mk u).toList != v.toList) = true := by rw [bne, e1]; rfl
            clear HST HA huv
            obtain ⟨uu, huu⟩ : ∃ uu, mk u = uu := ⟨_, rfl⟩
            have HU := Aside0.mk huu
            rw [huu] at e1 e2
            clear huu
            go_wp2_with (first | (at_lookup; refine look_lab _ 92 Tryz.underlying92 rfl _ _ rfl b1 N1 m1 rfl HS23.out s hss rfl ?_; rw [HG2.out, Option.getD_some, HU.out]))
            go_ret
            exact ⟨by rw [HU2.out, HN.out]; rfl, HB3.out⟩
  · have c0 : decide ((n2 : Int) < (n1 : Int)) = false := decide_eq_false (by omega)
    have c1 : decide (n2 < n1) = false := decide_eq_false hl
    go_enter Tryz.func64, Tryz.ntmps64
    go_wp2_with (first | (at_len; refine len_lab _ (.tmp 13) 92 Tryz.underlying92 rfl rfl b2 N2 m2 rfl HS2.out ?_; rw [HN2.out]) | (at_len; refine len_lab _ (.tmp 15) 92 Tryz.underlying92 rfl rfl b1 N1 m1 rfl HS1.out ?_; rw [HN1.out]) | (at_range; refine range_lab _ 92 Tryz.underlying92 rfl _ rfl b1 N1 m1 rfl HS1.out ?_; intro w2 hrg hg hs2; have HRG := Aside0.mk hrg; have HB2 := Aside0.mk (pw_below_grown HB.out none (below_size HB.out) hg (fun j hj => by cases hj)); clear hrg hg HB; have HB := HB2; clear HB2))
    go_frame
    go_loopg [4] ((dk m1).length) (fun g v4 w' => ∃ (left : List L), Aside0 (LzR w' b1 w.heap.size N1 g m1 left ∧ left.Nodup ∧ ∀ x ∈ left, x ∈ dk m1) ∧ Aside0 ((dk m1).any (cfM m1 m2) = left.any (cfM m1 m2)) ∧ Aside0 (Below w.heap.size w w'))
    case atStart => exact ⟨dk m1, ⟨HRG.out, dk_nodup m1, fun x h => h⟩, ⟨rfl⟩, HB⟩
    case round =>
      clear HRG HB
      obtain ⟨left, HRG, HA, HB⟩ := hrel
      go_wp2_with (first | (at_next; refine next_lab _ rfl _ rfl b1 w.heap.size N1 gk m1 left rfl HRG.out.1 ?_ ?_))
      · intro h0 hl0
        have HN : Aside0 ((dk m1).any (cfM m1 m2) = false) := ⟨by rw [HA.out, hl0]; rfl⟩
        clear hl0 h0 HA
        go_wp2
        go_ret
        exact ⟨by rw [HU1.out, HN.out]; rfl, HB.out⟩
      · intro s v w3 cnt hs hv hrg hlt hg hsz hen
        have HB3 := Aside0.mk (pw_below_grown HB.out _ (below_size HB.out) hg (fun k hk => by cases hk; exact Nat.le_refl _))
        have HRG3 := Aside0.mk (And.intro hrg (And.intro (delK_nodup HRG.out.2.1 s.data.toList) (fun x (hx : x ∈ delK left s.data.toList) => HRG.out.2.2 x (delK_sub hx))))
        have HST := Aside0.mk (any_step HRG.out.2.1 hs (cfM m1 m2))
        have HS23 : Aside0 (IsLz w3 b2 N2 m2) := ⟨HS2.out.below HB3.out⟩
        have hss : s.size ≤ 140737488351232 := by
          have := HZ1.out _ (HRG.out.2.2 _ hs); rw [Lib.size_eq]; exact this
        have HLT := Aside0.mk hlt
        obtain ⟨g2, hg2⟩ : ∃ g2, mget m2 s.data.toList = g2 := ⟨_, rfl⟩
        have hq : cfM m1 m2 s.data.toList = cfV v.data.toList g2 := by rw [← hg2]; exact cf_some hv
        rw [hq] at HST
        have HG2 := Aside0.mk hg2
        clear HB HRG hs hrg hlt hg hsz hq hv hg2
        cases g2 with
        | none =>
          have HN : Aside0 ((dk m1).any (cfM m1 m2) = (delK left s.data.toList).any (cfM m1 m2)) := ⟨by rw [HA.out, HST.out]; rfl⟩
          clear HST HA
          go_wp2_with (first | (at_lookup; refine look_lab _ 92 Tryz.underlying92 rfl _ _ rfl b2 N2 m2 rfl HS23.out s hss rfl ?_; rw [HG2.out]))
          go_roundg cnt
          case measure => exact HLT.out
          case rel => exact ⟨_, HRG3, HN, HB3⟩
        | some u =>
          by_cases huv : u = v.data.toList
          · have HN : Aside0 ((dk m1).any (cfM m1 m2) = (delK left s.data.toList).any (cfM m1 m2)) := ⟨by rw [HA.out, HST.out, huv]; simp [cfV]⟩
            have e1 : (mk u) = v := by rw [huv, mk_data]
            have HE := Aside0.mk e1
            clear HST HA huv e1
            go_wp2_with (first | (at_lookup; refine look_lab _ 92 Tryz.underlying92 rfl _ _ rfl b2 N2 m2 rfl HS23.out s hss rfl ?_; rw [HG2.out, Option.getD_some, HE.out]))
            go_roundg cnt
            case measure => exact HLT.out
            case rel => exact ⟨_, HRG3, HN, HB3⟩
          · have HN : Aside0 ((dk m1).any (cfM m1 m2) = true) := ⟨by rw [HA.out, HST.out]; show ((!(v.data.toList == u)) || _) = true; rw [show (v.data.toList == u) = false from by simpa using fun h => huv h.symm]; rfl⟩
            have e1 : ((mk u).toList == v.toList) = false := by rw [mk_toList, toList_eq]; simpa using huv
            have e2 : ((mk u).toList != v.toList) = true := by rw [bne, e1]; rfl
            clear HST HA huv
            obtain ⟨uu, huu⟩ : ∃ uu, mk u = uu := ⟨_, rfl⟩
            have HU := Aside0.mk huu
            rw [huu] at e1 e2
            clear huu
            go_wp2_with (first | (at_lookup; refine look_lab _ 92 Tryz.underlying92 rfl _ _ rfl b2 N2 m2 rfl HS23.out s hss rfl ?_; rw [HG2.out, Option.getD_some, HU.out]))
            go_ret
            exact ⟨by rw [HU1.out, HN.out]; rfl, HB3.out⟩
end Go.Proofs.YteigfmchnblkgaaGreatDoor.Hand

/- laws.epSamePairs; impl.LabelsBoth. -/
namespace Go.Proofs.YteigfmchnblkgaaGreatDoor.Hand
open Go.RowKit Go.Maps Go.Proofs.YteigfmchnblkgaaGreatDoorW.PrintWords Go.Proofs.YteigfmchnblkgaaGreatDoorW.PrintLast Go.Proofs.YteigfmchnblkgaaGreatDoorW.PrintMore Go.Proofs.YteigfmchnblkgaaGreatDoor.Base
open Go.Sort (ltStr)
set_option linter.unusedVariables false
set_option linter.unusedSimpArgs false
set_option maxRecDepth 100000
theorem pk_both {w : World} {A : Option Addr} {n : Nat} {xs : List (ByteArray × ByteArray)} (h : PK.C w A n xs) (i : Nat) (h1 : i < n) (h2 : i < xs.length) :
    ∃ ad, A = some ad ∧ w.cell? (ad.add (i * 2)) = some (.string xs[i].1) ∧ w.cell? ⟨(ad.add (i * 2)).block, (ad.add (i * 2)).off + 1, none⟩ = some (.string xs[i].2) := by
  obtain ⟨ad, e, h0, h3⟩ := pk_at h i h1
  rw [List.getD_eq_getElem?_getD, List.getElem?_eq_getElem h2] at h0 h3
  exact ⟨ad, e, h0, h3⟩
theorem take_eq_snoc {α : Type} {xs ys : List α} {j : Nat} (h : xs.take j = ys.take j) (h1 : j < xs.length) (h2 : j < ys.length) (e : xs[j] = ys[j]) : xs.take (j + 1) = ys.take (j + 1) := by
  rw [List.take_succ_eq_append_getElem h1, List.take_succ_eq_append_getElem h2, h, e]
theorem pr_guard (x y : Operand) (xs ys : Array Value) (w : World) : (eqGuard .neq 45 x y (.agg xs) (.agg ys)).run Tryz.prog w = .ok () w := run_eqGuard_agg w .neq 45 x y xs ys (by kernel_rfl)
theorem pr_eq (xa xb ya yb : ByteArray) (w : World) : (Op.equalIn 10000 45 (.agg #[.string xa, .string xb]) (.agg #[.string ya, .string yb])).run Tryz.prog w = .ok (xa.toList == ya.toList && xb.toList == yb.toList) w := by
  rw [run_equalIn_struct w 9999 45 _ _ (by kernel_rfl) (by kernel_rfl)]
  simp only [Program.fieldsOf, Tryz.underlying45, Op.eqFields]
  simp [part, run_equalIn_string _ _ _ _ _ Tryz.underlying9, go_sem]
  by_cases h1 : xa.toList = ya.toList <;> by_cases h2 : xb.toList = yb.toList <;> simp [h1, h2]
theorem pr_neq (xa xb ya yb : ByteArray) (w : World) : (binOp .neq 45 (.agg #[.string xa, .string xb]) (.agg #[.string ya, .string yb])).run Tryz.prog w = .ok (.bool (!(xa.toList == ya.toList && xb.toList == yb.toList))) w := by
  rw [run_neq_struct, pr_eq]; rfl
set_option maxHeartbeats 4000000 in
theorem SamePairs_calls (A A2 : Option Addr) (n c n2 c2 : Nat) (xs ys : List (ByteArray × ByteArray)) (hn : xs.length = n) (hn2 : ys.length = n2) (hb1 : n ≤ 1000000) (hb2 : n2 ≤ 1000000) (w : World) (hx : PK.C w A n xs) (hy : PK.C w A2 n2 ys) :
    Calls Tryz.prog 36 #[.slice A n c, .slice A2 n2 c2] w fun e w' => e = .returned (.bool (decide (xs = ys))) ∧ Below w.heap.size w w' := by
  have HX := Aside0.mk hx
  have HY := Aside0.mk hy
  have HB := Aside0.mk (Below.refl w.heap.size w)
  clear hx hy
  go_enter Tryz.func36, Tryz.ntmps36
  by_cases hnn : n = n2
  · subst hnn
    go_wp2
    go_loopg [5, 13] (n) (fun g v5 v13 w' => ∃ j : Nat, v13 = .int .i64 j ∧ Aside0 (g + j = n) ∧ Aside0 (xs.take j = ys.take j) ∧ Aside0 (Below w.heap.size w w'))
    case atStart => exact ⟨0, rfl, ⟨by omega⟩, ⟨rfl⟩, HB⟩
    case round =>
      clear HB
      obtain ⟨j, rfl, HJ, HT, HB⟩ := hrel
      have hj : j ≤ n := by have := HJ.out; omega
      by_cases hjl : j < n
      · obtain ⟨ad, e1, hk0, hk1⟩ := pk_both (Kd.C_below HX.out HB.out) j hjl (by omega)
        obtain ⟨ad2, e2, hl0, hl1⟩ := pk_both (Kd.C_below HY.out HB.out) j hjl (by omega)
        subst e1 e2
        obtain ⟨x0, hx0⟩ : ∃ x, xs[j] = x := ⟨_, rfl⟩
        obtain ⟨y0, hy0⟩ : ∃ y, ys[j] = y := ⟨_, rfl⟩
        rw [hx0] at hk0 hk1
        rw [hy0] at hl0 hl1
        obtain ⟨xa, xb⟩ := x0
        obtain ⟨ya, yb⟩ := y0
        replace hk0 : wr.cell? (ad.add (j * 2)) = some (.string xa) := hk0
        replace hk1 : wr.cell? ⟨(ad.add (j * 2)).block, (ad.add (j * 2)).off + 1, none⟩ = some (.string xb) := hk1
        replace hl0 : wr.cell? (ad2.add (j * 2)) = some (.string ya) := hl0
        replace hl1 : wr.cell? ⟨(ad2.add (j * 2)).block, (ad2.add (j * 2)).off + 1, none⟩ = some (.string yb) := hl1
        have HE := Aside0.mk (And.intro hx0 hy0)
        clear hx0 hy0
        obtain ⟨q, hq⟩ : ∃ q, (xa.toList == ya.toList && xb.toList == yb.toList) = q := ⟨_, rfl⟩
        have hE1 := pr_eq xa xb ya yb
        have hE2 := pr_neq xa xb ya yb
        have hE3 := pr_guard (.tmp 19) (.tmp 23) #[.string xa, .string xb] #[.string ya, .string yb]
        rw [hq] at hE1 hE2
        cases q with
        | true =>
          have HQ : Aside0 (xs.take (j + 1) = ys.take (j + 1)) := ⟨take_eq_snoc HT.out (by omega) (by omega) (by
            rw [HE.out.1, HE.out.2]
            simp only [Bool.and_eq_true, beq_iff_eq] at hq
            have z : ∀ a b : ByteArray, a.toList = b.toList → a = b := fun a b h => by rw [ByteArray.toList_eq, ByteArray.toList_eq] at h; exact ByteArray.ext (Array.toList_inj.1 h)
            rw [z _ _ hq.1, z _ _ hq.2])⟩
          clear hq
          go_wp2
          go_quiet (fail)
          clear hE1 hE2 hE3
          go_wp2
          go_roundg (gk - 1)
          case measure => have := HJ.out; omega
          case rel => exact ⟨j + 1, by go_num, ⟨by have := HJ.out; omega⟩, HQ, ⟨pw_below_drewN HB.out _⟩⟩
        | false =>
          have HQ : Aside0 (decide (xs = ys) = false) := ⟨by
            rw [decide_eq_false_iff_not]
            intro e
            subst e
            have := HE.out.1.symm.trans HE.out.2
            injection this with e1 e2
            rw [e1, e2] at hq
            simp at hq⟩
          clear hq
          go_wp2
          go_quiet (fail)
          clear hE1 hE2 hE3
          go_wp2
          go_ret
          exact ⟨by rw [HQ.out]; rfl, pw_below_drewN HB.out _⟩
      · have hli : j = n := by omega
        have HE : Aside0 (decide (xs = ys) = true) := ⟨by
          have := HT.out
          rw [hli, List.take_of_length_le (by omega), List.take_of_length_le (by omega)] at this
          simp [this]⟩
        go_wp2
        go_ret
        exact ⟨by rw [HE.out]; rfl, HB.out⟩
  · have HE : Aside0 (decide (xs = ys) = false) := ⟨by
      rw [decide_eq_false_iff_not]; intro e; subst e; omega⟩
    go_wp2
    go_ret
    exact ⟨by rw [HE.out]; rfl, HB.out⟩
end Go.Proofs.YteigfmchnblkgaaGreatDoor.Hand

/- impl.LabelsBoth. -/
namespace Go.Proofs.YteigfmchnblkgaaGreatDoor.Hand
open Go.RowKit Go.Maps Go.Proofs.YteigfmchnblkgaaGreatDoorW.PrintWords Go.Proofs.YteigfmchnblkgaaGreatDoorW.PrintLast Go.Proofs.YteigfmchnblkgaaGreatDoorW.PrintMore Go.Proofs.YteigfmchnblkgaaGreatDoor.Base
open Go.Sort (ltStr)
set_option linter.unusedVariables false
set_option linter.unusedSimpArgs false
set_option maxRecDepth 100000
theorem dk_rev_len {l : List (ByteArray × ByteArray)} (hz : ∀ p ∈ l, p.1.size ≤ 140737488351232 ∧ p.2.size ≤ 140737488351232) : ∀ k ∈ dk (labRev l), k.length ≤ 140737488351232 := by
  intro k hk
  obtain ⟨v, hv⟩ := dk_mem.1 hk
  unfold mget at hv
  obtain ⟨q, hq, _⟩ := Option.map_eq_some_iff.1 hv
  have hm := List.mem_of_find?_eq_some hq
  have he := List.find?_some hq
  unfold labRev at hm
  rw [List.mem_reverse, List.mem_map] at hm
  obtain ⟨p, hp, rfl⟩ := hm
  have : p.1.data.toList = k := by simpa using he
  rw [← this]
  exact (hz p hp).1
/-- The three answers of impl.LabelsBoth. -/
def bothV (a b : List (ByteArray × ByteArray)) : Value := .tuple #[.bool (conflictM (labRev a) (labRev b)), .bool (decide ((dk (labRev a)).length = (dk (labRev b)).length) && (dk (labRev a)).all (sameM (labRev a) (labRev b))), .bool (decide ((dk (labRev b)).length = 0) || (dk (labRev a)).all (sameM (labRev a) (labRev b)))]
set_option maxHeartbeats 4000000 in
theorem Both_calls (A A2 : Option Addr) (c c2 : Nat) (l l2 : List (ByteArray × ByteArray)) (hl : l.length ≤ 1000) (hl2 : l2.length ≤ 1000) (hz : ∀ p ∈ l, p.1.size ≤ 140737488351232 ∧ p.2.size ≤ 140737488351232) (hz2 : ∀ p ∈ l2, p.1.size ≤ 140737488351232 ∧ p.2.size ≤ 140737488351232) (w : World) (hx : PK.C w A l.length l) (hy : PK.C w A2 l2.length l2) :
    Calls Tryz.prog 35 #[.slice A l.length c, .slice A2 l2.length c2] w fun e w' => e = .returned (bothV l l2) ∧ Below w.heap.size w w' := by
  have HX := Aside0.mk hx
  have HY := Aside0.mk hy
  have H1 := Aside0.mk (fun W (h : PK.C W A l.length l) => setOfZ_calls A c l (by omega) hz W h)
  have H2 := Aside0.mk (fun W (h : PK.C W A2 l2.length l2) => setOfZ_calls A2 c2 l2 (by omega) hz2 W h)
  have HC := Aside0.mk (fun b1 b2 N1 N2 W h1 h2 => Conflicts_calls b1 N1 (labRev l) b2 N2 (labRev l2) (dk_rev_len hz) (dk_rev_len hz2) W h1 h2)
  have HE := Aside0.mk (fun b1 b2 N1 N2 W h1 h2 => Equals_calls b1 N1 (labRev l) b2 N2 (labRev l2) (dk_rev_len hz) W h1 h2)
  have HW := Aside0.mk (fun b1 b2 N1 N2 W h1 h2 => White_calls b1 N1 (labRev l) b2 N2 (labRev l2) (dk_rev_len hz) W h1 h2)
  have HB := Aside0.mk (Below.refl w.heap.size w)
  clear hx hy
  go_enter Tryz.func35, Tryz.ntmps35
  go_wp2_with (first
    | ((with_reducible refine (H1.out _ HX.out).mono ?_); rintro e w1 ⟨rfl, hi, hb⟩; have HI1 := Aside0.mk hi; have HB1 := Aside0.mk (below_step HB.out hb); have HY1 := Aside0.mk (Kd.C_below HY.out hb); clear hi hb H1)
    | ((with_reducible refine (H2.out _ HY1.out).mono ?_); rintro e w2 ⟨rfl, hi, hb⟩; have HI2 := Aside0.mk hi; have HI3 := Aside0.mk (HI1.out.below hb); have HB2 := Aside0.mk (below_step HB1.out hb); clear hi hb H2)
    | ((with_reducible refine (HC.out _ _ _ _ _ HI3.out HI2.out).mono ?_); rintro e w3 ⟨rfl, hb⟩; have HI4 := Aside0.mk (HI3.out.below hb); have HI5 := Aside0.mk (HI2.out.below hb); have HB3 := Aside0.mk (below_step HB2.out hb); clear hb HC)
    | ((with_reducible refine (HE.out _ _ _ _ _ HI4.out HI5.out).mono ?_); rintro e w4 ⟨rfl, hb⟩; have HI6 := Aside0.mk (HI4.out.below hb); have HI7 := Aside0.mk (HI5.out.below hb); have HB4 := Aside0.mk (below_step HB3.out hb); clear hb HE)
    | ((with_reducible refine (HW.out _ _ _ _ _ HI6.out HI7.out).mono ?_); rintro e w5 ⟨rfl, hb⟩; have HB5 := Aside0.mk (below_step HB4.out hb); clear hb HW))
  refine bodyPost_ret (v := bothV l l2) (by simp [results, Tryz.results35, go_sem, bothV]) rfl ?_
  exact ⟨rfl, HB5.out⟩
end Go.Proofs.YteigfmchnblkgaaGreatDoor.Hand

/- Labels by their keys: what stands in the list, and where. No program in sight. -/
namespace Go.Proofs.YteigfmchnblkgaaGreatDoor.Hand
open Go.RowKit Go.Maps Go.Proofs.YteigfmchnblkgaaGreatDoorW.PrintWords Go.Proofs.YteigfmchnblkgaaGreatDoorW.PrintLast Go.Proofs.YteigfmchnblkgaaGreatDoorW.PrintMore Go.Proofs.YteigfmchnblkgaaGreatDoor.Base
open Go.Sort (ltStr)
set_option linter.unusedVariables false
set_option linter.unusedSimpArgs false
theorem irr (x : L) : ltStr x x = false := Go.Sort.swo_ltStr.irrefl x
theorem trn {x y z : L} (h : ltStr x y = true) (h2 : ltStr y z = true) : ltStr x z = true := Go.Sort.swo_ltStr.trans x y z h h2
theorem tri {x y : L} (h : ¬ ltStr x y = true) (e : x ≠ y) : ltStr y x = true := by
  cases h2 : ltStr y x
  · simp only [ltStr, decide_eq_true_eq, decide_eq_false_iff_not, List.not_lt] at h h2
    exact absurd (List.le_antisymm h2 h) e
  · rfl
theorem insK_cons (y : LP) (r : List LP) (p : LP) : insK (y :: r) p = if ltStr y.1 p.1 = true then y :: insK r p else if y.1 = p.1 then p :: r else p :: y :: r := by
  by_cases h : ltStr y.1 p.1 = true
  · rw [if_pos h]
    have e : posK (y :: r) p.1 = posK r p.1 + 1 := by show (if _ then _ else _) = _; rw [if_pos h]
    unfold insK
    rw [e]
    simp only [List.getElem?_cons_succ, List.set_cons_succ, List.take_succ_cons, List.drop_succ_cons, List.cons_append]
    split <;> rfl
  · rw [if_neg h]
    have e : posK (y :: r) p.1 = 0 := by show (if _ then _ else _) = _; rw [if_neg h]
    unfold insK
    rw [e]
    simp only [List.getElem?_cons_zero, Option.map_some, List.set_cons_zero, List.take_zero, List.drop_zero, List.nil_append, Option.some.injEq]
def SK (xs : List LP) : Prop := xs.Pairwise fun a b => ltStr a.1 b.1 = true
theorem ins_mem (p : LP) : ∀ (out : List LP), SK out → SK (insK out p) ∧ ∀ q, q ∈ insK out p ↔ q = p ∨ (q ∈ out ∧ q.1 ≠ p.1)
  | [], _ => ⟨by show SK [p]; exact List.pairwise_singleton _ _, fun q => by show q ∈ [p] ↔ _; simp⟩
  | y :: r, h => by
    obtain ⟨h1, h2⟩ := List.pairwise_cons.1 h
    obtain ⟨i1, i2⟩ := ins_mem p r h2
    rw [insK_cons]
    by_cases e : ltStr y.1 p.1 = true
    · rw [if_pos e]
      have hne : y.1 ≠ p.1 := fun e2 => by rw [e2, irr] at e; cases e
      refine ⟨List.pairwise_cons.2 ⟨fun q hq => ?_, i1⟩, fun q => ?_⟩
      · rcases (i2 q).1 hq with rfl | ⟨hq, _⟩
        · exact e
        · exact h1 q hq
      · rw [List.mem_cons, i2, List.mem_cons]
        constructor
        · rintro (rfl | rfl | ⟨a, b⟩)
          · exact .inr ⟨.inl rfl, hne⟩
          · exact .inl rfl
          · exact .inr ⟨.inr a, b⟩
        · rintro (rfl | ⟨rfl | a, b⟩)
          · exact .inr (.inl rfl)
          · exact .inl rfl
          · exact .inr (.inr ⟨a, b⟩)
    · rw [if_neg e]
      by_cases e2 : y.1 = p.1
      · rw [if_pos e2]
        refine ⟨List.pairwise_cons.2 ⟨fun q hq => by rw [← e2]; exact h1 q hq, h2⟩, fun q => ?_⟩
        rw [List.mem_cons, List.mem_cons]
        constructor
        · rintro (rfl | a)
          · exact .inl rfl
          · exact .inr ⟨.inr a, fun e3 => by have := h1 q a; rw [e3, e2, irr] at this; cases this⟩
        · rintro (rfl | ⟨rfl | a, b⟩)
          · exact .inl rfl
          · exact absurd e2 b
          · exact .inr a
      · rw [if_neg e2]
        have hlt : ltStr p.1 y.1 = true := tri e e2
        refine ⟨List.pairwise_cons.2 ⟨fun q hq => ?_, h⟩, fun q => ?_⟩
        · rcases List.mem_cons.1 hq with rfl | hq
          · exact hlt
          · exact trn hlt (h1 q hq)
        · rw [List.mem_cons]
          constructor
          · rintro (rfl | a)
            · exact .inl rfl
            · refine .inr ⟨a, fun e3 => ?_⟩
              rcases List.mem_cons.1 a with rfl | a
              · exact e2 e3
              · have := trn hlt (h1 q a)
                rw [e3, irr] at this; cases this
          · rintro (rfl | ⟨a, b⟩)
            · exact .inl rfl
            · exact .inr a
theorem keyL_mem (l : List LP) : SK (keyL l) ∧ ∀ k v, (k, v) ∈ keyL l ↔ mget l.reverse k = some v := by
  have h : ∀ n, n ≤ l.length → SK (keyL (l.take n)) ∧ ∀ k v, (k, v) ∈ keyL (l.take n) ↔ mget (l.take n).reverse k = some v := by
    intro n
    induction n with
    | zero => exact fun _ => ⟨List.Pairwise.nil, fun k v => by show (k, v) ∈ ([] : List LP) ↔ mget [] k = some v; simp [mget]⟩
    | succ n ih =>
      intro hn
      obtain ⟨i1, i2⟩ := ih (by omega)
      obtain ⟨p, hp⟩ : ∃ p, l[n]? = some p := ⟨_, List.getElem?_eq_getElem (by omega)⟩
      have hs := keyL_snoc hp
      have hr : (l.take (n + 1)).reverse = p :: (l.take n).reverse := by rw [List.take_add_one, hp]; simp
      rw [hs, hr]
      obtain ⟨j1, j2⟩ := ins_mem p _ i1
      refine ⟨j1, fun k v => ?_⟩
      obtain ⟨pk, pv⟩ := p
      rw [j2, mget_cons, i2]
      by_cases e : pk = k
      · subst e; rw [if_pos rfl]; simp [eq_comm]
      · rw [if_neg e]
        constructor
        · rintro (h | h)
          · exact absurd (Prod.mk.inj h).1.symm e
          · exact h.1
        · exact fun h => .inr ⟨h, fun e2 => e e2.symm⟩
  have := h l.length (Nat.le_refl _)
  rwa [List.take_length] at this
theorem sk_ext : ∀ {xs ys : List LP}, SK xs → SK ys → (∀ q, q ∈ xs ↔ q ∈ ys) → xs = ys
  | [], [], _, _, _ => rfl
  | [], y :: ys, _, _, h => by have := (h y).2 List.mem_cons_self; cases this
  | x :: xs, [], _, _, h => by have := (h x).1 List.mem_cons_self; cases this
  | x :: xs, y :: ys, hx, hy, h => by
    obtain ⟨a1, a2⟩ := List.pairwise_cons.1 hx
    obtain ⟨b1, b2⟩ := List.pairwise_cons.1 hy
    have e : x = y := by
      rcases List.mem_cons.1 ((h x).1 List.mem_cons_self) with e | m1
      · exact e
      · rcases List.mem_cons.1 ((h y).2 List.mem_cons_self) with e | m2
        · exact e.symm
        · have := trn (a1 y m2) (b1 x m1)
          rw [irr] at this; cases this
    subst e
    rw [sk_ext a2 b2 fun q => ?_]
    constructor
    · intro m
      rcases List.mem_cons.1 ((h q).1 (List.mem_cons_of_mem _ m)) with rfl | m2
      · have := a1 _ m; rw [irr] at this; cases this
      · exact m2
    · intro m
      rcases List.mem_cons.1 ((h q).2 (List.mem_cons_of_mem _ m)) with rfl | m2
      · have := b1 _ m; rw [irr] at this; cases this
      · exact m2
/-- A list of labels by their keys, looked up. -/
theorem mget_keyL (l : List LP) (k : L) : mget (keyL l).reverse k = mget l.reverse k := by
  obtain ⟨h1, h2⟩ := keyL_mem l
  have hin : ∀ v, mget (keyL l).reverse k = some v → (k, v) ∈ keyL l := by
    intro v hv
    unfold mget at hv
    obtain ⟨q, hq, hv⟩ := Option.map_eq_some_iff.1 hv
    have hm := List.mem_reverse.1 (List.mem_of_find?_eq_some hq)
    have he := List.find?_some hq
    have e1 : q.1 = k := by simpa using he
    rw [← e1, ← hv]; exact hm
  cases hg : mget l.reverse k with
  | some v =>
    have hm := (h2 k v).2 hg
    cases hg2 : mget (keyL l).reverse k with
    | none =>
      unfold mget at hg2
      rw [Option.map_eq_none_iff, List.find?_eq_none] at hg2
      have := hg2 (k, v) (List.mem_reverse.2 hm)
      simp at this
    | some v' =>
      have := (h2 k v').1 (hin v' hg2)
      rw [hg] at this; exact this.symm
  | none =>
    cases hg2 : mget (keyL l).reverse k with
    | none => rfl
    | some v' =>
      have := (h2 k v').1 (hin v' hg2)
      rw [hg] at this; cases this
end Go.Proofs.YteigfmchnblkgaaGreatDoor.Hand

/- What impl.LabelsBoth answers, by the lists of spec.Keyed. No program in sight. -/
namespace Go.Proofs.YteigfmchnblkgaaGreatDoor.Hand
open Go.RowKit Go.Maps Go.Proofs.YteigfmchnblkgaaGreatDoorW.PrintWords Go.Proofs.YteigfmchnblkgaaGreatDoorW.PrintLast Go.Proofs.YteigfmchnblkgaaGreatDoorW.PrintMore Go.Proofs.YteigfmchnblkgaaGreatDoor.Base
open Go.Sort (ltStr)
set_option linter.unusedVariables false
set_option linter.unusedSimpArgs false
theorem nodup_len : ∀ {l1 l2 : List L}, l1.Nodup → (∀ x ∈ l1, x ∈ l2) → l1.length ≤ l2.length
  | [], l2, _, _ => Nat.zero_le _
  | a :: l1, l2, hn, hs => by
    obtain ⟨h1, h2⟩ := List.nodup_cons.1 hn
    have ha := hs a List.mem_cons_self
    have := nodup_len (l2 := l2.erase a) h2 fun x hx => (List.mem_erase_of_ne (fun e => h1 (by rw [← e]; exact hx))).2 (hs x (List.mem_cons_of_mem _ hx))
    rw [List.length_erase_of_mem ha] at this
    have := List.length_pos_of_mem ha
    rw [List.length_cons]; omega
theorem nodup_sub : ∀ {l1 l2 : List L}, l1.Nodup → (∀ x ∈ l1, x ∈ l2) → l2.length ≤ l1.length → ∀ x ∈ l2, x ∈ l1
  | [], l2, _, _, hl, x, hx => by have := List.length_pos_of_mem hx; rw [List.length_nil] at hl; omega
  | a :: l1, l2, hn, hs, hl, x, hx => by
    obtain ⟨h1, h2⟩ := List.nodup_cons.1 hn
    have ha := hs a List.mem_cons_self
    by_cases e : x = a
    · rw [e]; exact List.mem_cons_self
    · refine List.mem_cons_of_mem _ (nodup_sub (l2 := l2.erase a) h2 (fun y hy => (List.mem_erase_of_ne (fun e => h1 (by rw [← e]; exact hy))).2 (hs y (List.mem_cons_of_mem _ hy))) ?_ x ((List.mem_erase_of_ne e).2 hx))
      rw [List.length_erase_of_mem ha]; rw [List.length_cons] at hl; omega
theorem conf_key (a : List LP) (mb : List LP) : conflictM a.reverse mb = (keyL a).any fun p => cfV p.2 (mget mb p.1) := by
  obtain ⟨_, hm⟩ := keyL_mem a
  rw [Bool.eq_iff_iff]
  unfold conflictM
  rw [List.any_eq_true, List.any_eq_true]
  constructor
  · rintro ⟨k, hk, hc⟩
    obtain ⟨v, hv⟩ := dk_mem.1 hk
    exact ⟨(k, v), (hm k v).2 hv, by rw [cf_some hv] at hc; exact hc⟩
  · rintro ⟨⟨k, v⟩, hp, hc⟩
    have hv := (hm k v).1 hp
    exact ⟨k, dk_mem.2 ⟨v, hv⟩, by rw [cf_some hv]; exact hc⟩
theorem all_key (a : List LP) (mb : List LP) : (dk a.reverse).all (sameM a.reverse mb) = (keyL a).all fun p => mget mb p.1 == some p.2 := by
  obtain ⟨_, hm⟩ := keyL_mem a
  rw [Bool.eq_iff_iff, List.all_eq_true, List.all_eq_true]
  constructor
  · rintro h ⟨k, v⟩ hp
    have hv := (hm k v).1 hp
    have := h k (dk_mem.2 ⟨v, hv⟩)
    unfold sameM at this
    rw [hv] at this; exact this
  · intro h k hk
    obtain ⟨v, hv⟩ := dk_mem.1 hk
    have := h (k, v) ((hm k v).2 hv)
    unfold sameM
    rw [hv]; exact this
theorem eq_key (a b : List LP) : (decide ((dk a.reverse).length = (dk b.reverse).length) && (dk a.reverse).all (sameM a.reverse b.reverse)) = decide (keyL a = keyL b) := by
  obtain ⟨s1, m1⟩ := keyL_mem a
  obtain ⟨s2, m2⟩ := keyL_mem b
  rw [Bool.eq_iff_iff, Bool.and_eq_true, decide_eq_true_eq, decide_eq_true_eq, List.all_eq_true]
  constructor
  · rintro ⟨hl, h⟩
    have hg : ∀ k, k ∈ dk a.reverse → mget b.reverse k = mget a.reverse k := fun k hk => by
      have := h k hk
      unfold sameM at this
      exact beq_iff_eq.1 this
    have hsub : ∀ k ∈ dk a.reverse, k ∈ dk b.reverse := fun k hk => by
      obtain ⟨v, hv⟩ := dk_mem.1 hk
      exact dk_mem.2 ⟨v, by rw [hg k hk]; exact hv⟩
    have hsup := nodup_sub (dk_nodup _) hsub (by omega)
    refine sk_ext s1 s2 fun q => ?_
    obtain ⟨k, v⟩ := q
    rw [m1, m2]
    constructor
    · intro hv; rw [hg k (dk_mem.2 ⟨v, hv⟩)]; exact hv
    · intro hv; rw [← hg k (hsup k (dk_mem.2 ⟨v, hv⟩))]; exact hv
  · intro e
    have hg : ∀ k, mget b.reverse k = mget a.reverse k := fun k => by rw [← mget_keyL b, ← mget_keyL a, e]
    refine ⟨Nat.le_antisymm (nodup_len (dk_nodup _) fun k hk => ?_) (nodup_len (dk_nodup _) fun k hk => ?_), fun k hk => ?_⟩
    · obtain ⟨v, hv⟩ := dk_mem.1 hk
      exact dk_mem.2 ⟨v, by rw [hg]; exact hv⟩
    · obtain ⟨v, hv⟩ := dk_mem.1 hk
      exact dk_mem.2 ⟨v, by rw [← hg]; exact hv⟩
    · unfold sameM
      rw [hg]; exact beq_self_eq_true _
theorem none_key (b : List LP) : decide ((dk b.reverse).length = 0) = decide ((keyL b).length = 0) := by
  obtain ⟨_, hm⟩ := keyL_mem b
  rw [decide_eq_decide, List.length_eq_zero_iff, List.length_eq_zero_iff]
  constructor
  · intro h
    cases hk : keyL b with
    | nil => rfl
    | cons p r =>
      have := (hm p.1 p.2).1 (by rw [hk]; exact List.mem_cons_self)
      have := dk_mem.2 ⟨_, this⟩
      rw [h] at this; cases this
  · intro h
    cases hk : dk b.reverse with
    | nil => rfl
    | cons k r =>
      obtain ⟨v, hv⟩ := dk_mem.1 (show k ∈ dk b.reverse by rw [hk]; exact List.mem_cons_self)
      have := (hm k v).2 hv
      rw [h] at this; cases this
/-- labRev over texts of bytes, and over lists of bytes. -/
theorem labRev_un (ls : List (ByteArray × ByteArray)) : labRev ls = (ls.map unP).reverse := rfl
theorem labRev_key (ls : List (ByteArray × ByteArray)) (k : L) : mget (labRev ((keyL (ls.map unP)).map mkP)) k = mget (labRev ls) k := by
  rw [labRev_un, labRev_un, List.map_map, show (unP ∘ mkP) = id from by funext p; obtain ⟨x, y⟩ := p; simp [mk], List.map_id, mget_keyL]
end Go.Proofs.YteigfmchnblkgaaGreatDoor.Hand

/- Two sets of labels: Conflicts, Equals, AreLabelsInWhiteList. (Printed by labops.py.) -/
import Derived.Test.YthfjolafikgpoaaGreatDoorLRM14
import Derived.Test.YthfjolafikgpoaaGreatDoorLRGSetA
import Derived.Laws.StructEq
namespace Go.Proofs.YthfjolafikgpoaaGreatDoor.Hand
open Go.RowKit Go.Maps Go.Proofs.YthfjolafikgpoaaGreatDoorW.PrintWords Go.Proofs.YthfjolafikgpoaaGreatDoorW.PrintLast Go.Proofs.YthfjolafikgpoaaGreatDoorW.PrintMore Go.Proofs.YthfjolafikgpoaaGreatDoor.Base
set_option linter.unusedVariables false
set_option linter.unusedSimpArgs false
set_option maxRecDepth 100000
section
variable (w : World) {ops : Array Oper} {rest : List Oper} {o : Oper} {a : Act} {Q : Exit → Act → World → Prop}
theorem look_lab (T : TypeId) (hT : Tryz.prog.underlying T = some (.map 9 9)) (hg : o.guard = none) (m x : Operand) (hop : o.op = Op.lookup T m x true) (b N : Nat) (ks : List (L × L)) (hm : a.eval m = .map (some b)) (h : IsLz w b N ks) (key : ByteArray) (hk : key.size ≤ 140737488351232) (hx : a.eval x = .string key)
    (hK : wpList Tryz.prog ops Q rest (a.put o.dst (.tuple #[.string (mk ((mget ks key.data.toList).getD [])), .bool (mget ks key.data.toList).isSome])) w) :
    wpList Tryz.prog ops Q (o :: rest) a w := by
  obtain ⟨D, hown, hmp, hh, ha, hs⟩ := h
  refine wpList_lookup_own_ok w hg m x T hop 9 9 lawLs hT (plainElem Tryz.prog 9) (zeroLs _) (.lit (.string [])) [] (plainElem_string Tryz.underlying9 (by unfold maxLen; decide)) b N D hm hown _ _ hx (keyLs key hk) ?_
  intro v ps hv
  obtain ⟨s, rfl, hc, _⟩ := plainElem_string_inv Tryz.underlying9 hv
  simp only [Prod.mk.injEq] at hc
  have h1 := hc.1
  rw [ha] at h1
  simp only [DataW.lit.injEq, Lit.string.injEq] at h1
  have e : s = mk ((mget ks key.data.toList).getD []) := by apply ByteArray.ext; rw [h1]; simp [mk]
  rw [hh, e]
  exact hK
theorem len_lab (m : Operand) (T : TypeId) (hT : Tryz.prog.underlying T = some (.map 9 9)) (hg : o.guard = none) (hop : o.op = .call { callee := .builtin .len, args := #[m], argTypes := #[T] }) (b N : Nat) (ks : List (L × L)) (hm : a.eval m = .map (some b)) (h : IsLz w b N ks)
    (hK : wpList Tryz.prog ops Q rest (a.put o.dst (.int .i64 ((dk ks).length : Nat))) w) :
    wpList Tryz.prog ops Q (o :: rest) a w := by
  obtain ⟨D, hown, hmp, hh, ha, hs⟩ := h
  refine wpList_len_own w hg m T hop 9 9 hT _ b N D hm hown ?_
  rw [hs]; exact hK
end
theorem any_step {ks : List L} {x : L} (hn : ks.Nodup) (hx : x ∈ ks) (f : L → Bool) : ks.any f = (f x || (delK ks x).any f) := by
  have h := all_step hn hx fun y => !f y
  have h1 : ∀ l : List L, (l.all fun y => !f y) = !l.any f := fun l => by
    induction l with
    | nil => rfl
    | cons a l ih => rw [List.all_cons, List.any_cons, ih, Bool.not_or]
  rw [h1, h1] at h
  have := congrArg (fun b => !b) h
  simpa using this
/-- Key by key: a label of both sets has two values. -/
def cfM (m1 m2 : List (L × L)) (k : L) : Bool := match mget m1 k, mget m2 k with | some a, some b => !(a == b) | _, _ => false
def conflictM (m1 m2 : List (L × L)) : Bool := (dk m1).any (cfM m1 m2)
def sameM (m1 m2 : List (L × L)) (k : L) : Bool := mget m2 k == mget m1 k
theorem cfM_comm (m1 m2 : List (L × L)) (k : L) : cfM m1 m2 k = cfM m2 m1 k := by
  unfold cfM
  cases mget m1 k with
  | none => cases mget m2 k <;> rfl
  | some a => cases mget m2 k with
    | none => rfl
    | some b => show (!(a == b)) = !(b == a); rw [BEq.comm]
theorem conflict_comm (m1 m2 : List (L × L)) : conflictM m1 m2 = conflictM m2 m1 := by
  unfold conflictM
  rw [Bool.eq_iff_iff, List.any_eq_true, List.any_eq_true]
  constructor
  · rintro ⟨k, hk, h⟩
    have h2 : (mget m2 k).isSome = true := by
      unfold cfM at h
      cases e1 : mget m1 k with
      | none => rw [e1] at h; cases h
      | some a => cases e2 : mget m2 k with
        | none => rw [e1, e2] at h; cases h
        | some b => rfl
    exact ⟨k, List.contains_iff_mem.1 (by rw [dk_contains]; exact h2), by rw [cfM_comm]; exact h⟩
  · rintro ⟨k, hk, h⟩
    have h2 : (mget m1 k).isSome = true := by
      unfold cfM at h
      cases e1 : mget m2 k with
      | none => rw [e1] at h; cases h
      | some a => cases e2 : mget m1 k with
        | none => rw [e1, e2] at h; cases h
        | some b => rfl
    exact ⟨k, List.contains_iff_mem.1 (by rw [dk_contains]; exact h2), by rw [cfM_comm]; exact h⟩
theorem mk_data (s : ByteArray) : mk s.data.toList = s := (mk_of s).symm
set_option maxHeartbeats 8000000 in
theorem Equals_calls (b1 N1 : Nat) (m1 : List (L × L)) (b2 N2 : Nat) (m2 : List (L × L)) (hz : ∀ k ∈ dk m1, k.length ≤ 140737488351232) (w : World) (h1 : IsLz w b1 N1 m1) (h2 : IsLz w b2 N2 m2) :
    Calls Tryz.prog 73 #[.map (some b1), .map (some b2)] w fun e w' => e = .returned (.bool (decide ((dk m1).length = (dk m2).length) && (dk m1).all (sameM m1 m2))) ∧ Below w.heap.size w w' := by
  have HB := Aside0.mk (Below.refl w.heap.size w)
  have HS1 := Aside0.mk h1
  have HS2 := Aside0.mk h2
  have HZ := Aside0.mk hz
  clear h1 h2 hz
  by_cases hl : (dk m1).length = (dk m2).length
  rotate_left
  · have HN : Aside0 (decide ((dk m1).length = (dk m2).length) = false) := ⟨decide_eq_false hl⟩
    have e1 : ((((dk m1).length : Nat) : Int) == (((dk m2).length : Nat) : Int)) = false := by simpa using fun h => hl (by omega)
    have e2 : ((((dk m1).length : Nat) : Int) != (((dk m2).length : Nat) : Int)) = true := by rw [bne, e1]; rfl
    obtain ⟨n1, hn1⟩ : ∃ n1, (dk m1).length = n1 := ⟨_, rfl⟩
    obtain ⟨n2, hn2⟩ : ∃ n2, (dk m2).length = n2 := ⟨_, rfl⟩
    have HN1 := Aside0.mk hn1
    have HN2 := Aside0.mk hn2
    rw [hn1, hn2] at e1 e2
    clear hl hn1 hn2
    go_enter Tryz.func73, Tryz.ntmps73
    go_wp2_with (first | (at_len; refine len_lab _ (.tmp 9) 96 Tryz.underlying96 rfl rfl b1 N1 m1 rfl HS1.out ?_; rw [HN1.out]) | (at_len; refine len_lab _ (.tmp 11) 96 Tryz.underlying96 rfl rfl b2 N2 m2 rfl HS2.out ?_; rw [HN2.out]))
    go_ret
    exact ⟨by rw [HN.out]; rfl, HB.out⟩
  have HLN : Aside0 (decide ((dk m1).length = (dk m2).length) = true) := ⟨decide_eq_true hl⟩
  obtain ⟨n1, hn1⟩ : ∃ n1, (dk m1).length = n1 := ⟨_, rfl⟩
  have HN1 := Aside0.mk hn1
  have HN2 := Aside0.mk (hl.symm.trans hn1)
  have e1 : (((n1 : Nat) : Int) == ((n1 : Nat) : Int)) = true := by simp
  have e2 : (((n1 : Nat) : Int) != ((n1 : Nat) : Int)) = false := by simp
  clear hl hn1
  go_enter Tryz.func73, Tryz.ntmps73
  go_wp2_with (first | (at_len; refine len_lab _ (.tmp 9) 96 Tryz.underlying96 rfl rfl b1 N1 m1 rfl HS1.out ?_; rw [HN1.out]) | (at_len; refine len_lab _ (.tmp 11) 96 Tryz.underlying96 rfl rfl b2 N2 m2 rfl HS2.out ?_; rw [HN2.out]) | (at_range; refine range_lab _ 96 Tryz.underlying96 rfl _ rfl b1 N1 m1 rfl HS1.out ?_; intro w2 hrg hg hs2; have HRG := Aside0.mk hrg; have HB2 := Aside0.mk (pw_below_grown HB.out none (below_size HB.out) hg (fun j hj => by cases hj)); clear hrg hg HB; have HB := HB2; clear HB2))
  go_frame
  go_loopg [5] ((dk m1).length) (fun g v5 w' => ∃ (left : List L), Aside0 (LzR w' b1 w.heap.size N1 g m1 left ∧ left.Nodup ∧ ∀ x ∈ left, x ∈ dk m1) ∧ Aside0 ((dk m1).all (sameM m1 m2) = left.all (sameM m1 m2)) ∧ Aside0 (Below w.heap.size w w'))
  case atStart => exact ⟨dk m1, ⟨HRG.out, dk_nodup m1, fun x h => h⟩, ⟨rfl⟩, HB⟩
  case round =>
    clear HRG HB
    obtain ⟨left, HRG, HA, HB⟩ := hrel
    go_wp2_with (first | (at_next; refine next_lab _ rfl _ rfl b1 w.heap.size N1 gk m1 left rfl HRG.out.1 ?_ ?_))
    · intro h0 hl0
      have HN : Aside0 ((dk m1).all (sameM m1 m2) = true) := ⟨by rw [HA.out, hl0]; rfl⟩
      clear hl0 h0 HA
      go_wp2
      go_ret
      exact ⟨by rw [HLN.out, HN.out]; rfl, HB.out⟩
    · intro s v w3 cnt hs hv hrg hlt hg hsz hen
      have HB3 := Aside0.mk (pw_below_grown HB.out _ (below_size HB.out) hg (fun k hk => by cases hk; exact Nat.le_refl _))
      have HRG3 := Aside0.mk (And.intro hrg (And.intro (delK_nodup HRG.out.2.1 s.data.toList) (fun x (hx : x ∈ delK left s.data.toList) => HRG.out.2.2 x (delK_sub hx))))
      have HST := Aside0.mk (all_step HRG.out.2.1 hs (sameM m1 m2))
      have HS23 : Aside0 (IsLz w3 b2 N2 m2) := ⟨HS2.out.below HB3.out⟩
      have hss : s.size ≤ 140737488351232 := by
        have := HZ.out _ (HRG.out.2.2 _ hs); rw [Lib.size_eq]; exact this
      have HLT := Aside0.mk hlt
      obtain ⟨g2, hg2⟩ : ∃ g2, mget m2 s.data.toList = g2 := ⟨_, rfl⟩
      have hq : sameM m1 m2 s.data.toList = (g2 == some v.data.toList) := by unfold sameM; rw [hv, hg2]
      rw [hq] at HST
      have HG2 := Aside0.mk hg2
      clear HB HRG hs hrg hlt hg hsz hq hv hg2
      cases g2 with
      | none =>
        have HN : Aside0 ((dk m1).all (sameM m1 m2) = false) := ⟨by rw [HA.out, HST.out]; rfl⟩
        clear HST HA
        go_wp2_with (first | (at_lookup; refine look_lab _ 96 Tryz.underlying96 rfl _ _ rfl b2 N2 m2 rfl HS23.out s hss rfl ?_; rw [HG2.out]))
        go_ret
        exact ⟨by rw [HLN.out, HN.out]; rfl, HB3.out⟩
      | some u =>
        by_cases huv : u = v.data.toList
        · have HN : Aside0 ((dk m1).all (sameM m1 m2) = (delK left s.data.toList).all (sameM m1 m2)) := ⟨by rw [HA.out, HST.out, huv]; simp⟩
          have e1 : (mk u) = v := by rw [huv, mk_data]
          have HE := Aside0.mk e1
          clear HST HA huv e1
          go_wp2_with (first | (at_lookup; refine look_lab _ 96 Tryz.underlying96 rfl _ _ rfl b2 N2 m2 rfl HS23.out s hss rfl ?_; rw [HG2.out, Option.getD_some, HE.out]))
          go_roundg cnt
          case measure => exact HLT.out
          case rel => exact ⟨_, HRG3, HN, HB3⟩
        · have HN : Aside0 ((dk m1).all (sameM m1 m2) = false) := ⟨by rw [HA.out, HST.out, show ((some u : Option L) == some v.data.toList) = false from by simpa using huv]; rfl⟩
          have e1 : ((mk u).toList == v.toList) = false := by rw [mk_toList, toList_eq]; simpa using huv
          have e2 : ((mk u).toList != v.toList) = true := by rw [bne, e1]; rfl
          clear HST HA huv
          obtain ⟨uu, huu⟩ : ∃ uu, mk u = uu := ⟨_, rfl⟩
          have HU := Aside0.mk huu
          rw [huu] at e1 e2
          clear huu
          go_wp2_with (first | (at_lookup; refine look_lab _ 96 Tryz.underlying96 rfl _ _ rfl b2 N2 m2 rfl HS23.out s hss rfl ?_; rw [HG2.out, Option.getD_some, HU.out]))
          go_ret
          exact ⟨by rw [HLN.out, HN.out]; rfl, HB3.out⟩
set_option maxHeartbeats 8000000 in
theorem White_calls (b1 N1 : Nat) (m1 : List (L × L)) (b2 N2 : Nat) (m2 : List (L × L)) (hz : ∀ k ∈ dk m1, k.length ≤ 140737488351232) (w : World) (h1 : IsLz w b1 N1 m1) (h2 : IsLz w b2 N2 m2) :
    Calls Tryz.prog 74 #[.map (some b1), .map (some b2)] w fun e w' => e = .returned (.bool (decide ((dk m2).length = 0) || (dk m1).all (sameM m1 m2))) ∧ Below w.heap.size w w' := by
  have HB := Aside0.mk (Below.refl w.heap.size w)
  have HS1 := Aside0.mk h1
  have HS2 := Aside0.mk h2
  have HZ := Aside0.mk hz
  clear h1 h2 hz
  by_cases hl : (dk m2).length = 0
  · have HN : Aside0 (decide ((dk m2).length = 0) = true) := ⟨decide_eq_true hl⟩
    have HN2 := Aside0.mk hl
    clear hl
    go_enter Tryz.func74, Tryz.ntmps74
    go_wp2_with (first | (at_len; refine len_lab _ (.tmp 9) 96 Tryz.underlying96 rfl rfl b2 N2 m2 rfl HS2.out ?_; rw [HN2.out]))
    go_ret
    exact ⟨by rw [HN.out]; rfl, HB.out⟩
  have HLN : Aside0 (decide ((dk m2).length = 0) = false) := ⟨decide_eq_false hl⟩
  obtain ⟨n2, hn2⟩ : ∃ n2, (dk m2).length = n2 := ⟨_, rfl⟩
  have HN2 := Aside0.mk hn2
  have e1 : (((n2 : Nat) : Int) == 0) = false := by simpa using fun h => hl (by omega)
  clear hl hn2
  go_enter Tryz.func74, Tryz.ntmps74
  go_wp2_with (first | (at_len; refine len_lab _ (.tmp 9) 96 Tryz.underlying96 rfl rfl b2 N2 m2 rfl HS2.out ?_; rw [HN2.out]) | (at_range; refine range_lab _ 96 Tryz.underlying96 rfl _ rfl b1 N1 m1 rfl HS1.out ?_; intro w2 hrg hg hs2; have HRG := Aside0.mk hrg; have HB2 := Aside0.mk (pw_below_grown HB.out none (below_size HB.out) hg (fun j hj => by cases hj)); clear hrg hg HB; have HB := HB2; clear HB2))
  go_frame
  go_loopg [5] ((dk m1).length) (fun g v5 w' => ∃ (left : List L), Aside0 (LzR w' b1 w.heap.size N1 g m1 left ∧ left.Nodup ∧ ∀ x ∈ left, x ∈ dk m1) ∧ Aside0 ((dk m1).all (sameM m1 m2) = left.all (sameM m1 m2)) ∧ Aside0 (Below w.heap.size w w'))
  case atStart => exact ⟨dk m1, ⟨HRG.out, dk_nodup m1, fun x h => h⟩, ⟨rfl⟩, HB⟩
  case round =>
    clear HRG HB
    obtain ⟨left, HRG, HA, HB⟩ := hrel
    go_wp2_with (first | (at_next; refine next_lab _ rfl _ rfl b1 w.heap.size N1 gk m1 left rfl HRG.out.1 ?_ ?_))
    · intro h0 hl0
      have HN : Aside0 ((dk m1).all (sameM m1 m2) = true) := ⟨by rw [HA.out, hl0]; rfl⟩
      clear hl0 h0 HA
      go_wp2
      go_ret
      exact ⟨by rw [HLN.out, HN.out]; rfl, HB.out⟩
    · intro s v w3 cnt hs hv hrg hlt hg hsz hen
      have HB3 := Aside0.mk (pw_below_grown HB.out _ (below_size HB.out) hg (fun k hk => by cases hk; exact Nat.le_refl _))
      have HRG3 := Aside0.mk (And.intro hrg (And.intro (delK_nodup HRG.out.2.1 s.data.toList) (fun x (hx : x ∈ delK left s.data.toList) => HRG.out.2.2 x (delK_sub hx))))
      have HST := Aside0.mk (all_step HRG.out.2.1 hs (sameM m1 m2))
      have HS23 : Aside0 (IsLz w3 b2 N2 m2) := ⟨HS2.out.below HB3.out⟩
      have hss : s.size ≤ 140737488351232 := by
        have := HZ.out _ (HRG.out.2.2 _ hs); rw [Lib.size_eq]; exact this
      have HLT := Aside0.mk hlt
      obtain ⟨g2, hg2⟩ : ∃ g2, mget m2 s.data.toList = g2 := ⟨_, rfl⟩
      have hq : sameM m1 m2 s.data.toList = (g2 == some v.data.toList) := by unfold sameM; rw [hv, hg2]
      rw [hq] at HST
      have HG2 := Aside0.mk hg2
      clear HB HRG hs hrg hlt hg hsz hq hv hg2
      cases g2 with
      | none =>
        have HN : Aside0 ((dk m1).all (sameM m1 m2) = false) := ⟨by rw [HA.out, HST.out]; rfl⟩
        clear HST HA
        go_wp2_with (first | (at_lookup; refine look_lab _ 96 Tryz.underlying96 rfl _ _ rfl b2 N2 m2 rfl HS23.out s hss rfl ?_; rw [HG2.out]))
        go_ret
        exact ⟨by rw [HLN.out, HN.out]; rfl, HB3.out⟩
      | some u =>
        by_cases huv : u = v.data.toList
        · have HN : Aside0 ((dk m1).all (sameM m1 m2) = (delK left s.data.toList).all (sameM m1 m2)) := ⟨by rw [HA.out, HST.out, huv]; simp⟩
          have e1 : (mk u) = v := by rw [huv, mk_data]
          have HE := Aside0.mk e1
          clear HST HA huv e1
          go_wp2_with (first | (at_lookup; refine look_lab _ 96 Tryz.underlying96 rfl _ _ rfl b2 N2 m2 rfl HS23.out s hss rfl ?_; rw [HG2.out, Option.getD_some, HE.out]))
          go_roundg cnt
          case measure => exact HLT.out
          case rel => exact ⟨_, HRG3, HN, HB3⟩
        · have HN : Aside0 ((dk m1).all (sameM m1 m2) = false) := ⟨by rw [HA.out, HST.out, show ((some u : Option L) == some v.data.toList) = false from by simpa using huv]; rfl⟩
          have e1 : ((mk u).toList == v.toList) = false := by rw [mk_toList, toList_eq]; simpa using huv
          have e2 : ((mk u).toList != v.toList) = true := by rw [bne, e1]; rfl
          clear HST HA huv
          obtain ⟨uu, huu⟩ : ∃ uu, mk u = uu := ⟨_, rfl⟩
          have HU := Aside0.mk huu
          rw [huu] at e1 e2
          clear huu
          go_wp2_with (first | (at_lookup; refine look_lab _ 96 Tryz.underlying96 rfl _ _ rfl b2 N2 m2 rfl HS23.out s hss rfl ?_; rw [HG2.out, Option.getD_some, HU.out]))
          go_ret
          exact ⟨by rw [HLN.out, HN.out]; rfl, HB3.out⟩
end Go.Proofs.YthfjolafikgpoaaGreatDoor.Hand

/- Conflicts. (Printed by labops.py.) -/
namespace Go.Proofs.YthfjolafikgpoaaGreatDoor.Hand
open Go.RowKit Go.Maps Go.Proofs.YthfjolafikgpoaaGreatDoorW.PrintWords Go.Proofs.YthfjolafikgpoaaGreatDoorW.PrintLast Go.Proofs.YthfjolafikgpoaaGreatDoorW.PrintMore Go.Proofs.YthfjolafikgpoaaGreatDoor.Base
set_option linter.unusedVariables false
set_option linter.unusedSimpArgs false
set_option maxRecDepth 100000
def cfV (v : L) (g : Option L) : Bool := match g with | some b => !(v == b) | none => false
theorem cf_some {m1 m2 : List (L × L)} {k v : L} (h : mget m1 k = some v) : cfM m1 m2 k = cfV v (mget m2 k) := by
  unfold cfM cfV
  rw [h]
  cases mget m2 k <;> rfl
set_option maxHeartbeats 8000000 in
theorem Conflicts_calls (b1 N1 : Nat) (m1 : List (L × L)) (b2 N2 : Nat) (m2 : List (L × L)) (hz1 : ∀ k ∈ dk m1, k.length ≤ 140737488351232) (hz2 : ∀ k ∈ dk m2, k.length ≤ 140737488351232) (w : World) (h1 : IsLz w b1 N1 m1) (h2 : IsLz w b2 N2 m2) :
    Calls Tryz.prog 72 #[.map (some b1), .map (some b2)] w fun e w' => e = .returned (.bool (conflictM m1 m2)) ∧ Below w.heap.size w w' := by
  have HB := Aside0.mk (Below.refl w.heap.size w)
  have HS1 := Aside0.mk h1
  have HS2 := Aside0.mk h2
  have HZ1 := Aside0.mk hz1
  have HZ2 := Aside0.mk hz2
  clear h1 h2 hz1 hz2
  obtain ⟨n1, hn1⟩ : ∃ n1, (dk m1).length = n1 := ⟨_, rfl⟩
  obtain ⟨n2, hn2⟩ : ∃ n2, (dk m2).length = n2 := ⟨_, rfl⟩
  have HN1 := Aside0.mk hn1
  have HN2 := Aside0.mk hn2
  clear hn1 hn2
  have HU1 : Aside0 (conflictM m1 m2 = (dk m1).any (cfM m1 m2)) := ⟨rfl⟩
  have HU2 : Aside0 (conflictM m1 m2 = (dk m2).any (cfM m2 m1)) := ⟨conflict_comm m1 m2⟩
  obtain ⟨res, hres⟩ : ∃ res, conflictM m1 m2 = res := ⟨_, rfl⟩
  rw [hres] at HU1 HU2 ⊢
  clear hres
  by_cases hl : n2 < n1
  · have c0 : decide ((n2 : Int) < (n1 : Int)) = true := decide_eq_true (by omega)
    have c1 : decide (n2 < n1) = true := decide_eq_true hl
    go_enter Tryz.func72, Tryz.ntmps72
    go_wp2_with (first | (at_len; refine len_lab _ (.tmp 13) 96 Tryz.underlying96 rfl rfl b2 N2 m2 rfl HS2.out ?_; rw [HN2.out]) | (at_len; refine len_lab _ (.tmp 15) 96 Tryz.underlying96 rfl rfl b1 N1 m1 rfl HS1.out ?_; rw [HN1.out]) | (at_range; refine range_lab _ 96 Tryz.underlying96 rfl _ rfl b2 N2 m2 rfl HS2.out ?_; intro w2 hrg hg hs2; have HRG := Aside0.mk hrg; have HB2 := Aside0.mk (pw_below_grown HB.out none (below_size HB.out) hg (fun j hj => by cases hj)); clear hrg hg HB; have HB := HB2; clear HB2))
    go_frame
    go_loopg [4] ((dk m2).length) (fun g v4 w' => ∃ (left : List L), Aside0 (LzR w' b2 w.heap.size N2 g m2 left ∧ left.Nodup ∧ ∀ x ∈ left, x ∈ dk m2) ∧ Aside0 ((dk m2).any (cfM m2 m1) = left.any (cfM m2 m1)) ∧ Aside0 (Below w.heap.size w w'))
    case atStart => exact ⟨dk m2, ⟨HRG.out, dk_nodup m2, fun x h => h⟩, ⟨rfl⟩, HB⟩
    case round =>
      clear HRG HB
      obtain ⟨left, HRG, HA, HB⟩ := hrel
      go_wp2_with (first | (at_next; refine next_lab _ rfl _ rfl b2 w.heap.size N2 gk m2 left rfl HRG.out.1 ?_ ?_))
      · intro h0 hl0
        have HN : Aside0 ((dk m2).any (cfM m2 m1) = false) := ⟨by rw [HA.out, hl0]; rfl⟩
        clear hl0 h0 HA
        go_wp2
        go_ret
        exact ⟨by rw [HU2.out, HN.out]; rfl, HB.out⟩
      · intro s v w3 cnt hs hv hrg hlt hg hsz hen
        have HB3 := Aside0.mk (pw_below_grown HB.out _ (below_size HB.out) hg (fun k hk => by cases hk; exact Nat.le_refl _))
        have HRG3 := Aside0.mk (And.intro hrg (And.intro (delK_nodup HRG.out.2.1 s.data.toList) (fun x (hx : x ∈ delK left s.data.toList) => HRG.out.2.2 x (delK_sub hx))))
        have HST := Aside0.mk (any_step HRG.out.2.1 hs (cfM m2 m1))
        have HS23 : Aside0 (IsLz w3 b1 N1 m1) := ⟨HS1.out.below HB3.out⟩
        have hss : s.size ≤ 140737488351232 := by
          have := HZ2.out _ (HRG.out.2.2 _ hs); rw [Lib.size_eq]; exact this
        have HLT := Aside0.mk hlt
        obtain ⟨g2, hg2⟩ : ∃ g2, mget m1 s.data.toList = g2 := ⟨_, rfl⟩
        have hq : cfM m2 m1 s.data.toList = cfV v.data.toList g2 := by rw [← hg2]; exact cf_some hv
        rw [hq] at HST
        have HG2 := Aside0.mk hg2
        clear HB HRG hs hrg hlt hg hsz hq hv hg2
        cases g2 with
        | none =>
          have HN : Aside0 ((dk m2).any (cfM m2 m1) = (delK left s.data.toList).any (cfM m2 m1)) := ⟨by rw [HA.out, HST.out]; rfl⟩
          clear HST HA
          go_wp2_with (first | (at_lookup; refine look_lab _ 96 Tryz.underlying96 rfl _ _ rfl b1 N1 m1 rfl HS23.out s hss rfl ?_; rw [HG2.out]))
          go_roundg cnt
          case measure => exact HLT.out
          case rel => exact ⟨_, HRG3, HN, HB3⟩
        | some u =>
          by_cases huv : u = v.data.toList
          · have HN : Aside0 ((dk m2).any (cfM m2 m1) = (delK left s.data.toList).any (cfM m2 m1)) := ⟨by rw [HA.out, HST.out, huv]; simp [cfV]⟩
            have e1 : (mk u) = v := by rw [huv, mk_data]
            have HE := Aside0.mk e1
            clear HST HA huv e1
            go_wp2_with (first | (at_lookup; refine look_lab _ 96 Tryz.underlying96 rfl _ _ rfl b1 N1 m1 rfl HS23.out s hss rfl ?_; rw [HG2.out, Option.getD_some, HE.out]))
            go_roundg cnt
            case measure => exact HLT.out
            case rel => exact ⟨_, HRG3, HN, HB3⟩
          · have HN : Aside0 ((dk m2).any (cfM m2 m1) = true) := ⟨by rw [HA.out, HST.out]; show ((!(v.data.toList == u)) || _) = true; rw [show (v.data.toList == u) = false from by simpa using fun h => huv h.symm]; rfl⟩
            have e1 : ((mk u).toList == v.toList) = false := by rw [mk_toList, toList_eq]; simpa using huv
            have e2 : ((mk u).toList != v.toList) = true := by rw [bne, e1]; rfl
            clear HST HA huv
            obtain ⟨uu, huu⟩ : ∃ uu, mk u = uu := ⟨_, rfl⟩
            have HU := Aside0.mk huu
            rw [huu] at e1 e2
            clear huu
            go_wp2_with (first | (at_lookup; refine look_lab _ 96 Tryz.underlying96 rfl _ _ rfl b1 N1 m1 rfl HS23.out s hss rfl ?_; rw [HG2.out, Option.getD_some, HU.out]))
            go_ret
            exact ⟨by rw [HU2.out, HN.out]; rfl, HB3.out⟩
  · have c0 : decide ((n2 : Int) < (n1 : Int)) = false := decide_eq_false (by omega)
    have c1 : decide (n2 < n1) = false := decide_eq_false hl
    go_enter Tryz.func72, Tryz.ntmps72
    go_wp2_with (first | (at_len; refine len_lab _ (.tmp 13) 96 Tryz.underlying96 rfl rfl b2 N2 m2 rfl HS2.out ?_; rw [HN2.out]) | (at_len; refine len_lab _ (.tmp 15) 96 Tryz.underlying96 rfl rfl b1 N1 m1 rfl HS1.out ?_; rw [HN1.out]) | (at_range; refine range_lab _ 96 Tryz.underlying96 rfl _ rfl b1 N1 m1 rfl HS1.out ?_; intro w2 hrg hg hs2; have HRG := Aside0.mk hrg; have HB2 := Aside0.mk (pw_below_grown HB.out none (below_size HB.out) hg (fun j hj => by cases hj)); clear hrg hg HB; have HB := HB2; clear HB2))
    go_frame
    go_loopg [4] ((dk m1).length) (fun g v4 w' => ∃ (left : List L), Aside0 (LzR w' b1 w.heap.size N1 g m1 left ∧ left.Nodup ∧ ∀ x ∈ left, x ∈ dk m1) ∧ Aside0 ((dk m1).any (cfM m1 m2) = left.any (cfM m1 m2)) ∧ Aside0 (Below w.heap.size w w'))
    case atStart => exact ⟨dk m1, ⟨HRG.out, dk_nodup m1, fun x h => h⟩, ⟨rfl⟩, HB⟩
    case round =>
      clear HRG HB
      obtain ⟨left, HRG, HA, HB⟩ := hrel
      go_wp2_with (first | (at_next; refine next_lab _ rfl _ rfl b1 w.heap.size N1 gk m1 left rfl HRG.out.1 ?_ ?_))
      · intro h0 hl0
        have HN : Aside0 ((dk m1).any (cfM m1 m2) = false) := ⟨by rw [HA.out, hl0]; rfl⟩
        clear hl0 h0 HA
        go_wp2
        go_ret
        exact ⟨by rw [HU1.out, HN.out]; rfl, HB.out⟩
      · intro s v w3 cnt hs hv hrg hlt hg hsz hen
        have HB3 := Aside0.mk (pw_below_grown HB.out _ (below_size HB.out) hg (fun k hk => by cases hk; exact Nat.le_refl _))
        have HRG3 := Aside0.mk (And.intro hrg (And.intro (delK_nodup HRG.out.2.1 s.data.toList) (fun x (hx : x ∈ delK left s.data.toList) => HRG.out.2.2 x (delK_sub hx))))
        have HST := Aside0.mk (any_step HRG.out.2.1 hs (cfM m1 m2))
        have HS23 : Aside0 (IsLz w3 b2 N2 m2) := ⟨HS2.out.below HB3.out⟩
        have hss : s.size ≤ 140737488351232 := by
          have := HZ1.out _ (HRG.out.2.2 _ hs); rw [Lib.size_eq]; exact this
        have HLT := Aside0.mk hlt
        obtain ⟨g2, hg2⟩ : ∃ g2, mget m2 s.data.toList = g2 := ⟨_, rfl⟩
        have hq : cfM m1 m2 s.data.toList = cfV v.data.toList g2 := by rw [← hg2]; exact cf_some hv
        rw [hq] at HST
        have HG2 := Aside0.mk hg2
        clear HB HRG hs hrg hlt hg hsz hq hv hg2
        cases g2 with
        | none =>
          have HN : Aside0 ((dk m1).any (cfM m1 m2) = (delK left s.data.toList).any (cfM m1 m2)) := ⟨by rw [HA.out, HST.out]; rfl⟩
          clear HST HA
          go_wp2_with (first | (at_lookup; refine look_lab _ 96 Tryz.underlying96 rfl _ _ rfl b2 N2 m2 rfl HS23.out s hss rfl ?_; rw [HG2.out]))
          go_roundg cnt
          case measure => exact HLT.out
          case rel => exact ⟨_, HRG3, HN, HB3⟩
        | some u =>
          by_cases huv : u = v.data.toList
          · have HN : Aside0 ((dk m1).any (cfM m1 m2) = (delK left s.data.toList).any (cfM m1 m2)) := ⟨by rw [HA.out, HST.out, huv]; simp [cfV]⟩
            have e1 : (mk u) = v := by rw [huv, mk_data]
            have HE := Aside0.mk e1
            clear HST HA huv e1
            go_wp2_with (first | (at_lookup; refine look_lab _ 96 Tryz.underlying96 rfl _ _ rfl b2 N2 m2 rfl HS23.out s hss rfl ?_; rw [HG2.out, Option.getD_some, HE.out]))
            go_roundg cnt
            case measure => exact HLT.out
            case rel => exact ⟨_, HRG3, HN, HB3⟩
          · have HN : Aside0 ((dk m1).any (cfM m1 m2) = true) := ⟨by rw [HA.out, HST.out]; show ((!(v.data.toList == u)) || _) = true; rw [show (v.data.toList == u) = false from by simpa using fun h => huv h.symm]; rfl⟩
            have e1 : ((mk u).toList == v.toList) = false := by rw [mk_toList, toList_eq]; simpa using huv
            have e2 : ((mk u).toList != v.toList) = true := by rw [bne, e1]; rfl
            clear HST HA huv
            obtain ⟨uu, huu⟩ : ∃ uu, mk u = uu := ⟨_, rfl⟩
            have HU := Aside0.mk huu
            rw [huu] at e1 e2
            clear huu
            go_wp2_with (first | (at_lookup; refine look_lab _ 96 Tryz.underlying96 rfl _ _ rfl b2 N2 m2 rfl HS23.out s hss rfl ?_; rw [HG2.out, Option.getD_some, HU.out]))
            go_ret
            exact ⟨by rw [HU1.out, HN.out]; rfl, HB3.out⟩
end Go.Proofs.YthfjolafikgpoaaGreatDoor.Hand

/- laws.epSamePairs; impl.LabelsBoth. -/
namespace Go.Proofs.YthfjolafikgpoaaGreatDoor.Hand
open Go.RowKit Go.Maps Go.Proofs.YthfjolafikgpoaaGreatDoorW.PrintWords Go.Proofs.YthfjolafikgpoaaGreatDoorW.PrintLast Go.Proofs.YthfjolafikgpoaaGreatDoorW.PrintMore Go.Proofs.YthfjolafikgpoaaGreatDoor.Base
open Go.Sort (ltStr)
set_option linter.unusedVariables false
set_option linter.unusedSimpArgs false
set_option maxRecDepth 100000
theorem pk_both {w : World} {A : Option Addr} {n : Nat} {xs : List (ByteArray × ByteArray)} (h : PK.C w A n xs) (i : Nat) (h1 : i < n) (h2 : i < xs.length) :
    ∃ ad, A = some ad ∧ w.cell? (ad.add (i * 2)) = some (.string xs[i].1) ∧ w.cell? ⟨(ad.add (i * 2)).block, (ad.add (i * 2)).off + 1, none⟩ = some (.string xs[i].2) := by
  obtain ⟨ad, e, h0, h3⟩ := pk_at h i h1
  rw [List.getD_eq_getElem?_getD, List.getElem?_eq_getElem h2] at h0 h3
  exact ⟨ad, e, h0, h3⟩
theorem take_eq_snoc {α : Type} {xs ys : List α} {j : Nat} (h : xs.take j = ys.take j) (h1 : j < xs.length) (h2 : j < ys.length) (e : xs[j] = ys[j]) : xs.take (j + 1) = ys.take (j + 1) := by
  rw [List.take_succ_eq_append_getElem h1, List.take_succ_eq_append_getElem h2, h, e]
theorem pr_guard (x y : Operand) (xs ys : Array Value) (w : World) : (eqGuard .neq 42 x y (.agg xs) (.agg ys)).run Tryz.prog w = .ok () w := run_eqGuard_agg w .neq 42 x y xs ys (by kernel_rfl)
theorem pr_eq (xa xb ya yb : ByteArray) (w : World) : (Op.equalIn 10000 42 (.agg #[.string xa, .string xb]) (.agg #[.string ya, .string yb])).run Tryz.prog w = .ok (xa.toList == ya.toList && xb.toList == yb.toList) w := by
  rw [run_equalIn_struct w 9999 42 _ _ (by kernel_rfl) (by kernel_rfl)]
  simp only [Program.fieldsOf, Tryz.underlying42, Op.eqFields]
  simp [part, run_equalIn_string _ _ _ _ _ Tryz.underlying9, go_sem]
  by_cases h1 : xa.toList = ya.toList <;> by_cases h2 : xb.toList = yb.toList <;> simp [h1, h2]
theorem pr_neq (xa xb ya yb : ByteArray) (w : World) : (binOp .neq 42 (.agg #[.string xa, .string xb]) (.agg #[.string ya, .string yb])).run Tryz.prog w = .ok (.bool (!(xa.toList == ya.toList && xb.toList == yb.toList))) w := by
  rw [run_neq_struct, pr_eq]; rfl
set_option maxHeartbeats 4000000 in
theorem SamePairs_calls (A A2 : Option Addr) (n c n2 c2 : Nat) (xs ys : List (ByteArray × ByteArray)) (hn : xs.length = n) (hn2 : ys.length = n2) (hb1 : n ≤ 1000000) (hb2 : n2 ≤ 1000000) (w : World) (hx : PK.C w A n xs) (hy : PK.C w A2 n2 ys) :
    Calls Tryz.prog 36 #[.slice A n c, .slice A2 n2 c2] w fun e w' => e = .returned (.bool (decide (xs = ys))) ∧ Below w.heap.size w w' := by
  have HX := Aside0.mk hx
  have HY := Aside0.mk hy
  have HB := Aside0.mk (Below.refl w.heap.size w)
  clear hx hy
  go_enter Tryz.func36, Tryz.ntmps36
  by_cases hnn : n = n2
  · subst hnn
    go_wp2
    go_loopg [5, 13] (n) (fun g v5 v13 w' => ∃ j : Nat, v13 = .int .i64 j ∧ Aside0 (g + j = n) ∧ Aside0 (xs.take j = ys.take j) ∧ Aside0 (Below w.heap.size w w'))
    case atStart => exact ⟨0, rfl, ⟨by omega⟩, ⟨rfl⟩, HB⟩
    case round =>
      clear HB
      obtain ⟨j, rfl, HJ, HT, HB⟩ := hrel
      have hj : j ≤ n := by have := HJ.out; omega
      by_cases hjl : j < n
      · obtain ⟨ad, e1, hk0, hk1⟩ := pk_both (Kd.C_below HX.out HB.out) j hjl (by omega)
        obtain ⟨ad2, e2, hl0, hl1⟩ := pk_both (Kd.C_below HY.out HB.out) j hjl (by omega)
        subst e1 e2
        obtain ⟨x0, hx0⟩ : ∃ x, xs[j] = x := ⟨_, rfl⟩
        obtain ⟨y0, hy0⟩ : ∃ y, ys[j] = y := ⟨_, rfl⟩
        rw [hx0] at hk0 hk1
        rw [hy0] at hl0 hl1
        obtain ⟨xa, xb⟩ := x0
        obtain ⟨ya, yb⟩ := y0
        replace hk0 : wr.cell? (ad.add (j * 2)) = some (.string xa) := hk0
        replace hk1 : wr.cell? ⟨(ad.add (j * 2)).block, (ad.add (j * 2)).off + 1, none⟩ = some (.string xb) := hk1
        replace hl0 : wr.cell? (ad2.add (j * 2)) = some (.string ya) := hl0
        replace hl1 : wr.cell? ⟨(ad2.add (j * 2)).block, (ad2.add (j * 2)).off + 1, none⟩ = some (.string yb) := hl1
        have HE := Aside0.mk (And.intro hx0 hy0)
        clear hx0 hy0
        obtain ⟨q, hq⟩ : ∃ q, (xa.toList == ya.toList && xb.toList == yb.toList) = q := ⟨_, rfl⟩
        have hE1 := pr_eq xa xb ya yb
        have hE2 := pr_neq xa xb ya yb
        have hE3 := pr_guard (.tmp 19) (.tmp 23) #[.string xa, .string xb] #[.string ya, .string yb]
        rw [hq] at hE1 hE2
        cases q with
        | true =>
          have HQ : Aside0 (xs.take (j + 1) = ys.take (j + 1)) := ⟨take_eq_snoc HT.out (by omega) (by omega) (by
            rw [HE.out.1, HE.out.2]
            simp only [Bool.and_eq_true, beq_iff_eq] at hq
            have z : ∀ a b : ByteArray, a.toList = b.toList → a = b := fun a b h => by rw [ByteArray.toList_eq, ByteArray.toList_eq] at h; exact ByteArray.ext (Array.toList_inj.1 h)
            rw [z _ _ hq.1, z _ _ hq.2])⟩
          clear hq
          go_wp2
          go_quiet (fail)
          clear hE1 hE2 hE3
          go_wp2
          go_roundg (gk - 1)
          case measure => have := HJ.out; omega
          case rel => exact ⟨j + 1, by go_num, ⟨by have := HJ.out; omega⟩, HQ, ⟨pw_below_drewN HB.out _⟩⟩
        | false =>
          have HQ : Aside0 (decide (xs = ys) = false) := ⟨by
            rw [decide_eq_false_iff_not]
            intro e
            subst e
            have := HE.out.1.symm.trans HE.out.2
            injection this with e1 e2
            rw [e1, e2] at hq
            simp at hq⟩
          clear hq
          go_wp2
          go_quiet (fail)
          clear hE1 hE2 hE3
          go_wp2
          go_ret
          exact ⟨by rw [HQ.out]; rfl, pw_below_drewN HB.out _⟩
      · have hli : j = n := by omega
        have HE : Aside0 (decide (xs = ys) = true) := ⟨by
          have := HT.out
          rw [hli, List.take_of_length_le (by omega), List.take_of_length_le (by omega)] at this
          simp [this]⟩
        go_wp2
        go_ret
        exact ⟨by rw [HE.out]; rfl, HB.out⟩
  · have HE : Aside0 (decide (xs = ys) = false) := ⟨by
      rw [decide_eq_false_iff_not]; intro e; subst e; omega⟩
    go_wp2
    go_ret
    exact ⟨by rw [HE.out]; rfl, HB.out⟩
end Go.Proofs.YthfjolafikgpoaaGreatDoor.Hand

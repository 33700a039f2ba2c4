/- labels.Merge. -/
import Derived.Test.YthfjolafikgpoaaGreatDoorLRM15
import Derived.Test.YthfjolafikgpoaaGreatDoorLRM16
import Derived.Test.YthfjolafikgpoaaGreatDoorLRM14
import Derived.Test.YthfjolafikgpoaaGreatDoorLRLabNew
namespace Go.Proofs.YthfjolafikgpoaaGreatDoor.Hand
open Go.RowKit Go.Maps Go.Proofs.YthfjolafikgpoaaGreatDoorW.PrintWords Go.Proofs.YthfjolafikgpoaaGreatDoorW.PrintLast Go.Proofs.YthfjolafikgpoaaGreatDoorW.PrintMore Go.Proofs.YthfjolafikgpoaaGreatDoor.Base
set_option linter.unusedVariables false
set_option linter.unusedSimpArgs false
set_option maxRecDepth 100000
section
variable (w : World) {ops : Array Oper} {rest : List Oper} {o : Oper} {a : Act} {Q : Exit → Act → World → Prop}
/-- A label set in a map of one's own. -/
theorem set_lab (hg : o.guard = none) (m x y : Operand) (hop : o.op = Op.mapUpdate 96 m x y) (b N : Nat) (ks : List (L × L)) (hm : a.eval m = .map (some b)) (h : IsLz w b N ks) (hN : N ≤ 1000000) (k v : ByteArray) (hk : k.size ≤ 140737488351232) (hv : v.size ≤ 140737488351232) (hx : a.eval x = .string k) (hy : a.eval y = .string v)
    (hK : ∀ w', IsLz w' b (N + 1) ((k.data.toList, v.data.toList) :: ks) → w.grownBy w' (some b) → wpList Tryz.prog ops Q rest (a.put o.dst undef) w') :
    wpList Tryz.prog ops Q (o :: rest) a w := by
  obtain ⟨D, hown, hmp, hhas, hat, hsz⟩ := h
  have hput := lab_putZ k.data.toList v.data.toList hmp (World.ownsMap.tidy hown lawLs) hhas hat hsz
  have hkey := keyLs k hk
  have hval : plainElem (H := Unit) Tryz.prog 9 (.string v) = some (.lit (.string v.data.toList), []) := plainElem_string Tryz.underlying9 (by unfold maxLen; omega)
  refine wpList_mapUpdate_own _ hg _ _ _ 96 hop 9 9 lawLs Tryz.underlying96 (plainElem (H := Unit) Tryz.prog 9) b N _ hm hown (by unfold maxLen; omega) _ _ _ hx hy hkey _ [] hval ?_
  intro w1 hown1 hg1
  exact hK w1 ⟨_, hown1, hput⟩ hg1
end
theorem delK_in {left : List L} {k x : L} : x ∈ delK left k ↔ x ∈ left ∧ x ≠ k := by
  unfold delK
  rw [List.mem_filter, Bool.not_eq_true', beq_eq_false_iff_ne]
/-- What stands in the merged map when the keys of left are still to come. -/
def mgR (base m : List (L × L)) (left : List L) (m3 : List (L × L)) : Prop := ∀ k, mget m3 k = if k ∈ left then mget base k else ((mget m k).or (mget base k))
theorem mgR_start (base m : List (L × L)) : mgR base m (dk m) base := by
  intro k
  split
  · rfl
  · rename_i h
    cases hg : mget m k with
    | none => rfl
    | some v => exact absurd (dk_mem.2 ⟨v, hg⟩) h
theorem mgR_step {base m m3 : List (L × L)} {left : List L} {k v : L} (h : mgR base m left m3) (hn : left.Nodup) (hv : mget m k = some v) : mgR base m (delK left k) ((k, v) :: m3) := by
  intro x
  rw [mget_cons]
  by_cases e : k = x
  · subst e
    rw [if_pos rfl, if_neg (fun hx => (delK_in.1 hx).2 rfl), hv]; rfl
  · rw [if_neg e, h x]
    have : x ∈ delK left k ↔ x ∈ left := ⟨fun h2 => (delK_in.1 h2).1, fun h2 => delK_in.2 ⟨h2, fun e2 => e e2.symm⟩⟩
    by_cases hx : x ∈ left
    · rw [if_pos hx, if_pos (this.2 hx)]
    · rw [if_neg hx, if_neg (fun h2 => hx (this.1 h2))]
/-- Two label sets together: of keys in both, those of the second. -/
def mgOf (m1 m2 m3 : List (L × L)) : Prop := ∀ k, mget m3 k = (mget m2 k).or (mget m1 k)
set_option maxHeartbeats 8000000 in
theorem Merge_calls (b1 N1 : Nat) (m1 : List (L × L)) (b2 N2 : Nat) (m2 : List (L × L)) (hz1 : ∀ k v, mget m1 k = some v → k.length ≤ 140737488351232 ∧ v.length ≤ 140737488351232) (hz2 : ∀ k v, mget m2 k = some v → k.length ≤ 140737488351232 ∧ v.length ≤ 140737488351232) (hl1 : (dk m1).length ≤ 1000) (hl2 : (dk m2).length ≤ 1000) (w : World) (h1 : IsLz w b1 N1 m1) (h2 : IsLz w b2 N2 m2) :
    Calls Tryz.prog 75 #[.map (some b1), .map (some b2)] w fun e w' => ∃ (N3 : Nat) (m3 : List (L × L)), e = .returned (.map (some w.heap.size)) ∧ IsLz w' w.heap.size N3 m3 ∧ mgOf m1 m2 m3 ∧ N3 ≤ 2000 ∧ Below w.heap.size w w' := by
  have HS1 := Aside0.mk h1
  have HS2 := Aside0.mk h2
  have HZ1 := Aside0.mk hz1
  have HZ2 := Aside0.mk hz2
  have HL := Aside0.mk (And.intro hl1 hl2)
  have HI0 := Aside0.mk (IsLz.made w)
  have HB0 := Aside0.mk (below_alloc (Below.refl w.heap.size w) (.map #[] 0))
  have hmm := @run_makeMap Tryz.prog
  have hsz1 : (w.alloc (.map #[] 0)).heap.size = w.heap.size + 1 := by show (w.heap.push _).size = _; rw [Array.size_push]
  have HSZ := Aside0.mk hsz1
  have HS3 := Aside0.mk (h1.below (below_alloc (Below.refl w.heap.size w) (.map #[] 0)))
  clear h1 h2 hz1 hz2 hl1 hl2
  go_enter Tryz.func75, Tryz.ntmps75
  go_wp2_with (first | (at_range; refine range_lab _ 96 Tryz.underlying96 rfl _ rfl b1 N1 m1 rfl HS3.out ?_; intro w2 hrg hg hs2; have HRG := Aside0.mk hrg; have HG2 := Aside0.mk hg; clear hrg hg))
  generalize hr : (w.alloc (Obj.map #[] 0)).heap.size = r at *
  have HB2 := Aside0.mk (pw_below_grown HB0.out none (below_size HB0.out) HG2.out (fun j hj => by cases hj))
  have HI2 := Aside0.mk (HI0.out.kept HG2.out (by simp))
  have HR1 : Aside0 (r = w.heap.size + 1 ∧ b1 < w.heap.size ∧ b2 < w.heap.size) := ⟨HSZ.out, HS1.out.lt, HS2.out.lt⟩
  have hr2 := HSZ.out
  clear hr HG2 HB0 HI0 HSZ HS3 hs2 hmm
  subst hr2
  go_frame
  go_loopg [6, 7] ((dk m1).length) (fun g v6 v7 w' => ∃ (left : List L) (m3 : List (L × L)) (N3 : Nat), Aside0 (LzR w' b1 (w.heap.size + 1) N1 g m1 left ∧ left.Nodup ∧ ∀ x ∈ left, x ∈ dk m1) ∧ Aside0 (IsLz w' w.heap.size N3 m3 ∧ mgR [] m1 left m3 ∧ N3 + left.length ≤ 1000) ∧ Aside0 (Below w.heap.size w w'))
  case atStart => exact ⟨dk m1, [], 0, ⟨HRG.out, dk_nodup m1, fun x h => h⟩, ⟨HI2.out, mgR_start _ _, by have := HL.out.1; omega⟩, HB2⟩
  case round =>
    clear HRG HB2 HI2
    obtain ⟨left, m3, N3, HRG, HM, HB⟩ := hrel
    go_wp2_with (first | (at_next; refine next_lab _ rfl _ rfl b1 (w.heap.size + 1) N1 gk m1 left rfl HRG.out.1 ?_ ?_))
    · intro h0 hl0
      have HM0 : Aside0 (mgR [] m1 [] m3) := ⟨by rw [← hl0]; exact HM.out.2.1⟩
      have HIM := Aside0.mk HM.out.1
      have hN3 : N3 ≤ 1000 := by have := HM.out.2.2; omega
      have HS2b := Aside0.mk (HS2.out.below HB.out)
      have hsz5 : w.heap.size < wr.heap.size := HM.out.1.lt
      clear hl0 h0 HM HRG
      go_wp2_with (first | (at_range; refine range_lab _ 96 Tryz.underlying96 rfl _ rfl b2 N2 m2 rfl HS2b.out ?_; intro w5 hrg hg hs2; have HRG := Aside0.mk hrg; have HB5 := Aside0.mk (pw_below_grown HB.out none (below_size HB.out) hg (fun j hj => by cases hj)); have HI5 := Aside0.mk (HIM.out.kept hg (by simp)); clear hrg hg HB HS2b HIM hs2))
      generalize wr.heap.size = r5 at *
      generalize gk = go at *
      go_frame
      go_loopg [8, 9] ((dk m2).length) (fun g v8 v9 w' => ∃ (left : List L) (m4 : List (L × L)) (N4 : Nat), Aside0 (LzR w' b2 r5 N2 g m2 left ∧ left.Nodup ∧ ∀ x ∈ left, x ∈ dk m2) ∧ Aside0 (IsLz w' w.heap.size N4 m4 ∧ mgR m3 m2 left m4 ∧ N4 + left.length ≤ 2000) ∧ Aside0 (Below w.heap.size w w'))
      case atStart => exact ⟨dk m2, m3, N3, ⟨HRG.out, dk_nodup m2, fun x h => h⟩, ⟨HI5.out, mgR_start _ _, by have := HL.out.2; omega⟩, HB5⟩
      case round =>
        clear HRG HB5 HI5
        obtain ⟨left, m4, N4, HRG, HM, HB⟩ := hrel
        go_wp2_with (first | (at_next; refine next_lab _ rfl _ rfl b2 r5 N2 gk m2 left rfl HRG.out.1 ?_ ?_))
        · intro h0 hl0
          have HM4 : Aside0 (mgOf m1 m2 m4) := ⟨fun k => by
            have h1 := HM.out.2.1 k
            have h2 := HM0.out k
            rw [hl0, if_neg (by simp)] at h1
            rw [if_neg (by simp)] at h2
            rw [h1, h2]
            cases mget m2 k <;> cases mget m1 k <;> rfl⟩
          have hN4 : N4 ≤ 2000 := by have := HM.out.2.2; omega
          have HIM := Aside0.mk HM.out.1
          clear hl0 h0 HM HRG
          go_wp2
          go_ret
          exact ⟨N4, m4, rfl, HIM.out, HM4.out, hN4, HB.out⟩
        · intro s v w3 cnt hs hv hrg hlt hg hsz hen
          have HB3 := Aside0.mk (pw_below_grown HB.out _ (below_size HB.out) hg (fun k hk => by cases hk; omega))
          have HN3 := Aside0.mk (delK_nodup HRG.out.2.1 s.data.toList)
          have HS3 := Aside0.mk (fun x (hx : x ∈ delK left s.data.toList) => HRG.out.2.2 x (delK_sub hx))
          have hdl := delK_len HRG.out.2.1 s.data.toList
          rw [if_pos (List.contains_iff_mem.2 hs)] at hdl
          have HM3 := Aside0.mk (HM.out.1.kept hg (fun e => by injection e with e; omega))
          have HMS := Aside0.mk (mgR_step HM.out.2.1 HRG.out.2.1 hv)
          have HNL : Aside0 (N4 + 1 + (delK left s.data.toList).length ≤ 2000) := ⟨by have := HM.out.2.2; omega⟩
          have hzz := HZ2.out _ _ hv
          have hss : s.size ≤ 140737488351232 := by rw [Lib.size_eq]; exact hzz.1
          have hvv : v.size ≤ 140737488351232 := by rw [Lib.size_eq]; exact hzz.2
          have HLT := Aside0.mk hlt
          have HRG3 := Aside0.mk hrg
          clear HRG HM HB hs hv hrg hlt hg hsz hdl hzz
          go_wp2_with (first | (at_mapUpdate; refine set_lab _ rfl _ _ _ rfl w.heap.size N4 m4 rfl HM3.out (by have := HNL.out; omega) s v hss hvv rfl rfl ?_; intro w4 hi4 hg4; have HI4 := Aside0.mk hi4; have HB4 := Aside0.mk (pw_below_grown HB3.out _ (below_size HB3.out) hg4 (fun k hk => by cases hk; exact Nat.le_refl _)); have HRG4 := Aside0.mk (HRG3.out.kept hg4 (fun e => by injection e with e; have := HR1.out.2.2; omega) (fun e => by injection e with e; omega)); clear hi4 hg4))
          go_roundg cnt
          case measure => exact HLT.out
          case rel => exact ⟨_, _, _, ⟨HRG4.out, HN3.out, HS3.out⟩, ⟨HI4.out, HMS.out, HNL.out⟩, HB4⟩
    · intro s v w3 cnt hs hv hrg hlt hg hsz hen
      have HB3 := Aside0.mk (pw_below_grown HB.out _ (below_size HB.out) hg (fun k hk => by cases hk; have := HR1.out.1; omega))
      have HN3 := Aside0.mk (delK_nodup HRG.out.2.1 s.data.toList)
      have HS3 := Aside0.mk (fun x (hx : x ∈ delK left s.data.toList) => HRG.out.2.2 x (delK_sub hx))
      have hdl := delK_len HRG.out.2.1 s.data.toList
      rw [if_pos (List.contains_iff_mem.2 hs)] at hdl
      have HM3 := Aside0.mk (HM.out.1.kept hg (fun e => by injection e with e; have := HR1.out.1; omega))
      have HMS := Aside0.mk (mgR_step HM.out.2.1 HRG.out.2.1 hv)
      have HNL : Aside0 (N3 + 1 + (delK left s.data.toList).length ≤ 1000) := ⟨by have := HM.out.2.2; omega⟩
      have hzz := HZ1.out _ _ hv
      have hss : s.size ≤ 140737488351232 := by rw [Lib.size_eq]; exact hzz.1
      have hvv : v.size ≤ 140737488351232 := by rw [Lib.size_eq]; exact hzz.2
      have HLT := Aside0.mk hlt
      have HRG3 := Aside0.mk hrg
      clear HRG HM HB hs hv hrg hlt hg hsz hdl hzz
      go_wp2_with (first | (at_mapUpdate; refine set_lab _ rfl _ _ _ rfl w.heap.size N3 m3 rfl HM3.out (by have := HNL.out; omega) s v hss hvv rfl rfl ?_; intro w4 hi4 hg4; have HI4 := Aside0.mk hi4; have HB4 := Aside0.mk (pw_below_grown HB3.out _ (below_size HB3.out) hg4 (fun k hk => by cases hk; exact Nat.le_refl _)); have HRG4 := Aside0.mk (HRG3.out.kept hg4 (fun e => by injection e with e; have := HR1.out.2.1; omega) (fun e => by injection e with e; have := HR1.out.1; omega)); clear hi4 hg4))
      go_roundg cnt
      case measure => exact HLT.out
      case rel => exact ⟨_, _, _, ⟨HRG4.out, HN3.out, HS3.out⟩, ⟨HI4.out, HMS.out, HNL.out⟩, HB4⟩
end Go.Proofs.YthfjolafikgpoaaGreatDoor.Hand

/- The merged map's labels by rising keys are the keyed list of both lists. No program in sight. -/
namespace Go.Proofs.YthfjolafikgpoaaGreatDoor.Hand
open Go.RowKit Go.Maps Go.Proofs.YthfjolafikgpoaaGreatDoorW.PrintWords Go.Proofs.YthfjolafikgpoaaGreatDoorW.PrintLast Go.Proofs.YthfjolafikgpoaaGreatDoorW.PrintMore Go.Proofs.YthfjolafikgpoaaGreatDoor.Base
open Go.Sort (ltStr)
set_option linter.unusedVariables false
set_option linter.unusedSimpArgs false
theorem mget_append (x y : List LP) (k : L) : mget (x ++ y) k = (mget x k).or (mget y k) := by
  induction x with
  | nil => rfl
  | cons p x ih =>
    obtain ⟨pk, pv⟩ := p
    rw [List.cons_append, mget_cons, mget_cons, ih]
    split <;> rfl
theorem keyL_merge {a b m3 xs : List LP} (hm : mgOf a.reverse b.reverse m3) (hs : SK xs) (hx : ∀ k v, (k, v) ∈ xs ↔ mget m3 k = some v) : xs = keyL (a ++ b) := by
  obtain ⟨s2, m2⟩ := keyL_mem (a ++ b)
  refine sk_ext hs s2 fun q => ?_
  obtain ⟨k, v⟩ := q
  rw [hx, m2, hm k, List.reverse_append, mget_append]
/-- Pairs sorted by keys, of keys that differ, rise strictly. -/
theorem sk_of_sorted {xs : List LP} (h : xs.Pairwise fun a b => ltStr b.1 a.1 = false) (hn : (xs.map (·.1)).Nodup) : SK xs := by
  induction xs with
  | nil => exact List.Pairwise.nil
  | cons p xs ih =>
    obtain ⟨h1, h2⟩ := List.pairwise_cons.1 h
    rw [List.map_cons, List.nodup_cons] at hn
    refine List.pairwise_cons.2 ⟨fun q hq => ?_, ih h2 hn.2⟩
    exact tri (by rw [h1 q hq]; simp) (fun e => hn.1 (by rw [← e]; exact List.mem_map_of_mem hq))
end Go.Proofs.YthfjolafikgpoaaGreatDoor.Hand

/- impl.pairs: a map's labels by their keys. -/
namespace Go.Proofs.YthfjolafikgpoaaGreatDoor.Hand
open Go.RowKit Go.Maps Go.Proofs.YthfjolafikgpoaaGreatDoorW.PrintWords Go.Proofs.YthfjolafikgpoaaGreatDoorW.PrintLast Go.Proofs.YthfjolafikgpoaaGreatDoorW.PrintMore Go.Proofs.YthfjolafikgpoaaGreatDoor.Base
open Go.Sort (ltStr)
set_option linter.unusedVariables false
set_option linter.unusedSimpArgs false
set_option maxRecDepth 100000
/-- The pairs that were told so far, when the keys of left are still to come. -/
def prR (ks : List LP) (left : List L) (xs : List LP) : Prop := (xs.map (·.1)).Nodup ∧ ∀ k v, (k, v) ∈ xs ↔ (k ∉ left ∧ mget ks k = some v)
theorem prR_start (ks : List LP) : prR ks (dk ks) [] := by
  refine ⟨List.nodup_nil, fun k v => ⟨fun h => absurd h (by simp), fun ⟨h1, h2⟩ => absurd (dk_mem.2 ⟨v, h2⟩) h1⟩⟩
theorem prR_step {ks : List LP} {left : List L} {xs : List LP} {k v : L} (h : prR ks left xs) (hk : k ∈ left) (hv : mget ks k = some v) : prR ks (delK left k) (xs ++ [(k, v)]) := by
  obtain ⟨h1, h2⟩ := h
  have hnk : k ∉ xs.map (·.1) := fun hm => by
    obtain ⟨q, hq, e⟩ := List.mem_map.1 hm
    obtain ⟨qk, qv⟩ := q
    obtain rfl : qk = k := e
    exact ((h2 _ _).1 hq).1 hk
  refine ⟨?_, fun x y => ?_⟩
  · rw [List.map_append, List.nodup_append]
    refine ⟨h1, List.pairwise_singleton _ _, fun a ha b hb e => ?_⟩
    obtain rfl : b = k := by simpa using hb
    exact hnk (e ▸ ha)
  · rw [List.mem_append, List.mem_singleton, h2, delK_in]
    constructor
    · rintro (⟨a, b⟩ | e)
      · exact ⟨fun c => a c.1, b⟩
      · obtain ⟨rfl, rfl⟩ := Prod.mk.inj e
        exact ⟨fun c => c.2 rfl, hv⟩
    · rintro ⟨a, b⟩
      by_cases e : x = k
      · subst e
        rw [hv] at b
        exact .inr (by rw [Option.some.inj b])
      · exact .inl ⟨fun c => a ⟨c, e⟩, b⟩
theorem pk_all {e : Nat} {w : World} {base : Nat} {ok : Nat → Prop} {v : Value} {xs : List (ByteArray × ByteArray)} (h : PK.R e w base ok v xs) : PK.R e w base (fun _ => True) v xs := ⟨fun _ _ => trivial, encP _, pk_own h, reps_enc _⟩
set_option maxHeartbeats 8000000 in
theorem Pairs_calls (b N : Nat) (ks : List LP) (hl : (dk ks).length ≤ 1000) (w : World) (h : IsLz w b N ks) :
    Calls Tryz.prog 71 #[.map (some b)] w fun e w' => ∃ (v : Value) (xs : List LP), e = .returned v ∧ PK.R 42 w' w.heap.size (fun _ => True) v (xs.map mkP) ∧ SK xs ∧ (∀ k v, (k, v) ∈ xs ↔ mget ks k = some v) ∧ Below w.heap.size w w' := by
  have HS := Aside0.mk h
  have HL := Aside0.mk hl
  have HB0 := Aside0.mk (Below.refl w.heap.size w)
  have HSO := Aside0.mk (fun l W base v hR hn => sortF_calls l W base v hR hn)
  have HBL : Aside0 (b < w.heap.size) := ⟨h.lt⟩
  clear h hl
  go_enter Tryz.func71, Tryz.ntmps71
  go_wp2_with (first | (at_range; refine range_lab _ 95 Tryz.underlying95 rfl _ rfl b N ks rfl HS.out ?_; intro w2 hrg hg hs2; have HRG := Aside0.mk hrg; have HB2 := Aside0.mk (pw_below_grown HB0.out none (below_size HB0.out) hg (fun j hj => by cases hj)); clear hrg hg hs2))
  clear HB0 HS
  try go_frame
  go_loopg [3, 4, 5] ((dk ks).length) (fun g v3 v4 v5 w' => ∃ (left : List L) (xs : List LP), Aside0 (LzR w' b w.heap.size N g ks left ∧ left.Nodup) ∧ Aside0 (prR ks left xs ∧ xs.length + left.length = (dk ks).length) ∧ Aside0 (PK.R 42 w' w.heap.size (fun k => k ≠ w.heap.size) v3 (xs.map mkP)) ∧ Aside0 (Below w.heap.size w w'))
  case atStart => exact ⟨dk ks, [], ⟨HRG.out, dk_nodup ks⟩, ⟨prR_start ks, by simp⟩, ⟨Kd.R_nil _ _ _ _ _⟩, HB2⟩
  case round =>
    clear HRG HB2
    obtain ⟨left, xs, HRG, HP, HR, HB⟩ := hrel
    obtain ⟨A3, c3, e3⟩ := Kd.R_slice HR.out
    rw [List.length_map] at e3
    subst e3
    go_wp2_with (first | (at_next; refine next_lab _ rfl _ rfl b w.heap.size N gk ks left rfl HRG.out.1 ?_ ?_))
    · intro h0 hl0
      subst hl0
      have HSV := Aside0.mk (HSO.out xs wr w.heap.size (.slice A3 xs.length c3) (pk_all HR.out) (by have := HP.out.2; have := HL.out; simp at *; omega))
      have HRO := Aside0.mk (pk_all HR.out)
      clear h0 HRG HSO HR
      go_wp2_with (first | ((with_reducible refine (HSV.out).mono ?_); rintro e w4 ⟨rfl, l', hp, hpw, hr, hg⟩; have HB4 := Aside0.mk (pw_below_grown HB.out _ (below_size HB.out) hg (fun k hk => own_base (pk_own HRO.out) k hk)); have HR4 := Aside0.mk hr; have HPM := Aside0.mk hp; have HPW := Aside0.mk hpw; clear hp hpw hr hg HSV))
      go_ret
      refine ⟨_, l', rfl, HR4.out, sk_of_sorted HPW.out ((HPM.out.map _).nodup_iff.2 HP.out.1.1), fun k v => ?_, HB4.out⟩
      rw [HPM.out.mem_iff, HP.out.1.2]
      simp
    · intro s v w3 cnt hs hv hrg hlt hg hsz hen
      have HB3 := Aside0.mk (pw_below_grown HB.out _ (below_size HB.out) hg (fun k hk => by cases hk; exact Nat.le_refl _))
      have HN3 := Aside0.mk (delK_nodup HRG.out.2 s.data.toList)
      have hdl := delK_len HRG.out.2 s.data.toList
      rw [if_pos (List.contains_iff_mem.2 hs)] at hdl
      have HPS := Aside0.mk (prR_step HP.out.1 hs hv)
      have HNL : Aside0 ((xs ++ [(s.data.toList, v.data.toList)]).length + (delK left s.data.toList).length = (dk ks).length ∧ xs.length ≤ 1000) := ⟨by have := HP.out.2; have := HL.out; rw [List.length_append, List.length_singleton]; omega⟩
      have HR3 : Aside0 (PK.R 42 w3 w.heap.size (fun k => k ≠ w.heap.size) (.slice A3 xs.length c3) (xs.map mkP)) := ⟨Kd.R_grown HR.out hg (fun k hk e => hk (Option.some.inj e))⟩
      have HSZ : Aside0 (w.heap.size < w3.heap.size) := ⟨by obtain ⟨x, y, z, t, hi⟩ := hrg.iter; exact (Array.getElem?_eq_some_iff.1 hi).1⟩
      have HF3 : Aside0 (∀ k, w3.heap.size ≤ k → k ≠ w.heap.size) := ⟨fun k hk e => by have := HSZ.out; omega⟩
      have HLT := Aside0.mk hlt
      have HRG3 := Aside0.mk hrg
      have HOW : Aside0 (∀ k, (Value.slice A3 xs.length c3).ownBlock = some k → w.heap.size ≤ k ∧ k ≠ w.heap.size) := ⟨fun k hk => ⟨own_base (pk_own HR.out) k hk, HR.out.1 k hk⟩⟩
      clear HRG HP HB hs hv hrg hlt hg hsz hdl HR
      go_wp2_with (first | ((with_reducible refine gate_builtin (b := .append) (xs := #[.tmp 13, .tmp 17]) rfl ?_); (try (refine gate_guard (by rfl) ?_; dsimp only)); at_builtin; refine Kd.R_append PK (w0 := w) w.heap.size rfl (.tmp 13) (.tmp 17) 37 42 (.agg #[.string ⟨#[]⟩, .string ⟨#[]⟩]) 32 rfl Tryz.underlying37 infoPr rfl (by decide) (by decide) (.slice A3 xs.length c3) (xs.map mkP) (s, v) [.string s, .string v] (fun k => k ≠ w.heap.size) (fun _ => False) rfl rfl ?aP (fun _ hk => hk.elim) ?aF ?aO ?aB ?aS ?aL ?_; (case aP => exact ⟨[_], [_], rfl, rfl, rfl⟩); (case aB => exact HB3.out); (case aF => exact HF3.out); (case aO => exact HR3.out); (case aS => exact below_size HB3.out); (case aL => have := HNL.out; rw [List.length_map]; omega); intro vN wN2 ho hb hg hat; have HR4 := Aside0.mk ho; have HB4 := Aside0.mk hb; have HRG4 := Aside0.mk (HRG3.out.kept hg (fun e => by have := (HOW.out _ e.symm).1; have := HBL.out; omega) (fun e => (HOW.out _ e.symm).2 rfl)); clear ho hb hg hat))
      go_roundg cnt
      case measure => exact HLT.out
      case rel => exact ⟨_, xs ++ [(s.data.toList, v.data.toList)], ⟨HRG4.out, HN3.out⟩, ⟨HPS.out, HNL.out.1⟩, ⟨by rw [List.map_append]; exact HR4.out⟩, HB4⟩
end Go.Proofs.YthfjolafikgpoaaGreatDoor.Hand

/- Texts out of texts: spec.joined, labels.zzJoin, the buffer, sort.StringsAreSorted. -/
namespace Go.Proofs.YthfjolafikgpoaaGreatDoor.Hand
open Go.RowKit Go.Maps Go.Proofs.YthfjolafikgpoaaGreatDoorW.PrintWords Go.Proofs.YthfjolafikgpoaaGreatDoorW.PrintLast Go.Proofs.YthfjolafikgpoaaGreatDoorW.PrintMore Go.Proofs.YthfjolafikgpoaaGreatDoor.Base
set_option linter.unusedVariables false
set_option linter.unusedSimpArgs false
set_option maxRecDepth 100000
/-- The texts one after the other, the sign between them. -/
def joinB (sg : ByteArray) : List ByteArray → ByteArray
  | [] => ByteArray.empty
  | v :: r => r.foldl (fun a s => a ++ sg ++ s) (ByteArray.empty ++ v)
theorem joinB_snoc (sg p : ByteArray) (l : List ByteArray) (h : l ≠ []) : joinB sg (l ++ [p]) = joinB sg l ++ sg ++ p := by
  cases l with
  | nil => exact absurd rfl h
  | cons v r => simp [joinB, List.foldl_append]
theorem joinB_first {vs : List ByteArray} {p : ByteArray} (sg : ByteArray) (hp : vs[0]? = some p) : joinB sg (vs.take 1) = ByteArray.empty ++ p := by
  cases vs with
  | nil => cases hp
  | cons v r => simp only [List.getElem?_cons_zero, Option.some.injEq] at hp; subst hp; rfl
theorem joinB_next {vs : List ByteArray} {p : ByteArray} {i : Nat} (sg : ByteArray) (h0 : i ≠ 0) (hp : vs[i]? = some p) : joinB sg (vs.take (i + 1)) = joinB sg (vs.take i) ++ sg ++ p := by
  rw [List.take_add_one, hp]
  refine joinB_snoc sg p _ fun e => ?_
  have h1 : i < vs.length := (List.getElem?_eq_some_iff.1 hp).1
  have h2 := congrArg List.length e
  rw [List.length_take] at h2
  simp only [List.length_nil] at h2
  omega
theorem joinB_size (sg : ByteArray) (M : Nat) : ∀ (vs : List ByteArray), (∀ p ∈ vs, p.size ≤ M) → (joinB sg vs).size ≤ vs.length * (M + sg.size) := by
  have h : ∀ (r : List ByteArray) (a : ByteArray), (∀ p ∈ r, p.size ≤ M) → (r.foldl (fun a s => a ++ sg ++ s) a).size ≤ a.size + r.length * (M + sg.size) := by
    intro r
    induction r with
    | nil => intro a _; simp
    | cons v r ih =>
      intro a hz
      have h1 := ih (a ++ sg ++ v) (fun p hp => hz p (List.mem_cons_of_mem _ hp))
      have h2 := hz v (List.mem_cons_self ..)
      simp only [ByteArray.size_append] at h1
      simp only [List.foldl_cons, List.length_cons]
      rw [Nat.add_mul, Nat.one_mul]
      omega
  intro vs hz
  cases vs with
  | nil => simp [joinB]
  | cons v r =>
    have h1 := h r (ByteArray.empty ++ v) (fun p hp => hz p (List.mem_cons_of_mem _ hp))
    have h2 := hz v (List.mem_cons_self ..)
    simp only [ByteArray.size_append] at h1
    have h3 : ByteArray.empty.size = 0 := rfl
    unfold joinB
    simp only [List.length_cons]
    rw [Nat.add_mul, Nat.one_mul]
    omega
/-- What the walk asks of two texts that are put together. -/
theorem small_sum {a b : ByteArray} (h : a.size + b.size ≤ 1000000000) : (9223372036854775807 < a.size + b.size) = False ∧ ((9223372036854775807 : Int) < (a.size : Int) + (b.size : Int)) = False ∧ decide (9223372036854775807 < a.size + b.size) = false :=
  ⟨eq_false (by omega), eq_false (by omega), decide_eq_false (by omega)⟩
set_option maxHeartbeats 8000000 in
theorem zzJoin_calls (sg : ByteArray) (hs : sg.size ≤ 10) (A : Option Addr) (c n : Nat) (vs : List ByteArray) (hn : vs.length = n) (hn2 : n ≤ 1000) (hz : ∀ p ∈ vs, p.size ≤ 10000) (w : World) (hC : Kd.C Kd.string w A n vs) :
    Calls Tryz.prog 90 #[.slice A n c, .string sg] w fun e w' => e = .returned (.string (joinB sg vs)) ∧ w = w' := by
  have HC := Aside0.mk hC
  have HZ := Aside0.mk hz
  have HLN := Aside0.mk hn
  clear hC hz
  go_enter Tryz.func90, Tryz.ntmps90
  go_wp2
  go_loopg [5, 10] (n) (fun k v5 v10 w' => ∃ i : Nat, v10 = .int .i64 i ∧ v5 = .string (joinB sg (vs.take i)) ∧ w = w' ∧ Aside0 (k + i = n))
  case atStart => exact ⟨0, rfl, rfl, rfl, ⟨by omega⟩⟩
  case round =>
    obtain ⟨i, rfl, rfl, rfl, HI⟩ := hrel
    by_cases hil : i < n
    · obtain ⟨ad, rfl, hk0⟩ := Kd.at_string HC.out (i : Int) (by omega) (by omega)
      rw [Int.toNat_natCast] at hk0
      obtain ⟨p, hp⟩ : ∃ p, vs[i]? = some p := ⟨_, List.getElem?_eq_getElem (by rw [HLN.out]; exact hil)⟩
      have hg : rdOf ByteArray.empty vs (i : Int) = p := by unfold rdOf; rw [Int.toNat_natCast, List.getD_eq_getElem?_getD, hp]; rfl
      rw [hg] at hk0
      have hj : (joinB sg (vs.take i)).size ≤ 1000 * 10010 := by
        have h1 := joinB_size sg 10000 (vs.take i) (fun p hp => HZ.out p (List.mem_of_mem_take hp))
        refine Nat.le_trans h1 (Nat.mul_le_mul ?_ (by omega))
        rw [List.length_take]; omega
      have hps := HZ.out p (List.mem_of_getElem? hp)
      by_cases h0 : i = 0
      · have b0 : decide ((0 : Int) < (i : Int)) = false := decide_eq_false (by omega)
        have b1 : decide (0 < i) = false := decide_eq_false (by omega)
        have HX : Aside0 (joinB sg (vs.take (i + 1)) = joinB sg (vs.take i) ++ p) := ⟨by subst h0; exact joinB_first sg hp⟩
        obtain ⟨z1, z2, z3⟩ := small_sum (a := joinB sg (vs.take i)) (b := p) (by omega)
        clear hp hg h0 hj hps
        go_wp2
        go_roundg (n - (i + 1))
        case measure => have := HI.out; omega
        case rel => exact ⟨i + 1, by go_num, by rw [HX.out]; try rfl, rfl, ⟨by omega⟩⟩
      · have b0 : decide ((0 : Int) < (i : Int)) = true := decide_eq_true (by omega)
        have b1 : decide (0 < i) = true := decide_eq_true (by omega)
        have HX : Aside0 (joinB sg (vs.take (i + 1)) = joinB sg (vs.take i) ++ sg ++ p) := ⟨joinB_next sg h0 hp⟩
        obtain ⟨z1, z2, z3⟩ := small_sum (a := joinB sg (vs.take i)) (b := sg) (by omega)
        have z4 : (9223372036854775807 < (joinB sg (vs.take i)).size + sg.size + p.size) = False := eq_false (by omega)
        have z5 : ((9223372036854775807 : Int) < ((joinB sg (vs.take i)).size : Int) + (sg.size : Int) + (p.size : Int)) = False := eq_false (by omega)
        have z6 : decide (9223372036854775807 < (joinB sg (vs.take i)).size + sg.size + p.size) = false := decide_eq_false (by omega)
        clear hp hg h0 hj hps
        go_wp2
        go_roundg (n - (i + 1))
        case measure => have := HI.out; omega
        case rel => exact ⟨i + 1, by go_num, by rw [HX.out]; try rfl, rfl, ⟨by omega⟩⟩
    · have hje : i = n := by have := HI.out; omega
      have HX : Aside0 (joinB sg (vs.take i) = joinB sg vs) := ⟨by rw [List.take_of_length_le (by rw [HLN.out, hje]; exact Nat.le_refl _)]⟩
      go_wp2
      go_ret
      exact ⟨by rw [HX.out]; try rfl, rfl⟩

set_option maxHeartbeats 8000000 in
theorem BufW_calls (g : Nat) (a s : ByteArray) (hs : a.size + s.size ≤ 1000000000) (w : World) (hg : w.heap[g]? = some (.cells #[.string a] 274 (0, 0))) :
    Calls Tryz.prog 220 #[.pointer (some ⟨g, 0, none⟩), .string s] w fun e w' => e = .returned (.tuple #[]) ∧ w' = w.setCell ⟨g, 0, none⟩ (.string (a ++ s)) := by
  have h0 : w.cell? ⟨g, 0, none⟩ = some (.string a) := (blk_cell hg 0).trans rfl
  have h1 : w.frozen? ⟨g, 0, none⟩ = false := blk_frozen hg 0
  obtain ⟨z1, z2, z3⟩ := small_sum hs
  clear hg
  go_enter Tryz.func220, Tryz.ntmps220
  go_wp2
  go_end0
  exact ⟨rfl, rfl⟩
end Go.Proofs.YthfjolafikgpoaaGreatDoor.Hand

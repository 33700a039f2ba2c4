/- labels.Set's String, labels.FormatLabels, impl.LabelsText. -/
import Derived.Test.YthfjolafikgpoaaGreatDoorLRStrSlice
import Derived.Test.YthfjolafikgpoaaGreatDoorLRM17
import Derived.Test.YthfjolafikgpoaaGreatDoorLRM18
namespace Go.Proofs.YthfjolafikgpoaaGreatDoor.Hand
open Go.RowKit Go.Maps Go.Proofs.YthfjolafikgpoaaGreatDoorW.PrintWords Go.Proofs.YthfjolafikgpoaaGreatDoorW.PrintLast Go.Proofs.YthfjolafikgpoaaGreatDoorW.PrintMore Go.Proofs.YthfjolafikgpoaaGreatDoor.Base
open Go.Sort (ltStr)
set_option linter.unusedVariables false
set_option linter.unusedSimpArgs false
set_option maxRecDepth 100000
/-- A label as it is written. -/
def kv (p : LP) : L := p.1 ++ 61 :: p.2
theorem ba_lit2' (a b : L) : (⟨a.toArray⟩ : ByteArray) ++ ⟨b.toArray⟩ = ⟨(a ++ b).toArray⟩ := by
  apply ByteArray.ext; simp
theorem kv_app (s v : ByteArray) : s ++ ⟨#[61]⟩ ++ v = mk (kv (s.data.toList, v.data.toList)) := by
  have h := ba_lit2' (s.data.toList ++ [61]) v.data.toList
  have h2 := ba_lit2' s.data.toList [61]
  rw [← h2] at h
  rw [show kv (s.data.toList, v.data.toList) = s.data.toList ++ [61] ++ v.data.toList by simp [kv]]
  exact h
theorem nodup_perm {α : Type} [BEq α] [LawfulBEq α] : ∀ {l1 l2 : List α}, l1.Nodup → l2.Nodup → (∀ x, x ∈ l1 ↔ x ∈ l2) → l1.Perm l2
  | [], l2, _, _, h => by
    cases l2 with
    | nil => exact List.Perm.refl _
    | cons a t => exact absurd ((h a).2 (by simp)) (by simp)
  | a :: t, l2, h1, h2, h => by
    obtain ⟨hat, ht⟩ := List.nodup_cons.1 h1
    have ha : a ∈ l2 := (h a).1 (by simp)
    have ih : t.Perm (l2.erase a) := nodup_perm ht (h2.erase a) (fun x => by
      rw [h2.mem_erase_iff]
      constructor
      · intro hx
        exact ⟨fun e => hat (e ▸ hx), (h x).1 (by simp [hx])⟩
      · rintro ⟨hne, hx⟩
        rcases List.mem_cons.1 ((h x).2 hx) with e | e
        · exact absurd e hne
        · exact e)
    exact (ih.cons a).trans (List.perm_cons_erase ha).symm
theorem nodup_keys {xs : List LP} (h : (xs.map (·.1)).Nodup) : xs.Nodup := by
  unfold List.Nodup at *
  exact (List.pairwise_map.1 h).imp (fun {a b} hne e => hne (congrArg Prod.fst e))
theorem sk_keys {xs : List LP} (h : SK xs) : (xs.map (·.1)).Nodup := by
  unfold List.Nodup
  rw [List.pairwise_map]
  exact h.imp (fun {a b} hlt e => by rw [e, irr] at hlt; cases hlt)
theorem keyL_perm {ks xs : List LP} (h : (xs.map (·.1)).Nodup) (hm : ∀ k v, (k, v) ∈ xs ↔ mget ks k = some v) : xs.Perm (keyL ks.reverse) := by
  obtain ⟨s2, m2⟩ := keyL_mem ks.reverse
  refine nodup_perm (nodup_keys h) (nodup_keys (sk_keys s2)) (fun q => ?_)
  obtain ⟨k, v⟩ := q
  rw [hm, m2, List.reverse_reverse]
theorem row_neZ {W : World} {base b r N cnt : Nat} {v : Value} {xs : List ByteArray} {ks : List LP} {left : List L} (h : Kd.R Kd.string 9 W base (fun _ => True) v xs) (hr : LzR W b r N cnt ks left) : some b ≠ v.ownBlock ∧ some r ≠ v.ownBlock := by
  constructor
  · intro he
    obtain ⟨cells, hc⟩ := Kd.R_typed h b he.symm
    obtain ⟨es, c, hm⟩ := hr.map
    rw [hm] at hc; cases hc
  · intro he
    obtain ⟨cells, hc⟩ := Kd.R_typed h r he.symm
    obtain ⟨x, y, z, t, hm⟩ := hr.iter
    rw [hm] at hc; cases hc
set_option maxHeartbeats 8000000 in
theorem LString_calls (b N : Nat) (ks : List LP) (hz : ∀ k v, mget ks k = some v → k.length ≤ 1000 ∧ v.length ≤ 1000) (hl : (dk ks).length ≤ 1000) (T : List L) (hT : Asc T) (hTp : T.Perm ((keyL ks.reverse).map kv)) (w : World) (h : IsLz w b N ks) :
    Calls Tryz.prog 67 #[.map (some b)] w fun e w' => e = .returned (.string (joinB ⟨#[44]⟩ (T.map mk))) ∧ Below w.heap.size w w' := by
  have HS := Aside0.mk h
  have HZ := Aside0.mk hz
  have HT := Aside0.mk (And.intro hT hTp)
  have HB := Aside0.mk (Below.refl w.heap.size w)
  have HSO := Aside0.mk (fun l W base v hR hn => SSort_calls l W base v hR hn)
  have HJ := Aside0.mk (fun A c n vs (hn : vs.length = n) hn2 hz W hC => zzJoin_calls ⟨#[44]⟩ (by decide) A c n vs hn hn2 hz W hC)
  obtain ⟨i0, hi0, hz0, hz1, hz2⟩ := info_parts infoS
  have HI0 := Aside0.mk (And.intro hi0 (And.intro hz0 (And.intro hz1 hz2)))
  obtain ⟨nk, hnk⟩ : ∃ nk, (dk ks).length = nk := ⟨_, rfl⟩
  have HNK := Aside0.mk hnk
  have hkn : nk ≤ 1000 := by omega
  clear h hz hl hT hTp hi0 hz0 hz1 hz2 hnk
  go_enter Tryz.func67, Tryz.ntmps67
  go_wp2_with (first
    | (at_len; refine len_lab _ (.tmp 6) 96 Tryz.underlying96 rfl rfl b N ks rfl HS.out ?_; rw [HNK.out])
    | (at_make; refine wpList_make_own _ rfl _ _ 51 rfl w.heap.size 9 i0 _ 1 Tryz.underlying51 HI0.out.1 HI0.out.2.1 HI0.out.2.2.1 _ _ _ nk rfl rfl rfl (by rw [HI0.out.2.2.2]; omega) (by unfold maxLen; omega) (Nat.le_refl _) ?_; intro w1 hown hgrow; have HR := Aside0.mk (show Kd.R Kd.string 9 w1 w.heap.size (fun _ => True) (.slice (some ⟨w.heap.size, 0, none⟩) 0 nk) ([] : List ByteArray) from Kd.R_of_own hown (fun _ _ => trivial)); have HW1 := Aside0.mk hgrow.size; have HB1 := Aside0.mk (Below.grown HB.out hgrow (Nat.le_refl _) (fun j hj => by cases hj)); have HS1 := Aside0.mk (HS.out.kept hgrow (by simp)); clear hown hgrow HB; have HB := HB1; clear HB1)
    | (at_range; refine range_lab _ 96 Tryz.underlying96 rfl _ rfl b N ks rfl HS1.out ?_; intro w2 hrg hg hs2; have HRG := Aside0.mk hrg; have HR2 := Aside0.mk (Kd.R_grown1 HR.out rfl hg (by simp [Value.ownBlock])); have HB2 := Aside0.mk (pw_below_grown HB.out none (below_size HB.out) hg (fun j hj => by cases hj)); clear hrg hg HR HB; have HR := HR2; have HB := HB2; clear HR2 HB2))
  try go_frame
  rw [HNK.out] at HRG
  clear HI0 HS HS1
  go_loopg [3, 4, 5] (nk) (fun g v3 v4 v5 w' => ∃ (left : List L) (xs : List LP), Aside0 (LzR w' b w1.heap.size N g ks left ∧ left.Nodup) ∧ Aside0 (prR ks left xs ∧ xs.length + left.length = nk) ∧ Aside0 (Kd.R Kd.string 9 w' w.heap.size (fun _ => True) v3 ((xs.map kv).map mk)) ∧ Aside0 (Below w.heap.size w w' ∧ w.heap.size ≤ w1.heap.size))
  case atStart => exact ⟨dk ks, [], ⟨HRG.out, dk_nodup ks⟩, ⟨prR_start ks, by rw [HNK.out]; simp⟩, HR, ⟨HB.out, HW1.out⟩⟩
  case round =>
    clear HRG HR HB
    obtain ⟨left, xs, HRG, HP, HR, HB0⟩ := hrel
    have HB := Aside0.mk HB0.out.1
    have hxl : xs.length ≤ 1000 := by have := HP.out.2; omega
    go_wp2_with (first | (at_next; refine next_lab _ rfl _ rfl b w1.heap.size N gk ks left rfl HRG.out.1 ?_ ?_))
    · intro h0 hl0
      subst hl0
      have HME : Aside0 (∀ k v, (k, v) ∈ xs ↔ mget ks k = some v) := ⟨fun k v => by rw [HP.out.1.2]; simp⟩
      have HPX := Aside0.mk (keyL_perm HP.out.1.1 HME.out)
      have HSV := Aside0.mk (HSO.out (xs.map kv) wr w.heap.size u3 HR.out (by rw [List.length_map]; omega))
      have HBS := Aside0.mk (fun k hk => Kd.R_base HR.out k hk)
      have HXZ : Aside0 (∀ p ∈ xs, (kv p).length ≤ 2001) := ⟨fun p hp => by
        obtain ⟨k, v⟩ := p
        have := HZ.out k v ((HME.out k v).1 hp)
        simp only [kv, List.length_append, List.length_cons]; omega⟩
      clear h0 HRG HSO HR HME
      go_wp2_with (first
        | ((with_reducible refine (HSV.out).mono ?_); rintro e w4 ⟨rfl, l', hp, ha, hr, hg⟩; have HB4 := Aside0.mk (pw_below_grown HB.out _ (below_size HB.out) hg HBS.out); have hlT : l' = T := asc_unique (hp.trans ((HPX.out.map kv).trans HT.out.2.symm)) ha HT.out.1; have hln : (l'.map mk).length = xs.length := (by rw [List.length_map, hp.length_eq, List.length_map]); (obtain ⟨A3, c3, e3⟩ := Kd.R_slice hr); rw [hln] at e3; subst e3; have HJV := Aside0.mk (HJ.out A3 c3 xs.length (l'.map mk) hln hxl (fun p hpm => by (obtain ⟨u, hu, rfl⟩ := List.mem_map.1 hpm); (obtain ⟨q, hq, rfl⟩ := List.mem_map.1 (hp.mem_iff.1 hu)); have := HXZ.out q hq; rw [mk_size]; omega) w4 (by first | exact (Kd.R_reads' hr).2.2 | (have h9 := (Kd.R_reads' hr).2.2; rw [hln] at h9; exact h9))); rw [hlT] at HJV; clear hp ha hr hg HSV hlT hln)
        | ((with_reducible refine (HJV.out).mono ?_); rintro e w5 ⟨rfl, rfl⟩))
      go_ret
      exact ⟨rfl, HB4.out⟩
    · intro s v w3 cnt hs hv hrg hlt hg hsz hen
      have HR3 := Aside0.mk (R_iter HR.out HRG.out.1.iter hg)
      have HB3 := Aside0.mk (pw_below_grown HB.out _ (below_size HB.out) hg (fun k hk => by cases hk; exact HB0.out.2))
      have HRG3 := Aside0.mk hrg
      have HN3 := Aside0.mk (delK_nodup HRG.out.2 s.data.toList)
      have hdl := delK_len HRG.out.2 s.data.toList
      rw [if_pos (List.contains_iff_mem.2 hs)] at hdl
      have HPS := Aside0.mk (prR_step HP.out.1 hs hv)
      have HNL : Aside0 ((xs ++ [(s.data.toList, v.data.toList)]).length + (delK left s.data.toList).length = nk) := ⟨by have := HP.out.2; rw [List.length_append, List.length_singleton]; omega⟩
      have HNEW : Aside0 ((xs.map kv).map mk ++ [s ++ ⟨#[61]⟩ ++ v] = ((xs ++ [(s.data.toList, v.data.toList)]).map kv).map mk) := ⟨by rw [List.map_append, List.map_append, kv_app]; rfl⟩
      have HLEN : Aside0 (((xs.map kv).map mk).length ≤ 1000) := ⟨by rw [List.length_map, List.length_map]; exact hxl⟩
      have HLT := Aside0.mk hlt
      have hzz := HZ.out _ _ hv
      have hsz1 : s.size ≤ 1000 := by rw [Lib.size_eq]; exact hzz.1
      have hsz2 : v.size ≤ 1000 := by rw [Lib.size_eq]; exact hzz.2
      obtain ⟨z1, z2, z3⟩ := small_sum (a := s) (b := ⟨#[61]⟩) (by have : (⟨#[61]⟩ : ByteArray).size = 1 := rfl; omega)
      obtain ⟨y1, y2, y3⟩ := small_sum (a := s ++ ⟨#[61]⟩) (b := v) (by rw [ByteArray.size_append]; have : (⟨#[61]⟩ : ByteArray).size = 1 := rfl; omega)
      clear HR HB HRG HP hs hv hrg hlt hg hsz hdl hzz hxl
      go_wp2_with (first | ((with_reducible refine gate_builtin (b := .append) (xs := #[.tmp 16, .tmp 21]) rfl ?_); (try (refine gate_guard (by rfl) ?_; dsimp only)); at_builtin; refine Kd.R_append Kd.string (w0 := w) w.heap.size rfl (.tmp 16) (.tmp 21) 51 9 (.string ⟨#[]⟩) 16 rfl Tryz.underlying51 infoS rfl (by decide) (by omega) u3 ((xs.map kv).map mk) (s ++ (⟨#[61]⟩ : ByteArray) ++ v) [.string (s ++ (⟨#[61]⟩ : ByteArray) ++ v)] (fun _ => True) (fun _ => False) rfl rfl ?aP (fun _ hk => hk.elim) ?aF ?aO ?aB ?aS ?aL ?_; (case aP => exact rfl); (case aB => exact (by repeat (first | (with_reducible first | exact HB3.out | apply below_alloc | apply pw_below_drewN | apply below_drew1) | exact HB3.out))); (case aF => exact (fun _ _ => trivial)); (case aO => exact (by (with_reducible repeat (first | apply Kd.R_alloc | apply Kd.R_drewN | apply Kd.R_drew)); exact HR3.out)); (case aS => exact (below_size (by repeat (first | (with_reducible first | exact HB3.out | apply below_alloc | apply pw_below_drewN | apply below_drew1) | exact HB3.out)))); (case aL => have := HLEN.out; (try simp only [List.length_map, List.length_nil] at *); omega); intro vN wN2 ho hb hg hat; have HRG4 := Aside0.mk (HRG3.out.kept hg (row_neZ HR3.out HRG3.out).1 (row_neZ HR3.out HRG3.out).2); rw [HNEW.out] at ho; clear HB3; clear HR3; have HB3 := Aside0.mk hb; have HR3 := Aside0.mk ho; clear ho hb hg hat))
      go_roundg cnt
      case measure => exact HLT.out
      case rel => exact ⟨_, _, ⟨HRG4.out, HN3.out⟩, ⟨HPS.out, HNL.out⟩, HR3, ⟨HB3.out, HB0.out.2⟩⟩
/-- Labels as they are shown: none of them as a word. -/
def fmtB (t : ByteArray) : ByteArray := if t.toList = [] then ⟨#[60, 110, 111, 110, 101, 62]⟩ else t
set_option maxHeartbeats 4000000 in
theorem Format_calls (b N : Nat) (ks : List LP) (hz : ∀ k v, mget ks k = some v → k.length ≤ 1000 ∧ v.length ≤ 1000) (hl : (dk ks).length ≤ 1000) (T : List L) (hT : Asc T) (hTp : T.Perm ((keyL ks.reverse).map kv)) (w : World) (h : IsLz w b N ks) :
    Calls Tryz.prog 68 #[.map (some b)] w fun e w' => e = .returned (.string (fmtB (joinB ⟨#[44]⟩ (T.map mk)))) ∧ Below w.heap.size w w' := by
  have H := Aside0.mk (LString_calls b N ks hz hl T hT hTp w h)
  clear hz hl hT hTp h
  generalize joinB ⟨#[44]⟩ (T.map mk) = J at *
  by_cases hj : J.toList = []
  · rw [show fmtB J = ⟨#[60, 110, 111, 110, 101, 62]⟩ from if_pos hj]
    have hb : (J.toList == ([] : List UInt8)) = true := by rw [hj]; rfl
    clear hj
    go_enter Tryz.func68, Tryz.ntmps68
    go_wp2_with (first | ((with_reducible refine (H.out).mono ?_); rintro e w1 ⟨rfl, hb1⟩; have HB1 := Aside0.mk hb1; clear hb1 H))
    go_ret
    exact ⟨rfl, HB1.out⟩
  · rw [show fmtB J = J from if_neg hj]
    have hb : (J.toList == ([] : List UInt8)) = false := by rw [beq_eq_false_iff_ne]; exact hj
    clear hj
    go_enter Tryz.func68, Tryz.ntmps68
    go_wp2_with (first | ((with_reducible refine (H.out).mono ?_); rintro e w1 ⟨rfl, hb1⟩; have HB1 := Aside0.mk hb1; clear hb1 H))
    go_ret
    exact ⟨rfl, HB1.out⟩
theorem keyL_sub {l : List LP} {p : LP} (h : p ∈ keyL l) : p ∈ l := by
  obtain ⟨k, v⟩ := p
  have h2 := ((keyL_mem l).2 k v).1 h
  unfold mget at h2
  obtain ⟨q, hq, hqv⟩ := Option.map_eq_some_iff.1 h2
  have hm := List.mem_of_find?_eq_some hq
  have he := List.find?_some hq
  have e1 : q.1 = k := by simpa using he
  rw [List.mem_reverse] at hm
  obtain ⟨qk, qv⟩ := q
  obtain rfl : qk = k := e1
  obtain rfl : qv = v := hqv
  exact hm
theorem rev_sizes1 {l : List (ByteArray × ByteArray)} (hz : ∀ p ∈ l, p.1.size ≤ 1000 ∧ p.2.size ≤ 1000) : ∀ k v, mget (labRev l) k = some v → k.length ≤ 1000 ∧ v.length ≤ 1000 := by
  intro k v hv
  unfold mget at hv
  obtain ⟨q, hq, hqv⟩ := Option.map_eq_some_iff.1 hv
  have hm := List.mem_of_find?_eq_some hq
  have he := List.find?_some hq
  unfold labRev at hm
  rw [List.mem_reverse, List.mem_map] at hm
  obtain ⟨p, hp, rfl⟩ := hm
  have e1 : p.1.data.toList = k := by simpa using he
  have e2 : p.2.data.toList = v := hqv
  rw [← e1, ← e2]
  exact hz p hp
set_option maxHeartbeats 4000000 in
theorem IText_calls (A : Option Addr) (c : Nat) (l : List (ByteArray × ByteArray)) (hl : l.length ≤ 400) (hz : ∀ p ∈ l, p.1.size ≤ 1000 ∧ p.2.size ≤ 1000) (T : List L) (hT : Asc T) (hTp : T.Perm ((keyL (l.map unP)).map kv)) (w : World) (hx : PK.C w A l.length l) :
    Calls Tryz.prog 33 #[.slice A l.length c] w fun e w' => e = .returned (.tuple #[.string (joinB ⟨#[44]⟩ (T.map mk)), .string (fmtB (joinB ⟨#[44]⟩ (T.map mk)))]) ∧ Below w.heap.size w w' := by
  have HX := Aside0.mk hx
  have H1 := Aside0.mk (fun W (h : PK.C W A l.length l) => setOfZ_calls A c l (by omega) (fun p hp => by have := hz p hp; omega) W h)
  have d1 : (dk (labRev l)).length ≤ 1000 := Nat.le_trans (dk_le _) (by unfold labRev; simp; omega)
  have hTq : T.Perm ((keyL (labRev l).reverse).map kv) := by rw [labRev_un, List.reverse_reverse]; exact hTp
  have H2 := Aside0.mk (fun b N W h => LString_calls b N (labRev l) (rev_sizes1 hz) d1 T hT hTq W h)
  have H3 := Aside0.mk (fun b N W h => Format_calls b N (labRev l) (rev_sizes1 hz) d1 T hT hTq W h)
  have HB := Aside0.mk (Below.refl w.heap.size w)
  clear hx hz hT hTp d1 hTq
  generalize fmtB (joinB ⟨#[44]⟩ (T.map mk)) = F at *
  generalize joinB ⟨#[44]⟩ (T.map mk) = J at *
  go_enter Tryz.func33, Tryz.ntmps33
  go_wp2_with (first
    | ((with_reducible refine (H3.out _ _ _ HI3.out).mono ?_); rintro e w4 ⟨rfl, hb⟩; have HB4 := Aside0.mk (below_step HB3.out hb); clear hb H3)
    | ((with_reducible refine (H2.out _ _ _ HI1.out).mono ?_); rintro e w2 ⟨rfl, hb⟩; have HX2 := Aside0.mk (Kd.C_below HX1.out hb); have HB2 := Aside0.mk (below_step HB1.out hb); clear hb H2)
    | ((with_reducible refine (H1.out _ HX2.out).mono ?_); rintro e w3 ⟨rfl, hi, hb⟩; have HI3 := Aside0.mk hi; have HB3 := Aside0.mk (below_step HB2.out hb); clear hi hb H1)
    | ((with_reducible refine (H1.out _ HX.out).mono ?_); rintro e w1 ⟨rfl, hi, hb⟩; have HI1 := Aside0.mk hi; have HX1 := Aside0.mk (Kd.C_below HX.out hb); have HB1 := Aside0.mk (below_step HB.out hb); clear hi hb))
  refine bodyPost_ret (v := .tuple #[.string J, .string F]) (by simp [results, Tryz.results33, go_sem]) rfl ?_
  exact ⟨rfl, HB4.out⟩
end Go.Proofs.YthfjolafikgpoaaGreatDoor.Hand

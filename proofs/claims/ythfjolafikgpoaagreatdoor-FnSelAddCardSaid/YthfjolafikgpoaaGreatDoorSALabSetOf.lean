/- spec.SetOf: texts in their order, each once. -/
import Derived.Test.YthfjolafikgpoaaGreatDoorSALabNew
import Derived.Sort.Walk0
import Derived.RegionTactic
import Derived.Deep.RegionLaw
import Derived.Laws.CopyOwn
namespace Go.Proofs.YthfjolafikgpoaaGreatDoor.Hand
open Go.RowKit Go.Proofs.YthfjolafikgpoaaGreatDoorW.PrintWords Go.Proofs.YthfjolafikgpoaaGreatDoorW.PrintLast Go.Proofs.YthfjolafikgpoaaGreatDoorW.PrintMore Go.Proofs.YthfjolafikgpoaaGreatDoor.Base
set_option linter.unusedVariables false
set_option linter.unusedSimpArgs false
set_option maxRecDepth 100000
open Go.Sort (ltStr)
def posOf : List L → L → Nat
 | [], _ => 0
 | y :: r, s => if ltStr y s = true then posOf r s + 1 else 0
def insS (out : List L) (s : L) : List L := if out[posOf out s]? = some s then out else out.take (posOf out s) ++ s :: out.drop (posOf out s)
def setL (l : List L) : List L := l.foldl insS []
theorem posOf_le : ∀ (out : List L) (s : L), posOf out s ≤ out.length
 | [], _ => by simp [posOf]
 | y :: r, s => by unfold posOf; split; have := posOf_le r s; simp; omega; simp
theorem posOf_lt : ∀ (out : List L) (s : L) (k : Nat) (h : k < out.length), k < posOf out s → ltStr out[k] s = true
 | [], _, _, h, _ => absurd h (by simp)
 | y :: r, s, k, h, hk => by
   unfold posOf at hk
   split at hk
   · rename_i hy
     cases k with
     | zero => exact hy
     | succ k => exact posOf_lt r s k (by simpa using h) (by omega)
   · omega
theorem posOf_at : ∀ (out : List L) (s : L) (h : posOf out s < out.length), ltStr out[posOf out s] s = false
 | [], _, h => absurd h (by simp)
 | y :: r, s, h => by
   by_cases hy : ltStr y s = true
   · have e : posOf (y :: r) s = posOf r s + 1 := by simp [posOf, hy]
     have h2 : posOf r s < r.length := by rw [e] at h; simpa using h
     have := posOf_at r s h2
     simp only [e, List.getElem_cons_succ]
     exact this
   · have e : posOf (y :: r) s = 0 := by simp [posOf, hy]
     simp only [e, List.getElem_cons_zero]
     simpa using hy
theorem insS_len (out : List L) (s : L) : (insS out s).length ≤ out.length + 1 := by
 unfold insS; split
 · omega
 · have := posOf_le out s; simp; omega
theorem setL_len (l : List L) : (setL l).length ≤ l.length := by
 have h : ∀ (l out : List L), (l.foldl insS out).length ≤ out.length + l.length := by
  intro l
  induction l with
  | nil => intro out; simp
  | cons x l ih => intro out; have := ih (insS out x); have := insS_len out x; simp only [List.foldl_cons, List.length_cons] at *; omega
 have := h l []; simpa [setL] using this
theorem setL_snoc (l : List L) (j : Nat) (h : j < l.length) : setL (l.take (j + 1)) = insS (setL (l.take j)) l[j] := by
 rw [← take_one l j h]; unfold setL; rw [List.foldl_append]; rfl
theorem ltS (x y : L) : Op.bytesLess x y = ltStr x y := by simp [ltStr, bytesLess_eq]
theorem shift_own {W : World} {base g cap n p : Nat} {xs : List ByteArray} (hR : Kd.R Kd.string 9 W base (fun _ => True) (.slice (some ⟨g, 0, none⟩) (n + 1) cap) xs) (hp : p ≤ n) :
   ∃ cur cs : List Value, cs.length = n - p ∧ n + 1 ≤ cap ∧ cur.length = cap ∧ base ≤ g ∧ W.heap[g]? = some (.cells cur.toArray 9 (0, 0)) ∧ (∀ j v, cs[j]? = some v → W.cell? ((⟨g, p, none⟩ : Addr).add j) = some v) ∧ (∀ v ∈ cs, v.oneCell' = true) ∧
     ∀ W' : World, W'.heap[g]? = some (.cells (splice cur (p + 1) cs).toArray 9 (0, 0)) → Kd.R Kd.string 9 W' base (fun _ => True) (.slice (some ⟨g, 0, none⟩) (n + 1) cap) (xs.take (p + 1) ++ (xs.drop p).take (n - p)) := by
 have hlen := (Kd.R_reads' hR).1
 have hown := Kd.own_of_R hR
 obtain ⟨hl, ⟨e, _⟩ | ⟨g', cap', cur, e, hbase, hcur, hn, hcm, hsz, htk⟩⟩ := hown
 · exact absurd e (by simp)
 · have hg : g' = g ∧ n + 1 = xs.length ∧ cap' = cap := by
    simp only [Value.slice.injEq, Option.some.injEq, Addr.mk.injEq] at e
    exact ⟨e.1.1.symm, e.2.1, e.2.2.symm⟩
   obtain ⟨rfl, hnx, rfl⟩ := hg
   have hxs : (cur.toList.take (n + 1)) = encs Value.string xs := by rw [← htk, ← hnx, Nat.mul_one]
   have hsz' : cur.size = cap' := by rw [hsz, Nat.mul_one]
   refine ⟨cur.toList, (cur.toList.drop p).take (n - p), by simp; omega, by omega, by simp [hsz'], hbase, by simpa using hcur, fun j v hv => ?_, fun v hv => ?_, fun W' hW' => Kd.R_of_own ?_ (fun _ _ => trivial)⟩
   · have hj : j < n - p := by
      have := (List.getElem?_eq_some_iff.1 hv).1
      simp at this; omega
     rw [List.getElem?_take_of_lt hj, List.getElem?_drop] at hv
     rw [Addr.add_lit]
     simpa [World.cell?, hcur] using hv
   · have h1 : v ∈ encs Value.string xs := by
      rw [← hxs]
      have h2 := List.mem_of_mem_take hv
      obtain ⟨j, hj, hv'⟩ := List.getElem_of_mem hv
      rw [← hv', List.getElem_take, List.getElem_drop]
      have hj' : j < n - p := by simp at hj; omega
      exact List.mem_iff_getElem.2 ⟨p + j, by simp; omega, by rw [List.getElem_take]⟩
     obtain ⟨b, _, rfl⟩ := List.mem_map.1 (by simpa [encs] using h1)
     rfl
   · have hyl : (xs.take (p + 1) ++ (xs.drop p).take (n - p)).length = n + 1 := by simp; omega
     refine ⟨by simp [encs], .inr ⟨g', cap', (splice cur.toList (p + 1) ((cur.toList.drop p).take (n - p))).toArray, by rw [hyl], hbase, hW', by rw [hyl]; omega, hcm, by simp [splice]; omega, ?_⟩⟩
     rw [hyl, Nat.mul_one, List.toList_toArray]
     have e1 : (splice cur.toList (p + 1) ((cur.toList.drop p).take (n - p))).take (n + 1) = cur.toList.take (p + 1) ++ (cur.toList.drop p).take (n - p) := by
      unfold splice
      rw [← List.append_assoc, List.take_append_of_le_length (by simp; omega)]
      exact List.take_of_length_le (by simp; omega)
     rw [e1]
     have e2 : cur.toList.take (p + 1) = (encs Value.string xs).take (p + 1) := by rw [← hxs, List.take_take]; congr 1; omega
     have e3 : (cur.toList.drop p).take (n - p) = ((encs Value.string xs).drop p).take (n - p) := by
      rw [← hxs, List.drop_take, List.take_take]; congr 1; omega
     rw [e2, e3]; simp [encs, List.map_take, List.map_drop]
theorem shift_pure {α : Type} (out : List α) (z s : α) (p : Nat) (hp : p ≤ out.length) : (((out ++ [z]).take (p + 1) ++ ((out ++ [z]).drop p).take (out.length - p)).set p s) = out.take p ++ s :: out.drop p := by
 have h1 : ((out ++ [z]).drop p).take (out.length - p) = out.drop p := by
  rw [List.drop_append_of_le_length hp, List.take_append_of_le_length (by simp)]
  exact List.take_of_length_le (by simp)
 rw [h1]
 have hl : p < (out ++ [z]).length := by simp; omega
 have h2 : (out ++ [z]).take (p + 1) = out.take p ++ [(out ++ [z])[p]] := by
  rw [List.take_succ_eq_append_getElem hl, List.take_append_of_le_length hp]
 rw [h2, List.append_assoc, List.set_append_right _ _ (by simp; omega)]
 simp [Nat.min_eq_left hp]
theorem insS_same {out : List L} {s : L} {p : Nat} (hp : posOf out s = p) (h : out[p]? = some s) : insS out s = out := by unfold insS; rw [hp, if_pos h]
theorem insS_new {out : List L} {s : L} {p : Nat} (hp : posOf out s = p) (h : out[p]? ≠ some s) : insS out s = out.take p ++ s :: out.drop p := by unfold insS; rw [hp, if_neg h]
set_option maxHeartbeats 8000000 in
theorem SetOf_calls (A : Option Addr) (c : Nat) (l : List L) (hl : l.length ≤ 1000) (w : World) (hr : Kd.C Kd.string w A l.length (l.map mk)) (hc : l.length ≤ c) :
   Calls Tryz.prog 42 #[.slice A l.length c] w fun e w' => ∃ v : Value, e = .returned v ∧ Kd.R Kd.string 9 w' w.heap.size (fun _ => True) v ((setL l).map mk) ∧ Below w.heap.size w w' := by
 have HA := Aside0.mk hr
 have HB := Aside0.mk (Below.refl w.heap.size w)
 clear hr
 go_enter Tryz.func42, Tryz.ntmps42
 go_wp2
 go_loopg [3, 5, 6, 9] (l.length) (fun g v3 v5 v6 v9 w' => ∃ j : Nat, v9 = .int .i64 j ∧ Aside0 (g + j = l.length) ∧ Aside0 (Kd.R Kd.string 9 w' w.heap.size (fun _ => True) v3 ((setL (l.take j)).map mk)) ∧ Aside0 (Below w.heap.size w w'))
 case atStart => exact ⟨0, rfl, ⟨by omega⟩, ⟨Kd.R_nil _ _ _ _ _⟩, HB⟩
 case round =>
  clear HB
  obtain ⟨j, rfl, HJ, HR, HB⟩ := hrel
  have hj : j ≤ l.length := by have := HJ.out; omega
  by_cases hjl : j < l.length
  · have hsn := setL_snoc l j hjl
    obtain ⟨out, hout⟩ : ∃ out, setL (l.take j) = out := ⟨_, rfl⟩
    have hol : out.length ≤ j := by rw [← hout]; have := setL_len (l.take j); simp at this; omega
    obtain ⟨ad, eA, hcell⟩ := Kd.at_string (Kd.C_below HA.out HB.out) (j : Int) (by omega) (by omega)
    subst eA
    obtain ⟨s, hs⟩ : ∃ s, l[j] = s := ⟨_, rfl⟩
    rw [rd_mk, Int.toNat_natCast, getD_of l [] hjl, hs] at hcell
    rw [hout, hs] at hsn
    obtain ⟨sp, hsp⟩ : ∃ sp, mk s = sp := ⟨_, rfl⟩
    rw [hsp] at hcell
    have HRO := HR.out
    rw [hout] at HRO
    clear HR
    have HR := Aside0.mk HRO
    have HSN := Aside0.mk hsn
    have HSP : Aside0 (sp.toList = s ∧ mk s = sp) := ⟨by rw [← hsp, mk_toList], hsp⟩
    obtain ⟨A3, c3, e3⟩ := Kd.R_slice HRO
    rw [List.length_map] at e3
    subst e3
    obtain ⟨p, hp⟩ : ∃ p, posOf out s = p := ⟨_, rfl⟩
    have HPE := Aside0.mk hp
    have HP : Aside0 (p ≤ out.length ∧ (∀ k (h : k < out.length), k < p → ltStr out[k] s = true) ∧ ∀ h : p < out.length, ltStr out[p] s = false) := ⟨by subst hp; exact ⟨posOf_le out s, posOf_lt out s, posOf_at out s⟩⟩
    clear hsn hout hs hsp HRO hp
    generalize gk = go at *
    go_upto_block 2 with (fail)
    go_cut [6] (fun v6 wc => v6 = .int .i64 p ∧ wr = wc)
    case first =>
     go_wp2
     go_loopg [6] (p) (fun g v6 w' => ∃ i : Nat, v6 = .int .i64 i ∧ wr = w' ∧ Aside0 (g + i = p))
     case atStart => exact ⟨0, rfl, rfl, ⟨by omega⟩⟩
     case round =>
      obtain ⟨i, rfl, rfl, HI⟩ := hrel
      have hip : i ≤ p := by have := HI.out; omega
      have hpl : p ≤ out.length := HP.out.1
      by_cases hlt : i < out.length
      · obtain ⟨ad2, eA2, hcell2⟩ := Kd.at_string (Kd.R_reads' HR.out).2.2 (i : Int) (by omega) (by rw [List.length_map]; omega)
        subst eA2
        rw [rd_mk, Int.toNat_natCast, getD_of out [] hlt] at hcell2
        obtain ⟨q, hq⟩ : ∃ q, mk out[i] = q := ⟨_, rfl⟩
        rw [hq] at hcell2
        have hqt : Op.bytesLess q.toList sp.toList = ltStr out[i] s := by rw [← hq, mk_toList, HSP.out.1, ltS]
        by_cases hlp : i < p
        · have hb : Op.bytesLess q.toList sp.toList = true := hqt.trans (HP.out.2.1 i hlt hlp)
          clear hqt hq
          go_wp2
          go_roundg (gk - 1)
          case measure => have := HI.out; omega
          case rel => exact ⟨i + 1, by go_num, rfl, ⟨by have := HI.out; omega⟩⟩
        · obtain rfl : i = p := by omega
          have hb : Op.bytesLess q.toList sp.toList = false := hqt.trans (HP.out.2.2 hlt)
          clear hqt hq
          go_wp2
          go_meet
          case rel => exact ⟨rfl, rfl⟩
      · obtain rfl : i = p := by omega
        go_wp2
        go_meet
        case rel => exact ⟨rfl, rfl⟩
    case rest =>
     obtain ⟨rfl, rfl⟩ := hcut
     have hpl : p ≤ out.length := HP.out.1
     by_cases heq : out[p]? = some s
     · have hsame := HSN.out.trans (insS_same HPE.out heq)
       obtain ⟨hlt, hps⟩ := List.getElem?_eq_some_iff.1 heq
       obtain ⟨ad2, eA2, hcell2⟩ := Kd.at_string (Kd.R_reads' HR.out).2.2 (p : Int) (by omega) (by rw [List.length_map]; omega)
       subst eA2
       rw [rd_mk, Int.toNat_natCast, getD_of out [] hlt, hps, HSP.out.2] at hcell2
       have HR2 : Aside0 (Kd.R Kd.string 9 wr w.heap.size (fun _ => True) (.slice (some ad2) out.length c3) ((setL (l.take (j + 1))).map mk)) := ⟨by rw [hsame]; exact HR.out⟩
       clear hsame heq hps HR
       go_wp2
       go_roundg (go - 1)
       case measure => have := HJ.out; omega
       case rel => exact ⟨j + 1, by go_num, ⟨by have := HJ.out; omega⟩, HR2, HB⟩
     · have HNEWS := Aside0.mk (HSN.out.trans (insS_new HPE.out heq))
       have HLEN : Aside0 (out.length ≤ 1000) := ⟨by omega⟩
       have HNEW : Aside0 (out.map mk ++ [(⟨#[]⟩ : ByteArray)] = (out ++ [[]]).map mk) := ⟨by simp [mk]⟩
       rcases (show (¬ p < out.length) ∨ ∃ h : p < out.length, out[p] ≠ s from by
        by_cases h : p < out.length
        · exact .inr ⟨h, fun h2 => heq (by rw [← h2]; exact List.getElem?_eq_getElem h)⟩
        · exact .inl h) with hpn | ⟨hlt, hne⟩
       · clear heq
         go_upto_region 9 with (fail)
         go_wp2_with (first | ((with_reducible refine gate_builtin (b := .append) (xs := #[.tmp 39, .tmp 40]) rfl ?_); (try (refine gate_guard (by rfl) ?_; dsimp only)); at_builtin; refine Kd.R_append Kd.string (w0 := w) w.heap.size rfl (.tmp 39) (.tmp 40) 51 9 (.string ⟨#[]⟩) 16 rfl Tryz.underlying51 infoS rfl (by decide) (by omega) _ (out.map mk) (⟨#[]⟩) [.string (⟨#[]⟩)] (fun _ => True) (fun _ => False) rfl rfl ?aP (fun _ hk => hk.elim) ?aF ?aO ?aB ?aS ?aL ?_; (case aP => exact rfl); (case aB => exact (by repeat (first | (with_reducible first | exact HB.out | apply below_alloc | apply pw_below_drewN | apply below_drew1) | exact HB.out))); (case aF => exact (fun _ _ => trivial)); (case aO => exact (by (with_reducible repeat (first | apply Kd.R_alloc | apply Kd.R_drewN | apply Kd.R_drew)); exact HR.out)); (case aS => exact (below_size (by repeat (first | (with_reducible first | exact HB.out | apply below_alloc | apply pw_below_drewN | apply below_drew1) | exact HB.out)))); (case aL => have := HLEN.out; (try simp only [List.length_map, List.length_nil] at *); omega); intro vN wN2 ho hb hg hat; rw [HNEW.out] at ho; clear HB; clear HR; have HB := Aside0.mk hb; have HR := Aside0.mk ho; clear ho hb hg hat))
         obtain ⟨g, cap, hv, hbg, hgl, hgc⟩ := Kd.R_form HR.out (by simp)
         rw [List.length_map, List.length_append, List.length_singleton] at hv
         subst hv
         obtain ⟨cur, cs, hcl, hcap, hcul, hbg2, hcur, hrd, h1c, hback⟩ := shift_own HR.out hpl
         have HGB := Aside0.mk hback
         have HBG := Aside0.mk hbg
         have s0 : Hid (wN2.drew.heap[g]? = some (.cells cur.toArray 9 (0, 0))) := hcur
         have s1 : Hid (∀ v ∈ cs, v.oneCell' = true) := h1c
         have s2 : Hid (∀ j v, cs[j]? = some v → wN2.drew.cell? ((⟨g, p, none⟩ : Addr).add j) = some v) := hrd
         have s3 : Hid (cs.length = out.length - p) := hcl
         have s4 : Hid (cur.length = cap) := hcul
         have hwr : IntKind.i64.wrap ((p : Int) + 1) = (p : Int) + 1 := by rw [IntKind.wrap_i64]; omega
         have hp0 : (0 : Int) ≤ (p : Int) + 1 := by omega
         have hp1 : (p : Int) + 1 ≤ ((out.length + 1 : Nat) : Int) := by omega
         have hp2 : ((p : Int) + 1).toNat = p + 1 := by omega
         have hp3 : (p : Int) ≤ (out.length : Int) + 1 := by omega
         obtain ⟨A1, hA1⟩ : ∃ A1, (if cap = p + 1 then some (⟨g, 0, none⟩ : Addr) else some ⟨g, p + 1, none⟩) = A1 := ⟨_, rfl⟩
         have hcp : ¬ cap = p := by omega
         have hnc : out.length + 1 ≤ cap := hcap
         have HPos : Hid (0 < out.length - p → A1 = some ⟨g, p + 1, none⟩) := fun h => by rw [← hA1, if_neg (by omega)]
         clear hcur h1c hrd hcl hcul hbg hbg2 hgl hgc hback hcap
         have hbd := Aside0.mk (show Below w.heap.size w wN2.drew from (by repeat (first | (with_reducible first | exact HB.out | apply below_alloc | apply pw_below_drewN | apply below_drew1) | exact HB.out)))
         go_region_law (refine step_copy_splice rfl (.tmp 45) (.tmp 48) 51 51 rfl 9 Tryz.underlying51 (by kernel_rfl) A1 (some ⟨g, p, none⟩) (out.length - p) (cap - (p + 1)) (out.length + 1 - p) (cap - p) (by simp [Act.eval, Act.put]) (by simp [Act.eval, Act.put]) g (p + 1) cur 9 s0.out cs (by rw [s3.out]; exact (Nat.min_eq_right (by omega)).symm) (fun h => ⟨HPos.out (by rw [← s3.out]; exact h), ⟨g, p, none⟩, rfl, s2.out⟩) (by rw [s3.out, s4.out]; omega) s1.out w.heap.size w hbd.out HBG.out ?_; intro w4 hg4 hb4)
         have hR4 := HGB.out w4 hg4.out
         obtain ⟨hc4, hf4⟩ := Kd.R_celln (⟨#[]⟩ : ByteArray) hR4 (p : Int) (by omega) (by omega)
         rw [Int.toNat_natCast] at hc4 hf4
         obtain ⟨hR5, hG5⟩ := Kd.R_putg hR4 (p : Int) sp
         rw [Int.toNat_natCast] at hR5 hG5
         have hl5 : ((out ++ [[]]).map mk).take (p + 1) ++ (((out ++ [[]]).map mk).drop p).take (out.length - p) = (((out ++ [[]]).take (p + 1) ++ ((out ++ [[]]).drop p).take (out.length - p))).map mk := by simp [List.map_take, List.map_drop]
         rw [hl5, ← HSP.out.2, ← List.map_set, shift_pure out [] s p hpl, ← HNEWS.out, HSP.out.2] at hR5
         have HR5 := Aside0.mk hR5
         have HB5 : Aside0 (Below w.heap.size w (w4.setCell ⟨g, p, none⟩ (.string sp))) := ⟨hb4.setCell HBG.out _⟩
         clear hb4 hg4 hR4 hR5 hG5 hl5 s0 s1 s2 s3 s4 hbd HPos hA1 HR HB HGB hwr hp0 hp1 hp2 hp3
         generalize hcv : rdOf (⟨#[]⟩ : ByteArray) _ _ = rv at hc4
         go_wp2
         go_roundg (go - 1)
         case measure => have := HJ.out; omega
         case rel => exact ⟨j + 1, by go_num, ⟨by have := HJ.out; omega⟩, HR5, HB5⟩
       · obtain ⟨ad2, eA2, hcell2⟩ := Kd.at_string (Kd.R_reads' HR.out).2.2 (p : Int) (by omega) (by rw [List.length_map]; omega)
         subst eA2
         rw [rd_mk, Int.toNat_natCast, getD_of out [] hlt] at hcell2
         obtain ⟨q, hq⟩ : ∃ q, mk out[p] = q := ⟨_, rfl⟩
         rw [hq] at hcell2
         have hqb : (q.toList == sp.toList) = false := by
          rw [beq_eq_false_iff_ne]
          intro h
          rw [← hq, mk_toList, HSP.out.1] at h; exact hne h
         clear heq hq hne
         go_upto_region 9 with (fail)
         go_wp2_with (first | ((with_reducible refine gate_builtin (b := .append) (xs := #[.tmp 39, .tmp 40]) rfl ?_); (try (refine gate_guard (by rfl) ?_; dsimp only)); at_builtin; refine Kd.R_append Kd.string (w0 := w) w.heap.size rfl (.tmp 39) (.tmp 40) 51 9 (.string ⟨#[]⟩) 16 rfl Tryz.underlying51 infoS rfl (by decide) (by omega) _ (out.map mk) (⟨#[]⟩) [.string (⟨#[]⟩)] (fun _ => True) (fun _ => False) rfl rfl ?aP (fun _ hk => hk.elim) ?aF ?aO ?aB ?aS ?aL ?_; (case aP => exact rfl); (case aB => exact (by repeat (first | (with_reducible first | exact HB.out | apply below_alloc | apply pw_below_drewN | apply below_drew1) | exact HB.out))); (case aF => exact (fun _ _ => trivial)); (case aO => exact (by (with_reducible repeat (first | apply Kd.R_alloc | apply Kd.R_drewN | apply Kd.R_drew)); exact HR.out)); (case aS => exact (below_size (by repeat (first | (with_reducible first | exact HB.out | apply below_alloc | apply pw_below_drewN | apply below_drew1) | exact HB.out)))); (case aL => have := HLEN.out; (try simp only [List.length_map, List.length_nil] at *); omega); intro vN wN2 ho hb hg hat; rw [HNEW.out] at ho; clear HB; clear HR; have HB := Aside0.mk hb; have HR := Aside0.mk ho; clear ho hb hg hat))
         obtain ⟨g, cap, hv, hbg, hgl, hgc⟩ := Kd.R_form HR.out (by simp)
         rw [List.length_map, List.length_append, List.length_singleton] at hv
         subst hv
         obtain ⟨cur, cs, hcl, hcap, hcul, hbg2, hcur, hrd, h1c, hback⟩ := shift_own HR.out hpl
         have HGB := Aside0.mk hback
         have HBG := Aside0.mk hbg
         have s0 : Hid (wN2.drew.heap[g]? = some (.cells cur.toArray 9 (0, 0))) := hcur
         have s1 : Hid (∀ v ∈ cs, v.oneCell' = true) := h1c
         have s2 : Hid (∀ j v, cs[j]? = some v → wN2.drew.cell? ((⟨g, p, none⟩ : Addr).add j) = some v) := hrd
         have s3 : Hid (cs.length = out.length - p) := hcl
         have s4 : Hid (cur.length = cap) := hcul
         have hwr : IntKind.i64.wrap ((p : Int) + 1) = (p : Int) + 1 := by rw [IntKind.wrap_i64]; omega
         have hp0 : (0 : Int) ≤ (p : Int) + 1 := by omega
         have hp1 : (p : Int) + 1 ≤ ((out.length + 1 : Nat) : Int) := by omega
         have hp2 : ((p : Int) + 1).toNat = p + 1 := by omega
         have hp3 : (p : Int) ≤ (out.length : Int) + 1 := by omega
         obtain ⟨A1, hA1⟩ : ∃ A1, (if cap = p + 1 then some (⟨g, 0, none⟩ : Addr) else some ⟨g, p + 1, none⟩) = A1 := ⟨_, rfl⟩
         have hcp : ¬ cap = p := by omega
         have hnc : out.length + 1 ≤ cap := hcap
         have HPos : Hid (0 < out.length - p → A1 = some ⟨g, p + 1, none⟩) := fun h => by rw [← hA1, if_neg (by omega)]
         clear hcur h1c hrd hcl hcul hbg hbg2 hgl hgc hback hcap
         have hbd := Aside0.mk (show Below w.heap.size w wN2.drew from (by repeat (first | (with_reducible first | exact HB.out | apply below_alloc | apply pw_below_drewN | apply below_drew1) | exact HB.out)))
         go_region_law (refine step_copy_splice rfl (.tmp 45) (.tmp 48) 51 51 rfl 9 Tryz.underlying51 (by kernel_rfl) A1 (some ⟨g, p, none⟩) (out.length - p) (cap - (p + 1)) (out.length + 1 - p) (cap - p) (by simp [Act.eval, Act.put]) (by simp [Act.eval, Act.put]) g (p + 1) cur 9 s0.out cs (by rw [s3.out]; exact (Nat.min_eq_right (by omega)).symm) (fun h => ⟨HPos.out (by rw [← s3.out]; exact h), ⟨g, p, none⟩, rfl, s2.out⟩) (by rw [s3.out, s4.out]; omega) s1.out w.heap.size w hbd.out HBG.out ?_; intro w4 hg4 hb4)
         have hR4 := HGB.out w4 hg4.out
         obtain ⟨hc4, hf4⟩ := Kd.R_celln (⟨#[]⟩ : ByteArray) hR4 (p : Int) (by omega) (by omega)
         rw [Int.toNat_natCast] at hc4 hf4
         obtain ⟨hR5, hG5⟩ := Kd.R_putg hR4 (p : Int) sp
         rw [Int.toNat_natCast] at hR5 hG5
         have hl5 : ((out ++ [[]]).map mk).take (p + 1) ++ (((out ++ [[]]).map mk).drop p).take (out.length - p) = (((out ++ [[]]).take (p + 1) ++ ((out ++ [[]]).drop p).take (out.length - p))).map mk := by simp [List.map_take, List.map_drop]
         rw [hl5, ← HSP.out.2, ← List.map_set, shift_pure out [] s p hpl, ← HNEWS.out, HSP.out.2] at hR5
         have HR5 := Aside0.mk hR5
         have HB5 : Aside0 (Below w.heap.size w (w4.setCell ⟨g, p, none⟩ (.string sp))) := ⟨hb4.setCell HBG.out _⟩
         clear hb4 hg4 hR4 hR5 hG5 hl5 s0 s1 s2 s3 s4 hbd HPos hA1 HR HB HGB hwr hp0 hp1 hp2 hp3
         generalize hcv : rdOf (⟨#[]⟩ : ByteArray) _ _ = rv at hc4
         go_wp2
         go_roundg (go - 1)
         case measure => have := HJ.out; omega
         case rel => exact ⟨j + 1, by go_num, ⟨by have := HJ.out; omega⟩, HR5, HB5⟩
  · have hli : j = l.length := by omega
    have hR := HR.out
    rw [hli, List.take_length] at hR
    have HR2 := Aside0.mk hR
    clear hR hli HR
    go_wp2
    go_ret
    exact ⟨_, rfl, HR2.out, HB.out⟩
end Go.Proofs.YthfjolafikgpoaaGreatDoor.Hand

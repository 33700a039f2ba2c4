/- ZzTokens. -/
import Derived.Test.YtllmmnhgchidkaaSelScan2
namespace Go.Proofs.Ytllmmnhgchidkaa.Hand
open Go.RowKit Go.Proofs.Ytllmmnhgchidkaa.PFnSelTokens Go.Proofs.YtllmmnhgchidkaaW.PrintWords Go.Proofs.YtllmmnhgchidkaaW.PrintLast Go.Proofs.YtllmmnhgchidkaaW.PrintMore Go.Proofs.Ytllmmnhgchidkaa.Base
set_option linter.unusedVariables false
set_option linter.unusedSimpArgs false
set_option maxRecDepth 100000

theorem infoZT : (Try.prog.info? 82).map (fun i => (i.zero, i.size, i.bytes)) = some (some (.agg #[.int .i64 0, .string ⟨#[]⟩]), 2, 24) := by kernel_rfl
theorem scan_new (x : L) (hx : x.length ≤ 1000000) (hz : ∀ b ∈ x, b ≠ 0) (w : World) :
    Calls Try.prog 77 #[.pointer (some ⟨w.heap.size + 1, 0, none⟩)] ((w.alloc (.cells #[.string (mk x), .int .i64 0] 95)).alloc (.cells #[.pointer (some ⟨w.heap.size, 0, none⟩), .slice none 0 0, .int .i64 0] 98)) fun e w' => e = .returned (.tuple #[]) ∧ ∃ A c, w'.heap[w.heap.size + 1]? = some (.cells #[.pointer (some ⟨w.heap.size, 0, none⟩), .slice A (tokensL x).length c, .int .i64 0] 98 (0, 0)) ∧ KT.C w' A (tokensL x).length (toksV (tokensL x)) ∧ Below w.heap.size w w' := by
  obtain ⟨W1, hW1⟩ : ∃ W1, w.alloc (.cells #[.string (mk x), .int .i64 0] 95) = W1 := ⟨_, rfl⟩
  have hs : W1.heap.size = w.heap.size + 1 := by rw [← hW1]; simp
  have hL : LX w W1 W1 w.heap.size x 0 := LX.new (by rw [← hW1]; exact IsS95.new w w (mk x) 0 (Below.refl _ _)) (by rw [← hW1]; exact below_alloc (Below.refl _ _) _)
  rw [hW1]
  have hN := heap_alloc_new W1 (.cells #[.pointer (some ⟨w.heap.size, 0, none⟩), .slice none 0 0, .int .i64 0] 98)
  rw [hs] at hN
  refine (scan_calls x hx hz w.heap.size (w.heap.size + 1) w _ (LX.alloc hL _).self hN (by omega) (by omega)).mono ?_
  rintro e w' ⟨rfl, v, h1, h2, h3⟩
  obtain ⟨A, c, rfl⟩ := Kd.R_slice h2
  have hl : (toksV (tokensL x)).length = (tokensL x).length := by simp [toksV]
  have hC := (Kd.R_reads' h2).2.2
  rw [hl] at h1 hC
  exact ⟨rfl, A, c, h1, hC, h3⟩
set_option maxHeartbeats 4000000 in
theorem ZzTokens_calls (x : L) (hx : x.length ≤ 1000000) (hz : ∀ b ∈ x, b ≠ 0) (w : World) :
    Calls Try.prog 66 #[.string (mk x)] w fun e w' => ∃ v, e = .returned v ∧ KT.R 82 w' w.heap.size (fun _ => True) v (toksV (tokensL x)) ∧ Below w.heap.size w w' := by
  have HSC := Aside0.mk (scan_new x hx hz w)
  have hlen : (tokensL x).length ≤ 1000001 := by have := tokens_len x.length x (Nat.le_refl _); omega
  obtain ⟨l, hl⟩ : ∃ l, tokensL x = l := ⟨_, rfl⟩
  rw [hl] at HSC hlen ⊢
  clear hl
  go_enter Try.func66, Try.ntmps66
  go_wp2_with (first | ((with_reducible refine (HSC.out).mono ?_); rintro e wS ⟨rfl, A, c, hblk, hC, hb⟩; have hc1 : wS.cell? ⟨w.heap.size + 1, 1, none⟩ = some (.slice A l.length c) := (blk_cell hblk 1).trans rfl; have HC := Aside0.mk hC; have HBS := Aside0.mk hb; clear hblk hC hb HSC))
  clear hc1
  go_loopg [4, 19] (l.length) (fun k v4 v19 w' => ∃ j : Nat, v19 = .int .i64 j ∧ Aside0 (k + j = l.length) ∧ Aside0 (KT.R 82 w' wS.heap.size (fun _ => True) v4 (toksV (l.take j))) ∧ Aside0 (Below wS.heap.size wS w'))
  case atStart => exact ⟨0, rfl, ⟨by omega⟩, ⟨Kd.R_nil _ _ _ _ _⟩, ⟨Below.refl _ _⟩⟩
  case round =>
    obtain ⟨j, rfl, HJ, HR, HB⟩ := hrel
    by_cases hjl : j < l.length
    · obtain ⟨ad, rfl, hk0, hk1⟩ := kt_at (Kd.C_below HC.out HB.out) j hjl
      obtain ⟨kk, lit, hkl⟩ : ∃ (kk : Nat) (lit : L), l[j]? = some (kk, lit) := ⟨_, _, List.getElem?_eq_getElem hjl⟩
      have hg : (toksV l).getD j (0, ⟨#[]⟩) = ((kk : Int), mk lit) := by
        rw [List.getD_eq_getElem?_getD, List.getElem?_map, hkl]; rfl
      rw [hg] at hk0 hk1
      have HNEW : Aside0 (toksV (l.take j) ++ [((kk : Int), mk lit)] = toksV (l.take (j + 1))) := ⟨by rw [List.take_add_one, hkl]; simp [toksV]⟩
      have hk2 : wr.cell? ⟨(ad.add (j * 2)).block, (ad.add (j * 2)).off + 1, none⟩ = some (.string (mk lit)) := by
        show wr.cell? ((ad.add (j * 2)).add 1) = _
        rw [add_add]; exact hk1
      clear hkl hg

      go_wp2_with (first | ((with_reducible refine gate_builtin (b := .append) (xs := #[.tmp 23, .tmp 29]) rfl ?_); (try (refine gate_guard (by rfl) ?_; dsimp only)); at_builtin; refine Kd.R_append (KT) (w0 := wS) (wS.heap.size) rfl (.tmp 23) (.tmp 29) 80 82 (.agg #[.int .i64 0, .string ⟨#[]⟩]) 24 rfl Try.underlying80 infoZT rfl (by decide) (by decide) (u4) (toksV (l.take j)) (((kk : Int), mk lit)) [.int .i64 (kk : Int), .string (mk lit)] (fun _ => True) (fun _ => False) rfl (by first | rfl | (simp [Act.eval]; done)) ?aP (fun _ hk => hk.elim) ?aF ?aO ?aB ?aS ?aL ?_; (case aP => exact ⟨[_], [_], rfl, rfl, rfl⟩); (case aF => exact (fun _ _ => trivial)); (case aO => exact Kd.R_alloc HR.out _); (case aB => exact below_alloc HB.out _); (case aS => exact below_size (below_alloc HB.out _)); (case aL => simp only [toksV, List.length_map, List.length_take]; omega); intro vN wN ho hb hg hat; rw [HNEW.out] at ho; have HR2 := Aside0.mk ho; have HB2 := Aside0.mk hb; clear ho hb hg hat))
      go_roundg (l.length - (j + 1))
      case measure => have := HJ.out; omega
      case rel => exact ⟨j + 1, by go_num, ⟨by omega⟩, HR2, HB2⟩
    · have hje : j = l.length := by have := HJ.out; omega
      have HTK : Aside0 (l.take j = l) := ⟨by rw [hje, List.take_length]⟩
      subst hje
      go_wp2
      go_ret
      refine ⟨_, rfl, ?_, below_step HBS.out HB.out⟩
      rw [HTK.out] at HR
      exact Kd.R_lower HR.out HBS.out.size
end Go.Proofs.Ytllmmnhgchidkaa.Hand

/- PathJoin over any elements: empty ones behind the first are passed over. -/
import Derived.Test.YtllmmnhgchidkaaPathParts
namespace Go.Proofs.Ytllmmnhgchidkaa.Hand
open Go.RowKit Go.Proofs.YtllmmnhgchidkaaW.PrintWords Go.Proofs.YtllmmnhgchidkaaW.PrintLast Go.Proofs.YtllmmnhgchidkaaW.PrintMore Go.Proofs.Ytllmmnhgchidkaa.Base Go.Proofs.Ytllmmnhgchidkaa.PFnPathParts
set_option linter.unusedVariables false
set_option linter.unusedSimpArgs false
set_option maxRecDepth 100000
set_option maxHeartbeats 1000000 in
theorem PathJoinG_rooted (A : Option Addr) (c : Nat) (ns : List L) (w : World) (hr : Kd.C Kd.string w A (ns.length + 1) (([] :: ns).map mk)) (hc : ns.length + 1 ≤ c) (hl : ns.length ≤ 400) (hm : ∀ p ∈ ns, p.length ≤ 200) :
    Calls Try.prog 63 #[.slice A (ns.length + 1) c] w fun e w' => e = .returned (.string (mk (47 :: joinPath ns))) ∧ Below w.heap.size w w' := by
  have HB := Aside0.mk (Below.refl w.heap.size w)
  obtain ⟨ad, eA, hcell⟩ := Kd.at_string hr 0 (by omega) (by omega)
  subst eA
  rw [rd_mk] at hcell
  have hcell0 : w.cell? ad = some (.string (mk [])) := by
    have e : ad.add 0 = ad := by cases ad; rfl
    rw [show (0 : Int).toNat = 0 from rfl, e] at hcell; exact hcell
  obtain ⟨q, hq⟩ : ∃ q, mk [] = q := ⟨_, rfl⟩
  have t1 : (q.toList == ([] : List UInt8)) = true := by rw [← hq, mk_toList]; rfl
  rw [hq] at hcell0
  have hll : (([] :: ns).map mk).length = ns.length + 1 := by simp
  obtain ⟨i0, hi0, _, hsz, _⟩ := info_parts infoS
  obtain ⟨A8, hcut, hA8, hC8⟩ := print_drop_of (P := Try.prog) Value.string (⟨#[]⟩ : ByteArray) 22 9 .i64 Try.underlying22 hi0 hsz (some ad) c (([] :: ns).map mk) 1 (by omega) (by rw [hll]; omega) (by rw [hll]; exact hc)
  have hd : (([] :: ns).map mk).drop (1 : Int).toNat = ns.map mk := rfl
  rw [hd, hll] at hcut
  rw [hd] at hC8
  rw [List.length_map] at hcut hC8
  have hr8 : Kd.C Kd.string w A8 ns.length (ns.map mk) := by
    have h := hA8 w (Kd.reads_of_C (by rw [hll]; exact hr))
    rw [hd, List.length_map] at h
    exact Kd.C_of_reads (h1 := fun _ => rfl) h
  have hjl := joinPath_len ns hl hm
  obtain ⟨so, hso⟩ : ∃ so, mk (joinPath ns) = so := ⟨_, rfl⟩
  have hz : so.size ≤ 20000400000 := by rw [← hso, mk_size]; exact hjl
  have hj : ∀ w, Kd.C Kd.string w A8 ns.length (ns.map mk) → Calls Try.prog 52 #[.slice A8 ns.length (c - 1)] w fun e w' => e = .returned (.string so) ∧ Below w.heap.size w w' := by
    intro w hr
    have h := ZzJoin_calls A8 (c - 1) ns w hr hC8 hl hm
    rw [hso] at h; exact h
  have b1 : (1 + so.size ≤ 9223372036854775807) = True := eq_true (by omega)
  have b2 : (9223372036854775807 < 1 + so.size) = False := eq_false (by omega)
  have hres : (⟨#[47]⟩ : ByteArray) ++ so = mk (47 :: joinPath ns) := by rw [← hso]; exact mk_append [47] (joinPath ns)
  have HJ := Aside0.mk hj; have HR8 := Aside0.mk hr8; have HRES := Aside0.mk hres
  clear hj hr8 hres hso hjl hm hC8 hA8 hd hll hi0 hsz hq hcell hr
  go_enter Try.func63, Try.ntmps63
  go_wp2_with (first | ((with_reducible refine gate_callee (f := 52) rfl ?_); (try (refine gate_guard (by rfl) ?_; dsimp only)); refine goesL_ (some 12) rfl rfl Try.func52 (by kernel_rfl) rfl #[.slice A8 ns.length (c - 1)] rfl (by (try simp only [List.map_toArray, List.map_cons, List.map_nil]); first | done | rfl) ?_; (with_reducible refine (HJ.out _ HR8.out).mono ?_); rintro e wN ⟨rfl, hb⟩; refine ⟨_, rfl, ?_⟩; have nb_ := Aside0.mk (below_step (by repeat (first | (with_reducible first | exact HB.out | apply below_alloc | apply pw_below_drewN | apply below_drew1) | exact HB.out)) hb); clear HB; have HB := nb_; clear nb_; (try clear hb)))
  go_ret
  exact ⟨by rw [← HRES.out]; rfl, (by repeat (first | (with_reducible first | exact HB.out | apply below_alloc | apply pw_below_drewN | apply below_drew1) | exact HB.out))⟩

set_option maxHeartbeats 1000000 in
theorem PathJoinG_plain (A : Option Addr) (c : Nat) (ns : List L) (w : World) (hr : Kd.C Kd.string w A ns.length (ns.map mk)) (hc : ns.length ≤ c) (hl : ns.length ≤ 400) (hne : ns ≠ []) (hg : ns.getD 0 [] ≠ []) (hm : ∀ p ∈ ns, p.length ≤ 200) :
    Calls Try.prog 63 #[.slice A ns.length c] w fun e w' => e = .returned (.string (mk (joinPath ns))) ∧ Below w.heap.size w w' := by
  have HB := Aside0.mk (Below.refl w.heap.size w)
  have hpos : 0 < ns.length := List.length_pos_iff.2 hne
  obtain ⟨ad, eA, hcell⟩ := Kd.at_string hr 0 (by omega) (by omega)
  subst eA
  rw [rd_mk] at hcell
  have hcell0 : w.cell? ad = some (.string (mk (ns.getD 0 []))) := by
    have e : ad.add 0 = ad := by cases ad; rfl
    rw [show (0 : Int).toNat = 0 from rfl, e] at hcell; exact hcell
  obtain ⟨q, hq⟩ : ∃ q, mk (ns.getD 0 []) = q := ⟨_, rfl⟩
  have t1 : (q.toList == ([] : List UInt8)) = false := by
    rw [← hq, mk_toList]
    simpa using hg
  rw [hq] at hcell0
  have hj : ∀ w, Kd.C Kd.string w (some ad) ns.length (ns.map mk) → Calls Try.prog 52 #[.slice (some ad) ns.length c] w fun e w' => e = .returned (.string (mk (joinPath ns))) ∧ Below w.heap.size w w' := by
    intro w hr
    have h := ZzJoin_calls (some ad) c ns w hr hc hl hm
    exact h
  have HJ := Aside0.mk hj; have HR := Aside0.mk hr
  clear hj hr hm hg hne hq hcell
  go_enter Try.func63, Try.ntmps63
  go_wp2_with (first | ((with_reducible refine gate_callee (f := 52) rfl ?_); (try (refine gate_guard (by rfl) ?_; dsimp only)); refine goesL_ (some 15) rfl rfl Try.func52 (by kernel_rfl) rfl #[.slice (some ad) ns.length c] rfl (by (try simp only [List.map_toArray, List.map_cons, List.map_nil]); first | done | rfl) ?_; (with_reducible refine (HJ.out _ HR.out).mono ?_); rintro e wN ⟨rfl, hb⟩; refine ⟨_, rfl, ?_⟩; have nb_ := Aside0.mk (below_step (by repeat (first | (with_reducible first | exact HB.out | apply below_alloc | apply pw_below_drewN | apply below_drew1) | exact HB.out)) hb); clear HB; have HB := nb_; clear nb_; (try clear hb)))
  go_ret
  exact ⟨rfl, (by repeat (first | (with_reducible first | exact HB.out | apply below_alloc | apply pw_below_drewN | apply below_drew1) | exact HB.out))⟩

end Go.Proofs.Ytllmmnhgchidkaa.Hand

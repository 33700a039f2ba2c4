/- CreatePathAnnotationValue, impl.PathValue. -/
import Derived.Test.YtllmmnhgchidkaaNoteLow
import Derived.RegionTactic
import Derived.Deep.RegionLaw
import Derived.Deep.RegionWith
namespace Go.Proofs.Ytllmmnhgchidkaa.Hand
open Go.RowKit Go.Proofs.YtllmmnhgchidkaaW.PrintWords Go.Proofs.YtllmmnhgchidkaaW.PrintLast Go.Proofs.YtllmmnhgchidkaaW.PrintMore Go.Proofs.Ytllmmnhgchidkaa.Base
set_option linter.unusedVariables false
set_option linter.unusedSimpArgs false
set_option maxRecDepth 100000
theorem C_lit (W : World) (H : Nat) (hH : W.heap.size = H) (xs : List ByteArray) (hn : xs.length ≤ 1000000) : Kd.C Kd.string (W.alloc (.cells (xs.map Value.string).toArray 9)) (some ⟨H, 0, none⟩) xs.length xs := by
  subst hH
  have hb := heap_alloc_new W (.cells (xs.map Value.string).toArray 9)
  refine Kd.C_of_reads (d := ByteArray.empty) ⟨rfl, by omega, fun _ => ⟨_, rfl, fun j hj => ?_⟩⟩
  rw [add_at, blk_cell hb, Nat.zero_add]
  simp [hj]
theorem zzJoin_calls (A : Option Addr) (c : Nat) (l : List L) (w : World) (hr : Kd.C Kd.string w A l.length (l.map mk)) (hc : l.length ≤ c) (hl : l.length ≤ 400) (hm : ∀ p ∈ l, p.length ≤ 200) :
    Calls Try.prog 73 #[.slice A l.length c] w fun e w' => e = .returned (.string (mk (joinPath l))) ∧ Below w.heap.size w w' := by
  have HB := Aside0.mk (Below.refl w.heap.size w)
  have H := Aside0.mk (ZzJoin_calls A c l w hr hc hl hm)
  clear hr hm
  go_enter Try.func73, Try.ntmps73
  go_wp2_with (first | ((with_reducible refine (H.out).mono ?_); rintro e w' ⟨rfl, hb⟩; have nb_ := Aside0.mk (below_step (by repeat (first | (with_reducible first | exact HB.out | apply below_alloc | apply pw_below_drewN | apply below_drew1) | exact HB.out)) hb); clear HB; have HB := nb_; clear nb_; (try clear hb)))
  go_ret
  exact ⟨rfl, (by repeat (first | (with_reducible first | exact HB.out | apply below_alloc | apply pw_below_drewN | apply below_drew1) | exact HB.out))⟩
set_option maxHeartbeats 2000000 in
theorem CreatePath_calls (d e k m n : ByteArray) (hd : d.size ≤ 20) (hk : k.size ≤ 20) (hm : m.size ≤ 20) (hn : n.size ≤ 20) (w : World) :
    Calls Try.prog 57 #[.string d, .agg #[.string e, .string k, .string m, .string n, .map none, .map none]] w fun e w' => e = .returned (.string (mk (joinPath [d.data.toList, n.data.toList, fileOf k.data.toList m.data.toList]))) ∧ Below w.heap.size w w' := by
  have HB := Aside0.mk (Below.refl w.heap.size w)
  have HZ := Aside0.mk (fun w => zzLower_calls k (by omega) w)
  obtain ⟨lo, hlo⟩ : ∃ lo, mk (lowL k.data.toList) = lo := ⟨_, rfl⟩
  rw [hlo] at HZ
  have hlz : lo.size ≤ 20 := by
    rw [← hlo, mk_size]
    have : (lowL k.data.toList).length = k.size := by rw [Lib.size_eq]; simp [lowL]
    omega
  have b1 : (lo.size + 1 ≤ 9223372036854775807) = True := eq_true (by omega)
  have b2 : (9223372036854775807 < lo.size + 1) = False := eq_false (by omega)
  have b3 : (lo.size + 1 + m.size ≤ 9223372036854775807) = True := eq_true (by omega)
  have b4 : (9223372036854775807 < lo.size + 1 + m.size) = False := eq_false (by omega)
  have b5 : (lo.size + 1 + m.size + 5 ≤ 9223372036854775807) = True := eq_true (by omega)
  have b6 : (9223372036854775807 < lo.size + 1 + m.size + 5) = False := eq_false (by omega)
  have hfile : lo ++ ⟨#[95]⟩ ++ m ++ ⟨#[46, 121, 97, 109, 108]⟩ = mk (fileOf k.data.toList m.data.toList) := by
    rw [← hlo]
    have hmm : m = mk m.data.toList := mk_of m
    unfold fileOf
    rw [← mk_append, ← mk_append, ← mk_append, ← hmm]
    rfl
  have HJ : Aside0 (∀ (W : World) (H : Nat), W.heap.size = H → Calls Try.prog 73 #[.slice (some ⟨H, 0, none⟩) 3 3] (W.alloc (.cells #[.string d, .string n, .string (lo ++ ⟨#[95]⟩ ++ m ++ ⟨#[46, 121, 97, 109, 108]⟩)] 9)) fun e w' => e = .returned (.string (mk (joinPath [d.data.toList, n.data.toList, fileOf k.data.toList m.data.toList]))) ∧ Below (W.alloc (.cells #[.string d, .string n, .string (lo ++ ⟨#[95]⟩ ++ m ++ ⟨#[46, 121, 97, 109, 108]⟩)] 9)).heap.size (W.alloc (.cells #[.string d, .string n, .string (lo ++ ⟨#[95]⟩ ++ m ++ ⟨#[46, 121, 97, 109, 108]⟩)] 9)) w') := ⟨fun W H hH => by
    rw [hfile]
    have hC := C_lit W H hH [d, n, mk (fileOf k.data.toList m.data.toList)] (by simp)
    have e1 : [d, n, mk (fileOf k.data.toList m.data.toList)] = [d.data.toList, n.data.toList, fileOf k.data.toList m.data.toList].map mk := by
      simp only [List.map_cons, List.map_nil]
      rw [← mk_of d, ← mk_of n]
    have e2 : (([d, n, mk (fileOf k.data.toList m.data.toList)] : List ByteArray).map Value.string).toArray = #[.string d, .string n, .string (mk (fileOf k.data.toList m.data.toList))] := rfl
    rw [e2, e1] at hC
    refine zzJoin_calls _ 3 [d.data.toList, n.data.toList, fileOf k.data.toList m.data.toList] _ hC (by simp) (by simp) (fun p hp => ?_)
    have l1 := Lib.size_eq d; have l2 := Lib.size_eq n; have l3 := Lib.size_eq k; have l4 := Lib.size_eq m
    simp only [List.mem_cons, List.not_mem_nil, or_false] at hp
    rcases hp with rfl | rfl | rfl
    · omega
    · omega
    · simp [fileOf, lowL]; omega⟩
  clear hfile
  go_enter Try.func57, Try.ntmps57
  go_upto_region 1 with (fail)
  have hbk := heap_alloc_new w (.cells #[.string e, .string k, .string m, .string n, .map none, .map none] 77)
  obtain ⟨W1, hW1⟩ : ∃ W1, w.alloc (.cells #[.string e, .string k, .string m, .string n, .map none, .map none] 77) = W1 := ⟨_, rfl⟩
  have HB1 : Aside0 (Below w.heap.size w W1) := ⟨by rw [← hW1]; exact below_alloc (Below.refl _ _) _⟩
  have hsz : w.heap.size < W1.heap.size := by rw [← hW1]; simp
  have c1 : W1.cell? ⟨w.heap.size, 1, none⟩ = some (.string k) := by rw [← hW1, blk_cell hbk]; rfl
  have c2 : W1.cell? ⟨w.heap.size, 2, none⟩ = some (.string m) := by rw [← hW1, blk_cell hbk]; rfl
  have c3 : W1.cell? ⟨w.heap.size, 3, none⟩ = some (.string n) := by rw [← hW1, blk_cell hbk]; rfl
  rw [hW1]
  clear hW1 hbk HB
  have HS := Aside0.mk hsz
  have C2 := Aside0.mk c2
  have C3 := Aside0.mk c3
  clear hsz
  go_region_with (go_at_call 72; refine (HZ.out _).mono ?_; rintro e w' ⟨rfl, hb⟩; have HW := Aside0.mk hb; have h2 : w'.cell? ⟨w.heap.size, 2, none⟩ = some (.string m) := (hb.cell HS.out).trans C2.out; have h3 : w'.cell? ⟨w.heap.size, 3, none⟩ = some (.string n) := (hb.cell HS.out).trans C3.out; clear hb)
  all_goals
    go_wp2_with (first | ((with_reducible refine (HJ.out _ _ ?hH).mono ?_); (case hH => rfl); rintro e wE ⟨rfl, hb⟩; have HE := Aside0.mk hb; clear hb))
    go_ret
    exact ⟨rfl, below_step (below_alloc (below_step HB1.out.drew HW.out) _) HE.out⟩
set_option maxHeartbeats 2000000 in
theorem PathValue_calls (d a k m n : ByteArray) (hd : d.size ≤ 20) (hk : k.size ≤ 20) (hm : m.size ≤ 20) (hn : n.size ≤ 20) (w : World) :
    Calls Try.prog 31 #[.string d, .agg #[.string a, .string k, .string m, .string n, .slice none 0 0, .slice none 0 0]] w fun e w' => e = .returned (.string (mk (joinPath [d.data.toList, n.data.toList, fileOf k.data.toList m.data.toList]))) ∧ Below w.heap.size w w' := by
  have HC := Aside0.mk (fun w => CreatePath_calls d ⟨#[]⟩ k m n hd hk hm hn w)
  clear hd hk hm hn
  go_enter Try.func31, Try.ntmps31
  go_upto_region 2 with (fail)
  go_region
  all_goals
    go_wp2_with (first | ((with_reducible refine (HC.out _).mono ?_); rintro e wE ⟨rfl, hb⟩; have HE := Aside0.mk hb; clear hb))
    go_ret
    refine ⟨rfl, below_step ?_ HE.out⟩
    repeat (first | exact Below.refl _ _ | (with_reducible refine Below.setCell ?_ (by simp) _) | (with_reducible refine Below.drew ?_) | (with_reducible refine below_alloc ?_ _))
end Go.Proofs.Ytllmmnhgchidkaa.Hand

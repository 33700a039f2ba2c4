/- FnFieldOrder and the functions beneath it, by hand. -/
import Derived.Test.YtllmmnhgchidkaaBase
import Derived.Test.YtllmmnhgchidkaaPFnFieldOrderx0
namespace Go.Proofs.Ytllmmnhgchidkaa.HandFO
open Go.RowKit Go.Proofs.YtllmmnhgchidkaaW.PrintWords Go.Proofs.YtllmmnhgchidkaaW.PrintLast Go.Proofs.YtllmmnhgchidkaaW.PrintMore Go.Proofs.Ytllmmnhgchidkaa.Base
set_option linter.unusedVariables false
set_option linter.unusedSimpArgs false
set_option maxRecDepth 100000

theorem infoS : (Try.prog.info? 9).map (fun i => (i.zero, i.size, i.bytes)) = some (some (.string ⟨#[]⟩), 1, 16) := by kernel_rfl

/-- The order of fields. -/
def order : List L := [
  [110, 97, 109, 101], [103, 101, 110, 101, 114, 97, 116, 101, 78, 97, 109, 101], [110, 97, 109, 101, 115, 112, 97, 99, 101], [99, 108, 117, 115, 116, 101, 114, 78, 97, 109, 101], [97, 112, 105, 86, 101, 114, 115, 105, 111, 110], [107, 105, 110, 100],
  [109, 101, 116, 97, 100, 97, 116, 97], [116, 121, 112, 101], [108, 97, 98, 101, 108, 115], [97, 110, 110, 111, 116, 97, 116, 105, 111, 110, 115], [115, 112, 101, 99], [115, 116, 97, 116, 117, 115],
  [115, 116, 114, 105, 110, 103, 68, 97, 116, 97], [100, 97, 116, 97], [98, 105, 110, 97, 114, 121, 68, 97, 116, 97], [112, 97, 114, 97, 108, 108, 101, 108, 105, 115, 109], [99, 111, 109, 112, 108, 101, 116, 105, 111, 110, 115], [97, 99, 116, 105, 118, 101, 68, 101, 97, 100, 108, 105, 110, 101, 83, 101, 99, 111, 110, 100, 115],
  [98, 97, 99, 107, 111, 102, 102, 76, 105, 109, 105, 116], [114, 101, 112, 108, 105, 99, 97, 115], [115, 101, 108, 101, 99, 116, 111, 114], [109, 97, 110, 117, 97, 108, 83, 101, 108, 101, 99, 116, 111, 114], [116, 101, 109, 112, 108, 97, 116, 101], [116, 116, 108, 83, 101, 99, 111, 110, 100, 115, 65, 102, 116, 101, 114, 70, 105, 110, 105, 115, 104, 101, 100],
  [118, 111, 108, 117, 109, 101, 67, 108, 97, 105, 109, 84, 101, 109, 112, 108, 97, 116, 101, 115], [115, 101, 114, 118, 105, 99, 101], [115, 101, 114, 118, 105, 99, 101, 78, 97, 109, 101], [112, 111, 100, 77, 97, 110, 97, 103, 101, 109, 101, 110, 116, 80, 111, 108, 105, 99, 121], [117, 112, 100, 97, 116, 101, 83, 116, 114, 97, 116, 101, 103, 121], [115, 116, 114, 97, 116, 101, 103, 121],
  [109, 105, 110, 82, 101, 97, 100, 121, 83, 101, 99, 111, 110, 100, 115], [114, 101, 118, 105, 115, 105, 111, 110], [114, 101, 118, 105, 115, 105, 111, 110, 72, 105, 115, 116, 111, 114, 121, 76, 105, 109, 105, 116], [112, 97, 117, 115, 101, 100], [112, 114, 111, 103, 114, 101, 115, 115, 68, 101, 97, 100, 108, 105, 110, 101, 83, 101, 99, 111, 110, 100, 115], [114, 101, 115, 116, 97, 114, 116, 80, 111, 108, 105, 99, 121],
  [116, 101, 114, 109, 105, 110, 97, 116, 105, 111, 110, 71, 114, 97, 99, 101, 80, 101, 114, 105, 111, 100, 83, 101, 99, 111, 110, 100, 115], [97, 99, 116, 105, 118, 101, 68, 101, 97, 100, 108, 105, 110, 101, 83, 101, 99, 111, 110, 100, 115], [100, 110, 115, 80, 111, 108, 105, 99, 121], [115, 101, 114, 118, 105, 99, 101, 65, 99, 99, 111, 117, 110, 116, 78, 97, 109, 101], [115, 101, 114, 118, 105, 99, 101, 65, 99, 99, 111, 117, 110, 116], [97, 117, 116, 111, 109, 111, 117, 110, 116, 83, 101, 114, 118, 105, 99, 101, 65, 99, 99, 111, 117, 110, 116, 84, 111, 107, 101, 110],
  [110, 111, 100, 101, 78, 97, 109, 101], [104, 111, 115, 116, 78, 101, 116, 119, 111, 114, 107], [104, 111, 115, 116, 80, 73, 68], [104, 111, 115, 116, 73, 80, 67], [115, 104, 97, 114, 101, 80, 114, 111, 99, 101, 115, 115, 78, 97, 109, 101, 115, 112, 97, 99, 101], [104, 111, 115, 116, 110, 97, 109, 101],
  [115, 117, 98, 100, 111, 109, 97, 105, 110], [115, 99, 104, 101, 100, 117, 108, 101, 114, 78, 97, 109, 101], [112, 114, 105, 111, 114, 105, 116, 121, 67, 108, 97, 115, 115, 78, 97, 109, 101], [112, 114, 105, 111, 114, 105, 116, 121], [114, 117, 110, 116, 105, 109, 101, 67, 108, 97, 115, 115, 78, 97, 109, 101], [101, 110, 97, 98, 108, 101, 83, 101, 114, 118, 105, 99, 101, 76, 105, 110, 107, 115],
  [110, 111, 100, 101, 83, 101, 108, 101, 99, 116, 111, 114], [104, 111, 115, 116, 65, 108, 105, 97, 115, 101, 115], [105, 110, 105, 116, 67, 111, 110, 116, 97, 105, 110, 101, 114, 115], [99, 111, 110, 116, 97, 105, 110, 101, 114, 115], [118, 111, 108, 117, 109, 101, 115], [115, 101, 99, 117, 114, 105, 116, 121, 67, 111, 110, 116, 101, 120, 116],
  [105, 109, 97, 103, 101, 80, 117, 108, 108, 83, 101, 99, 114, 101, 116, 115], [97, 102, 102, 105, 110, 105, 116, 121], [116, 111, 108, 101, 114, 97, 116, 105, 111, 110, 115], [100, 110, 115, 67, 111, 110, 102, 105, 103], [114, 101, 97, 100, 105, 110, 101, 115, 115, 71, 97, 116, 101, 115], [105, 109, 97, 103, 101],
  [99, 111, 109, 109, 97, 110, 100], [97, 114, 103, 115], [119, 111, 114, 107, 105, 110, 103, 68, 105, 114], [112, 111, 114, 116, 115], [101, 110, 118, 70, 114, 111, 109], [101, 110, 118],
  [114, 101, 115, 111, 117, 114, 99, 101, 115], [118, 111, 108, 117, 109, 101, 77, 111, 117, 110, 116, 115], [118, 111, 108, 117, 109, 101, 68, 101, 118, 105, 99, 101, 115], [108, 105, 118, 101, 110, 101, 115, 115, 80, 114, 111, 98, 101], [114, 101, 97, 100, 105, 110, 101, 115, 115, 80, 114, 111, 98, 101], [108, 105, 102, 101, 99, 121, 99, 108, 101],
  [116, 101, 114, 109, 105, 110, 97, 116, 105, 111, 110, 77, 101, 115, 115, 97, 103, 101, 80, 97, 116, 104], [116, 101, 114, 109, 105, 110, 97, 116, 105, 111, 110, 77, 101, 115, 115, 97, 103, 101, 80, 111, 108, 105, 99, 121], [105, 109, 97, 103, 101, 80, 117, 108, 108, 80, 111, 108, 105, 99, 121], [115, 101, 99, 117, 114, 105, 116, 121, 67, 111, 110, 116, 101, 120, 116], [115, 116, 100, 105, 110], [115, 116, 100, 105, 110, 79, 110, 99, 101],
  [116, 116, 121], [99, 108, 117, 115, 116, 101, 114, 73, 80], [101, 120, 116, 101, 114, 110, 97, 108, 73, 80, 115], [108, 111, 97, 100, 66, 97, 108, 97, 110, 99, 101, 114, 73, 80], [108, 111, 97, 100, 66, 97, 108, 97, 110, 99, 101, 114, 83, 111, 117, 114, 99, 101, 82, 97, 110, 103, 101, 115], [101, 120, 116, 101, 114, 110, 97, 108, 78, 97, 109, 101],
  [101, 120, 116, 101, 114, 110, 97, 108, 84, 114, 97, 102, 102, 105, 99, 80, 111, 108, 105, 99, 121], [115, 101, 115, 115, 105, 111, 110, 65, 102, 102, 105, 110, 105, 116, 121], [112, 114, 111, 116, 111, 99, 111, 108], [112, 111, 114, 116], [116, 97, 114, 103, 101, 116, 80, 111, 114, 116], [104, 111, 115, 116, 80, 111, 114, 116],
  [99, 111, 110, 116, 97, 105, 110, 101, 114, 80, 111, 114, 116], [104, 111, 115, 116, 73, 80], [114, 101, 97, 100, 79, 110, 108, 121], [109, 111, 117, 110, 116, 80, 97, 116, 104], [115, 117, 98, 80, 97, 116, 104], [115, 117, 98, 80, 97, 116, 104, 69, 120, 112, 114],
  [109, 111, 117, 110, 116, 80, 114, 111, 112, 97, 103, 97, 116, 105, 111, 110], [118, 97, 108, 117, 101], [118, 97, 108, 117, 101, 70, 114, 111, 109], [102, 105, 101, 108, 100, 82, 101, 102], [114, 101, 115, 111, 117, 114, 99, 101, 70, 105, 101, 108, 100, 82, 101, 102], [99, 111, 110, 102, 105, 103, 77, 97, 112, 75, 101, 121, 82, 101, 102],
  [115, 101, 99, 114, 101, 116, 75, 101, 121, 82, 101, 102], [112, 114, 101, 102, 105, 120], [99, 111, 110, 102, 105, 103, 77, 97, 112, 82, 101, 102], [115, 101, 99, 114, 101, 116, 82, 101, 102]]
def orderV : List Value := order.map (fun x => Value.string (mk x))
theorem order_len : order.length = 112 := by decide +kernel

theorem reps_strs (W : World) (base : Nat) (okp : Nat → Prop) (xs : List ByteArray) : Reps (Kd.string.M W base okp) Kd.string.sz xs (xs.map Value.string) := by
  refine ⟨by show _ = _ * 1; simp, fun j p hj => ?_⟩
  show Kd.string.M W base okp p (((xs.map Value.string).drop (j * 1)).take 1)
  obtain ⟨hl, hp⟩ := List.getElem?_eq_some_iff.1 hj
  rw [Nat.mul_one, List.drop_eq_getElem_cons (by simpa using hl), List.take_succ_cons, List.take_zero, List.getElem_map, hp]
  rfl

set_option maxHeartbeats 4000000 in
theorem Order_calls (w : World) :
    Calls Try.prog 71 #[] w fun e w' => ∃ v0 : Value, e = .returned v0 ∧ Kd.R Kd.string 9 w' w.heap.size (fun _ => True) v0 (order.map mk) ∧ Below w.heap.size w w' := by
  have HB := Aside0.mk (Below.refl w.heap.size w)
  obtain ⟨y, hy⟩ : ∃ y : List ByteArray, y = order.map mk := ⟨_, rfl⟩
  have HY := Aside0.mk hy
  rw [← hy]
  clear hy
  go_enter Try.func71, Try.ntmps71
  go_wp2_with (first | ((with_reducible refine gate_dst (N := 1) rfl ?_); refine Kd.R_lit Kd.string _ 9 ?hg (N := 1) ?hd (xs := order.map mk) (inner := (order.map mk).map Value.string) (ok := fun _ => True) (okp := fun _ => True) ?hr ?hp (fun _ hk => hk) trivial (Below.refl _ _) (Nat.le_refl _) (by rw [List.length_map, order_len]; omega) ?_; (case hd => rfl); (case hg => rfl); (case hr => kernel_rfl); (case hp => exact reps_strs _ _ _ _); intro vN wN hoL hb hg_ hnew_; clear hg_ hnew_; rw [← HY.out] at hoL; have nl_ := Aside0.mk (Kd.R_lower hoL (below_size (by repeat (first | (with_reducible first | exact HB.out | apply below_alloc | apply pw_below_drewN | apply below_drew1) | exact HB.out)))); have nb_ := Aside0.mk (below_step (by repeat (first | (with_reducible first | exact HB.out | apply below_alloc | apply pw_below_drewN | apply below_drew1) | exact HB.out)) hb); clear HB; have HL := nl_; have HB := nb_; clear nl_ nb_ hb hoL))
  go_ret
  exact ⟨_, rfl, HL.out, HB.out⟩

/-- The place of a name among the first n of a list, from behind. -/
def look (x : L) (l : List L) : Nat → Int × Bool
  | 0 => (0, false)
  | n + 1 => if l.getD n [] = x then ((n : Int) + 1, true) else look x l n
def place (x : L) : Int × Bool := look x order 112

theorem look_sound (x : L) (l : List L) (n : Nat) (h : (look x l n).2 = true) : 1 ≤ (look x l n).1 ∧ l.getD ((look x l n).1 - 1).toNat [] = x := by
  induction n with
  | zero => simp [look] at h
  | succ n ih =>
    unfold look at h ⊢
    by_cases e : l.getD n [] = x
    · rw [if_pos e]
      refine ⟨by show (1 : Int) ≤ (n : Int) + 1; omega, ?_⟩
      have : ((n : Int) + 1 - 1).toNat = n := by omega
      simp only [this]; exact e
    · rw [if_neg e] at h ⊢
      exact ih h
theorem look_le (x : L) (l : List L) (n : Nat) : 0 ≤ (look x l n).1 ∧ (look x l n).1 ≤ n := by
  induction n with
  | zero => simp [look]
  | succ n ih =>
    unfold look
    by_cases e : l.getD n [] = x
    · rw [if_pos e]; simp; omega
    · rw [if_neg e]; omega
theorem place_inj (a b : L) (ha : (place a).2 = true) (hb : (place b).2 = true) : ((place a).1 == (place b).1) = (a == b) := by
  obtain ⟨_, h1⟩ := look_sound a order 112 ha
  obtain ⟨_, h2⟩ := look_sound b order 112 hb
  change order.getD ((place a).1 - 1).toNat [] = a at h1
  change order.getD ((place b).1 - 1).toNat [] = b at h2
  rw [Bool.eq_iff_iff, beq_iff_eq, beq_iff_eq]
  constructor
  · intro h; rw [← h1, ← h2, h]
  · intro h; rw [h]

set_option maxHeartbeats 4000000 in
theorem FieldOrder_calls (s : ByteArray) (w : World) :
    Calls Try.prog 56 #[.string s] w fun e w' => e = .returned (.tuple #[.int .i64 (place s.data.toList).1, .bool (place s.data.toList).2]) ∧ Below w.heap.size w w' := by
  obtain ⟨x, hx, _⟩ : ∃ x : L, s = mk x ∧ s.size = x.length := exists_mk s
  rw [show s.data.toList = x by rw [hx]; rfl]
  have sl : s.toList = x := by rw [hx, mk_toList]
  have HX := Aside0.mk sl
  clear hx sl
  have HB := Aside0.mk (Below.refl w.heap.size w)
  go_enter Try.func56, Try.ntmps56
  go_wp2_with (first | ((with_reducible refine gate_callee (f := 71) rfl ?_); (try (refine gate_guard (by rfl) ?_; dsimp only)); refine goesL_ (some 6) rfl rfl Try.func71 (by kernel_rfl) rfl #[] rfl (by (try simp only [List.map_toArray, List.map_cons, List.map_nil]); first | done | rfl) ?_; (with_reducible refine (Order_calls _).mono ?_); rintro e wN ⟨v6, rfl, ho0, hb⟩; refine ⟨_, rfl, ?_⟩; have nq_ := Aside0.mk (Kd.R_lower ho0 (below_size (by repeat (first | (with_reducible first | exact HB.out | apply below_alloc | apply pw_below_drewN | apply below_drew1) | exact HB.out)))); have nb_ := Aside0.mk (below_step (by repeat (first | (with_reducible first | exact HB.out | apply below_alloc | apply pw_below_drewN | apply below_drew1) | exact HB.out)) hb); clear HB; have HB := nb_; clear nb_; (try clear hb); have HQ := nq_; clear nq_ ho0; (obtain ⟨AQ, cQ, eQ⟩ := Kd.R_slice HQ.out); (rw [List.length_map, order_len] at eQ); subst eQ))
  go_loopg [5] (112) (fun g v5 w' => ∃ (i : Int), v5 = .int .i64 i ∧ -1 ≤ i ∧ i < 112 ∧ Aside0 ((g : Int) = i + 1 ∧ look x order (i + 1).toNat = place x) ∧ Aside0 (Kd.R Kd.string 9 w' w.heap.size (fun _ => True) (.slice AQ 112 cQ) (order.map mk)) ∧ Aside0 (Below w.heap.size w w'))
  case atStart => exact ⟨111, rfl, by omega, by omega, ⟨by omega, rfl⟩, ⟨by (with_reducible repeat (first | apply Kd.R_alloc | apply Kd.R_drewN | apply Kd.R_drew)); exact HQ.out⟩, ⟨(by repeat (first | (with_reducible first | exact HB.out | apply below_alloc | apply pw_below_drewN | apply below_drew1) | exact HB.out))⟩⟩
  case round =>
    clear HB HQ
    obtain ⟨i, rfl, hi1, hi2, HI, HQ, HB⟩ := hrel
    by_cases h0 : 0 ≤ i
    · obtain ⟨m, rfl⟩ := Int.eq_ofNat_of_zero_le h0
      obtain ⟨ad, eA, hcell⟩ := Kd.at_string (Kd.R_reads' HQ.out).2.2 (m : Int) (by omega) (by rw [List.length_map, order_len]; omega)
      subst eA
      obtain ⟨p, hp⟩ : ∃ p, order.getD m [] = p := ⟨_, rfl⟩
      rw [rd_mk, Int.toNat_natCast, hp] at hcell
      obtain ⟨sp, hsp⟩ : ∃ sp, mk p = sp := ⟨_, rfl⟩
      rw [hsp] at hcell
      have hm : m < 112 := by omega
      have hlk : place x = if p = x then ((m : Int) + 1, true) else look x order m := by
        rw [← HI.out.2, show ((m : Int) + 1).toNat = m + 1 by omega, look, hp]
      have HLK := Aside0.mk hlk
      have tE : (sp.toList == s.toList) = (p == x) := by rw [← hsp, mk_toList, HX.out]
      clear hp hsp hlk h0 hi1 hi2
      by_cases he : p = x
      · have t1 : (sp.toList == s.toList) = true := by rw [tE, he]; simp
        have HRES : Aside0 (place x = ((m : Int) + 1, true)) := ⟨by rw [HLK.out, if_pos he]⟩
        clear tE he
        go_wp2
        go_ret2
        exact ⟨by rw [HRES.out]; rfl, HB.out⟩
      · have t1 : (sp.toList == s.toList) = false := by rw [tE]; simpa using he
        have HRES : Aside0 (look x order m = place x) := ⟨by rw [HLK.out, if_neg he]⟩
        clear tE he
        go_wp2
        go_roundg (gk - 1)
        case measure => have := HI.out.1; omega
        case rel => exact ⟨(m : Int) - 1, rfl, by omega, by omega, ⟨by have := HI.out.1; omega, by rw [show ((m : Int) - 1 + 1).toNat = m by omega]; exact HRES.out⟩, HQ, HB⟩
    · obtain rfl : i = -1 := by omega
      have HRES : Aside0 (place x = (0, false)) := ⟨by rw [← HI.out.2]; rfl⟩
      clear h0 hi1 hi2
      go_wp2
      go_ret2
      exact ⟨by rw [HRES.out]; rfl, HB.out⟩

theorem ImplFO_calls (s : ByteArray) (w : World) :
    Calls Try.prog 29 #[.string s] w fun e w' => e = .returned (.tuple #[.int .i64 (place s.data.toList).1, .bool (place s.data.toList).2]) ∧ Below w.heap.size w w' := by
  have HB := Aside0.mk (Below.refl w.heap.size w)
  go_enter Try.func29, Try.ntmps29
  go_wp2_with (first | ((with_reducible refine gate_callee (f := 56) rfl ?_); (try (refine gate_guard (by rfl) ?_; dsimp only)); refine goesL_ (some 5) rfl rfl Try.func56 (by kernel_rfl) rfl #[.string s] rfl (by (try simp only [List.map_toArray, List.map_cons, List.map_nil]); first | done | rfl) ?_; (with_reducible refine (FieldOrder_calls s _).mono ?_); rintro e wN ⟨rfl, hb⟩; refine ⟨_, rfl, ?_⟩; have nb_ := Aside0.mk (below_step (by repeat (first | (with_reducible first | exact HB.out | apply below_alloc | apply pw_below_drewN | apply below_drew1) | exact HB.out)) hb); clear HB; have HB := nb_; clear nb_; (try clear hb)))
  go_ret2
  exact ⟨rfl, (by repeat (first | (with_reducible first | exact HB.out | apply below_alloc | apply pw_below_drewN | apply below_drew1) | exact HB.out))⟩

def five : List L := [[97, 112, 105, 86, 101, 114, 115, 105, 111, 110], [107, 105, 110, 100], [109, 101, 116, 97, 100, 97, 116, 97], [115, 112, 101, 99], [115, 116, 97, 116, 117, 115]]
def fiveN : List Int := [0, 5, 6, 7, 11, 12]
theorem five_place (i : Nat) (h : i < 5) : place (five.getD i []) = (fiveN.getD (i + 1) 0, true) ∧ fiveN.getD i 0 < fiveN.getD (i + 1) 0 ∧ 0 ≤ fiveN.getD i 0 ∧ fiveN.getD (i + 1) 0 ≤ 112 := by
  rcases i with _ | _ | _ | _ | _ | i
  · exact ⟨by decide +kernel, by decide, by decide, by decide⟩
  · exact ⟨by decide +kernel, by decide, by decide, by decide⟩
  · exact ⟨by decide +kernel, by decide, by decide, by decide⟩
  · exact ⟨by decide +kernel, by decide, by decide, by decide⟩
  · exact ⟨by decide +kernel, by decide, by decide, by decide⟩
  · omega

set_option maxHeartbeats 4000000 in
theorem FnFieldOrder_calls (s t : ByteArray) (hs : s.size ≤ 140737488351232) (ht : t.size ≤ 140737488351232) (w : World) :
    Calls Try.prog 8 #[.string s, .string t] w fun e w' => e = .returned (.bool true) ∧ Below w.heap.size w w' := by
  have HB := Aside0.mk (Below.refl w.heap.size w)
  by_cases g1 : s.size > 40
  · by_cases g2 : s.size > 2147483647
    · go_enter Try.func8, Try.ntmps8
      go_wp2
      go_ret
      exact ⟨rfl, (by repeat (first | (with_reducible first | exact HB.out | apply below_alloc | apply pw_below_drewN | apply below_drew1) | exact HB.out))⟩
    · by_cases g3 : t.size > 2147483647
      · go_enter Try.func8, Try.ntmps8
        go_wp2
        go_ret
        exact ⟨rfl, (by repeat (first | (with_reducible first | exact HB.out | apply below_alloc | apply pw_below_drewN | apply below_drew1) | exact HB.out))⟩
      · go_enter Try.func8, Try.ntmps8
        go_wp2
        go_ret
        exact ⟨rfl, (by repeat (first | (with_reducible first | exact HB.out | apply below_alloc | apply pw_below_drewN | apply below_drew1) | exact HB.out))⟩
  · by_cases g3 : t.size > 40
    · by_cases g2 : t.size > 2147483647
      · go_enter Try.func8, Try.ntmps8
        go_wp2
        go_ret
        exact ⟨rfl, (by repeat (first | (with_reducible first | exact HB.out | apply below_alloc | apply pw_below_drewN | apply below_drew1) | exact HB.out))⟩
      · go_enter Try.func8, Try.ntmps8
        go_wp2
        go_ret
        exact ⟨rfl, (by repeat (first | (with_reducible first | exact HB.out | apply below_alloc | apply pw_below_drewN | apply below_drew1) | exact HB.out))⟩
    · obtain ⟨y, hy⟩ : ∃ y : List ByteArray, y = five.map mk := ⟨_, rfl⟩
      have HY := Aside0.mk hy
      obtain ⟨pa, ba, hpa⟩ : ∃ pa ba, place s.data.toList = (pa, ba) := ⟨_, _, rfl⟩
      obtain ⟨pb, bb, hpb⟩ : ∃ pb bb, place t.data.toList = (pb, bb) := ⟨_, _, rfl⟩
      have ca : ∀ w, Calls Try.prog 29 #[.string s] w fun e w' => e = .returned (.tuple #[.int .i64 pa, .bool ba]) ∧ Below w.heap.size w w' := by
        intro w; have h := ImplFO_calls s w; rw [hpa] at h; exact h
      have cb : ∀ w, Calls Try.prog 29 #[.string t] w fun e w' => e = .returned (.tuple #[.int .i64 pb, .bool bb]) ∧ Below w.heap.size w w' := by
        intro w; have h := ImplFO_calls t w; rw [hpb] at h; exact h
      have hfin : ba = true → bb = true → (pa == pb) = (s.toList == t.toList) := by
        intro h1 h2
        have h := place_inj s.data.toList t.data.toList (by rw [hpa]; exact h1) (by rw [hpb]; exact h2)
        rw [hpa, hpb] at h
        rw [toList_eq, toList_eq]; exact h
      have CA := Aside0.mk ca; have CB := Aside0.mk cb; have HFIN := Aside0.mk hfin
      clear hy hpa hpb ca cb hfin
      go_enter Try.func8, Try.ntmps8
      go_wp2_with (first | ((with_reducible refine gate_dst (N := 30) rfl ?_); refine Kd.R_lit Kd.string _ 9 ?hg (N := 30) ?hd (xs := five.map mk) (inner := (five.map mk).map Value.string) (ok := fun _ => True) (okp := fun _ => True) ?hr ?hp (fun _ hk => hk) trivial (Below.refl _ _) (Nat.le_refl _) (by rw [List.length_map]; decide) ?_; (case hd => rfl); (case hg => rfl); (case hr => kernel_rfl); (case hp => exact reps_strs _ _ _ _); intro vN wN hoL hb hg_ hnew_; clear hg_ hnew_; rw [← HY.out] at hoL; have nl_ := Aside0.mk (Kd.R_lower hoL (below_size (by repeat (first | (with_reducible first | exact HB.out | apply below_alloc | apply pw_below_drewN | apply below_drew1) | exact HB.out)))); have nb_ := Aside0.mk (below_step (by repeat (first | (with_reducible first | exact HB.out | apply below_alloc | apply pw_below_drewN | apply below_drew1) | exact HB.out)) hb); clear HB; have HQ := nl_; have HB := nb_; clear nl_ nb_ hb hoL; (obtain ⟨AQ, cQ, eQ⟩ := Kd.R_slice HQ.out); (rw [HY.out, List.length_map, show five.length = 5 from rfl] at eQ); subst eQ))
      go_loopg [5, 32] (5) (fun g v5 v32 w' => ∃ (i : Nat), v32 = .int .i64 i ∧ i ≤ 5 ∧ v5 = .int .i64 (fiveN.getD i 0) ∧ Aside0 (g + i = 5) ∧ Aside0 (Kd.R Kd.string 9 w' w.heap.size (fun _ => True) (.slice AQ 5 cQ) (five.map mk)) ∧ Aside0 (Below w.heap.size w w'))
      case atStart => exact ⟨0, rfl, by omega, rfl, ⟨by omega⟩, ⟨by (with_reducible repeat (first | apply Kd.R_alloc | apply Kd.R_drewN | apply Kd.R_drew)); rw [← HY.out]; exact HQ.out⟩, ⟨(by repeat (first | (with_reducible first | exact HB.out | apply below_alloc | apply pw_below_drewN | apply below_drew1) | exact HB.out))⟩⟩
      case round =>
        clear HB HQ
        obtain ⟨i, rfl, hi, rfl, HI, HQ, HB⟩ := hrel
        by_cases hlt : i < 5
        · obtain ⟨ad, eA, hcell⟩ := Kd.at_string (Kd.R_reads' HQ.out).2.2 (i : Int) (by omega) (by rw [List.length_map]; exact Int.ofNat_lt.2 hlt)
          subst eA
          obtain ⟨f1, f2, f3, f4⟩ := five_place i hlt
          obtain ⟨p, hp⟩ : ∃ p, five.getD i [] = p := ⟨_, rfl⟩
          rw [rd_mk, Int.toNat_natCast, hp] at hcell
          rw [hp] at f1
          obtain ⟨sp, hsp⟩ : ∃ sp, mk p = sp := ⟨_, rfl⟩
          rw [hsp] at hcell
          obtain ⟨n1, hn1⟩ : ∃ n1, fiveN.getD (i + 1) 0 = n1 := ⟨_, rfl⟩
          obtain ⟨n0, hn0⟩ : ∃ n0, fiveN.getD i 0 = n0 := ⟨_, rfl⟩
          rw [hn1] at f1 f2 f4
          rw [hn0] at f2 f3
          rw [hn0]
          have cp : ∀ w, Calls Try.prog 29 #[.string sp] w fun e w' => e = .returned (.tuple #[.int .i64 n1, .bool true]) ∧ Below w.heap.size w w' := by
            intro w; have h := ImplFO_calls sp w; rw [show sp.data.toList = p by rw [← hsp]; rfl, f1] at h; exact h
          have CP := Aside0.mk cp; have HN1 := Aside0.mk hn1
          clear hp hsp f1 cp hn1 hn0
          go_wp2_with (first | ((with_reducible refine gate_callee (f := 29) rfl ?_); (try (refine gate_guard (by rfl) ?_; dsimp only)); refine goesL_ (some 38) rfl rfl Try.func29 (by kernel_rfl) rfl #[.string sp] rfl (by (try simp only [List.map_toArray, List.map_cons, List.map_nil]); first | done | rfl) ?_; (with_reducible refine (CP.out _).mono ?_); rintro e wN ⟨rfl, hb⟩; refine ⟨_, rfl, ?_⟩; have nq_ := Aside0.mk (Kd.R_below (by (with_reducible repeat (first | apply Kd.R_alloc | apply Kd.R_drewN | apply Kd.R_drew)); exact HQ.out) hb); clear HQ; have HQ := nq_; clear nq_; have nb_ := Aside0.mk (below_step (by repeat (first | (with_reducible first | exact HB.out | apply below_alloc | apply pw_below_drewN | apply below_drew1) | exact HB.out)) hb); clear HB; have HB := nb_; clear nb_; (try clear hb)))
          go_roundg (gk - 1)
          case measure => have := HI.out; omega
          case rel => exact ⟨i + 1, by go_num, by omega, by rw [HN1.out], ⟨by have := HI.out; omega⟩, ⟨by (with_reducible repeat (first | apply Kd.R_alloc | apply Kd.R_drewN | apply Kd.R_drew)); exact HQ.out⟩, ⟨(by repeat (first | (with_reducible first | exact HB.out | apply below_alloc | apply pw_below_drewN | apply below_drew1) | exact HB.out))⟩⟩
        · obtain rfl : i = 5 := by omega
          cases ba with
          | false =>
            go_wp2_with (first | ((with_reducible refine gate_callee (f := 29) rfl ?_); (try (refine gate_guard (by rfl) ?_; dsimp only)); refine goesL_ (some 52) rfl rfl Try.func29 (by kernel_rfl) rfl #[.string s] rfl (by (try simp only [List.map_toArray, List.map_cons, List.map_nil]); first | done | rfl) ?_; (with_reducible refine (CA.out _).mono ?_); rintro e wN ⟨rfl, hb⟩; refine ⟨_, rfl, ?_⟩; have nb_ := Aside0.mk (below_step (by repeat (first | (with_reducible first | exact HB.out | apply below_alloc | apply pw_below_drewN | apply below_drew1) | exact HB.out)) hb); clear HB; have HB := nb_; clear nb_; (try clear hb)) | ((with_reducible refine gate_callee (f := 29) rfl ?_); (try (refine gate_guard (by rfl) ?_; dsimp only)); refine goesL_ (some 57) rfl rfl Try.func29 (by kernel_rfl) rfl #[.string t] rfl (by (try simp only [List.map_toArray, List.map_cons, List.map_nil]); first | done | rfl) ?_; (with_reducible refine (CB.out _).mono ?_); rintro e wN ⟨rfl, hb⟩; refine ⟨_, rfl, ?_⟩; have nb_ := Aside0.mk (below_step (by repeat (first | (with_reducible first | exact HB.out | apply below_alloc | apply pw_below_drewN | apply below_drew1) | exact HB.out)) hb); clear HB; have HB := nb_; clear nb_; (try clear hb)))
            go_ret
            exact ⟨rfl, (by repeat (first | (with_reducible first | exact HB.out | apply below_alloc | apply pw_below_drewN | apply below_drew1) | exact HB.out))⟩
          | true =>
            cases bb with
            | false =>
              go_wp2_with (first | ((with_reducible refine gate_callee (f := 29) rfl ?_); (try (refine gate_guard (by rfl) ?_; dsimp only)); refine goesL_ (some 52) rfl rfl Try.func29 (by kernel_rfl) rfl #[.string s] rfl (by (try simp only [List.map_toArray, List.map_cons, List.map_nil]); first | done | rfl) ?_; (with_reducible refine (CA.out _).mono ?_); rintro e wN ⟨rfl, hb⟩; refine ⟨_, rfl, ?_⟩; have nb_ := Aside0.mk (below_step (by repeat (first | (with_reducible first | exact HB.out | apply below_alloc | apply pw_below_drewN | apply below_drew1) | exact HB.out)) hb); clear HB; have HB := nb_; clear nb_; (try clear hb)) | ((with_reducible refine gate_callee (f := 29) rfl ?_); (try (refine gate_guard (by rfl) ?_; dsimp only)); refine goesL_ (some 57) rfl rfl Try.func29 (by kernel_rfl) rfl #[.string t] rfl (by (try simp only [List.map_toArray, List.map_cons, List.map_nil]); first | done | rfl) ?_; (with_reducible refine (CB.out _).mono ?_); rintro e wN ⟨rfl, hb⟩; refine ⟨_, rfl, ?_⟩; have nb_ := Aside0.mk (below_step (by repeat (first | (with_reducible first | exact HB.out | apply below_alloc | apply pw_below_drewN | apply below_drew1) | exact HB.out)) hb); clear HB; have HB := nb_; clear nb_; (try clear hb)))
              go_ret
              exact ⟨rfl, (by repeat (first | (with_reducible first | exact HB.out | apply below_alloc | apply pw_below_drewN | apply below_drew1) | exact HB.out))⟩
            | true =>
              obtain ⟨q, hq⟩ : ∃ q, (s.toList == t.toList) = q := ⟨_, rfl⟩
              have hq2 : (pa == pb) = q := (HFIN.out rfl rfl).trans hq
              clear HFIN
              cases q
              all_goals
                go_wp2_with (first | ((with_reducible refine gate_callee (f := 29) rfl ?_); (try (refine gate_guard (by rfl) ?_; dsimp only)); refine goesL_ (some 52) rfl rfl Try.func29 (by kernel_rfl) rfl #[.string s] rfl (by (try simp only [List.map_toArray, List.map_cons, List.map_nil]); first | done | rfl) ?_; (with_reducible refine (CA.out _).mono ?_); rintro e wN ⟨rfl, hb⟩; refine ⟨_, rfl, ?_⟩; have nb_ := Aside0.mk (below_step (by repeat (first | (with_reducible first | exact HB.out | apply below_alloc | apply pw_below_drewN | apply below_drew1) | exact HB.out)) hb); clear HB; have HB := nb_; clear nb_; (try clear hb)) | ((with_reducible refine gate_callee (f := 29) rfl ?_); (try (refine gate_guard (by rfl) ?_; dsimp only)); refine goesL_ (some 57) rfl rfl Try.func29 (by kernel_rfl) rfl #[.string t] rfl (by (try simp only [List.map_toArray, List.map_cons, List.map_nil]); first | done | rfl) ?_; (with_reducible refine (CB.out _).mono ?_); rintro e wN ⟨rfl, hb⟩; refine ⟨_, rfl, ?_⟩; have nb_ := Aside0.mk (below_step (by repeat (first | (with_reducible first | exact HB.out | apply below_alloc | apply pw_below_drewN | apply below_drew1) | exact HB.out)) hb); clear HB; have HB := nb_; clear nb_; (try clear hb)))
                go_ret
                exact ⟨rfl, (by repeat (first | (with_reducible first | exact HB.out | apply below_alloc | apply pw_below_drewN | apply below_drew1) | exact HB.out))⟩
end Go.Proofs.Ytllmmnhgchidkaa.HandFO

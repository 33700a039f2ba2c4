/- FnPathSeps and the functions beneath it, by hand. -/
import Derived.Test.YtllmmnhgchidkaaPathCleaned
namespace Go.Proofs.Ytllmmnhgchidkaa.Hand
open Go.RowKit Go.Proofs.YtllmmnhgchidkaaW.PrintWords Go.Proofs.YtllmmnhgchidkaaW.PrintLast Go.Proofs.YtllmmnhgchidkaaW.PrintMore Go.Proofs.Ytllmmnhgchidkaa.Base Go.Proofs.Ytllmmnhgchidkaa.PFnPathParts
set_option linter.unusedVariables false
set_option linter.unusedSimpArgs false
set_option maxRecDepth 100000

def front : L → L
  | [] => []
  | b :: t => if b = 47 then front t else b :: t
def backR : Nat → L → L
  | 0, _ => []
  | n + 1, x => if x.getD n 0 = 47 then backR n x else x.take (n + 1)
def back (x : L) : L := backR x.length x

theorem backR_take (n m : Nat) (x : L) (h : n ≤ m) : backR n (x.take m) = backR n x := by
  induction n with
  | zero => rfl
  | succ n ih =>
    unfold backR
    have e : (x.take m).getD n 0 = x.getD n 0 := by
      rw [List.getD_eq_getElem?_getD, List.getD_eq_getElem?_getD, List.getElem?_take_of_lt (by omega)]
    rw [e, ih (by omega), List.take_take, Nat.min_eq_left h]

theorem back_take (z : L) (h : z ≠ []) (hl : z.getD (z.length - 1) 0 = 47) : back (z.take (z.length - 1)) = back z := by
  obtain ⟨n, hn⟩ : ∃ n, z.length = n + 1 := ⟨z.length - 1, by have := List.length_pos_iff.2 h; omega⟩
  rw [hn] at hl ⊢
  simp only [Nat.add_sub_cancel] at hl ⊢
  unfold back
  rw [List.length_take, hn, Nat.min_eq_left (by omega), backR_take n n z (Nat.le_refl _), backR, if_pos hl]
theorem back_stop (z : L) (h : ¬ (z ≠ [] ∧ z.getD (z.length - 1) 0 = 47)) : back z = z := by
  by_cases h0 : z = []
  · rw [h0]; rfl
  · obtain ⟨n, hn⟩ : ∃ n, z.length = n + 1 := ⟨z.length - 1, by have := List.length_pos_iff.2 h0; omega⟩
    have h1 : ¬ z.getD n 0 = 47 := fun e => h ⟨h0, by rw [hn]; exact e⟩
    unfold back
    rw [hn, backR, if_neg h1, ← hn, List.take_length]

/-- A byte of a text, as the walk tests it. -/
theorem byteAt {s : ByteArray} {x : L} (hx : s = mk x) (i : Nat) (c : UInt8) : ∀ h : i < s.size, (((s[i]'h).toNat : Int) == ((c.toNat : Nat) : Int)) = (x.getD i 0 == c) := by
  intro h
  have e : ((s[i]'h).toNat : Int) = bt s i := bt_at s i h
  rw [e, hx, bt_mk, Int.toNat_natCast, Bool.eq_iff_iff, beq_iff_eq, beq_iff_eq]
  constructor
  · intro h; exact UInt8.toNat_inj.1 (by omega)
  · intro h; rw [h]

theorem front_drop (x : L) (i : Nat) (h : i < x.length) (hb : x.getD i 0 = 47) : front (x.drop i) = front (x.drop (i + 1)) := by
  rw [drop_cons h, front, if_pos hb]
theorem front_stop (x : L) (i : Nat) (h : i < x.length → x.getD i 0 ≠ 47) : front (x.drop i) = x.drop i := by
  by_cases hl : i < x.length
  · rw [drop_cons hl, front, if_neg (h hl)]
  · rw [List.drop_eq_nil_of_le (by omega)]; rfl

set_option maxHeartbeats 1000000 in
theorem Leading_calls (s : ByteArray) (hs : s.size ≤ 140737488351232) (w : World) :
    Calls Try.prog 50 #[.string s] w fun e w' => e = .returned (.string (mk (front s.data.toList))) ∧ w = w' := by
  obtain ⟨x, hx, hxs⟩ : ∃ x : L, s = mk x ∧ s.size = x.length := exists_mk s
  rw [show s.data.toList = x by rw [hx]; rfl]
  have HX := Aside0.mk (And.intro hx hxs); clear hx hxs
  go_enter Try.func50, Try.ntmps50
  go_wp2
  go_loopg [3] (s.size) (fun g v3 w' => ∃ i : Nat, v3 = .int .i64 i ∧ w = w' ∧ Aside0 (g + i = s.size ∧ front (x.drop i) = front x))
  case atStart => exact ⟨0, rfl, rfl, ⟨by omega, by simp⟩⟩
  case round =>
    obtain ⟨i, rfl, rfl, HI⟩ := hrel
    have hi : i ≤ s.size := by have := HI.out.1; omega
    have hb := byteAt HX.out.1 i 47
    by_cases hlt : i < s.size
    · by_cases hc : x.getD i 0 = 47
      · have hb2 : ∀ h : i < s.size, (((s[i]'h).toNat : Int) == 47) = true := fun h => by have := hb h; rw [hc] at this; exact this
        have HC := Aside0.mk hc; clear hb hc
        go_wp2
        go_roundg (gk - 1)
        case measure => have := HI.out.1; omega
        case rel => exact ⟨i + 1, by go_num, rfl, ⟨by have := HI.out.1; omega, by rw [← HI.out.2, front_drop x i (by have := HX.out.2; omega) HC.out]⟩⟩
      · have hb2 : ∀ h : i < s.size, (((s[i]'h).toNat : Int) == 47) = false := fun h => by have := hb h; rw [show (x.getD i 0 == 47) = false by simpa using hc] at this; exact this
        have hf : s.extract i s.size = mk (front x) := by
          rw [← HI.out.2, front_stop x i (fun _ => hc), HX.out.1, extract_mk, mk_size, List.take_length]
        have HF := Aside0.mk hf; clear hb hc hf
        go_wp2
        go_ret
        exact ⟨by rw [← HF.out]; rfl, rfl⟩
    · have hf : s.extract i s.size = mk (front x) := by
        rw [← HI.out.2, front_stop x i (fun h => by have := HX.out.2; omega), HX.out.1, extract_mk, mk_size, List.take_length]
      have HF := Aside0.mk hf; clear hb hf
      go_wp2
      go_ret
      exact ⟨by rw [← HF.out]; rfl, rfl⟩

set_option maxHeartbeats 1000000 in
theorem Trailing_calls (s : ByteArray) (hs : s.size ≤ 140737488351232) (w : World) :
    Calls Try.prog 51 #[.string s] w fun e w' => e = .returned (.string (mk (back s.data.toList))) ∧ w = w' := by
  obtain ⟨x, hx, hxs⟩ : ∃ x : L, s = mk x ∧ s.size = x.length := exists_mk s
  rw [show s.data.toList = x by rw [hx]; rfl]
  have HX := Aside0.mk (And.intro hx hxs); clear hx hxs
  go_enter Try.func51, Try.ntmps51
  go_wp2
  go_loopg [3] (s.size) (fun g v3 w' => ∃ i : Nat, v3 = .int .i64 i ∧ w = w' ∧ Aside0 (g = i ∧ i ≤ s.size ∧ backR i x = back x))
  case atStart => exact ⟨s.size, rfl, rfl, ⟨rfl, by omega, by unfold back; rw [HX.out.2]⟩⟩
  case round =>
    obtain ⟨i, rfl, rfl, HI⟩ := hrel
    have hi := HI.out.2.1
    by_cases h0 : i = 0
    · subst h0
      have hf : ByteArray.empty = mk (back x) := by rw [← HI.out.2.2]; rfl
      have HF := Aside0.mk hf; clear hf
      go_wp2
      go_ret
      exact ⟨by rw [← HF.out]; rfl, rfl⟩
    · obtain ⟨n, rfl⟩ : ∃ n, i = n + 1 := ⟨i - 1, by omega⟩
      have hb := byteAt HX.out.1 n 47
      have hn : n < s.size := by omega
      by_cases hc : x.getD n 0 = 47
      · have hb2 : ∀ h : n < s.size, (((s[n]'h).toNat : Int) == 47) = true := fun h => by have := hb h; rw [hc] at this; exact this
        have HC := Aside0.mk hc; clear hb hc
        go_wp2
        go_roundg (gk - 1)
        case measure => have := HI.out.1; omega
        case rel => exact ⟨n, by go_num, rfl, ⟨by have := HI.out.1; omega, by omega, by rw [← HI.out.2.2, backR, if_pos HC.out]⟩⟩
      · have hb2 : ∀ h : n < s.size, (((s[n]'h).toNat : Int) == 47) = false := fun h => by have := hb h; rw [show (x.getD n 0 == 47) = false by simpa using hc] at this; exact this
        have hf : s.extract 0 (n + 1) = mk (back x) := by
          rw [← HI.out.2.2, backR, if_neg hc, HX.out.1, extract_mk]; rfl
        have HF := Aside0.mk hf; clear hb hc hf
        go_wp2
        go_ret
        exact ⟨by rw [← HF.out]; rfl, rfl⟩

theorem StripSeps_calls (s : ByteArray) (hs : s.size ≤ 140737488351232) (w : World) :
    Calls Try.prog 23 #[.string s] w fun e w' => e = .returned (.tuple #[.string (mk (front s.data.toList)), .string (mk (back s.data.toList))]) ∧ w = w' := by
  go_enter Try.func23, Try.ntmps23
  go_wp2_with (first | ((with_reducible refine gate_callee (f := 50) rfl ?_); (try (refine gate_guard (by rfl) ?_; dsimp only)); refine goesL_ (some 5) rfl rfl Try.func50 (by kernel_rfl) rfl #[.string s] rfl (by (try simp only [List.map_toArray, List.map_cons, List.map_nil]); first | done | rfl) ?_; (with_reducible refine (Leading_calls s hs _).mono ?_); rintro e wN ⟨rfl, rfl⟩; refine ⟨_, rfl, ?_⟩; skip) | ((with_reducible refine gate_callee (f := 51) rfl ?_); (try (refine gate_guard (by rfl) ?_; dsimp only)); refine goesL_ (some 7) rfl rfl Try.func51 (by kernel_rfl) rfl #[.string s] rfl (by (try simp only [List.map_toArray, List.map_cons, List.map_nil]); first | done | rfl) ?_; (with_reducible refine (Trailing_calls s hs _).mono ?_); rintro e wN ⟨rfl, rfl⟩; refine ⟨_, rfl, ?_⟩; skip))
  go_ret2
  exact ⟨rfl, rfl⟩

set_option maxHeartbeats 2000000 in
theorem FnPathSeps_calls (s : ByteArray) (hs : s.size ≤ 140737488351232) (w : World) :
    Calls Try.prog 5 #[.string s] w fun e w' => e = .returned (.bool true) ∧ Below w.heap.size w w' := by
  obtain ⟨x, hx, hxs⟩ : ∃ x : L, s = mk x ∧ s.size = x.length := exists_mk s
  have HB := Aside0.mk (Below.refl w.heap.size w)
  by_cases h1 : s.size > 2147483647
  · clear hx hxs
    go_enter Try.func5, Try.ntmps5
    go_wp2
    go_ret
    exact ⟨rfl, (by repeat (first | (with_reducible first | exact HB.out | apply below_alloc | apply pw_below_drewN | apply below_drew1) | exact HB.out))⟩
  · obtain ⟨k, hk⟩ := (epPath_ev [x] (by simp) (by simp; omega)).rounds
    obtain ⟨y, hy⟩ : ∃ y : List ByteArray, y = [s] := ⟨_, rfl⟩
    rw [show ([x] : List L).map mk = y by rw [hy, hx]; rfl] at hk
    have KP := Aside0.mk hk; have HY := Aside0.mk hy; clear hk hy
    by_cases h2 : epOk [x] = true
    · rw [h2] at KP
      have hsd : s.data.toList = x := by rw [hx]; rfl
      have HX := Aside0.mk (And.intro hx (And.intro hxs hsd))
      clear hx hxs h2 hsd
      go_enter Try.func5, Try.ntmps5
      go_wp2_with (first | ((with_reducible refine gate_dst (N := 11) rfl ?_); (try (refine gate_guard (by rfl) ?_; dsimp only)); refine Kd.R_lit Kd.string _ 9 ?hg (N := 11) ?hd (xs := ([s] : List ByteArray)) (inner := [.string s]) (ok := fun _ => True) (okp := fun _ => True) ?hr ?hp (fun _ hk => hk) trivial (Below.refl _ _) (Nat.le_refl _) (by simp) ?_; (case hd => rfl); (case hg => rfl); (case hr => first | (go_simp; done) | (go_simp; rfl)); (case hp => exact (Reps.one (show Kd.M Kd.string _ _ _ s [.string s] from rfl) (Reps.none _ _))); intro vN wN hoL hb hg_ hnew_; clear hg_ hnew_; (first | rw [← HY.out] at hoL | (simp only [Int.reduceToNat] at hoL; rw [← HY.out] at hoL)); have nl_ := Aside0.mk (Kd.R_lower hoL (below_size (by repeat (first | (with_reducible first | exact HB.out | apply below_alloc | apply pw_below_drewN | apply below_drew1) | exact HB.out)))); have nb_ := Aside0.mk (below_step (by repeat (first | (with_reducible first | exact HB.out | apply below_alloc | apply pw_below_drewN | apply below_drew1) | exact HB.out)) hb); clear HB; have HL1 := nl_; have HB := nb_; clear nl_ nb_; clear hb hoL; obtain ⟨AL1, cL1, eL1⟩ := Kd.R_slice HL1.out; subst eL1) | ((with_reducible refine gate_callee (f := 19) rfl ?_); (try (refine gate_guard (by rfl) ?_; dsimp only)); refine goesL_ (some 12) rfl rfl Try.func19 (by kernel_rfl) rfl #[.slice AL1 y.length cL1] rfl (by (try simp only [List.map_toArray, List.map_cons, List.map_nil]); first | done | rfl) ?_; (with_reducible refine (laws_epPath.calls k _ _ y true _ ?side1 ?side2 KP.out).mono ?_); (case side1 => repeat (first | exact (Kd.R_reads' HL1.out).2.2 | (with_reducible refine Kd.C_alloc ?_ _) | (with_reducible refine Kd.C_drewN ?_ _) | (with_reducible refine Kd.C_drew ?_))); (case side2 => exact (Kd.R_reads' HL1.out).2.1); rintro e wN ⟨rfl, ⟨nd, rfl⟩⟩; refine ⟨_, rfl, ?_⟩; skip))
      clear HL1 HY KP
      go_loopg [3] (s.size) (fun g v3 w' => ∃ (z : L) (t : ByteArray), v3 = .string t ∧ Aside0 (t = mk z ∧ z.length ≤ g ∧ z.length ≤ s.size ∧ front z = front x) ∧ Aside0 (Below w.heap.size w w'))
      case atStart => exact ⟨x, s, rfl, ⟨HX.out.1, by have := HX.out.2.1; omega, by have := HX.out.2.1; omega, rfl⟩, ⟨(by repeat (first | (with_reducible first | exact HB.out | apply below_alloc | apply pw_below_drewN | apply below_drew1) | exact HB.out))⟩⟩
      case round =>
        clear HB
        obtain ⟨z, t, rfl, HZ, HB⟩ := hrel
        have hts : t.size = z.length := by rw [HZ.out.1, mk_size]
        have htz : t.size ≤ s.size := by rw [hts]; exact HZ.out.2.2.1
        have hb := byteAt HZ.out.1 0 47
        by_cases hc : z ≠ [] ∧ z.getD 0 0 = 47
        · obtain ⟨h3, h4⟩ := hc
          have hp : 0 < t.size := by rw [hts]; exact List.length_pos_iff.2 h3
          have t1 : (t.toList == ([] : List UInt8)) = false := by rw [HZ.out.1, mk_toList]; simpa using h3
          have hb2 : ∀ h : 0 < t.size, (((t[0]'h).toNat : Int) == 47) = true := fun h => by have := hb h; rw [h4] at this; exact this
          have he : t.extract 1 t.size = mk (z.drop 1) := by rw [HZ.out.1, extract_mk, mk_size, List.take_length]
          have hfz : front (z.drop 1) = front x := by rw [← HZ.out.2.2.2, ← front_drop z 0 (by omega) h4, List.drop_zero]
          have HE := Aside0.mk (And.intro he hfz); have HH := Aside0.mk hts; have H4 := Aside0.mk h4
          clear hb he hfz h3 hts h4
          go_wp2
          go_roundg (gk - 1)
          case measure => have := HZ.out.2.1; have := HH.out; omega
          case rel => exact ⟨z.drop 1, _, rfl, ⟨HE.out.1, by have := HZ.out.2.1; simp; omega, by have := HZ.out.2.2.1; simp; omega, HE.out.2⟩, HB⟩
        · have hfx : z = front x := by
            rw [← HZ.out.2.2.2]
            cases z with
            | nil => rfl
            | cons b r => rw [front, if_neg (show ¬ b = 47 from fun h => hc ⟨by simp, by simpa using h⟩)]
          have HC : (t.toList == ([] : List UInt8)) = true ∨ (t.toList == ([] : List UInt8)) = false ∧ 0 < t.size ∧ ∀ h : 0 < t.size, (((t[0]'h).toNat : Int) == 47) = false := by
            by_cases h3 : z = []
            · exact .inl (by rw [HZ.out.1, mk_toList, h3]; rfl)
            · refine .inr ⟨by rw [HZ.out.1, mk_toList]; simpa using h3, by rw [hts]; exact List.length_pos_iff.2 h3, fun h => ?_⟩
              have h5 := hb h
              rw [show (z.getD 0 0 == 47) = false by simpa using fun h6 => hc ⟨h3, h6⟩] at h5; exact h5
          have HF := Aside0.mk (show t = mk (front x) by rw [← hfx]; exact HZ.out.1)
          have HH := Aside0.mk hts
          clear hb hfx hc hts
          rcases HC with h3 | ⟨h3, h4, h5⟩
          all_goals
            go_wp2
            go_loopg [4] (s.size) (fun g v4 w' => ∃ (z : L) (t : ByteArray), v4 = .string t ∧ Aside0 (t = mk z ∧ z.length ≤ g ∧ z.length ≤ s.size ∧ back z = back x) ∧ Aside0 (Below w.heap.size w w'))
            case atStart => exact ⟨x, s, rfl, ⟨HX.out.1, by have := HX.out.2.1; omega, by have := HX.out.2.1; omega, rfl⟩, ⟨(by repeat (first | (with_reducible first | exact HB.out | apply below_alloc | apply pw_below_drewN | apply below_drew1) | exact HB.out))⟩⟩
            case round =>
              clear HB
              obtain ⟨z2, t2, rfl, HZ2, HB⟩ := hrel
              have hts2 : t2.size = z2.length := by rw [HZ2.out.1, mk_size]
              have htz2 : t2.size ≤ s.size := by rw [hts2]; exact HZ2.out.2.2.1
              by_cases hc : z2 ≠ [] ∧ z2.getD (z2.length - 1) 0 = 47
              · obtain ⟨h6, h7⟩ := hc
                have hp : 0 < t2.size := by rw [hts2]; exact List.length_pos_iff.2 h6
                have t1 : (t2.toList == ([] : List UInt8)) = false := by rw [HZ2.out.1, mk_toList]; simpa using h6
                have hb := byteAt HZ2.out.1 (t2.size - 1) 47
                have hb2 : ∀ h : t2.size - 1 < t2.size, (((t2[t2.size - 1]'h).toNat : Int) == 47) = true := fun h => by
                  exact (hb h).trans (by rw [hts2, h7]; rfl)
                have he : t2.extract 0 (t2.size - 1) = mk (z2.take (z2.length - 1)) := by rw [hts2, HZ2.out.1, extract_mk]; rfl
                have hbz := back_take z2 h6 h7
                have HE := Aside0.mk (And.intro he (hbz.trans HZ2.out.2.2.2)); have HH := Aside0.mk hts2; have H6 := Aside0.mk (And.intro h6 h7)
                clear hb he hbz h6 hts2 h7
                go_wp2
                go_roundg (gk - 1)
                case measure => have := HZ2.out.2.1; have := HH.out; omega
                case rel => exact ⟨z2.take (z2.length - 1), _, rfl, ⟨HE.out.1, by have := HZ2.out.2.1; have := HH.out; simp; omega, by have := HZ2.out.2.2.1; simp; omega, HE.out.2⟩, HB⟩
              · have hbx : z2 = back x := by rw [← HZ2.out.2.2.2]; exact (back_stop z2 hc).symm
                have HC2 : (t2.toList == ([] : List UInt8)) = true ∨ (t2.toList == ([] : List UInt8)) = false ∧ 0 < t2.size ∧ ∀ h : t2.size - 1 < t2.size, (((t2[t2.size - 1]'h).toNat : Int) == 47) = false := by
                  by_cases h6 : z2 = []
                  · exact .inl (by rw [HZ2.out.1, mk_toList, h6]; rfl)
                  · refine .inr ⟨by rw [HZ2.out.1, mk_toList]; simpa using h6, by rw [hts2]; exact List.length_pos_iff.2 h6, fun h => ?_⟩
                    exact (byteAt HZ2.out.1 (t2.size - 1) 47 h).trans (by rw [hts2]; simpa using fun h9 => hc ⟨h6, by simpa using h9⟩)
                obtain ⟨f1, hf1⟩ : ∃ f1, mk (front x) = f1 := ⟨_, rfl⟩
                obtain ⟨f2, hf2⟩ : ∃ f2, mk (back x) = f2 := ⟨_, rfl⟩
                have e1 : (f1.toList == t.toList) = true := by rw [← hf1, HF.out]; simp
                have e2 : (f2.toList == t2.toList) = true := by rw [← hf2, HZ2.out.1, hbx]; simp
                have hss : ∀ w, Calls Try.prog 23 #[.string s] w fun e w' => e = .returned (.tuple #[.string f1, .string f2]) ∧ w = w' := by
                  intro w
                  have h := StripSeps_calls s hs w
                  rw [HX.out.2.2, hf1, hf2] at h; exact h
                have HSS := Aside0.mk hss
                have HH2 := Aside0.mk hts2
                clear hbx hc hts2 hss hf1 hf2
                rcases HC2 with h6 | ⟨h6, h7, h8⟩
                all_goals
                  go_wp2_with (first | ((with_reducible refine gate_callee (f := 23) rfl ?_); (try (refine gate_guard (by rfl) ?_; dsimp only)); refine goesL_ (some 42) rfl rfl Try.func23 (by kernel_rfl) rfl #[.string s] rfl (by (try simp only [List.map_toArray, List.map_cons, List.map_nil]); first | done | rfl) ?_; (with_reducible refine (HSS.out _).mono ?_); rintro e wN ⟨rfl, rfl⟩; refine ⟨_, rfl, ?_⟩; skip) | ((with_reducible refine gate_callee (f := 22) rfl ?_); (try (refine gate_guard (by rfl) ?_; dsimp only)); refine goesL_ (some 54) rfl rfl Try.func22 (by kernel_rfl) rfl #[] rfl (by (try simp only [List.map_toArray, List.map_cons, List.map_nil]); first | done | rfl) ?_; (with_reducible refine (epCleans_calls _).mono ?_); rintro e wN ⟨rfl, hb⟩; refine ⟨_, rfl, ?_⟩; have nb_ := Aside0.mk (below_step (by repeat (first | (with_reducible first | exact HB.out | apply below_alloc | apply pw_below_drewN | apply below_drew1) | exact HB.out)) hb); clear HB; have HB := nb_; clear nb_; (try clear hb)))
                  go_ret
                  exact ⟨rfl, (by repeat (first | (with_reducible first | exact HB.out | apply below_alloc | apply pw_below_drewN | apply below_drew1) | exact HB.out))⟩
    · have h3 := Bool.eq_false_iff.mpr h2
      rw [h3] at KP
      clear hx hxs h2 h3
      go_enter Try.func5, Try.ntmps5
      go_wp2_with (first | ((with_reducible refine gate_dst (N := 11) rfl ?_); (try (refine gate_guard (by rfl) ?_; dsimp only)); refine Kd.R_lit Kd.string _ 9 ?hg (N := 11) ?hd (xs := ([s] : List ByteArray)) (inner := [.string s]) (ok := fun _ => True) (okp := fun _ => True) ?hr ?hp (fun _ hk => hk) trivial (Below.refl _ _) (Nat.le_refl _) (by simp) ?_; (case hd => rfl); (case hg => rfl); (case hr => first | (go_simp; done) | (go_simp; rfl)); (case hp => exact (Reps.one (show Kd.M Kd.string _ _ _ s [.string s] from rfl) (Reps.none _ _))); intro vN wN hoL hb hg_ hnew_; clear hg_ hnew_; (first | rw [← HY.out] at hoL | (simp only [Int.reduceToNat] at hoL; rw [← HY.out] at hoL)); have nl_ := Aside0.mk (Kd.R_lower hoL (below_size (by repeat (first | (with_reducible first | exact HB.out | apply below_alloc | apply pw_below_drewN | apply below_drew1) | exact HB.out)))); have nb_ := Aside0.mk (below_step (by repeat (first | (with_reducible first | exact HB.out | apply below_alloc | apply pw_below_drewN | apply below_drew1) | exact HB.out)) hb); clear HB; have HL1 := nl_; have HB := nb_; clear nl_ nb_; clear hb hoL; obtain ⟨AL1, cL1, eL1⟩ := Kd.R_slice HL1.out; subst eL1) | ((with_reducible refine gate_callee (f := 19) rfl ?_); (try (refine gate_guard (by rfl) ?_; dsimp only)); refine goesL_ (some 12) rfl rfl Try.func19 (by kernel_rfl) rfl #[.slice AL1 y.length cL1] rfl (by (try simp only [List.map_toArray, List.map_cons, List.map_nil]); first | done | rfl) ?_; (with_reducible refine (laws_epPath.calls k _ _ y false _ ?side1 ?side2 KP.out).mono ?_); (case side1 => repeat (first | exact (Kd.R_reads' HL1.out).2.2 | (with_reducible refine Kd.C_alloc ?_ _) | (with_reducible refine Kd.C_drewN ?_ _) | (with_reducible refine Kd.C_drew ?_))); (case side2 => exact (Kd.R_reads' HL1.out).2.1); rintro e wN ⟨rfl, ⟨nd, rfl⟩⟩; refine ⟨_, rfl, ?_⟩; skip))
      go_ret
      exact ⟨rfl, (by repeat (first | (with_reducible first | exact HB.out | apply below_alloc | apply pw_below_drewN | apply below_drew1) | exact HB.out))⟩
end Go.Proofs.Ytllmmnhgchidkaa.Hand

-- PRINTED BY print.sh 35421559b90ae4d0a3588c463048766b98c2df88dd9212a6774a882060cdf62d: not written by this session
import Derived.Test.YtllmmnhgchidkaaPFnSelTokensx0
namespace Go.Proofs.Ytllmmnhgchidkaa.PFnSelTokens
open Go.RowKit Go.Proofs.YtllmmnhgchidkaaW.PrintWords Go.Proofs.YtllmmnhgchidkaaW.PrintLast Go.Proofs.YtllmmnhgchidkaaW.PrintMore
attribute [local go_sem] max2_int min2_int max_two min_two max_three min_three max_four min_four   -- for this text's walks alone
set_option linter.unusedVariables false
set_option linter.unusedSimpArgs false

/-- A state of type 95 at block g of W; what its slices lead to came in by w0. -/
def IsS95 (w0 W : World) (g : Nat) (f0 : ByteArray) (f1 : Int) : Prop := W.heap[g]? = some (.cells #[.string f0, .int .i64 f1] 95 (0, 0)) ∧ w0.heap.size ≤ g
theorem IsS95.grown {w0 W : World} {g : Nat} {f0 : ByteArray} {f1 : Int} {W1 : World} {row : Option Nat} (h : IsS95 w0 W g f0 f1) (hw : W.grownBy W1 row) (hne : some g ≠ row) : IsS95 w0 W1 g f0 f1 := by
  obtain ⟨hb, hg⟩ := h
  exact ⟨blk_grown hb hw hne, hg⟩
theorem IsS95.own_neN {w0 W : World} {g : Nat} {f0 : ByteArray} {f1 : Int} {α : Type} {d : Kd α} {e : Nat} {base : Nat} {ok : Nat → Prop} {v : Value} {xs : List α} (h : IsS95 w0 W g f0 f1) (ho : Kd.N d e W base ok v xs) (ht : e ≠ 95) : some g ≠ v.ownBlock := by
  obtain ⟨hb, hg⟩ := h
  exact Kd.N_ne ho hb ht
theorem IsS95.fresh {w0 W : World} {g : Nat} {f0 : ByteArray} {f1 : Int} (h : IsS95 w0 W g f0 f1) : ∀ k, W.heap.size ≤ k → k ≠ g := by
  obtain ⟨hb, hg⟩ := h
  exact Kd.freshB hb
theorem IsS95.kept {w0 W : World} {g : Nat} {f0 : ByteArray} {f1 : Int} {W1 : World} {S : Nat → Prop} (h : IsS95 w0 W g f0 f1) (hk : Kept W W1 S) (hne : ¬ S g) : IsS95 w0 W1 g f0 f1 := by
  obtain ⟨hb, hg⟩ := h
  exact ⟨blk_kept hb hk hne, hg⟩
theorem IsS95.below {w0 W : World} {g : Nat} {f0 : ByteArray} {f1 : Int} {W1 : World} (h : IsS95 w0 W g f0 f1) (hw : Below W.heap.size W W1) : IsS95 w0 W1 g f0 f1 := h.grown (grown_of_below hw none) (by simp)
theorem IsS95.alloc {w0 W : World} {g : Nat} {f0 : ByteArray} {f1 : Int} (h : IsS95 w0 W g f0 f1) (o : Obj) : IsS95 w0 (W.alloc o) g f0 f1 := h.below (below_alloc (Below.refl _ _) o)
theorem IsS95.drewN {w0 W : World} {g : Nat} {f0 : ByteArray} {f1 : Int} (h : IsS95 w0 W g f0 f1) (m : Nat) : IsS95 w0 (W.drewN m) g f0 f1 := h
theorem IsS95.drew {w0 W : World} {g : Nat} {f0 : ByteArray} {f1 : Int} (h : IsS95 w0 W g f0 f1) : IsS95 w0 W.drew g f0 f1 := h
theorem IsS95.at_ {w0 W : World} {g : Nat} {f0 : ByteArray} {f1 : Int} {w' : World} {m : Nat} (hq : W.drewN m = w') (h : IsS95 w0 W g f0 f1) : IsS95 w0 w' g f0 f1 := by subst hq; exact IsS95.drewN h m
theorem IsS95.apart {w0 W : World} {g : Nat} {f0 : ByteArray} {f1 : Int} {α : Type} {d : Kd α} {e : Nat} {base : Nat} {ok : Nat → Prop} {v : Value} {xs : List α} (h : IsS95 w0 W g f0 f1) (ho : d.R e W base ok v xs) (ht : ∀ q, q ∈ e :: d.E → q ≠ 95) : d.R e W base (fun k => ok k ∧ k ≠ g) v xs := by
  obtain ⟨hb, hg⟩ := h
  exact Kd.R_types ho hb ht
theorem IsS95.own_ne {w0 W : World} {g : Nat} {f0 : ByteArray} {f1 : Int} {α : Type} {d : Kd α} {e : Nat} {base : Nat} {ok : Nat → Prop} {v : Value} {xs : List α} (h : IsS95 w0 W g f0 f1) (ho : d.R e W base ok v xs) (ht : e ≠ 95) : some g ≠ v.ownBlock := by
  obtain ⟨hb, hg⟩ := h
  exact Kd.R_ne ho hb ht
theorem IsS95.apartQ {w0 W : World} {g : Nat} {f0 : ByteArray} {f1 : Int} {α : Type} {d : Kd α} {e : Nat} {base : Nat} {ok : Nat → Prop} {v : Value} {xs : List α} (h : IsS95 w0 W g f0 f1) (ho : d.Q e W base ok v xs) (ht : ∀ q, q ∈ e :: d.E → q ≠ 95) : d.Q e W base (fun k => ok k ∧ k ≠ g) v xs := by
  obtain ⟨hb, hg⟩ := h
  exact Kd.Q_types ho hb ht
theorem IsS95.own_neQ {w0 W : World} {g : Nat} {f0 : ByteArray} {f1 : Int} {α : Type} {d : Kd α} {e : Nat} {base : Nat} {ok : Nat → Prop} {v : Value} {xs : List α} (h : IsS95 w0 W g f0 f1) (ho : d.Q e W base ok v xs) (ht : e ≠ 95) : some g ≠ v.ownBlock := by
  obtain ⟨hb, hg⟩ := h
  exact Kd.Q_ne ho hb ht
theorem IsS95.apartS {w0 W : World} {g : Nat} {f0 : ByteArray} {f1 : Int} {α : Type} {d : Kd α} {e : Nat} {base : Nat} {ok : Nat → Prop} {v : Value} {xs : List α} (h : IsS95 w0 W g f0 f1) (ho : d.S e W base ok v xs) (ht : ∀ q, q ∈ e :: d.E → q ≠ 95) : d.S e W base (fun k => ok k ∧ k ≠ g) v xs := by
  obtain ⟨hb, hg⟩ := h
  exact Kd.S_types ho hb ht
theorem IsS95.own_neS {w0 W : World} {g : Nat} {f0 : ByteArray} {f1 : Int} {α : Type} {d : Kd α} {e : Nat} {base : Nat} {ok : Nat → Prop} {v : Value} {xs : List α} (h : IsS95 w0 W g f0 f1) (ho : d.S e W base ok v xs) (ht : e ≠ 95) : some g ≠ v.ownBlock := by
  obtain ⟨hb, hg⟩ := h
  exact Kd.S_ne ho hb ht
theorem IsS95.lt {w0 W : World} {g : Nat} {f0 : ByteArray} {f1 : Int} (h : IsS95 w0 W g f0 f1) : g < W.heap.size := by
  obtain ⟨hb, hg⟩ := h
  exact blk_lt hb
theorem IsS95.ge {w0 W : World} {g : Nat} {f0 : ByteArray} {f1 : Int} (h : IsS95 w0 W g f0 f1) : w0.heap.size ≤ g := by
  obtain ⟨hb, hg⟩ := h
  exact hg
theorem IsS95.ne_blk {w0 W : World} {g : Nat} {f0 : ByteArray} {f1 : Int} {a : Nat} {cs : Array Value} {t : TypeId} {fr : Nat × Nat} (h : IsS95 w0 W g f0 f1) (hb2 : W.heap[a]? = some (.cells cs t fr)) (ht : t ≠ 95) : g ≠ a := by
  obtain ⟨hb, hg⟩ := h
  rintro rfl
  rw [hb] at hb2
  injection hb2 with hb2
  injection hb2 with _ ht2
  exact ht ht2.symm
theorem IsS95.far {w0 W : World} {g : Nat} {f0 : ByteArray} {f1 : Int} {p : Addr} (h : IsS95 w0 W g f0 f1) (hne : g ≠ p.block) (u : Value) : IsS95 w0 (W.setCell p u) g f0 f1 := by
  obtain ⟨hb, hg⟩ := h
  exact ⟨blk_far hb hne u, hg⟩
theorem cellS95_0 {W : World} {g : Nat} {f0 : ByteArray} {f1 : Int} (h : W.heap[g]? = some (.cells #[.string f0, .int .i64 f1] 95 (0, 0))) : W.cell? ⟨g, 0, none⟩ = some (.string f0) := (blk_cell h 0).trans rfl
theorem IsS95.set_0 {w0 W : World} {g : Nat} {f0 : ByteArray} {f1 : Int} (h : IsS95 w0 W g f0 f1) (x : ByteArray) : IsS95 w0 (W.setCell ⟨g, 0, none⟩ (.string x)) g x f1 := by
  obtain ⟨hb, hg⟩ := h
  exact ⟨by simpa using blk_set hb 0 (.string x), hg⟩
theorem cellS95_1 {W : World} {g : Nat} {f0 : ByteArray} {f1 : Int} (h : W.heap[g]? = some (.cells #[.string f0, .int .i64 f1] 95 (0, 0))) : W.cell? ⟨g, 1, none⟩ = some (.int .i64 f1) := (blk_cell h 1).trans rfl
theorem IsS95.set_1 {w0 W : World} {g : Nat} {f0 : ByteArray} {f1 : Int} (h : IsS95 w0 W g f0 f1) (x : Int) : IsS95 w0 (W.setCell ⟨g, 1, none⟩ (.int .i64 x)) g f0 x := by
  obtain ⟨hb, hg⟩ := h
  exact ⟨by simpa using blk_set hb 1 (.int .i64 x), hg⟩
theorem IsS95.new (w0 W : World) (f0 : ByteArray) (f1 : Int) (hB : Below w0.heap.size w0 W) : IsS95 w0 (W.alloc (.cells #[.string f0, .int .i64 f1] 95)) W.heap.size f0 f1 := ⟨by simpa using heap_alloc_new W _, hB.size⟩

/-! ### labels_Lexer_read: function 80 -/
def labels_Lexer_read.f (s0_0 : ByteArray) (s0_1 : Int) : Option (Int × ByteArray × Int) := if s0_1 < (s0_0.size : Int) then (if 0 ≤ s0_1 then (some (bt s0_0 s0_1, s0_0, wrap64 (s0_1 + 1))) else (none)) else (some (0, s0_0, s0_1))
set_option maxHeartbeats 8000000 in
set_option maxRecDepth 100000 in
theorem labels_Lexer_read.calls (g : Nat) (s0_0 : ByteArray) (s0_1 : Int) (r1 : Int) (r2 : ByteArray) (r3 : Int) (w0 w : World) (hI : IsS95 w0 w g s0_0 s0_1) (hB : Below w0.heap.size w0 w) (h : labels_Lexer_read.f s0_0 s0_1 = some (r1, r2, r3)) :
    Calls Try.prog 80 #[.pointer (some ⟨g, 0, none⟩)] w fun e w' => e = .returned (.int .u8 r1) ∧ IsS95 w0 w' g r2 r3 ∧ Below w0.heap.size w0 w' ∧ KeepBut w w' g none := by
  have HI0 := Aside0.mk hI
  have HK := Aside0.mk (KeepBut.refl w g none)
  have HL := Aside0.mk hB.size
  clear hI
  have HW0 := Aside0.mk hB.size
  have HB := Aside0.mk hB
  clear hB
  have H : (if s0_1 < (s0_0.size : Int) then (if 0 ≤ s0_1 then (some (bt s0_0 s0_1, s0_0, wrap64 (s0_1 + 1))) else (none)) else (some (0, s0_0, s0_1))) = some (r1, r2, r3) := h
  clear h
  by_cases c2 : s0_1 < (s0_0.size : Int)
  · rw [if_pos c2] at H
    have c2b0 : decide (s0_1 < (s0_0.size : Int)) = true := decide_eq_true c2
    clear c2
    by_cases c3 : 0 ≤ s0_1
    · rw [if_pos c3] at H
      have c3b0 : decide (0 ≤ s0_1) = true := decide_eq_true c3
      clear c3
      simp only [Option.some.injEq, Prod.mk.injEq] at H
      obtain ⟨rfl, rfl, rfl⟩ := H
      obtain ⟨HGz5, hgz5⟩ := HI0.out
      have hcz5_0 := cellS95_0 HGz5
      have hcz5_1 := cellS95_1 HGz5
      have hfz5_0 := blk_frozen HGz5 0
      have hfz5_1 := blk_frozen HGz5 1
      clear HGz5 hgz5
      have p4 : 0 ≤ (s0_1 : Int) := of_decide_eq_true (by first | (with_reducible assumption) | assumption)
      have q4 : s0_1 < (s0_0.size : Int) := of_decide_eq_true (by first | (with_reducible assumption) | assumption)
      have hx4 := bt_at s0_0 s0_1
      replace p4 := eq_true p4
      replace q4 := eq_true q4
      go_enter Try.func80, Try.ntmps80
      go_wp2
      repeat (go_quiet (fail); try go_wp2)
      go_ret
      exact ⟨by first | rfl | (simp [errW_none, errW_some] <;> rfl) | (simp [*, errW_none, errW_some] <;> rfl), by repeat (first | (with_reducible first | exact HI0.out | apply IsS95.alloc | apply IsS95.drewN | apply IsS95.drew | apply IsS95.set_0 | apply IsS95.set_1) | exact HI0.out), by repeat (first | (with_reducible first | exact HB.out | apply below_alloc | apply pw_below_drewN | apply below_drew1 | refine below_set ?_ (IsS95.ge HI0.out)) | exact HB.out), by repeat (first | (with_reducible first | exact HK.out | apply KeepBut.set_ | apply keep_drewN | apply keep_drew | apply keep_alloc) | exact HK.out)⟩
    · rw [if_neg c3] at H
      exact absurd H (by simp)
  · rw [if_neg c2] at H
    have c2b0 : decide (s0_1 < (s0_0.size : Int)) = false := decide_eq_false c2
    clear c2
    simp only [Option.some.injEq, Prod.mk.injEq] at H
    obtain ⟨rfl, rfl, rfl⟩ := H
    obtain ⟨HGz6, hgz6⟩ := HI0.out
    have hcz6_0 := cellS95_0 HGz6
    have hcz6_1 := cellS95_1 HGz6
    have hfz6_0 := blk_frozen HGz6 0
    have hfz6_1 := blk_frozen HGz6 1
    clear HGz6 hgz6
    go_enter Try.func80, Try.ntmps80
    go_wp2
    repeat (go_quiet (fail); try go_wp2)
    go_ret
    exact ⟨by first | rfl | (simp [errW_none, errW_some] <;> rfl) | (simp [*, errW_none, errW_some] <;> rfl), by repeat (first | (with_reducible first | exact HI0.out | apply IsS95.alloc | apply IsS95.drewN | apply IsS95.drew | apply IsS95.set_0 | apply IsS95.set_1) | exact HI0.out), by repeat (first | (with_reducible first | exact HB.out | apply below_alloc | apply pw_below_drewN | apply below_drew1 | refine below_set ?_ (IsS95.ge HI0.out)) | exact HB.out), by repeat (first | (with_reducible first | exact HK.out | apply KeepBut.set_ | apply keep_drewN | apply keep_drew | apply keep_alloc) | exact HK.out)⟩

/-! ### labels_isWhitespace: function 85 -/
def labels_isWhitespace.f (a0 : Int) : Option (Bool) := if a0 = 32 then (some true) else (if a0 = 9 then (some true) else (if a0 = 13 then (some true) else (some (a0 == 10))))
set_option maxHeartbeats 8000000 in
set_option maxRecDepth 100000 in
theorem labels_isWhitespace.calls (a0 : Int) (r : Bool) (w : World) (h : labels_isWhitespace.f a0 = some r) :
    Calls Try.prog 85 #[.int .u8 a0] w fun e w' => e = .returned (.bool r) ∧ Drawn0 w w' := by
  have H : (if a0 = 32 then (some true) else (if a0 = 9 then (some true) else (if a0 = 13 then (some true) else (some (a0 == 10))))) = some r := h
  clear h
  by_cases c2 : a0 = 32
  · rw [if_pos c2] at H
    have c2b0 : (a0 == 32) = true := beq_iff_eq.mpr c2
    have c2b1 : (a0 != 32) = false := bne_eq_false_iff_eq.mpr c2
    clear c2
    obtain rfl := Option.some.inj H
    go_enter Try.func85, Try.ntmps85
    go_wp2
    go_ret
    exact ⟨by first | rfl | (simp; done) | (simp [*]; done), by repeat (first | exact Drawn0.refl _ | apply Drawn0.step)⟩
  · rw [if_neg c2] at H
    have c2b0 : (a0 == 32) = false := beq_eq_false_iff_ne.mpr c2
    have c2b1 : (a0 != 32) = true := bne_iff_ne.mpr c2
    by_cases c3 : a0 = 9
    · rw [if_pos c3] at H
      have c3b0 : (a0 == 9) = true := beq_iff_eq.mpr c3
      have c3b1 : (a0 != 9) = false := bne_eq_false_iff_eq.mpr c3
      clear c3
      obtain rfl := Option.some.inj H
      go_enter Try.func85, Try.ntmps85
      go_wp2
      go_ret
      exact ⟨by first | rfl | (simp; done) | (simp [*]; done), by repeat (first | exact Drawn0.refl _ | apply Drawn0.step)⟩
    · rw [if_neg c3] at H
      have c3b0 : (a0 == 9) = false := beq_eq_false_iff_ne.mpr c3
      have c3b1 : (a0 != 9) = true := bne_iff_ne.mpr c3
      by_cases c4 : a0 = 13
      · rw [if_pos c4] at H
        have c4b0 : (a0 == 13) = true := beq_iff_eq.mpr c4
        have c4b1 : (a0 != 13) = false := bne_eq_false_iff_eq.mpr c4
        clear c4
        obtain rfl := Option.some.inj H
        go_enter Try.func85, Try.ntmps85
        go_wp2
        go_ret
        exact ⟨by first | rfl | (simp; done) | (simp [*]; done), by repeat (first | exact Drawn0.refl _ | apply Drawn0.step)⟩
      · rw [if_neg c4] at H
        have c4b0 : (a0 == 13) = false := beq_eq_false_iff_ne.mpr c4
        have c4b1 : (a0 != 13) = true := bne_iff_ne.mpr c4
        obtain rfl := Option.some.inj H
        go_enter Try.func85, Try.ntmps85
        go_wp2
        go_ret
        exact ⟨by first | rfl | (simp; done) | (simp [*]; done), by repeat (first | exact Drawn0.refl _ | apply Drawn0.step)⟩

/-! ### labels_Lexer_skipWhiteSpaces: function 79 -/
def labels_Lexer_skipWhiteSpaces.l0 : Nat → Int → ByteArray → Int → Option (Int × ByteArray × Int)
  | 0, _, _, _ => none
  | k + 1, x1, x1000, x1001 => (labels_isWhitespace.f x1).bind fun t101 => (if t101 = true then ((labels_Lexer_read.f x1000 x1001).bind fun bt102 => (labels_Lexer_skipWhiteSpaces.l0 k bt102.1 bt102.2.1 bt102.2.2)) else (some (x1, x1000, x1001)))
def labels_Lexer_skipWhiteSpaces.f (k : Nat) (s0_0 : ByteArray) (s0_1 : Int) (a1 : Int) : Option (Int × ByteArray × Int) := labels_Lexer_skipWhiteSpaces.l0 k a1 s0_0 s0_1
theorem labels_Lexer_skipWhiteSpaces.mono_l : ∀ k, (∀ y0 y1 y2, LeO (labels_Lexer_skipWhiteSpaces.l0 k y0 y1 y2) (labels_Lexer_skipWhiteSpaces.l0 (k + 1) y0 y1 y2))
  | 0 => fun _ _ _ r h => by simp [labels_Lexer_skipWhiteSpaces.l0] at h
  | k + 1 => by
    have ih0 := labels_Lexer_skipWhiteSpaces.mono_l k
    · intro y0 y1 y2
      unfold labels_Lexer_skipWhiteSpaces.l0
      repeat' first
      | (with_reducible exact ih0 _ _ _)
      | (with_reducible exact LeO.refl _)
      | (with_reducible exact LeO.none _)
      | (with_reducible refine LeO.ite ?_ ?_)
      | (with_reducible refine LeO.bind ?_ (fun _ => ?_))
      | exact ih0 _ _ _
      | exact LeO.none _
      | refine LeO.ite ?_ ?_
      | refine LeO.bind ?_ (fun _ => ?_)
theorem labels_Lexer_skipWhiteSpaces.mono : ∀ a0 a1 a2 k, LeO (labels_Lexer_skipWhiteSpaces.f k a0 a1 a2) (labels_Lexer_skipWhiteSpaces.f (k + 1) a0 a1 a2) := by
  intro a0 a1 a2 k
  have ih0 := labels_Lexer_skipWhiteSpaces.mono_l k
  unfold labels_Lexer_skipWhiteSpaces.f
  repeat' first
      | (with_reducible exact ih0 _ _ _)
      | (with_reducible exact LeO.refl _)
      | (with_reducible exact LeO.none _)
      | (with_reducible refine LeO.ite ?_ ?_)
      | (with_reducible refine LeO.bind ?_ (fun _ => ?_))
      | exact ih0 _ _ _
      | exact LeO.none _
      | refine LeO.ite ?_ ?_
      | refine LeO.bind ?_ (fun _ => ?_)
set_option maxHeartbeats 8000000 in
set_option maxRecDepth 100000 in
theorem labels_Lexer_skipWhiteSpaces.calls (k : Nat) (g : Nat) (s0_0 : ByteArray) (s0_1 : Int) (a1 : Int) (r1 : Int) (r2 : ByteArray) (r3 : Int) (w0 w : World) (hI : IsS95 w0 w g s0_0 s0_1) (hB : Below w0.heap.size w0 w) (h : labels_Lexer_skipWhiteSpaces.f k s0_0 s0_1 a1 = some (r1, r2, r3)) :
    Calls Try.prog 79 #[.pointer (some ⟨g, 0, none⟩), .int .u8 a1] w fun e w' => e = .returned (.int .u8 r1) ∧ IsS95 w0 w' g r2 r3 ∧ Below w0.heap.size w0 w' ∧ KeepBut w w' g none := by
  have HI0 := Aside0.mk hI
  have HK := Aside0.mk (KeepBut.refl w g none)
  have HL := Aside0.mk hB.size
  clear hI
  have HW0 := Aside0.mk hB.size
  have HB := Aside0.mk hB
  clear hB
  have H : (labels_Lexer_skipWhiteSpaces.l0 k a1 s0_0 s0_1) = some (r1, r2, r3) := h
  clear h
  have H' := Aside0.mk H
  clear H
  go_enter Try.func79, Try.ntmps79
  go_wp2
  go_loopg [1] k (fun kq v1 w' => ∃ (x1_1 : Int) (x1000_1 : ByteArray) (x1001_1 : Int), v1 = .int .u8 x1_1 ∧ Aside0 (labels_Lexer_skipWhiteSpaces.l0 kq x1_1 x1000_1 x1001_1 = some (r1, r2, r3)) ∧ Aside0 (kq ≤ k) ∧ Aside0 (IsS95 w0 w' g x1000_1 x1001_1) ∧ Aside0 (KeepBut w w' g none) ∧ Aside0 (Below w0.heap.size w0 w'))
  case atStart => exact ⟨(a1), (s0_0), (s0_1), (by first | rfl | (simp; done) | (simp [*]; done)), H', ⟨Nat.le_refl _⟩, ⟨by repeat (first | (with_reducible first | exact HI0.out | apply IsS95.alloc | apply IsS95.drewN | apply IsS95.drew | apply IsS95.set_0 | apply IsS95.set_1) | exact HI0.out)⟩, ⟨by repeat (first | (with_reducible first | exact HK.out | apply KeepBut.set_ | apply keep_drewN | apply keep_drew | apply keep_alloc) | exact HK.out)⟩, ⟨by repeat (first | (with_reducible first | exact HB.out | apply below_alloc | apply pw_below_drewN | apply below_drew1 | refine below_set ?_ (IsS95.ge HI0.out)) | exact HB.out)⟩⟩
  case round =>
    clear H'
    try clear p2
    obtain ⟨x1_1, x1000_1, x1001_1, rfl, HA, HK1, HI0, HK, HB⟩ := hrel
    cases gk with
    | zero => exact absurd HA.out (by simp [labels_Lexer_skipWhiteSpaces.l0])
    | succ k1 =>
      have H := HA.out
      clear HA
      simp only [labels_Lexer_skipWhiteSpaces.l0] at H
      replace H := Option.bind_eq_some_iff.mp H
      obtain ⟨t101, A30, H⟩ := H
      replace H : (if t101 = true then ((labels_Lexer_read.f x1000_1 x1001_1).bind fun bt102 => (labels_Lexer_skipWhiteSpaces.l0 k1 bt102.1 bt102.2.1 bt102.2.2)) else (some (x1_1, x1000_1, x1001_1))) = some (r1, r2, r3) := H
      have A3 := Aside0.mk A30
      clear A30
      by_cases c4 : t101 = true
      · subst c4
        have H1 : ((labels_Lexer_read.f x1000_1 x1001_1).bind fun bt102 => (labels_Lexer_skipWhiteSpaces.l0 k1 bt102.1 bt102.2.1 bt102.2.2)) = some (r1, r2, r3) := by rw [if_pos rfl] at H; exact H
        clear H
        have H := H1
        clear H1
        replace H := Option.bind_eq_some_iff.mp H
        obtain ⟨⟨t102, t103, t104⟩, A50, H⟩ := H
        replace H : (labels_Lexer_skipWhiteSpaces.l0 k1 t102 t103 t104) = some (r1, r2, r3) := H
        have A5 := Aside0.mk A50
        clear A50
        have H' := Aside0.mk H
        clear H
        go_wp2_with (first | ((with_reducible refine gate_callee (f := 85) rfl ?_); refine goesL_ (some 6) rfl rfl Try.func85 (by kernel_rfl) rfl #[.int .u8 x1_1] rfl (by (try simp only [List.map_toArray, List.map_cons, List.map_nil]); first | done | rfl | (simp only [List.length_drop, List.length_take]; rfl)) ?_; (with_reducible refine (labels_isWhitespace.calls x1_1 true _ A3.out).mono ?_); rintro e w' ⟨rfl, ⟨nd, rfl⟩⟩; refine ⟨_, rfl, ?_⟩) | ((with_reducible refine gate_callee (f := 80) rfl ?_); refine goesL_ (some 10) rfl rfl Try.func80 (by kernel_rfl) rfl #[.pointer (some ⟨g, 0, none⟩)] rfl (by (try simp only [List.map_toArray, List.map_cons, List.map_nil]); first | done | rfl | (simp only [List.length_drop, List.length_take]; rfl)) ?_; (with_reducible refine (labels_Lexer_read.calls g x1000_1 x1001_1 t102 t103 t104 w0 _ ?side1 ?side2 A5.out).mono ?_); (case side1 => repeat (first | (with_reducible first | exact HI0.out | apply IsS95.alloc | apply IsS95.drewN | apply IsS95.drew | apply IsS95.set_0 | apply IsS95.set_1) | exact HI0.out)); (case side2 => repeat (first | (with_reducible first | exact HB.out | apply below_alloc | apply pw_below_drewN | apply below_drew1 | refine below_set ?_ (IsS95.ge HI0.out)) | exact HB.out)); rintro e w6 ⟨rfl, hi, hb, hk⟩; refine ⟨_, rfl, ?_⟩; have n0_ := Aside0.mk (KeepBut.trans (by repeat (first | (with_reducible first | exact HK.out | apply KeepBut.set_ | apply keep_drewN | apply keep_drew | apply keep_alloc) | exact HK.out)) hk (.inl rfl)); have n1_ := Aside0.mk (hb); have n2_ := Aside0.mk (hi); clear HK; clear HB; clear HI0; have HK := n0_; have HB := n1_; have HI0 := n2_; clear n0_ n1_ n2_; (try clear hb); (try clear hb2); (try clear hk); (try clear hi)))
        go_roundg k1
        case measure => have := HK1.out; omega
        case rel => exact ⟨(t102), (t103), (t104), (by first | rfl | (simp; done) | (simp [*]; done)), H', ⟨by have := HK1.out; omega⟩, ⟨by repeat (first | (with_reducible first | exact HI0.out | apply IsS95.alloc | apply IsS95.drewN | apply IsS95.drew | apply IsS95.set_0 | apply IsS95.set_1) | exact HI0.out)⟩, ⟨by repeat (first | (with_reducible first | exact HK.out | apply KeepBut.set_ | apply keep_drewN | apply keep_drew | apply keep_alloc) | exact HK.out)⟩, ⟨by repeat (first | (with_reducible first | exact HB.out | apply below_alloc | apply pw_below_drewN | apply below_drew1 | refine below_set ?_ (IsS95.ge HI0.out)) | exact HB.out)⟩⟩
      · replace c4 := Bool.eq_false_iff.mpr c4
        subst c4
        have H1 : (some (x1_1, x1000_1, x1001_1)) = some (r1, r2, r3) := by rw [if_neg (show ¬ (false = true) by decide)] at H; exact H
        clear H
        have H := H1
        clear H1
        simp only [Option.some.injEq, Prod.mk.injEq] at H
        obtain ⟨rfl, rfl, rfl⟩ := H
        go_wp2_with (first | ((with_reducible refine gate_callee (f := 85) rfl ?_); refine goesL_ (some 6) rfl rfl Try.func85 (by kernel_rfl) rfl #[.int .u8 x1_1] rfl (by (try simp only [List.map_toArray, List.map_cons, List.map_nil]); first | done | rfl | (simp only [List.length_drop, List.length_take]; rfl)) ?_; (with_reducible refine (labels_isWhitespace.calls x1_1 false _ A3.out).mono ?_); rintro e w' ⟨rfl, ⟨nd, rfl⟩⟩; refine ⟨_, rfl, ?_⟩))
        go_ret
        exact ⟨by first | rfl | (simp [errW_none, errW_some] <;> rfl) | (simp [*, errW_none, errW_some] <;> rfl), by repeat (first | (with_reducible first | exact HI0.out | apply IsS95.alloc | apply IsS95.drewN | apply IsS95.drew | apply IsS95.set_0 | apply IsS95.set_1) | exact HI0.out), by repeat (first | (with_reducible first | exact HB.out | apply below_alloc | apply pw_below_drewN | apply below_drew1 | refine below_set ?_ (IsS95.ge HI0.out)) | exact HB.out), by repeat (first | (with_reducible first | exact HK.out | apply KeepBut.set_ | apply keep_drewN | apply keep_drew | apply keep_alloc) | exact HK.out)⟩

/-! ### labels_isSpecialSymbol: function 81 -/
def labels_isSpecialSymbol.f (a0 : Int) : Option (Bool) := if a0 = 61 then (some true) else (if a0 = 33 then (some true) else (if a0 = 40 then (some true) else (if a0 = 41 then (some true) else (if a0 = 44 then (some true) else (if a0 = 62 then (some true) else (if a0 = 60 then (some true) else (some false)))))))
set_option maxHeartbeats 8000000 in
set_option maxRecDepth 100000 in
theorem labels_isSpecialSymbol.calls (a0 : Int) (r : Bool) (w : World) (h : labels_isSpecialSymbol.f a0 = some r) :
    Calls Try.prog 81 #[.int .u8 a0] w fun e w' => e = .returned (.bool r) ∧ Drawn0 w w' := by
  have H : (if a0 = 61 then (some true) else (if a0 = 33 then (some true) else (if a0 = 40 then (some true) else (if a0 = 41 then (some true) else (if a0 = 44 then (some true) else (if a0 = 62 then (some true) else (if a0 = 60 then (some true) else (some false)))))))) = some r := h
  clear h
  by_cases c2 : a0 = 61
  · rw [if_pos c2] at H
    have c2b0 : (a0 == 61) = true := beq_iff_eq.mpr c2
    have c2b1 : (a0 != 61) = false := bne_eq_false_iff_eq.mpr c2
    clear c2
    obtain rfl := Option.some.inj H
    go_enter Try.func81, Try.ntmps81
    go_wp2
    go_ret
    exact ⟨by first | rfl | (simp; done) | (simp [*]; done), by repeat (first | exact Drawn0.refl _ | apply Drawn0.step)⟩
  · rw [if_neg c2] at H
    have c2b0 : (a0 == 61) = false := beq_eq_false_iff_ne.mpr c2
    have c2b1 : (a0 != 61) = true := bne_iff_ne.mpr c2
    by_cases c3 : a0 = 33
    · rw [if_pos c3] at H
      have c3b0 : (a0 == 33) = true := beq_iff_eq.mpr c3
      have c3b1 : (a0 != 33) = false := bne_eq_false_iff_eq.mpr c3
      clear c3
      obtain rfl := Option.some.inj H
      go_enter Try.func81, Try.ntmps81
      go_wp2
      go_ret
      exact ⟨by first | rfl | (simp; done) | (simp [*]; done), by repeat (first | exact Drawn0.refl _ | apply Drawn0.step)⟩
    · rw [if_neg c3] at H
      have c3b0 : (a0 == 33) = false := beq_eq_false_iff_ne.mpr c3
      have c3b1 : (a0 != 33) = true := bne_iff_ne.mpr c3
      by_cases c4 : a0 = 40
      · rw [if_pos c4] at H
        have c4b0 : (a0 == 40) = true := beq_iff_eq.mpr c4
        have c4b1 : (a0 != 40) = false := bne_eq_false_iff_eq.mpr c4
        clear c4
        obtain rfl := Option.some.inj H
        go_enter Try.func81, Try.ntmps81
        go_wp2
        go_ret
        exact ⟨by first | rfl | (simp; done) | (simp [*]; done), by repeat (first | exact Drawn0.refl _ | apply Drawn0.step)⟩
      · rw [if_neg c4] at H
        have c4b0 : (a0 == 40) = false := beq_eq_false_iff_ne.mpr c4
        have c4b1 : (a0 != 40) = true := bne_iff_ne.mpr c4
        by_cases c5 : a0 = 41
        · rw [if_pos c5] at H
          have c5b0 : (a0 == 41) = true := beq_iff_eq.mpr c5
          have c5b1 : (a0 != 41) = false := bne_eq_false_iff_eq.mpr c5
          clear c5
          obtain rfl := Option.some.inj H
          go_enter Try.func81, Try.ntmps81
          go_wp2
          go_ret
          exact ⟨by first | rfl | (simp; done) | (simp [*]; done), by repeat (first | exact Drawn0.refl _ | apply Drawn0.step)⟩
        · rw [if_neg c5] at H
          have c5b0 : (a0 == 41) = false := beq_eq_false_iff_ne.mpr c5
          have c5b1 : (a0 != 41) = true := bne_iff_ne.mpr c5
          by_cases c6 : a0 = 44
          · rw [if_pos c6] at H
            have c6b0 : (a0 == 44) = true := beq_iff_eq.mpr c6
            have c6b1 : (a0 != 44) = false := bne_eq_false_iff_eq.mpr c6
            clear c6
            obtain rfl := Option.some.inj H
            go_enter Try.func81, Try.ntmps81
            go_wp2
            go_ret
            exact ⟨by first | rfl | (simp; done) | (simp [*]; done), by repeat (first | exact Drawn0.refl _ | apply Drawn0.step)⟩
          · rw [if_neg c6] at H
            have c6b0 : (a0 == 44) = false := beq_eq_false_iff_ne.mpr c6
            have c6b1 : (a0 != 44) = true := bne_iff_ne.mpr c6
            by_cases c7 : a0 = 62
            · rw [if_pos c7] at H
              have c7b0 : (a0 == 62) = true := beq_iff_eq.mpr c7
              have c7b1 : (a0 != 62) = false := bne_eq_false_iff_eq.mpr c7
              clear c7
              obtain rfl := Option.some.inj H
              go_enter Try.func81, Try.ntmps81
              go_wp2
              go_ret
              exact ⟨by first | rfl | (simp; done) | (simp [*]; done), by repeat (first | exact Drawn0.refl _ | apply Drawn0.step)⟩
            · rw [if_neg c7] at H
              have c7b0 : (a0 == 62) = false := beq_eq_false_iff_ne.mpr c7
              have c7b1 : (a0 != 62) = true := bne_iff_ne.mpr c7
              by_cases c8 : a0 = 60
              · rw [if_pos c8] at H
                have c8b0 : (a0 == 60) = true := beq_iff_eq.mpr c8
                have c8b1 : (a0 != 60) = false := bne_eq_false_iff_eq.mpr c8
                clear c8
                obtain rfl := Option.some.inj H
                go_enter Try.func81, Try.ntmps81
                go_wp2
                go_ret
                exact ⟨by first | rfl | (simp; done) | (simp [*]; done), by repeat (first | exact Drawn0.refl _ | apply Drawn0.step)⟩
              · rw [if_neg c8] at H
                have c8b0 : (a0 == 60) = false := beq_eq_false_iff_ne.mpr c8
                have c8b1 : (a0 != 60) = true := bne_iff_ne.mpr c8
                obtain rfl := Option.some.inj H
                go_enter Try.func81, Try.ntmps81
                go_wp2
                go_ret
                exact ⟨by first | rfl | (simp; done) | (simp [*]; done), by repeat (first | exact Drawn0.refl _ | apply Drawn0.step)⟩

/-! ### labels_Lexer_unread: function 82 -/
def labels_Lexer_unread.f (s0_0 : ByteArray) (s0_1 : Int) : Option (ByteArray × Int) := some (s0_0, wrap64 (s0_1 - 1))
set_option maxHeartbeats 8000000 in
set_option maxRecDepth 100000 in
theorem labels_Lexer_unread.calls (g : Nat) (s0_0 : ByteArray) (s0_1 : Int) (r1 : ByteArray) (r2 : Int) (w0 w : World) (hI : IsS95 w0 w g s0_0 s0_1) (hB : Below w0.heap.size w0 w) (h : labels_Lexer_unread.f s0_0 s0_1 = some (r1, r2)) :
    Calls Try.prog 82 #[.pointer (some ⟨g, 0, none⟩)] w fun e w' => e = .returned (.tuple #[]) ∧ IsS95 w0 w' g r1 r2 ∧ Below w0.heap.size w0 w' ∧ KeepBut w w' g none := by
  have HI0 := Aside0.mk hI
  have HK := Aside0.mk (KeepBut.refl w g none)
  have HL := Aside0.mk hB.size
  clear hI
  have HW0 := Aside0.mk hB.size
  have HB := Aside0.mk hB
  clear hB
  have H : (some (s0_0, wrap64 (s0_1 - 1))) = some (r1, r2) := h
  clear h
  simp only [Option.some.injEq, Prod.mk.injEq] at H
  obtain ⟨rfl, rfl⟩ := H
  obtain ⟨HGz2, hgz2⟩ := HI0.out
  have hcz2_0 := cellS95_0 HGz2
  have hcz2_1 := cellS95_1 HGz2
  have hfz2_0 := blk_frozen HGz2 0
  have hfz2_1 := blk_frozen HGz2 1
  clear HGz2 hgz2
  go_enter Try.func82, Try.ntmps82
  go_wp2
  first | go_end0 | ((try simp only [Exit.inBlock, Exit.then]); refine bodyPost_ret (results_none rfl _ _ _) rfl ?_)
  exact ⟨by first | rfl | (simp [errW_none, errW_some] <;> rfl) | (simp [*, errW_none, errW_some] <;> rfl), by repeat (first | (with_reducible first | exact HI0.out | apply IsS95.alloc | apply IsS95.drewN | apply IsS95.drew | apply IsS95.set_0 | apply IsS95.set_1) | exact HI0.out), by repeat (first | (with_reducible first | exact HB.out | apply below_alloc | apply pw_below_drewN | apply below_drew1 | refine below_set ?_ (IsS95.ge HI0.out)) | exact HB.out), by repeat (first | (with_reducible first | exact HK.out | apply KeepBut.set_ | apply keep_drewN | apply keep_drew | apply keep_alloc) | exact HK.out)⟩

/-! ### labels_string2token: function 86 -/
def labels_string2token.f (a0 : ByteArray) : Option (Int × Bool) := if a0.toList = ([41] : List UInt8) then (some (2, true)) else (if a0.toList = ([44] : List UInt8) then (some (3, true)) else (if a0.toList = ([33] : List UInt8) then (some (4, true)) else (if a0.toList = ([61, 61] : List UInt8) then (some (5, true)) else (if a0.toList = ([61] : List UInt8) then (some (6, true)) else (if a0.toList = ([62] : List UInt8) then (some (7, true)) else (if a0.toList = ([105, 110] : List UInt8) then (some (9, true)) else (if a0.toList = ([60] : List UInt8) then (some (10, true)) else (if a0.toList = ([33, 61] : List UInt8) then (some (11, true)) else (if a0.toList = ([110, 111, 116, 105, 110] : List UInt8) then (some (12, true)) else (if a0.toList = ([40] : List UInt8) then (some (13, true)) else (some (0, false))))))))))))
set_option maxHeartbeats 8000000 in
set_option maxRecDepth 100000 in
theorem labels_string2token.calls (a0 : ByteArray) (r1 : Int) (r2 : Bool) (w : World) (h : labels_string2token.f a0 = some (r1, r2)) :
    Calls Try.prog 86 #[.string a0] w fun e w' => e = .returned (.tuple #[.int .i64 r1, .bool r2]) ∧ Drawn0 w w' := by
  have H : (if a0.toList = ([41] : List UInt8) then (some (2, true)) else (if a0.toList = ([44] : List UInt8) then (some (3, true)) else (if a0.toList = ([33] : List UInt8) then (some (4, true)) else (if a0.toList = ([61, 61] : List UInt8) then (some (5, true)) else (if a0.toList = ([61] : List UInt8) then (some (6, true)) else (if a0.toList = ([62] : List UInt8) then (some (7, true)) else (if a0.toList = ([105, 110] : List UInt8) then (some (9, true)) else (if a0.toList = ([60] : List UInt8) then (some (10, true)) else (if a0.toList = ([33, 61] : List UInt8) then (some (11, true)) else (if a0.toList = ([110, 111, 116, 105, 110] : List UInt8) then (some (12, true)) else (if a0.toList = ([40] : List UInt8) then (some (13, true)) else (some (0, false))))))))))))) = some (r1, r2) := h
  clear h
  by_cases c2 : a0.toList = ([41] : List UInt8)
  · rw [if_pos c2] at H
    have c2b0 : (a0.toList == ([41] : List UInt8)) = true := beq_iff_eq.mpr c2
    have c2b1 : (a0.toList != ([41] : List UInt8)) = false := bne_eq_false_iff_eq.mpr c2
    clear c2
    simp only [Option.some.injEq, Prod.mk.injEq] at H
    obtain ⟨rfl, rfl⟩ := H
    go_enter Try.func86, Try.ntmps86
    go_wp2
    go_ret2
    exact ⟨by first | rfl | (simp; done) | (simp [*]; done), by repeat (first | exact Drawn0.refl _ | apply Drawn0.step)⟩
  · rw [if_neg c2] at H
    have c2b0 : (a0.toList == ([41] : List UInt8)) = false := beq_eq_false_iff_ne.mpr c2
    have c2b1 : (a0.toList != ([41] : List UInt8)) = true := bne_iff_ne.mpr c2
    by_cases c3 : a0.toList = ([44] : List UInt8)
    · rw [if_pos c3] at H
      have c3b0 : (a0.toList == ([44] : List UInt8)) = true := beq_iff_eq.mpr c3
      have c3b1 : (a0.toList != ([44] : List UInt8)) = false := bne_eq_false_iff_eq.mpr c3
      clear c3
      simp only [Option.some.injEq, Prod.mk.injEq] at H
      obtain ⟨rfl, rfl⟩ := H
      go_enter Try.func86, Try.ntmps86
      go_wp2
      go_ret2
      exact ⟨by first | rfl | (simp; done) | (simp [*]; done), by repeat (first | exact Drawn0.refl _ | apply Drawn0.step)⟩
    · rw [if_neg c3] at H
      have c3b0 : (a0.toList == ([44] : List UInt8)) = false := beq_eq_false_iff_ne.mpr c3
      have c3b1 : (a0.toList != ([44] : List UInt8)) = true := bne_iff_ne.mpr c3
      by_cases c4 : a0.toList = ([33] : List UInt8)
      · rw [if_pos c4] at H
        have c4b0 : (a0.toList == ([33] : List UInt8)) = true := beq_iff_eq.mpr c4
        have c4b1 : (a0.toList != ([33] : List UInt8)) = false := bne_eq_false_iff_eq.mpr c4
        clear c4
        simp only [Option.some.injEq, Prod.mk.injEq] at H
        obtain ⟨rfl, rfl⟩ := H
        go_enter Try.func86, Try.ntmps86
        go_wp2
        go_ret2
        exact ⟨by first | rfl | (simp; done) | (simp [*]; done), by repeat (first | exact Drawn0.refl _ | apply Drawn0.step)⟩
      · rw [if_neg c4] at H
        have c4b0 : (a0.toList == ([33] : List UInt8)) = false := beq_eq_false_iff_ne.mpr c4
        have c4b1 : (a0.toList != ([33] : List UInt8)) = true := bne_iff_ne.mpr c4
        by_cases c5 : a0.toList = ([61, 61] : List UInt8)
        · rw [if_pos c5] at H
          have c5b0 : (a0.toList == ([61, 61] : List UInt8)) = true := beq_iff_eq.mpr c5
          have c5b1 : (a0.toList != ([61, 61] : List UInt8)) = false := bne_eq_false_iff_eq.mpr c5
          clear c5
          simp only [Option.some.injEq, Prod.mk.injEq] at H
          obtain ⟨rfl, rfl⟩ := H
          go_enter Try.func86, Try.ntmps86
          go_wp2
          go_ret2
          exact ⟨by first | rfl | (simp; done) | (simp [*]; done), by repeat (first | exact Drawn0.refl _ | apply Drawn0.step)⟩
        · rw [if_neg c5] at H
          have c5b0 : (a0.toList == ([61, 61] : List UInt8)) = false := beq_eq_false_iff_ne.mpr c5
          have c5b1 : (a0.toList != ([61, 61] : List UInt8)) = true := bne_iff_ne.mpr c5
          by_cases c6 : a0.toList = ([61] : List UInt8)
          · rw [if_pos c6] at H
            have c6b0 : (a0.toList == ([61] : List UInt8)) = true := beq_iff_eq.mpr c6
            have c6b1 : (a0.toList != ([61] : List UInt8)) = false := bne_eq_false_iff_eq.mpr c6
            clear c6
            simp only [Option.some.injEq, Prod.mk.injEq] at H
            obtain ⟨rfl, rfl⟩ := H
            go_enter Try.func86, Try.ntmps86
            go_wp2
            go_ret2
            exact ⟨by first | rfl | (simp; done) | (simp [*]; done), by repeat (first | exact Drawn0.refl _ | apply Drawn0.step)⟩
          · rw [if_neg c6] at H
            have c6b0 : (a0.toList == ([61] : List UInt8)) = false := beq_eq_false_iff_ne.mpr c6
            have c6b1 : (a0.toList != ([61] : List UInt8)) = true := bne_iff_ne.mpr c6
            by_cases c7 : a0.toList = ([62] : List UInt8)
            · rw [if_pos c7] at H
              have c7b0 : (a0.toList == ([62] : List UInt8)) = true := beq_iff_eq.mpr c7
              have c7b1 : (a0.toList != ([62] : List UInt8)) = false := bne_eq_false_iff_eq.mpr c7
              clear c7
              simp only [Option.some.injEq, Prod.mk.injEq] at H
              obtain ⟨rfl, rfl⟩ := H
              go_enter Try.func86, Try.ntmps86
              go_wp2
              go_ret2
              exact ⟨by first | rfl | (simp; done) | (simp [*]; done), by repeat (first | exact Drawn0.refl _ | apply Drawn0.step)⟩
            · rw [if_neg c7] at H
              have c7b0 : (a0.toList == ([62] : List UInt8)) = false := beq_eq_false_iff_ne.mpr c7
              have c7b1 : (a0.toList != ([62] : List UInt8)) = true := bne_iff_ne.mpr c7
              by_cases c8 : a0.toList = ([105, 110] : List UInt8)
              · rw [if_pos c8] at H
                have c8b0 : (a0.toList == ([105, 110] : List UInt8)) = true := beq_iff_eq.mpr c8
                have c8b1 : (a0.toList != ([105, 110] : List UInt8)) = false := bne_eq_false_iff_eq.mpr c8
                clear c8
                simp only [Option.some.injEq, Prod.mk.injEq] at H
                obtain ⟨rfl, rfl⟩ := H
                go_enter Try.func86, Try.ntmps86
                go_wp2
                go_ret2
                exact ⟨by first | rfl | (simp; done) | (simp [*]; done), by repeat (first | exact Drawn0.refl _ | apply Drawn0.step)⟩
              · rw [if_neg c8] at H
                have c8b0 : (a0.toList == ([105, 110] : List UInt8)) = false := beq_eq_false_iff_ne.mpr c8
                have c8b1 : (a0.toList != ([105, 110] : List UInt8)) = true := bne_iff_ne.mpr c8
                by_cases c9 : a0.toList = ([60] : List UInt8)
                · rw [if_pos c9] at H
                  have c9b0 : (a0.toList == ([60] : List UInt8)) = true := beq_iff_eq.mpr c9
                  have c9b1 : (a0.toList != ([60] : List UInt8)) = false := bne_eq_false_iff_eq.mpr c9
                  clear c9
                  simp only [Option.some.injEq, Prod.mk.injEq] at H
                  obtain ⟨rfl, rfl⟩ := H
                  go_enter Try.func86, Try.ntmps86
                  go_wp2
                  go_ret2
                  exact ⟨by first | rfl | (simp; done) | (simp [*]; done), by repeat (first | exact Drawn0.refl _ | apply Drawn0.step)⟩
                · rw [if_neg c9] at H
                  have c9b0 : (a0.toList == ([60] : List UInt8)) = false := beq_eq_false_iff_ne.mpr c9
                  have c9b1 : (a0.toList != ([60] : List UInt8)) = true := bne_iff_ne.mpr c9
                  by_cases c10 : a0.toList = ([33, 61] : List UInt8)
                  · rw [if_pos c10] at H
                    have c10b0 : (a0.toList == ([33, 61] : List UInt8)) = true := beq_iff_eq.mpr c10
                    have c10b1 : (a0.toList != ([33, 61] : List UInt8)) = false := bne_eq_false_iff_eq.mpr c10
                    clear c10
                    simp only [Option.some.injEq, Prod.mk.injEq] at H
                    obtain ⟨rfl, rfl⟩ := H
                    go_enter Try.func86, Try.ntmps86
                    go_wp2
                    go_ret2
                    exact ⟨by first | rfl | (simp; done) | (simp [*]; done), by repeat (first | exact Drawn0.refl _ | apply Drawn0.step)⟩
                  · rw [if_neg c10] at H
                    have c10b0 : (a0.toList == ([33, 61] : List UInt8)) = false := beq_eq_false_iff_ne.mpr c10
                    have c10b1 : (a0.toList != ([33, 61] : List UInt8)) = true := bne_iff_ne.mpr c10
                    by_cases c11 : a0.toList = ([110, 111, 116, 105, 110] : List UInt8)
                    · rw [if_pos c11] at H
                      have c11b0 : (a0.toList == ([110, 111, 116, 105, 110] : List UInt8)) = true := beq_iff_eq.mpr c11
                      have c11b1 : (a0.toList != ([110, 111, 116, 105, 110] : List UInt8)) = false := bne_eq_false_iff_eq.mpr c11
                      clear c11
                      simp only [Option.some.injEq, Prod.mk.injEq] at H
                      obtain ⟨rfl, rfl⟩ := H
                      go_enter Try.func86, Try.ntmps86
                      go_wp2
                      go_ret2
                      exact ⟨by first | rfl | (simp; done) | (simp [*]; done), by repeat (first | exact Drawn0.refl _ | apply Drawn0.step)⟩
                    · rw [if_neg c11] at H
                      have c11b0 : (a0.toList == ([110, 111, 116, 105, 110] : List UInt8)) = false := beq_eq_false_iff_ne.mpr c11
                      have c11b1 : (a0.toList != ([110, 111, 116, 105, 110] : List UInt8)) = true := bne_iff_ne.mpr c11
                      by_cases c12 : a0.toList = ([40] : List UInt8)
                      · rw [if_pos c12] at H
                        have c12b0 : (a0.toList == ([40] : List UInt8)) = true := beq_iff_eq.mpr c12
                        have c12b1 : (a0.toList != ([40] : List UInt8)) = false := bne_eq_false_iff_eq.mpr c12
                        clear c12
                        simp only [Option.some.injEq, Prod.mk.injEq] at H
                        obtain ⟨rfl, rfl⟩ := H
                        go_enter Try.func86, Try.ntmps86
                        go_wp2
                        go_ret2
                        exact ⟨by first | rfl | (simp; done) | (simp [*]; done), by repeat (first | exact Drawn0.refl _ | apply Drawn0.step)⟩
                      · rw [if_neg c12] at H
                        have c12b0 : (a0.toList == ([40] : List UInt8)) = false := beq_eq_false_iff_ne.mpr c12
                        have c12b1 : (a0.toList != ([40] : List UInt8)) = true := bne_iff_ne.mpr c12
                        simp only [Option.some.injEq, Prod.mk.injEq] at H
                        obtain ⟨rfl, rfl⟩ := H
                        go_enter Try.func86, Try.ntmps86
                        go_wp2
                        go_ret2
                        exact ⟨by first | rfl | (simp; done) | (simp [*]; done), by repeat (first | exact Drawn0.refl _ | apply Drawn0.step)⟩

-- NOT PRINTED: function 83 (labels_Lexer_scanSpecialSymbol)

-- NOT PRINTED: function 84 (labels_Lexer_scanIDOrKeyword)

-- NOT PRINTED: function 78 (labels_Lexer_Lex)

-- NOT PRINTED: function 77 (labels_Parser_scan)

-- NOT PRINTED: function 66 (labels_ZzTokens)

-- NOT PRINTED: function 42 (impl_LexSelector)

/-! ### spec_among: function 67 -/
def spec_among.l0 : Nat → Int → ByteArray → Int → Int → Option (Bool)
  | 0, _, _, _, _ => none
  | k + 1, x0, x1, x7, x8 => if x8 < x7 then (if 0 ≤ x8 then (if x8 < (x1.size : Int) then (if (bt x1 x8) = x0 then (some true) else (spec_among.l0 k x0 x1 x7 (wrap64 (x8 + 1)))) else (none)) else (none)) else (some false)
def spec_among.f (k : Nat) (a0 : Int) (a1 : ByteArray) : Option (Bool) := spec_among.l0 k a0 a1 (a1.size : Int) 0
theorem spec_among.mono_l : ∀ k, (∀ y0 y1 y2 y3, LeO (spec_among.l0 k y0 y1 y2 y3) (spec_among.l0 (k + 1) y0 y1 y2 y3))
  | 0 => fun _ _ _ _ r h => by simp [spec_among.l0] at h
  | k + 1 => by
    have ih0 := spec_among.mono_l k
    · intro y0 y1 y2 y3
      unfold spec_among.l0
      repeat' first
      | (with_reducible exact ih0 _ _ _ _)
      | (with_reducible exact LeO.refl _)
      | (with_reducible exact LeO.none _)
      | (with_reducible refine LeO.ite ?_ ?_)
      | (with_reducible refine LeO.bind ?_ (fun _ => ?_))
      | exact ih0 _ _ _ _
      | exact LeO.none _
      | refine LeO.ite ?_ ?_
      | refine LeO.bind ?_ (fun _ => ?_)
theorem spec_among.mono : ∀ a0 a1 k, LeO (spec_among.f k a0 a1) (spec_among.f (k + 1) a0 a1) := by
  intro a0 a1 k
  have ih0 := spec_among.mono_l k
  unfold spec_among.f
  repeat' first
      | (with_reducible exact ih0 _ _ _ _)
      | (with_reducible exact LeO.refl _)
      | (with_reducible exact LeO.none _)
      | (with_reducible refine LeO.ite ?_ ?_)
      | (with_reducible refine LeO.bind ?_ (fun _ => ?_))
      | exact ih0 _ _ _ _
      | exact LeO.none _
      | refine LeO.ite ?_ ?_
      | refine LeO.bind ?_ (fun _ => ?_)
set_option maxHeartbeats 8000000 in
set_option maxRecDepth 100000 in
theorem spec_among.calls (k : Nat) (a0 : Int) (a1 : ByteArray) (r : Bool) (w : World) (h : spec_among.f k a0 a1 = some r) :
    Calls Try.prog 67 #[.int .u8 a0, .string a1] w fun e w' => e = .returned (.bool r) ∧ Drawn0 w w' := by
  have H : (spec_among.l0 k a0 a1 (a1.size : Int) 0) = some r := h
  clear h
  have H' := Aside0.mk H
  clear H
  go_enter Try.func67, Try.ntmps67
  go_wp2
  go_loopg [8] k (fun kq v8 w' => ∃ (x8_1 : Int), v8 = .int .i64 x8_1 ∧ Aside0 (spec_among.l0 kq a0 a1 (a1.size : Int) x8_1 = some r) ∧ Aside0 (kq ≤ k) ∧ Drawn0 w w')
  case atStart => exact ⟨(0), (by first | rfl | (simp; done) | (simp [*]; done)), H', ⟨Nat.le_refl _⟩, by repeat (first | exact Drawn0.refl _ | apply Drawn0.step)⟩
  case round =>
    clear H'
    try clear p2
    obtain ⟨x8_1, rfl, HA, HK1, ⟨m1, rfl⟩⟩ := hrel
    cases gk with
    | zero => exact absurd HA.out (by simp [spec_among.l0])
    | succ k1 =>
      have H := HA.out
      clear HA
      simp only [spec_among.l0] at H
      by_cases c3 : x8_1 < (a1.size : Int)
      · rw [if_pos c3] at H
        have c3b0 : decide (x8_1 < (a1.size : Int)) = true := decide_eq_true c3
        clear c3
        by_cases c4 : 0 ≤ x8_1
        · rw [if_pos c4] at H
          have c4b0 : decide (0 ≤ x8_1) = true := decide_eq_true c4
          clear c4
          by_cases c5 : x8_1 < (a1.size : Int)
          · rw [if_pos c5] at H
            have c5b0 : decide (x8_1 < (a1.size : Int)) = true := decide_eq_true c5
            clear c5
            by_cases c7 : (bt a1 x8_1) = a0
            · rw [if_pos c7] at H
              have c7b0 : ((bt a1 x8_1) == a0) = true := beq_iff_eq.mpr c7
              have c7b1 : ((bt a1 x8_1) != a0) = false := bne_eq_false_iff_eq.mpr c7
              clear c7
              obtain rfl := Option.some.inj H
              have p6 : 0 ≤ (x8_1 : Int) := of_decide_eq_true (by first | (with_reducible assumption) | assumption)
              have q6 : x8_1 < (a1.size : Int) := of_decide_eq_true (by first | (with_reducible assumption) | assumption)
              have hx6 := bt_at a1 x8_1
              replace p6 := eq_true p6
              replace q6 := eq_true q6
              go_wp2
              go_ret
              exact ⟨by first | rfl | (simp; done) | (simp [*]; done), by repeat (first | exact Drawn0.refl _ | apply Drawn0.step)⟩
            · rw [if_neg c7] at H
              have c7b0 : ((bt a1 x8_1) == a0) = false := beq_eq_false_iff_ne.mpr c7
              have c7b1 : ((bt a1 x8_1) != a0) = true := bne_iff_ne.mpr c7
              have H' := Aside0.mk H
              clear H
              have p6 : 0 ≤ (x8_1 : Int) := of_decide_eq_true (by first | (with_reducible assumption) | assumption)
              have q6 : x8_1 < (a1.size : Int) := of_decide_eq_true (by first | (with_reducible assumption) | assumption)
              have hx6 := bt_at a1 x8_1
              replace p6 := eq_true p6
              replace q6 := eq_true q6
              go_wp2
              go_roundg k1
              case measure => have := HK1.out; omega
              case rel => exact ⟨(wrap64 (x8_1 + 1)), (by first | rfl | (simp; done) | (simp [*]; done)), H', ⟨by have := HK1.out; omega⟩, by repeat (first | exact Drawn0.refl _ | apply Drawn0.step)⟩
          · rw [if_neg c5] at H
            exact absurd H (by simp)
        · rw [if_neg c4] at H
          exact absurd H (by simp)
      · rw [if_neg c3] at H
        have c3b0 : decide (x8_1 < (a1.size : Int)) = false := decide_eq_false c3
        clear c3
        obtain rfl := Option.some.inj H
        go_wp2
        go_ret
        exact ⟨by first | rfl | (simp; done) | (simp [*]; done), by repeat (first | exact Drawn0.refl _ | apply Drawn0.step)⟩

-- NOT PRINTED: function 43 (spec_Tokens)

-- NOT PRINTED: function 13 (laws_FnSelTokens)

end Go.Proofs.Ytllmmnhgchidkaa.PFnSelTokens

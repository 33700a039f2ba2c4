import Derived.Test.YtdledchhpjkilaaDoorNmSubs
import Derived.Test.YtdledchhpjkilaaDoorPFnNamePortNamex2
/- A port's name: letters, and two dashes side by side: zzLetter, zzContains at two dashes, and the reference Port. -/
namespace Go.Proofs.YtdledchhpjkilaaDoor.Hand
open Go.RowKit Go.Proofs.YtdledchhpjkilaaDoor.PFnNamePortName Go.Proofs.YtdledchhpjkilaaDoorW.PrintWords Go.Proofs.YtdledchhpjkilaaDoorW.PrintLast Go.Proofs.YtdledchhpjkilaaDoorW.PrintMore Go.Proofs.YtdledchhpjkilaaDoor.Base
set_option linter.unusedVariables false
set_option linter.unusedSimpArgs false
set_option maxRecDepth 100000
def letterB (c : UInt8) : Bool := decide (97 ≤ c.toNat ∧ c.toNat ≤ 122)
def dd : L → Bool
  | [] => false
  | [_] => false
  | a :: b :: r => (a == 45 && b == 45) || dd (b :: r)
theorem dd_drop (x : L) (i : Nat) (h : i + 1 < x.length) : dd (x.drop i) = ((x.getD i 0 == 45 && x.getD (i + 1) 0 == 45) || dd (x.drop (i + 1))) := by
  rw [drop_cons (show i < x.length by omega), drop_cons h, dd]
theorem dd_short (x : L) (i : Nat) (h : x.length ≤ i + 1) : dd (x.drop i) = false := by
  cases e : x.drop i with
  | nil => rfl
  | cons a t =>
    cases t with
    | nil => rfl
    | cons b r =>
      have := congrArg List.length e
      simp at this
      omega
theorem ddSplit (d : Nat) : ∀ (x : L) (i : Nat) (out : List ByteArray), x.length ≤ i + d → i ≤ x.length → out.length + d + 1 < 8796093022208 → x.length ≤ 140737488351232 →
    ∃ r : List ByteArray, Ev (fun k => validation_zzSplit.l0 k (mk x) (mk [45, 45]) out i) r ∧ decide (1 < r.length) = (decide (0 < out.length) || dd (x.drop i)) := by
  induction d with
  | zero =>
    intro x i out hi hi2 ho hx
    have e1 : wrap64 ((i : Int) + ((mk [45, 45]).size : Int)) = (i : Int) + 2 := by rw [mk_size]; exact wrap_id (by simp; omega) (by simp; omega)
    refine ⟨out ++ [mk x], Ev.step (f := fun _ => some (out ++ [mk x])) (fun k => ?_) (Ev.now _), ?_⟩
    · simp only [validation_zzSplit.l0]
      rw [e1, if_neg (by rw [mk_size]; omega), if_pos (by omega)]
    · rw [dd_short x i (by omega)]; simp
  | succ d ih =>
    intro x i out hi hi2 ho hx
    have e1 : wrap64 ((i : Int) + ((mk [45, 45]).size : Int)) = (i : Int) + 2 := by rw [mk_size]; exact wrap_id (by simp; omega) (by simp; omega)
    by_cases hlt : i + 1 < x.length
    · have e2 : (mk x).extract (i : Int).toNat ((i : Int) + 2).toNat = mk [x.getD i 0, x.getD (i + 1) 0] := by
        rw [extract_mk, show ((i : Int) + 2).toNat = i + 1 + 1 by omega, Int.toNat_natCast]
        congr 1
        rw [take_drop_snoc hlt (by omega), take_drop_snoc (show i < x.length by omega) (Nat.le_refl i)]
        simp
      have e3 : (mk [45, 45]).toList = [45, 45] := mk_toList _
      by_cases h : x.getD i 0 = 45 ∧ x.getD (i + 1) 0 = 45
      · obtain ⟨r, hr1, hr2⟩ := ih (x.drop (i + 2)) 0 (out ++ [mk (x.take i)]) (by simp; omega) (by simp) (by simp; omega) (by simp; omega)
        refine ⟨r, Ev.step (fun k => ?_) hr1, ?_⟩
        · simp only [validation_zzSplit.l0]
          rw [e1, if_pos (by rw [mk_size]; omega), if_pos (by omega), if_pos (by omega), e2, h.1, h.2, if_pos rfl, if_pos (by rw [mk_size]; omega), if_pos (by omega), if_pos (by omega), extract_mk, extract_mk, mk_size]
          rw [show ((i : Int) + 2).toNat = i + 2 by omega, Int.toNat_natCast]
          simp
        · rw [hr2, dd_drop x i hlt, h.1, h.2]; simp
      · obtain ⟨r, hr1, hr2⟩ := ih x (i + 1) out (by omega) (by omega) (by omega) hx
        refine ⟨r, Ev.step (fun k => ?_) hr1, ?_⟩
        · simp only [validation_zzSplit.l0]
          rw [e1, if_pos (by rw [mk_size]; omega), if_pos (by omega), if_pos (by omega), e2, if_neg (by rw [mk_toList, e3]; intro e; simp at e; exact h e), wrap_id (by omega) (by omega)]
          rfl
        · rw [hr2, dd_drop x i hlt]
          have : (x.getD i 0 == 45 && x.getD (i + 1) 0 == 45) = false := by
            rw [Bool.eq_false_iff]; intro e; simp only [Bool.and_eq_true, beq_iff_eq] at e; exact h e
          rw [this, Bool.false_or]
    · refine ⟨out ++ [mk x], Ev.step (f := fun _ => some (out ++ [mk x])) (fun k => ?_) (Ev.now _), ?_⟩
      · simp only [validation_zzSplit.l0]
        rw [e1, if_neg (by rw [mk_size]; omega), if_pos (by omega)]
      · rw [dd_short x i (by omega)]; simp
theorem zzContains_calls (s : ByteArray) (hs : s.size ≤ 1000000000) (w : World) : Calls Tryd.prog 93 #[.string s, .string ⟨#[45, 45]⟩] w fun e w' => e = .returned (.bool (dd s.data.toList)) ∧ Below w.heap.size w w' := by
  obtain ⟨x, hx, hxs⟩ : ∃ x : L, s = mk x ∧ s.size = x.length := exists_mk s
  obtain ⟨r, hr1, hr2⟩ := ddSplit x.length x 0 [] (by omega) (by omega) (by simp; omega) (by omega)
  rw [show s.data.toList = x by rw [hx]; rfl]
  have hr3 : Ev (fun k => validation_zzSplit.f k (mk x) (mk [45, 45])) r := hr1
  obtain ⟨k, hk⟩ := hr3.rounds
  have hd : decide (1 < r.length) = dd x := by rw [hr2]; simp
  have H1 : Aside0 (∀ w, Calls Tryd.prog 95 #[.string s, .string ⟨#[45, 45]⟩] w fun e w' => ∃ v0_ : Value, e = .returned (v0_) ∧ Kd.R Kd.string 9 w' w.heap.size (fun _ => True) v0_ r ∧ Below w.heap.size w w') := ⟨fun w => by rw [hx]; exact validation_zzSplit.calls k (mk x) (mk [45, 45]) r w hk⟩
  have HB := Aside0.mk (Below.refl w.heap.size w)
  rw [← hd]
  clear hr1 hr2 hr3 hk hd hx hxs
  go_enter Tryd.func93, Tryd.ntmps93
  go_wp2_with (first | ((with_reducible refine (H1.out _).mono ?_); rintro e w' ⟨v0, rfl, g1, hb⟩; (obtain ⟨A2, c2, e2⟩ := Kd.R_slice g1); subst e2; clear g1; have nb_ := Aside0.mk (below_step (by repeat (first | (with_reducible first | exact HB.out | apply below_alloc | apply pw_below_drewN | apply below_drew1) | exact HB.out)) hb); clear HB; have HB := nb_; clear nb_; (try clear hb)))
  go_ret
  exact ⟨by first | rfl | exact congrArg (fun b : Bool => Ending.returned (Value.bool b)) (by first | (simp; done) | (simp; omega)), (by repeat (first | (with_reducible first | exact HB.out | apply below_alloc | apply pw_below_drewN | apply below_drew1) | exact HB.out))⟩
theorem letter_cases (c : UInt8) : (c.toNat < 97 ∧ letterB c = false) ∨ (97 ≤ c.toNat ∧ c.toNat ≤ 122 ∧ letterB c = true) ∨ (122 < c.toNat ∧ letterB c = false) := by
  unfold letterB
  by_cases h1 : 97 ≤ c.toNat
  · by_cases h2 : c.toNat ≤ 122
    · exact .inr (.inl ⟨h1, h2, by simp [h1, h2]⟩)
    · exact .inr (.inr ⟨by omega, by simp; omega⟩)
  · exact .inl ⟨by omega, by simp; omega⟩
set_option maxHeartbeats 1000000 in
theorem zzLetter_calls (s : ByteArray) (hs : s.size ≤ 140737488351232) (w : World) :
    Calls Tryd.prog 92 #[.string s] w fun e w' => e = .returned (.bool (s.data.toList.any letterB)) ∧ w = w' := by
  obtain ⟨x, hx, hxs⟩ : ∃ x : L, s = mk x ∧ s.size = x.length := exists_mk s
  rw [show s.data.toList = x by rw [hx]; rfl]
  have HX := Aside0.mk (And.intro hx hxs); clear hx hxs
  go_enter Tryd.func92, Tryd.ntmps92
  go_wp2
  go_loopg [3] (s.size) (fun g v5 w' => ∃ i : Nat, v5 = .int .i64 i ∧ w = w' ∧ Aside0 (g + i = s.size ∧ x.any letterB = (x.drop i).any letterB))
  case atStart => exact ⟨0, rfl, rfl, ⟨by omega, by simp⟩⟩
  case round =>
    obtain ⟨i, rfl, rfl, HI⟩ := hrel
    have hi : i ≤ s.size := by have := HI.out.1; omega
    by_cases hlt : i < s.size
    · have hg := getB HX.out.1 i hlt
      obtain ⟨c, hc⟩ : ∃ c, s[i]'hlt = c := ⟨_, rfl⟩
      have hst : (x.drop i).any letterB = (letterB c || (x.drop (i + 1)).any letterB) := by
        rw [drop_cons (by have := HX.out.2; omega), List.any_cons, ← hg, hc]
      have hce : ∀ h : i < s.size, s[i]'h = c := fun _ => hc
      have HST := Aside0.mk hst
      clear hg hst hc
      rcases letter_cases c with ⟨g1, g⟩ | ⟨g1, g2, g⟩ | ⟨g1, g⟩
      · have HR : Aside0 (x.any letterB = (x.drop (i + 1)).any letterB) := ⟨by rw [HI.out.2, HST.out, g]; rfl⟩
        clear g
        go_wp2
        go_roundg (gk - 1)
        case measure => have := HI.out.1; omega
        case rel => exact ⟨i + 1, by go_num, rfl, ⟨by have := HI.out.1; omega, HR.out⟩⟩
      · have HR : Aside0 (x.any letterB = true) := ⟨by rw [HI.out.2, HST.out, g]; rfl⟩
        clear g
        go_wp2
        go_ret
        exact ⟨by rw [HR.out]; rfl, rfl⟩
      · have HR : Aside0 (x.any letterB = (x.drop (i + 1)).any letterB) := ⟨by rw [HI.out.2, HST.out, g]; rfl⟩
        have g2 : 97 ≤ c.toNat := by omega
        clear g
        go_wp2
        go_roundg (gk - 1)
        case measure => have := HI.out.1; omega
        case rel => exact ⟨i + 1, by go_num, rfl, ⟨by have := HI.out.1; omega, HR.out⟩⟩
    · have HR : Aside0 (x.any letterB = false) := ⟨by rw [HI.out.2, List.drop_eq_nil_of_le (by have := HX.out.2; omega)]; rfl⟩
      go_wp2
      go_ret
      exact ⟨by rw [HR.out]; rfl, rfl⟩
end Go.Proofs.YtdledchhpjkilaaDoor.Hand

/- The reference of a port's name: Port. -/
namespace Go.Proofs.YtdledchhpjkilaaDoor.Hand
open Go.RowKit Go.Proofs.YtdledchhpjkilaaDoorW.PrintWords Go.Proofs.YtdledchhpjkilaaDoorW.PrintLast Go.Proofs.YtdledchhpjkilaaDoorW.PrintMore Go.Proofs.YtdledchhpjkilaaDoor.Base
set_option linter.unusedVariables false
set_option linter.unusedSimpArgs false
set_option maxRecDepth 100000
def pPort (x : L) : Bool := !(dd x) && ((most 15 x && x.any letterB) && label x)
set_option maxHeartbeats 4000000 in
theorem Port_calls (s : ByteArray) (hs : s.size ≤ 1000000000) (w : World) :
    Calls Tryd.prog 41 #[.string s] w fun e w' => e = .returned (.bool (pPort s.data.toList)) ∧ w = w' := by
  obtain ⟨x, hx, hxs⟩ : ∃ x : L, s = mk x ∧ s.size = x.length := exists_mk s
  have h1 : ∀ w, Calls Tryd.prog 51 #[.string s, .func (.func 52) #[] #[], .string ⟨#[45]⟩] w fun e w' => e = .returned (.bool (label s.data.toList)) ∧ w = w' := fun w => ended52_calls Small_calls s ⟨#[45]⟩ (by omega) (by decide) w
  rw [show s.data.toList = x by rw [hx]; rfl] at h1 ⊢
  have HX := Aside0.mk (And.intro hx hxs); have H1 := Aside0.mk h1; clear hx hxs h1
  go_enter Tryd.func41, Tryd.ntmps41
  go_wp2
  go_loopg [3, 4, 7] (s.size) (fun g v3 v4 v7 w' => ∃ (i : Nat) (b : Bool), v7 = .int .i64 i ∧ v3 = .bool b ∧ w = w' ∧ Aside0 (g + i = s.size ∧ b = (x.take i).any letterB ∧ dd x = dd (x.drop i)))
  case atStart => exact ⟨0, false, rfl, rfl, rfl, ⟨by omega, by simp, by simp⟩⟩
  case round =>
    obtain ⟨i, b, rfl, rfl, rfl, HI⟩ := hrel
    have hi : i ≤ s.size := by have := HI.out.1; omega
    by_cases hlt : i < s.size
    · have hg := getB HX.out.1 i hlt
      have hb1 := byteIs HX.out.1 i 45
      have hb2 := byteIs HX.out.1 (i + 1) 45
      obtain ⟨c, hc⟩ : ∃ c, s[i]'hlt = c := ⟨_, rfl⟩
      have hcx : x.getD i 0 = c := by rw [← hg, hc]
      have hce : ∀ h : i < s.size, s[i]'h = c := fun _ => hc
      have hil : i < x.length := by have := HX.out.2; omega
      have hnb : (x.take (i + 1)).any letterB = (b || letterB c) := by
        rw [List.take_succ_eq_append_getElem hil, List.any_append, HI.out.2.1]
        congr 1
        rw [← hcx, getD_of x 0 hil]; simp
      obtain ⟨nb, hnb2⟩ : ∃ nb, (b || letterB c) = nb := ⟨_, rfl⟩
      rw [hcx] at hb1
      have hdd : (i + 1 < s.size → dd x = ((c == 45 && x.getD (i + 1) 0 == 45) || dd (x.drop (i + 1)))) ∧ (¬ i + 1 < s.size → dd x = dd (x.drop (i + 1))) := by
        constructor
        · intro h; rw [HI.out.2.2, dd_drop x i (by have := HX.out.2; omega), hcx]
        · intro h; rw [HI.out.2.2, dd_short x i (by have := HX.out.2; omega), dd_short x (i + 1) (by have := HX.out.2; omega)]
      have hb3 : (((c.toNat : Nat) : Int) == 45) = (c == 45) := by have := hb1 hlt; rw [hc] at this; exact this
      rw [hnb2] at hnb
      have HN := Aside0.mk hnb; have HD := Aside0.mk hdd
      clear hg hc hcx hnb hdd hb1
      go_upto_region 5 with (fail)
      go_cut [3] (fun v3 wc => v3 = .bool nb ∧ w = wc)
      case first =>
        clear hb2 hb3
        cases b with
        | true =>
          have HQ : Aside0 (nb = true) := ⟨by rw [← hnb2]; rfl⟩
          clear hnb2
          go_wp2
          go_meet
          case rel => exact ⟨by rw [HQ.out], rfl⟩
        | false =>
          rcases letter_cases c with ⟨g1, g⟩ | ⟨g1, g2, g⟩ | ⟨g1, g⟩
          · have HQ : Aside0 (nb = false) := ⟨by rw [← hnb2, g]; rfl⟩
            clear hnb2 g
            go_wp2
            go_meet
            case rel => exact ⟨by rw [HQ.out], rfl⟩
          · have HQ : Aside0 (nb = true) := ⟨by rw [← hnb2, g]; rfl⟩
            clear hnb2 g
            go_wp2
            go_meet
            case rel => exact ⟨by rw [HQ.out]; first | rfl | (simp; omega), rfl⟩
          · have HQ : Aside0 (nb = false) := ⟨by rw [← hnb2, g]; rfl⟩
            have g2 : 97 ≤ c.toNat := by omega
            clear hnb2 g
            go_wp2
            go_meet
            case rel => exact ⟨by rw [HQ.out]; first | rfl | (simp; omega), rfl⟩
      case rest =>
        obtain ⟨rfl, rfl⟩ := hcut
        clear hnb2
        by_cases hl2 : i + 1 < s.size
        · have hdx := HD.out.1 hl2
          by_cases e1 : c = 45
          · have e1b : (((c.toNat : Nat) : Int) == 45) = true := by rw [hb3]; simpa using e1
            by_cases e2 : x.getD (i + 1) 0 = 45
            · have hb4 : ∀ h : i + 1 < s.size, (((s[i + 1]'h).toNat : Int) == 45) = true := fun h => (hb2 h).trans (by simpa using e2)
              have HR : Aside0 (pPort x = false) := ⟨by unfold pPort; rw [hdx, e1, e2]; simp⟩
              clear hb2 hb3 hdx e1 e2
              go_wp2
              go_ret
              exact ⟨by rw [HR.out]; rfl, rfl⟩
            · have hb4 : ∀ h : i + 1 < s.size, (((s[i + 1]'h).toNat : Int) == 45) = false := fun h => (hb2 h).trans (by simpa using e2)
              have HR : Aside0 (dd x = dd (x.drop (i + 1))) := ⟨by rw [hdx, show (x.getD (i + 1) 0 == 45) = false by simpa using e2]; simp⟩
              clear hb2 hb3 hdx e1 e2
              go_wp2
              go_roundg (gk - 1)
              case measure => have := HI.out.1; omega
              case rel => exact ⟨i + 1, nb, by go_num, rfl, rfl, ⟨by have := HI.out.1; omega, HN.out.symm, HR.out⟩⟩
          · have e1b : (((c.toNat : Nat) : Int) == 45) = false := by rw [hb3]; simpa using e1
            have HR : Aside0 (dd x = dd (x.drop (i + 1))) := ⟨by rw [hdx, show (c == 45) = false by simpa using e1]; simp⟩
            clear hb2 hb3 hdx e1
            go_wp2
            go_roundg (gk - 1)
            case measure => have := HI.out.1; omega
            case rel => exact ⟨i + 1, nb, by go_num, rfl, rfl, ⟨by have := HI.out.1; omega, HN.out.symm, HR.out⟩⟩
        · have HR : Aside0 (dd x = dd (x.drop (i + 1))) := ⟨HD.out.2 hl2⟩
          clear hb2
          by_cases e1 : c = 45
          · have e1b : (((c.toNat : Nat) : Int) == 45) = true := by rw [hb3]; simpa using e1
            clear hb3 e1
            go_wp2
            go_roundg (gk - 1)
            case measure => have := HI.out.1; omega
            case rel => exact ⟨i + 1, nb, by go_num, rfl, rfl, ⟨by have := HI.out.1; omega, HN.out.symm, HR.out⟩⟩
          · have e1b : (((c.toNat : Nat) : Int) == 45) = false := by rw [hb3]; simpa using e1
            clear hb3 e1
            go_wp2
            go_roundg (gk - 1)
            case measure => have := HI.out.1; omega
            case rel => exact ⟨i + 1, nb, by go_num, rfl, rfl, ⟨by have := HI.out.1; omega, HN.out.symm, HR.out⟩⟩
    · have hxe : i = x.length := by have := HX.out.2; omega
      have hb : b = x.any letterB := by rw [HI.out.2.1, hxe, List.take_length]
      have hd : dd x = false := by rw [HI.out.2.2, dd_short x i (by omega)]
      have hp : pPort x = ((decide (s.size ≤ 15) && b) && label x) := by unfold pPort most; rw [hd, ← hb, HX.out.2]; rfl
      clear hxe hb hd
      by_cases hl : s.size ≤ 15
      · cases b with
        | true =>
          have HR : Aside0 (pPort x = label x) := ⟨by rw [hp]; simp [hl]⟩
          clear hp
          go_wp2_with (first | ((with_reducible refine (H1.out _).mono ?_); rintro e w' ⟨rfl, rfl⟩))
          go_ret
          exact ⟨by rw [HR.out]; rfl, rfl⟩
        | false =>
          have HR : Aside0 (pPort x = false) := ⟨by rw [hp]; simp⟩
          clear hp
          go_wp2_with (first | ((with_reducible refine (H1.out _).mono ?_); rintro e w' ⟨rfl, rfl⟩))
          go_ret
          exact ⟨by rw [HR.out]; rfl, rfl⟩
      · have HR : Aside0 (pPort x = false) := ⟨by rw [hp]; simp [hl]⟩
        clear hp
        go_wp2_with (first | ((with_reducible refine (H1.out _).mono ?_); rintro e w' ⟨rfl, rfl⟩))
        go_ret
        exact ⟨by rw [HR.out]; rfl, rfl⟩
end Go.Proofs.YtdledchhpjkilaaDoor.Hand

/- IsValidPortName: five checks, each behind a cut. -/
namespace Go.Proofs.YtdledchhpjkilaaDoor.Hand
open Go.RowKit Go.Proofs.YtdledchhpjkilaaDoorW.PrintWords Go.Proofs.YtdledchhpjkilaaDoorW.PrintLast Go.Proofs.YtdledchhpjkilaaDoorW.PrintMore Go.Proofs.YtdledchhpjkilaaDoor.Base
set_option linter.unusedVariables false
set_option linter.unusedSimpArgs false
set_option maxRecDepth 100000
def edge (x : L) : Bool := !(x == []) && (x.getD 0 0 == 45 || x.getD (x.length - 1) 0 == 45)
theorem small_dash (c : UInt8) (h : (small c || inSet c [45]) = true) : small c = !(c == 45) := by
  by_cases e : c = 45
  · subst e; decide
  · have h2 : inSet c [45] = false := by
      unfold inSet
      simp only [List.any_cons, List.any_nil, Bool.or_false]
      rw [beq_eq_false_iff_ne]; exact fun h => e h.symm
    rw [h2, Bool.or_false] at h
    rw [h, show (c == 45) = false by simpa using e]; rfl
theorem label_edge (x : L) : label x = (allF small [45] x && !(edge x)) := by
  unfold label endsF
  cases h : allF small [45] x with
  | false => rfl
  | true =>
    have hp := allF_pos h
    have hne : (x == []) = false := by cases x with | nil => simp at hp | cons a b => rfl
    have hall : ∀ i, i < x.length → (small (x.getD i 0) || inSet (x.getD i 0) [45]) = true := by
      intro i hi
      unfold allF at h
      simp only [Bool.and_eq_true, List.all_eq_true] at h
      rw [getD_of x 0 hi]
      exact h.1 _ (List.getElem_mem hi)
    unfold edge
    rw [hne, small_dash _ (hall 0 hp), small_dash _ (hall (x.length - 1) (by omega))]
    simp
theorem pPort_eq (x : L) : ((((most 15 x && allF small [45] x) && x.any letterB) && !(dd x)) && !(edge x)) = pPort x := by
  unfold pPort
  rw [label_edge]
  cases most 15 x <;> cases allF small [45] x <;> cases x.any letterB <;> cases dd x <;> cases edge x <;> rfl

set_option maxHeartbeats 8000000 in
theorem errs71 (s : ByteArray) (hs : s.size ≤ 100000000) (w : World) :
    Calls Tryd.prog 71 #[.string s] w fun e w' => Errs (pPort s.data.toList) w e w' := by
  obtain ⟨x, hx, hxs⟩ : ∃ x : L, s = mk x ∧ s.size = x.length := exists_mk s
  have h1 : ∀ w, Calls Tryd.prog 77 #[.int .i64 15] w fun e w' => ∃ m, e = .returned (.string m) ∧ m.size ≤ 4000 ∧ w = w' := fun w => MaxLen_small 15 (by decide) w
  have h2 : ∀ w, Calls Tryd.prog 80 #[.string s, .func (.func 91) #[] #[], .string ⟨#[45]⟩] w fun e w' => e = .returned (.bool (allF small [45] s.data.toList)) ∧ w = w' := fun w => zzAll91_calls zzLower_calls s ⟨#[45]⟩ (by omega) (by decide) w
  have h3 : ∀ w, Calls Tryd.prog 92 #[.string s] w fun e w' => e = .returned (.bool (s.data.toList.any letterB)) ∧ w = w' := fun w => zzLetter_calls s (by omega) w
  have h4 : ∀ w, Calls Tryd.prog 93 #[.string s, .string ⟨#[45, 45]⟩] w fun e w' => e = .returned (.bool (dd s.data.toList)) ∧ Below w.heap.size w w' := fun w => zzContains_calls s (by omega) w
  rw [show s.data.toList = x by rw [hx]; rfl] at h2 h3 h4 ⊢
  rw [← pPort_eq]
  have HM : Aside0 (most 15 x = decide (s.size ≤ 15)) := ⟨by unfold most; rw [hxs]⟩
  obtain ⟨q2, hq2⟩ : ∃ q, allF small [45] x = q := ⟨_, rfl⟩
  obtain ⟨q3, hq3⟩ : ∃ q, x.any letterB = q := ⟨_, rfl⟩
  obtain ⟨q4, hq4⟩ : ∃ q, dd x = q := ⟨_, rfl⟩
  rw [HM.out, hq2, hq3, hq4]
  rw [hq2] at h2; rw [hq3] at h3; rw [hq4] at h4
  have H1 := Aside0.mk h1; have H2 := Aside0.mk h2; have H3 := Aside0.mk h3; have H4 := Aside0.mk h4
  have HX := Aside0.mk (And.intro hx hxs)
  have HB := Aside0.mk (Below.refl w.heap.size w)
  obtain ⟨q5, hq5⟩ : ∃ q, edge x = q := ⟨_, rfl⟩
  rw [hq5]
  have HQ5 := Aside0.mk hq5
  clear hx hxs h1 h2 h3 h4 hq2 hq3 hq4 hq5
  have HR0 : Aside0 (Kd.R Kd.string 9 w w.heap.size (fun _ => True) (.slice none 0 0) ([] : List ByteArray)) := ⟨Kd.R_nil _ _ _ _ _⟩
  obtain ⟨q1, hq1⟩ : ∃ q, decide (s.size ≤ 15) = q := ⟨_, rfl⟩
  rw [hq1]
  go_enter Tryd.func71, Tryd.ntmps71
  go_upto_region 1 with (fail)
  go_cut [3] (fun v3 wc => ∃ xs : List ByteArray, Aside0 (Kd.R Kd.string 9 wc w.heap.size (fun _ => True) v3 xs) ∧ Aside0 ((xs == []) = (true)) ∧ Aside0 (xs.length ≤ 0 ∧ ∀ p ∈ xs, p.size ≤ 5000) ∧ Aside0 (Below w.heap.size w wc))
  case first =>
    go_wp2
    go_meet
    case rel => exact ⟨[], HR0, ⟨rfl⟩, ⟨by decide, fun p hp => by simp at hp⟩, HB⟩
  case rest =>
  clear HR0 HB
  obtain ⟨xs, HR, HZ, HL, HB⟩ := hcut
  go_upto_if 6 with (fail)
  go_cut [3] (fun v3 wc => ∃ xs : List ByteArray, Aside0 (Kd.R Kd.string 9 wc w.heap.size (fun _ => True) v3 xs) ∧ Aside0 ((xs == []) = ((q1))) ∧ Aside0 (xs.length ≤ 1 ∧ ∀ p ∈ xs, p.size ≤ 5000) ∧ Aside0 (Below w.heap.size w wc))
  case first =>
    have HLEN : Aside0 (xs.length ≤ 20) := ⟨by have := HL.out.1; omega⟩
    cases q1 with
    | true =>
      have hl : s.size ≤ 15 := by simpa using hq1
      clear hq1
      go_wp2
      go_meet
      case rel => exact ⟨xs, ⟨(by (with_reducible repeat (first | apply Kd.R_alloc | apply Kd.R_drewN | apply Kd.R_drew)); exact HR.out)⟩, ⟨by rw [HZ.out] <;> simp⟩, ⟨Nat.le_trans HL.out.1 (by decide), HL.out.2⟩, ⟨(by repeat (first | (with_reducible first | exact HB.out | apply below_alloc | apply pw_below_drewN | apply below_drew1) | exact HB.out))⟩⟩
    | false =>
      have hl : 15 < s.size := by simpa using hq1
      clear hq1
      go_wp2_with (first | ((with_reducible refine (H1.out _).mono ?_); rintro e w' ⟨m, rfl, hm, rfl⟩; (obtain ⟨ys, hys⟩ : ∃ ys, xs ++ [m] = ys := ⟨_, rfl⟩); have HNEW := Aside0.mk hys; have HYS := Aside0.mk hys.symm; clear hys) | ((with_reducible refine gate_builtin (b := .append) (xs := #[.tmp 7, .tmp 9]) rfl ?_); (try (refine gate_guard (by rfl) ?_; dsimp only)); at_builtin; refine Kd.R_append Kd.string (w0 := w) w.heap.size rfl (.tmp 7) (.tmp 9) 22 9 (.string ⟨#[]⟩) 16 rfl Tryd.underlying22 infoS rfl (by decide) (by omega) u3 (xs) (m) [.string (m)] (fun _ => True) (fun _ => False) rfl rfl ?aP (fun _ hk => hk.elim) ?aF ?aO ?aB ?aS ?aL ?_; (case aP => exact rfl); (case aB => exact (by repeat (first | (with_reducible first | exact HB.out | apply below_alloc | apply pw_below_drewN | apply below_drew1) | exact HB.out))); (case aF => exact (fun _ _ => trivial)); (case aO => exact (by (with_reducible repeat (first | apply Kd.R_alloc | apply Kd.R_drewN | apply Kd.R_drew)); exact HR.out)); (case aS => exact (below_size (by repeat (first | (with_reducible first | exact HB.out | apply below_alloc | apply pw_below_drewN | apply below_drew1) | exact HB.out)))); (case aL => have := HLEN.out; (try simp only [List.length_map, List.length_nil] at *); omega); intro vN wN ho hb hg hat; rw [HNEW.out] at ho; clear HB; clear HR; have HB := Aside0.mk hb; have HR := Aside0.mk ho; clear ho hb hg hat))
      go_meet
      case rel => exact ⟨ys, HR, ⟨by rw [HYS.out]; cases xs <;> simp⟩, ⟨by rw [HYS.out, List.length_append, List.length_singleton]; have := HL.out.1; omega, fun p hp => by rw [HYS.out, List.mem_append, List.mem_singleton] at hp; rcases hp with hp | rfl; exact HL.out.2 p hp; first | decide | omega⟩, HB⟩
  case rest =>
  clear HR HZ HL HB xs
  obtain ⟨xs, HR, HZ, HL, HB⟩ := hcut
  go_upto_if 13 with (first | ((with_reducible refine (H2.out _).mono ?_); rintro e w' ⟨rfl, rfl⟩))
  go_cut [3] (fun v3 wc => ∃ xs : List ByteArray, Aside0 (Kd.R Kd.string 9 wc w.heap.size (fun _ => True) v3 xs) ∧ Aside0 ((xs == []) = ((q1 && q2))) ∧ Aside0 (xs.length ≤ 2 ∧ ∀ p ∈ xs, p.size ≤ 5000) ∧ Aside0 (Below w.heap.size w wc))
  case first =>
    have HLEN : Aside0 (xs.length ≤ 20) := ⟨by have := HL.out.1; omega⟩
    cases q2 with
    | true =>
      go_wp2
      go_meet
      case rel => exact ⟨xs, ⟨(by (with_reducible repeat (first | apply Kd.R_alloc | apply Kd.R_drewN | apply Kd.R_drew)); exact HR.out)⟩, ⟨by rw [HZ.out] <;> simp⟩, ⟨Nat.le_trans HL.out.1 (by decide), HL.out.2⟩, ⟨(by repeat (first | (with_reducible first | exact HB.out | apply below_alloc | apply pw_below_drewN | apply below_drew1) | exact HB.out))⟩⟩
    | false =>
      (obtain ⟨ys, hys⟩ : ∃ ys, xs ++ [(⟨#[109, 117, 115, 116, 32, 99, 111, 110, 116, 97, 105, 110, 32, 111, 110, 108, 121, 32, 97, 108, 112, 104, 97, 45, 110, 117, 109, 101, 114, 105, 99, 32, 99, 104, 97, 114, 97, 99, 116, 101, 114, 115, 32, 40, 97, 45, 122, 44, 32, 48, 45, 57, 41, 44, 32, 97, 110, 100, 32, 104, 121, 112, 104, 101, 110, 115, 32, 40, 45, 41]⟩ : ByteArray)] = ys := ⟨_, rfl⟩)
      have HNEW := Aside0.mk hys
      have HYS := Aside0.mk hys.symm
      clear hys
      go_wp2_with (first | ((with_reducible refine gate_builtin (b := .append) (xs := #[.tmp 14, .tmp 15]) rfl ?_); (try (refine gate_guard (by rfl) ?_; dsimp only)); at_builtin; refine Kd.R_append Kd.string (w0 := w) w.heap.size rfl (.tmp 14) (.tmp 15) 22 9 (.string ⟨#[]⟩) 16 rfl Tryd.underlying22 infoS rfl (by decide) (by omega) u3 (xs) ((⟨#[109, 117, 115, 116, 32, 99, 111, 110, 116, 97, 105, 110, 32, 111, 110, 108, 121, 32, 97, 108, 112, 104, 97, 45, 110, 117, 109, 101, 114, 105, 99, 32, 99, 104, 97, 114, 97, 99, 116, 101, 114, 115, 32, 40, 97, 45, 122, 44, 32, 48, 45, 57, 41, 44, 32, 97, 110, 100, 32, 104, 121, 112, 104, 101, 110, 115, 32, 40, 45, 41]⟩ : ByteArray)) [.string ((⟨#[109, 117, 115, 116, 32, 99, 111, 110, 116, 97, 105, 110, 32, 111, 110, 108, 121, 32, 97, 108, 112, 104, 97, 45, 110, 117, 109, 101, 114, 105, 99, 32, 99, 104, 97, 114, 97, 99, 116, 101, 114, 115, 32, 40, 97, 45, 122, 44, 32, 48, 45, 57, 41, 44, 32, 97, 110, 100, 32, 104, 121, 112, 104, 101, 110, 115, 32, 40, 45, 41]⟩ : ByteArray))] (fun _ => True) (fun _ => False) rfl rfl ?aP (fun _ hk => hk.elim) ?aF ?aO ?aB ?aS ?aL ?_; (case aP => exact rfl); (case aB => exact (by repeat (first | (with_reducible first | exact HB.out | apply below_alloc | apply pw_below_drewN | apply below_drew1) | exact HB.out))); (case aF => exact (fun _ _ => trivial)); (case aO => exact (by (with_reducible repeat (first | apply Kd.R_alloc | apply Kd.R_drewN | apply Kd.R_drew)); exact HR.out)); (case aS => exact (below_size (by repeat (first | (with_reducible first | exact HB.out | apply below_alloc | apply pw_below_drewN | apply below_drew1) | exact HB.out)))); (case aL => have := HLEN.out; (try simp only [List.length_map, List.length_nil] at *); omega); intro vN wN ho hb hg hat; rw [HNEW.out] at ho; clear HB; clear HR; have HB := Aside0.mk hb; have HR := Aside0.mk ho; clear ho hb hg hat))
      go_meet
      case rel => exact ⟨ys, HR, ⟨by rw [HYS.out]; cases xs <;> simp⟩, ⟨by rw [HYS.out, List.length_append, List.length_singleton]; have := HL.out.1; omega, fun p hp => by rw [HYS.out, List.mem_append, List.mem_singleton] at hp; rcases hp with hp | rfl; exact HL.out.2 p hp; first | decide | omega⟩, HB⟩
  case rest =>
  clear HR HZ HL HB xs
  obtain ⟨xs, HR, HZ, HL, HB⟩ := hcut
  go_upto_if 19 with (first | ((with_reducible refine (H3.out _).mono ?_); rintro e w' ⟨rfl, rfl⟩))
  go_cut [3] (fun v3 wc => ∃ xs : List ByteArray, Aside0 (Kd.R Kd.string 9 wc w.heap.size (fun _ => True) v3 xs) ∧ Aside0 ((xs == []) = (((q1 && q2) && q3))) ∧ Aside0 (xs.length ≤ 3 ∧ ∀ p ∈ xs, p.size ≤ 5000) ∧ Aside0 (Below w.heap.size w wc))
  case first =>
    have HLEN : Aside0 (xs.length ≤ 20) := ⟨by have := HL.out.1; omega⟩
    cases q3 with
    | true =>
      go_wp2
      go_meet
      case rel => exact ⟨xs, ⟨(by (with_reducible repeat (first | apply Kd.R_alloc | apply Kd.R_drewN | apply Kd.R_drew)); exact HR.out)⟩, ⟨by rw [HZ.out] <;> simp⟩, ⟨Nat.le_trans HL.out.1 (by decide), HL.out.2⟩, ⟨(by repeat (first | (with_reducible first | exact HB.out | apply below_alloc | apply pw_below_drewN | apply below_drew1) | exact HB.out))⟩⟩
    | false =>
      (obtain ⟨ys, hys⟩ : ∃ ys, xs ++ [(⟨#[109, 117, 115, 116, 32, 99, 111, 110, 116, 97, 105, 110, 32, 97, 116, 32, 108, 101, 97, 115, 116, 32, 111, 110, 101, 32, 108, 101, 116, 116, 101, 114, 32, 111, 114, 32, 110, 117, 109, 98, 101, 114, 32, 40, 97, 45, 122, 44, 32, 48, 45, 57, 41]⟩ : ByteArray)] = ys := ⟨_, rfl⟩)
      have HNEW := Aside0.mk hys
      have HYS := Aside0.mk hys.symm
      clear hys
      go_wp2_with (first | ((with_reducible refine gate_builtin (b := .append) (xs := #[.tmp 20, .tmp 21]) rfl ?_); (try (refine gate_guard (by rfl) ?_; dsimp only)); at_builtin; refine Kd.R_append Kd.string (w0 := w) w.heap.size rfl (.tmp 20) (.tmp 21) 22 9 (.string ⟨#[]⟩) 16 rfl Tryd.underlying22 infoS rfl (by decide) (by omega) u3 (xs) ((⟨#[109, 117, 115, 116, 32, 99, 111, 110, 116, 97, 105, 110, 32, 97, 116, 32, 108, 101, 97, 115, 116, 32, 111, 110, 101, 32, 108, 101, 116, 116, 101, 114, 32, 111, 114, 32, 110, 117, 109, 98, 101, 114, 32, 40, 97, 45, 122, 44, 32, 48, 45, 57, 41]⟩ : ByteArray)) [.string ((⟨#[109, 117, 115, 116, 32, 99, 111, 110, 116, 97, 105, 110, 32, 97, 116, 32, 108, 101, 97, 115, 116, 32, 111, 110, 101, 32, 108, 101, 116, 116, 101, 114, 32, 111, 114, 32, 110, 117, 109, 98, 101, 114, 32, 40, 97, 45, 122, 44, 32, 48, 45, 57, 41]⟩ : ByteArray))] (fun _ => True) (fun _ => False) rfl rfl ?aP (fun _ hk => hk.elim) ?aF ?aO ?aB ?aS ?aL ?_; (case aP => exact rfl); (case aB => exact (by repeat (first | (with_reducible first | exact HB.out | apply below_alloc | apply pw_below_drewN | apply below_drew1) | exact HB.out))); (case aF => exact (fun _ _ => trivial)); (case aO => exact (by (with_reducible repeat (first | apply Kd.R_alloc | apply Kd.R_drewN | apply Kd.R_drew)); exact HR.out)); (case aS => exact (below_size (by repeat (first | (with_reducible first | exact HB.out | apply below_alloc | apply pw_below_drewN | apply below_drew1) | exact HB.out)))); (case aL => have := HLEN.out; (try simp only [List.length_map, List.length_nil] at *); omega); intro vN wN ho hb hg hat; rw [HNEW.out] at ho; clear HB; clear HR; have HB := Aside0.mk hb; have HR := Aside0.mk ho; clear ho hb hg hat))
      go_meet
      case rel => exact ⟨ys, HR, ⟨by rw [HYS.out]; cases xs <;> simp⟩, ⟨by rw [HYS.out, List.length_append, List.length_singleton]; have := HL.out.1; omega, fun p hp => by rw [HYS.out, List.mem_append, List.mem_singleton] at hp; rcases hp with hp | rfl; exact HL.out.2 p hp; first | decide | omega⟩, HB⟩
  case rest =>
  clear HR HZ HL HB xs
  obtain ⟨xs, HR, HZ, HL, HB⟩ := hcut
  go_upto_if 24 with (first | ((with_reducible refine (H4.out _).mono ?_); rintro e w' ⟨rfl, hb⟩; have nr_ := Aside0.mk (Kd.R_below (by (with_reducible repeat (first | apply Kd.R_alloc | apply Kd.R_drewN | apply Kd.R_drew)); exact HR.out) hb); clear HR; have HR := nr_; clear nr_; have nb_ := Aside0.mk (below_step (by repeat (first | (with_reducible first | exact HB.out | apply below_alloc | apply pw_below_drewN | apply below_drew1) | exact HB.out)) hb); clear HB; have HB := nb_; clear nb_; (try clear hb)))
  go_cut [3] (fun v3 wc => ∃ xs : List ByteArray, Aside0 (Kd.R Kd.string 9 wc w.heap.size (fun _ => True) v3 xs) ∧ Aside0 ((xs == []) = ((((q1 && q2) && q3) && !q4))) ∧ Aside0 (xs.length ≤ 4 ∧ ∀ p ∈ xs, p.size ≤ 5000) ∧ Aside0 (Below w.heap.size w wc))
  case first =>
    have HLEN : Aside0 (xs.length ≤ 20) := ⟨by have := HL.out.1; omega⟩
    cases q4 with
    | false =>
      go_wp2
      go_meet
      case rel => exact ⟨xs, ⟨(by (with_reducible repeat (first | apply Kd.R_alloc | apply Kd.R_drewN | apply Kd.R_drew)); exact HR.out)⟩, ⟨by rw [HZ.out] <;> simp⟩, ⟨Nat.le_trans HL.out.1 (by decide), HL.out.2⟩, ⟨(by repeat (first | (with_reducible first | exact HB.out | apply below_alloc | apply pw_below_drewN | apply below_drew1) | exact HB.out))⟩⟩
    | true =>
      (obtain ⟨ys, hys⟩ : ∃ ys, xs ++ [(⟨#[109, 117, 115, 116, 32, 110, 111, 116, 32, 99, 111, 110, 116, 97, 105, 110, 32, 99, 111, 110, 115, 101, 99, 117, 116, 105, 118, 101, 32, 104, 121, 112, 104, 101, 110, 115]⟩ : ByteArray)] = ys := ⟨_, rfl⟩)
      have HNEW := Aside0.mk hys
      have HYS := Aside0.mk hys.symm
      clear hys
      go_wp2_with (first | ((with_reducible refine gate_builtin (b := .append) (xs := #[.tmp 25, .tmp 26]) rfl ?_); (try (refine gate_guard (by rfl) ?_; dsimp only)); at_builtin; refine Kd.R_append Kd.string (w0 := w) w.heap.size rfl (.tmp 25) (.tmp 26) 22 9 (.string ⟨#[]⟩) 16 rfl Tryd.underlying22 infoS rfl (by decide) (by omega) u3 (xs) ((⟨#[109, 117, 115, 116, 32, 110, 111, 116, 32, 99, 111, 110, 116, 97, 105, 110, 32, 99, 111, 110, 115, 101, 99, 117, 116, 105, 118, 101, 32, 104, 121, 112, 104, 101, 110, 115]⟩ : ByteArray)) [.string ((⟨#[109, 117, 115, 116, 32, 110, 111, 116, 32, 99, 111, 110, 116, 97, 105, 110, 32, 99, 111, 110, 115, 101, 99, 117, 116, 105, 118, 101, 32, 104, 121, 112, 104, 101, 110, 115]⟩ : ByteArray))] (fun _ => True) (fun _ => False) rfl rfl ?aP (fun _ hk => hk.elim) ?aF ?aO ?aB ?aS ?aL ?_; (case aP => exact rfl); (case aB => exact (by repeat (first | (with_reducible first | exact HB.out | apply below_alloc | apply pw_below_drewN | apply below_drew1) | exact HB.out))); (case aF => exact (fun _ _ => trivial)); (case aO => exact (by (with_reducible repeat (first | apply Kd.R_alloc | apply Kd.R_drewN | apply Kd.R_drew)); exact HR.out)); (case aS => exact (below_size (by repeat (first | (with_reducible first | exact HB.out | apply below_alloc | apply pw_below_drewN | apply below_drew1) | exact HB.out)))); (case aL => have := HLEN.out; (try simp only [List.length_map, List.length_nil] at *); omega); intro vN wN ho hb hg hat; rw [HNEW.out] at ho; clear HB; clear HR; have HB := Aside0.mk hb; have HR := Aside0.mk ho; clear ho hb hg hat))
      go_meet
      case rel => exact ⟨ys, HR, ⟨by rw [HYS.out]; cases xs <;> simp⟩, ⟨by rw [HYS.out, List.length_append, List.length_singleton]; have := HL.out.1; omega, fun p hp => by rw [HYS.out, List.mem_append, List.mem_singleton] at hp; rcases hp with hp | rfl; exact HL.out.2 p hp; first | decide | omega⟩, HB⟩
  case rest =>
  clear HR HZ HL HB xs
  obtain ⟨xs, HR, HZ, HL, HB⟩ := hcut
  go_upto_region 10 with (fail)
  go_cut [43] (fun v43 wx => v43 = .bool q5 ∧ wc = wx)
  case first =>
    by_cases h0 : s.size = 0
    · have hq : q5 = false := by
        rw [← HQ5.out]; unfold edge
        rw [show x = [] from List.eq_nil_of_length_eq_zero (by rw [← HX.out.2]; exact h0)]; rfl
      subst hq
      go_wp2
      go_meet
      case rel => exact ⟨rfl, rfl⟩
    have hpos : 0 < s.size := by omega
    have hb1 := byteIs HX.out.1 0 45
    have hb2 := byteIs HX.out.1 (s.size - 1) 45
    have hne : (x == []) = false := by
      rw [beq_eq_false_iff_ne]; intro e; have h := HX.out.2; rw [e, List.length_nil] at h; omega
    have hE : q5 = (x.getD 0 0 == 45 || x.getD (s.size - 1) 0 == 45) := by rw [← HQ5.out]; unfold edge; rw [hne, HX.out.2]; rfl
    clear hne h0
    by_cases g1 : x.getD 0 0 = 45
    · have hb3 : ∀ h : 0 < s.size, (((s[0]'h).toNat : Int) == 45) = true := fun h => (hb1 h).trans (by simpa using g1)
      have hq : q5 = true := by rw [hE, g1]; rfl
      subst hq
      clear hb1 hb2 hE g1
      go_wp2
      go_meet
      case rel => exact ⟨rfl, rfl⟩
    · have hb3 : ∀ h : 0 < s.size, (((s[0]'h).toNat : Int) == 45) = false := fun h => (hb1 h).trans (by simpa using g1)
      by_cases g2 : x.getD (s.size - 1) 0 = 45
      · have hb4 : ∀ h : s.size - 1 < s.size, (((s[s.size - 1]'h).toNat : Int) == 45) = true := fun h => (hb2 h).trans (by simpa using g2)
        have hq : q5 = true := by rw [hE, g2]; simp
        subst hq
        clear hb1 hb2 hE g1 g2
        go_wp2
        go_meet
        case rel => exact ⟨rfl, rfl⟩
      · have hb4 : ∀ h : s.size - 1 < s.size, (((s[s.size - 1]'h).toNat : Int) == 45) = false := fun h => (hb2 h).trans (by simpa using g2)
        have hq : q5 = false := by rw [hE, show (x.getD 0 0 == 45) = false by simpa using g1, show (x.getD (s.size - 1) 0 == 45) = false by simpa using g2]; rfl
        subst hq
        clear hb1 hb2 hE g1 g2
        go_wp2
        go_meet
        case rel => exact ⟨rfl, rfl⟩
  case rest =>
  obtain ⟨rfl, rfl⟩ := hcut
  go_upto_if 43 with (fail)
  go_cut [3] (fun v3 wc => ∃ xs : List ByteArray, Aside0 (Kd.R Kd.string 9 wc w.heap.size (fun _ => True) v3 xs) ∧ Aside0 ((xs == []) = (((((q1 && q2) && q3) && !q4) && !q5))) ∧ Aside0 (xs.length ≤ 5 ∧ ∀ p ∈ xs, p.size ≤ 5000) ∧ Aside0 (Below w.heap.size w wc))
  case first =>
    have HLEN : Aside0 (xs.length ≤ 20) := ⟨by have := HL.out.1; omega⟩
    cases q5 with
    | false =>
      go_wp2
      go_meet
      case rel => exact ⟨xs, ⟨(by (with_reducible repeat (first | apply Kd.R_alloc | apply Kd.R_drewN | apply Kd.R_drew)); exact HR.out)⟩, ⟨by rw [HZ.out] <;> simp⟩, ⟨Nat.le_trans HL.out.1 (by decide), HL.out.2⟩, ⟨(by repeat (first | (with_reducible first | exact HB.out | apply below_alloc | apply pw_below_drewN | apply below_drew1) | exact HB.out))⟩⟩
    | true =>
      (obtain ⟨ys, hys⟩ : ∃ ys, xs ++ [(⟨#[109, 117, 115, 116, 32, 110, 111, 116, 32, 98, 101, 103, 105, 110, 32, 111, 114, 32, 101, 110, 100, 32, 119, 105, 116, 104, 32, 97, 32, 104, 121, 112, 104, 101, 110]⟩ : ByteArray)] = ys := ⟨_, rfl⟩)
      have HNEW := Aside0.mk hys
      have HYS := Aside0.mk hys.symm
      clear hys
      go_wp2_with (first | ((with_reducible refine gate_builtin (b := .append) (xs := #[.tmp 44, .tmp 45]) rfl ?_); (try (refine gate_guard (by rfl) ?_; dsimp only)); at_builtin; refine Kd.R_append Kd.string (w0 := w) w.heap.size rfl (.tmp 44) (.tmp 45) 22 9 (.string ⟨#[]⟩) 16 rfl Tryd.underlying22 infoS rfl (by decide) (by omega) u3 (xs) ((⟨#[109, 117, 115, 116, 32, 110, 111, 116, 32, 98, 101, 103, 105, 110, 32, 111, 114, 32, 101, 110, 100, 32, 119, 105, 116, 104, 32, 97, 32, 104, 121, 112, 104, 101, 110]⟩ : ByteArray)) [.string ((⟨#[109, 117, 115, 116, 32, 110, 111, 116, 32, 98, 101, 103, 105, 110, 32, 111, 114, 32, 101, 110, 100, 32, 119, 105, 116, 104, 32, 97, 32, 104, 121, 112, 104, 101, 110]⟩ : ByteArray))] (fun _ => True) (fun _ => False) rfl rfl ?aP (fun _ hk => hk.elim) ?aF ?aO ?aB ?aS ?aL ?_; (case aP => exact rfl); (case aB => exact (by repeat (first | (with_reducible first | exact HB.out | apply below_alloc | apply pw_below_drewN | apply below_drew1) | exact HB.out))); (case aF => exact (fun _ _ => trivial)); (case aO => exact (by (with_reducible repeat (first | apply Kd.R_alloc | apply Kd.R_drewN | apply Kd.R_drew)); exact HR.out)); (case aS => exact (below_size (by repeat (first | (with_reducible first | exact HB.out | apply below_alloc | apply pw_below_drewN | apply below_drew1) | exact HB.out)))); (case aL => have := HLEN.out; (try simp only [List.length_map, List.length_nil] at *); omega); intro vN wN ho hb hg hat; rw [HNEW.out] at ho; clear HB; clear HR; have HB := Aside0.mk hb; have HR := Aside0.mk ho; clear ho hb hg hat))
      go_meet
      case rel => exact ⟨ys, HR, ⟨by rw [HYS.out]; cases xs <;> simp⟩, ⟨by rw [HYS.out, List.length_append, List.length_singleton]; have := HL.out.1; omega, fun p hp => by rw [HYS.out, List.mem_append, List.mem_singleton] at hp; rcases hp with hp | rfl; exact HL.out.2 p hp; first | decide | omega⟩, HB⟩
  case rest =>
  clear HR HZ HL HB xs
  obtain ⟨xs, HR, HZ, HL, HB⟩ := hcut
  go_wp2
  go_ret
  exact ⟨_, xs, rfl, (by (with_reducible repeat (first | apply Kd.R_alloc | apply Kd.R_drewN | apply Kd.R_drew)); exact HR.out), HZ.out, by have := HL.out.1; omega, HL.out.2, (by repeat (first | (with_reducible first | exact HB.out | apply below_alloc | apply pw_below_drewN | apply below_drew1) | exact HB.out))⟩
end Go.Proofs.YtdledchhpjkilaaDoor.Hand


/- What the reference asks of names. -/
import Derived.Test.YtdledchhpjkilaaDoorNmWords
namespace Go.Proofs.YtdledchhpjkilaaDoor.Hand
open Go.RowKit Go.Proofs.YtdledchhpjkilaaDoorW.PrintWords Go.Proofs.YtdledchhpjkilaaDoorW.PrintLast Go.Proofs.YtdledchhpjkilaaDoorW.PrintMore Go.Proofs.YtdledchhpjkilaaDoor.Base
set_option linter.unusedVariables false
set_option linter.unusedSimpArgs false
set_option maxRecDepth 100000

def pLabel (x : L) : Bool := most 63 x && label x
def pOld (x : L) : Bool := most 63 x && old x
def pValue (x : L) : Bool := most 63 x && labelValue x
def pHeader (x : L) : Bool := allF alnum [45] x
def dot (x : L) : Bool := x == [46] || (decide (1 < x.length) && x.take 2 == [46, 46])
def pEnv (x : L) : Bool := env x && !(dot x)

theorem DnsLabel_calls (s : ByteArray) (hs : s.size ≤ 140737488351232) (w : World) : Calls Tryd.prog 20 #[.string s] w fun e w' => e = .returned (.bool (pLabel s.data.toList)) ∧ w = w' := by
  obtain ⟨x, hx, hxs⟩ : ∃ x : L, s = mk x ∧ s.size = x.length := exists_mk s
  have H1 : Aside0 (∀ w, Calls Tryd.prog 51 #[.string s, .func (.func 52) #[] #[], .string ⟨#[45]⟩] w fun e w' => e = .returned (.bool (label s.data.toList)) ∧ w = w') := ⟨fun w => ended52_calls Small_calls s ⟨#[45]⟩ hs (by decide) w⟩
  rw [show s.data.toList = x by rw [hx]; rfl] at H1 ⊢
  have hr : pLabel x = (decide (s.size ≤ 63) && label x) := by unfold pLabel most; rw [hxs]
  clear hx hxs
  by_cases h : s.size ≤ 63
  · have HR : Aside0 (pLabel x = label x) := ⟨by rw [hr]; simp [h]⟩
    clear hr
    go_enter Tryd.func20, Tryd.ntmps20
    go_wp2_with (first | ((with_reducible refine (H1.out _).mono ?_); rintro e w' ⟨rfl, rfl⟩))
    go_ret
    exact ⟨by rw [HR.out]; first | rfl | exact congrArg (fun b : Bool => Ending.returned (Value.bool b)) (by simp; omega), rfl⟩
  · have HR : Aside0 (pLabel x = false) := ⟨by rw [hr]; simp [h]⟩
    clear hr
    go_enter Tryd.func20, Tryd.ntmps20
    go_wp2_with (first | ((with_reducible refine (H1.out _).mono ?_); rintro e w' ⟨rfl, rfl⟩))
    go_ret
    exact ⟨by rw [HR.out]; first | rfl | exact congrArg (fun b : Bool => Ending.returned (Value.bool b)) (by simp; omega), rfl⟩
theorem Header_calls (s : ByteArray) (hs : s.size ≤ 140737488351232) (w : World) : Calls Tryd.prog 22 #[.string s] w fun e w' => e = .returned (.bool (pHeader s.data.toList)) ∧ w = w' := by
  have H1 : Aside0 (∀ w, Calls Tryd.prog 54 #[.string s, .func (.func 55) #[] #[], .string ⟨#[45]⟩] w fun e w' => e = .returned (.bool (pHeader s.data.toList)) ∧ w = w') := ⟨fun w => sAll55_calls Alnum_calls s ⟨#[45]⟩ hs (by decide) w⟩
  go_enter Tryd.func22, Tryd.ntmps22
  go_wp2_with (first | ((with_reducible refine (H1.out _).mono ?_); rintro e w' ⟨rfl, rfl⟩))
  go_ret
  exact ⟨rfl, rfl⟩
theorem label_small {x : L} (h : label x = true) : small (x.getD 0 0) = true := endsF_first h
set_option maxHeartbeats 1000000 in
theorem DnsOld_calls (s : ByteArray) (hs : s.size ≤ 140737488351232) (w : World) : Calls Tryd.prog 28 #[.string s] w fun e w' => e = .returned (.bool (pOld s.data.toList)) ∧ w = w' := by
  obtain ⟨x, hx, hxs⟩ : ∃ x : L, s = mk x ∧ s.size = x.length := exists_mk s
  have h1 : ∀ w, Calls Tryd.prog 20 #[.string s] w fun e w' => e = .returned (.bool (pLabel s.data.toList)) ∧ w = w' := fun w => DnsLabel_calls s hs w
  rw [show s.data.toList = x by rw [hx]; rfl] at h1 ⊢
  have hpo : pOld x = (pLabel x && decide (97 ≤ (x.getD 0 0).toNat)) := by unfold pOld pLabel old; rw [Bool.and_assoc]
  cases hl : pLabel x with
  | false =>
    rw [hl] at h1
    have HR : Aside0 (pOld x = false) := ⟨by rw [hpo, hl]; rfl⟩
    have H1 := Aside0.mk h1; clear h1 hl hx hxs hpo
    go_enter Tryd.func28, Tryd.ntmps28
    go_wp2_with (first | ((with_reducible refine (H1.out _).mono ?_); rintro e w' ⟨rfl, rfl⟩))
    go_ret
    exact ⟨by rw [HR.out]; first | rfl | exact congrArg (fun b : Bool => Ending.returned (Value.bool b)) (by simp; omega), rfl⟩
  | true =>
    rw [hl] at h1
    have hl2 : label x = true := by unfold pLabel at hl; simp only [Bool.and_eq_true] at hl; exact hl.2
    have hpos : 0 < s.size := by rw [hxs]; exact allF_pos (endsF_all hl2)
    obtain ⟨c, hc⟩ : ∃ c, s[0]'hpos = c := ⟨_, rfl⟩
    have hce : ∀ h : 0 < s.size, s[0]'h = c := fun _ => hc
    have hcx : x.getD 0 0 = c := by rw [← hc]; exact (getB hx 0 hpos).symm
    have hsm := label_small hl2
    rw [hcx] at hsm
    have HR : Aside0 (pOld x = decide (97 ≤ c.toNat)) := ⟨by rw [hpo, hl, hcx]; rfl⟩
    have H1 := Aside0.mk h1; clear h1 hl hl2 hx hxs hc hcx hpo
    rcases small_cases c with ⟨g1, g2, g⟩ | ⟨g1, g⟩ | ⟨g1, g2, g⟩ | ⟨g1, g2, g⟩ | ⟨g1, g⟩
    · have HQ : Aside0 (pOld x = true) := ⟨by rw [HR.out]; simpa using g1⟩
      clear g hsm
      have g3 : 57 < c.toNat := by omega
      go_enter Tryd.func28, Tryd.ntmps28
      go_wp2_with (first | ((with_reducible refine (H1.out _).mono ?_); rintro e w' ⟨rfl, rfl⟩))
      go_ret
      exact ⟨by rw [HQ.out]; first | rfl | exact congrArg (fun b : Bool => Ending.returned (Value.bool b)) (by simp; omega), rfl⟩
    · rw [g] at hsm; exact absurd hsm (by decide)
    · rw [g] at hsm; exact absurd hsm (by decide)
    · have HQ : Aside0 (pOld x = false) := ⟨by rw [HR.out]; simp; omega⟩
      clear g hsm
      go_enter Tryd.func28, Tryd.ntmps28
      go_wp2_with (first | ((with_reducible refine (H1.out _).mono ?_); rintro e w' ⟨rfl, rfl⟩))
      go_ret
      exact ⟨by rw [HQ.out]; first | rfl | exact congrArg (fun b : Bool => Ending.returned (Value.bool b)) (by simp; omega), rfl⟩
    · rw [g] at hsm; exact absurd hsm (by decide)
theorem LabelText_calls (s : ByteArray) (hs : s.size ≤ 140737488351232) (w : World) : Calls Tryd.prog 30 #[.string s] w fun e w' => e = .returned (.bool (pValue s.data.toList)) ∧ w = w' := by
  obtain ⟨x, hx, hxs⟩ : ∃ x : L, s = mk x ∧ s.size = x.length := exists_mk s
  have H1 : Aside0 (∀ w, Calls Tryd.prog 51 #[.string s, .func (.func 55) #[] #[], .string ⟨#[45, 95, 46]⟩] w fun e w' => e = .returned (.bool (qual s.data.toList)) ∧ w = w') := ⟨fun w => ended55_calls Alnum_calls s ⟨#[45, 95, 46]⟩ hs (by decide) w⟩
  rw [show s.data.toList = x by rw [hx]; rfl] at H1 ⊢
  have sl : s.toList = x := by rw [hx, mk_toList]
  have hr : pValue x = (decide (s.size ≤ 63) && labelValue x) := by unfold pValue most; rw [hxs]
  by_cases h0 : x = []
  · have t0 : (s.toList == ([] : List UInt8)) = true := by rw [sl, h0]; rfl
    have HR : Aside0 (pValue x = true) := ⟨by rw [h0]; decide⟩
    clear h0 hr hx hxs sl
    go_enter Tryd.func30, Tryd.ntmps30
    go_wp2_with (first | ((with_reducible refine (H1.out _).mono ?_); rintro e w' ⟨rfl, rfl⟩))
    go_ret
    exact ⟨by rw [HR.out]; first | rfl | exact congrArg (fun b : Bool => Ending.returned (Value.bool b)) (by simp; omega), rfl⟩
  · have t0 : (s.toList == ([] : List UInt8)) = false := by rw [sl]; exact beq_eq_false_iff_ne.2 h0
    have hv : labelValue x = qual x := by unfold labelValue; rw [show (x == []) = false from beq_eq_false_iff_ne.2 h0]; rfl
    clear h0 hx hxs sl
    by_cases h : s.size ≤ 63
    · have HR : Aside0 (pValue x = qual x) := ⟨by rw [hr, hv]; simp [h]⟩
      clear hr hv
      go_enter Tryd.func30, Tryd.ntmps30
      go_wp2_with (first | ((with_reducible refine (H1.out _).mono ?_); rintro e w' ⟨rfl, rfl⟩))
      go_ret
      exact ⟨by rw [HR.out]; first | rfl | exact congrArg (fun b : Bool => Ending.returned (Value.bool b)) (by simp; omega), rfl⟩
    · have HR : Aside0 (pValue x = false) := ⟨by rw [hr]; simp [h]⟩
      clear hr hv
      go_enter Tryd.func30, Tryd.ntmps30
      go_wp2_with (first | ((with_reducible refine (H1.out _).mono ?_); rintro e w' ⟨rfl, rfl⟩))
      go_ret
      exact ⟨by rw [HR.out]; first | rfl | exact congrArg (fun b : Bool => Ending.returned (Value.bool b)) (by simp; omega), rfl⟩
set_option maxHeartbeats 1000000 in
theorem Percentage_calls (s : ByteArray) (hs : s.size ≤ 140737488351232) (w : World) : Calls Tryd.prog 26 #[.string s] w fun e w' => e = .returned (.bool (pct s.data.toList)) ∧ w = w' := by
  obtain ⟨x, hx, hxs⟩ : ∃ x : L, s = mk x ∧ s.size = x.length := exists_mk s
  rw [show s.data.toList = x by rw [hx]; rfl]
  have sl : s.toList = x := by rw [hx, mk_toList]
  by_cases h0 : x = []
  · have t0 : (s.toList == ([] : List UInt8)) = true := by rw [sl, h0]; rfl
    have HR : Aside0 (pct x = false) := ⟨by rw [h0]; rfl⟩
    clear h0 sl hx hxs
    go_enter Tryd.func26, Tryd.ntmps26
    go_wp2
    go_ret
    exact ⟨by rw [HR.out]; first | rfl | exact congrArg (fun b : Bool => Ending.returned (Value.bool b)) (by simp; omega), rfl⟩
  · have t0 : (s.toList == ([] : List UInt8)) = false := by rw [sl]; exact beq_eq_false_iff_ne.2 h0
    have hpos : 0 < s.size := by rw [hxs]; exact List.length_pos_iff.2 h0
    have hlast : s.size - 1 < s.size := by omega
    have hb := byteIs hx (s.size - 1) 37
    have hp : pct x = (x.getD (s.size - 1) 0 == 37 && allF digit [] (x.take (s.size - 1))) := by unfold pct; rw [hxs, show (x == []) = false from beq_eq_false_iff_ne.2 h0]; rfl
    by_cases h37 : x.getD (s.size - 1) 0 = 37
    · have hb2 : ∀ h : s.size - 1 < s.size, (((s[s.size - 1]'h).toNat : Int) == 37) = true := fun h => (hb h).trans (by simpa using h37)
      obtain ⟨q, hq, hqz⟩ : ∃ q, s.extract 0 (s.size - 1) = q ∧ q.data.toList = x.take (s.size - 1) := ⟨_, rfl, by rw [hx, extract_mk]; simp [mk]⟩
      have hqs : q.size ≤ s.size := by rw [← hq]; simp
      have h1 : ∀ w, Calls Tryd.prog 54 #[.string q, .func (.func 58) #[] #[], .string ⟨#[]⟩] w fun e w' => e = .returned (.bool (allF digit [] (x.take (s.size - 1)))) ∧ w = w' := fun w => by
        have h := sAll58_calls digit58_calls q ⟨#[]⟩ (by omega) (by decide) w
        rw [hqz] at h; exact h
      have HR : Aside0 (pct x = allF digit [] (x.take (s.size - 1))) := ⟨by rw [hp, h37]; rfl⟩
      have H1 := Aside0.mk h1
      clear h0 sl hx hxs hb hp h37 h1 hqz
      go_enter Tryd.func26, Tryd.ntmps26
      go_wp2_with (first | ((with_reducible refine (H1.out _).mono ?_); rintro e w' ⟨rfl, rfl⟩))
      go_ret
      exact ⟨by rw [HR.out]; first | rfl | exact congrArg (fun b : Bool => Ending.returned (Value.bool b)) (by simp; omega), rfl⟩
    · have hb2 : ∀ h : s.size - 1 < s.size, (((s[s.size - 1]'h).toNat : Int) == 37) = false := fun h => (hb h).trans (by simpa using h37)
      have HR : Aside0 (pct x = false) := ⟨by rw [hp, show (x.getD (s.size - 1) 0 == 37) = false by simpa using h37]; rfl⟩
      clear h0 sl hx hxs hb hp h37
      go_enter Tryd.func26, Tryd.ntmps26
      go_wp2
      go_ret
      exact ⟨by rw [HR.out]; first | rfl | exact congrArg (fun b : Bool => Ending.returned (Value.bool b)) (by simp; omega), rfl⟩

theorem alnum_low {c : UInt8} (h : alnum c = true) : 48 ≤ c.toNat := by
  unfold alnum small at h
  simp only [Bool.or_eq_true, decide_eq_true_eq] at h
  omega

/-- CName: a byte at its place. -/
def cOk (c : UInt8) (first : Bool) : Bool := c == 95 || (alnum c && !(first && digit c))
theorem cid_split (x : L) (hne : x ≠ []) : cid x = (cOk (x.getD 0 0) true && (x.drop 1).all (fun c => cOk c false)) := by
  cases x with
  | nil => exact absurd rfl hne
  | cons a x =>
    have e1 : ∀ c, cOk c false = (alnum c || inSet c [95]) := by
      intro c; unfold cOk inSet; simp only [Bool.false_and, Bool.not_false, Bool.and_true, List.any_cons, List.any_nil, Bool.or_false]
      rw [Bool.or_comm]; congr 1; rw [Bool.eq_iff_iff, beq_iff_eq, beq_iff_eq]; exact eq_comm
    have e2 : cOk a true = ((alnum a || inSet a [95]) && !(digit a)) := by
      rw [← e1]; unfold cOk
      by_cases h : a = 95
      · subst h; decide
      · rw [show (a == 95) = false by simpa using h]; simp
    unfold cid allF
    simp only [List.all_cons, List.drop_succ_cons, List.drop_zero, List.getD_cons_zero]
    rw [e2, show (a :: x == []) = false from rfl, show (fun c => cOk c false) = (fun c => alnum c || inSet c [95]) from funext e1]
    cases (alnum a || inSet a [95]) <;> cases digit a <;> simp
theorem cid_step (x : L) (i : Nat) (h : i < x.length) : (x.drop i).all (fun c => cOk c false) = (cOk (x.getD i 0) false && (x.drop (i + 1)).all (fun c => cOk c false)) := by
  rw [drop_cons h, List.all_cons]
set_option maxHeartbeats 2000000 in
theorem CName_calls (s : ByteArray) (hs : s.size ≤ 140737488351232) (w : World) : Calls Tryd.prog 24 #[.string s] w fun e w' => e = .returned (.bool (cid s.data.toList)) ∧ w = w' := by
  obtain ⟨x, hx, hxs⟩ : ∃ x : L, s = mk x ∧ s.size = x.length := exists_mk s
  rw [show s.data.toList = x by rw [hx]; rfl]
  have sl : s.toList = x := by rw [hx, mk_toList]
  by_cases h0 : x = []
  · have t0 : (s.toList == ([] : List UInt8)) = true := by rw [sl, h0]; rfl
    have hz : s.size = 0 := by rw [hxs, h0]; rfl
    have HR : Aside0 (cid x = false) := ⟨by rw [h0]; rfl⟩
    clear h0 sl hx hxs
    go_enter Tryd.func24, Tryd.ntmps24
    go_wp2
    go_loopg [3, 4, 7] 0 (fun g v3 v4 v7 w' => v7 = .int .i64 0 ∧ w = w')
    case atStart => exact ⟨rfl, rfl⟩
    case round =>
      obtain ⟨rfl, rfl⟩ := hrel
      go_wp2
      go_ret
      exact ⟨by rw [HR.out]; first | rfl | exact congrArg (fun b : Bool => Ending.returned (Value.bool b)) (by simp; omega), rfl⟩
  · have t0 : (s.toList == ([] : List UInt8)) = false := by rw [sl]; exact beq_eq_false_iff_ne.2 h0
    have hpos : 0 < s.size := by rw [hxs]; exact List.length_pos_iff.2 h0
    have HS := Aside0.mk (cid_split x h0)
    have HX := Aside0.mk (And.intro hx hxs)
    clear h0 sl hx hxs
    go_enter Tryd.func24, Tryd.ntmps24
    go_wp2
    go_loopg [3, 4, 7] (s.size) (fun g v3 v4 v7 w' => ∃ i : Nat, v7 = .int .i64 i ∧ w = w' ∧ Aside0 (g + i = s.size) ∧ Aside0 (0 < i → cid x = (x.drop i).all (fun c => cOk c false)))
    case atStart => exact ⟨0, rfl, rfl, ⟨by omega⟩, ⟨fun h => absurd h (by omega)⟩⟩
    case round =>
      obtain ⟨i, rfl, rfl, HI, HC⟩ := hrel
      have hi : i ≤ s.size := by have := HI.out; omega
      by_cases hlt : i < s.size
      · obtain ⟨c, hc⟩ : ∃ c, s[i]'hlt = c := ⟨_, rfl⟩
        have hce : ∀ h : i < s.size, s[i]'h = c := fun _ => hc
        have hcx : x.getD i 0 = c := by rw [← hc]; exact (getB HX.out.1 i hlt).symm
        have hil : i < x.length := by have := HX.out.2; omega
        have hst : cid x = (cOk c (i == 0) && (x.drop (i + 1)).all (fun c => cOk c false)) := by
          by_cases hi0 : i = 0
          · subst hi0; rw [HS.out, hcx]; rfl
          · rw [HC.out (by omega), cid_step x i hil, hcx, show (i == 0) = false by simpa using hi0]
        have h1 : ∀ w, Calls Tryd.prog 55 #[.int .u8 ((c.toNat : Nat) : Int)] w fun e w' => e = .returned (.bool (alnum c)) ∧ w = w' := fun w => Alnum_calls c w
        clear hc hcx hil
        by_cases h95 : c = 95
        · have HR : Aside0 (cid x = (x.drop (i + 1)).all (fun c => cOk c false)) := ⟨by rw [hst, h95]; cases (i == 0) <;> simp [cOk]⟩
          subst h95
          clear hst h1
          go_wp2
          go_roundg (gk - 1)
          case measure => have := HI.out; omega
          case rel => exact ⟨i + 1, by go_num, rfl, ⟨by have := HI.out; omega⟩, ⟨fun _ => HR.out⟩⟩
        · have h95b : (((c.toNat : Nat) : Int) == 95) = false := by
            rw [beq_eq_false_iff_ne]; intro h; exact h95 (UInt8.toNat_inj.1 (by simpa using (by omega : c.toNat = 95)))
          have h95c : (((c.toNat : Nat) : Int) != 95) = true := by rw [bne, h95b]; rfl
          have hck : cOk c (i == 0) = (alnum c && !((i == 0) && digit c)) := by unfold cOk; rw [show (c == 95) = false by simpa using h95]; rfl
          rw [hck] at hst
          clear hck h95
          cases ha : alnum c with
          | false =>
            rw [ha] at h1
            have HR : Aside0 (cid x = false) := ⟨by rw [hst, ha]; rfl⟩
            have H1 := Aside0.mk h1
            clear hst h1 ha
            go_wp2_with (first | ((with_reducible refine (H1.out _).mono ?_); rintro e w' ⟨rfl, rfl⟩))
            go_ret
            exact ⟨by rw [HR.out]; first | rfl | exact congrArg (fun b : Bool => Ending.returned (Value.bool b)) (by simp; omega), rfl⟩
          | true =>
            rw [ha] at h1
            rw [ha] at hst
            have hlow := alnum_low ha
            have H1 := Aside0.mk h1
            clear h1 ha
            by_cases hi0 : i = 0
            · subst hi0
              rcases digit_cases c with ⟨g1, g⟩ | ⟨g1, g2, g⟩ | ⟨g1, g⟩
              · exact absurd hlow (by omega)
              · rw [g] at hst
                have HR : Aside0 (cid x = false) := ⟨by rw [hst]; rfl⟩
                clear hst g
                go_wp2_with (first | ((with_reducible refine (H1.out _).mono ?_); rintro e w' ⟨rfl, rfl⟩))
                go_ret
                exact ⟨by rw [HR.out]; first | rfl | exact congrArg (fun b : Bool => Ending.returned (Value.bool b)) (by simp; omega), rfl⟩
              · rw [g] at hst
                have HR : Aside0 (cid x = (x.drop (0 + 1)).all (fun c => cOk c false)) := ⟨by rw [hst]; simp⟩
                clear hst g
                go_wp2_with (first | ((with_reducible refine (H1.out _).mono ?_); rintro e w' ⟨rfl, rfl⟩))
                go_roundg (gk - 1)
                case measure => have := HI.out; omega
                case rel => exact ⟨1, by go_num, rfl, ⟨by have := HI.out; omega⟩, ⟨fun _ => HR.out⟩⟩
            · have HR : Aside0 (cid x = (x.drop (i + 1)).all (fun c => cOk c false)) := ⟨by rw [hst, show (i == 0) = false by simpa using hi0]; simp⟩
              have e1 : (((i : Nat) : Int) == 0) = false := by rw [beq_eq_false_iff_ne]; omega
              clear hst hi0
              go_wp2_with (first | ((with_reducible refine (H1.out _).mono ?_); rintro e w' ⟨rfl, rfl⟩))
              go_roundg (gk - 1)
              case measure => have := HI.out; omega
              case rel => exact ⟨i + 1, by go_num, rfl, ⟨by have := HI.out; omega⟩, ⟨fun _ => HR.out⟩⟩
      · have HR : Aside0 (cid x = true) := ⟨by rw [HC.out (by omega), List.drop_eq_nil_of_le (by have := HX.out.2; omega)]; rfl⟩
        go_wp2
        go_ret
        exact ⟨by rw [HR.out]; first | rfl | exact congrArg (fun b : Bool => Ending.returned (Value.bool b)) (by simp; omega), rfl⟩

theorem dotted_f (s : ByteArray) : PFnNameConfigKey.spec_dotted.f s = some (dot s.data.toList) := by
  unfold PFnNameConfigKey.spec_dotted.f dot
  obtain ⟨x, hx, hxs⟩ : ∃ x : L, s = mk x ∧ s.size = x.length := exists_mk s
  rw [show s.data.toList = x by rw [hx]; rfl, show s.toList = x by rw [hx, mk_toList]]
  by_cases h1 : x = [46]
  · rw [if_pos h1, h1]; rfl
  · rw [if_neg h1, show (x == [46]) = false from beq_eq_false_iff_ne.2 h1]
    by_cases h2 : 1 < x.length
    · rw [if_pos (by omega), if_pos (by decide), if_pos (by omega), hx, extract_mk, mk_toList]
      simp [h2]
    · rw [if_neg (by omega)]; simp [h2]
theorem dotted_calls (s : ByteArray) (w : World) : Calls Tryd.prog 62 #[.string s] w fun e w' => e = .returned (.bool (dot s.data.toList)) ∧ Drawn0 w w' :=
  PFnNameConfigKey.spec_dotted.calls s _ w (dotted_f s)
theorem chdir_f (s : ByteArray) : ∃ r, PFnNameConfigKey.validation_hasChDirPrefix.f s = some r ∧ (r == []) = !(dot s.data.toList) ∧ r.length ≤ 1 ∧ ∀ p ∈ r, p.size ≤ 4000 := by
  unfold PFnNameConfigKey.validation_hasChDirPrefix.f dot
  obtain ⟨x, hx, hxs⟩ : ∃ x : L, s = mk x ∧ s.size = x.length := exists_mk s
  rw [show s.data.toList = x by rw [hx]; rfl, show s.toList = x by rw [hx, mk_toList]]
  by_cases h1 : x = [46]
  · rw [if_pos h1, if_pos (by decide), h1]; exact ⟨_, rfl, rfl, by decide, by decide⟩
  · rw [if_neg h1, show (x == [46]) = false from beq_eq_false_iff_ne.2 h1]
    by_cases h2 : x = [46, 46]
    · rw [if_pos h2, if_pos (by decide), h2]; exact ⟨_, rfl, rfl, by decide, by decide⟩
    · rw [if_neg h2]
      by_cases h3 : 2 ≤ x.length
      · rw [if_pos (by omega), if_pos (by decide), if_pos (by omega), hx, extract_mk, mk_toList]
        by_cases h4 : (x.take 2).drop 0 = [46, 46]
        · rw [if_pos h4, if_pos (by decide)]
          refine ⟨_, rfl, ?_, by decide, by decide⟩
          rw [List.drop_zero] at h4
          rw [h4, show decide (1 < x.length) = true by simp; omega]; rfl
        · rw [if_neg h4]
          refine ⟨_, rfl, ?_, by decide, by decide⟩
          rw [List.drop_zero] at h4
          rw [show (x.take 2 == [46, 46]) = false from beq_eq_false_iff_ne.2 h4]; simp
      · rw [if_neg (by omega)]
        refine ⟨_, rfl, ?_, by decide, by decide⟩
        rw [show decide (1 < x.length) = false by simp; omega]; rfl

set_option maxHeartbeats 1000000 in
theorem Env_calls (s : ByteArray) (hs : s.size ≤ 140737488351232) (w : World) : Calls Tryd.prog 32 #[.string s] w fun e w' => e = .returned (.bool (pEnv s.data.toList)) ∧ Drawn0 w w' := by
  obtain ⟨x, hx, hxs⟩ : ∃ x : L, s = mk x ∧ s.size = x.length := exists_mk s
  have h1 : ∀ w, Calls Tryd.prog 54 #[.string s, .func (.func 55) #[] #[], .string ⟨#[45, 46, 95]⟩] w fun e w' => e = .returned (.bool (allF alnum [45, 46, 95] s.data.toList)) ∧ w = w' := fun w => sAll55_calls Alnum_calls s ⟨#[45, 46, 95]⟩ hs (by decide) w
  have h2 : ∀ w, Calls Tryd.prog 62 #[.string s] w fun e w' => e = .returned (.bool (dot s.data.toList)) ∧ Drawn0 w w' := fun w => dotted_calls s w
  rw [show s.data.toList = x by rw [hx]; rfl] at h1 h2 ⊢
  have H2 := Aside0.mk h2; clear h2
  cases hl : allF alnum [45, 46, 95] x with
  | false =>
    rw [hl] at h1
    have HR : Aside0 (pEnv x = false) := ⟨by unfold pEnv env; rw [hl]; rfl⟩
    have H1 := Aside0.mk h1; clear h1 hl hx hxs
    go_enter Tryd.func32, Tryd.ntmps32
    go_wp2_with (first | ((with_reducible refine (H1.out _).mono ?_); rintro e w' ⟨rfl, rfl⟩))
    go_ret
    exact ⟨by rw [HR.out]; rfl, by repeat (first | exact Drawn0.refl _ | apply Drawn0.step)⟩
  | true =>
    rw [hl] at h1
    have hpos : 0 < s.size := by rw [hxs]; exact allF_pos hl
    obtain ⟨c, hc⟩ : ∃ c, s[0]'hpos = c := ⟨_, rfl⟩
    have hce : ∀ h : 0 < s.size, s[0]'h = c := fun _ => hc
    have hcx : x.getD 0 0 = c := by rw [← hc]; exact (getB hx 0 hpos).symm
    have h3 : ∀ w, Calls Tryd.prog 58 #[.int .u8 ((c.toNat : Nat) : Int)] w fun e w' => e = .returned (.bool (digit c)) ∧ w = w' := fun w => digit58_calls c w
    have hr : pEnv x = (!(digit c) && !(dot x)) := by unfold pEnv env; rw [hl, hcx]; rfl
    have H1 := Aside0.mk h1; clear h1 hl hx hxs hc hcx
    cases hd : digit c with
    | true =>
      rw [hd] at h3 hr
      have H3 := Aside0.mk h3; have HR : Aside0 (pEnv x = false) := ⟨hr⟩
      clear h3 hr hd
      go_enter Tryd.func32, Tryd.ntmps32
      go_wp2_with (first | ((with_reducible refine (H1.out _).mono ?_); rintro e w' ⟨rfl, rfl⟩) | ((with_reducible refine (H3.out _).mono ?_); rintro e w' ⟨rfl, rfl⟩))
      go_ret
      exact ⟨by rw [HR.out]; rfl, by repeat (first | exact Drawn0.refl _ | apply Drawn0.step)⟩
    | false =>
      rw [hd] at h3 hr
      have H3 := Aside0.mk h3; have HR : Aside0 (pEnv x = !(dot x)) := ⟨hr⟩
      clear h3 hr hd
      go_enter Tryd.func32, Tryd.ntmps32
      go_wp2_with (first | ((with_reducible refine (H1.out _).mono ?_); rintro e w' ⟨rfl, rfl⟩) | ((with_reducible refine (H3.out _).mono ?_); rintro e w' ⟨rfl, rfl⟩) | ((with_reducible refine (H2.out _).mono ?_); rintro e w' ⟨rfl, ⟨nd, rfl⟩⟩))
      go_ret
      exact ⟨by rw [HR.out]; rfl, by repeat (first | exact Drawn0.refl _ | exact ⟨nd, rfl⟩ | apply Drawn0.step)⟩
end Go.Proofs.YtdledchhpjkilaaDoor.Hand

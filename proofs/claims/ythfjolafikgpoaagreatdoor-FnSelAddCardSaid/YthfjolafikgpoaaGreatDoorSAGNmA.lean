/- RegexError and MaxLenError: some text of bounded length. -/
import Derived.Test.YthfjolafikgpoaaGreatDoorSANmBase
import Derived.Test.YthfjolafikgpoaaGreatDoorSAShelf
import Derived.Lib.AppendIntMem
namespace Go.Proofs.YthfjolafikgpoaaGreatDoor.Hand
open Go.RowKit Go.Proofs.YthfjolafikgpoaaGreatDoorW.PrintWords Go.Proofs.YthfjolafikgpoaaGreatDoorW.PrintLast Go.Proofs.YthfjolafikgpoaaGreatDoorW.PrintMore Go.Proofs.YthfjolafikgpoaaGreatDoor.Base
set_option linter.unusedVariables false
set_option linter.unusedSimpArgs false
set_option maxRecDepth 100000
theorem app_size (a b : ByteArray) : (a ++ b).size = a.size + b.size := by simp
set_option maxHeartbeats 4000000 in
theorem RegexError_calls (a f : ByteArray) (ha : a.size ≤ 600) (hf : f.size ≤ 600) (A : Option Addr) (c : Nat) (xs : List ByteArray) (w : World) (hn : xs.length ≤ 3) (hx : ∀ p ∈ xs, p.size ≤ 100) (hr : Kd.C Kd.string w A xs.length xs) (hc : xs.length ≤ c) :
   Calls Tryz.prog 130 #[.string a, .string f, .slice A xs.length c] w fun e w' => ∃ m, e = .returned (.string m) ∧ m.size ≤ 4000 ∧ w = w' := by
 have HA := Aside0.mk hr
 have HX := Aside0.mk hx
 clear hr hx
 by_cases h0 : xs.length = 0
 · have b1 : (a.size + 32 ≤ 9223372036854775807) = True := eq_true (by omega)
   have b2 : (9223372036854775807 < a.size + 32) = False := eq_false (by omega)
   have b3 : (a.size + 32 + f.size ≤ 9223372036854775807) = True := eq_true (by omega)
   have b4 : (9223372036854775807 < a.size + 32 + f.size) = False := eq_false (by omega)
   have b5 : (a.size + 32 + f.size + 2 ≤ 9223372036854775807) = True := eq_true (by omega)
   have b6 : (9223372036854775807 < a.size + 32 + f.size + 2) = False := eq_false (by omega)
   have e0 : (((xs.length : Nat) : Int) == 0) = true := by rw [beq_iff_eq]; omega
   go_enter Tryz.func130, Tryz.ntmps130
   go_wp2
   go_ret
   refine ⟨_, rfl, ?_, rfl⟩
   simp only [app_size]
   have z1 : ∀ d : Array UInt8, (ByteArray.mk d).size = d.size := fun _ => rfl
   simp only [z1]
   simp
   omega
 · have e0 : (((xs.length : Nat) : Int) == 0) = false := by rw [beq_eq_false_iff_ne]; omega
   have b1 : (a.size + 7 ≤ 9223372036854775807) = True := eq_true (by omega)
   have b2 : (9223372036854775807 < a.size + 7) = False := eq_false (by omega)
   go_enter Tryz.func130, Tryz.ntmps130
   go_wp2
   clear e0 b1 b2
   go_loopg [0, 7, 20] (xs.length) (fun g v0 v7 v20 w' => ∃ (i : Nat) (m : ByteArray), v0 = .string m ∧ v20 = .int .i64 i ∧ w = w' ∧ Aside0 (g + i = xs.length) ∧ Aside0 (m.size ≤ 1000 + i * 200))
   case atStart => exact ⟨0, _, rfl, rfl, rfl, ⟨by omega⟩, ⟨by rw [app_size]; have : (ByteArray.mk #[32, 40, 101, 46, 103, 46, 32]).size = 7 := rfl; omega⟩⟩
   case round =>
    obtain ⟨i, m, rfl, rfl, rfl, HI, HM⟩ := hrel
    have hi : i ≤ xs.length := by have := HI.out; omega
    have hm : m.size ≤ 2000 := by have := HM.out; omega
    by_cases hlt : i < xs.length
    · obtain ⟨ad, eA, hcell⟩ := Kd.at_string HA.out (i : Int) (by omega) (by omega)
      subst eA
      obtain ⟨p, hp⟩ : ∃ p, xs[i] = p := ⟨_, rfl⟩
      rw [show rdOf ByteArray.empty xs (i : Int) = p by unfold rdOf; rw [Int.toNat_natCast, getD_of _ _ hlt]; exact hp, Int.toNat_natCast] at hcell
      have hps : p.size ≤ 100 := by rw [← hp]; exact HX.out _ (List.getElem_mem hlt)
      clear hp
      have c1 : (1 + p.size ≤ 9223372036854775807) = True := eq_true (by omega)
      have c2 : (9223372036854775807 < 1 + p.size) = False := eq_false (by omega)
      have c3 : (1 + p.size + 3 ≤ 9223372036854775807) = True := eq_true (by omega)
      have c4 : (9223372036854775807 < 1 + p.size + 3) = False := eq_false (by omega)
      by_cases hi0 : 0 < i
      · have c5 : (m.size + 4 ≤ 9223372036854775807) = True := eq_true (by omega)
        have c6 : (9223372036854775807 < m.size + 4) = False := eq_false (by omega)
        have c7 : (m.size + 4 + (1 + p.size + 3) ≤ 9223372036854775807) = True := eq_true (by omega)
        have c8 : (9223372036854775807 < m.size + 4 + (1 + p.size + 3)) = False := eq_false (by omega)
        go_wp2
        go_roundg (gk - 1)
        case measure => have := HI.out; omega
        case rel =>
         refine ⟨i + 1, _, rfl, by go_num, rfl, ⟨by have := HI.out; omega⟩, ⟨?_⟩⟩
         have := HM.out
         have z1 : ∀ d : Array UInt8, (ByteArray.mk d).size = d.size := fun _ => rfl
         simp only [app_size, z1]
         simp
         omega
      · have c7 : (m.size + (1 + p.size + 3) ≤ 9223372036854775807) = True := eq_true (by omega)
        have c8 : (9223372036854775807 < m.size + (1 + p.size + 3)) = False := eq_false (by omega)
        go_wp2
        go_roundg (gk - 1)
        case measure => have := HI.out; omega
        case rel =>
         refine ⟨i + 1, _, rfl, by go_num, rfl, ⟨by have := HI.out; omega⟩, ⟨?_⟩⟩
         have := HM.out
         have z1 : ∀ d : Array UInt8, (ByteArray.mk d).size = d.size := fun _ => rfl
         simp only [app_size, z1]
         simp
         omega
    · have c1 : (30 + f.size ≤ 9223372036854775807) = True := eq_true (by omega)
      have c2 : (9223372036854775807 < 30 + f.size) = False := eq_false (by omega)
      have c3 : (30 + f.size + 2 ≤ 9223372036854775807) = True := eq_true (by omega)
      have c4 : (9223372036854775807 < 30 + f.size + 2) = False := eq_false (by omega)
      have c5 : (m.size + (30 + f.size + 2) ≤ 9223372036854775807) = True := eq_true (by omega)
      have c6 : (9223372036854775807 < m.size + (30 + f.size + 2)) = False := eq_false (by omega)
      go_wp2
      go_ret
      refine ⟨_, rfl, ?_, rfl⟩
      have z1 : ∀ d : Array UInt8, (ByteArray.mk d).size = d.size := fun _ => rfl
      simp only [app_size, z1]
      simp
      omega
theorem MaxLen_small (n : Nat) (hn : n < 100) (w : World) :
   Calls Tryz.prog 131 #[.int .i64 n] w fun e w' => ∃ m, e = .returned (.string m) ∧ m.size ≤ 4000 ∧ w = w' := by
 obtain ⟨d, hd, hdz⟩ : ∃ d : ByteArray, (⟨(Lib.decDigits n).toArray⟩ : ByteArray) = d ∧ d.size ≤ 100 := by
  refine ⟨_, rfl, ?_⟩
  have : (⟨(Lib.decDigits n).toArray⟩ : ByteArray).size = (Lib.decDigits n).length := by simp [ByteArray.size]
  rw [this]
  have hall : ∀ m : Fin 100, (Lib.decDigits m.val).length ≤ 100 := by decide +kernel
  exact hall ⟨n, hn⟩
 have h1 : ∀ w, Calls Tryz.prog 123 #[.int .i64 n] w fun e w' => e = .returned (.string d) ∧ w = w' := fun w => by
  have h := Tryz.strconv_Itoa_small n hn w
  rw [hd] at h
  exact h.mono fun e w' ⟨h1, h2⟩ => ⟨h1, h2.symm⟩
 have H1 := Aside0.mk h1
 clear h1 hd
 have c1 : (21 + d.size ≤ 9223372036854775807) = True := eq_true (by omega)
 have c2 : (9223372036854775807 < 21 + d.size) = False := eq_false (by omega)
 have c3 : (21 + d.size + 11 ≤ 9223372036854775807) = True := eq_true (by omega)
 have c4 : (9223372036854775807 < 21 + d.size + 11) = False := eq_false (by omega)
 go_enter Tryz.func131, Tryz.ntmps131
 go_wp2_with (first | ((with_reducible refine (H1.out _).mono ?_); rintro e w' ⟨rfl, rfl⟩))
 go_ret
 refine ⟨_, rfl, ?_, rfl⟩
 have z1 : ∀ d : Array UInt8, (ByteArray.mk d).size = d.size := fun _ => rfl
 simp only [app_size, z1]
 simp
 omega
set_option maxHeartbeats 1000000 in
theorem zzAll91_calls (hf : Cls 184 small) (s t : ByteArray) (hs : s.size ≤ 140737488351232) (ht : t.size ≤ 140737488351232) (w : World) :
   Calls Tryz.prog 183 #[.string s, .func (.func 184) #[] #[], .string t] w fun e w' => e = .returned (.bool (allF small t.data.toList s.data.toList)) ∧ w = w' := by
 obtain ⟨x, hx, hxs⟩ : ∃ x : L, s = mk x ∧ s.size = x.length := exists_mk s
 obtain ⟨set, hset⟩ : ∃ set, t.data.toList = set := ⟨_, rfl⟩
 rw [show s.data.toList = x by rw [hx]; rfl, hset]
 have HIN : Aside0 (∀ (c : UInt8) (w : World), Calls Tryz.prog 194 #[.int .u8 ((c.toNat : Nat) : Int), .string t] w fun e w' => e = .returned (.bool (inSet c set)) ∧ w = w') := ⟨fun c w => by have h := zzIn_calls c t ht w; rw [hset] at h; exact h⟩
 have HX := Aside0.mk (And.intro hx hxs); have HF := Aside0.mk hf; clear hx hxs hset hf
 go_enter Tryz.func183, Tryz.ntmps183
 go_wp2
 go_loopg [7] (s.size) (fun g v5 w' => ∃ i : Nat, v5 = .int .i64 i ∧ w = w' ∧ Aside0 (g + i = s.size ∧ allF small set x = ((x.drop i).all (fun c => small c || inSet c set) && !(x == []))))
 case atStart => exact ⟨0, rfl, rfl, ⟨by omega, by simp [allF]⟩⟩
 case round =>
  obtain ⟨i, rfl, rfl, HI⟩ := hrel
  have hi : i ≤ s.size := by have := HI.out.1; omega
  by_cases hlt : i < s.size
  · have hg := getB HX.out.1 i hlt
    have hst := allF_step small set x i (by have := HX.out.2; omega)
    obtain ⟨c, hc⟩ : ∃ c, s[i]'hlt = c := ⟨_, rfl⟩
    have hcx : x.getD i 0 = c := by rw [← hc]; exact hg.symm
    rw [hcx] at hst
    have hce : ∀ h : i < s.size, s[i]'h = c := fun _ => hc
    have h1 : ∀ w, Calls Tryz.prog 184 #[.int .u8 ((c.toNat : Nat) : Int)] w fun e w' => e = .returned (.bool (small c)) ∧ w = w' := fun w => HF.out c w
    have h2 : ∀ w, Calls Tryz.prog 194 #[.int .u8 ((c.toNat : Nat) : Int), .string t] w fun e w' => e = .returned (.bool (inSet c set)) ∧ w = w' := fun w => HIN.out c w
    have HST := Aside0.mk hst
    clear hg hcx hst hc
    cases hp : small c with
    | true =>
      rw [hp] at h1
      have HR : Aside0 (allF small set x = ((x.drop (i + 1)).all (fun c => small c || inSet c set) && !(x == []))) := ⟨by rw [HI.out.2, HST.out, hp]; simp⟩
      have H1 := Aside0.mk h1; clear h1 h2 hp
      go_wp2_with (first | ((with_reducible refine (H1.out _).mono ?_); rintro e w' ⟨rfl, rfl⟩))
      go_roundg (gk - 1)
      case measure => have := HI.out.1; omega
      case rel => exact ⟨i + 1, by go_num, rfl, ⟨by have := HI.out.1; omega, HR.out⟩⟩
    | false =>
      rw [hp] at h1
      cases hq : inSet c set with
      | true =>
        rw [hq] at h2
        have HR : Aside0 (allF small set x = ((x.drop (i + 1)).all (fun c => small c || inSet c set) && !(x == []))) := ⟨by rw [HI.out.2, HST.out, hp, hq]; simp⟩
        have H1 := Aside0.mk h1; have H2 := Aside0.mk h2; clear h1 h2 hp hq
        go_wp2_with (first | ((with_reducible refine (H1.out _).mono ?_); rintro e w' ⟨rfl, rfl⟩) | ((with_reducible refine (H2.out _).mono ?_); rintro e w' ⟨rfl, rfl⟩))
        go_roundg (gk - 1)
        case measure => have := HI.out.1; omega
        case rel => exact ⟨i + 1, by go_num, rfl, ⟨by have := HI.out.1; omega, HR.out⟩⟩
      | false =>
        rw [hq] at h2
        have HR : Aside0 (allF small set x = false) := ⟨by rw [HI.out.2, HST.out, hp, hq]; simp⟩
        have H1 := Aside0.mk h1; have H2 := Aside0.mk h2; clear h1 h2 hp hq
        go_wp2_with (first | ((with_reducible refine (H1.out _).mono ?_); rintro e w' ⟨rfl, rfl⟩) | ((with_reducible refine (H2.out _).mono ?_); rintro e w' ⟨rfl, rfl⟩))
        go_ret
        exact ⟨by rw [HR.out]; rfl, rfl⟩
  · have HR : Aside0 (allF small set x = !(x == [])) := ⟨by rw [HI.out.2, List.drop_eq_nil_of_le (by have := HX.out.2; omega)]; simp⟩
    have sl : s.toList = x := by rw [HX.out.1, mk_toList]
    by_cases he : x = []
    · have t1 : (s.toList == ([] : List UInt8)) = true := by rw [sl, he]; rfl
      have HQ : Aside0 (allF small set x = false) := ⟨by rw [HR.out, he]; rfl⟩
      clear sl he
      go_wp2
      go_ret
      exact ⟨by rw [HQ.out]; rfl, rfl⟩
    · have t1 : (s.toList == ([] : List UInt8)) = false := by rw [sl]; simpa using he
      have HQ : Aside0 (allF small set x = true) := ⟨by rw [HR.out]; simpa using he⟩
      clear sl he
      go_wp2
      go_ret
      exact ⟨by rw [HQ.out]; rfl, rfl⟩
set_option maxHeartbeats 2000000 in
theorem zzEnds91_calls (hf : Cls 184 small) (s t : ByteArray) (hs : s.size ≤ 140737488351232) (ht : t.size ≤ 140737488351232) (w : World) :
   Calls Tryz.prog 160 #[.string s, .func (.func 184) #[] #[], .string t] w fun e w' => e = .returned (.bool (endsF small t.data.toList s.data.toList)) ∧ w = w' := by
 obtain ⟨x, hx, hxs⟩ : ∃ x : L, s = mk x ∧ s.size = x.length := exists_mk s
 obtain ⟨set, hset⟩ : ∃ set, t.data.toList = set := ⟨_, rfl⟩
 have hsd : s.data.toList = x := by rw [hx]; rfl
 rw [hsd, hset]
 have h1 : ∀ w, Calls Tryz.prog 183 #[.string s, .func (.func 184) #[] #[], .string t] w fun e w' => e = .returned (.bool (allF small set x)) ∧ w = w' := fun w => by have h := zzAll91_calls hf s t hs ht w; rw [hsd, hset] at h; exact h
 have hres : endsF small set x = (allF small set x && (small (x.getD 0 0) && small (x.getD (x.length - 1) 0))) := rfl
 cases ha : allF small set x with
 | false =>
   rw [ha] at h1 hres
   have HR : Aside0 (endsF small set x = false) := ⟨by rw [hres]; rfl⟩
   have H1 := Aside0.mk h1; clear h1 ha hres hx hxs hsd hset hf
   go_enter Tryz.func160, Tryz.ntmps160
   go_wp2_with (first | ((with_reducible refine (H1.out _).mono ?_); rintro e w' ⟨rfl, rfl⟩))
   go_ret
   exact ⟨by rw [HR.out]; rfl, rfl⟩
 | true =>
   rw [ha] at h1 hres
   have hne : x ≠ [] := by
    intro h; rw [h] at ha; simp [allF] at ha
   have hpos : 0 < s.size := by rw [hxs]; exact List.length_pos_iff.2 hne
   have hlast : s.size - 1 < s.size := by omega
   have g1 := getB hx 0 hpos
   have g2 := getB hx (s.size - 1) hlast
   obtain ⟨c, hc⟩ : ∃ c, s[0]'hpos = c := ⟨_, rfl⟩
   obtain ⟨d, hd⟩ : ∃ d, s[s.size - 1]'hlast = d := ⟨_, rfl⟩
   have hce : ∀ h : 0 < s.size, s[0]'h = c := fun _ => hc
   have hde : ∀ h : s.size - 1 < s.size, s[s.size - 1]'h = d := fun _ => hd
   have k1 : ∀ w, Calls Tryz.prog 184 #[.int .u8 ((c.toNat : Nat) : Int)] w fun e w' => e = .returned (.bool (small c)) ∧ w = w' := fun w => hf c w
   have k2 : ∀ w, Calls Tryz.prog 184 #[.int .u8 ((d.toNat : Nat) : Int)] w fun e w' => e = .returned (.bool (small d)) ∧ w = w' := fun w => hf d w
   have hres2 : endsF small set x = (small c && small d) := by
    rw [hres, ← hc, ← hd, g1, g2, hxs]; rfl
   have HR := Aside0.mk hres2
   have H1 := Aside0.mk h1
   clear h1 ha hres hx hxs hsd hset hf g1 g2 hres2 hne hc hd
   cases hp : small c with
   | false =>
     rw [hp] at k1
     have HQ : Aside0 (endsF small set x = false) := ⟨by rw [HR.out, hp]; rfl⟩
     have K1 := Aside0.mk k1; clear k1 k2 hp
     go_enter Tryz.func160, Tryz.ntmps160
     go_wp2_with (first | ((with_reducible refine (H1.out _).mono ?_); rintro e w' ⟨rfl, rfl⟩) | ((with_reducible refine (K1.out _).mono ?_); rintro e w' ⟨rfl, rfl⟩))
     go_ret
     exact ⟨by rw [HQ.out]; rfl, rfl⟩
   | true =>
     rw [hp] at k1
     obtain ⟨b, hb⟩ : ∃ b, small d = b := ⟨_, rfl⟩
     rw [hb] at k2
     have HQ : Aside0 (endsF small set x = b) := ⟨by rw [HR.out, hp, hb]; rfl⟩
     have K1 := Aside0.mk k1; have K2 := Aside0.mk k2; clear k1 k2 hp hb
     go_enter Tryz.func160, Tryz.ntmps160
     go_wp2_with (first | ((with_reducible refine (H1.out _).mono ?_); rintro e w' ⟨rfl, rfl⟩) | ((with_reducible refine (K1.out _).mono ?_); rintro e w' ⟨rfl, rfl⟩) | ((with_reducible refine (K2.out _).mono ?_); rintro e w' ⟨rfl, rfl⟩))
     go_ret
     exact ⟨by rw [HQ.out]; rfl, rfl⟩
set_option maxHeartbeats 1000000 in
theorem zzAll81_calls (hf : Cls 161 alnum) (s t : ByteArray) (hs : s.size ≤ 140737488351232) (ht : t.size ≤ 140737488351232) (w : World) :
   Calls Tryz.prog 183 #[.string s, .func (.func 161) #[] #[], .string t] w fun e w' => e = .returned (.bool (allF alnum t.data.toList s.data.toList)) ∧ w = w' := by
 obtain ⟨x, hx, hxs⟩ : ∃ x : L, s = mk x ∧ s.size = x.length := exists_mk s
 obtain ⟨set, hset⟩ : ∃ set, t.data.toList = set := ⟨_, rfl⟩
 rw [show s.data.toList = x by rw [hx]; rfl, hset]
 have HIN : Aside0 (∀ (c : UInt8) (w : World), Calls Tryz.prog 194 #[.int .u8 ((c.toNat : Nat) : Int), .string t] w fun e w' => e = .returned (.bool (inSet c set)) ∧ w = w') := ⟨fun c w => by have h := zzIn_calls c t ht w; rw [hset] at h; exact h⟩
 have HX := Aside0.mk (And.intro hx hxs); have HF := Aside0.mk hf; clear hx hxs hset hf
 go_enter Tryz.func183, Tryz.ntmps183
 go_wp2
 go_loopg [7] (s.size) (fun g v5 w' => ∃ i : Nat, v5 = .int .i64 i ∧ w = w' ∧ Aside0 (g + i = s.size ∧ allF alnum set x = ((x.drop i).all (fun c => alnum c || inSet c set) && !(x == []))))
 case atStart => exact ⟨0, rfl, rfl, ⟨by omega, by simp [allF]⟩⟩
 case round =>
  obtain ⟨i, rfl, rfl, HI⟩ := hrel
  have hi : i ≤ s.size := by have := HI.out.1; omega
  by_cases hlt : i < s.size
  · have hg := getB HX.out.1 i hlt
    have hst := allF_step alnum set x i (by have := HX.out.2; omega)
    obtain ⟨c, hc⟩ : ∃ c, s[i]'hlt = c := ⟨_, rfl⟩
    have hcx : x.getD i 0 = c := by rw [← hc]; exact hg.symm
    rw [hcx] at hst
    have hce : ∀ h : i < s.size, s[i]'h = c := fun _ => hc
    have h1 : ∀ w, Calls Tryz.prog 161 #[.int .u8 ((c.toNat : Nat) : Int)] w fun e w' => e = .returned (.bool (alnum c)) ∧ w = w' := fun w => HF.out c w
    have h2 : ∀ w, Calls Tryz.prog 194 #[.int .u8 ((c.toNat : Nat) : Int), .string t] w fun e w' => e = .returned (.bool (inSet c set)) ∧ w = w' := fun w => HIN.out c w
    have HST := Aside0.mk hst
    clear hg hcx hst hc
    cases hp : alnum c with
    | true =>
      rw [hp] at h1
      have HR : Aside0 (allF alnum set x = ((x.drop (i + 1)).all (fun c => alnum c || inSet c set) && !(x == []))) := ⟨by rw [HI.out.2, HST.out, hp]; simp⟩
      have H1 := Aside0.mk h1; clear h1 h2 hp
      go_wp2_with (first | ((with_reducible refine (H1.out _).mono ?_); rintro e w' ⟨rfl, rfl⟩))
      go_roundg (gk - 1)
      case measure => have := HI.out.1; omega
      case rel => exact ⟨i + 1, by go_num, rfl, ⟨by have := HI.out.1; omega, HR.out⟩⟩
    | false =>
      rw [hp] at h1
      cases hq : inSet c set with
      | true =>
        rw [hq] at h2
        have HR : Aside0 (allF alnum set x = ((x.drop (i + 1)).all (fun c => alnum c || inSet c set) && !(x == []))) := ⟨by rw [HI.out.2, HST.out, hp, hq]; simp⟩
        have H1 := Aside0.mk h1; have H2 := Aside0.mk h2; clear h1 h2 hp hq
        go_wp2_with (first | ((with_reducible refine (H1.out _).mono ?_); rintro e w' ⟨rfl, rfl⟩) | ((with_reducible refine (H2.out _).mono ?_); rintro e w' ⟨rfl, rfl⟩))
        go_roundg (gk - 1)
        case measure => have := HI.out.1; omega
        case rel => exact ⟨i + 1, by go_num, rfl, ⟨by have := HI.out.1; omega, HR.out⟩⟩
      | false =>
        rw [hq] at h2
        have HR : Aside0 (allF alnum set x = false) := ⟨by rw [HI.out.2, HST.out, hp, hq]; simp⟩
        have H1 := Aside0.mk h1; have H2 := Aside0.mk h2; clear h1 h2 hp hq
        go_wp2_with (first | ((with_reducible refine (H1.out _).mono ?_); rintro e w' ⟨rfl, rfl⟩) | ((with_reducible refine (H2.out _).mono ?_); rintro e w' ⟨rfl, rfl⟩))
        go_ret
        exact ⟨by rw [HR.out]; rfl, rfl⟩
  · have HR : Aside0 (allF alnum set x = !(x == [])) := ⟨by rw [HI.out.2, List.drop_eq_nil_of_le (by have := HX.out.2; omega)]; simp⟩
    have sl : s.toList = x := by rw [HX.out.1, mk_toList]
    by_cases he : x = []
    · have t1 : (s.toList == ([] : List UInt8)) = true := by rw [sl, he]; rfl
      have HQ : Aside0 (allF alnum set x = false) := ⟨by rw [HR.out, he]; rfl⟩
      clear sl he
      go_wp2
      go_ret
      exact ⟨by rw [HQ.out]; rfl, rfl⟩
    · have t1 : (s.toList == ([] : List UInt8)) = false := by rw [sl]; simpa using he
      have HQ : Aside0 (allF alnum set x = true) := ⟨by rw [HR.out]; simpa using he⟩
      clear sl he
      go_wp2
      go_ret
      exact ⟨by rw [HQ.out]; rfl, rfl⟩
set_option maxHeartbeats 2000000 in
theorem zzEnds81_calls (hf : Cls 161 alnum) (s t : ByteArray) (hs : s.size ≤ 140737488351232) (ht : t.size ≤ 140737488351232) (w : World) :
   Calls Tryz.prog 160 #[.string s, .func (.func 161) #[] #[], .string t] w fun e w' => e = .returned (.bool (endsF alnum t.data.toList s.data.toList)) ∧ w = w' := by
 obtain ⟨x, hx, hxs⟩ : ∃ x : L, s = mk x ∧ s.size = x.length := exists_mk s
 obtain ⟨set, hset⟩ : ∃ set, t.data.toList = set := ⟨_, rfl⟩
 have hsd : s.data.toList = x := by rw [hx]; rfl
 rw [hsd, hset]
 have h1 : ∀ w, Calls Tryz.prog 183 #[.string s, .func (.func 161) #[] #[], .string t] w fun e w' => e = .returned (.bool (allF alnum set x)) ∧ w = w' := fun w => by have h := zzAll81_calls hf s t hs ht w; rw [hsd, hset] at h; exact h
 have hres : endsF alnum set x = (allF alnum set x && (alnum (x.getD 0 0) && alnum (x.getD (x.length - 1) 0))) := rfl
 cases ha : allF alnum set x with
 | false =>
   rw [ha] at h1 hres
   have HR : Aside0 (endsF alnum set x = false) := ⟨by rw [hres]; rfl⟩
   have H1 := Aside0.mk h1; clear h1 ha hres hx hxs hsd hset hf
   go_enter Tryz.func160, Tryz.ntmps160
   go_wp2_with (first | ((with_reducible refine (H1.out _).mono ?_); rintro e w' ⟨rfl, rfl⟩))
   go_ret
   exact ⟨by rw [HR.out]; rfl, rfl⟩
 | true =>
   rw [ha] at h1 hres
   have hne : x ≠ [] := by
    intro h; rw [h] at ha; simp [allF] at ha
   have hpos : 0 < s.size := by rw [hxs]; exact List.length_pos_iff.2 hne
   have hlast : s.size - 1 < s.size := by omega
   have g1 := getB hx 0 hpos
   have g2 := getB hx (s.size - 1) hlast
   obtain ⟨c, hc⟩ : ∃ c, s[0]'hpos = c := ⟨_, rfl⟩
   obtain ⟨d, hd⟩ : ∃ d, s[s.size - 1]'hlast = d := ⟨_, rfl⟩
   have hce : ∀ h : 0 < s.size, s[0]'h = c := fun _ => hc
   have hde : ∀ h : s.size - 1 < s.size, s[s.size - 1]'h = d := fun _ => hd
   have k1 : ∀ w, Calls Tryz.prog 161 #[.int .u8 ((c.toNat : Nat) : Int)] w fun e w' => e = .returned (.bool (alnum c)) ∧ w = w' := fun w => hf c w
   have k2 : ∀ w, Calls Tryz.prog 161 #[.int .u8 ((d.toNat : Nat) : Int)] w fun e w' => e = .returned (.bool (alnum d)) ∧ w = w' := fun w => hf d w
   have hres2 : endsF alnum set x = (alnum c && alnum d) := by
    rw [hres, ← hc, ← hd, g1, g2, hxs]; rfl
   have HR := Aside0.mk hres2
   have H1 := Aside0.mk h1
   clear h1 ha hres hx hxs hsd hset hf g1 g2 hres2 hne hc hd
   cases hp : alnum c with
   | false =>
     rw [hp] at k1
     have HQ : Aside0 (endsF alnum set x = false) := ⟨by rw [HR.out, hp]; rfl⟩
     have K1 := Aside0.mk k1; clear k1 k2 hp
     go_enter Tryz.func160, Tryz.ntmps160
     go_wp2_with (first | ((with_reducible refine (H1.out _).mono ?_); rintro e w' ⟨rfl, rfl⟩) | ((with_reducible refine (K1.out _).mono ?_); rintro e w' ⟨rfl, rfl⟩))
     go_ret
     exact ⟨by rw [HQ.out]; rfl, rfl⟩
   | true =>
     rw [hp] at k1
     obtain ⟨b, hb⟩ : ∃ b, alnum d = b := ⟨_, rfl⟩
     rw [hb] at k2
     have HQ : Aside0 (endsF alnum set x = b) := ⟨by rw [HR.out, hp, hb]; rfl⟩
     have K1 := Aside0.mk k1; have K2 := Aside0.mk k2; clear k1 k2 hp hb
     go_enter Tryz.func160, Tryz.ntmps160
     go_wp2_with (first | ((with_reducible refine (H1.out _).mono ?_); rintro e w' ⟨rfl, rfl⟩) | ((with_reducible refine (K1.out _).mono ?_); rintro e w' ⟨rfl, rfl⟩) | ((with_reducible refine (K2.out _).mono ?_); rintro e w' ⟨rfl, rfl⟩))
     go_ret
     exact ⟨by rw [HQ.out]; rfl, rfl⟩
set_option maxHeartbeats 2000000 in
theorem ended52_calls (hf : Cls 76 small) (s t : ByteArray) (hs : s.size ≤ 140737488351232) (ht : t.size ≤ 140737488351232) (w : World) :
   Calls Tryz.prog 55 #[.string s, .func (.func 76) #[] #[], .string t] w fun e w' => e = .returned (.bool (endsF small t.data.toList s.data.toList)) ∧ w = w' := by
 obtain ⟨x, hx, hxs⟩ : ∃ x : L, s = mk x ∧ s.size = x.length := exists_mk s
 obtain ⟨set, hset⟩ : ∃ set, t.data.toList = set := ⟨_, rfl⟩
 rw [show s.data.toList = x by rw [hx]; rfl, hset]
 have HIN : Aside0 (∀ (c : UInt8) (w : World), Calls Tryz.prog 83 #[.int .u8 ((c.toNat : Nat) : Int), .string t] w fun e w' => e = .returned (.bool (inSet c set)) ∧ w = w') := ⟨fun c w => by have h := among_calls c t ht w; rw [hset] at h; exact h⟩
 have HX := Aside0.mk (And.intro hx hxs); have HF := Aside0.mk hf; clear hx hxs hset hf
 go_enter Tryz.func55, Tryz.ntmps55
 go_wp2
 go_loopg [10] (s.size) (fun g v5 w' => ∃ i : Nat, v5 = .int .i64 i ∧ w = w' ∧ Aside0 (g + i = s.size ∧ ∀ j, j < i → endOk small set x j = true))
 case atStart => exact ⟨0, rfl, rfl, ⟨by omega, fun j hj => by omega⟩⟩
 case round =>
  obtain ⟨i, rfl, rfl, HI⟩ := hrel
  have hi : i ≤ s.size := by have := HI.out.1; omega
  by_cases hlt : i < s.size
  · have hg := getB HX.out.1 i hlt
    obtain ⟨c, hc⟩ : ∃ c, s[i]'hlt = c := ⟨_, rfl⟩
    have hcx : x.getD i 0 = c := by rw [← hc]; exact hg.symm
    have hce : ∀ h : i < s.size, s[i]'h = c := fun _ => hc
    have h1 : ∀ w, Calls Tryz.prog 76 #[.int .u8 ((c.toNat : Nat) : Int)] w fun e w' => e = .returned (.bool (small c)) ∧ w = w' := fun w => HF.out c w
    have h2 : ∀ w, Calls Tryz.prog 83 #[.int .u8 ((c.toNat : Nat) : Int), .string t] w fun e w' => e = .returned (.bool (inSet c set)) ∧ w = w' := fun w => HIN.out c w
    have hek : endOk small set x i = (small c || (!(i == 0) && (!(i == s.size - 1) && inSet c set))) := by unfold endOk; rw [hcx, HX.out.2]
    have hno : endOk small set x i = false → endsF small set x = false := fun h => by
     rw [Bool.eq_false_iff]
     intro h3
     have h4 := ((ends_ended small set x).2 h3).1 i (by have := HX.out.2; omega)
     rw [h] at h4; exact absurd h4 (by decide)
    have hyes : endOk small set x i = true → ∀ j, j < i + 1 → endOk small set x j = true := fun h j hj => by
     by_cases e : j = i
     · rw [e]; exact h
     · exact HI.out.2 j (by omega)
    have HYES := Aside0.mk hyes; have HNO := Aside0.mk hno; have HEK := Aside0.mk hek
    clear hg hcx hc hek hno hyes
    cases hp : small c with
    | true =>
      rw [hp] at h1
      have HR : Aside0 (endOk small set x i = true) := ⟨by rw [HEK.out, hp]; rfl⟩
      have H1 := Aside0.mk h1; clear h1 h2 hp
      go_wp2_with (first | ((with_reducible refine (H1.out _).mono ?_); rintro e w' ⟨rfl, rfl⟩))
      go_roundg (gk - 1)
      case measure => have := HI.out.1; omega
      case rel => exact ⟨i + 1, by go_num, rfl, ⟨by have := HI.out.1; omega, HYES.out HR.out⟩⟩
    | false =>
      rw [hp] at h1
      by_cases hi0 : i = 0
      · subst hi0
        have HR : Aside0 (endsF small set x = false) := ⟨HNO.out (by rw [HEK.out, hp]; rfl)⟩
        have H1 := Aside0.mk h1; clear h1 h2 hp
        go_wp2_with (first | ((with_reducible refine (H1.out _).mono ?_); rintro e w' ⟨rfl, rfl⟩))
        go_ret
        exact ⟨by rw [HR.out]; rfl, rfl⟩
      · by_cases hil : i = s.size - 1
        · have HR : Aside0 (endsF small set x = false) := ⟨HNO.out (by rw [HEK.out, hp, show (i == s.size - 1) = true by simpa using hil]; simp)⟩
          have H1 := Aside0.mk h1
          have hil2 : s.size ≤ i + 1 := by omega
          have hi02 : 0 < i := by omega
          have e1 : (((i : Nat) : Int) == 0) = false := by rw [beq_eq_false_iff_ne]; omega
          have e2 : (((i : Nat) : Int) == ((s.size : Nat) : Int) - 1) = true := by rw [beq_iff_eq]; omega
          clear h1 h2 hp hil hi0
          go_wp2_with (first | ((with_reducible refine (H1.out _).mono ?_); rintro e w' ⟨rfl, rfl⟩))
          go_ret
          exact ⟨by rw [HR.out]; rfl, rfl⟩
        · have hil2 : i + 1 < s.size := by omega
          have hi02 : 0 < i := by omega
          have e1 : (((i : Nat) : Int) == 0) = false := by rw [beq_eq_false_iff_ne]; omega
          have e2 : (((i : Nat) : Int) == ((s.size : Nat) : Int) - 1) = false := by rw [beq_eq_false_iff_ne]; omega
          have hek2 : endOk small set x i = inSet c set := by
           rw [HEK.out, hp, show (i == 0) = false by simpa using hi0, show (i == s.size - 1) = false by simpa using hil]; simp
          cases hq : inSet c set with
          | true =>
            rw [hq] at h2 hek2
            have HR := Aside0.mk hek2
            have H1 := Aside0.mk h1; have H2 := Aside0.mk h2; clear h1 h2 hp hq hek2 hi0 hil
            go_wp2_with (first | ((with_reducible refine (H1.out _).mono ?_); rintro e w' ⟨rfl, rfl⟩) | ((with_reducible refine (H2.out _).mono ?_); rintro e w' ⟨rfl, rfl⟩))
            go_roundg (gk - 1)
            case measure => have := HI.out.1; omega
            case rel => exact ⟨i + 1, by go_num, rfl, ⟨by have := HI.out.1; omega, HYES.out HR.out⟩⟩
          | false =>
            rw [hq] at h2 hek2
            have HR : Aside0 (endsF small set x = false) := ⟨HNO.out hek2⟩
            have H1 := Aside0.mk h1; have H2 := Aside0.mk h2; clear h1 h2 hp hq hek2 hi0 hil
            go_wp2_with (first | ((with_reducible refine (H1.out _).mono ?_); rintro e w' ⟨rfl, rfl⟩) | ((with_reducible refine (H2.out _).mono ?_); rintro e w' ⟨rfl, rfl⟩))
            go_ret
            exact ⟨by rw [HR.out]; rfl, rfl⟩
  · have hall : ∀ j, j < x.length → endOk small set x j = true := fun j hj => HI.out.2 j (by have := HX.out.2; omega)
    have sl : s.toList = x := by rw [HX.out.1, mk_toList]
    by_cases he : x = []
    · have t1 : (s.toList == ([] : List UInt8)) = true := by rw [sl, he]; rfl
      have HQ : Aside0 (endsF small set x = false) := ⟨by rw [he]; rfl⟩
      clear sl he hall
      go_wp2
      go_ret
      exact ⟨by rw [HQ.out]; rfl, rfl⟩
    · have t1 : (s.toList == ([] : List UInt8)) = false := by rw [sl]; simpa using he
      have HQ : Aside0 (endsF small set x = true) := ⟨(ends_ended small set x).1 ⟨hall, he⟩⟩
      clear sl he hall
      go_wp2
      go_ret
      exact ⟨by rw [HQ.out]; rfl, rfl⟩
set_option maxHeartbeats 2000000 in
theorem ended55_calls (hf : Cls 39 alnum) (s t : ByteArray) (hs : s.size ≤ 140737488351232) (ht : t.size ≤ 140737488351232) (w : World) :
   Calls Tryz.prog 55 #[.string s, .func (.func 39) #[] #[], .string t] w fun e w' => e = .returned (.bool (endsF alnum t.data.toList s.data.toList)) ∧ w = w' := by
 obtain ⟨x, hx, hxs⟩ : ∃ x : L, s = mk x ∧ s.size = x.length := exists_mk s
 obtain ⟨set, hset⟩ : ∃ set, t.data.toList = set := ⟨_, rfl⟩
 rw [show s.data.toList = x by rw [hx]; rfl, hset]
 have HIN : Aside0 (∀ (c : UInt8) (w : World), Calls Tryz.prog 83 #[.int .u8 ((c.toNat : Nat) : Int), .string t] w fun e w' => e = .returned (.bool (inSet c set)) ∧ w = w') := ⟨fun c w => by have h := among_calls c t ht w; rw [hset] at h; exact h⟩
 have HX := Aside0.mk (And.intro hx hxs); have HF := Aside0.mk hf; clear hx hxs hset hf
 go_enter Tryz.func55, Tryz.ntmps55
 go_wp2
 go_loopg [10] (s.size) (fun g v5 w' => ∃ i : Nat, v5 = .int .i64 i ∧ w = w' ∧ Aside0 (g + i = s.size ∧ ∀ j, j < i → endOk alnum set x j = true))
 case atStart => exact ⟨0, rfl, rfl, ⟨by omega, fun j hj => by omega⟩⟩
 case round =>
  obtain ⟨i, rfl, rfl, HI⟩ := hrel
  have hi : i ≤ s.size := by have := HI.out.1; omega
  by_cases hlt : i < s.size
  · have hg := getB HX.out.1 i hlt
    obtain ⟨c, hc⟩ : ∃ c, s[i]'hlt = c := ⟨_, rfl⟩
    have hcx : x.getD i 0 = c := by rw [← hc]; exact hg.symm
    have hce : ∀ h : i < s.size, s[i]'h = c := fun _ => hc
    have h1 : ∀ w, Calls Tryz.prog 39 #[.int .u8 ((c.toNat : Nat) : Int)] w fun e w' => e = .returned (.bool (alnum c)) ∧ w = w' := fun w => HF.out c w
    have h2 : ∀ w, Calls Tryz.prog 83 #[.int .u8 ((c.toNat : Nat) : Int), .string t] w fun e w' => e = .returned (.bool (inSet c set)) ∧ w = w' := fun w => HIN.out c w
    have hek : endOk alnum set x i = (alnum c || (!(i == 0) && (!(i == s.size - 1) && inSet c set))) := by unfold endOk; rw [hcx, HX.out.2]
    have hno : endOk alnum set x i = false → endsF alnum set x = false := fun h => by
     rw [Bool.eq_false_iff]
     intro h3
     have h4 := ((ends_ended alnum set x).2 h3).1 i (by have := HX.out.2; omega)
     rw [h] at h4; exact absurd h4 (by decide)
    have hyes : endOk alnum set x i = true → ∀ j, j < i + 1 → endOk alnum set x j = true := fun h j hj => by
     by_cases e : j = i
     · rw [e]; exact h
     · exact HI.out.2 j (by omega)
    have HYES := Aside0.mk hyes; have HNO := Aside0.mk hno; have HEK := Aside0.mk hek
    clear hg hcx hc hek hno hyes
    cases hp : alnum c with
    | true =>
      rw [hp] at h1
      have HR : Aside0 (endOk alnum set x i = true) := ⟨by rw [HEK.out, hp]; rfl⟩
      have H1 := Aside0.mk h1; clear h1 h2 hp
      go_wp2_with (first | ((with_reducible refine (H1.out _).mono ?_); rintro e w' ⟨rfl, rfl⟩))
      go_roundg (gk - 1)
      case measure => have := HI.out.1; omega
      case rel => exact ⟨i + 1, by go_num, rfl, ⟨by have := HI.out.1; omega, HYES.out HR.out⟩⟩
    | false =>
      rw [hp] at h1
      by_cases hi0 : i = 0
      · subst hi0
        have HR : Aside0 (endsF alnum set x = false) := ⟨HNO.out (by rw [HEK.out, hp]; rfl)⟩
        have H1 := Aside0.mk h1; clear h1 h2 hp
        go_wp2_with (first | ((with_reducible refine (H1.out _).mono ?_); rintro e w' ⟨rfl, rfl⟩))
        go_ret
        exact ⟨by rw [HR.out]; rfl, rfl⟩
      · by_cases hil : i = s.size - 1
        · have HR : Aside0 (endsF alnum set x = false) := ⟨HNO.out (by rw [HEK.out, hp, show (i == s.size - 1) = true by simpa using hil]; simp)⟩
          have H1 := Aside0.mk h1
          have hil2 : s.size ≤ i + 1 := by omega
          have hi02 : 0 < i := by omega
          have e1 : (((i : Nat) : Int) == 0) = false := by rw [beq_eq_false_iff_ne]; omega
          have e2 : (((i : Nat) : Int) == ((s.size : Nat) : Int) - 1) = true := by rw [beq_iff_eq]; omega
          clear h1 h2 hp hil hi0
          go_wp2_with (first | ((with_reducible refine (H1.out _).mono ?_); rintro e w' ⟨rfl, rfl⟩))
          go_ret
          exact ⟨by rw [HR.out]; rfl, rfl⟩
        · have hil2 : i + 1 < s.size := by omega
          have hi02 : 0 < i := by omega
          have e1 : (((i : Nat) : Int) == 0) = false := by rw [beq_eq_false_iff_ne]; omega
          have e2 : (((i : Nat) : Int) == ((s.size : Nat) : Int) - 1) = false := by rw [beq_eq_false_iff_ne]; omega
          have hek2 : endOk alnum set x i = inSet c set := by
           rw [HEK.out, hp, show (i == 0) = false by simpa using hi0, show (i == s.size - 1) = false by simpa using hil]; simp
          cases hq : inSet c set with
          | true =>
            rw [hq] at h2 hek2
            have HR := Aside0.mk hek2
            have H1 := Aside0.mk h1; have H2 := Aside0.mk h2; clear h1 h2 hp hq hek2 hi0 hil
            go_wp2_with (first | ((with_reducible refine (H1.out _).mono ?_); rintro e w' ⟨rfl, rfl⟩) | ((with_reducible refine (H2.out _).mono ?_); rintro e w' ⟨rfl, rfl⟩))
            go_roundg (gk - 1)
            case measure => have := HI.out.1; omega
            case rel => exact ⟨i + 1, by go_num, rfl, ⟨by have := HI.out.1; omega, HYES.out HR.out⟩⟩
          | false =>
            rw [hq] at h2 hek2
            have HR : Aside0 (endsF alnum set x = false) := ⟨HNO.out hek2⟩
            have H1 := Aside0.mk h1; have H2 := Aside0.mk h2; clear h1 h2 hp hq hek2 hi0 hil
            go_wp2_with (first | ((with_reducible refine (H1.out _).mono ?_); rintro e w' ⟨rfl, rfl⟩) | ((with_reducible refine (H2.out _).mono ?_); rintro e w' ⟨rfl, rfl⟩))
            go_ret
            exact ⟨by rw [HR.out]; rfl, rfl⟩
  · have hall : ∀ j, j < x.length → endOk alnum set x j = true := fun j hj => HI.out.2 j (by have := HX.out.2; omega)
    have sl : s.toList = x := by rw [HX.out.1, mk_toList]
    by_cases he : x = []
    · have t1 : (s.toList == ([] : List UInt8)) = true := by rw [sl, he]; rfl
      have HQ : Aside0 (endsF alnum set x = false) := ⟨by rw [he]; rfl⟩
      clear sl he hall
      go_wp2
      go_ret
      exact ⟨by rw [HQ.out]; rfl, rfl⟩
    · have t1 : (s.toList == ([] : List UInt8)) = false := by rw [sl]; simpa using he
      have HQ : Aside0 (endsF alnum set x = true) := ⟨(ends_ended alnum set x).1 ⟨hall, he⟩⟩
      clear sl he hall
      go_wp2
      go_ret
      exact ⟨by rw [HQ.out]; rfl, rfl⟩
def label (x : L) : Bool := endsF small [45] x
def qual (x : L) : Bool := endsF alnum [45, 95, 46] x
def labelValue (x : L) : Bool := x == [] || qual x
def most (n : Nat) (x : L) : Bool := decide (x.length ≤ n)
theorem zzLabel_calls (s : ByteArray) (hs : s.size ≤ 140737488351232) (w : World) : Calls Tryz.prog 182 #[.string s] w fun e w' => e = .returned (.bool (label s.data.toList)) ∧ w = w' := by
 have H1 : Aside0 (∀ w, Calls Tryz.prog 160 #[.string s, .func (.func 184) #[] #[], .string ⟨#[45]⟩] w fun e w' => e = .returned (.bool (label s.data.toList)) ∧ w = w') := ⟨fun w => zzEnds91_calls zzLower_calls s ⟨#[45]⟩ hs (by decide) w⟩
 go_enter Tryz.func182, Tryz.ntmps182
 go_wp2_with (first | ((with_reducible refine (H1.out _).mono ?_); rintro e w' ⟨rfl, rfl⟩))
 go_ret
 exact ⟨rfl, rfl⟩
theorem zzQualified_calls (s : ByteArray) (hs : s.size ≤ 140737488351232) (w : World) : Calls Tryz.prog 132 #[.string s] w fun e w' => e = .returned (.bool (qual s.data.toList)) ∧ w = w' := by
 have H1 : Aside0 (∀ w, Calls Tryz.prog 160 #[.string s, .func (.func 161) #[] #[], .string ⟨#[45, 95, 46]⟩] w fun e w' => e = .returned (.bool (qual s.data.toList)) ∧ w = w') := ⟨fun w => zzEnds81_calls zzWord_calls s ⟨#[45, 95, 46]⟩ hs (by decide) w⟩
 go_enter Tryz.func132, Tryz.ntmps132
 go_wp2_with (first | ((with_reducible refine (H1.out _).mono ?_); rintro e w' ⟨rfl, rfl⟩))
 go_ret
 exact ⟨rfl, rfl⟩
theorem zzLabelValue_calls (s : ByteArray) (hs : s.size ≤ 140737488351232) (w : World) : Calls Tryz.prog 133 #[.string s] w fun e w' => e = .returned (.bool (labelValue s.data.toList)) ∧ w = w' := by
 have H1 : Aside0 (∀ w, Calls Tryz.prog 132 #[.string s] w fun e w' => e = .returned (.bool (qual s.data.toList)) ∧ w = w') := ⟨fun w => zzQualified_calls s hs w⟩
 by_cases h0 : s.toList = []
 · have t0 : (s.toList == ([] : List UInt8)) = true := beq_iff_eq.2 h0
   have HR : Aside0 (labelValue s.data.toList = true) := ⟨by unfold labelValue; rw [← toList_eq, h0]; rfl⟩
   clear h0
   go_enter Tryz.func133, Tryz.ntmps133
   go_wp2_with (first | ((with_reducible refine (H1.out _).mono ?_); rintro e w' ⟨rfl, rfl⟩))
   go_ret
   exact ⟨by rw [HR.out]; first | rfl | exact congrArg (fun b : Bool => Ending.returned (Value.bool b)) (by simp; omega), rfl⟩
 · have t0 : (s.toList == ([] : List UInt8)) = false := beq_eq_false_iff_ne.2 h0
   have HR : Aside0 (labelValue s.data.toList = qual s.data.toList) := ⟨by unfold labelValue; rw [← toList_eq, t0]; rfl⟩
   clear h0
   go_enter Tryz.func133, Tryz.ntmps133
   go_wp2_with (first | ((with_reducible refine (H1.out _).mono ?_); rintro e w' ⟨rfl, rfl⟩))
   go_ret
   exact ⟨by rw [HR.out]; first | rfl | exact congrArg (fun b : Bool => Ending.returned (Value.bool b)) (by simp; omega), rfl⟩
def pValue (x : L) : Bool := most 63 x && labelValue x
theorem LabelText_calls (s : ByteArray) (hs : s.size ≤ 140737488351232) (w : World) : Calls Tryz.prog 24 #[.string s] w fun e w' => e = .returned (.bool (pValue s.data.toList)) ∧ w = w' := by
 obtain ⟨x, hx, hxs⟩ : ∃ x : L, s = mk x ∧ s.size = x.length := exists_mk s
 have H1 : Aside0 (∀ w, Calls Tryz.prog 55 #[.string s, .func (.func 39) #[] #[], .string ⟨#[45, 95, 46]⟩] w fun e w' => e = .returned (.bool (qual s.data.toList)) ∧ w = w') := ⟨fun w => ended55_calls Alnum_calls s ⟨#[45, 95, 46]⟩ hs (by decide) w⟩
 rw [show s.data.toList = x by rw [hx]; rfl] at H1 ⊢
 have sl : s.toList = x := by rw [hx, mk_toList]
 have hr : pValue x = (decide (s.size ≤ 63) && labelValue x) := by unfold pValue most; rw [hxs]
 by_cases h0 : x = []
 · have t0 : (s.toList == ([] : List UInt8)) = true := by rw [sl, h0]; rfl
   have HR : Aside0 (pValue x = true) := ⟨by rw [h0]; decide⟩
   clear h0 hr hx hxs sl
   go_enter Tryz.func24, Tryz.ntmps24
   go_wp2_with (first | ((with_reducible refine (H1.out _).mono ?_); rintro e w' ⟨rfl, rfl⟩))
   go_ret
   exact ⟨by rw [HR.out]; first | rfl | exact congrArg (fun b : Bool => Ending.returned (Value.bool b)) (by simp; omega), rfl⟩
 · have t0 : (s.toList == ([] : List UInt8)) = false := by rw [sl]; exact beq_eq_false_iff_ne.2 h0
   have hv : labelValue x = qual x := by unfold labelValue; rw [show (x == []) = false from beq_eq_false_iff_ne.2 h0]; rfl
   clear h0 hx hxs sl
   by_cases h : s.size ≤ 63
   · have HR : Aside0 (pValue x = qual x) := ⟨by rw [hr, hv]; simp [h]⟩
     clear hr hv
     go_enter Tryz.func24, Tryz.ntmps24
     go_wp2_with (first | ((with_reducible refine (H1.out _).mono ?_); rintro e w' ⟨rfl, rfl⟩))
     go_ret
     exact ⟨by rw [HR.out]; first | rfl | exact congrArg (fun b : Bool => Ending.returned (Value.bool b)) (by simp; omega), rfl⟩
   · have HR : Aside0 (pValue x = false) := ⟨by rw [hr]; simp [h]⟩
     clear hr hv
     go_enter Tryz.func24, Tryz.ntmps24
     go_wp2_with (first | ((with_reducible refine (H1.out _).mono ?_); rintro e w' ⟨rfl, rfl⟩))
     go_ret
     exact ⟨by rw [HR.out]; first | rfl | exact congrArg (fun b : Bool => Ending.returned (Value.bool b)) (by simp; omega), rfl⟩
def Errs (P : Bool) (w : World) (e : Ending) (w' : World) : Prop :=
 ∃ (v0 : Value) (xs : List ByteArray), e = .returned v0 ∧ Kd.R Kd.string 9 w' w.heap.size (fun _ => True) v0 xs ∧ (xs == []) = P ∧ xs.length ≤ 10 ∧ (∀ p ∈ xs, p.size ≤ 5000) ∧ Below w.heap.size w w'
theorem Errs.snoc {xs ys : List ByteArray} {m : ByteArray} (h : xs ++ [m] = ys) : (ys == []) = false := by
 subst h; cases xs <;> rfl
abbrev Tab (w : World) : Prop := Lib.TabIs Tryz.prog w "internal/strconv.uint64pow10" .u64 Lib.pow10Tab
theorem Tab.below {w w' : World} (h : Tab w) (hb : Below w.heap.size w w') : Tab w' := Lib.tabBelow_of_tabIs h w' hb
def Errs2 (P : Bool) (w : World) (e : Ending) (w' : World) : Prop :=
 ∃ (v0 : Value) (xs : List ByteArray), e = .returned v0 ∧ Kd.R Kd.string 9 w' w.heap.size (fun _ => True) v0 xs ∧ (xs == []) = P ∧ xs.length ≤ 20 ∧ (∀ p ∈ xs, p.size ≤ 2000000) ∧ Below w.heap.size w w'
theorem MaxLen_tab (w : World) (hT : Tab w) :
   Calls Tryz.prog 131 #[.int .i64 253] w fun e w' => ∃ m, e = .returned (.string m) ∧ m.size ≤ 4000 ∧ Below w.heap.size w w' := by
 have HB := Aside0.mk (Below.refl w.heap.size w)
 obtain ⟨d, hd, hdz⟩ : ∃ d : ByteArray, (⟨(Lib.itoa 253).toArray⟩ : ByteArray) = d ∧ d.size ≤ 100 := ⟨_, rfl, by decide +kernel⟩
 have h1 : ∀ w', Tab w' → Calls Tryz.prog 123 #[.int .i64 253] w' fun e w2 => e = .returned (.string d) ∧ Below w'.heap.size w' w2 := fun w' hT' => by
  have h := Tryz.strconv_Itoa 253 (by decide) (by decide) w' hT'
  rw [hd] at h
  exact h.mono fun e w2 ⟨h1, k, os, h2⟩ => ⟨h1, by rw [h2]; exact Lib.below_grow _ _ (Nat.le_refl _) k os⟩
 have H1 := Aside0.mk h1
 have HT := Aside0.mk hT
 clear h1 hd hT
 have c1 : (21 + d.size ≤ 9223372036854775807) = True := eq_true (by omega)
 have c2 : (9223372036854775807 < 21 + d.size) = False := eq_false (by omega)
 have c3 : (21 + d.size + 11 ≤ 9223372036854775807) = True := eq_true (by omega)
 have c4 : (9223372036854775807 < 21 + d.size + 11) = False := eq_false (by omega)
 go_enter Tryz.func131, Tryz.ntmps131
 go_wp2_with (first | ((with_reducible refine (H1.out _ (HT.out.below (by repeat (first | (with_reducible first | exact HB.out | apply below_alloc | apply pw_below_drewN | apply below_drew1) | exact HB.out)))).mono ?_); rintro e w' ⟨rfl, hb⟩; have nb_ := Aside0.mk (below_step (by repeat (first | (with_reducible first | exact HB.out | apply below_alloc | apply pw_below_drewN | apply below_drew1) | exact HB.out)) hb); clear HB; have HB := nb_; clear nb_; (try clear hb)))
 go_ret
 refine ⟨_, rfl, ?_, (by repeat (first | (with_reducible first | exact HB.out | apply below_alloc | apply pw_below_drewN | apply below_drew1) | exact HB.out))⟩
 have z1 : ∀ d : Array UInt8, (ByteArray.mk d).size = d.size := fun _ => rfl
 simp only [app_size, z1]
 simp
 omega
end Go.Proofs.YthfjolafikgpoaaGreatDoor.Hand
namespace Go.Proofs.YthfjolafikgpoaaGreatDoor.Hand
open Go.RowKit Go.Proofs.YthfjolafikgpoaaGreatDoor.PFnSelDecidesLabels Go.Proofs.YthfjolafikgpoaaGreatDoorW.PrintWords Go.Proofs.YthfjolafikgpoaaGreatDoorW.PrintLast Go.Proofs.YthfjolafikgpoaaGreatDoorW.PrintMore Go.Proofs.YthfjolafikgpoaaGreatDoor.Base
set_option linter.unusedVariables false
set_option linter.unusedSimpArgs false
set_option maxRecDepth 100000
theorem pieces_l0 (x : L) (c : UInt8) (hx : x.length ≤ 140737488351232) :
   ∀ (d i f : Nat) (out : List L), i + d = x.length → f ≤ i → out.length ≤ i → x.length < 8796093022208 →
     Ev (fun k => spec_Pieces.l0 k (mk x) (c.toNat : Int) (out.map mk) f (x.length : Int) i) ((out ++ glue ((x.take i).drop f) (pieces c (x.drop i))).map mk) := by
 intro d
 induction d with
 | zero =>
   intro i f out hi hf ho hb
   have e : x.drop i = [] := List.drop_eq_nil_of_le (by omega)
   have e2 : i = x.length := by omega
   rw [e]
   refine Ev.step (f := fun _ => some ((out ++ glue ((x.take i).drop f) (pieces c [])).map mk)) (fun k => ?_) (Ev.now _)
   simp only [spec_Pieces.l0]
   rw [if_neg (by omega), if_pos (by omega), if_pos (by rw [mk_size]; omega), if_pos (by rw [List.length_map]; omega), mk_size, extract_mk]
   simp [glue, pieces, e2]
 | succ d ih =>
   intro i f out hi hf ho hb
   have hlt : i < x.length := by omega
   rw [drop_cons hlt, pieces]
   by_cases h : x.getD i 0 = c
   · rw [if_pos h]
     have h1 := ih (i + 1) (i + 1) (out ++ [(x.take i).drop f]) (by omega) (by omega) (by simp; omega) hb
     have e : (x.take (i + 1)).drop (i + 1) = [] := List.drop_eq_nil_of_le (by simp; omega)
     rw [e, glue_pieces_nil] at h1
     have e3 : (out ++ glue ((x.take i).drop f) ([] :: pieces c (x.drop (i + 1)))).map mk = (out ++ [(x.take i).drop f] ++ pieces c (x.drop (i + 1))).map mk := by simp [glue]
     rw [e3]
     exact Ev.step (fun k => by
      simp only [spec_Pieces.l0]
      rw [if_pos (by omega), if_pos (by omega), if_pos (by rw [mk_size]; omega), bt_mk, Int.toNat_natCast, if_pos (by rw [h]), if_pos (by omega), if_pos (by omega), if_pos (by rw [mk_size]; omega), if_pos (by rw [List.length_map]; omega), wrap_id (by omega) (by omega), extract_mk]
      simp) h1
   · rw [if_neg h, glue_glue, ← take_drop_snoc hlt hf]
     have h1 := ih (i + 1) f out (by omega) (by omega) (by omega) hb
     exact Ev.step (fun k => by
      simp only [spec_Pieces.l0]
      rw [if_pos (by omega), if_pos (by omega), if_pos (by rw [mk_size]; omega), bt_mk, Int.toNat_natCast, if_neg (fun e => h (UInt8.toNat_inj.1 (by omega))), wrap_id (by omega) (by omega)]
      rfl) h1
theorem pieces_ev (x : L) (c : UInt8) (hx : x.length < 8796093022208) : Ev (fun k => spec_Pieces.f k (mk x) (c.toNat : Int)) ((pieces c x).map mk) := by
 have h := pieces_l0 x c (by omega) x.length 0 0 [] (by omega) (by omega) (by simp) hx
 simp only [List.take_zero, List.drop_nil, List.drop_zero, List.nil_append, glue_pieces_nil] at h
 refine Ev.congr (fun k => ?_) h
 unfold spec_Pieces.f; rw [mk_size]; rfl
theorem pieces_cons (c : UInt8) (x : L) (i : Nat) (h : i < x.length) : glue (x.take i) (pieces c (x.drop i)) = if x.getD i 0 = c then x.take i :: pieces c (x.drop (i + 1)) else glue (x.take (i + 1)) (pieces c (x.drop (i + 1))) := by
 rw [drop_cons h, pieces]
 by_cases e : x.getD i 0 = c
 · rw [if_pos e, if_pos e]; simp [glue]
 · rw [if_neg e, if_neg e, glue_glue]
   congr 1
   have := take_drop_snoc (f := 0) h (by omega)
   simpa using this.symm
theorem zzSplit_l0 (c : UInt8) :
   ∀ (d : Nat) (x : L) (i : Nat) (out : List L), i + d = x.length → out.length + d + 1 < 8796093022208 → x.length ≤ 140737488351232 →
     Ev (fun k => validation_zzSplit.l0 k (mk x) (mk [c]) (out.map mk) i) ((out ++ glue (x.take i) (pieces c (x.drop i))).map mk) := by
 intro d
 induction d with
 | zero =>
   intro x i out hi ho hx
   have e : x.drop i = [] := List.drop_eq_nil_of_le (by omega)
   have e1 : wrap64 ((i : Int) + ((mk [c]).size : Int)) = (i : Int) + 1 := by rw [mk_size]; exact wrap_id (by simp; omega) (by simp; omega)
   refine Ev.step (f := fun _ => some ((out ++ glue (x.take i) (pieces c (x.drop i))).map mk)) (fun k => ?_) (Ev.now _)
   simp only [validation_zzSplit.l0]
   rw [e1, if_neg (by rw [mk_size]; omega), if_pos (by rw [List.length_map]; omega), e]
   simp [glue, pieces, List.take_of_length_le (show x.length ≤ i by omega)]
 | succ d ih =>
   intro x i out hi ho hx
   have hlt : i < x.length := by omega
   have e1 : wrap64 ((i : Int) + ((mk [c]).size : Int)) = (i : Int) + 1 := by rw [mk_size]; exact wrap_id (by simp; omega) (by simp; omega)
   have e2 : (mk x).extract (i : Int).toNat ((i : Int) + 1).toNat = mk [x.getD i 0] := by
    rw [extract_mk, show ((i : Int) + 1).toNat = i + 1 by omega, Int.toNat_natCast]
    congr 1
    rw [take_drop_snoc hlt (Nat.le_refl i)]
    simp
   rw [pieces_cons c x i hlt]
   by_cases h : x.getD i 0 = c
   · rw [if_pos h]
     have h1 := ih (x.drop (i + 1)) 0 (out ++ [x.take i]) (by simp; omega) (by simp; omega) (by simp; omega)
     simp only [List.take_zero, List.drop_zero, glue_pieces_nil] at h1
     have e3 : (out ++ [x.take i] ++ pieces c (x.drop (i + 1))).map mk = (out ++ x.take i :: pieces c (x.drop (i + 1))).map mk := by simp
     rw [e3] at h1
     refine Ev.step (fun k => ?_) h1
     simp only [validation_zzSplit.l0]
     rw [e1, if_pos (by rw [mk_size]; omega), if_pos (by omega), if_pos (by omega), e2, h, if_pos rfl, if_pos (by rw [mk_size]; omega), if_pos (by rw [List.length_map]; omega), if_pos (by omega), extract_mk, extract_mk, mk_size]
     rw [show ((i : Int) + 1).toNat = i + 1 by omega, Int.toNat_natCast]
     simp
   · rw [if_neg h]
     have h1 := ih x (i + 1) out (by omega) (by omega) hx
     refine Ev.step (fun k => ?_) h1
     simp only [validation_zzSplit.l0]
     rw [e1, if_pos (by rw [mk_size]; omega), if_pos (by omega), if_pos (by omega), e2, if_neg (by rw [mk_toList, mk_toList]; intro e; exact h (by simpa using e)), wrap_id (by omega) (by omega)]
     rfl
theorem split_ev (c : UInt8) (x : L) (hx : x.length ≤ 8000000000000) : Ev (fun k => validation_zzSplit.f k (mk x) (mk [c])) ((pieces c x).map mk) := by
 have h := zzSplit_l0 c x.length x 0 [] (by omega) (by simp; omega) (by omega)
 simp only [List.take_zero, List.drop_zero, List.nil_append, glue_pieces_nil] at h
 exact h
theorem Split_calls (c : UInt8) (s : ByteArray) (hs : s.size ≤ 8000000000000) (w : World) :
   Calls Tryz.prog 126 #[.string s, .string (mk [c])] w fun e w' => ∃ v0_ : Value, e = .returned (v0_) ∧ Kd.R Kd.string 9 w' w.heap.size (fun _ => True) v0_ ((pieces c s.data.toList).map mk) ∧ Below w.heap.size w w' := by
 obtain ⟨x, hx, hxs⟩ : ∃ x : L, s = mk x ∧ s.size = x.length := exists_mk s
 obtain ⟨k, hk⟩ := (split_ev c x (by omega)).rounds
 rw [show s.data.toList = x by rw [hx]; rfl, hx]
 exact validation_zzSplit.calls k (mk x) (mk [c]) _ w hk
theorem Pieces_calls (c : UInt8) (s : ByteArray) (hs : s.size ≤ 8000000000000) (w : World) :
   Calls Tryz.prog 53 #[.string s, .int .u8 (c.toNat : Int)] w fun e w' => ∃ v0_ : Value, e = .returned (v0_) ∧ Kd.R Kd.string 9 w' w.heap.size (fun _ => True) v0_ ((pieces c s.data.toList).map mk) ∧ Below w.heap.size w w' := by
 obtain ⟨x, hx, hxs⟩ : ∃ x : L, s = mk x ∧ s.size = x.length := exists_mk s
 obtain ⟨k, hk⟩ := (pieces_ev x c (by omega)).rounds
 rw [show s.data.toList = x by rw [hx]; rfl, hx]
 exact spec_Pieces.calls k (mk x) (c.toNat : Int) _ w hk
end Go.Proofs.YthfjolafikgpoaaGreatDoor.Hand
namespace Go.Proofs.YthfjolafikgpoaaGreatDoor.Hand
open Go.RowKit Go.Proofs.YthfjolafikgpoaaGreatDoorW.PrintWords Go.Proofs.YthfjolafikgpoaaGreatDoorW.PrintLast Go.Proofs.YthfjolafikgpoaaGreatDoorW.PrintMore Go.Proofs.YthfjolafikgpoaaGreatDoor.Base
set_option linter.unusedVariables false
set_option linter.unusedSimpArgs false
set_option maxRecDepth 100000
def sub (x : L) : Bool := (pieces 46 x).all label
set_option maxHeartbeats 4000000 in
theorem sub89_calls (s : ByteArray) (hs : s.size ≤ 140737488351) (w : World) :
   Calls Tryz.prog 159 #[.string s] w fun e w' => e = .returned (.bool (sub s.data.toList)) ∧ Below w.heap.size w w' := by
 obtain ⟨x, hx, hxs⟩ : ∃ x : L, s = mk x ∧ s.size = x.length := exists_mk s
 have hQ : ∀ w, Calls Tryz.prog 126 #[.string s, .string ⟨#[46]⟩] w fun e w' => ∃ v0_ : Value, e = .returned (v0_) ∧ Kd.R Kd.string 9 w' w.heap.size (fun _ => True) v0_ ((pieces 46 s.data.toList).map mk) ∧ Below w.heap.size w w' := fun w => Split_calls 46 s (by omega) w
 rw [show s.data.toList = x by rw [hx]; rfl] at hQ ⊢
 have hpl := pieces_len 46 x
 have hple := pieces_le 46 x
 have hres : (sub x) = ((pieces 46 x).all label && true) := by rw [Bool.and_true]; rfl
 rw [hres]
 clear hres
 obtain ⟨l, hl⟩ : ∃ l, pieces 46 x = l := ⟨_, rfl⟩
 rw [hl] at hQ hpl hple ⊢
 obtain ⟨nm, hnm⟩ : ∃ nm, l.map mk = nm := ⟨_, rfl⟩
 have hnl : nm.length = l.length := by rw [← hnm, List.length_map]
 rw [hnm] at hQ
 have HE : Aside0 (∀ i, i < nm.length → ∃ p : ByteArray, nm.getD i ByteArray.empty = p ∧ p.size ≤ 140737488351232 ∧ (l.drop i).all label = (label p.data.toList && (l.drop (i + 1)).all label)) := ⟨fun i hi => by
  have hi2 : i < l.length := by omega
  refine ⟨mk (l.getD i []), ?_, ?_, ?_⟩
  · rw [← hnm, List.getD_eq_getElem?_getD, List.getElem?_map, List.getElem?_eq_getElem hi2, getD_of _ [] hi2]; rfl
  · rw [mk_size, getD_of l [] hi2]; have := hple _ (List.getElem_mem hi2); omega
  · rw [List.drop_eq_getElem_cons hi2, List.all_cons, getD_of l [] hi2]; rfl⟩
 have HZ : Aside0 ((l.drop nm.length).all label = true) := ⟨by rw [List.drop_eq_nil_of_le (by omega)]; rfl⟩
 have hnz : nm.length ≤ 140737488351 + 1 := by omega
 obtain ⟨r, hr⟩ : ∃ r, l.all label = r := ⟨_, rfl⟩
 have HRES : Aside0 ((l.drop 0).all label = r) := ⟨by rw [List.drop_zero]; exact hr⟩
 rw [hr]
 have H1 := Aside0.mk hQ
 have HB := Aside0.mk (Below.refl w.heap.size w)
 clear hQ hx hxs hl hpl hple hnm hnl hr
 go_enter Tryz.func159, Tryz.ntmps159
 go_wp2_with (first | ((with_reducible refine (H1.out _).mono ?_); rintro e wN ⟨v6, rfl, ho0, hb⟩; have nq_ := Aside0.mk (Kd.R_lower ho0 (below_size (by repeat (first | (with_reducible first | exact HB.out | apply below_alloc | apply pw_below_drewN | apply below_drew1) | exact HB.out)))); have nb_ := Aside0.mk (below_step (by repeat (first | (with_reducible first | exact HB.out | apply below_alloc | apply pw_below_drewN | apply below_drew1) | exact HB.out)) hb); clear HB; have HB := nb_; clear nb_; (try clear hb); have HQ := nq_; clear nq_ ho0; (obtain ⟨AQ, cQ, eQ⟩ := Kd.R_slice HQ.out); subst eQ))
 clear H1
 go_loopg [4, 8] (nm.length) (fun g v4 v8 w' => ∃ (j : Nat), v8 = .int .i64 j ∧ wN = w' ∧ Aside0 (g + j = nm.length) ∧ Aside0 ((l.drop j).all label = r))
 case atStart => exact ⟨0, rfl, rfl, ⟨by omega⟩, HRES⟩
 case round =>
  obtain ⟨j, rfl, rfl, HJ, HI⟩ := hrel
  have hj : j ≤ nm.length := by have := HJ.out; omega
  by_cases hjl : j < nm.length
  · obtain ⟨ad2, eA2, hcell2⟩ := Kd.at_string (Kd.R_reads' HQ.out).2.2 (j : Int) (by omega) (by omega)
    subst eA2
    obtain ⟨p, hp1, hp2, hp3⟩ := HE.out j hjl
    rw [show rdOf ByteArray.empty nm (j : Int) = p by unfold rdOf; rw [Int.toNat_natCast]; exact hp1, Int.toNat_natCast] at hcell2
    have h2 : ∀ w, Calls Tryz.prog 182 #[.string p] w fun e w' => e = .returned (.bool (label p.data.toList)) ∧ w = w' := fun w => zzLabel_calls p hp2 w
    clear hp1
    obtain ⟨b, hb⟩ : ∃ b, label p.data.toList = b := ⟨_, rfl⟩
    rw [hb] at h2 hp3
    clear hb
    have H2 := Aside0.mk h2
    clear h2
    cases b with
    | true =>
      have HN : Aside0 ((l.drop (j + 1)).all label = r) := ⟨by rw [← HI.out, hp3]; rfl⟩
      clear hp3
      go_wp2_with (first | ((with_reducible refine (H2.out _).mono ?_); rintro e w' ⟨rfl, rfl⟩))
      go_roundg (gk - 1)
      case measure => have := HJ.out; omega
      case rel => exact ⟨j + 1, by go_num, rfl, ⟨by have := HJ.out; omega⟩, HN⟩
    | false =>
      have HN : Aside0 (r = false) := ⟨by rw [← HI.out, hp3]; rfl⟩
      clear hp3
      go_wp2_with (first | ((with_reducible refine (H2.out _).mono ?_); rintro e w' ⟨rfl, rfl⟩))
      go_ret
      exact ⟨by rw [HN.out]; rfl, HB.out⟩
  · have HN : Aside0 (r = true) := ⟨by rw [← HI.out, show j = nm.length by omega]; exact HZ.out⟩
    go_wp2
    go_ret
    exact ⟨by rw [HN.out]; first | rfl | exact congrArg (fun b : Bool => Ending.returned (Value.bool b)) (by simp), HB.out⟩
def pSub (x : L) : Bool := (pieces 46 x).all label && most 253 x
set_option maxHeartbeats 4000000 in
theorem sub37_calls (s : ByteArray) (hs : s.size ≤ 140737488351) (w : World) :
   Calls Tryz.prog 54 #[.string s] w fun e w' => e = .returned (.bool (pSub s.data.toList)) ∧ Below w.heap.size w w' := by
 obtain ⟨x, hx, hxs⟩ : ∃ x : L, s = mk x ∧ s.size = x.length := exists_mk s
 have hQ : ∀ w, Calls Tryz.prog 53 #[.string s, .int .u8 46] w fun e w' => ∃ v0_ : Value, e = .returned (v0_) ∧ Kd.R Kd.string 9 w' w.heap.size (fun _ => True) v0_ ((pieces 46 s.data.toList).map mk) ∧ Below w.heap.size w w' := fun w => Pieces_calls 46 s (by omega) w
 rw [show s.data.toList = x by rw [hx]; rfl] at hQ ⊢
 have hpl := pieces_len 46 x
 have hple := pieces_le 46 x
 have hres : (pSub x) = ((pieces 46 x).all label && decide ((s.size : Int) ≤ 253)) := by unfold pSub most; congr 1; rw [hxs, decide_eq_decide]; omega
 rw [hres]
 clear hres
 obtain ⟨l, hl⟩ : ∃ l, pieces 46 x = l := ⟨_, rfl⟩
 rw [hl] at hQ hpl hple ⊢
 obtain ⟨nm, hnm⟩ : ∃ nm, l.map mk = nm := ⟨_, rfl⟩
 have hnl : nm.length = l.length := by rw [← hnm, List.length_map]
 rw [hnm] at hQ
 have HE : Aside0 (∀ i, i < nm.length → ∃ p : ByteArray, nm.getD i ByteArray.empty = p ∧ p.size ≤ 140737488351232 ∧ (l.drop i).all label = (label p.data.toList && (l.drop (i + 1)).all label)) := ⟨fun i hi => by
  have hi2 : i < l.length := by omega
  refine ⟨mk (l.getD i []), ?_, ?_, ?_⟩
  · rw [← hnm, List.getD_eq_getElem?_getD, List.getElem?_map, List.getElem?_eq_getElem hi2, getD_of _ [] hi2]; rfl
  · rw [mk_size, getD_of l [] hi2]; have := hple _ (List.getElem_mem hi2); omega
  · rw [List.drop_eq_getElem_cons hi2, List.all_cons, getD_of l [] hi2]; rfl⟩
 have HZ : Aside0 ((l.drop nm.length).all label = true) := ⟨by rw [List.drop_eq_nil_of_le (by omega)]; rfl⟩
 have hnz : nm.length ≤ 140737488351 + 1 := by omega
 obtain ⟨r, hr⟩ : ∃ r, l.all label = r := ⟨_, rfl⟩
 have HRES : Aside0 ((l.drop 0).all label = r) := ⟨by rw [List.drop_zero]; exact hr⟩
 rw [hr]
 have H1 := Aside0.mk hQ
 have HB := Aside0.mk (Below.refl w.heap.size w)
 clear hQ hx hxs hl hpl hple hnm hnl hr
 go_enter Tryz.func54, Tryz.ntmps54
 go_wp2_with (first | ((with_reducible refine (H1.out _).mono ?_); rintro e wN ⟨v6, rfl, ho0, hb⟩; have nq_ := Aside0.mk (Kd.R_lower ho0 (below_size (by repeat (first | (with_reducible first | exact HB.out | apply below_alloc | apply pw_below_drewN | apply below_drew1) | exact HB.out)))); have nb_ := Aside0.mk (below_step (by repeat (first | (with_reducible first | exact HB.out | apply below_alloc | apply pw_below_drewN | apply below_drew1) | exact HB.out)) hb); clear HB; have HB := nb_; clear nb_; (try clear hb); have HQ := nq_; clear nq_ ho0; (obtain ⟨AQ, cQ, eQ⟩ := Kd.R_slice HQ.out); subst eQ))
 clear H1
 go_loopg [4, 8] (nm.length) (fun g v4 v8 w' => ∃ (j : Nat), v8 = .int .i64 j ∧ wN = w' ∧ Aside0 (g + j = nm.length) ∧ Aside0 ((l.drop j).all label = r))
 case atStart => exact ⟨0, rfl, rfl, ⟨by omega⟩, HRES⟩
 case round =>
  obtain ⟨j, rfl, rfl, HJ, HI⟩ := hrel
  have hj : j ≤ nm.length := by have := HJ.out; omega
  by_cases hjl : j < nm.length
  · obtain ⟨ad2, eA2, hcell2⟩ := Kd.at_string (Kd.R_reads' HQ.out).2.2 (j : Int) (by omega) (by omega)
    subst eA2
    obtain ⟨p, hp1, hp2, hp3⟩ := HE.out j hjl
    rw [show rdOf ByteArray.empty nm (j : Int) = p by unfold rdOf; rw [Int.toNat_natCast]; exact hp1, Int.toNat_natCast] at hcell2
    have h2 : ∀ w, Calls Tryz.prog 55 #[.string p, .func (.func 76) #[] #[], .string ⟨#[45]⟩] w fun e w' => e = .returned (.bool (label p.data.toList)) ∧ w = w' := fun w => ended52_calls Small_calls p ⟨#[45]⟩ hp2 (by decide) w
    clear hp1
    obtain ⟨b, hb⟩ : ∃ b, label p.data.toList = b := ⟨_, rfl⟩
    rw [hb] at h2 hp3
    clear hb
    have H2 := Aside0.mk h2
    clear h2
    cases b with
    | true =>
      have HN : Aside0 ((l.drop (j + 1)).all label = r) := ⟨by rw [← HI.out, hp3]; rfl⟩
      clear hp3
      go_wp2_with (first | ((with_reducible refine (H2.out _).mono ?_); rintro e w' ⟨rfl, rfl⟩))
      go_roundg (gk - 1)
      case measure => have := HJ.out; omega
      case rel => exact ⟨j + 1, by go_num, rfl, ⟨by have := HJ.out; omega⟩, HN⟩
    | false =>
      have HN : Aside0 (r = false) := ⟨by rw [← HI.out, hp3]; rfl⟩
      clear hp3
      go_wp2_with (first | ((with_reducible refine (H2.out _).mono ?_); rintro e w' ⟨rfl, rfl⟩))
      go_ret
      exact ⟨by rw [HN.out]; rfl, HB.out⟩
  · have HN : Aside0 (r = true) := ⟨by rw [← HI.out, show j = nm.length by omega]; exact HZ.out⟩
    go_wp2
    go_ret
    exact ⟨by rw [HN.out]; first | rfl | exact congrArg (fun b : Bool => Ending.returned (Value.bool b)) (by simp), HB.out⟩
theorem zzSub_calls (s : ByteArray) (hs : s.size ≤ 140737488351) (w : World) : Calls Tryz.prog 159 #[.string s] w fun e w' => e = .returned (.bool (sub s.data.toList)) ∧ Below w.heap.size w w' := sub89_calls s hs w
theorem pSub_calls (s : ByteArray) (hs : s.size ≤ 140737488351) (w : World) : Calls Tryz.prog 54 #[.string s] w fun e w' => e = .returned (.bool (most 253 s.data.toList && sub s.data.toList)) ∧ Below w.heap.size w w' := by
 have h := sub37_calls s hs w
 have e : pSub s.data.toList = (most 253 s.data.toList && sub s.data.toList) := by show (_ && most 253 s.data.toList) = _; rw [Bool.and_comm]; rfl
 rw [e] at h; exact h
theorem add0 (ad : Addr) : ad.add 0 = ad := by cases ad; rfl
theorem two_cells {w : World} {A : Option Addr} {n : Nat} {a b : ByteArray} (h : Kd.C Kd.string w A n [a, b]) : ∃ ad, A = some ad ∧ w.cell? ad = some (.string a) ∧ w.cell? ⟨ad.block, ad.off + 1, none⟩ = some (.string b) := by
 have hn := Kd.C_len h
 obtain ⟨ad, e, h0⟩ := Kd.at_string h 0 (by omega) (by simp at hn; omega)
 obtain ⟨ad2, e2, h1⟩ := Kd.at_string h 1 (by omega) (by simp at hn; omega)
 rw [e] at e2
 obtain rfl := Option.some.inj e2
 have e1 := add_field ad 0 1 (by decide)
 rw [add0, Nat.zero_add] at e1
 rw [show (1 : Int).toNat = 1 from rfl, e1] at h1
 refine ⟨ad, e, ?_, h1⟩
 rw [show (0 : Int).toNat = 0 from rfl, add0] at h0
 exact h0
theorem take_one {α : Type} (xs : List α) (j : Nat) (h : j < xs.length) : xs.take j ++ [xs[j]] = xs.take (j + 1) := by
 rw [List.take_add_one, List.getElem?_eq_getElem h]; rfl
theorem sub_nil : (most 253 ([] : L) && sub []) = false := by decide
end Go.Proofs.YthfjolafikgpoaaGreatDoor.Hand

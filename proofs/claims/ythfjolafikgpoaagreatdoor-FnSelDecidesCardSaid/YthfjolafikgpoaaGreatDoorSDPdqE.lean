/- sort.partitionEqual, sort.partition over requirements. -/
import Derived.Test.YthfjolafikgpoaaGreatDoorSDPdqD
namespace Go.Proofs.YthfjolafikgpoaaGreatDoor.Hand
open Go.RowKit Go.Maps Go.Proofs.YthfjolafikgpoaaGreatDoorW.PrintWords Go.Proofs.YthfjolafikgpoaaGreatDoorW.PrintLast Go.Proofs.YthfjolafikgpoaaGreatDoorW.PrintMore Go.Proofs.YthfjolafikgpoaaGreatDoor.Base
set_option linter.unusedVariables false
set_option linter.unusedSimpArgs false
set_option maxRecDepth 100000
open Go.Sort (ltStr SWO PermIn SortedIn swp size_swp partitionEqual partition partEqLoop partLoop scanUp scanDown)
set_option maxHeartbeats 16000000 in
set_option maxRecDepth 1000000 in
theorem peq_q (g cap a b pivot N : Nat) (base : Nat) (ok : Nat → Prop) (d : Array Rq) (hN : d.size = N) (hap : a ≤ pivot) (hpb : pivot < b) (hb : b ≤ N) (hsz : N < 4611686018427387904) (W0 w : World) (h : QK W0 w base g cap ok d) :
   Calls Tryz.prog 156 #[.iface 157 (.slice (some ⟨g, 0, none⟩) N cap), .int .i64 a, .int .i64 b, .int .i64 pivot] w fun e w' => e = .returned (.int .i64 (partitionEqual klt d a b pivot).1) ∧ QK W0 w' base g cap ok (partitionEqual klt d a b pivot).2 := by
 have mL : ∀ w, Sem.run Tryz.prog (method 390 157 (.slice (some ⟨g, 0, none⟩) N cap) "Less") w = .ok (254, .slice (some ⟨g, 0, none⟩) N cap) w := fun _ => by kernel_rfl
 have mS : ∀ w, Sem.run Tryz.prog (method 390 157 (.slice (some ⟨g, 0, none⟩) N cap) "Swap") w = .ok (255, .slice (some ⟨g, 0, none⟩) N cap) w := fun _ => by kernel_rfl
 have HL : Aside0 (∀ (X : Array Rq) (i j : Nat) (v : Bool), X.size = N → i < N → j < N → klt X[i]! X[j]! = v → ∀ W, QK W0 W base g cap ok X → Calls Tryz.prog 254 #[.slice (some ⟨g, 0, none⟩) N cap, .int .i64 (i : Int), .int .i64 (j : Int)] W fun e w' => e = .returned (.bool v) ∧ QK W0 w' base g cap ok X) :=
   ⟨fun X i j v hX hi hj hv => less_q (W0 := W0) (base := base) (g := g) (cap := cap) (ok := ok) hX i j (i : Int) (j : Int) rfl rfl hi hj v hv⟩
 have HS : Aside0 (∀ (X : Array Rq) (i j : Nat), X.size = N → i < N → j < N → ∀ W, QK W0 W base g cap ok X → Calls Tryz.prog 255 #[.slice (some ⟨g, 0, none⟩) N cap, .int .i64 (i : Int), .int .i64 (j : Int)] W fun e w' => e = .returned (.tuple #[]) ∧ QK W0 w' base g cap ok (swp X i j)) :=
   ⟨fun X i j hX hi hj => swap_q (W0 := W0) (base := base) (g := g) (cap := cap) (ok := ok) hX i j (i : Int) (j : Int) rfl rfl hi hj⟩
 have HQ := Aside0.mk h
 have hs0 := Aside0.mk (HS.out d a pivot hN (by omega) (by omega))
 have hb1 : ((b - 1 : Nat) : Int) = (b : Int) - 1 := by omega
 clear h
 go_enter Tryz.func156, Tryz.ntmps156
 go_wp2_with (first | ((with_reducible refine (hs0.out _ HQ.out).mono ?_); rintro e w3 ⟨rfl, hq⟩; have HQ2 := Aside0.mk hq; clear hq hs0))
 go_loopg [9, 10] (b - 1 + 1 - (a + 1)) (fun g0 vi vj wr => ∃ (i j : Nat) (dk : Array Rq), vi = .int .i64 i ∧ vj = .int .i64 j ∧ a < i ∧ i ≤ j + 1 ∧ j < b ∧ j + 1 - i ≤ g0 ∧ Aside0 (dk.size = N) ∧ Aside0 (QK W0 wr base g cap ok dk) ∧ Aside0 (partEqLoop klt a i j dk = partEqLoop klt a (a + 1) (b - 1) (swp d a pivot)))
 case atStart => exact ⟨a + 1, b - 1, swp d a pivot, by go_num, by rw [hb1], by omega, by omega, by omega, Nat.le_refl _, ⟨by rw [size_swp]; exact hN⟩, HQ2, ⟨rfl⟩⟩
 case round =>
  clear HQ HQ2 hN
  obtain ⟨i, j, dk, rfl, rfl, hai, hij, hjb, hg0, HDS, HQ, HE⟩ := hrel
  go_wp2
  go_loopg [9] (j + 1 - i) (fun g1 vi w1 => ∃ (i' : Nat), vi = .int .i64 i' ∧ i ≤ i' ∧ i' ≤ j + 1 ∧ j + 1 - i' ≤ g1 ∧ Aside0 (QK W0 w1 base g cap ok dk) ∧ Aside0 (scanUp (fun x => !klt dk[a]! x) dk j i' = scanUp (fun x => !klt dk[a]! x) dk j i))
  case atStart => exact ⟨i, rfl, Nat.le_refl _, hij, Nat.le_refl _, HQ, ⟨rfl⟩⟩
  case round =>
   obtain ⟨i', rfl, hii, hij', hg1, HQ, HSC⟩ := hrel
   by_cases hle : i' ≤ j
   · cases hlv : klt dk[a]! dk[i']! with
     | false =>
       have hl := Aside0.mk (HL.out dk a i' false HDS.out (by omega) (by omega) hlv)
       go_wp2_with (first | ((with_reducible refine (hl.out _ HQ.out).mono ?_); rintro e w2 ⟨rfl, hq⟩; have HQ2 := Aside0.mk hq; clear hq hl))
       go_roundg (j + 1 - (i' + 1))
       case measure => omega
       case rel => exact ⟨i' + 1, by go_num, by omega, by omega, Nat.le_refl _, HQ2, ⟨(scanUp_go (fun x => !klt dk[a]! x) dk j i' hle (by simp [hlv])).symm.trans HSC.out⟩⟩
     | true =>
       have hl := Aside0.mk (HL.out dk a i' true HDS.out (by omega) (by omega) hlv)
       have HI2 : Aside0 (i' = scanUp (fun x => !klt dk[a]! x) dk j i) := ⟨(scanUp_end (fun x => !klt dk[a]! x) dk j i' (Or.inr (by simp [hlv]))).symm.trans HSC.out⟩
       clear HSC
       go_wp2_with (first | ((with_reducible refine (hl.out _ HQ.out).mono ?_); rintro e w2 ⟨rfl, hq⟩; have HQ2 := Aside0.mk hq; clear hq hl))
       go_loopg [10] j (fun g2 vj w2 => ∃ (j' : Nat), vj = .int .i64 j' ∧ j' ≤ j ∧ i' ≤ j' + 1 ∧ j' ≤ g2 ∧ Aside0 (QK W0 w2 base g cap ok dk) ∧ Aside0 (scanDown (fun x => klt dk[a]! x) dk i' j' = scanDown (fun x => klt dk[a]! x) dk i' j))
       case atStart => exact ⟨j, rfl, Nat.le_refl _, hij', Nat.le_refl _, HQ2, ⟨rfl⟩⟩
       case round =>
        obtain ⟨j', rfl, hjj, hij2, hg2, HQ, HSD⟩ := hrel
        by_cases hle2 : i' ≤ j'
        · cases hlv2 : klt dk[a]! dk[j']! with
          | true =>
            have hl := Aside0.mk (HL.out dk a j' true HDS.out (by omega) (by omega) hlv2)
            go_wp2_with (first | ((with_reducible refine (hl.out _ HQ.out).mono ?_); rintro e w2 ⟨rfl, hq⟩; have HQ2 := Aside0.mk hq; clear hq hl))
            go_roundg (j' - 1)
            case measure => omega
            case rel => exact ⟨j' - 1, by go_num, by omega, by omega, Nat.le_refl _, HQ2, ⟨(scanDown_go (fun x => klt dk[a]! x) dk i' j' hle2 (by omega) hlv2).symm.trans HSD.out⟩⟩
          | false =>
            have HJ2 : Aside0 (j' = scanDown (fun x => klt dk[a]! x) dk i' j) := ⟨(scanDown_end (fun x => klt dk[a]! x) dk i' j' (Or.inr hlv2)).symm.trans HSD.out⟩
            have hlt3 := scans_lt klt a i j dk (by omega) HI2.out HJ2.out hle2
            have hl := Aside0.mk (HL.out dk a j' false HDS.out (by omega) (by omega) hlv2)
            have hs1 := Aside0.mk (HS.out dk i' j' HDS.out (by omega) (by omega))
            clear HSD
            go_wp2_with (first | ((with_reducible refine (hl.out _ HQ.out).mono ?_); rintro e w2 ⟨rfl, hq⟩; have HQ2 := Aside0.mk hq; clear hq hl) | ((with_reducible refine (hs1.out _ HQ2.out).mono ?_); rintro e w3 ⟨rfl, hq⟩; have HQ3 := Aside0.mk hq; clear hq hs1))
            go_roundg (j' - 1 + 1 - (i' + 1))
            case measure => omega
            case rel => exact ⟨i' + 1, j' - 1, swp dk i' j', by go_num, by go_num, by omega, by omega, by omega, Nat.le_refl _, ⟨by rw [size_swp]; exact HDS.out⟩, HQ3, ⟨by rw [← HE.out]; exact (partEq_go klt a i j dk HI2.out HJ2.out (by omega)).symm⟩⟩
        · have HJ2 : Aside0 (j' = scanDown (fun x => klt dk[a]! x) dk i' j) := ⟨(scanDown_end (fun x => klt dk[a]! x) dk i' j' (Or.inl hle2)).symm.trans HSD.out⟩
          clear HSD
          go_wp2
          go_ret
          have e := partEq_break klt a i j dk HI2.out HJ2.out (by omega)
          refine ⟨?_, ?_⟩
          · unfold partitionEqual; rw [← HE.out, e] <;> rfl
          · unfold partitionEqual; rw [← HE.out, e]; exact HQ.out
   · have HI2 : Aside0 (i' = scanUp (fun x => !klt dk[a]! x) dk j i) := ⟨(scanUp_end (fun x => !klt dk[a]! x) dk j i' (Or.inl hle)).symm.trans HSC.out⟩
     clear HSC
     go_wp2
     go_loopg [10] j (fun g2 vj w2 => ∃ (j' : Nat), vj = .int .i64 j' ∧ j' ≤ j ∧ i' ≤ j' + 1 ∧ j' ≤ g2 ∧ Aside0 (QK W0 w2 base g cap ok dk) ∧ Aside0 (scanDown (fun x => klt dk[a]! x) dk i' j' = scanDown (fun x => klt dk[a]! x) dk i' j))
     case atStart => exact ⟨j, rfl, Nat.le_refl _, hij', Nat.le_refl _, HQ, ⟨rfl⟩⟩
     case round =>
      obtain ⟨j', rfl, hjj, hij2, hg2, HQ, HSD⟩ := hrel
      by_cases hle2 : i' ≤ j'
      · exfalso; omega
      · have HJ2 : Aside0 (j' = scanDown (fun x => klt dk[a]! x) dk i' j) := ⟨(scanDown_end (fun x => klt dk[a]! x) dk i' j' (Or.inl hle2)).symm.trans HSD.out⟩
        clear HSD
        go_wp2
        go_ret
        have e := partEq_break klt a i j dk HI2.out HJ2.out (by omega)
        refine ⟨?_, ?_⟩
        · unfold partitionEqual; rw [← HE.out, e] <;> rfl
        · unfold partitionEqual; rw [← HE.out, e]; exact HQ.out
set_option maxHeartbeats 16000000 in
set_option maxRecDepth 1000000 in
theorem part_q (g cap a b pivot N : Nat) (base : Nat) (ok : Nat → Prop) (d : Array Rq) (hN : d.size = N) (hap : a ≤ pivot) (hpb : pivot < b) (hb : b ≤ N) (hsz : N < 4611686018427387904) (W0 w : World) (h : QK W0 w base g cap ok d) :
   Calls Tryz.prog 157 #[.iface 157 (.slice (some ⟨g, 0, none⟩) N cap), .int .i64 a, .int .i64 b, .int .i64 pivot] w fun e w' => e = .returned (.tuple #[.int .i64 (partition klt d a b pivot).1, .bool (partition klt d a b pivot).2.1]) ∧ QK W0 w' base g cap ok (partition klt d a b pivot).2.2 := by
 have mL : ∀ w, Sem.run Tryz.prog (method 390 157 (.slice (some ⟨g, 0, none⟩) N cap) "Less") w = .ok (254, .slice (some ⟨g, 0, none⟩) N cap) w := fun _ => by kernel_rfl
 have mS : ∀ w, Sem.run Tryz.prog (method 390 157 (.slice (some ⟨g, 0, none⟩) N cap) "Swap") w = .ok (255, .slice (some ⟨g, 0, none⟩) N cap) w := fun _ => by kernel_rfl
 have HL : Aside0 (∀ (X : Array Rq) (i j : Nat) (v : Bool), X.size = N → i < N → j < N → klt X[i]! X[j]! = v → ∀ W, QK W0 W base g cap ok X → Calls Tryz.prog 254 #[.slice (some ⟨g, 0, none⟩) N cap, .int .i64 (i : Int), .int .i64 (j : Int)] W fun e w' => e = .returned (.bool v) ∧ QK W0 w' base g cap ok X) :=
   ⟨fun X i j v hX hi hj hv => less_q (W0 := W0) (base := base) (g := g) (cap := cap) (ok := ok) hX i j (i : Int) (j : Int) rfl rfl hi hj v hv⟩
 have HS : Aside0 (∀ (X : Array Rq) (i j : Nat), X.size = N → i < N → j < N → ∀ W, QK W0 W base g cap ok X → Calls Tryz.prog 255 #[.slice (some ⟨g, 0, none⟩) N cap, .int .i64 (i : Int), .int .i64 (j : Int)] W fun e w' => e = .returned (.tuple #[]) ∧ QK W0 w' base g cap ok (swp X i j)) :=
   ⟨fun X i j hX hi hj => swap_q (W0 := W0) (base := base) (g := g) (cap := cap) (ok := ok) hX i j (i : Int) (j : Int) rfl rfl hi hj⟩
 have HQ := Aside0.mk h
 have hs0 := Aside0.mk (HS.out d a pivot hN (by omega) (by omega))
 obtain ⟨i, hi⟩ : ∃ i : Nat, i = a + 1 := ⟨_, rfl⟩
 obtain ⟨j, hj⟩ : ∃ j : Nat, j = b - 1 := ⟨_, rfl⟩
 obtain ⟨dk, hdk⟩ : ∃ dk : Array Rq, dk = swp d a pivot := ⟨_, rfl⟩
 have HDS : Aside0 (dk.size = N) := ⟨by rw [hdk, size_swp]; exact hN⟩
 have hai : a < i := by omega
 have hij : i ≤ j + 1 := by omega
 have hjb : j < b := by omega
 rw [← hdk] at hs0
 have Hi : Aside0 (i = a + 1) := ⟨hi⟩
 have Hj : Aside0 (j = b - 1) := ⟨hj⟩
 have Hdk : Aside0 (dk = swp d a pivot) := ⟨hdk⟩
 have hi1 : ((a : Int) + 1) = (i : Int) := by omega
 have hj1 : ((b : Int) - 1) = (j : Int) := by omega
 have Hi1 := Aside0.mk hi1
 have Hj1 := Aside0.mk hj1
 clear hi hj hdk h hN hi1 hj1
 go_enter Tryz.func157, Tryz.ntmps157
 go_wp2_with (first | ((with_reducible refine (hs0.out _ HQ.out).mono ?_); rintro e w3 ⟨rfl, hq⟩; have HQ2 := Aside0.mk hq; clear hq hs0))
 rw [Hi1.out, Hj1.out]
 clear Hi1 Hj1 HQ
 have HQ : Aside0 _ := HQ2
 clear HQ2
 go_loopg [10] (j + 1 - i) (fun g1 vi w1 => ∃ (i' : Nat), vi = .int .i64 i' ∧ i ≤ i' ∧ i' ≤ j + 1 ∧ j + 1 - i' ≤ g1 ∧ Aside0 (QK W0 w1 base g cap ok dk) ∧ Aside0 (scanUp (fun x => klt x dk[a]!) dk j i' = scanUp (fun x => klt x dk[a]!) dk j i))
 case atStart => exact ⟨i, rfl, Nat.le_refl _, hij, Nat.le_refl _, HQ, ⟨rfl⟩⟩
 case round =>
  obtain ⟨i', rfl, hii, hij', hg1, HQ, HSC⟩ := hrel
  by_cases hle : i' ≤ j
  · cases hlv : klt dk[i']! dk[a]! with
    | true =>
      have hl := Aside0.mk (HL.out dk i' a true HDS.out (by omega) (by omega) hlv)
      go_wp2_with (first | ((with_reducible refine (hl.out _ HQ.out).mono ?_); rintro e w2 ⟨rfl, hq⟩; have HQ2 := Aside0.mk hq; clear hq hl))
      go_roundg (j + 1 - (i' + 1))
      case measure => omega
      case rel => exact ⟨i' + 1, by go_num, by omega, by omega, Nat.le_refl _, HQ2, ⟨(scanUp_go (fun x => klt x dk[a]!) dk j i' hle hlv).symm.trans HSC.out⟩⟩
    | false =>
      have hl := Aside0.mk (HL.out dk i' a false HDS.out (by omega) (by omega) hlv)
      have HI2 : Aside0 (i' = scanUp (fun x => klt x dk[a]!) dk j i) := ⟨(scanUp_end (fun x => klt x dk[a]!) dk j i' (Or.inr hlv)).symm.trans HSC.out⟩
      clear HSC
      go_wp2_with (first | ((with_reducible refine (hl.out _ HQ.out).mono ?_); rintro e w2 ⟨rfl, hq⟩; have HQ2 := Aside0.mk hq; clear hq hl))
      go_loopg [11] j (fun g2 vj w2 => ∃ (j' : Nat), vj = .int .i64 j' ∧ j' ≤ j ∧ i' ≤ j' + 1 ∧ j' ≤ g2 ∧ Aside0 (QK W0 w2 base g cap ok dk) ∧ Aside0 (scanDown (fun x => !klt x dk[a]!) dk i' j' = scanDown (fun x => !klt x dk[a]!) dk i' j))
      case atStart => exact ⟨j, rfl, Nat.le_refl _, hij', Nat.le_refl _, HQ2, ⟨rfl⟩⟩
      case round =>
       obtain ⟨j', rfl, hjj, hij2, hg2, HQ, HSD⟩ := hrel
       by_cases hle2 : i' ≤ j'
       · cases hlv2 : klt dk[j']! dk[a]! with
         | false =>
           have hl := Aside0.mk (HL.out dk j' a false HDS.out (by omega) (by omega) hlv2)
           go_wp2_with (first | ((with_reducible refine (hl.out _ HQ.out).mono ?_); rintro e w2 ⟨rfl, hq⟩; have HQ2 := Aside0.mk hq; clear hq hl))
           go_roundg (j' - 1)
           case measure => omega
           case rel => exact ⟨j' - 1, by go_num, by omega, by omega, Nat.le_refl _, HQ2, ⟨(scanDown_go (fun x => !klt x dk[a]!) dk i' j' hle2 (by omega) (by simp [hlv2])).symm.trans HSD.out⟩⟩
         | true =>
           have HJ2 : Aside0 (j' = scanDown (fun x => !klt x dk[a]!) dk i' j) := ⟨(scanDown_end (fun x => !klt x dk[a]!) dk i' j' (Or.inr (by simp [hlv2]))).symm.trans HSD.out⟩
           have hlt3 := part_scans_lt klt a i j dk (by omega) HI2.out HJ2.out hle2
           have hl := Aside0.mk (HL.out dk j' a true HDS.out (by omega) (by omega) hlv2)
           have hs1 := Aside0.mk (HS.out dk i' j' HDS.out (by omega) (by omega))
           clear HSD
           go_wp2_with (first | ((with_reducible refine (hl.out _ HQ.out).mono ?_); rintro e w2 ⟨rfl, hq⟩; have HQ2 := Aside0.mk hq; clear hq hl) | ((with_reducible refine (hs1.out _ HQ2.out).mono ?_); rintro e w3 ⟨rfl, hq⟩; have HQ3 := Aside0.mk hq; clear hq hs1))
           (try rw [decide_eq_false (show ¬ j' < i' by omega)])
           obtain ⟨I0, hI0⟩ : ∃ I0 : Nat, I0 = i' + 1 := ⟨_, rfl⟩
           obtain ⟨J0, hJ0⟩ : ∃ J0 : Nat, J0 = j' - 1 := ⟨_, rfl⟩
           obtain ⟨D0, hD0⟩ : ∃ D0 : Array Rq, D0 = swp dk i' j' := ⟨_, rfl⟩
           have PF : Aside0 (partition klt d a b pivot = ((partLoop klt a I0 J0 D0).1, false, swp (partLoop klt a I0 J0 D0).2 (partLoop klt a I0 J0 D0).1 a)) := ⟨by
            rw [hI0, hJ0, hD0]; exact part_first_go klt d a b pivot Hi.out Hj.out Hdk.out HI2.out HJ2.out (by omega)⟩
           go_loopg [10, 11] (j' - 1 + 1 - (i' + 1)) (fun g0 vi vj wr => ∃ (i j : Nat) (dk : Array Rq), vi = .int .i64 i ∧ vj = .int .i64 j ∧ a < i ∧ i ≤ j + 1 ∧ j < b ∧ j + 1 - i ≤ g0 ∧ Aside0 (dk.size = N) ∧ Aside0 (QK W0 wr base g cap ok dk) ∧ Aside0 (partLoop klt a i j dk = partLoop klt a I0 J0 D0))
           case atStart => exact ⟨i' + 1, j' - 1, swp dk i' j', by go_num, by go_num, by omega, by omega, by omega, Nat.le_refl _, ⟨by rw [size_swp]; exact HDS.out⟩, HQ3, ⟨by rw [hI0, hJ0, hD0]⟩⟩
           case round =>
            clear hI0 hJ0 hD0 HJ2 HI2 hlt3 HQ HQ2 HQ3 Hi Hj Hdk HDS
            obtain ⟨i, j, dk, rfl, rfl, hai, hij, hjb, hg0, HDS, HQ, HE⟩ := hrel
            go_wp2
            go_loopg [10] (j + 1 - i) (fun g1 vi w1 => ∃ (i' : Nat), vi = .int .i64 i' ∧ i ≤ i' ∧ i' ≤ j + 1 ∧ j + 1 - i' ≤ g1 ∧ Aside0 (QK W0 w1 base g cap ok dk) ∧ Aside0 (scanUp (fun x => klt x dk[a]!) dk j i' = scanUp (fun x => klt x dk[a]!) dk j i))
            case atStart => exact ⟨i, rfl, Nat.le_refl _, hij, Nat.le_refl _, HQ, ⟨rfl⟩⟩
            case round =>
             obtain ⟨i', rfl, hii, hij', hg1, HQ, HSC⟩ := hrel
             by_cases hle : i' ≤ j
             · cases hlv : klt dk[i']! dk[a]! with
               | true =>
                 have hl := Aside0.mk (HL.out dk i' a true HDS.out (by omega) (by omega) hlv)
                 go_wp2_with (first | ((with_reducible refine (hl.out _ HQ.out).mono ?_); rintro e w2 ⟨rfl, hq⟩; have HQ2 := Aside0.mk hq; clear hq hl))
                 go_roundg (j + 1 - (i' + 1))
                 case measure => omega
                 case rel => exact ⟨i' + 1, by go_num, by omega, by omega, Nat.le_refl _, HQ2, ⟨(scanUp_go (fun x => klt x dk[a]!) dk j i' hle hlv).symm.trans HSC.out⟩⟩
               | false =>
                 have hl := Aside0.mk (HL.out dk i' a false HDS.out (by omega) (by omega) hlv)
                 have HI2 : Aside0 (i' = scanUp (fun x => klt x dk[a]!) dk j i) := ⟨(scanUp_end (fun x => klt x dk[a]!) dk j i' (Or.inr hlv)).symm.trans HSC.out⟩
                 clear HSC
                 go_wp2_with (first | ((with_reducible refine (hl.out _ HQ.out).mono ?_); rintro e w2 ⟨rfl, hq⟩; have HQ2 := Aside0.mk hq; clear hq hl))
                 go_loopg [11] j (fun g2 vj w2 => ∃ (j' : Nat), vj = .int .i64 j' ∧ j' ≤ j ∧ i' ≤ j' + 1 ∧ j' ≤ g2 ∧ Aside0 (QK W0 w2 base g cap ok dk) ∧ Aside0 (scanDown (fun x => !klt x dk[a]!) dk i' j' = scanDown (fun x => !klt x dk[a]!) dk i' j))
                 case atStart => exact ⟨j, rfl, Nat.le_refl _, hij', Nat.le_refl _, HQ2, ⟨rfl⟩⟩
                 case round =>
                  obtain ⟨j', rfl, hjj, hij2, hg2, HQ, HSD⟩ := hrel
                  by_cases hle2 : i' ≤ j'
                  · cases hlv2 : klt dk[j']! dk[a]! with
                    | false =>
                      have hl := Aside0.mk (HL.out dk j' a false HDS.out (by omega) (by omega) hlv2)
                      go_wp2_with (first | ((with_reducible refine (hl.out _ HQ.out).mono ?_); rintro e w2 ⟨rfl, hq⟩; have HQ2 := Aside0.mk hq; clear hq hl))
                      go_roundg (j' - 1)
                      case measure => omega
                      case rel => exact ⟨j' - 1, by go_num, by omega, by omega, Nat.le_refl _, HQ2, ⟨(scanDown_go (fun x => !klt x dk[a]!) dk i' j' hle2 (by omega) (by simp [hlv2])).symm.trans HSD.out⟩⟩
                    | true =>
                      have HJ2 : Aside0 (j' = scanDown (fun x => !klt x dk[a]!) dk i' j) := ⟨(scanDown_end (fun x => !klt x dk[a]!) dk i' j' (Or.inr (by simp [hlv2]))).symm.trans HSD.out⟩
                      have hlt3 := part_scans_lt klt a i j dk (by omega) HI2.out HJ2.out hle2
                      have hl := Aside0.mk (HL.out dk j' a true HDS.out (by omega) (by omega) hlv2)
                      have hs1 := Aside0.mk (HS.out dk i' j' HDS.out (by omega) (by omega))
                      clear HSD
                      go_wp2_with (first | ((with_reducible refine (hl.out _ HQ.out).mono ?_); rintro e w2 ⟨rfl, hq⟩; have HQ2 := Aside0.mk hq; clear hq hl) | ((with_reducible refine (hs1.out _ HQ2.out).mono ?_); rintro e w3 ⟨rfl, hq⟩; have HQ3 := Aside0.mk hq; clear hq hs1))
                      go_roundg (j' - 1 + 1 - (i' + 1))
                      case measure => omega
                      case rel => exact ⟨i' + 1, j' - 1, swp dk i' j', by go_num, by go_num, by omega, by omega, by omega, Nat.le_refl _, ⟨by rw [size_swp]; exact HDS.out⟩, HQ3, ⟨by rw [← HE.out]; exact (part_go klt a i j dk HI2.out HJ2.out (by omega)).symm⟩⟩
                  · have HJ2 : Aside0 (j' = scanDown (fun x => !klt x dk[a]!) dk i' j) := ⟨(scanDown_end (fun x => !klt x dk[a]!) dk i' j' (Or.inl hle2)).symm.trans HSD.out⟩
                    clear HSD
                    have hs2 := Aside0.mk (HS.out dk j' a HDS.out (by omega) (by omega))
                    go_wp2_with (first | ((with_reducible refine (hs2.out _ HQ.out).mono ?_); rintro e w3 ⟨rfl, hq⟩; have HQ2 := Aside0.mk hq; clear hq hs2))
                    go_ret2
                    have e := part_break klt a i j dk HI2.out HJ2.out (by omega)
                    rw [PF.out, ← HE.out, e]
                    exact ⟨rfl, HQ2.out⟩
             · have HI2 : Aside0 (i' = scanUp (fun x => klt x dk[a]!) dk j i) := ⟨(scanUp_end (fun x => klt x dk[a]!) dk j i' (Or.inl hle)).symm.trans HSC.out⟩
               clear HSC
               go_wp2
               go_loopg [11] j (fun g2 vj w2 => ∃ (j' : Nat), vj = .int .i64 j' ∧ j' ≤ j ∧ i' ≤ j' + 1 ∧ j' ≤ g2 ∧ Aside0 (QK W0 w2 base g cap ok dk) ∧ Aside0 (scanDown (fun x => !klt x dk[a]!) dk i' j' = scanDown (fun x => !klt x dk[a]!) dk i' j))
               case atStart => exact ⟨j, rfl, Nat.le_refl _, hij', Nat.le_refl _, HQ, ⟨rfl⟩⟩
               case round =>
                obtain ⟨j', rfl, hjj, hij2, hg2, HQ, HSD⟩ := hrel
                by_cases hle2 : i' ≤ j'
                · exfalso; omega
                · have HJ2 : Aside0 (j' = scanDown (fun x => !klt x dk[a]!) dk i' j) := ⟨(scanDown_end (fun x => !klt x dk[a]!) dk i' j' (Or.inl hle2)).symm.trans HSD.out⟩
                  clear HSD
                  have hs2 := Aside0.mk (HS.out dk j' a HDS.out (by omega) (by omega))
                  go_wp2_with (first | ((with_reducible refine (hs2.out _ HQ.out).mono ?_); rintro e w3 ⟨rfl, hq⟩; have HQ2 := Aside0.mk hq; clear hq hs2))
                  go_ret2
                  have e := part_break klt a i j dk HI2.out HJ2.out (by omega)
                  rw [PF.out, ← HE.out, e]
                  exact ⟨rfl, HQ2.out⟩
       · have HJ2 : Aside0 (j' = scanDown (fun x => !klt x dk[a]!) dk i' j) := ⟨(scanDown_end (fun x => !klt x dk[a]!) dk i' j' (Or.inl hle2)).symm.trans HSD.out⟩
         clear HSD
         have hs2 := Aside0.mk (HS.out dk j' a HDS.out (by omega) (by omega))
         go_wp2_with (first | ((with_reducible refine (hs2.out _ HQ.out).mono ?_); rintro e w3 ⟨rfl, hq⟩; have HQ2 := Aside0.mk hq; clear hq hs2))
         go_ret2
         have e := part_first_break klt d a b pivot Hi.out Hj.out Hdk.out HI2.out HJ2.out (by omega)
         rw [e]
         exact ⟨rfl, HQ2.out⟩
  · have HI2 : Aside0 (i' = scanUp (fun x => klt x dk[a]!) dk j i) := ⟨(scanUp_end (fun x => klt x dk[a]!) dk j i' (Or.inl hle)).symm.trans HSC.out⟩
    clear HSC
    go_wp2
    go_loopg [11] j (fun g2 vj w2 => ∃ (j' : Nat), vj = .int .i64 j' ∧ j' ≤ j ∧ i' ≤ j' + 1 ∧ j' ≤ g2 ∧ Aside0 (QK W0 w2 base g cap ok dk) ∧ Aside0 (scanDown (fun x => !klt x dk[a]!) dk i' j' = scanDown (fun x => !klt x dk[a]!) dk i' j))
    case atStart => exact ⟨j, rfl, Nat.le_refl _, hij', Nat.le_refl _, HQ, ⟨rfl⟩⟩
    case round =>
     obtain ⟨j', rfl, hjj, hij2, hg2, HQ, HSD⟩ := hrel
     by_cases hle2 : i' ≤ j'
     · exfalso; omega
     · have HJ2 : Aside0 (j' = scanDown (fun x => !klt x dk[a]!) dk i' j) := ⟨(scanDown_end (fun x => !klt x dk[a]!) dk i' j' (Or.inl hle2)).symm.trans HSD.out⟩
       clear HSD
       have hs2 := Aside0.mk (HS.out dk j' a HDS.out (by omega) (by omega))
       go_wp2_with (first | ((with_reducible refine (hs2.out _ HQ.out).mono ?_); rintro e w3 ⟨rfl, hq⟩; have HQ2 := Aside0.mk hq; clear hq hs2))
       go_ret2
       have e := part_first_break klt d a b pivot Hi.out Hj.out Hdk.out HI2.out HJ2.out (by omega)
       rw [e]
       exact ⟨rfl, HQ2.out⟩
end Go.Proofs.YthfjolafikgpoaaGreatDoor.Hand

/- sort.partialInsertionSort over requirements. -/
import Derived.Test.YthfjolafikgpoaaGreatDoorSDM39
namespace Go.Proofs.YthfjolafikgpoaaGreatDoor.Hand
open Go.RowKit Go.Maps Go.Proofs.YthfjolafikgpoaaGreatDoorW.PrintWords Go.Proofs.YthfjolafikgpoaaGreatDoorW.PrintLast Go.Proofs.YthfjolafikgpoaaGreatDoorW.PrintMore Go.Proofs.YthfjolafikgpoaaGreatDoor.Base
set_option linter.unusedVariables false
set_option linter.unusedSimpArgs false
set_option maxRecDepth 100000
open Go.Sort (ltStr SWO PermIn SortedIn swp size_swp partialInsertionSort partialIns scanSorted shiftDown shiftUp fixDown fixUp)
set_option maxHeartbeats 16000000 in
set_option maxRecDepth 1000000 in
theorem par_q (g cap a b N : Nat) (base : Nat) (ok : Nat → Prop) (d : Array Rq) (hN : d.size = N) (hab : a < b) (hb : b ≤ N) (hsz : N < 4611686018427387904) (W0 w : World) (h : QK W0 w base g cap ok d) :
   Calls Tryz.prog 155 #[.iface 157 (.slice (some ⟨g, 0, none⟩) N cap), .int .i64 a, .int .i64 b] w fun e w' => e = .returned (.bool (partialInsertionSort klt d a b).2) ∧ QK W0 w' base g cap ok (partialInsertionSort klt d a b).1 := by
 have mL : ∀ w, Sem.run Tryz.prog (method 390 157 (.slice (some ⟨g, 0, none⟩) N cap) "Less") w = .ok (254, .slice (some ⟨g, 0, none⟩) N cap) w := fun _ => by kernel_rfl
 have mS : ∀ w, Sem.run Tryz.prog (method 390 157 (.slice (some ⟨g, 0, none⟩) N cap) "Swap") w = .ok (255, .slice (some ⟨g, 0, none⟩) N cap) w := fun _ => by kernel_rfl
 have HL : Aside0 (∀ (X : Array Rq) (j : Nat) (v : Bool), X.size = N → 1 ≤ j → j < N → klt X[j]! X[j - 1]! = v → ∀ W, QK W0 W base g cap ok X → Calls Tryz.prog 254 #[.slice (some ⟨g, 0, none⟩) N cap, .int .i64 (j : Int), .int .i64 ((j : Int) - 1)] W fun e w' => e = .returned (.bool v) ∧ QK W0 w' base g cap ok X) :=
   ⟨fun X j v hX h1 hj hv => less_q (W0 := W0) (base := base) (g := g) (cap := cap) (ok := ok) hX j (j - 1) (j : Int) ((j : Int) - 1) rfl (by omega) hj (by omega) v hv⟩
 have HS : Aside0 (∀ (X : Array Rq) (j : Nat), X.size = N → 1 ≤ j → j < N → ∀ W, QK W0 W base g cap ok X → Calls Tryz.prog 255 #[.slice (some ⟨g, 0, none⟩) N cap, .int .i64 (j : Int), .int .i64 ((j : Int) - 1)] W fun e w' => e = .returned (.tuple #[]) ∧ QK W0 w' base g cap ok (swp X j (j - 1))) :=
   ⟨fun X j hX h1 hj => swap_q (W0 := W0) (base := base) (g := g) (cap := cap) (ok := ok) hX j (j - 1) (j : Int) ((j : Int) - 1) rfl (by omega) hj (by omega)⟩
 go_enter Tryz.func155, Tryz.ntmps155
 go_wp2
 go_loopg [7, 8] 5 (fun g1 vi vs wr => ∃ (i s : Nat) (dk : Array Rq), vi = .int .i64 i ∧ vs = .int .i64 s ∧ s ≤ 5 ∧ 5 - s ≤ g1 ∧ a < i ∧ i ≤ b ∧ Aside0 (dk.size = N) ∧ Aside0 (QK W0 wr base g cap ok dk) ∧ Aside0 (partialIns klt a b (5 - s) i dk = partialIns klt a b 5 (a + 1) d))
 case atStart => exact ⟨a + 1, 0, d, by go_num, rfl, by omega, by omega, by omega, by omega, ⟨hN⟩, ⟨h⟩, ⟨rfl⟩⟩
 case round =>
  clear h hN
  obtain ⟨i, s, dk, rfl, rfl, hs5, hg1, hai, hib, HSK, HQ, HO⟩ := hrel
  by_cases hs : s < 5
  · have hsz5 : (s : Int) < 5 := by omega
    go_wp2
    go_loopg [7] (b - i) (fun g2 vi wr2 => ∃ (kx : Nat), vi = .int .i64 kx ∧ i ≤ kx ∧ kx ≤ b ∧ b - kx ≤ g2 ∧ Aside0 (QK W0 wr2 base g cap ok dk) ∧ Aside0 (scanSorted klt dk b kx = scanSorted klt dk b i))
    case atStart => exact ⟨i, rfl, Nat.le_refl _, hib, Nat.le_refl _, HQ, ⟨rfl⟩⟩
    case round =>
     obtain ⟨kx, rfl, hik, hkb, hg2, HQ, HSc⟩ := hrel
     by_cases hkb' : kx < b
     · have hkz : (kx : Int) < (b : Int) := by omega
       cases hlv : klt dk[kx]! dk[kx - 1]! with
       | false =>
         have hl := Aside0.mk (HL.out dk kx false HSK.out (by omega) (by omega) hlv)
         go_wp2_with (first | ((with_reducible refine (hl.out _ HQ.out).mono ?_); rintro e w2 ⟨rfl, hq⟩; have HQ2 := Aside0.mk hq; clear hq hl))
         go_roundg (b - (kx + 1))
         case measure => omega
         case rel => exact ⟨kx + 1, by go_num, by omega, by omega, Nat.le_refl _, HQ2, ⟨by rw [← HSc.out, scanSorted_go klt dk b kx hkb' hlv] <;> rfl⟩⟩
       | true =>
         have hl := Aside0.mk (HL.out dk kx true HSK.out (by omega) (by omega) hlv)
         have HK : Aside0 (scanSorted klt dk b i = kx) := ⟨by rw [← HSc.out, scanSorted_stop klt dk b kx (Or.inr hlv)]⟩
         have hkne : ((kx : Int) == (b : Int)) = false := beq_eq_false_iff_ne.2 (by omega)
         by_cases h50 : b - a < 50
         · have h50z : (b : Int) - (a : Int) < 50 := by omega
           go_wp2_with (first | ((with_reducible refine (hl.out _ HQ.out).mono ?_); rintro e w2 ⟨rfl, hq⟩; have HQ2 := Aside0.mk hq; clear hq hl))
           have hv : partialInsertionSort klt d a b = (dk, false) := by
            unfold partialInsertionSort
            rw [← HO.out, pi_short klt a b s i dk hs (by rw [HK.out]; omega) h50]
           rw [hv]
           go_ret
           exact ⟨rfl, HQ2.out⟩
         · have h50z : ¬ ((b : Int) - (a : Int) < 50) := by omega
           have hs1 := Aside0.mk (HS.out dk kx HSK.out (by omega) (by omega))
           have hX1 : (swp dk kx (kx - 1)).size = N := by rw [size_swp]; exact HSK.out
           by_cases hka : kx - a ≥ 2
           ·
             have hkaz : (2 : Int) ≤ (kx : Int) - (a : Int) := by omega
             go_wp2_with (first | ((with_reducible refine (hl.out _ HQ.out).mono ?_); rintro e w2 ⟨rfl, hq⟩; have HQ2 := Aside0.mk hq; clear hq hl) | ((with_reducible refine (hs1.out _ HQ2.out).mono ?_); rintro e w3 ⟨rfl, hq⟩; have HQ3 := Aside0.mk hq; clear hq hs1))
             go_loopg [9] (kx - 1) (fun g3 vj wr3 => ∃ (j : Nat) (dj : Array Rq), vj = .int .i64 j ∧ j ≤ kx - 1 ∧ j ≤ g3 ∧ Aside0 (dj.size = N) ∧ Aside0 (QK W0 wr3 base g cap ok dj) ∧ Aside0 (shiftDown klt j dj = shiftDown klt (kx - 1) (swp dk kx (kx - 1))))
             case atStart => exact ⟨kx - 1, (swp dk kx (kx - 1)), by congr 1; omega, Nat.le_refl _, Nat.le_refl _, ⟨hX1⟩, HQ3, ⟨rfl⟩⟩
             case round =>
              obtain ⟨j, dj, rfl, hjk, hg3, HSJ, HQ, HDn⟩ := hrel
              by_cases hj1 : 1 ≤ j
              · have hj1z : (1 : Int) ≤ (j : Int) := by omega
                cases hlv2 : klt dj[j]! dj[j - 1]! with
                | true =>
                  have hl2 := Aside0.mk (HL.out dj j true HSJ.out hj1 (by omega) hlv2)
                  have hs2 := Aside0.mk (HS.out dj j HSJ.out hj1 (by omega))
                  go_wp2_with (first | ((with_reducible refine (hl2.out _ HQ.out).mono ?_); rintro e w2 ⟨rfl, hq⟩; have HQ2 := Aside0.mk hq; clear hq hl2) | ((with_reducible refine (hs2.out _ HQ2.out).mono ?_); rintro e w3 ⟨rfl, hq⟩; have HQ3 := Aside0.mk hq; clear hq hs2))
                  go_roundg (j - 1)
                  case measure => omega
                  case rel => exact ⟨j - 1, swp dj j (j - 1), by congr 1; omega, by omega, Nat.le_refl _, ⟨by rw [size_swp]; exact HSJ.out⟩, HQ3, ⟨by rw [← HDn.out, shiftDown_go klt j dj hj1 hlv2] <;> rfl⟩⟩
                | false =>
                  have hl2 := Aside0.mk (HL.out dj j false HSJ.out hj1 (by omega) hlv2)
                  have HD : Aside0 (fixDown klt a kx (swp dk kx (kx - 1)) = dj) := ⟨by unfold fixDown; rw [if_pos hka, ← HDn.out, shiftDown_stop klt j dj (Or.inr hlv2)]⟩
                  by_cases hbk : b - kx ≥ 2
                  ·
                    have hbkz : (2 : Int) ≤ (b : Int) - (kx : Int) := by omega
                    go_wp2_with (first | ((with_reducible refine (hl2.out _ HQ.out).mono ?_); rintro e w2 ⟨rfl, hq⟩; have HQ2 := Aside0.mk hq; clear hq hl2))
                    go_loopg [10] (b - (kx + 1)) (fun g4 vj wr4 => ∃ (ju : Nat) (du : Array Rq), vj = .int .i64 ju ∧ kx + 1 ≤ ju ∧ ju ≤ b ∧ b - ju ≤ g4 ∧ Aside0 (du.size = N) ∧ Aside0 (QK W0 wr4 base g cap ok du) ∧ Aside0 (shiftUp klt b ju du = shiftUp klt b (kx + 1) dj))
                    case atStart => exact ⟨kx + 1, dj, by go_num, Nat.le_refl _, by omega, Nat.le_refl _, HSJ, HQ2, ⟨rfl⟩⟩
                    case round =>
                     obtain ⟨ju, du, rfl, hkj, hjb, hg4, HSU, HQ, HU⟩ := hrel
                     by_cases hjb' : ju < b
                     · have hjz : (ju : Int) < (b : Int) := by omega
                       cases hlv3 : klt du[ju]! du[ju - 1]! with
                       | true =>
                         have hl3 := Aside0.mk (HL.out du ju true HSU.out (by omega) (by omega) hlv3)
                         have hs3 := Aside0.mk (HS.out du ju HSU.out (by omega) (by omega))
                         go_wp2_with (first | ((with_reducible refine (hl3.out _ HQ.out).mono ?_); rintro e w2 ⟨rfl, hq⟩; have HQ2 := Aside0.mk hq; clear hq hl3) | ((with_reducible refine (hs3.out _ HQ2.out).mono ?_); rintro e w3 ⟨rfl, hq⟩; have HQ3 := Aside0.mk hq; clear hq hs3))
                         go_roundg (b - (ju + 1))
                         case measure => omega
                         case rel => exact ⟨ju + 1, swp du ju (ju - 1), by go_num, by omega, by omega, Nat.le_refl _, ⟨by rw [size_swp]; exact HSU.out⟩, HQ3, ⟨by rw [← HU.out, shiftUp_go klt b ju du hjb' hlv3] <;> rfl⟩⟩
                       | false =>
                         have hl3 := Aside0.mk (HL.out du ju false HSU.out (by omega) (by omega) hlv3)
                         go_wp2_with (first | ((with_reducible refine (hl3.out _ HQ.out).mono ?_); rintro e w2 ⟨rfl, hq⟩; have HQ2 := Aside0.mk hq; clear hq hl3))
                         go_roundg (5 - (s + 1))
                         case measure => omega
                         case rel => exact ⟨kx, s + 1, du, rfl, by go_num, by omega, Nat.le_refl _, by omega, by omega, HSU, HQ2, ⟨by rw [← HO.out, pi_go klt a b s i kx dk hs HK.out (by omega) h50, HD.out, show fixUp klt b kx dj = du from by unfold fixUp; rw [if_pos hbk, ← HU.out, shiftUp_stop klt b ju du (Or.inr hlv3)]] <;> rfl⟩⟩
                     · have hjz : ¬ (ju : Int) < (b : Int) := by omega
                       go_wp2
                       go_roundg (5 - (s + 1))
                       case measure => omega
                       case rel => exact ⟨kx, s + 1, du, rfl, by go_num, by omega, Nat.le_refl _, by omega, by omega, HSU, HQ, ⟨by rw [← HO.out, pi_go klt a b s i kx dk hs HK.out (by omega) h50, HD.out, show fixUp klt b kx dj = du from by unfold fixUp; rw [if_pos hbk, ← HU.out, shiftUp_stop klt b ju du (Or.inl hjb')]] <;> rfl⟩⟩
                  · have hbkz : ¬ (2 : Int) ≤ (b : Int) - (kx : Int) := by omega
                    go_wp2_with (first | ((with_reducible refine (hl2.out _ HQ.out).mono ?_); rintro e w2 ⟨rfl, hq⟩; have HQ2 := Aside0.mk hq; clear hq hl2))
                    go_roundg (5 - (s + 1))
                    case measure => omega
                    case rel => exact ⟨kx, s + 1, dj, rfl, by go_num, by omega, Nat.le_refl _, by omega, by omega, HSJ, HQ2, ⟨by rw [← HO.out, pi_go klt a b s i kx dk hs HK.out (by omega) h50, HD.out, show fixUp klt b kx dj = dj from by unfold fixUp; rw [if_neg hbk]] <;> rfl⟩⟩
              · have hj1z : ¬ (1 : Int) ≤ (j : Int) := by omega
                have HD : Aside0 (fixDown klt a kx (swp dk kx (kx - 1)) = dj) := ⟨by unfold fixDown; rw [if_pos hka, ← HDn.out, shiftDown_stop klt j dj (Or.inl (by omega))]⟩
                by_cases hbk : b - kx ≥ 2
                ·
                  have hbkz : (2 : Int) ≤ (b : Int) - (kx : Int) := by omega
                  go_wp2
                  go_loopg [10] (b - (kx + 1)) (fun g4 vj wr4 => ∃ (ju : Nat) (du : Array Rq), vj = .int .i64 ju ∧ kx + 1 ≤ ju ∧ ju ≤ b ∧ b - ju ≤ g4 ∧ Aside0 (du.size = N) ∧ Aside0 (QK W0 wr4 base g cap ok du) ∧ Aside0 (shiftUp klt b ju du = shiftUp klt b (kx + 1) dj))
                  case atStart => exact ⟨kx + 1, dj, by go_num, Nat.le_refl _, by omega, Nat.le_refl _, HSJ, HQ, ⟨rfl⟩⟩
                  case round =>
                   obtain ⟨ju, du, rfl, hkj, hjb, hg4, HSU, HQ, HU⟩ := hrel
                   by_cases hjb' : ju < b
                   · have hjz : (ju : Int) < (b : Int) := by omega
                     cases hlv3 : klt du[ju]! du[ju - 1]! with
                     | true =>
                       have hl3 := Aside0.mk (HL.out du ju true HSU.out (by omega) (by omega) hlv3)
                       have hs3 := Aside0.mk (HS.out du ju HSU.out (by omega) (by omega))
                       go_wp2_with (first | ((with_reducible refine (hl3.out _ HQ.out).mono ?_); rintro e w2 ⟨rfl, hq⟩; have HQ2 := Aside0.mk hq; clear hq hl3) | ((with_reducible refine (hs3.out _ HQ2.out).mono ?_); rintro e w3 ⟨rfl, hq⟩; have HQ3 := Aside0.mk hq; clear hq hs3))
                       go_roundg (b - (ju + 1))
                       case measure => omega
                       case rel => exact ⟨ju + 1, swp du ju (ju - 1), by go_num, by omega, by omega, Nat.le_refl _, ⟨by rw [size_swp]; exact HSU.out⟩, HQ3, ⟨by rw [← HU.out, shiftUp_go klt b ju du hjb' hlv3] <;> rfl⟩⟩
                     | false =>
                       have hl3 := Aside0.mk (HL.out du ju false HSU.out (by omega) (by omega) hlv3)
                       go_wp2_with (first | ((with_reducible refine (hl3.out _ HQ.out).mono ?_); rintro e w2 ⟨rfl, hq⟩; have HQ2 := Aside0.mk hq; clear hq hl3))
                       go_roundg (5 - (s + 1))
                       case measure => omega
                       case rel => exact ⟨kx, s + 1, du, rfl, by go_num, by omega, Nat.le_refl _, by omega, by omega, HSU, HQ2, ⟨by rw [← HO.out, pi_go klt a b s i kx dk hs HK.out (by omega) h50, HD.out, show fixUp klt b kx dj = du from by unfold fixUp; rw [if_pos hbk, ← HU.out, shiftUp_stop klt b ju du (Or.inr hlv3)]] <;> rfl⟩⟩
                   · have hjz : ¬ (ju : Int) < (b : Int) := by omega
                     go_wp2
                     go_roundg (5 - (s + 1))
                     case measure => omega
                     case rel => exact ⟨kx, s + 1, du, rfl, by go_num, by omega, Nat.le_refl _, by omega, by omega, HSU, HQ, ⟨by rw [← HO.out, pi_go klt a b s i kx dk hs HK.out (by omega) h50, HD.out, show fixUp klt b kx dj = du from by unfold fixUp; rw [if_pos hbk, ← HU.out, shiftUp_stop klt b ju du (Or.inl hjb')]] <;> rfl⟩⟩
                · have hbkz : ¬ (2 : Int) ≤ (b : Int) - (kx : Int) := by omega
                  go_wp2
                  go_roundg (5 - (s + 1))
                  case measure => omega
                  case rel => exact ⟨kx, s + 1, dj, rfl, by go_num, by omega, Nat.le_refl _, by omega, by omega, HSJ, HQ, ⟨by rw [← HO.out, pi_go klt a b s i kx dk hs HK.out (by omega) h50, HD.out, show fixUp klt b kx dj = dj from by unfold fixUp; rw [if_neg hbk]] <;> rfl⟩⟩
           · have hkaz : ¬ (2 : Int) ≤ (kx : Int) - (a : Int) := by omega
             have HD : Aside0 (fixDown klt a kx (swp dk kx (kx - 1)) = (swp dk kx (kx - 1))) := ⟨by unfold fixDown; rw [if_neg hka]⟩
             by_cases hbk : b - kx ≥ 2
             ·
               have hbkz : (2 : Int) ≤ (b : Int) - (kx : Int) := by omega
               go_wp2_with (first | ((with_reducible refine (hl.out _ HQ.out).mono ?_); rintro e w2 ⟨rfl, hq⟩; have HQ2 := Aside0.mk hq; clear hq hl) | ((with_reducible refine (hs1.out _ HQ2.out).mono ?_); rintro e w3 ⟨rfl, hq⟩; have HQ3 := Aside0.mk hq; clear hq hs1))
               go_loopg [10] (b - (kx + 1)) (fun g4 vj wr4 => ∃ (ju : Nat) (du : Array Rq), vj = .int .i64 ju ∧ kx + 1 ≤ ju ∧ ju ≤ b ∧ b - ju ≤ g4 ∧ Aside0 (du.size = N) ∧ Aside0 (QK W0 wr4 base g cap ok du) ∧ Aside0 (shiftUp klt b ju du = shiftUp klt b (kx + 1) (swp dk kx (kx - 1))))
               case atStart => exact ⟨kx + 1, (swp dk kx (kx - 1)), by go_num, Nat.le_refl _, by omega, Nat.le_refl _, ⟨hX1⟩, HQ3, ⟨rfl⟩⟩
               case round =>
                obtain ⟨ju, du, rfl, hkj, hjb, hg4, HSU, HQ, HU⟩ := hrel
                by_cases hjb' : ju < b
                · have hjz : (ju : Int) < (b : Int) := by omega
                  cases hlv3 : klt du[ju]! du[ju - 1]! with
                  | true =>
                    have hl3 := Aside0.mk (HL.out du ju true HSU.out (by omega) (by omega) hlv3)
                    have hs3 := Aside0.mk (HS.out du ju HSU.out (by omega) (by omega))
                    go_wp2_with (first | ((with_reducible refine (hl3.out _ HQ.out).mono ?_); rintro e w2 ⟨rfl, hq⟩; have HQ2 := Aside0.mk hq; clear hq hl3) | ((with_reducible refine (hs3.out _ HQ2.out).mono ?_); rintro e w3 ⟨rfl, hq⟩; have HQ3 := Aside0.mk hq; clear hq hs3))
                    go_roundg (b - (ju + 1))
                    case measure => omega
                    case rel => exact ⟨ju + 1, swp du ju (ju - 1), by go_num, by omega, by omega, Nat.le_refl _, ⟨by rw [size_swp]; exact HSU.out⟩, HQ3, ⟨by rw [← HU.out, shiftUp_go klt b ju du hjb' hlv3] <;> rfl⟩⟩
                  | false =>
                    have hl3 := Aside0.mk (HL.out du ju false HSU.out (by omega) (by omega) hlv3)
                    go_wp2_with (first | ((with_reducible refine (hl3.out _ HQ.out).mono ?_); rintro e w2 ⟨rfl, hq⟩; have HQ2 := Aside0.mk hq; clear hq hl3))
                    go_roundg (5 - (s + 1))
                    case measure => omega
                    case rel => exact ⟨kx, s + 1, du, rfl, by go_num, by omega, Nat.le_refl _, by omega, by omega, HSU, HQ2, ⟨by rw [← HO.out, pi_go klt a b s i kx dk hs HK.out (by omega) h50, HD.out, show fixUp klt b kx (swp dk kx (kx - 1)) = du from by unfold fixUp; rw [if_pos hbk, ← HU.out, shiftUp_stop klt b ju du (Or.inr hlv3)]] <;> rfl⟩⟩
                · have hjz : ¬ (ju : Int) < (b : Int) := by omega
                  go_wp2
                  go_roundg (5 - (s + 1))
                  case measure => omega
                  case rel => exact ⟨kx, s + 1, du, rfl, by go_num, by omega, Nat.le_refl _, by omega, by omega, HSU, HQ, ⟨by rw [← HO.out, pi_go klt a b s i kx dk hs HK.out (by omega) h50, HD.out, show fixUp klt b kx (swp dk kx (kx - 1)) = du from by unfold fixUp; rw [if_pos hbk, ← HU.out, shiftUp_stop klt b ju du (Or.inl hjb')]] <;> rfl⟩⟩
             ·
               exfalso; omega
     ·
       obtain rfl : kx = b := by omega
       have hkz : ¬ (kx : Int) < (kx : Int) := by omega
       go_wp2
       have hv : partialInsertionSort klt d a kx = (dk, true) := by
        unfold partialInsertionSort
        rw [← HO.out, pi_true klt a kx s i dk hs (by rw [← HSc.out, scanSorted_stop klt dk kx kx (Or.inl (by omega))])]
       rw [hv]
       go_ret
       exact ⟨rfl, HQ.out⟩
  ·
    obtain rfl : s = 5 := by omega
    go_wp2
    have hv : partialInsertionSort klt d a b = (dk, false) := by
     unfold partialInsertionSort
     rw [← HO.out, pi_end]
    rw [hv]
    go_ret
    exact ⟨rfl, HQ.out⟩
end Go.Proofs.YthfjolafikgpoaaGreatDoor.Hand

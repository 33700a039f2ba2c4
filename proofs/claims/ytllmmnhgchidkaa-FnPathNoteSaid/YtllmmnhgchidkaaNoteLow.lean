/- zzLower and FoLower: capital letters made small. -/
import Derived.Test.YtllmmnhgchidkaaNotePure
namespace Go.Proofs.Ytllmmnhgchidkaa.Hand
open Go.RowKit Go.Proofs.YtllmmnhgchidkaaW.PrintWords Go.Proofs.YtllmmnhgchidkaaW.PrintLast Go.Proofs.YtllmmnhgchidkaaW.PrintMore Go.Proofs.Ytllmmnhgchidkaa.Base
set_option linter.unusedVariables false
set_option linter.unusedSimpArgs false
set_option maxRecDepth 100000
def lowI (x : Int) : Int := if 65 ≤ x ∧ x ≤ 90 then x + 32 else x
def lowAt (s : ByteArray) (j t : Nat) : Int := if t < j then lowI ((s.data.toList.getD t 0).toNat : Int) else ((s.data.toList.getD t 0).toNat : Int)
/-- n cells of block g hold the bytes f. -/
def Row8 (w : World) (g n : Nat) (f : Nat → Int) : Prop := ∀ t, t < n → w.cell? ⟨g, t, none⟩ = some (.int .u8 (f t)) ∧ w.frozen? ⟨g, t, none⟩ = false
theorem Row8.put {w : World} {g n j : Nat} {f : Nat → Int} (h : Row8 w g n f) (hj : j < n) (x : Int) (f' : Nat → Int) (h1 : f' j = x) (h2 : ∀ t, t ≠ j → f' t = f t) : Row8 (w.setCell ⟨g, j, none⟩ (.int .u8 x)) g n f' := by
  intro t ht
  refine ⟨?_, by rw [World.frozen?_setCell]; exact (h t ht).2⟩
  by_cases e : t = j
  · subst e; rw [World.cell?_setCell_same (h := (h t ht).1), h1]
  · rw [World.cell?_setCell_other (h := (show (⟨g, j, none⟩ : Addr) ≠ ⟨g, t, none⟩ from fun e2 => e (by simpa using e2.symm))), h2 t e]; exact (h t ht).1
theorem Row8.made (w : World) (e : TypeId) (s : ByteArray) : Row8 (Lib.bytesWorld w e s) w.heap.size s.size (lowAt s 0) := by
  intro t ht
  refine ⟨by rw [Lib.bytesWorld_cell w e s t ht]; simp [lowAt], ?_⟩
  have h := Lib.bytesWorld_at_new w e s
  have hc : s.size ≤ (Lib.bytesCells w e s).size := by
    have h2 := Lib.bytesWorld_cell w e s (s.size - 1) (by omega)
    unfold World.cell? at h2
    simp [h] at h2
    by_cases h3 : s.size - 1 < (Lib.bytesCells w e s).size
    · omega
    · rw [Array.getElem?_eq_none (by omega)] at h2; simp at h2
  unfold World.frozen?
  simp [h]
  omega
theorem lowB_toNat (c : UInt8) : (((lowB c).toNat : Nat) : Int) = lowI (c.toNat : Int) := by
  unfold lowB lowI
  by_cases h : 65 ≤ c.toNat ∧ c.toNat ≤ 90
  · rw [if_pos h, if_pos (by omega), UInt8.toNat_add]
    have : (32 : UInt8).toNat = 32 := rfl
    rw [this]; omega
  · rw [if_neg h, if_neg (by omega)]
theorem reads_low {w : World} {g : Nat} {s : ByteArray} (hs : s.size ≤ 1000) (h : Row8 w g s.size (lowAt s s.size)) : ReadsInt w .u8 (some ⟨g, 0, none⟩) s.size ((lowL s.data.toList).map fun b => (b.toNat : Int)) := by
  have hl : s.data.toList.length = s.size := by rw [← Lib.size_eq]
  refine ⟨by simp [lowL, hl], by omega, fun _ => ⟨_, rfl, fun j hj => ?_⟩⟩
  rw [add_at, Nat.zero_add, (h j hj).1, lowAt, if_pos hj]
  have hj' : j < s.data.toList.length := by omega
  rw [List.getD_eq_getElem?_getD, List.getD_eq_getElem?_getD, List.getElem?_map, lowL, List.getElem?_map, List.getElem?_eq_getElem hj']
  simp [lowB_toNat]
theorem str_low (l : L) : strOfNums (l.map fun b => (b.toNat : Int)) = mk l := by
  unfold strOfNums mk
  rw [List.map_map, show ((fun n : Int => UInt8.ofNat n.toNat) ∘ fun b : UInt8 => (b.toNat : Int)) = id from funext fun b => by simp, List.map_id]
set_option maxHeartbeats 4000000 in
theorem zzLower_calls (s : ByteArray) (hs : s.size ≤ 1000) (w : World) :
    Calls Try.prog 72 #[.string s] w fun e w' => e = .returned (.string (mk (lowL s.data.toList))) ∧ Below w.heap.size w w' := by
  have kb := fun W => print_bytes (P := Try.prog) 9 90 5 Try.underlying9 Try.underlying90 Try.underlying5 s W
  go_enter Try.func72, Try.ntmps72
  go_wp2
  clear kb
  go_loopg [4, 5, 10] (s.size) (fun g v4 v5 v10 w' => ∃ j : Nat, v10 = .int .i64 j ∧ Aside0 (g + j = s.size) ∧ Aside0 (Row8 w' w.heap.size s.size (lowAt s j)) ∧ Aside0 (Below w.heap.size w w'))
  case atStart => exact ⟨0, rfl, ⟨by omega⟩, ⟨Row8.made w 5 s⟩, ⟨bytes_below (Below.refl _ _) (Nat.le_refl _) 5 s⟩⟩
  case round =>
    obtain ⟨j, rfl, HJ, HR, HB⟩ := hrel
    have hj : j ≤ s.size := by have := HJ.out; omega
    by_cases hjl : j < s.size
    · obtain ⟨hc, hf⟩ := HR.out j hjl
      obtain ⟨x, hx⟩ : ∃ x : Int, ((s.data.toList.getD j 0).toNat : Int) = x := ⟨_, rfl⟩
      have hx0 : 0 ≤ x ∧ x ≤ 255 := by have := (s.data.toList.getD j 0).toNat_lt; omega
      have hval : lowAt s j j = x := by unfold lowAt; rw [if_neg (by omega), hx]
      rw [hval] at hc
      have HX := Aside0.mk hx
      have hnext : ∀ v : Int, v = lowI x → ∀ t, t ≠ j → lowAt s (j + 1) t = lowAt s j t := fun v _ t ht => by unfold lowAt; by_cases h : t < j; rw [if_pos (by omega), if_pos h]; rw [if_neg (by omega), if_neg h]
      have hat : lowAt s (j + 1) j = lowI x := by unfold lowAt; rw [if_pos (by omega), hx]
      by_cases hcap : 65 ≤ x ∧ x ≤ 90
      · have hlow : lowI x = x + 32 := by unfold lowI; rw [if_pos hcap]
        have HP := Aside0.mk (HR.out.put hjl (x + 32) (lowAt s (j + 1)) (hat.trans hlow) (hnext _ rfl))
        have HBP := Aside0.mk (HB.out.setCell (p := ⟨w.heap.size, j, none⟩) (Nat.le_refl _) (.int .u8 (x + 32)))
        obtain ⟨ha1, ha2⟩ := hcap
        have hw1 : IntKind.u8.wrap (IntKind.u8.wrap (x + 97) - 65) = x + 32 := by rw [IntKind.wrap_u8, IntKind.wrap_u8]; omega
        have hw2 : IntKind.u8.wrap (x + 97) = x + 97 := by rw [IntKind.wrap_u8]; omega
        have hw3 : IntKind.u8.wrap (x + 97 - 65) = x + 32 := by rw [IntKind.wrap_u8]; omega
        have hw4 : IntKind.u8.wrap (x + 32) = x + 32 := by rw [IntKind.wrap_u8]; omega
        clear hval hx hnext hat hlow hx0
        go_wp2
        go_roundg (gk - 1)
        case measure => have := HJ.out; omega
        case rel => exact ⟨j + 1, by go_num, ⟨by have := HJ.out; omega⟩, HP, HBP⟩
      · have hlow : lowI x = x := by unfold lowI; rw [if_neg hcap]
        have HP : Aside0 (Row8 wr w.heap.size s.size (lowAt s (j + 1))) := ⟨fun t ht => by
          by_cases e : t = j
          · subst e; rw [hat, hlow]; exact ⟨hc, (HR.out t ht).2⟩
          · rw [hnext _ rfl t e]; exact HR.out t ht⟩
        clear hval hx hnext hat hlow
        by_cases h1 : 65 ≤ x
        · have h2 : ¬ x ≤ 90 := fun h => hcap ⟨h1, h⟩
          clear hcap
          go_wp2
          go_roundg (gk - 1)
          case measure => have := HJ.out; omega
          case rel => exact ⟨j + 1, by go_num, ⟨by have := HJ.out; omega⟩, HP, HB⟩
        · clear hcap
          go_wp2
          go_roundg (gk - 1)
          case measure => have := HJ.out; omega
          case rel => exact ⟨j + 1, by go_num, ⟨by have := HJ.out; omega⟩, HP, HB⟩
    · obtain rfl : j = s.size := by omega
      have hst := string_of_reads (P := Try.prog) (src := 90) (dst := 9) (c := grownCap w s.size 0 5) Try.underlying90 Try.underlying5 Try.underlying9 (reads_low hs HR.out)
      rw [str_low] at hst
      clear HR
      go_wp2
      go_ret
      exact ⟨rfl, HB.out⟩
set_option maxHeartbeats 4000000 in
theorem FoLower_calls (s : ByteArray) (hs : s.size ≤ 1000) (w : World) :
    Calls Try.prog 58 #[.string s] w fun e w' => e = .returned (.string (mk (lowL s.data.toList))) ∧ Below w.heap.size w w' := by
  have kb := fun W => print_bytes (P := Try.prog) 9 90 5 Try.underlying9 Try.underlying90 Try.underlying5 s W
  go_enter Try.func58, Try.ntmps58
  go_wp2
  clear kb
  go_loopg [4, 5, 10] (s.size) (fun g v4 v5 v10 w' => ∃ j : Nat, v10 = .int .i64 j ∧ Aside0 (g + j = s.size) ∧ Aside0 (Row8 w' w.heap.size s.size (lowAt s j)) ∧ Aside0 (Below w.heap.size w w'))
  case atStart => exact ⟨0, rfl, ⟨by omega⟩, ⟨Row8.made w 5 s⟩, ⟨bytes_below (Below.refl _ _) (Nat.le_refl _) 5 s⟩⟩
  case round =>
    obtain ⟨j, rfl, HJ, HR, HB⟩ := hrel
    have hj : j ≤ s.size := by have := HJ.out; omega
    by_cases hjl : j < s.size
    · obtain ⟨hc, hf⟩ := HR.out j hjl
      obtain ⟨x, hx⟩ : ∃ x : Int, ((s.data.toList.getD j 0).toNat : Int) = x := ⟨_, rfl⟩
      have hx0 : 0 ≤ x ∧ x ≤ 255 := by have := (s.data.toList.getD j 0).toNat_lt; omega
      have hval : lowAt s j j = x := by unfold lowAt; rw [if_neg (by omega), hx]
      rw [hval] at hc
      have HX := Aside0.mk hx
      have hnext : ∀ v : Int, v = lowI x → ∀ t, t ≠ j → lowAt s (j + 1) t = lowAt s j t := fun v _ t ht => by unfold lowAt; by_cases h : t < j; rw [if_pos (by omega), if_pos h]; rw [if_neg (by omega), if_neg h]
      have hat : lowAt s (j + 1) j = lowI x := by unfold lowAt; rw [if_pos (by omega), hx]
      by_cases hcap : 65 ≤ x ∧ x ≤ 90
      · have hlow : lowI x = x + 32 := by unfold lowI; rw [if_pos hcap]
        have HP := Aside0.mk (HR.out.put hjl (x + 32) (lowAt s (j + 1)) (hat.trans hlow) (hnext _ rfl))
        have HBP := Aside0.mk (HB.out.setCell (p := ⟨w.heap.size, j, none⟩) (Nat.le_refl _) (.int .u8 (x + 32)))
        obtain ⟨ha1, ha2⟩ := hcap
        have hw1 : IntKind.u8.wrap (IntKind.u8.wrap (x + 97) - 65) = x + 32 := by rw [IntKind.wrap_u8, IntKind.wrap_u8]; omega
        have hw2 : IntKind.u8.wrap (x + 97) = x + 97 := by rw [IntKind.wrap_u8]; omega
        have hw3 : IntKind.u8.wrap (x + 97 - 65) = x + 32 := by rw [IntKind.wrap_u8]; omega
        have hw4 : IntKind.u8.wrap (x + 32) = x + 32 := by rw [IntKind.wrap_u8]; omega
        clear hval hx hnext hat hlow hx0
        go_wp2
        go_roundg (gk - 1)
        case measure => have := HJ.out; omega
        case rel => exact ⟨j + 1, by go_num, ⟨by have := HJ.out; omega⟩, HP, HBP⟩
      · have hlow : lowI x = x := by unfold lowI; rw [if_neg hcap]
        have HP : Aside0 (Row8 wr w.heap.size s.size (lowAt s (j + 1))) := ⟨fun t ht => by
          by_cases e : t = j
          · subst e; rw [hat, hlow]; exact ⟨hc, (HR.out t ht).2⟩
          · rw [hnext _ rfl t e]; exact HR.out t ht⟩
        clear hval hx hnext hat hlow
        by_cases h1 : 65 ≤ x
        · have h2 : ¬ x ≤ 90 := fun h => hcap ⟨h1, h⟩
          clear hcap
          go_wp2
          go_roundg (gk - 1)
          case measure => have := HJ.out; omega
          case rel => exact ⟨j + 1, by go_num, ⟨by have := HJ.out; omega⟩, HP, HB⟩
        · clear hcap
          go_wp2
          go_roundg (gk - 1)
          case measure => have := HJ.out; omega
          case rel => exact ⟨j + 1, by go_num, ⟨by have := HJ.out; omega⟩, HP, HB⟩
    · obtain rfl : j = s.size := by omega
      have hst := string_of_reads (P := Try.prog) (src := 90) (dst := 9) (c := grownCap w s.size 0 5) Try.underlying90 Try.underlying5 Try.underlying9 (reads_low hs HR.out)
      rw [str_low] at hst
      clear HR
      go_wp2
      go_ret
      exact ⟨rfl, HB.out⟩
end Go.Proofs.Ytllmmnhgchidkaa.Hand

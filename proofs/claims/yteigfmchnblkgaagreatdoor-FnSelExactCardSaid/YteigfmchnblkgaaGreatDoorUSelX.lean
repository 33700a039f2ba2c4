/- impl.SelectorExact: the value that a selector asks of a label. -/
import Derived.Test.YteigfmchnblkgaaGreatDoorUGSelB
import Derived.Test.YteigfmchnblkgaaGreatDoorUSpWords
namespace Go.Proofs.YteigfmchnblkgaaGreatDoor.Hand
open Go.RowKit Go.Maps Go.Proofs.YteigfmchnblkgaaGreatDoorW.PrintWords Go.Proofs.YteigfmchnblkgaaGreatDoorW.PrintLast Go.Proofs.YteigfmchnblkgaaGreatDoorW.PrintMore Go.Proofs.YteigfmchnblkgaaGreatDoor.Base
set_option linter.unusedVariables false
set_option linter.unusedSimpArgs false
set_option maxRecDepth 100000
abbrev isEq3 (op : L) : Bool := op == [61] || (op == [61, 61] || op == [105, 110])
/-- The value that requirements ask of a label, if it is just one. -/
def exactR : List Rq → L → Option L
  | [], _ => none
  | r :: l, k => if r.1 = k then (if isEq3 r.2.1 then (match r.2.2 with | [x] => some x | _ => none) else none) else exactR l k
theorem exact_drop {l : List Rq} {i : Nat} {r : Rq} (h : l[i]? = some r) (k : L) : exactR (l.drop i) k = if r.1 = k then (if isEq3 r.2.1 then (match r.2.2 with | [x] => some x | _ => none) else none) else exactR (l.drop (i + 1)) k := by
  obtain ⟨hi, e⟩ := List.getElem?_eq_some_iff.1 h
  rw [List.drop_eq_getElem_cons hi, e]
  rfl
def exV (r : Option L) : Value := match r with | some v => .tuple #[.string (mk v), .bool true] | none => .tuple #[.string ⟨#[]⟩, .bool false]
set_option maxHeartbeats 8000000 in
theorem ReqX_calls (l : List Rq) (n : Nat) (hn : l.length = n) (hl : n ≤ 100000) (lab : ByteArray) (A : Option Addr) (c : Nat) (w : World) (hsp : ∀ ad, A = some ad → ad.spot = none) (hC : KQ.C w A n (rqV l)) :
    Calls Tryz.prog 240 #[.slice A n c, .string lab] w fun e w' => e = .returned (exV (exactR l lab.data.toList)) ∧ w = w' := by
  have HC := Aside0.mk hC
  have HN := Aside0.mk hn
  have HSP := Aside0.mk hsp
  obtain ⟨q, hq⟩ : ∃ q, exactR l lab.data.toList = q := ⟨_, rfl⟩
  have HQ0 : Aside0 (exactR (l.drop 0) lab.data.toList = q) := ⟨hq⟩
  rw [hq]
  clear hC hn hsp hq
  go_enter Tryz.func240, Tryz.ntmps240
  go_wp2
  go_loopg [9] (n) (fun k v9 w' => ∃ i : Nat, v9 = .int .i64 i ∧ w = w' ∧ Aside0 (k + i = n) ∧ Aside0 (exactR (l.drop i) lab.data.toList = q))
  case atStart => exact ⟨0, rfl, rfl, ⟨by omega⟩, HQ0⟩
  case round =>
    obtain ⟨i, rfl, rfl, HI, HQ⟩ := hrel
    by_cases hin : i < n
    · obtain ⟨r, hr⟩ : ∃ r, l[i]? = some r := ⟨_, List.getElem?_eq_getElem (by rw [HN.out]; exact hin)⟩
      obtain ⟨ad, B, cv, rfl, k0, k1, k2, hcc, hCV⟩ := kq_at2 HC.out i hin r hr
      have hdr := exact_drop hr lab.data.toList
      rw [HQ.out] at hdr
      obtain ⟨key, hkey⟩ : ∃ key, mk r.1 = key := ⟨_, rfl⟩
      obtain ⟨op, hop⟩ : ∃ op, mk r.2.1 = op := ⟨_, rfl⟩
      have hkl : key.toList = r.1 := by rw [← hkey, mk_toList]
      have hol : op.toList = r.2.1 := by rw [← hop, mk_toList]
      rw [hkey] at k0
      rw [hop] at k1
      obtain ⟨nv, hnv⟩ : ∃ nv, r.2.2.length = nv := ⟨_, rfl⟩
      rw [hnv] at k2 hCV
      have hll := toList_eq lab
      by_cases hk : r.1 = lab.data.toList
      · have e0 : (key.toList == lab.toList) = true := by rw [hkl, hll, hk]; exact beq_self_eq_true _
        rw [if_pos hk] at hdr
        by_cases h3 : isEq3 r.2.1 = true
        · rw [if_pos h3] at hdr
          by_cases h1 : nv = 1
          · obtain ⟨x, hx⟩ : ∃ x, r.2.2 = [x] := by
              match r.2.2, hnv.trans h1 with
              | [x], _ => exact ⟨x, rfl⟩
            rw [hx] at hdr hCV
            have HX : Aside0 (q = some x) := ⟨hdr⟩
            obtain ⟨vad, rfl, hv0⟩ := Kd.at_string hCV 0 (by omega) (by omega)
            have e2 : vad.add 0 = vad := by cases vad; rfl
            rw [show (0 : Int).toNat = 0 from rfl, e2] at hv0
            have hv1 : w.cell? vad = some (.string (mk x)) := hv0
            subst h1
            have hor : op.toList = [61] ∨ op.toList = [61, 61] ∨ op.toList = [105, 110] := by
              rw [hol]; unfold isEq3 at h3; simpa using h3
            clear hr hdr hkey hop hnv hll hk h3 hx hCV hv0 e2 hkl hol
            rcases hor with ho | ho | ho
            · have e1 : (op.toList == ([61] : List UInt8)) = true := by rw [ho]; rfl
              clear ho
              go_wp2
              go_ret2
              exact ⟨by rw [HX.out]; rfl, rfl⟩
            · have e1 : (op.toList == ([61] : List UInt8)) = false := by rw [ho]; rfl
              have e4 : (op.toList == ([61, 61] : List UInt8)) = true := by rw [ho]; rfl
              clear ho
              go_wp2
              go_ret2
              exact ⟨by rw [HX.out]; rfl, rfl⟩
            · have e1 : (op.toList == ([61] : List UInt8)) = false := by rw [ho]; rfl
              have e4 : (op.toList == ([61, 61] : List UInt8)) = false := by rw [ho]; rfl
              have e5 : (op.toList == ([105, 110] : List UInt8)) = true := by rw [ho]; rfl
              clear ho
              go_wp2
              go_ret2
              exact ⟨by rw [HX.out]; rfl, rfl⟩
          · have HX : Aside0 (q = none) := ⟨by
              rw [hdr]
              match hv : r.2.2 with
              | [] => rfl
              | [x] => rw [hv] at hnv; exact absurd hnv.symm h1
              | _ :: _ :: _ => rfl⟩
            have n1 : ((nv : Int) == 1) = false := by simpa using fun h => h1 (by omega)
            have hor : op.toList = [61] ∨ op.toList = [61, 61] ∨ op.toList = [105, 110] := by
              rw [hol]; unfold isEq3 at h3; simpa using h3
            clear hr hdr hkey hop hnv hll hk h3 hCV hkl hol h1
            rcases hor with ho | ho | ho
            · have e1 : (op.toList == ([61] : List UInt8)) = true := by rw [ho]; rfl
              clear ho
              go_wp2
              go_ret2
              exact ⟨by rw [HX.out]; rfl, rfl⟩
            · have e1 : (op.toList == ([61] : List UInt8)) = false := by rw [ho]; rfl
              have e4 : (op.toList == ([61, 61] : List UInt8)) = true := by rw [ho]; rfl
              clear ho
              go_wp2
              go_ret2
              exact ⟨by rw [HX.out]; rfl, rfl⟩
            · have e1 : (op.toList == ([61] : List UInt8)) = false := by rw [ho]; rfl
              have e4 : (op.toList == ([61, 61] : List UInt8)) = false := by rw [ho]; rfl
              have e5 : (op.toList == ([105, 110] : List UInt8)) = true := by rw [ho]; rfl
              clear ho
              go_wp2
              go_ret2
              exact ⟨by rw [HX.out]; rfl, rfl⟩
        · rw [if_neg h3] at hdr
          have HX : Aside0 (q = none) := ⟨hdr⟩
          have h3' : ¬ (r.2.1 = [61]) ∧ ¬ (r.2.1 = [61, 61]) ∧ ¬ (r.2.1 = [105, 110]) := by
            unfold isEq3 at h3
            simp only [Bool.or_eq_true, beq_iff_eq, not_or] at h3
            exact h3
          have e1 : (op.toList == ([61] : List UInt8)) = false := by rw [hol]; simpa using h3'.1
          have e4 : (op.toList == ([61, 61] : List UInt8)) = false := by rw [hol]; simpa using h3'.2.1
          have e5 : (op.toList == ([105, 110] : List UInt8)) = false := by rw [hol]; simpa using h3'.2.2
          clear hr hdr hkey hop hnv hll hk h3 hCV hkl hol h3'
          go_wp2
          go_ret2
          exact ⟨by rw [HX.out]; rfl, rfl⟩
      · have e0 : (key.toList == lab.toList) = false := by rw [hkl, hll]; simpa using hk
        rw [if_neg hk] at hdr
        have HQ2 : Aside0 (exactR (l.drop (i + 1)) lab.data.toList = q) := ⟨hdr.symm⟩
        clear hr hdr hkey hop hnv hll hk hCV hkl hol HQ
        go_wp2
        go_roundg (n - (i + 1))
        case measure => have := HI.out; omega
        case rel => exact ⟨i + 1, by go_num, rfl, ⟨by omega⟩, HQ2⟩
    · have hie : i = n := by have := HI.out; omega
      have HX : Aside0 (q = none) := ⟨by rw [← HQ.out, List.drop_of_length_le (by rw [HN.out, hie]; exact Nat.le_refl _)]; rfl⟩
      go_wp2
      go_ret2
      exact ⟨by rw [HX.out]; rfl, rfl⟩
end Go.Proofs.YteigfmchnblkgaaGreatDoor.Hand

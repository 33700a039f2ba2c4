/- Conflicts. (Printed by labops.py.) -/
import Derived.Test.YteigfmchnblkgaaGreatDoorLOM25
import Derived.Laws.StructEq
import Derived.Shelf.SlGeneric
import Derived.Shelf.SlSortCmp.WholeK
import Derived.Ground.SlsfProg
import Derived.Test.YteigfmchnblkgaaGreatDoorProg
import Derived.Test.YteigfmchnblkgaaGreatDoorLOShelf
namespace Go.Proofs.YteigfmchnblkgaaGreatDoor.Hand
open Go.RowKit Go.Maps Go.Proofs.YteigfmchnblkgaaGreatDoorW.PrintWords Go.Proofs.YteigfmchnblkgaaGreatDoorW.PrintLast Go.Proofs.YteigfmchnblkgaaGreatDoorW.PrintMore Go.Proofs.YteigfmchnblkgaaGreatDoor.Base
set_option linter.unusedVariables false
set_option linter.unusedSimpArgs false
set_option maxRecDepth 100000
end Go.Proofs.YteigfmchnblkgaaGreatDoor.Hand

/- laws.epSamePairs; impl.LabelsBoth. -/
namespace Go.Proofs.YteigfmchnblkgaaGreatDoor.Hand
open Go.RowKit Go.Maps Go.Proofs.YteigfmchnblkgaaGreatDoorW.PrintWords Go.Proofs.YteigfmchnblkgaaGreatDoorW.PrintLast Go.Proofs.YteigfmchnblkgaaGreatDoorW.PrintMore Go.Proofs.YteigfmchnblkgaaGreatDoor.Base
open Go.Sort (ltStr)
set_option linter.unusedVariables false
set_option linter.unusedSimpArgs false
set_option maxRecDepth 100000
theorem pk_both {w : World} {A : Option Addr} {n : Nat} {xs : List (ByteArray × ByteArray)} (h : PK.C w A n xs) (i : Nat) (h1 : i < n) (h2 : i < xs.length) :
    ∃ ad, A = some ad ∧ w.cell? (ad.add (i * 2)) = some (.string xs[i].1) ∧ w.cell? ⟨(ad.add (i * 2)).block, (ad.add (i * 2)).off + 1, none⟩ = some (.string xs[i].2) := by
  obtain ⟨ad, e, h0, h3⟩ := pk_at h i h1
  rw [List.getD_eq_getElem?_getD, List.getElem?_eq_getElem h2] at h0 h3
  exact ⟨ad, e, h0, h3⟩
theorem take_eq_snoc {α : Type} {xs ys : List α} {j : Nat} (h : xs.take j = ys.take j) (h1 : j < xs.length) (h2 : j < ys.length) (e : xs[j] = ys[j]) : xs.take (j + 1) = ys.take (j + 1) := by
  rw [List.take_succ_eq_append_getElem h1, List.take_succ_eq_append_getElem h2, h, e]
theorem pr_guard (x y : Operand) (xs ys : Array Value) (w : World) : (eqGuard .neq 45 x y (.agg xs) (.agg ys)).run Tryz.prog w = .ok () w := run_eqGuard_agg w .neq 45 x y xs ys (by kernel_rfl)
theorem pr_eq (xa xb ya yb : ByteArray) (w : World) : (Op.equalIn 10000 45 (.agg #[.string xa, .string xb]) (.agg #[.string ya, .string yb])).run Tryz.prog w = .ok (xa.toList == ya.toList && xb.toList == yb.toList) w := by
  rw [run_equalIn_struct w 9999 45 _ _ (by kernel_rfl) (by kernel_rfl)]
  simp only [Program.fieldsOf, Tryz.underlying45, Op.eqFields]
  simp [part, run_equalIn_string _ _ _ _ _ Tryz.underlying9, go_sem]
  by_cases h1 : xa.toList = ya.toList <;> by_cases h2 : xb.toList = yb.toList <;> simp [h1, h2]
theorem pr_neq (xa xb ya yb : ByteArray) (w : World) : (binOp .neq 45 (.agg #[.string xa, .string xb]) (.agg #[.string ya, .string yb])).run Tryz.prog w = .ok (.bool (!(xa.toList == ya.toList && xb.toList == yb.toList))) w := by
  rw [run_neq_struct, pr_eq]; rfl
set_option maxHeartbeats 4000000 in
theorem SamePairs_calls (A A2 : Option Addr) (n c n2 c2 : Nat) (xs ys : List (ByteArray × ByteArray)) (hn : xs.length = n) (hn2 : ys.length = n2) (hb1 : n ≤ 1000000) (hb2 : n2 ≤ 1000000) (w : World) (hx : PK.C w A n xs) (hy : PK.C w A2 n2 ys) :
    Calls Tryz.prog 36 #[.slice A n c, .slice A2 n2 c2] w fun e w' => e = .returned (.bool (decide (xs = ys))) ∧ Below w.heap.size w w' := by
  have HX := Aside0.mk hx
  have HY := Aside0.mk hy
  have HB := Aside0.mk (Below.refl w.heap.size w)
  clear hx hy
  go_enter Tryz.func36, Tryz.ntmps36
  by_cases hnn : n = n2
  · subst hnn
    go_wp2
    go_loopg [5, 13] (n) (fun g v5 v13 w' => ∃ j : Nat, v13 = .int .i64 j ∧ Aside0 (g + j = n) ∧ Aside0 (xs.take j = ys.take j) ∧ Aside0 (Below w.heap.size w w'))
    case atStart => exact ⟨0, rfl, ⟨by omega⟩, ⟨rfl⟩, HB⟩
    case round =>
      clear HB
      obtain ⟨j, rfl, HJ, HT, HB⟩ := hrel
      have hj : j ≤ n := by have := HJ.out; omega
      by_cases hjl : j < n
      · obtain ⟨ad, e1, hk0, hk1⟩ := pk_both (Kd.C_below HX.out HB.out) j hjl (by omega)
        obtain ⟨ad2, e2, hl0, hl1⟩ := pk_both (Kd.C_below HY.out HB.out) j hjl (by omega)
        subst e1 e2
        obtain ⟨x0, hx0⟩ : ∃ x, xs[j] = x := ⟨_, rfl⟩
        obtain ⟨y0, hy0⟩ : ∃ y, ys[j] = y := ⟨_, rfl⟩
        rw [hx0] at hk0 hk1
        rw [hy0] at hl0 hl1
        obtain ⟨xa, xb⟩ := x0
        obtain ⟨ya, yb⟩ := y0
        replace hk0 : wr.cell? (ad.add (j * 2)) = some (.string xa) := hk0
        replace hk1 : wr.cell? ⟨(ad.add (j * 2)).block, (ad.add (j * 2)).off + 1, none⟩ = some (.string xb) := hk1
        replace hl0 : wr.cell? (ad2.add (j * 2)) = some (.string ya) := hl0
        replace hl1 : wr.cell? ⟨(ad2.add (j * 2)).block, (ad2.add (j * 2)).off + 1, none⟩ = some (.string yb) := hl1
        have HE := Aside0.mk (And.intro hx0 hy0)
        clear hx0 hy0
        obtain ⟨q, hq⟩ : ∃ q, (xa.toList == ya.toList && xb.toList == yb.toList) = q := ⟨_, rfl⟩
        have hE1 := pr_eq xa xb ya yb
        have hE2 := pr_neq xa xb ya yb
        have hE3 := pr_guard (.tmp 19) (.tmp 23) #[.string xa, .string xb] #[.string ya, .string yb]
        rw [hq] at hE1 hE2
        cases q with
        | true =>
          have HQ : Aside0 (xs.take (j + 1) = ys.take (j + 1)) := ⟨take_eq_snoc HT.out (by omega) (by omega) (by
            rw [HE.out.1, HE.out.2]
            simp only [Bool.and_eq_true, beq_iff_eq] at hq
            have z : ∀ a b : ByteArray, a.toList = b.toList → a = b := fun a b h => by rw [ByteArray.toList_eq, ByteArray.toList_eq] at h; exact ByteArray.ext (Array.toList_inj.1 h)
            rw [z _ _ hq.1, z _ _ hq.2])⟩
          clear hq
          go_wp2
          go_quiet (fail)
          clear hE1 hE2 hE3
          go_wp2
          go_roundg (gk - 1)
          case measure => have := HJ.out; omega
          case rel => exact ⟨j + 1, by go_num, ⟨by have := HJ.out; omega⟩, HQ, ⟨pw_below_drewN HB.out _⟩⟩
        | false =>
          have HQ : Aside0 (decide (xs = ys) = false) := ⟨by
            rw [decide_eq_false_iff_not]
            intro e
            subst e
            have := HE.out.1.symm.trans HE.out.2
            injection this with e1 e2
            rw [e1, e2] at hq
            simp at hq⟩
          clear hq
          go_wp2
          go_quiet (fail)
          clear hE1 hE2 hE3
          go_wp2
          go_ret
          exact ⟨by rw [HQ.out]; rfl, pw_below_drewN HB.out _⟩
      · have hli : j = n := by omega
        have HE : Aside0 (decide (xs = ys) = true) := ⟨by
          have := HT.out
          rw [hli, List.take_of_length_le (by omega), List.take_of_length_le (by omega)] at this
          simp [this]⟩
        go_wp2
        go_ret
        exact ⟨by rw [HE.out]; rfl, HB.out⟩
  · have HE : Aside0 (decide (xs = ys) = false) := ⟨by
      rw [decide_eq_false_iff_not]; intro e; subst e; omega⟩
    go_wp2
    go_ret
    exact ⟨by rw [HE.out]; rfl, HB.out⟩
end Go.Proofs.YteigfmchnblkgaaGreatDoor.Hand

/- impl.LabelsBoth. -/
namespace Go.Proofs.YteigfmchnblkgaaGreatDoor.Hand
open Go.RowKit Go.Maps Go.Proofs.YteigfmchnblkgaaGreatDoorW.PrintWords Go.Proofs.YteigfmchnblkgaaGreatDoorW.PrintLast Go.Proofs.YteigfmchnblkgaaGreatDoorW.PrintMore Go.Proofs.YteigfmchnblkgaaGreatDoor.Base
open Go.Sort (ltStr)
set_option linter.unusedVariables false
set_option linter.unusedSimpArgs false
set_option maxRecDepth 100000
end Go.Proofs.YteigfmchnblkgaaGreatDoor.Hand

/- Labels by their keys: what stands in the list, and where. No program in sight. -/
namespace Go.Proofs.YteigfmchnblkgaaGreatDoor.Hand
open Go.RowKit Go.Maps Go.Proofs.YteigfmchnblkgaaGreatDoorW.PrintWords Go.Proofs.YteigfmchnblkgaaGreatDoorW.PrintLast Go.Proofs.YteigfmchnblkgaaGreatDoorW.PrintMore Go.Proofs.YteigfmchnblkgaaGreatDoor.Base
open Go.Sort (ltStr)
set_option linter.unusedVariables false
set_option linter.unusedSimpArgs false
theorem irr (x : L) : ltStr x x = false := Go.Sort.swo_ltStr.irrefl x
theorem trn {x y z : L} (h : ltStr x y = true) (h2 : ltStr y z = true) : ltStr x z = true := Go.Sort.swo_ltStr.trans x y z h h2
theorem tri {x y : L} (h : ¬ ltStr x y = true) (e : x ≠ y) : ltStr y x = true := by
  cases h2 : ltStr y x
  · simp only [ltStr, decide_eq_true_eq, decide_eq_false_iff_not, List.not_lt] at h h2
    exact absurd (List.le_antisymm h2 h) e
  · rfl
theorem insK_cons (y : LP) (r : List LP) (p : LP) : insK (y :: r) p = if ltStr y.1 p.1 = true then y :: insK r p else if y.1 = p.1 then p :: r else p :: y :: r := by
  by_cases h : ltStr y.1 p.1 = true
  · rw [if_pos h]
    have e : posK (y :: r) p.1 = posK r p.1 + 1 := by show (if _ then _ else _) = _; rw [if_pos h]
    unfold insK
    rw [e]
    simp only [List.getElem?_cons_succ, List.set_cons_succ, List.take_succ_cons, List.drop_succ_cons, List.cons_append]
    split <;> rfl
  · rw [if_neg h]
    have e : posK (y :: r) p.1 = 0 := by show (if _ then _ else _) = _; rw [if_neg h]
    unfold insK
    rw [e]
    simp only [List.getElem?_cons_zero, Option.map_some, List.set_cons_zero, List.take_zero, List.drop_zero, List.nil_append, Option.some.injEq]
def SK (xs : List LP) : Prop := xs.Pairwise fun a b => ltStr a.1 b.1 = true
theorem ins_mem (p : LP) : ∀ (out : List LP), SK out → SK (insK out p) ∧ ∀ q, q ∈ insK out p ↔ q = p ∨ (q ∈ out ∧ q.1 ≠ p.1)
  | [], _ => ⟨by show SK [p]; exact List.pairwise_singleton _ _, fun q => by show q ∈ [p] ↔ _; simp⟩
  | y :: r, h => by
    obtain ⟨h1, h2⟩ := List.pairwise_cons.1 h
    obtain ⟨i1, i2⟩ := ins_mem p r h2
    rw [insK_cons]
    by_cases e : ltStr y.1 p.1 = true
    · rw [if_pos e]
      have hne : y.1 ≠ p.1 := fun e2 => by rw [e2, irr] at e; cases e
      refine ⟨List.pairwise_cons.2 ⟨fun q hq => ?_, i1⟩, fun q => ?_⟩
      · rcases (i2 q).1 hq with rfl | ⟨hq, _⟩
        · exact e
        · exact h1 q hq
      · rw [List.mem_cons, i2, List.mem_cons]
        constructor
        · rintro (rfl | rfl | ⟨a, b⟩)
          · exact .inr ⟨.inl rfl, hne⟩
          · exact .inl rfl
          · exact .inr ⟨.inr a, b⟩
        · rintro (rfl | ⟨rfl | a, b⟩)
          · exact .inr (.inl rfl)
          · exact .inl rfl
          · exact .inr (.inr ⟨a, b⟩)
    · rw [if_neg e]
      by_cases e2 : y.1 = p.1
      · rw [if_pos e2]
        refine ⟨List.pairwise_cons.2 ⟨fun q hq => by rw [← e2]; exact h1 q hq, h2⟩, fun q => ?_⟩
        rw [List.mem_cons, List.mem_cons]
        constructor
        · rintro (rfl | a)
          · exact .inl rfl
          · exact .inr ⟨.inr a, fun e3 => by have := h1 q a; rw [e3, e2, irr] at this; cases this⟩
        · rintro (rfl | ⟨rfl | a, b⟩)
          · exact .inl rfl
          · exact absurd e2 b
          · exact .inr a
      · rw [if_neg e2]
        have hlt : ltStr p.1 y.1 = true := tri e e2
        refine ⟨List.pairwise_cons.2 ⟨fun q hq => ?_, h⟩, fun q => ?_⟩
        · rcases List.mem_cons.1 hq with rfl | hq
          · exact hlt
          · exact trn hlt (h1 q hq)
        · rw [List.mem_cons]
          constructor
          · rintro (rfl | a)
            · exact .inl rfl
            · refine .inr ⟨a, fun e3 => ?_⟩
              rcases List.mem_cons.1 a with rfl | a
              · exact e2 e3
              · have := trn hlt (h1 q a)
                rw [e3, irr] at this; cases this
          · rintro (rfl | ⟨a, b⟩)
            · exact .inl rfl
            · exact .inr a
theorem keyL_mem (l : List LP) : SK (keyL l) ∧ ∀ k v, (k, v) ∈ keyL l ↔ mget l.reverse k = some v := by
  have h : ∀ n, n ≤ l.length → SK (keyL (l.take n)) ∧ ∀ k v, (k, v) ∈ keyL (l.take n) ↔ mget (l.take n).reverse k = some v := by
    intro n
    induction n with
    | zero => exact fun _ => ⟨List.Pairwise.nil, fun k v => by show (k, v) ∈ ([] : List LP) ↔ mget [] k = some v; simp [mget]⟩
    | succ n ih =>
      intro hn
      obtain ⟨i1, i2⟩ := ih (by omega)
      obtain ⟨p, hp⟩ : ∃ p, l[n]? = some p := ⟨_, List.getElem?_eq_getElem (by omega)⟩
      have hs := keyL_snoc hp
      have hr : (l.take (n + 1)).reverse = p :: (l.take n).reverse := by rw [List.take_add_one, hp]; simp
      rw [hs, hr]
      obtain ⟨j1, j2⟩ := ins_mem p _ i1
      refine ⟨j1, fun k v => ?_⟩
      obtain ⟨pk, pv⟩ := p
      rw [j2, mget_cons, i2]
      by_cases e : pk = k
      · subst e; rw [if_pos rfl]; simp [eq_comm]
      · rw [if_neg e]
        constructor
        · rintro (h | h)
          · exact absurd (Prod.mk.inj h).1.symm e
          · exact h.1
        · exact fun h => .inr ⟨h, fun e2 => e e2.symm⟩
  have := h l.length (Nat.le_refl _)
  rwa [List.take_length] at this
theorem sk_ext : ∀ {xs ys : List LP}, SK xs → SK ys → (∀ q, q ∈ xs ↔ q ∈ ys) → xs = ys
  | [], [], _, _, _ => rfl
  | [], y :: ys, _, _, h => by have := (h y).2 List.mem_cons_self; cases this
  | x :: xs, [], _, _, h => by have := (h x).1 List.mem_cons_self; cases this
  | x :: xs, y :: ys, hx, hy, h => by
    obtain ⟨a1, a2⟩ := List.pairwise_cons.1 hx
    obtain ⟨b1, b2⟩ := List.pairwise_cons.1 hy
    have e : x = y := by
      rcases List.mem_cons.1 ((h x).1 List.mem_cons_self) with e | m1
      · exact e
      · rcases List.mem_cons.1 ((h y).2 List.mem_cons_self) with e | m2
        · exact e.symm
        · have := trn (a1 y m2) (b1 x m1)
          rw [irr] at this; cases this
    subst e
    rw [sk_ext a2 b2 fun q => ?_]
    constructor
    · intro m
      rcases List.mem_cons.1 ((h q).1 (List.mem_cons_of_mem _ m)) with rfl | m2
      · have := a1 _ m; rw [irr] at this; cases this
      · exact m2
    · intro m
      rcases List.mem_cons.1 ((h q).2 (List.mem_cons_of_mem _ m)) with rfl | m2
      · have := b1 _ m; rw [irr] at this; cases this
      · exact m2
end Go.Proofs.YteigfmchnblkgaaGreatDoor.Hand

/-
  DERIVED: THE SHELF's CONTRACTS AT THIS DUMP, IN PLAIN WORDS (tools/lay-plain.mjs out of 'TryzSortF.lean', which tools/lay-shelf.mjs wrote): THE SAME DECLARATIONS UNDER THE SAME NAMES: 'import', 'namespace', 'open', 'def', 'theorem' AND NOTHING ELSE: no command of the shelf's: FOR A HAND-IN. Each laying: the table of numbers ('.._ren') and one theorem, a field a fact of the dump's own or the kernel's comparison; each contract: ONE APPLICATION.
-/
namespace Go.Proofs
open Go.Shelf
def Tryz.sortPr_ren : Go.Shelf.Ren := ⟨fun | 6 => 85 | 15 => 105 | 14 => 104 | 28 => 131 | 29 => 132 | 20 => 123 | 21 => 124 | 22 => 125 | 23 => 126 | 24 => 127 | 25 => 128 | 26 => 129 | 27 => 130 | 46 => 160 | 47 => 161 | 48 => 162 | 49 => 163 | 50 => 164 | 57 => 185 | n => n, fun | 22 => 22 | 24 => 45 | 25 => 133 | 3 => 3 | 39 => 144 | 0 => 0 | 53 => 191 | 55 => 141 | 4 => 4 | 46 => 184 | 45 => 183 | 50 => 188 | 5 => 5 | 9 => 9 | 66 => 216 | 70 => 95 | 76 => 235 | 77 => 236 | n => n, fun | n => n⟩
theorem Tryz.sortPr : Go.Proofs.SlLaysF0.n6 Tryz.prog Tryz.sortPr_ren := {
  mixed := by kernel_rfl
  f6 := ⟨Tryz.f85.name, by decide, Tryz.func85.trans (congrArg some (by kernel_rfl))⟩
  f14 := ⟨Tryz.f104.name, by decide, Tryz.func104.trans (congrArg some (by kernel_rfl))⟩
  f15 := Tryz.func105.trans (congrArg some (by kernel_rfl))
  f20 := ⟨Tryz.f123.name, by decide, Tryz.func123.trans (congrArg some (by kernel_rfl))⟩
  f21 := ⟨Tryz.f124.name, by decide, Tryz.func124.trans (congrArg some (by kernel_rfl))⟩
  f22 := ⟨Tryz.f125.name, by decide, Tryz.func125.trans (congrArg some (by kernel_rfl))⟩
  f23 := ⟨Tryz.f126.name, by decide, Tryz.func126.trans (congrArg some (by kernel_rfl))⟩
  f24 := ⟨Tryz.f127.name, by decide, Tryz.func127.trans (congrArg some (by kernel_rfl))⟩
  f25 := ⟨Tryz.f128.name, by decide, Tryz.func128.trans (congrArg some (by kernel_rfl))⟩
  f26 := ⟨Tryz.f129.name, by decide, Tryz.func129.trans (congrArg some (by kernel_rfl))⟩
  f27 := ⟨Tryz.f130.name, by decide, Tryz.func130.trans (congrArg some (by kernel_rfl))⟩
  f28 := Tryz.func131.trans (congrArg some (by kernel_rfl))
  f29 := Tryz.func132.trans (congrArg some (by kernel_rfl))
  f46 := ⟨Tryz.f160.name, by decide, Tryz.func160.trans (congrArg some (by kernel_rfl))⟩
  f47 := Tryz.func161.trans (congrArg some (by kernel_rfl))
  f48 := Tryz.func162.trans (congrArg some (by kernel_rfl))
  f49 := ⟨Tryz.f163.name, by decide, Tryz.func163.trans (congrArg some (by kernel_rfl))⟩
  f50 := ⟨Tryz.f164.name, by decide, Tryz.func164.trans (congrArg some (by kernel_rfl))⟩
  f57 := ⟨Tryz.f185.name, by decide, Tryz.func185.trans (congrArg some (by kernel_rfl))⟩
  t0 := Tryz.underlying0
  a0 := Tryz.isAgg0
  z0 := Tryz.sizeOf0
  v0 := Tryz.zeroValue0
  t3 := Tryz.underlying3
  a3 := Tryz.isAgg3
  z3 := Tryz.sizeOf3
  v3 := Tryz.zeroValue3
  t4 := Tryz.underlying4
  a4 := Tryz.isAgg4
  z4 := Tryz.sizeOf4
  v4 := Tryz.zeroValue4
  t5 := Tryz.underlying5
  a5 := Tryz.isAgg5
  z5 := Tryz.sizeOf5
  v5 := Tryz.zeroValue5
  t9 := Tryz.underlying9
  a9 := Tryz.isAgg9
  z9 := Tryz.sizeOf9
  v9 := Tryz.zeroValue9
  t22 := Tryz.underlying22
  a22 := Tryz.isAgg22
  z22 := Tryz.sizeOf22
  v22 := Tryz.zeroValue22
  t25 := Tryz.underlying133
  a25 := Tryz.isAgg133
  z25 := Tryz.sizeOf133
  v25 := Tryz.zeroValue133
  t39 := Tryz.underlying144
  a39 := Tryz.isAgg144
  z39 := Tryz.sizeOf144
  v39 := Tryz.zeroValue144
  t45 := Tryz.underlying183
  a45 := Tryz.isAgg183
  z45 := Tryz.sizeOf183
  v45 := Tryz.zeroValue183
  t46 := Tryz.underlying184
  a46 := Tryz.isAgg184
  z46 := Tryz.sizeOf184
  v46 := Tryz.zeroValue184
  t50 := Tryz.underlying188
  a50 := Tryz.isAgg188
  z50 := Tryz.sizeOf188
  v50 := Tryz.zeroValue188
  t53 := Tryz.underlying191
  a53 := Tryz.isAgg191
  z53 := Tryz.sizeOf191
  v53 := Tryz.zeroValue191
  t55 := Tryz.underlying141
  a55 := Tryz.isAgg141
  z55 := Tryz.sizeOf141
  v55 := Tryz.zeroValue141
  t66 := Tryz.underlying216
  a66 := Tryz.isAgg216
  z66 := Tryz.sizeOf216
  v66 := Tryz.zeroValue216
  t70 := Tryz.underlying95
  a70 := Tryz.isAgg95
  z70 := Tryz.sizeOf95
  v70 := Tryz.zeroValue95
  t76 := Tryz.underlying235
  a76 := Tryz.isAgg235
  z76 := Tryz.sizeOf235
  v76 := Tryz.zeroValue235
  t77 := Tryz.underlying236
  a77 := Tryz.isAgg236
  z77 := Tryz.sizeOf236
  v77 := Tryz.zeroValue236 }
end Go.Proofs

/- slices.SortFunc over pairs, by their keys: cmp.Compare of texts, the closure of impl.pairs, and what the row holds behind it. -/
namespace Go.Proofs.YteigfmchnblkgaaGreatDoor.Hand
open Go.RowKit Go.Maps Go.Proofs.YteigfmchnblkgaaGreatDoorW.PrintWords Go.Proofs.YteigfmchnblkgaaGreatDoorW.PrintLast Go.Proofs.YteigfmchnblkgaaGreatDoorW.PrintMore Go.Proofs.YteigfmchnblkgaaGreatDoor.Base
open Go.Sort (ltStr SWO PermIn SortedIn Holds putRow HoldsK putRowK flatK)
set_option linter.unusedVariables false
set_option linter.unusedSimpArgs false
set_option maxRecDepth 100000
/-- A pair's two cells. -/
def encLP (p : LP) : List Value := [.string (mk p.1), .string (mk p.2)]
/-- Pairs compared by their keys. -/
def cmpK (x y : LP) : Int := if ltStr x.1 y.1 then -1 else if ltStr y.1 x.1 then 1 else 0
theorem ltOf_cmpK (x y : LP) : ltOf cmpK x y = ltStr x.1 y.1 := by
  unfold ltOf cmpK
  cases h : ltStr x.1 y.1 <;> cases h2 : ltStr y.1 x.1 <;> simp
theorem swo_cmpK : SWO (ltOf cmpK) where
  irrefl x := by rw [ltOf_cmpK]; exact Go.Sort.swo_ltStr.irrefl x.1
  trans x y z h1 h2 := by rw [ltOf_cmpK] at *; exact Go.Sort.swo_ltStr.trans x.1 y.1 z.1 h1 h2
  ntrans x y z h1 h2 := by rw [ltOf_cmpK] at *; exact Go.Sort.swo_ltStr.ntrans x.1 y.1 z.1 h1 h2
theorem encP_at (xs : List (ByteArray × ByteArray)) (j r : Nat) (hj : j < xs.length) (hr : r < 2) : (encP xs)[j * 2 + r]? = some (if r = 0 then .string xs[j].1 else .string xs[j].2) := by
  rw [← List.getElem?_drop, encP_drop, List.drop_eq_getElem_cons hj]
  match r, hr with
  | 0, _ => rfl
  | 1, _ => rfl
theorem flat_at (d : Array LP) (t : Nat) (ht : t < d.size * 2) : (encP (d.toList.map mkP))[t]? = some (flatK encLP 2 d)[t]! := by
  have hj : t / 2 < d.size := by omega
  have e : t = t / 2 * 2 + t % 2 := by omega
  rw [Go.Sort.get_flatK _ _ _ t ht]
  conv => lhs; rw [e]
  rw [encP_at _ (t / 2) (t % 2) (by simpa using hj) (by omega), getElem!_pos d (t / 2) hj]
  rcases (show t % 2 = 0 ∨ t % 2 = 1 by omega) with h | h <;> rw [h] <;> simp [encLP]
theorem pk_holds {e : Nat} {W : World} {base g cap : Nat} {l : List LP} (hR : PK.R e W base (fun _ => True) (.slice (some ⟨g, 0, none⟩) l.length cap) (l.map mkP)) : HoldsK encLP 2 W g 0 l.toArray := by
  intro t ht
  rw [Go.Sort.size_flatK] at ht
  have hown := pk_own hR
  obtain ⟨hl, ⟨e0, _⟩ | ⟨g', cap', cur, e0, hbase, hcur, hn, hcm, hsz, htk⟩⟩ := hown
  · exact absurd e0 (by simp)
  · have hg : g' = g := by
      simp only [Value.slice.injEq, Option.some.injEq, Addr.mk.injEq] at e0
      exact e0.1.1.symm
    subst hg
    rw [Nat.zero_add]
    have h1 := flat_at l.toArray t ht
    rw [List.length_map] at htk
    have ht2 : t < l.length * 2 := by simpa using ht
    refine ⟨(blk_cell hcur _).trans ?_, blk_frozen hcur _⟩
    show _ = some (flatK encLP 2 l.toArray)[t]!
    rw [← h1, ← Array.getElem?_toList, ← List.getElem?_take_of_lt ht2, htk]
theorem pk_putK {e : Nat} {W : World} {base g cap : Nat} {l : List LP} (hR : PK.R e W base (fun _ => True) (.slice (some ⟨g, 0, none⟩) l.length cap) (l.map mkP)) (d : Array LP) (hd : d.size = l.length) (n : Nat) (os : Array Obj) :
    PK.R e (sortWorldK encLP 2 W g 0 n d os) base (fun _ => True) (.slice (some ⟨g, 0, none⟩) l.length cap) (d.toList.map mkP) ∧ W.grownBy (sortWorldK encLP 2 W g 0 n d os) (some g) := by
  have hown := pk_own hR
  rw [List.length_map] at hown
  obtain ⟨hl, ⟨e0, _⟩ | ⟨g', cap', cur, e0, hbase, hcur, hn, hcm, hsz, htk⟩⟩ := hown
  · exact absurd e0 (by simp)
  · have hg : g' = g ∧ cap' = cap := by
      simp only [Value.slice.injEq, Option.some.injEq, Addr.mk.injEq] at e0
      exact ⟨e0.1.1.symm, e0.2.2.symm⟩
    obtain ⟨rfl, rfl⟩ := hg
    have hlt : g' < W.heap.size := blk_lt hcur
    have hput : (sortWorldK encLP 2 W g' 0 n d os).heap[g']? = some (.cells (Sort.putCells id 0 (flatK encLP 2 d) cur) e (0, 0)) := by
      unfold sortWorldK putRowK
      rw [Sort.heap_grow_old _ _ (by simpa using hlt)]
      unfold Sort.putRow Sort.mapBlock
      simp [Array.getElem?_modify, hcur, Sort.onCells]
    refine ⟨pk_of_own ?_, rfl, rfl, rfl, by unfold sortWorldK putRowK; simp, fun i hi hne => ?_⟩
    · rw [show (d.toList.map mkP).length = l.length by simp [hd]]
      refine ⟨by rw [encP_len]; simp [hd], .inr ⟨g', cap', Sort.putCells id 0 (flatK encLP 2 d) cur, rfl, hbase, hput, hn, hcm, by simp [Sort.putCells, hsz], ?_⟩⟩
      apply List.ext_getElem?
      intro k
      by_cases hk : k < l.length * 2
      · have hkc : k < cur.size := by omega
        rw [List.getElem?_take_of_lt hk, flat_at d k (by omega)]
        simp [Sort.putCells, hk, hkc, hd]
      · rw [List.getElem?_eq_none (by simp; omega), List.getElem?_eq_none (by rw [encP_len]; simp [hd]; omega)]
    · unfold sortWorldK putRowK
      rw [Sort.heap_grow_old _ _ (by simpa using hi)]
      unfold Sort.putRow Sort.mapBlock
      have : g' ≠ i := fun h => hne (by rw [h])
      simp [Array.getElem?_modify, this]
theorem isNaN_calls (a : ByteArray) (W : World) : Calls Tryz.prog 106 #[.string a] W fun e w' => e = .returned (.bool false) ∧ w' = W := by
  go_enter Tryz.func106, Tryz.ntmps106
  go_wp2
  go_ret
  exact ⟨by simp, rfl⟩
set_option maxHeartbeats 2000000 in
theorem Compare_calls (a b : ByteArray) (W : World) : Calls Tryz.prog 87 #[.string a, .string b] W fun e w' => e = .returned (.int .i64 (cmpK (a.toList, []) (b.toList, []))) ∧ w' = W := by
  have H1 := Aside0.mk (isNaN_calls a)
  have H2 := Aside0.mk (isNaN_calls b)
  obtain ⟨p, hp⟩ : ∃ p, ltStr a.toList b.toList = p := ⟨_, rfl⟩
  obtain ⟨q, hq⟩ : ∃ q, ltStr b.toList a.toList = q := ⟨_, rfl⟩
  have hpb : Op.bytesLess a.toList b.toList = p := by rw [← hp]; simp [Sort.ltStr, bytesLess_eq]
  have hqb : Op.bytesLess b.toList a.toList = q := by rw [← hq]; simp [Sort.ltStr, bytesLess_eq]
  rw [show cmpK (a.toList, []) (b.toList, []) = if p then -1 else if q then 1 else 0 from by rw [← hp, ← hq]; rfl]
  have hg0 : (!(Op.bytesLess a.toList b.toList || a.toList == b.toList)) = q := by
    rw [hpb]
    cases p with
    | true =>
      cases q with
      | false => rfl
      | true => exact absurd (trn hp hq) (by rw [irr]; simp)
    | false =>
      by_cases e : a.toList = b.toList
      · rw [e, irr] at hq
        rw [e, ← hq]; simp
      · have := tri (x := a.toList) (y := b.toList) (by rw [hp]; simp) e
        rw [this] at hq
        rw [← hq, beq_eq_false_iff_ne.2 e]; rfl
  have hgt : ∀ W, (binOp .gtr 9 (.string a) (.string b)).run Tryz.prog W = .ok (.bool q) W := fun W => by
    rw [← hg0]; simp [binOp, Op.stringOp, go_sem]
  clear hp hq hg0
  cases p <;> cases q <;>
  (go_enter Tryz.func87, Tryz.ntmps87
   go_wp2_with (first | ((with_reducible refine (H1.out _).mono ?_); rintro e w1 ⟨rfl, rfl⟩) | ((with_reducible refine (H2.out _).mono ?_); rintro e w1 ⟨rfl, rfl⟩))
   go_ret
   exact ⟨rfl, rfl⟩)
set_option maxHeartbeats 2000000 in
theorem cmpP_calls (x y : LP) (W : World) : Calls Tryz.prog 86 #[.agg #[.string (mk x.1), .string (mk x.2)], .agg #[.string (mk y.1), .string (mk y.2)]] W fun e w' => e = .returned (.int .i64 (cmpK x y)) ∧ ∃ q os', w' = Sort.grow (W.drewN q) os' := by
  have hc : cmpK x y = cmpK ((mk x.1).toList, []) ((mk y.1).toList, []) := by rw [mk_toList, mk_toList]; rfl
  rw [hc]
  have HC := Aside0.mk (fun W' => Compare_calls (mk x.1) (mk y.1) W')
  generalize cmpK ((mk x.1).toList, []) ((mk y.1).toList, []) = r at *
  clear hc
  go_enter Tryz.func86, Tryz.ntmps86
  go_wp2_with (first | ((with_reducible refine (HC.out _).mono ?_); rintro e w1 ⟨rfl, rfl⟩))
  go_ret
  exact ⟨rfl, 0, _, by rw [Sort.alloc_eq_grow, Sort.alloc_eq_grow, Sort.grow_grow]; rfl⟩
set_option maxHeartbeats 2000000 in
theorem insF_none (p : Option Addr) (cap : Nat) (fv : Value) (w : World) :
    Calls Tryz.prog 123 #[.slice p 0 cap, .int .i64 0, .int .i64 0, fv] w fun e w' => e = .returned (.tuple #[]) ∧ w' = w := by
  go_enter Tryz.func123, Tryz.ntmps123
  go_wp2
  refine wp_loop_rounds 1 ?_
  rw [rounds_succ]
  go_wp2
  go_end0
  exact ⟨rfl, rfl⟩
set_option maxHeartbeats 2000000 in
theorem pdqF_none (p : Option Addr) (cap : Nat) (lim : Int) (fv : Value) (w : World) :
    Calls Tryz.prog 104 #[.slice p 0 cap, .int .i64 0, .int .i64 0, .int .i64 lim, fv] w fun e w' => e = .returned (.tuple #[]) ∧ w' = w := by
  have HI := Aside0.mk (fun W => insF_none p cap fv W)
  go_enter Tryz.func104, Tryz.ntmps104
  go_wp2
  refine wp_loop_rounds 1 ?_
  rw [rounds_succ]
  go_wp2_with (first | ((with_reducible refine (HI.out _).mono ?_); rintro e w1 ⟨rfl, rfl⟩))
  (try simp only [Exit.inBlock, Exit.then]); refine bodyPost_ret (results_none rfl _ _ _) rfl ?_
  exact ⟨rfl, rfl⟩
set_option maxHeartbeats 2000000 in
theorem sortF_none (p : Option Addr) (cap : Nat) (fv : Value) (w : World) :
    Calls Tryz.prog 85 #[.slice p 0 cap, fv] w fun e w' => e = .returned (.tuple #[]) ∧ w' = w := by
  have HP := Aside0.mk (fun lim W => pdqF_none p cap lim fv W)
  have HL := Aside0.mk (fun W => Tryz.bits_Len 0 W (by omega) (by omega))
  go_enter Tryz.func85, Tryz.ntmps85
  go_wp2_with (first | ((with_reducible refine (HL.out _).mono ?_); rintro e w1 ⟨rfl, rfl⟩) | ((with_reducible refine (HP.out _ _).mono ?_); rintro e w1 ⟨rfl, rfl⟩))
  go_end0
  exact ⟨rfl, rfl⟩
theorem sortF_calls (l : List LP) (W : World) (base : Nat) (v : Value) (hR : PK.R 45 W base (fun _ => True) v (l.map mkP)) (hn : l.length ≤ 1000000) :
    Calls Tryz.prog 85 #[v, .func (.func 86) #[] #[]] W fun e w' => e = .returned (.tuple #[]) ∧ ∃ l' : List LP, l'.Perm l ∧ l'.Pairwise (fun a b => ltStr b.1 a.1 = false) ∧ PK.R 45 w' base (fun _ => True) v (l'.map mkP) ∧ W.grownBy w' v.ownBlock := by
  by_cases h2 : 1 ≤ l.length
  · obtain ⟨g, cap, rfl, hbg, hlt, _⟩ := Kd.R_form hR (by rw [List.length_map]; omega)
    rw [List.length_map] at hR ⊢
    have eg : ∀ args w, (callFunc 86 args).run Tryz.prog w = .ok (.enter 86 args) w := enters_of Tryz.func86 (by kernel_rfl) rfl
    have hcon := AnyQ.slices_SortFunc Tryz.sortPr 2 (fun _ => by kernel_rfl) (fun _ => by kernel_rfl) encLP (fun _ => rfl) (fun x v hv => by simp [encLP] at hv; rcases hv with rfl | rfl <;> rfl) cmpK swo_cmpK 86 #[] g 0 cap l.toArray W eg (fun _ _ _ _ x y => cmpP_calls x y _) (pk_holds hR) hlt (by simp; omega)
    change Calls Tryz.prog 85 _ _ _ at hcon
    have hcs : l.toArray.size = l.length := by simp
    rw [hcs] at hcon
    refine hcon.mono ?_
    rintro e w' ⟨rfl, d', n, os, hP, hS, rfl⟩
    have hsz : d'.size = l.length := by have := hP.1; simpa using this
    have hp := hP.2.2
    obtain ⟨r1, r2⟩ := pk_putK hR d' hsz n os
    refine ⟨rfl, d'.toList, ?_, ?_, r1, r2⟩
    · have e1 : (d'.extract 0 l.length).toList = d'.toList := by rw [← hsz, Array.extract_size]
      have e2 : (l.toArray.extract 0 l.length).toList = l := by rw [← hcs, Array.extract_size]
      rw [e1, e2] at hp
      exact hp
    · rw [List.pairwise_iff_getElem]
      intro i j hi hj hij
      have := hS i j (Nat.zero_le _) hij (by rw [← hsz]; simpa using hj)
      rw [getElem!_pos d' i (by simpa using hi), getElem!_pos d' j (by simpa using hj), ltOf_cmpK] at this
      simpa using this
  · have hl : l = [] := List.eq_nil_of_length_eq_zero (by omega)
    subst hl
    obtain ⟨A, c, rfl⟩ := Kd.R_slice hR
    refine (sortF_none A c (.func (.func 86) #[] #[]) W).mono ?_
    rintro e w' ⟨rfl, rfl⟩
    exact ⟨rfl, [], List.Perm.refl _, List.Pairwise.nil, hR, World.grownBy.refl _ _⟩
end Go.Proofs.YteigfmchnblkgaaGreatDoor.Hand

/- labels.Merge. -/
namespace Go.Proofs.YteigfmchnblkgaaGreatDoor.Hand
open Go.RowKit Go.Maps Go.Proofs.YteigfmchnblkgaaGreatDoorW.PrintWords Go.Proofs.YteigfmchnblkgaaGreatDoorW.PrintLast Go.Proofs.YteigfmchnblkgaaGreatDoorW.PrintMore Go.Proofs.YteigfmchnblkgaaGreatDoor.Base
set_option linter.unusedVariables false
set_option linter.unusedSimpArgs false
set_option maxRecDepth 100000
section
variable (w : World) {ops : Array Oper} {rest : List Oper} {o : Oper} {a : Act} {Q : Exit → Act → World → Prop}
/-- A label set in a map of one's own. -/
theorem set_lab (hg : o.guard = none) (m x y : Operand) (hop : o.op = Op.mapUpdate 92 m x y) (b N : Nat) (ks : List (L × L)) (hm : a.eval m = .map (some b)) (h : IsLz w b N ks) (hN : N ≤ 1000000) (k v : ByteArray) (hk : k.size ≤ 140737488351232) (hv : v.size ≤ 140737488351232) (hx : a.eval x = .string k) (hy : a.eval y = .string v)
    (hK : ∀ w', IsLz w' b (N + 1) ((k.data.toList, v.data.toList) :: ks) → w.grownBy w' (some b) → wpList Tryz.prog ops Q rest (a.put o.dst undef) w') :
    wpList Tryz.prog ops Q (o :: rest) a w := by
  obtain ⟨D, hown, hmp, hhas, hat, hsz⟩ := h
  have hput := lab_putZ k.data.toList v.data.toList hmp (World.ownsMap.tidy hown lawLs) hhas hat hsz
  have hkey := keyLs k hk
  have hval : plainElem (H := Unit) Tryz.prog 9 (.string v) = some (.lit (.string v.data.toList), []) := plainElem_string Tryz.underlying9 (by unfold maxLen; omega)
  refine wpList_mapUpdate_own _ hg _ _ _ 92 hop 9 9 lawLs Tryz.underlying92 (plainElem (H := Unit) Tryz.prog 9) b N _ hm hown (by unfold maxLen; omega) _ _ _ hx hy hkey _ [] hval ?_
  intro w1 hown1 hg1
  exact hK w1 ⟨_, hown1, hput⟩ hg1
end
theorem delK_in {left : List L} {k x : L} : x ∈ delK left k ↔ x ∈ left ∧ x ≠ k := by
  unfold delK
  rw [List.mem_filter, Bool.not_eq_true', beq_eq_false_iff_ne]
end Go.Proofs.YteigfmchnblkgaaGreatDoor.Hand

/- The merged map's labels by rising keys are the keyed list of both lists. No program in sight. -/
namespace Go.Proofs.YteigfmchnblkgaaGreatDoor.Hand
open Go.RowKit Go.Maps Go.Proofs.YteigfmchnblkgaaGreatDoorW.PrintWords Go.Proofs.YteigfmchnblkgaaGreatDoorW.PrintLast Go.Proofs.YteigfmchnblkgaaGreatDoorW.PrintMore Go.Proofs.YteigfmchnblkgaaGreatDoor.Base
open Go.Sort (ltStr)
set_option linter.unusedVariables false
set_option linter.unusedSimpArgs false
/-- Pairs sorted by keys, of keys that differ, rise strictly. -/
theorem sk_of_sorted {xs : List LP} (h : xs.Pairwise fun a b => ltStr b.1 a.1 = false) (hn : (xs.map (·.1)).Nodup) : SK xs := by
  induction xs with
  | nil => exact List.Pairwise.nil
  | cons p xs ih =>
    obtain ⟨h1, h2⟩ := List.pairwise_cons.1 h
    rw [List.map_cons, List.nodup_cons] at hn
    refine List.pairwise_cons.2 ⟨fun q hq => ?_, ih h2 hn.2⟩
    exact tri (by rw [h1 q hq]; simp) (fun e => hn.1 (by rw [← e]; exact List.mem_map_of_mem hq))
end Go.Proofs.YteigfmchnblkgaaGreatDoor.Hand

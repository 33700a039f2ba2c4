/- impl.LabelsBoth. -/
import Derived.Test.YthfjolafikgpoaaGreatDoorLRM15
import Derived.Shelf.SlGeneric
import Derived.Shelf.SlSortCmp.WholeK
import Derived.Ground.SlsfProg
import Derived.Test.YthfjolafikgpoaaGreatDoorProg
import Derived.Test.YthfjolafikgpoaaGreatDoorLRShelf
namespace Go.Proofs.YthfjolafikgpoaaGreatDoor.Hand
open Go.RowKit Go.Maps Go.Proofs.YthfjolafikgpoaaGreatDoorW.PrintWords Go.Proofs.YthfjolafikgpoaaGreatDoorW.PrintLast Go.Proofs.YthfjolafikgpoaaGreatDoorW.PrintMore Go.Proofs.YthfjolafikgpoaaGreatDoor.Base
open Go.Sort (ltStr)
set_option linter.unusedVariables false
set_option linter.unusedSimpArgs false
set_option maxRecDepth 100000
theorem dk_rev_len {l : List (ByteArray × ByteArray)} (hz : ∀ p ∈ l, p.1.size ≤ 140737488351232 ∧ p.2.size ≤ 140737488351232) : ∀ k ∈ dk (labRev l), k.length ≤ 140737488351232 := by
  intro k hk
  obtain ⟨v, hv⟩ := dk_mem.1 hk
  unfold mget at hv
  obtain ⟨q, hq, _⟩ := Option.map_eq_some_iff.1 hv
  have hm := List.mem_of_find?_eq_some hq
  have he := List.find?_some hq
  unfold labRev at hm
  rw [List.mem_reverse, List.mem_map] at hm
  obtain ⟨p, hp, rfl⟩ := hm
  have : p.1.data.toList = k := by simpa using he
  rw [← this]
  exact (hz p hp).1
/-- The three answers of impl.LabelsBoth. -/
def bothV (a b : List (ByteArray × ByteArray)) : Value := .tuple #[.bool (conflictM (labRev a) (labRev b)), .bool (decide ((dk (labRev a)).length = (dk (labRev b)).length) && (dk (labRev a)).all (sameM (labRev a) (labRev b))), .bool (decide ((dk (labRev b)).length = 0) || (dk (labRev a)).all (sameM (labRev a) (labRev b)))]
set_option maxHeartbeats 4000000 in
theorem Both_calls (A A2 : Option Addr) (c c2 : Nat) (l l2 : List (ByteArray × ByteArray)) (hl : l.length ≤ 1000) (hl2 : l2.length ≤ 1000) (hz : ∀ p ∈ l, p.1.size ≤ 140737488351232 ∧ p.2.size ≤ 140737488351232) (hz2 : ∀ p ∈ l2, p.1.size ≤ 140737488351232 ∧ p.2.size ≤ 140737488351232) (w : World) (hx : PK.C w A l.length l) (hy : PK.C w A2 l2.length l2) :
    Calls Tryz.prog 35 #[.slice A l.length c, .slice A2 l2.length c2] w fun e w' => e = .returned (bothV l l2) ∧ Below w.heap.size w w' := by
  have HX := Aside0.mk hx
  have HY := Aside0.mk hy
  have H1 := Aside0.mk (fun W (h : PK.C W A l.length l) => setOfZ_calls A c l (by omega) hz W h)
  have H2 := Aside0.mk (fun W (h : PK.C W A2 l2.length l2) => setOfZ_calls A2 c2 l2 (by omega) hz2 W h)
  have HC := Aside0.mk (fun b1 b2 N1 N2 W h1 h2 => Conflicts_calls b1 N1 (labRev l) b2 N2 (labRev l2) (dk_rev_len hz) (dk_rev_len hz2) W h1 h2)
  have HE := Aside0.mk (fun b1 b2 N1 N2 W h1 h2 => Equals_calls b1 N1 (labRev l) b2 N2 (labRev l2) (dk_rev_len hz) W h1 h2)
  have HW := Aside0.mk (fun b1 b2 N1 N2 W h1 h2 => White_calls b1 N1 (labRev l) b2 N2 (labRev l2) (dk_rev_len hz) W h1 h2)
  have HB := Aside0.mk (Below.refl w.heap.size w)
  clear hx hy
  go_enter Tryz.func35, Tryz.ntmps35
  go_wp2_with (first
    | ((with_reducible refine (H1.out _ HX.out).mono ?_); rintro e w1 ⟨rfl, hi, hb⟩; have HI1 := Aside0.mk hi; have HB1 := Aside0.mk (below_step HB.out hb); have HY1 := Aside0.mk (Kd.C_below HY.out hb); clear hi hb H1)
    | ((with_reducible refine (H2.out _ HY1.out).mono ?_); rintro e w2 ⟨rfl, hi, hb⟩; have HI2 := Aside0.mk hi; have HI3 := Aside0.mk (HI1.out.below hb); have HB2 := Aside0.mk (below_step HB1.out hb); clear hi hb H2)
    | ((with_reducible refine (HC.out _ _ _ _ _ HI3.out HI2.out).mono ?_); rintro e w3 ⟨rfl, hb⟩; have HI4 := Aside0.mk (HI3.out.below hb); have HI5 := Aside0.mk (HI2.out.below hb); have HB3 := Aside0.mk (below_step HB2.out hb); clear hb HC)
    | ((with_reducible refine (HE.out _ _ _ _ _ HI4.out HI5.out).mono ?_); rintro e w4 ⟨rfl, hb⟩; have HI6 := Aside0.mk (HI4.out.below hb); have HI7 := Aside0.mk (HI5.out.below hb); have HB4 := Aside0.mk (below_step HB3.out hb); clear hb HE)
    | ((with_reducible refine (HW.out _ _ _ _ _ HI6.out HI7.out).mono ?_); rintro e w5 ⟨rfl, hb⟩; have HB5 := Aside0.mk (below_step HB4.out hb); clear hb HW))
  refine bodyPost_ret (v := bothV l l2) (by simp [results, Tryz.results35, go_sem, bothV]) rfl ?_
  exact ⟨rfl, HB5.out⟩
end Go.Proofs.YthfjolafikgpoaaGreatDoor.Hand

/- Labels by their keys: what stands in the list, and where. No program in sight. -/
namespace Go.Proofs.YthfjolafikgpoaaGreatDoor.Hand
open Go.RowKit Go.Maps Go.Proofs.YthfjolafikgpoaaGreatDoorW.PrintWords Go.Proofs.YthfjolafikgpoaaGreatDoorW.PrintLast Go.Proofs.YthfjolafikgpoaaGreatDoorW.PrintMore Go.Proofs.YthfjolafikgpoaaGreatDoor.Base
open Go.Sort (ltStr)
set_option linter.unusedVariables false
set_option linter.unusedSimpArgs false
theorem irr (x : L) : ltStr x x = false := Go.Sort.swo_ltStr.irrefl x
theorem trn {x y z : L} (h : ltStr x y = true) (h2 : ltStr y z = true) : ltStr x z = true := Go.Sort.swo_ltStr.trans x y z h h2
theorem tri {x y : L} (h : ¬ ltStr x y = true) (e : x ≠ y) : ltStr y x = true := by
  cases h2 : ltStr y x
  · simp only [ltStr, decide_eq_true_eq, decide_eq_false_iff_not, List.not_lt] at h h2
    exact absurd (List.le_antisymm h2 h) e
  · rfl
theorem insK_cons (y : LP) (r : List LP) (p : LP) : insK (y :: r) p = if ltStr y.1 p.1 = true then y :: insK r p else if y.1 = p.1 then p :: r else p :: y :: r := by
  by_cases h : ltStr y.1 p.1 = true
  · rw [if_pos h]
    have e : posK (y :: r) p.1 = posK r p.1 + 1 := by show (if _ then _ else _) = _; rw [if_pos h]
    unfold insK
    rw [e]
    simp only [List.getElem?_cons_succ, List.set_cons_succ, List.take_succ_cons, List.drop_succ_cons, List.cons_append]
    split <;> rfl
  · rw [if_neg h]
    have e : posK (y :: r) p.1 = 0 := by show (if _ then _ else _) = _; rw [if_neg h]
    unfold insK
    rw [e]
    simp only [List.getElem?_cons_zero, Option.map_some, List.set_cons_zero, List.take_zero, List.drop_zero, List.nil_append, Option.some.injEq]
def SK (xs : List LP) : Prop := xs.Pairwise fun a b => ltStr a.1 b.1 = true
theorem ins_mem (p : LP) : ∀ (out : List LP), SK out → SK (insK out p) ∧ ∀ q, q ∈ insK out p ↔ q = p ∨ (q ∈ out ∧ q.1 ≠ p.1)
  | [], _ => ⟨by show SK [p]; exact List.pairwise_singleton _ _, fun q => by show q ∈ [p] ↔ _; simp⟩
  | y :: r, h => by
    obtain ⟨h1, h2⟩ := List.pairwise_cons.1 h
    obtain ⟨i1, i2⟩ := ins_mem p r h2
    rw [insK_cons]
    by_cases e : ltStr y.1 p.1 = true
    · rw [if_pos e]
      have hne : y.1 ≠ p.1 := fun e2 => by rw [e2, irr] at e; cases e
      refine ⟨List.pairwise_cons.2 ⟨fun q hq => ?_, i1⟩, fun q => ?_⟩
      · rcases (i2 q).1 hq with rfl | ⟨hq, _⟩
        · exact e
        · exact h1 q hq
      · rw [List.mem_cons, i2, List.mem_cons]
        constructor
        · rintro (rfl | rfl | ⟨a, b⟩)
          · exact .inr ⟨.inl rfl, hne⟩
          · exact .inl rfl
          · exact .inr ⟨.inr a, b⟩
        · rintro (rfl | ⟨rfl | a, b⟩)
          · exact .inr (.inl rfl)
          · exact .inl rfl
          · exact .inr (.inr ⟨a, b⟩)
    · rw [if_neg e]
      by_cases e2 : y.1 = p.1
      · rw [if_pos e2]
        refine ⟨List.pairwise_cons.2 ⟨fun q hq => by rw [← e2]; exact h1 q hq, h2⟩, fun q => ?_⟩
        rw [List.mem_cons, List.mem_cons]
        constructor
        · rintro (rfl | a)
          · exact .inl rfl
          · exact .inr ⟨.inr a, fun e3 => by have := h1 q a; rw [e3, e2, irr] at this; cases this⟩
        · rintro (rfl | ⟨rfl | a, b⟩)
          · exact .inl rfl
          · exact absurd e2 b
          · exact .inr a
      · rw [if_neg e2]
        have hlt : ltStr p.1 y.1 = true := tri e e2
        refine ⟨List.pairwise_cons.2 ⟨fun q hq => ?_, h⟩, fun q => ?_⟩
        · rcases List.mem_cons.1 hq with rfl | hq
          · exact hlt
          · exact trn hlt (h1 q hq)
        · rw [List.mem_cons]
          constructor
          · rintro (rfl | a)
            · exact .inl rfl
            · refine .inr ⟨a, fun e3 => ?_⟩
              rcases List.mem_cons.1 a with rfl | a
              · exact e2 e3
              · have := trn hlt (h1 q a)
                rw [e3, irr] at this; cases this
          · rintro (rfl | ⟨a, b⟩)
            · exact .inl rfl
            · exact .inr a
theorem keyL_mem (l : List LP) : SK (keyL l) ∧ ∀ k v, (k, v) ∈ keyL l ↔ mget l.reverse k = some v := by
  have h : ∀ n, n ≤ l.length → SK (keyL (l.take n)) ∧ ∀ k v, (k, v) ∈ keyL (l.take n) ↔ mget (l.take n).reverse k = some v := by
    intro n
    induction n with
    | zero => exact fun _ => ⟨List.Pairwise.nil, fun k v => by show (k, v) ∈ ([] : List LP) ↔ mget [] k = some v; simp [mget]⟩
    | succ n ih =>
      intro hn
      obtain ⟨i1, i2⟩ := ih (by omega)
      obtain ⟨p, hp⟩ : ∃ p, l[n]? = some p := ⟨_, List.getElem?_eq_getElem (by omega)⟩
      have hs := keyL_snoc hp
      have hr : (l.take (n + 1)).reverse = p :: (l.take n).reverse := by rw [List.take_add_one, hp]; simp
      rw [hs, hr]
      obtain ⟨j1, j2⟩ := ins_mem p _ i1
      refine ⟨j1, fun k v => ?_⟩
      obtain ⟨pk, pv⟩ := p
      rw [j2, mget_cons, i2]
      by_cases e : pk = k
      · subst e; rw [if_pos rfl]; simp [eq_comm]
      · rw [if_neg e]
        constructor
        · rintro (h | h)
          · exact absurd (Prod.mk.inj h).1.symm e
          · exact h.1
        · exact fun h => .inr ⟨h, fun e2 => e e2.symm⟩
  have := h l.length (Nat.le_refl _)
  rwa [List.take_length] at this
theorem sk_ext : ∀ {xs ys : List LP}, SK xs → SK ys → (∀ q, q ∈ xs ↔ q ∈ ys) → xs = ys
  | [], [], _, _, _ => rfl
  | [], y :: ys, _, _, h => by have := (h y).2 List.mem_cons_self; cases this
  | x :: xs, [], _, _, h => by have := (h x).1 List.mem_cons_self; cases this
  | x :: xs, y :: ys, hx, hy, h => by
    obtain ⟨a1, a2⟩ := List.pairwise_cons.1 hx
    obtain ⟨b1, b2⟩ := List.pairwise_cons.1 hy
    have e : x = y := by
      rcases List.mem_cons.1 ((h x).1 List.mem_cons_self) with e | m1
      · exact e
      · rcases List.mem_cons.1 ((h y).2 List.mem_cons_self) with e | m2
        · exact e.symm
        · have := trn (a1 y m2) (b1 x m1)
          rw [irr] at this; cases this
    subst e
    rw [sk_ext a2 b2 fun q => ?_]
    constructor
    · intro m
      rcases List.mem_cons.1 ((h q).1 (List.mem_cons_of_mem _ m)) with rfl | m2
      · have := a1 _ m; rw [irr] at this; cases this
      · exact m2
    · intro m
      rcases List.mem_cons.1 ((h q).2 (List.mem_cons_of_mem _ m)) with rfl | m2
      · have := b1 _ m; rw [irr] at this; cases this
      · exact m2
/-- A list of labels by their keys, looked up. -/
theorem mget_keyL (l : List LP) (k : L) : mget (keyL l).reverse k = mget l.reverse k := by
  obtain ⟨h1, h2⟩ := keyL_mem l
  have hin : ∀ v, mget (keyL l).reverse k = some v → (k, v) ∈ keyL l := by
    intro v hv
    unfold mget at hv
    obtain ⟨q, hq, hv⟩ := Option.map_eq_some_iff.1 hv
    have hm := List.mem_reverse.1 (List.mem_of_find?_eq_some hq)
    have he := List.find?_some hq
    have e1 : q.1 = k := by simpa using he
    rw [← e1, ← hv]; exact hm
  cases hg : mget l.reverse k with
  | some v =>
    have hm := (h2 k v).2 hg
    cases hg2 : mget (keyL l).reverse k with
    | none =>
      unfold mget at hg2
      rw [Option.map_eq_none_iff, List.find?_eq_none] at hg2
      have := hg2 (k, v) (List.mem_reverse.2 hm)
      simp at this
    | some v' =>
      have := (h2 k v').1 (hin v' hg2)
      rw [hg] at this; exact this.symm
  | none =>
    cases hg2 : mget (keyL l).reverse k with
    | none => rfl
    | some v' =>
      have := (h2 k v').1 (hin v' hg2)
      rw [hg] at this; cases this
end Go.Proofs.YthfjolafikgpoaaGreatDoor.Hand

/-
  DERIVED: THE SHELF's CONTRACTS AT THIS DUMP, IN PLAIN WORDS (tools/lay-plain.mjs out of 'TryzSortF.lean', which tools/lay-shelf.mjs wrote): THE SAME DECLARATIONS UNDER THE SAME NAMES: 'import', 'namespace', 'open', 'def', 'theorem' AND NOTHING ELSE: no command of the shelf's: FOR A HAND-IN. Each laying: the table of numbers ('.._ren') and one theorem, a field a fact of the dump's own or the kernel's comparison; each contract: ONE APPLICATION.
-/
namespace Go.Proofs
open Go.Shelf
def Tryz.sortPr_ren : Go.Shelf.Ren := ⟨fun | 6 => 96 | 15 => 113 | 14 => 112 | 28 => 142 | 29 => 143 | 20 => 134 | 21 => 135 | 22 => 136 | 23 => 137 | 24 => 138 | 25 => 139 | 26 => 140 | 27 => 141 | 46 => 162 | 47 => 163 | 48 => 164 | 49 => 165 | 50 => 166 | 57 => 185 | n => n, fun | 22 => 37 | 24 => 42 | 25 => 147 | 3 => 3 | 39 => 162 | 0 => 0 | 53 => 199 | 55 => 159 | 4 => 4 | 46 => 192 | 45 => 191 | 50 => 196 | 5 => 5 | 9 => 9 | 66 => 226 | 70 => 80 | 76 => 239 | 77 => 240 | n => n, fun | n => n⟩
theorem Tryz.sortPr : Go.Proofs.SlLaysF0.n6 Tryz.prog Tryz.sortPr_ren := {
  mixed := by kernel_rfl
  f6 := ⟨Tryz.f96.name, by decide, Tryz.func96.trans (congrArg some (by kernel_rfl))⟩
  f14 := ⟨Tryz.f112.name, by decide, Tryz.func112.trans (congrArg some (by kernel_rfl))⟩
  f15 := Tryz.func113.trans (congrArg some (by kernel_rfl))
  f20 := ⟨Tryz.f134.name, by decide, Tryz.func134.trans (congrArg some (by kernel_rfl))⟩
  f21 := ⟨Tryz.f135.name, by decide, Tryz.func135.trans (congrArg some (by kernel_rfl))⟩
  f22 := ⟨Tryz.f136.name, by decide, Tryz.func136.trans (congrArg some (by kernel_rfl))⟩
  f23 := ⟨Tryz.f137.name, by decide, Tryz.func137.trans (congrArg some (by kernel_rfl))⟩
  f24 := ⟨Tryz.f138.name, by decide, Tryz.func138.trans (congrArg some (by kernel_rfl))⟩
  f25 := ⟨Tryz.f139.name, by decide, Tryz.func139.trans (congrArg some (by kernel_rfl))⟩
  f26 := ⟨Tryz.f140.name, by decide, Tryz.func140.trans (congrArg some (by kernel_rfl))⟩
  f27 := ⟨Tryz.f141.name, by decide, Tryz.func141.trans (congrArg some (by kernel_rfl))⟩
  f28 := Tryz.func142.trans (congrArg some (by kernel_rfl))
  f29 := Tryz.func143.trans (congrArg some (by kernel_rfl))
  f46 := ⟨Tryz.f162.name, by decide, Tryz.func162.trans (congrArg some (by kernel_rfl))⟩
  f47 := Tryz.func163.trans (congrArg some (by kernel_rfl))
  f48 := Tryz.func164.trans (congrArg some (by kernel_rfl))
  f49 := ⟨Tryz.f165.name, by decide, Tryz.func165.trans (congrArg some (by kernel_rfl))⟩
  f50 := ⟨Tryz.f166.name, by decide, Tryz.func166.trans (congrArg some (by kernel_rfl))⟩
  f57 := ⟨Tryz.f185.name, by decide, Tryz.func185.trans (congrArg some (by kernel_rfl))⟩
  t0 := Tryz.underlying0
  a0 := Tryz.isAgg0
  z0 := Tryz.sizeOf0
  v0 := Tryz.zeroValue0
  t3 := Tryz.underlying3
  a3 := Tryz.isAgg3
  z3 := Tryz.sizeOf3
  v3 := Tryz.zeroValue3
  t4 := Tryz.underlying4
  a4 := Tryz.isAgg4
  z4 := Tryz.sizeOf4
  v4 := Tryz.zeroValue4
  t5 := Tryz.underlying5
  a5 := Tryz.isAgg5
  z5 := Tryz.sizeOf5
  v5 := Tryz.zeroValue5
  t9 := Tryz.underlying9
  a9 := Tryz.isAgg9
  z9 := Tryz.sizeOf9
  v9 := Tryz.zeroValue9
  t22 := Tryz.underlying37
  a22 := Tryz.isAgg37
  z22 := Tryz.sizeOf37
  v22 := Tryz.zeroValue37
  t25 := Tryz.underlying147
  a25 := Tryz.isAgg147
  z25 := Tryz.sizeOf147
  v25 := Tryz.zeroValue147
  t39 := Tryz.underlying162
  a39 := Tryz.isAgg162
  z39 := Tryz.sizeOf162
  v39 := Tryz.zeroValue162
  t45 := Tryz.underlying191
  a45 := Tryz.isAgg191
  z45 := Tryz.sizeOf191
  v45 := Tryz.zeroValue191
  t46 := Tryz.underlying192
  a46 := Tryz.isAgg192
  z46 := Tryz.sizeOf192
  v46 := Tryz.zeroValue192
  t50 := Tryz.underlying196
  a50 := Tryz.isAgg196
  z50 := Tryz.sizeOf196
  v50 := Tryz.zeroValue196
  t53 := Tryz.underlying199
  a53 := Tryz.isAgg199
  z53 := Tryz.sizeOf199
  v53 := Tryz.zeroValue199
  t55 := Tryz.underlying159
  a55 := Tryz.isAgg159
  z55 := Tryz.sizeOf159
  v55 := Tryz.zeroValue159
  t66 := Tryz.underlying226
  a66 := Tryz.isAgg226
  z66 := Tryz.sizeOf226
  v66 := Tryz.zeroValue226
  t70 := Tryz.underlying80
  a70 := Tryz.isAgg80
  z70 := Tryz.sizeOf80
  v70 := Tryz.zeroValue80
  t76 := Tryz.underlying239
  a76 := Tryz.isAgg239
  z76 := Tryz.sizeOf239
  v76 := Tryz.zeroValue239
  t77 := Tryz.underlying240
  a77 := Tryz.isAgg240
  z77 := Tryz.sizeOf240
  v77 := Tryz.zeroValue240 }
end Go.Proofs

/- slices.SortFunc over pairs, by their keys: cmp.Compare of texts, the closure of impl.pairs, and what the row holds behind it. -/
namespace Go.Proofs.YthfjolafikgpoaaGreatDoor.Hand
open Go.RowKit Go.Maps Go.Proofs.YthfjolafikgpoaaGreatDoorW.PrintWords Go.Proofs.YthfjolafikgpoaaGreatDoorW.PrintLast Go.Proofs.YthfjolafikgpoaaGreatDoorW.PrintMore Go.Proofs.YthfjolafikgpoaaGreatDoor.Base
open Go.Sort (ltStr SWO PermIn SortedIn Holds putRow HoldsK putRowK flatK)
set_option linter.unusedVariables false
set_option linter.unusedSimpArgs false
set_option maxRecDepth 100000
/-- A pair's two cells. -/
def encLP (p : LP) : List Value := [.string (mk p.1), .string (mk p.2)]
/-- Pairs compared by their keys. -/
def cmpK (x y : LP) : Int := if ltStr x.1 y.1 then -1 else if ltStr y.1 x.1 then 1 else 0
theorem ltOf_cmpK (x y : LP) : ltOf cmpK x y = ltStr x.1 y.1 := by
  unfold ltOf cmpK
  cases h : ltStr x.1 y.1 <;> cases h2 : ltStr y.1 x.1 <;> simp
theorem swo_cmpK : SWO (ltOf cmpK) where
  irrefl x := by rw [ltOf_cmpK]; exact Go.Sort.swo_ltStr.irrefl x.1
  trans x y z h1 h2 := by rw [ltOf_cmpK] at *; exact Go.Sort.swo_ltStr.trans x.1 y.1 z.1 h1 h2
  ntrans x y z h1 h2 := by rw [ltOf_cmpK] at *; exact Go.Sort.swo_ltStr.ntrans x.1 y.1 z.1 h1 h2
theorem encP_at (xs : List (ByteArray × ByteArray)) (j r : Nat) (hj : j < xs.length) (hr : r < 2) : (encP xs)[j * 2 + r]? = some (if r = 0 then .string xs[j].1 else .string xs[j].2) := by
  rw [← List.getElem?_drop, encP_drop, List.drop_eq_getElem_cons hj]
  match r, hr with
  | 0, _ => rfl
  | 1, _ => rfl
theorem flat_at (d : Array LP) (t : Nat) (ht : t < d.size * 2) : (encP (d.toList.map mkP))[t]? = some (flatK encLP 2 d)[t]! := by
  have hj : t / 2 < d.size := by omega
  have e : t = t / 2 * 2 + t % 2 := by omega
  rw [Go.Sort.get_flatK _ _ _ t ht]
  conv => lhs; rw [e]
  rw [encP_at _ (t / 2) (t % 2) (by simpa using hj) (by omega), getElem!_pos d (t / 2) hj]
  rcases (show t % 2 = 0 ∨ t % 2 = 1 by omega) with h | h <;> rw [h] <;> simp [encLP]
theorem pk_holds {e : Nat} {W : World} {base g cap : Nat} {l : List LP} (hR : PK.R e W base (fun _ => True) (.slice (some ⟨g, 0, none⟩) l.length cap) (l.map mkP)) : HoldsK encLP 2 W g 0 l.toArray := by
  intro t ht
  rw [Go.Sort.size_flatK] at ht
  have hown := pk_own hR
  obtain ⟨hl, ⟨e0, _⟩ | ⟨g', cap', cur, e0, hbase, hcur, hn, hcm, hsz, htk⟩⟩ := hown
  · exact absurd e0 (by simp)
  · have hg : g' = g := by
      simp only [Value.slice.injEq, Option.some.injEq, Addr.mk.injEq] at e0
      exact e0.1.1.symm
    subst hg
    rw [Nat.zero_add]
    have h1 := flat_at l.toArray t ht
    rw [List.length_map] at htk
    have ht2 : t < l.length * 2 := by simpa using ht
    refine ⟨(blk_cell hcur _).trans ?_, blk_frozen hcur _⟩
    show _ = some (flatK encLP 2 l.toArray)[t]!
    rw [← h1, ← Array.getElem?_toList, ← List.getElem?_take_of_lt ht2, htk]
theorem pk_putK {e : Nat} {W : World} {base g cap : Nat} {l : List LP} (hR : PK.R e W base (fun _ => True) (.slice (some ⟨g, 0, none⟩) l.length cap) (l.map mkP)) (d : Array LP) (hd : d.size = l.length) (n : Nat) (os : Array Obj) :
    PK.R e (sortWorldK encLP 2 W g 0 n d os) base (fun _ => True) (.slice (some ⟨g, 0, none⟩) l.length cap) (d.toList.map mkP) ∧ W.grownBy (sortWorldK encLP 2 W g 0 n d os) (some g) := by
  have hown := pk_own hR
  rw [List.length_map] at hown
  obtain ⟨hl, ⟨e0, _⟩ | ⟨g', cap', cur, e0, hbase, hcur, hn, hcm, hsz, htk⟩⟩ := hown
  · exact absurd e0 (by simp)
  · have hg : g' = g ∧ cap' = cap := by
      simp only [Value.slice.injEq, Option.some.injEq, Addr.mk.injEq] at e0
      exact ⟨e0.1.1.symm, e0.2.2.symm⟩
    obtain ⟨rfl, rfl⟩ := hg
    have hlt : g' < W.heap.size := blk_lt hcur
    have hput : (sortWorldK encLP 2 W g' 0 n d os).heap[g']? = some (.cells (Sort.putCells id 0 (flatK encLP 2 d) cur) e (0, 0)) := by
      unfold sortWorldK putRowK
      rw [Sort.heap_grow_old _ _ (by simpa using hlt)]
      unfold Sort.putRow Sort.mapBlock
      simp [Array.getElem?_modify, hcur, Sort.onCells]
    refine ⟨pk_of_own ?_, rfl, rfl, rfl, by unfold sortWorldK putRowK; simp, fun i hi hne => ?_⟩
    · rw [show (d.toList.map mkP).length = l.length by simp [hd]]
      refine ⟨by rw [encP_len]; simp [hd], .inr ⟨g', cap', Sort.putCells id 0 (flatK encLP 2 d) cur, rfl, hbase, hput, hn, hcm, by simp [Sort.putCells, hsz], ?_⟩⟩
      apply List.ext_getElem?
      intro k
      by_cases hk : k < l.length * 2
      · have hkc : k < cur.size := by omega
        rw [List.getElem?_take_of_lt hk, flat_at d k (by omega)]
        simp [Sort.putCells, hk, hkc, hd]
      · rw [List.getElem?_eq_none (by simp; omega), List.getElem?_eq_none (by rw [encP_len]; simp [hd]; omega)]
    · unfold sortWorldK putRowK
      rw [Sort.heap_grow_old _ _ (by simpa using hi)]
      unfold Sort.putRow Sort.mapBlock
      have : g' ≠ i := fun h => hne (by rw [h])
      simp [Array.getElem?_modify, this]
theorem isNaN_calls (a : ByteArray) (W : World) : Calls Tryz.prog 114 #[.string a] W fun e w' => e = .returned (.bool false) ∧ w' = W := by
  go_enter Tryz.func114, Tryz.ntmps114
  go_wp2
  go_ret
  exact ⟨by simp, rfl⟩
set_option maxHeartbeats 2000000 in
theorem Compare_calls (a b : ByteArray) (W : World) : Calls Tryz.prog 98 #[.string a, .string b] W fun e w' => e = .returned (.int .i64 (cmpK (a.toList, []) (b.toList, []))) ∧ w' = W := by
  have H1 := Aside0.mk (isNaN_calls a)
  have H2 := Aside0.mk (isNaN_calls b)
  obtain ⟨p, hp⟩ : ∃ p, ltStr a.toList b.toList = p := ⟨_, rfl⟩
  obtain ⟨q, hq⟩ : ∃ q, ltStr b.toList a.toList = q := ⟨_, rfl⟩
  have hpb : Op.bytesLess a.toList b.toList = p := by rw [← hp]; simp [Sort.ltStr, bytesLess_eq]
  have hqb : Op.bytesLess b.toList a.toList = q := by rw [← hq]; simp [Sort.ltStr, bytesLess_eq]
  rw [show cmpK (a.toList, []) (b.toList, []) = if p then -1 else if q then 1 else 0 from by rw [← hp, ← hq]; rfl]
  have hg0 : (!(Op.bytesLess a.toList b.toList || a.toList == b.toList)) = q := by
    rw [hpb]
    cases p with
    | true =>
      cases q with
      | false => rfl
      | true => exact absurd (trn hp hq) (by rw [irr]; simp)
    | false =>
      by_cases e : a.toList = b.toList
      · rw [e, irr] at hq
        rw [e, ← hq]; simp
      · have := tri (x := a.toList) (y := b.toList) (by rw [hp]; simp) e
        rw [this] at hq
        rw [← hq, beq_eq_false_iff_ne.2 e]; rfl
  have hgt : ∀ W, (binOp .gtr 9 (.string a) (.string b)).run Tryz.prog W = .ok (.bool q) W := fun W => by
    rw [← hg0]; simp [binOp, Op.stringOp, go_sem]
  clear hp hq hg0
  cases p <;> cases q <;>
  (go_enter Tryz.func98, Tryz.ntmps98
   go_wp2_with (first | ((with_reducible refine (H1.out _).mono ?_); rintro e w1 ⟨rfl, rfl⟩) | ((with_reducible refine (H2.out _).mono ?_); rintro e w1 ⟨rfl, rfl⟩))
   go_ret
   exact ⟨rfl, rfl⟩)
set_option maxHeartbeats 2000000 in
theorem cmpP_calls (x y : LP) (W : World) : Calls Tryz.prog 97 #[.agg #[.string (mk x.1), .string (mk x.2)], .agg #[.string (mk y.1), .string (mk y.2)]] W fun e w' => e = .returned (.int .i64 (cmpK x y)) ∧ ∃ q os', w' = Sort.grow (W.drewN q) os' := by
  have hc : cmpK x y = cmpK ((mk x.1).toList, []) ((mk y.1).toList, []) := by rw [mk_toList, mk_toList]; rfl
  rw [hc]
  have HC := Aside0.mk (fun W' => Compare_calls (mk x.1) (mk y.1) W')
  generalize cmpK ((mk x.1).toList, []) ((mk y.1).toList, []) = r at *
  clear hc
  go_enter Tryz.func97, Tryz.ntmps97
  go_wp2_with (first | ((with_reducible refine (HC.out _).mono ?_); rintro e w1 ⟨rfl, rfl⟩))
  go_ret
  exact ⟨rfl, 0, _, by rw [Sort.alloc_eq_grow, Sort.alloc_eq_grow, Sort.grow_grow]; rfl⟩
set_option maxHeartbeats 2000000 in
theorem insF_none (p : Option Addr) (cap : Nat) (fv : Value) (w : World) :
    Calls Tryz.prog 134 #[.slice p 0 cap, .int .i64 0, .int .i64 0, fv] w fun e w' => e = .returned (.tuple #[]) ∧ w' = w := by
  go_enter Tryz.func134, Tryz.ntmps134
  go_wp2
  refine wp_loop_rounds 1 ?_
  rw [rounds_succ]
  go_wp2
  go_end0
  exact ⟨rfl, rfl⟩
set_option maxHeartbeats 2000000 in
theorem pdqF_none (p : Option Addr) (cap : Nat) (lim : Int) (fv : Value) (w : World) :
    Calls Tryz.prog 112 #[.slice p 0 cap, .int .i64 0, .int .i64 0, .int .i64 lim, fv] w fun e w' => e = .returned (.tuple #[]) ∧ w' = w := by
  have HI := Aside0.mk (fun W => insF_none p cap fv W)
  go_enter Tryz.func112, Tryz.ntmps112
  go_wp2
  refine wp_loop_rounds 1 ?_
  rw [rounds_succ]
  go_wp2_with (first | ((with_reducible refine (HI.out _).mono ?_); rintro e w1 ⟨rfl, rfl⟩))
  (try simp only [Exit.inBlock, Exit.then]); refine bodyPost_ret (results_none rfl _ _ _) rfl ?_
  exact ⟨rfl, rfl⟩
set_option maxHeartbeats 2000000 in
theorem sortF_none (p : Option Addr) (cap : Nat) (fv : Value) (w : World) :
    Calls Tryz.prog 96 #[.slice p 0 cap, fv] w fun e w' => e = .returned (.tuple #[]) ∧ w' = w := by
  have HP := Aside0.mk (fun lim W => pdqF_none p cap lim fv W)
  have HL := Aside0.mk (fun W => Tryz.bits_Len 0 W (by omega) (by omega))
  go_enter Tryz.func96, Tryz.ntmps96
  go_wp2_with (first | ((with_reducible refine (HL.out _).mono ?_); rintro e w1 ⟨rfl, rfl⟩) | ((with_reducible refine (HP.out _ _).mono ?_); rintro e w1 ⟨rfl, rfl⟩))
  go_end0
  exact ⟨rfl, rfl⟩
theorem sortF_calls (l : List LP) (W : World) (base : Nat) (v : Value) (hR : PK.R 42 W base (fun _ => True) v (l.map mkP)) (hn : l.length ≤ 1000000) :
    Calls Tryz.prog 96 #[v, .func (.func 97) #[] #[]] W fun e w' => e = .returned (.tuple #[]) ∧ ∃ l' : List LP, l'.Perm l ∧ l'.Pairwise (fun a b => ltStr b.1 a.1 = false) ∧ PK.R 42 w' base (fun _ => True) v (l'.map mkP) ∧ W.grownBy w' v.ownBlock := by
  by_cases h2 : 1 ≤ l.length
  · obtain ⟨g, cap, rfl, hbg, hlt, _⟩ := Kd.R_form hR (by rw [List.length_map]; omega)
    rw [List.length_map] at hR ⊢
    have eg : ∀ args w, (callFunc 97 args).run Tryz.prog w = .ok (.enter 97 args) w := enters_of Tryz.func97 (by kernel_rfl) rfl
    have hcon := AnyQ.slices_SortFunc Tryz.sortPr 2 (fun _ => by kernel_rfl) (fun _ => by kernel_rfl) encLP (fun _ => rfl) (fun x v hv => by simp [encLP] at hv; rcases hv with rfl | rfl <;> rfl) cmpK swo_cmpK 97 #[] g 0 cap l.toArray W eg (fun _ _ _ _ x y => cmpP_calls x y _) (pk_holds hR) hlt (by simp; omega)
    change Calls Tryz.prog 96 _ _ _ at hcon
    have hcs : l.toArray.size = l.length := by simp
    rw [hcs] at hcon
    refine hcon.mono ?_
    rintro e w' ⟨rfl, d', n, os, hP, hS, rfl⟩
    have hsz : d'.size = l.length := by have := hP.1; simpa using this
    have hp := hP.2.2
    obtain ⟨r1, r2⟩ := pk_putK hR d' hsz n os
    refine ⟨rfl, d'.toList, ?_, ?_, r1, r2⟩
    · have e1 : (d'.extract 0 l.length).toList = d'.toList := by rw [← hsz, Array.extract_size]
      have e2 : (l.toArray.extract 0 l.length).toList = l := by rw [← hcs, Array.extract_size]
      rw [e1, e2] at hp
      exact hp
    · rw [List.pairwise_iff_getElem]
      intro i j hi hj hij
      have := hS i j (Nat.zero_le _) hij (by rw [← hsz]; simpa using hj)
      rw [getElem!_pos d' i (by simpa using hi), getElem!_pos d' j (by simpa using hj), ltOf_cmpK] at this
      simpa using this
  · have hl : l = [] := List.eq_nil_of_length_eq_zero (by omega)
    subst hl
    obtain ⟨A, c, rfl⟩ := Kd.R_slice hR
    refine (sortF_none A c (.func (.func 97) #[] #[]) W).mono ?_
    rintro e w' ⟨rfl, rfl⟩
    exact ⟨rfl, [], List.Perm.refl _, List.Pairwise.nil, hR, World.grownBy.refl _ _⟩
end Go.Proofs.YthfjolafikgpoaaGreatDoor.Hand

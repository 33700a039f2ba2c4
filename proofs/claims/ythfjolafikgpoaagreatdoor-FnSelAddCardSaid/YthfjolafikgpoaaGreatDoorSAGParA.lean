/- Reading the tokens of a selector: the parser's functions over the list of what is left of the tokens. -/
import Derived.Test.YthfjolafikgpoaaGreatDoorSALabNew
import Derived.Test.YthfjolafikgpoaaGreatDoorSALabSetOf
import Derived.Test.YthfjolafikgpoaaGreatDoorSAGSelA
import Derived.Test.YthfjolafikgpoaaGreatDoorSAGSetA
import Derived.RegionTactic
import Derived.Test.YthfjolafikgpoaaGreatDoorSAM10
import Derived.OwnWalk
namespace Go.Proofs.YthfjolafikgpoaaGreatDoor.Hand
open Go.RowKit Go.Proofs.YthfjolafikgpoaaGreatDoor.Base
set_option linter.unusedVariables false
set_option linter.unusedSimpArgs false
def vk (k : Nat) : Nat := if k = 9 ∨ k = 12 then 8 else k
abbrev Tk := Nat × L
abbrev ePos (ts : List Tk) : Bool := match ts with | (k, _) :: _ => vk k = 1 || vk k = 3 | [] => false
def pKey : List Tk → Option (L × L × List Tk)
 | [] => none
 | (k, s) :: ts => if vk k = 4 then (match ts with
     | [] => none
     | (k2, s2) :: ts2 => if vk k2 = 8 then (if pQ s2 then some (s2, [33], ts2) else none) else none)
   else if vk k = 8 then (if pQ s then some (s, if ePos ts then [101, 120, 105, 115, 116, 115] else [], ts) else none) else none
def opT (k : Nat) : Option L :=
 if k = 9 then some [105, 110] else if k = 6 then some [61] else if k = 5 then some [61, 61] else if k = 7 then some [103, 116] else if k = 10 then some [108, 116]
 else if k = 12 then some [110, 111, 116, 105, 110] else if k = 11 then some [33, 61] else none
def pOp : List Tk → Option (L × List Tk)
 | [] => none
 | (k, _) :: ts => (opT k).map (·, ts)
def pIds : Nat → List Tk → List L → Option (List L × List Tk)
 | 0, _, _ => none
 | _ + 1, [], _ => none
 | m + 1, (k, s) :: ts, ks => if vk k = 8 then (match ts with
     | [] => none
     | (k2, _) :: _ => if vk k2 = 3 then pIds m ts (addK ks s) else if vk k2 = 2 then some (addK ks s, ts) else none)
   else if vk k = 3 then (match ts with
     | [] => none
     | (k2, _) :: ts2 => if vk k2 = 2 then some (addK (if ks = [] then [[]] else ks) [], ts)
       else if vk k2 = 3 then pIds m ts2 (addK (if ks = [] then [[]] else ks) [])
       else pIds m ts (if ks = [] then [[]] else ks))
   else none
def pVals : List Tk → Option (List L × List Tk)
 | [] => none
 | (k, _) :: ts => if vk k = 13 then (match ts with
     | [] => none
     | (k2, _) :: ts2 => if vk k2 = 8 ∨ vk k2 = 3 then (match pIds ts.length ts [] with
         | some (ks, (k3, _) :: ts3) => if vk k3 = 2 then some (ks, ts3) else none
         | _ => none)
       else if vk k2 = 2 then some ([[]], ts2) else none)
   else none
def pOne : List Tk → Option (List L × List Tk)
 | [] => none
 | (k, s) :: ts => if vk k = 1 ∨ vk k = 3 then some ([[]], (k, s) :: ts) else if vk k = 8 then some ([s], ts) else none
abbrev Rq := L × L × List L
def pReq (ts : List Tk) : Option (Rq × List Tk) := match pKey ts with
 | none => none
 | some (key, op, ts1) => if op = [] then (match pOp ts1 with
     | none => none
     | some (op, ts2) => match (if op = [105, 110] ∨ op = [110, 111, 116, 105, 110] then pVals ts2 else pOne ts2) with
       | none => none
       | some (ks, ts3) => if fairR key op (setL ks) then some ((key, op, setL ks), ts3) else none)
   else if fairR key op [] then some ((key, op, []), ts1) else none
def pAll : Nat → List Tk → Option (List Rq)
 | 0, _ => none
 | _ + 1, [] => none
 | m + 1, (k, s) :: ts => if vk k = 8 ∨ vk k = 4 then (match pReq ((k, s) :: ts) with
     | some (r, (k1, _) :: ts1) => if vk k1 = 1 then some [r]
       else if vk k1 = 3 then (match ts1 with
         | (k2, _) :: _ => if vk k2 = 8 ∨ vk k2 = 4 then (pAll m ts1).map (r :: ·) else none
         | [] => none)
       else none
     | _ => none)
   else if vk k = 1 then some [] else none
theorem pKey_tail {ts ts' : List Tk} {k o : L} (h : pKey ts = some (k, o, ts')) : ∃ p, 1 ≤ p ∧ ts' = ts.drop p := by
 unfold pKey at h
 split at h
 · cases h
 · rename_i k1 s1 ts1
   split at h
   · split at h
     · cases h
     · rename_i k2 s2 ts2
       split at h
       · split at h
         · simp only [Option.some.injEq, Prod.mk.injEq] at h
           exact ⟨2, by omega, h.2.2.symm⟩
         · cases h
       · cases h
   · split at h
     · split at h
       · simp only [Option.some.injEq, Prod.mk.injEq] at h
         exact ⟨1, by omega, h.2.2.symm⟩
       · cases h
     · cases h
theorem pOp_tail {ts ts' : List Tk} {o : L} (h : pOp ts = some (o, ts')) : ∃ p, 1 ≤ p ∧ ts' = ts.drop p := by
 unfold pOp at h
 split at h
 · cases h
 · cases e : opT _ with
   | none => rw [e] at h; cases h
   | some v => rw [e] at h; simp only [Option.map_some, Option.some.injEq, Prod.mk.injEq] at h; exact ⟨1, by omega, h.2.symm⟩
theorem pOne_tail {ts ts' : List Tk} {o : List L} (h : pOne ts = some (o, ts')) : ∃ p, ts' = ts.drop p := by
 unfold pOne at h
 split at h
 · cases h
 · split at h
   · simp only [Option.some.injEq, Prod.mk.injEq] at h; exact ⟨0, h.2.symm⟩
   · split at h
     · simp only [Option.some.injEq, Prod.mk.injEq] at h; exact ⟨1, h.2.symm⟩
     · cases h
theorem pIds_tail : ∀ (m : Nat) (ts ts' : List Tk) (ks ks' : List L), pIds m ts ks = some (ks', ts') → ∃ p, 1 ≤ p ∧ ts' = ts.drop p
 | 0, _, _, _, _, h => by cases h
 | m + 1, [], _, _, _, h => by cases h
 | m + 1, (k, s) :: ts, ts', ks, ks', h => by
   unfold pIds at h
   split at h
   · cases ts with
     | nil => cases h
     | cons t ts =>
       simp only at h
       split at h
       · obtain ⟨p, hp, e⟩ := pIds_tail m _ _ _ _ h; exact ⟨p + 1, by omega, by rw [e]; rfl⟩
       · split at h
         · simp only [Option.some.injEq, Prod.mk.injEq] at h; exact ⟨1, by omega, h.2.symm⟩
         · cases h
   · split at h
     · cases ts with
       | nil => cases h
       | cons t ts =>
         simp only at h
         split at h
         · simp only [Option.some.injEq, Prod.mk.injEq] at h; exact ⟨1, by omega, h.2.symm⟩
         · split at h
           · obtain ⟨p, hp, e⟩ := pIds_tail m _ _ _ _ h; exact ⟨p + 2, by omega, by rw [e]; rfl⟩
           · obtain ⟨p, hp, e⟩ := pIds_tail m _ _ _ _ h; exact ⟨p + 1, by omega, by rw [e]; rfl⟩
     · cases h
theorem pVals_tail {ts ts' : List Tk} {o : List L} (h : pVals ts = some (o, ts')) : ∃ p, ts' = ts.drop p := by
 unfold pVals at h
 split at h
 · cases h
 · rename_i k s ts1
   split at h
   · cases ts1 with
     | nil => cases h
     | cons t ts2 =>
       simp only at h
       split at h
       · split at h
         · rename_i ks k3 s3 ts3 e
           split at h
           · simp only [Option.some.injEq, Prod.mk.injEq] at h
             obtain ⟨p, hp, e2⟩ := pIds_tail _ _ _ _ _ e
             refine ⟨p + 2, ?_⟩
             rw [← h.2, show ts3 = ((k3, s3) :: ts3).drop 1 from rfl, e2, List.drop_drop]
             rfl
           · cases h
         · cases h
       · split at h
         · simp only [Option.some.injEq, Prod.mk.injEq] at h; exact ⟨2, h.2.symm⟩
         · cases h
   · cases h
theorem pReq_tail {ts ts' : List Tk} {r : Rq} (h : pReq ts = some (r, ts')) : ∃ p, 1 ≤ p ∧ ts' = ts.drop p := by
 unfold pReq at h
 split at h
 · cases h
 · rename_i key op ts1 e1
   obtain ⟨p, hp, q1⟩ := pKey_tail e1
   split at h
   · split at h
     · cases h
     · rename_i op2 ts2 e2
       obtain ⟨p2, hp2, q2⟩ := pOp_tail e2
       split at h
       · cases h
       · rename_i ks ts3 e3
         have q3 : ∃ p, ts3 = ts2.drop p := by
          split at e3
          · exact pVals_tail e3
          · exact pOne_tail e3
         obtain ⟨p3, q3⟩ := q3
         split at h
         · simp only [Option.some.injEq, Prod.mk.injEq] at h
           exact ⟨p + p2 + p3, by omega, by rw [← h.2, q3, q2, q1, List.drop_drop, List.drop_drop]; congr 1; omega⟩
         · cases h
   · split at h
     · simp only [Option.some.injEq, Prod.mk.injEq] at h
       exact ⟨p, hp, by rw [← h.2, q1]⟩
     · cases h
end Go.Proofs.YthfjolafikgpoaaGreatDoor.Hand
namespace Go.Proofs.YthfjolafikgpoaaGreatDoor.Hand
open Go.RowKit Go.Maps Go.Proofs.YthfjolafikgpoaaGreatDoorW.PrintWords Go.Proofs.YthfjolafikgpoaaGreatDoorW.PrintLast Go.Proofs.YthfjolafikgpoaaGreatDoorW.PrintMore Go.Proofs.YthfjolafikgpoaaGreatDoor.Base
set_option linter.unusedVariables false
set_option linter.unusedSimpArgs false
set_option maxRecDepth 100000
structure Kb (w w' : World) (g : Nat) : Prop where
 out : Below 0 w w'
 ke : KeepBut w w' g none
theorem Kb.trans {a b c : World} {g : Nat} (h : Kb a b g) (k : Kb b c g) : Kb a c g := ⟨h.out.trans k.out, h.ke.trans k.ke (.inl rfl)⟩
theorem Kb.of_below {w w' : World} (h : Below w.heap.size w w') (g : Nat) : Kb w w' g := ⟨h.mono (Nat.zero_le _), KeepBut.of_below h g none⟩
theorem Kb.below {w w' : World} {g B : Nat} (h : Kb w w' g) (hg : B ≤ g) (hb : B ≤ w.heap.size) : Below B w w' :=
 ⟨h.out.os, h.out.tape, h.out.output, h.out.size, fun k hk => h.ke.2 k (by omega) (by omega) (by simp)⟩
theorem Kb.set (w : World) (g j : Nat) (u : Value) : Kb w (w.setCell ⟨g, j, none⟩ u) g := ⟨(Below.refl 0 w).setCell (Nat.zero_le _) _, (KeepBut.refl _ _ _).set_ j u⟩
theorem Kb.drewN {w w' : World} {g : Nat} (h : Kb w w' g) (n : Nat) : Kb w (w'.drewN n) g := ⟨pw_below_drewN h.out n, keep_drewN h.ke n⟩
theorem Kb.size {w w' : World} {g : Nat} (h : Kb w w' g) : w.heap.size ≤ w'.heap.size := h.out.size
def PX (w : World) (pb g : Nat) (T : List Tk) (p : Nat) : Prop :=
 ∃ (A : Option Addr) (c : Nat), w.heap[pb]? = some (.cells #[.pointer (some ⟨g, 0, none⟩), .slice A T.length c, .int .i64 (p : Int)] 154 (0, 0)) ∧ KT.R 203 w 0 (fun k => k ≠ pb) (.slice A T.length c) (toksV T)
theorem PX.lt {w : World} {pb g p : Nat} {T : List Tk} (h : PX w pb g T p) : pb < w.heap.size := by obtain ⟨A, c, h1, _⟩ := h; exact blk_lt h1
theorem PX.below {w w' : World} {pb g p : Nat} {T : List Tk} (h : PX w pb g T p) (hb : Below w.heap.size w w') : PX w' pb g T p := by
 obtain ⟨A, c, h1, h2⟩ := h
 exact ⟨A, c, (hb.block pb (blk_lt h1)).trans h1, Kd.R_below h2 hb⟩
theorem PX.set {w : World} {pb g p : Nat} {T : List Tk} (h : PX w pb g T p) (q : Nat) : PX (w.setCell ⟨pb, 2, none⟩ (.int .i64 (q : Int))) pb g T q := by
 obtain ⟨A, c, h1, h2⟩ := h
 exact ⟨A, c, blk_put h1 2 (.int .i64 (q : Int)) rfl, Kd.R_far (p := ⟨pb, 2, none⟩) h2 (fun k hk => hk) _⟩
theorem px_cells {w : World} {pb g p : Nat} {T : List Tk} (h : PX w pb g T p) :
   ∃ (A : Option Addr) (c : Nat), w.cell? ⟨pb, 1, none⟩ = some (.slice A T.length c) ∧ w.cell? ⟨pb, 2, none⟩ = some (.int .i64 (p : Int)) ∧ w.frozen? ⟨pb, 2, none⟩ = false ∧ T.length ≤ c ∧ KT.C w A T.length (toksV T) := by
 obtain ⟨A, c, h1, h2⟩ := h
 obtain ⟨A', c', e, hl, hr⟩ := Kd.R_reads h2
 rw [List.length_map] at e hl hr
 simp only [Value.slice.injEq] at e
 obtain ⟨rfl, _, rfl⟩ := e
 exact ⟨A, c, (blk_cell h1 1).trans rfl, (blk_cell h1 2).trans rfl, blk_frozen h1 2, hl, hr⟩
theorem px_tok {w : World} {A : Option Addr} {T ts : List Tk} {p k : Nat} {s : L} (h : KT.C w A T.length (toksV T)) (ht : T.drop p = (k, s) :: ts) :
   ∃ ad, A = some ad ∧ w.cell? (ad.add (p * 2)) = some (.int .i64 (k : Int)) ∧ w.cell? ⟨(ad.add (p * 2)).block, (ad.add (p * 2)).off + 1, none⟩ = some (.string (mk s)) := by
 have hp : p < T.length := by
  have := congrArg List.length ht
  rw [List.length_drop, List.length_cons] at this; omega
 have hg : T[p]? = some (k, s) := by
  have := congrArg (fun l => l[0]?) ht
  simpa using this
 obtain ⟨ad, e, k0, k1⟩ := kt_at h p hp
 have hx : (toksV T).getD p (0, ⟨#[]⟩) = ((k : Int), mk s) := by
  rw [List.getD_eq_getElem?_getD, toksV, List.getElem?_map, hg]; rfl
 rw [hx] at k0 k1
 refine ⟨ad, e, k0, ?_⟩
 show w.cell? ((ad.add (p * 2)).add 1) = _
 rw [add_add]; exact k1
theorem vk_id {k : Nat} (h1 : ¬ k = 9) (h2 : ¬ k = 12) : vk k = k := by unfold vk; rw [if_neg (by omega)]
set_option maxHeartbeats 4000000 in
theorem look_calls (pb g p : Nat) (T ts : List Tk) (k : Nat) (s : L) (hT : T.length ≤ 1000000) (ht : T.drop p = (k, s) :: ts) (w : World) (h : PX w pb g T p) :
   Calls Tryz.prog 116 #[.pointer (some ⟨pb, 0, none⟩), .int .i64 1] w fun e w' => e = .returned (.tuple #[.int .i64 ((vk k : Nat) : Int), .string (mk s)]) ∧ Below w.heap.size w w' := by
 obtain ⟨A, c, h1, h2, h3, hc, hC⟩ := px_cells h
 obtain ⟨ad, rfl, k0, k1⟩ := px_tok hC ht
 have hp : p < T.length := by
  have := congrArg List.length ht
  rw [List.length_drop, List.length_cons] at this; omega
 obtain ⟨n, hn⟩ : ∃ n, T.length = n := ⟨_, rfl⟩
 rw [hn] at h1 hp hc hT
 obtain ⟨sv, hsv⟩ : ∃ sv, mk s = sv := ⟨_, rfl⟩
 rw [hsv] at k1 ⊢
 clear hn h hC ht h3 hsv
 by_cases e9 : k = 9
 · have HV : Aside0 (vk k = 8) := ⟨by unfold vk; rw [if_pos (Or.inl e9)]⟩
   subst e9
   go_enter Tryz.func116, Tryz.ntmps116
   go_wp2
   go_region
   go_wp2
   go_ret2
   exact ⟨by rw [HV.out]; rfl, by first | exact Below.refl _ _ | exact pw_below_drewN (Below.refl _ _) _⟩
 by_cases e12 : k = 12
 · have HV : Aside0 (vk k = 8) := ⟨by unfold vk; rw [if_pos (Or.inr e12)]⟩
   subst e12
   go_enter Tryz.func116, Tryz.ntmps116
   go_wp2
   go_region
   go_wp2
   go_ret2
   exact ⟨by rw [HV.out]; rfl, by first | exact Below.refl _ _ | exact pw_below_drewN (Below.refl _ _) _⟩
 have HV := Aside0.mk (vk_id e9 e12)
 have f9 : ((k : Int) == 9) = false := by rw [beq_eq_false_iff_ne]; omega
 have f12 : ((k : Int) == 12) = false := by rw [beq_eq_false_iff_ne]; omega
 clear e9 e12
 go_enter Tryz.func116, Tryz.ntmps116
 go_wp2
 go_region
 go_wp2
 go_ret2
 exact ⟨by rw [HV.out]; rfl, by first | exact Below.refl _ _ | exact pw_below_drewN (Below.refl _ _) _⟩
set_option maxHeartbeats 4000000 in
theorem cons1_calls (pb g p : Nat) (T ts : List Tk) (k : Nat) (s : L) (hT : T.length ≤ 1000000) (ht : T.drop p = (k, s) :: ts) (w : World) (h : PX w pb g T p) :
   Calls Tryz.prog 118 #[.pointer (some ⟨pb, 0, none⟩), .int .i64 1] w fun e w' => e = .returned (.tuple #[.int .i64 ((vk k : Nat) : Int), .string (mk s)]) ∧ PX w' pb g T (p + 1) ∧ Kb w w' pb := by
 have hp : p < T.length := by
  have := congrArg List.length ht
  rw [List.length_drop, List.length_cons] at this; omega
 obtain ⟨_, _, _, i2, i3, _, _⟩ := px_cells h
 have h' := h.set (p + 1)
 have e0 : ((p + 1 : Nat) : Int) = (p : Int) + 1 := by omega
 obtain ⟨A, c, h1, h2, h3, hc, hC⟩ := px_cells h'
 obtain ⟨ad, rfl, k0, k1⟩ := px_tok hC ht
 have HK := Aside0.mk (Kb.set w pb 2 (.int .i64 ((p + 1 : Nat) : Int)))
 rw [e0] at h' h1 h2 k0 k1 HK
 have hw1 : IntKind.i64.wrap ((p : Int) + 1) = (p : Int) + 1 := by rw [IntKind.wrap_i64]; omega
 have hw2 : IntKind.i64.wrap ((p : Int) + 1 - 1) = (p : Int) := by rw [IntKind.wrap_i64]; omega
 have HPX := Aside0.mk h'
 obtain ⟨n, hn⟩ : ∃ n, T.length = n := ⟨_, rfl⟩
 rw [hn] at h1 hp hc hT
 obtain ⟨sv, hsv⟩ : ∃ sv, mk s = sv := ⟨_, rfl⟩
 rw [hsv] at k1 ⊢
 obtain ⟨W2, hW2⟩ : ∃ W2, w.setCell ⟨pb, 2, none⟩ (.int .i64 ((p : Int) + 1)) = W2 := ⟨_, rfl⟩
 rw [hW2] at h1 h2 k0 k1 HK HPX
 clear hn h h' hC ht h3 hsv e0
 by_cases e9 : k = 9
 · have HV : Aside0 (vk k = 8) := ⟨by unfold vk; rw [if_pos (Or.inl e9)]⟩
   subst e9
   go_enter Tryz.func118, Tryz.ntmps118
   go_upto_region 2 with (fail)
   try rw [hW2]
   go_region
   go_wp2
   go_ret2
   exact ⟨by rw [HV.out]; rfl, by first | exact HPX.out | exact HPX.out.below (pw_below_drewN (Below.refl _ _) _), by first | exact HK.out | exact HK.out.drewN _⟩
 by_cases e12 : k = 12
 · have HV : Aside0 (vk k = 8) := ⟨by unfold vk; rw [if_pos (Or.inr e12)]⟩
   subst e12
   go_enter Tryz.func118, Tryz.ntmps118
   go_upto_region 2 with (fail)
   try rw [hW2]
   go_region
   go_wp2
   go_ret2
   exact ⟨by rw [HV.out]; rfl, by first | exact HPX.out | exact HPX.out.below (pw_below_drewN (Below.refl _ _) _), by first | exact HK.out | exact HK.out.drewN _⟩
 have HV := Aside0.mk (vk_id e9 e12)
 have f9 : ((k : Int) == 9) = false := by rw [beq_eq_false_iff_ne]; omega
 have f12 : ((k : Int) == 12) = false := by rw [beq_eq_false_iff_ne]; omega
 clear e9 e12
 go_enter Tryz.func118, Tryz.ntmps118
 go_upto_region 2 with (fail)
 try rw [hW2]
 go_region
 go_wp2
 go_ret2
 exact ⟨by rw [HV.out]; rfl, by first | exact HPX.out | exact HPX.out.below (pw_below_drewN (Below.refl _ _) _), by first | exact HK.out | exact HK.out.drewN _⟩
set_option maxHeartbeats 4000000 in
theorem cons0_calls (pb g p : Nat) (T ts : List Tk) (k : Nat) (s : L) (hT : T.length ≤ 1000000) (ht : T.drop p = (k, s) :: ts) (w : World) (h : PX w pb g T p) :
   Calls Tryz.prog 118 #[.pointer (some ⟨pb, 0, none⟩), .int .i64 0] w fun e w' => e = .returned (.tuple #[.int .i64 ((k : Nat) : Int), .string (mk s)]) ∧ PX w' pb g T (p + 1) ∧ Kb w w' pb := by
 have hp : p < T.length := by
  have := congrArg List.length ht
  rw [List.length_drop, List.length_cons] at this; omega
 obtain ⟨_, _, _, i2, i3, _, _⟩ := px_cells h
 have h' := h.set (p + 1)
 have e0 : ((p + 1 : Nat) : Int) = (p : Int) + 1 := by omega
 obtain ⟨A, c, h1, h2, h3, hc, hC⟩ := px_cells h'
 obtain ⟨ad, rfl, k0, k1⟩ := px_tok hC ht
 have HK := Aside0.mk (Kb.set w pb 2 (.int .i64 ((p + 1 : Nat) : Int)))
 rw [e0] at h' h1 h2 k0 k1 HK
 have hw1 : IntKind.i64.wrap ((p : Int) + 1) = (p : Int) + 1 := by rw [IntKind.wrap_i64]; omega
 have hw2 : IntKind.i64.wrap ((p : Int) + 1 - 1) = (p : Int) := by rw [IntKind.wrap_i64]; omega
 have HPX := Aside0.mk h'
 obtain ⟨n, hn⟩ : ∃ n, T.length = n := ⟨_, rfl⟩
 rw [hn] at h1 hp hc hT
 obtain ⟨sv, hsv⟩ : ∃ sv, mk s = sv := ⟨_, rfl⟩
 rw [hsv] at k1 ⊢
 obtain ⟨W2, hW2⟩ : ∃ W2, w.setCell ⟨pb, 2, none⟩ (.int .i64 ((p : Int) + 1)) = W2 := ⟨_, rfl⟩
 rw [hW2] at h1 h2 k0 k1 HK HPX
 clear hn h h' hC ht h3 hsv e0
 go_enter Tryz.func118, Tryz.ntmps118
 go_upto_region 2 with (fail)
 try rw [hW2]
 go_region
 go_wp2
 go_ret2
 exact ⟨by rfl, by first | exact HPX.out | exact HPX.out.below (pw_below_drewN (Below.refl _ _) _), by first | exact HK.out | exact HK.out.drewN _⟩
def IsErr (v : Value) : Prop := ∃ g : Nat, v = .iface 166 (.pointer (some ⟨g, 0, none⟩))
def EndsT (T : List Tk) : Prop := ∀ p k s, T.drop p = [(k, s)] → k = 1
theorem EndsT.more {T : List Tk} (h : EndsT T) {p k : Nat} {s : L} {ts : List Tk} (ht : T.drop p = (k, s) :: ts) (hk : vk k ≠ 1) : ∃ k2 s2 ts2, ts = (k2, s2) :: ts2 ∧ T.drop (p + 1) = (k2, s2) :: ts2 := by
 cases ts with
 | nil => have := h p k s ht; subst this; exact absurd rfl hk
 | cons t ts2 => exact ⟨t.1, t.2, ts2, rfl, by rw [← List.drop_drop, ht]; rfl⟩
theorem drop_one {T ts : List Tk} {p k : Nat} {s : L} (ht : T.drop p = (k, s) :: ts) : T.drop (p + 1) = ts := by rw [← List.drop_drop, ht]; rfl
def KeyP (r : Option (L × L × List Tk)) (pb g : Nat) (T : List Tk) (e : Ending) (w' : World) : Prop := match r with
 | some (k, op, ts') => e = .returned (.tuple #[.string (mk k), .string (mk op), .nilIface]) ∧ ∃ p', ts' = T.drop p' ∧ PX w' pb g T p'
 | none => ∃ v, e = .returned (.tuple #[.string ⟨#[]⟩, .string ⟨#[]⟩, v]) ∧ IsErr v
def OpP (r : Option (L × List Tk)) (pb g : Nat) (T : List Tk) (e : Ending) (w' : World) : Prop := match r with
 | some (op, ts') => e = .returned (.tuple #[.string (mk op), .nilIface]) ∧ ∃ p', ts' = T.drop p' ∧ PX w' pb g T p'
 | none => ∃ v, e = .returned (.tuple #[.string ⟨#[]⟩, v]) ∧ IsErr v
theorem KeyP.some' {k op : L} {ts' : List Tk} {pb g : Nat} {T : List Tk} {r : Option (L × L × List Tk)} {w' : World} {x y : ByteArray} (hr : r = some (k, op, ts')) (h1 : x = mk k) (h2 : y = mk op) (p' : Nat) (h3 : ts' = T.drop p') (h4 : PX w' pb g T p') : KeyP r pb g T (.returned (.tuple #[.string x, .string y, .nilIface])) w' := by
 subst hr h1 h2; exact ⟨rfl, p', h3, h4⟩
theorem KeyP.none' {pb g : Nat} {T : List Tk} {r : Option (L × L × List Tk)} {w' : World} {v : Value} (hr : r = none) (h : IsErr v) : KeyP r pb g T (.returned (.tuple #[.string ⟨#[]⟩, .string ⟨#[]⟩, v])) w' := by
 subst hr; exact ⟨v, rfl, h⟩
theorem vk_of {k n : Nat} (h : vk k = n) (h8 : n ≠ 8) : k = n := by unfold vk at h; split at h <;> omega
set_option maxHeartbeats 8000000 in
theorem key_calls (pb g p : Nat) (T ts : List Tk) (k : Nat) (s : L) (hT : T.length ≤ 1000000) (hE : EndsT T) (hz : ∀ t ∈ T, t.2.length ≤ 1000000) (ht : T.drop p = (k, s) :: ts) (w0 w : World) (h : PX w pb g T p) (hV : TV w0) (hb0 : Below w0.heap.size w0 w) (hp0 : w0.heap.size ≤ pb) :
   Calls Tryz.prog 145 #[.pointer (some ⟨pb, 0, none⟩)] w fun e w' => KeyP (pKey (T.drop p)) pb g T e w' ∧ Kb w w' pb := by
 have H1 := Aside0.mk (cons1_calls pb g p T ts k s hT ht w h)
 have HN := Aside0.mk ENew_calls
 have mem : ∀ {q k s ts}, T.drop q = (k, s) :: ts → s.length ≤ 1000000 := fun {q k s ts} e => hz (k, s) (List.mem_of_mem_drop (by rw [e]; exact List.mem_cons_self))
 have HKEY := Aside0.mk (fun (s : L) (hs : s.length ≤ 1000000) (W : World) (hk : Kb w W pb) => vKey_calls (mk s) (by rw [mk_size]; omega) W (hV.below (hb0.trans (hk.below hp0 hb0.size))))
 rw [ht]
 clear h hV hz hb0
 by_cases hk : vk k = 4
 · obtain ⟨k2, s2, ts2, hts, ht2⟩ := hE.more ht (by omega)
   rw [hk] at H1
   have H2 := Aside0.mk (fun (W : World) (h : PX W pb g T (p + 1)) => cons1_calls pb g (p + 1) T ts2 k2 s2 hT ht2 W h)
   by_cases hk2 : vk k2 = 8
   · rw [hk2] at H2
     have HQ := Aside0.mk (HKEY.out s2 (mem ht2))
     rw [show (mk s2).data.toList = s2 from rfl] at HQ
     cases hq : pQ s2
     · rw [hq] at HQ
       simp only [Bool.false_eq_true, if_false] at HQ
       have HR : Aside0 (pKey ((k, s) :: ts) = none) := ⟨by rw [hts]; unfold pKey; simp only; rw [if_pos hk]; (try simp only); rw [if_pos hk2, hq]; rfl⟩
       clear hq HKEY mem hE hT ht hts ht2
       clear hk2 hk
       go_enter Tryz.func145, Tryz.ntmps145
       go_wp2_with (first | ((with_reducible refine (H1.out).mono ?_); rintro e w1 ⟨rfl, hp1, hk1⟩; have HP1 := Aside0.mk hp1; have HK1 := Aside0.mk hk1; clear hp1 hk1 H1) | ((with_reducible refine (H2.out _ HP1.out).mono ?_); rintro e w2 ⟨rfl, hp2, hk2⟩; have HP2 := Aside0.mk hp2; have HK2 := Aside0.mk (HK1.out.trans hk2); clear hp2 hk2 H2) | ((with_reducible refine (HQ.out _ HK2.out).mono ?_); rintro e w3 ⟨⟨gv, rfl⟩, hb⟩; have HP3 := Aside0.mk (HP2.out.below hb); have HK3 := Aside0.mk (HK2.out.trans (Kb.of_below hb pb)); clear hb HQ))
       go_ret3
       exact ⟨KeyP.none' HR.out ⟨_, rfl⟩, HK3.out⟩
     · rw [hq] at HQ
       simp only [if_true] at HQ
       obtain ⟨k3, s3, ts3, hts3, ht3⟩ := hE.more ht2 (by omega)
       have HL := Aside0.mk (fun (W : World) (h : PX W pb g T ((p + 1) + 1)) => look_calls pb g ((p + 1) + 1) T ts3 k3 s3 hT ht3 W h)
       have HD := Aside0.mk (drop_one ht2)
       by_cases hk3 : vk k3 = 1
       · have HR : Aside0 (pKey ((k, s) :: ts) = some (s2, [33], ts2)) := ⟨by rw [hts]; unfold pKey; simp only; rw [if_pos hk]; (try simp only); rw [if_pos hk2, hq]; rfl⟩
         rw [hk3] at HL
         clear hq HKEY mem hE hT ht hts3 ht3 hts ht2
         clear hk hk2
         clear hk3
         go_enter Tryz.func145, Tryz.ntmps145
         go_wp2_with (first | ((with_reducible refine (H1.out).mono ?_); rintro e w1 ⟨rfl, hp1, hk1⟩; have HP1 := Aside0.mk hp1; have HK1 := Aside0.mk hk1; clear hp1 hk1 H1) | ((with_reducible refine (H2.out _ HP1.out).mono ?_); rintro e w2 ⟨rfl, hp2, hk2⟩; have HP2 := Aside0.mk hp2; have HK2 := Aside0.mk (HK1.out.trans hk2); clear hp2 hk2 H2) | ((with_reducible refine (HQ.out _ HK2.out).mono ?_); rintro e w3 ⟨rfl, hb⟩; have HP3 := Aside0.mk (HP2.out.below hb); have HK3 := Aside0.mk (HK2.out.trans (Kb.of_below hb pb)); clear hb HQ) | ((with_reducible refine (HL.out _ HP3.out).mono ?_); rintro e w4 ⟨rfl, hb⟩; have HP4 := Aside0.mk (HP3.out.below hb); have HK4 := Aside0.mk (HK3.out.trans (Kb.of_below hb pb)); clear hb HL))
         go_ret3
         exact ⟨KeyP.some' HR.out rfl rfl _ HD.out.symm HP4.out, HK4.out⟩
       have hn1 : ¬ vk k3 = 1 := hk3
       clear hk3
       by_cases hk3 : vk k3 = 3
       · have HR : Aside0 (pKey ((k, s) :: ts) = some (s2, [33], ts2)) := ⟨by rw [hts]; unfold pKey; simp only; rw [if_pos hk]; (try simp only); rw [if_pos hk2, hq]; rfl⟩
         rw [hk3] at HL
         clear hq HKEY mem hE hT ht hts3 ht3 hts ht2
         clear hk hk2
         clear hk3
         go_enter Tryz.func145, Tryz.ntmps145
         go_wp2_with (first | ((with_reducible refine (H1.out).mono ?_); rintro e w1 ⟨rfl, hp1, hk1⟩; have HP1 := Aside0.mk hp1; have HK1 := Aside0.mk hk1; clear hp1 hk1 H1) | ((with_reducible refine (H2.out _ HP1.out).mono ?_); rintro e w2 ⟨rfl, hp2, hk2⟩; have HP2 := Aside0.mk hp2; have HK2 := Aside0.mk (HK1.out.trans hk2); clear hp2 hk2 H2) | ((with_reducible refine (HQ.out _ HK2.out).mono ?_); rintro e w3 ⟨rfl, hb⟩; have HP3 := Aside0.mk (HP2.out.below hb); have HK3 := Aside0.mk (HK2.out.trans (Kb.of_below hb pb)); clear hb HQ) | ((with_reducible refine (HL.out _ HP3.out).mono ?_); rintro e w4 ⟨rfl, hb⟩; have HP4 := Aside0.mk (HP3.out.below hb); have HK4 := Aside0.mk (HK3.out.trans (Kb.of_below hb pb)); clear hb HL))
         go_ret3
         exact ⟨KeyP.some' HR.out rfl rfl _ HD.out.symm HP4.out, HK4.out⟩
       have hn3 : ¬ vk k3 = 3 := hk3
       clear hk3
       have HR : Aside0 (pKey ((k, s) :: ts) = some (s2, [33], ts2)) := ⟨by rw [hts]; unfold pKey; simp only; rw [if_pos hk]; (try simp only); rw [if_pos hk2, hq]; rfl⟩
       obtain ⟨kk, hkk⟩ : ∃ kk, vk k3 = kk := ⟨_, rfl⟩
       rw [hkk] at HL hn1 hn3
       have f1 : ((kk : Int) == 1) = false := by rw [beq_eq_false_iff_ne]; omega
       have f3 : ((kk : Int) == 3) = false := by rw [beq_eq_false_iff_ne]; omega
       clear hkk hn1 hn3
       clear hq HKEY mem hE hT ht hts3 ht3 hts ht2
       clear hk hk2
       go_enter Tryz.func145, Tryz.ntmps145
       go_wp2_with (first | ((with_reducible refine (H1.out).mono ?_); rintro e w1 ⟨rfl, hp1, hk1⟩; have HP1 := Aside0.mk hp1; have HK1 := Aside0.mk hk1; clear hp1 hk1 H1) | ((with_reducible refine (H2.out _ HP1.out).mono ?_); rintro e w2 ⟨rfl, hp2, hk2⟩; have HP2 := Aside0.mk hp2; have HK2 := Aside0.mk (HK1.out.trans hk2); clear hp2 hk2 H2) | ((with_reducible refine (HQ.out _ HK2.out).mono ?_); rintro e w3 ⟨rfl, hb⟩; have HP3 := Aside0.mk (HP2.out.below hb); have HK3 := Aside0.mk (HK2.out.trans (Kb.of_below hb pb)); clear hb HQ) | ((with_reducible refine (HL.out _ HP3.out).mono ?_); rintro e w4 ⟨rfl, hb⟩; have HP4 := Aside0.mk (HP3.out.below hb); have HK4 := Aside0.mk (HK3.out.trans (Kb.of_below hb pb)); clear hb HL))
       go_ret3
       exact ⟨KeyP.some' HR.out rfl rfl _ HD.out.symm HP4.out, HK4.out⟩
   have HR : Aside0 (pKey ((k, s) :: ts) = none) := ⟨by rw [hts]; unfold pKey; simp only; rw [if_pos hk]; (try simp only); rw [if_neg hk2]⟩
   obtain ⟨kk, hkk⟩ : ∃ kk, vk k2 = kk := ⟨_, rfl⟩
   rw [hkk] at H2 hk2
   have f8 : ((kk : Int) != 8) = true := by rw [bne_iff_ne]; omega
   clear hkk hk2 HKEY mem hE hT ht hts ht2 hk
   go_enter Tryz.func145, Tryz.ntmps145
   go_wp2_with (first | ((with_reducible refine (H1.out).mono ?_); rintro e w1 ⟨rfl, hp1, hk1⟩; have HP1 := Aside0.mk hp1; have HK1 := Aside0.mk hk1; clear hp1 hk1 H1) | ((with_reducible refine (H2.out _ HP1.out).mono ?_); rintro e w2 ⟨rfl, hp2, hk2⟩; have HP2 := Aside0.mk hp2; have HK2 := Aside0.mk (HK1.out.trans hk2); clear hp2 hk2 H2) | ((with_reducible refine (HN.out _ _).mono ?_); rintro e w5 ⟨rfl, hb⟩; have HK5 := Aside0.mk (HK2.out.trans (Kb.of_below hb pb)); clear hb))
   go_ret3
   exact ⟨KeyP.none' HR.out ⟨_, rfl⟩, HK5.out⟩
 by_cases hk8 : vk k = 8
 · have hk := hk8
   clear hk8
   rw [hk] at H1
   have HQ := Aside0.mk (HKEY.out s (mem ht))
   rw [show (mk s).data.toList = s from rfl] at HQ
   cases hq : pQ s
   · rw [hq] at HQ
     simp only [Bool.false_eq_true, if_false] at HQ
     have HR : Aside0 (pKey ((k, s) :: ts) = none) := ⟨by unfold pKey; simp only; rw [if_neg (by omega), if_pos hk, hq]; rfl⟩
     clear hq HKEY mem hE hT ht 
     clear hk
     go_enter Tryz.func145, Tryz.ntmps145
     go_wp2_with (first | ((with_reducible refine (H1.out).mono ?_); rintro e w1 ⟨rfl, hp1, hk1⟩; have HP1 := Aside0.mk hp1; have HK1 := Aside0.mk hk1; clear hp1 hk1 H1) | ((with_reducible refine (HQ.out _ HK1.out).mono ?_); rintro e w3 ⟨⟨gv, rfl⟩, hb⟩; have HP3 := Aside0.mk (HP1.out.below hb); have HK3 := Aside0.mk (HK1.out.trans (Kb.of_below hb pb)); clear hb HQ))
     go_ret3
     exact ⟨KeyP.none' HR.out ⟨_, rfl⟩, HK3.out⟩
   · rw [hq] at HQ
     simp only [if_true] at HQ
     obtain ⟨k3, s3, ts3, hts3, ht3⟩ := hE.more ht (by omega)
     have HL := Aside0.mk (fun (W : World) (h : PX W pb g T (p + 1)) => look_calls pb g (p + 1) T ts3 k3 s3 hT ht3 W h)
     have HD := Aside0.mk (drop_one ht)
     by_cases hk3 : vk k3 = 1
     · have HR : Aside0 (pKey ((k, s) :: ts) = some (s, [101, 120, 105, 115, 116, 115], ts)) := ⟨by unfold pKey; simp only; rw [if_neg (by omega), if_pos hk, hq, hts3]; simp [ePos, hk3]; try omega⟩
       rw [hk3] at HL
       clear hq HKEY mem hE hT ht hts3 ht3
       clear hk
       clear hk3
       go_enter Tryz.func145, Tryz.ntmps145
       go_wp2_with (first | ((with_reducible refine (H1.out).mono ?_); rintro e w1 ⟨rfl, hp1, hk1⟩; have HP1 := Aside0.mk hp1; have HK1 := Aside0.mk hk1; clear hp1 hk1 H1) | ((with_reducible refine (HQ.out _ HK1.out).mono ?_); rintro e w3 ⟨rfl, hb⟩; have HP3 := Aside0.mk (HP1.out.below hb); have HK3 := Aside0.mk (HK1.out.trans (Kb.of_below hb pb)); clear hb HQ) | ((with_reducible refine (HL.out _ HP3.out).mono ?_); rintro e w4 ⟨rfl, hb⟩; have HP4 := Aside0.mk (HP3.out.below hb); have HK4 := Aside0.mk (HK3.out.trans (Kb.of_below hb pb)); clear hb HL))
       go_ret3
       exact ⟨KeyP.some' HR.out rfl rfl _ HD.out.symm HP4.out, HK4.out⟩
     have hn1 : ¬ vk k3 = 1 := hk3
     clear hk3
     by_cases hk3 : vk k3 = 3
     · have HR : Aside0 (pKey ((k, s) :: ts) = some (s, [101, 120, 105, 115, 116, 115], ts)) := ⟨by unfold pKey; simp only; rw [if_neg (by omega), if_pos hk, hq, hts3]; simp [ePos, hk3]; try omega⟩
       rw [hk3] at HL
       clear hq HKEY mem hE hT ht hts3 ht3
       clear hk
       clear hk3
       go_enter Tryz.func145, Tryz.ntmps145
       go_wp2_with (first | ((with_reducible refine (H1.out).mono ?_); rintro e w1 ⟨rfl, hp1, hk1⟩; have HP1 := Aside0.mk hp1; have HK1 := Aside0.mk hk1; clear hp1 hk1 H1) | ((with_reducible refine (HQ.out _ HK1.out).mono ?_); rintro e w3 ⟨rfl, hb⟩; have HP3 := Aside0.mk (HP1.out.below hb); have HK3 := Aside0.mk (HK1.out.trans (Kb.of_below hb pb)); clear hb HQ) | ((with_reducible refine (HL.out _ HP3.out).mono ?_); rintro e w4 ⟨rfl, hb⟩; have HP4 := Aside0.mk (HP3.out.below hb); have HK4 := Aside0.mk (HK3.out.trans (Kb.of_below hb pb)); clear hb HL))
       go_ret3
       exact ⟨KeyP.some' HR.out rfl rfl _ HD.out.symm HP4.out, HK4.out⟩
     have hn3 : ¬ vk k3 = 3 := hk3
     clear hk3
     have HR : Aside0 (pKey ((k, s) :: ts) = some (s, [], ts)) := ⟨by unfold pKey; simp only; rw [if_neg (by omega), if_pos hk, hq, hts3]; simp [ePos, hn1, hn3]⟩
     obtain ⟨kk, hkk⟩ : ∃ kk, vk k3 = kk := ⟨_, rfl⟩
     rw [hkk] at HL hn1 hn3
     have f1 : ((kk : Int) == 1) = false := by rw [beq_eq_false_iff_ne]; omega
     have f3 : ((kk : Int) == 3) = false := by rw [beq_eq_false_iff_ne]; omega
     clear hkk hn1 hn3
     clear hq HKEY mem hE hT ht hts3 ht3
     clear hk
     go_enter Tryz.func145, Tryz.ntmps145
     go_wp2_with (first | ((with_reducible refine (H1.out).mono ?_); rintro e w1 ⟨rfl, hp1, hk1⟩; have HP1 := Aside0.mk hp1; have HK1 := Aside0.mk hk1; clear hp1 hk1 H1) | ((with_reducible refine (HQ.out _ HK1.out).mono ?_); rintro e w3 ⟨rfl, hb⟩; have HP3 := Aside0.mk (HP1.out.below hb); have HK3 := Aside0.mk (HK1.out.trans (Kb.of_below hb pb)); clear hb HQ) | ((with_reducible refine (HL.out _ HP3.out).mono ?_); rintro e w4 ⟨rfl, hb⟩; have HP4 := Aside0.mk (HP3.out.below hb); have HK4 := Aside0.mk (HK3.out.trans (Kb.of_below hb pb)); clear hb HL))
     go_ret3
     exact ⟨KeyP.some' HR.out rfl rfl _ HD.out.symm HP4.out, HK4.out⟩
 have HR : Aside0 (pKey ((k, s) :: ts) = none) := ⟨by unfold pKey; simp only; rw [if_neg hk, if_neg hk8]⟩
 obtain ⟨kk, hkk⟩ : ∃ kk, vk k = kk := ⟨_, rfl⟩
 rw [hkk] at H1 hk hk8
 have f8 : ((kk : Int) != 8) = true := by rw [bne_iff_ne]; omega
 have f4 : ((kk : Int) == 4) = false := by rw [beq_eq_false_iff_ne]; omega
 clear hkk hk hk8 HKEY mem hE hT ht
 go_enter Tryz.func145, Tryz.ntmps145
 go_wp2_with (first | ((with_reducible refine (H1.out).mono ?_); rintro e w1 ⟨rfl, hp1, hk1⟩; have HP1 := Aside0.mk hp1; have HK1 := Aside0.mk hk1; clear hp1 hk1 H1) | ((with_reducible refine (HN.out _ _).mono ?_); rintro e w5 ⟨rfl, hb⟩; have HK5 := Aside0.mk (HK1.out.trans (Kb.of_below hb pb)); clear hb))
 go_ret3
 exact ⟨KeyP.none' HR.out ⟨_, rfl⟩, HK5.out⟩
theorem OpP.some' {op : L} {ts' : List Tk} {pb g : Nat} {T : List Tk} {r : Option (L × List Tk)} {w' : World} {y : ByteArray} (hr : r = some (op, ts')) (h2 : y = mk op) (p' : Nat) (h3 : ts' = T.drop p') (h4 : PX w' pb g T p') : OpP r pb g T (.returned (.tuple #[.string y, .nilIface])) w' := by
 subst hr h2; exact ⟨rfl, p', h3, h4⟩
theorem OpP.none' {pb g : Nat} {T : List Tk} {r : Option (L × List Tk)} {w' : World} {v : Value} (hr : r = none) (h : IsErr v) : OpP r pb g T (.returned (.tuple #[.string ⟨#[]⟩, v])) w' := by
 subst hr; exact ⟨v, rfl, h⟩
set_option maxHeartbeats 8000000 in
theorem op_calls (pb g p : Nat) (T ts : List Tk) (k : Nat) (s : L) (hT : T.length ≤ 1000000) (ht : T.drop p = (k, s) :: ts) (w : World) (h : PX w pb g T p) :
   Calls Tryz.prog 146 #[.pointer (some ⟨pb, 0, none⟩)] w fun e w' => OpP (pOp (T.drop p)) pb g T e w' ∧ Kb w w' pb := by
 have H1 := Aside0.mk (cons0_calls pb g p T ts k s hT ht w h)
 have HN := Aside0.mk ENew_calls
 have HD := Aside0.mk (drop_one ht)
 rw [ht]
 clear h hT ht
 by_cases h9 : k = 9
 · have HR : Aside0 (pOp ((k, s) :: ts) = some ([105, 110], ts)) := ⟨by rw [h9]; rfl⟩
   subst h9
   go_enter Tryz.func146, Tryz.ntmps146
   go_wp2_with (first | ((with_reducible refine (H1.out).mono ?_); rintro e w1 ⟨rfl, hp1, hk1⟩; have HP1 := Aside0.mk hp1; have HK1 := Aside0.mk hk1; clear hp1 hk1 H1))
   go_ret2
   exact ⟨OpP.some' HR.out rfl _ HD.out.symm HP1.out, HK1.out⟩
 have f9 : ((k : Int) == 9) = false := by rw [beq_eq_false_iff_ne]; omega
 by_cases h6 : k = 6
 · have HR : Aside0 (pOp ((k, s) :: ts) = some ([61], ts)) := ⟨by rw [h6]; rfl⟩
   subst h6
   go_enter Tryz.func146, Tryz.ntmps146
   go_wp2_with (first | ((with_reducible refine (H1.out).mono ?_); rintro e w1 ⟨rfl, hp1, hk1⟩; have HP1 := Aside0.mk hp1; have HK1 := Aside0.mk hk1; clear hp1 hk1 H1))
   go_ret2
   exact ⟨OpP.some' HR.out rfl _ HD.out.symm HP1.out, HK1.out⟩
 have f6 : ((k : Int) == 6) = false := by rw [beq_eq_false_iff_ne]; omega
 by_cases h5 : k = 5
 · have HR : Aside0 (pOp ((k, s) :: ts) = some ([61, 61], ts)) := ⟨by rw [h5]; rfl⟩
   subst h5
   go_enter Tryz.func146, Tryz.ntmps146
   go_wp2_with (first | ((with_reducible refine (H1.out).mono ?_); rintro e w1 ⟨rfl, hp1, hk1⟩; have HP1 := Aside0.mk hp1; have HK1 := Aside0.mk hk1; clear hp1 hk1 H1))
   go_ret2
   exact ⟨OpP.some' HR.out rfl _ HD.out.symm HP1.out, HK1.out⟩
 have f5 : ((k : Int) == 5) = false := by rw [beq_eq_false_iff_ne]; omega
 by_cases h7 : k = 7
 · have HR : Aside0 (pOp ((k, s) :: ts) = some ([103, 116], ts)) := ⟨by rw [h7]; rfl⟩
   subst h7
   go_enter Tryz.func146, Tryz.ntmps146
   go_wp2_with (first | ((with_reducible refine (H1.out).mono ?_); rintro e w1 ⟨rfl, hp1, hk1⟩; have HP1 := Aside0.mk hp1; have HK1 := Aside0.mk hk1; clear hp1 hk1 H1))
   go_ret2
   exact ⟨OpP.some' HR.out rfl _ HD.out.symm HP1.out, HK1.out⟩
 have f7 : ((k : Int) == 7) = false := by rw [beq_eq_false_iff_ne]; omega
 by_cases h10 : k = 10
 · have HR : Aside0 (pOp ((k, s) :: ts) = some ([108, 116], ts)) := ⟨by rw [h10]; rfl⟩
   subst h10
   go_enter Tryz.func146, Tryz.ntmps146
   go_wp2_with (first | ((with_reducible refine (H1.out).mono ?_); rintro e w1 ⟨rfl, hp1, hk1⟩; have HP1 := Aside0.mk hp1; have HK1 := Aside0.mk hk1; clear hp1 hk1 H1))
   go_ret2
   exact ⟨OpP.some' HR.out rfl _ HD.out.symm HP1.out, HK1.out⟩
 have f10 : ((k : Int) == 10) = false := by rw [beq_eq_false_iff_ne]; omega
 by_cases h12 : k = 12
 · have HR : Aside0 (pOp ((k, s) :: ts) = some ([110, 111, 116, 105, 110], ts)) := ⟨by rw [h12]; rfl⟩
   subst h12
   go_enter Tryz.func146, Tryz.ntmps146
   go_wp2_with (first | ((with_reducible refine (H1.out).mono ?_); rintro e w1 ⟨rfl, hp1, hk1⟩; have HP1 := Aside0.mk hp1; have HK1 := Aside0.mk hk1; clear hp1 hk1 H1))
   go_ret2
   exact ⟨OpP.some' HR.out rfl _ HD.out.symm HP1.out, HK1.out⟩
 have f12 : ((k : Int) == 12) = false := by rw [beq_eq_false_iff_ne]; omega
 by_cases h11 : k = 11
 · have HR : Aside0 (pOp ((k, s) :: ts) = some ([33, 61], ts)) := ⟨by rw [h11]; rfl⟩
   subst h11
   go_enter Tryz.func146, Tryz.ntmps146
   go_wp2_with (first | ((with_reducible refine (H1.out).mono ?_); rintro e w1 ⟨rfl, hp1, hk1⟩; have HP1 := Aside0.mk hp1; have HK1 := Aside0.mk hk1; clear hp1 hk1 H1))
   go_ret2
   exact ⟨OpP.some' HR.out rfl _ HD.out.symm HP1.out, HK1.out⟩
 have f11 : ((k : Int) == 11) = false := by rw [beq_eq_false_iff_ne]; omega
 have HR : Aside0 (pOp ((k, s) :: ts) = none) := ⟨by unfold pOp opT; simp only; rw [if_neg h9, if_neg h6, if_neg h5, if_neg h7, if_neg h10, if_neg h12, if_neg h11]; rfl⟩
 clear h9 h6 h5 h7 h10 h12 h11
 go_enter Tryz.func146, Tryz.ntmps146
 go_wp2_with (first | ((with_reducible refine (H1.out).mono ?_); rintro e w1 ⟨rfl, hp1, hk1⟩; have HP1 := Aside0.mk hp1; have HK1 := Aside0.mk hk1; clear hp1 hk1 H1) | ((with_reducible refine (HN.out _ _).mono ?_); rintro e w5 ⟨rfl, hb⟩; have HK5 := Aside0.mk (HK1.out.trans (Kb.of_below hb pb)); clear hb))
 go_ret2
 exact ⟨OpP.none' HR.out ⟨_, rfl⟩, HK5.out⟩
theorem Kb.grownBy {w w' : World} {g : Nat} (h : Kb w w' g) : w.grownBy w' (some g) := ⟨h.out.os, h.out.tape, h.out.output, h.out.size, fun k hk hne => h.ke.2 k hk (fun e => hne (by rw [e])) (by simp)⟩
theorem Kb.more {w w1 w2 : World} {g b : Nat} (h : Kb w w1 g) (hg : w1.grownBy w2 (some b)) (hb : w.heap.size ≤ b) : Kb w w2 g :=
 ⟨h.out.trans ⟨hg.os, hg.tape, hg.output, hg.size, fun k hk => absurd hk (Nat.not_lt_zero _)⟩, ⟨Nat.le_trans h.ke.1 hg.size, fun k hk hne hr => (hg.block k (Nat.lt_of_lt_of_le hk h.ke.1) (fun e => by have := Option.some.inj e; omega)).trans (h.ke.2 k hk hne hr)⟩⟩
theorem IsSet.kb {w w' : World} {b N g : Nat} {ks : List L} (h : IsSet w b N ks) (hk : Kb w w' g) (hne : b ≠ g) : IsSet w' b N ks := h.kept hk.grownBy (fun e => hne (Option.some.inj e))
theorem PX.grown {w w' : World} {pb g p b : Nat} {T : List Tk} (h : PX w pb g T p) (hg : w.grownBy w' (some b)) (hm : ∃ es c, w.heap[b]? = some (.map es c)) : PX w' pb g T p := by
 obtain ⟨es, c0, hm⟩ := hm
 obtain ⟨A, c, h1, h2⟩ := h
 refine ⟨A, c, (hg.block pb (blk_lt h1) (fun e => ?_)).trans h1, Kd.R_mono (Kd.R_grown (Kd.R_bound h2) hg (fun k hk e => ?_)) (fun k hk => hk.1)⟩
 · have e := Option.some.inj e; subst e; rw [hm] at h1; cases h1
 · have e := Option.some.inj e; subst e
   obtain ⟨_, _, _, q, _, cells, hc⟩ := hk
   rw [hm] at hc; cases hc
theorem px_ne {w : World} {pb g p b N : Nat} {T : List Tk} {ks : List L} (h : PX w pb g T p) (hs : IsSet w b N ks) : b ≠ pb := by
 obtain ⟨A, c, h1, h2⟩ := h
 obtain ⟨es, c0, hm⟩ := hs.map
 rintro rfl
 rw [hm] at h1; cases h1
structure VX (w0 w : World) (pb g : Nat) (T : List Tk) (p b N : Nat) (ks : List L) : Prop where
 px : PX w pb g T p
 st : IsSet w b N ks
 kb : Kb w0 w pb
 nw : w0.heap.size ≤ b
theorem VX.below {w0 w w' : World} {pb g p b N : Nat} {T : List Tk} {ks : List L} (h : VX w0 w pb g T p b N ks) (hb : Below w.heap.size w w') : VX w0 w' pb g T p b N ks :=
 ⟨h.px.below hb, h.st.below hb, h.kb.trans (Kb.of_below hb pb), h.nw⟩
theorem VX.move {w0 w w' : World} {pb g p q b N : Nat} {T : List Tk} {ks : List L} (h : VX w0 w pb g T p b N ks) (hp : PX w' pb g T q) (hk : Kb w w' pb) : VX w0 w' pb g T q b N ks :=
 ⟨hp, h.st.kb hk (px_ne h.px h.st), h.kb.trans hk, h.nw⟩
theorem VX.ins {w0 w w1 w' : World} {pb g p b N M : Nat} {T : List Tk} {ks ks' : List L} (h : VX w0 w pb g T p b N ks) (h1 : Below w.heap.size w w1) (hs : IsSet w' b M ks') (hg : w1.grownBy w' (some b)) : VX w0 w' pb g T p b M ks' :=
 ⟨(h.px.below h1).grown hg (h.st.below h1).map, hs, (h.kb.trans (Kb.of_below h1 pb)).more hg h.nw, h.nw⟩
theorem ins_calls {w0 w : World} {pb g p b N : Nat} {T : List Tk} {ks : List L} (h : VX w0 w pb g T p b N ks) (H : Nat) (hH : w.heap.size = H) (s : ByteArray) (hs : s.size ≤ 140737488351232) (hN : N ≤ 10000) :
   Calls Tryz.prog 175 #[.map (some b), .slice (some ⟨H, 0, none⟩) 1 1] (w.alloc (.cells #[.string s] 9)) fun e w' => e = .returned (.map (some b)) ∧ VX w0 w' pb g T p b (N + 1) (addK ks s.data.toList) :=
 (Insert1_calls w H hH b N ks s hs hN h.st).mono fun e w' ⟨h1, h2, h3⟩ => ⟨h1, h.ins (below_alloc (Below.refl _ _) _) h2 h3⟩
def ValP (r : Option (List L × List Tk)) (w0 : World) (pb g : Nat) (T : List Tk) (e : Ending) (w' : World) : Prop := match r with
 | some (ks, ts') => ∃ b N p', e = .returned (.tuple #[.map (some b), .nilIface]) ∧ ts' = T.drop p' ∧ VX w0 w' pb g T p' b N ks
 | none => ∃ mv v, e = .returned (.tuple #[mv, v]) ∧ IsErr v
theorem ValP.some' {ks : List L} {ts' : List Tk} {pb g : Nat} {T : List Tk} {r : Option (List L × List Tk)} {w0 w' : World} {b N p' : Nat} (hr : r = some (ks, ts')) (h3 : ts' = T.drop p') (h4 : VX w0 w' pb g T p' b N ks) : ValP r w0 pb g T (.returned (.tuple #[.map (some b), .nilIface])) w' := by
 subst hr; exact ⟨b, N, p', rfl, h3, h4⟩
theorem ValP.none' {pb g : Nat} {T : List Tk} {r : Option (List L × List Tk)} {w0 w' : World} {mv v : Value} (hr : r = none) (h : IsErr v) : ValP r w0 pb g T (.returned (.tuple #[mv, v])) w' := by
 subst hr; exact ⟨mv, v, rfl, h⟩
theorem pIds_len : ∀ (m : Nat) (ts ts' : List Tk) (ks ks' : List L), pIds m ts ks = some (ks', ts') → ks'.length ≤ ks.length + m
 | 0, _, _, _, _, h => by cases h
 | m + 1, [], _, _, _, h => by cases h
 | m + 1, (k, s) :: ts, ts', ks, ks', h => by
   have a1 : ∀ (l : List L) x, (addK l x).length ≤ l.length + 1 := fun l x => by rw [addK_len]; split <;> omega
   have a2 : (addK (if ks = [] then [[]] else ks) []).length ≤ ks.length + 1 := by
    split
    · rename_i e; subst e; decide
    · exact a1 _ _
   have a3 : (if ks = [] then [[]] else ks : List L).length ≤ ks.length + 1 := by
    split
    · rename_i e; subst e; decide
    · omega
   unfold pIds at h
   split at h
   · cases ts with
     | nil => cases h
     | cons t ts =>
       simp only at h
       split at h
       · have := pIds_len m _ _ _ _ h; have := a1 ks s; omega
       · split at h
         · simp only [Option.some.injEq, Prod.mk.injEq] at h; rw [← h.1]; have := a1 ks s; omega
         · cases h
   · split at h
     · cases ts with
       | nil => cases h
       | cons t ts =>
         simp only at h
         split at h
         · simp only [Option.some.injEq, Prod.mk.injEq] at h; rw [← h.1]; omega
         · split at h
           · have := pIds_len m _ _ _ _ h; omega
           · have := pIds_len m _ _ _ _ h; omega
     · cases h
set_option maxHeartbeats 8000000 in
theorem one_calls (pb g p : Nat) (T ts : List Tk) (k : Nat) (s : L) (hT : T.length ≤ 900) (hz : ∀ t ∈ T, t.2.length ≤ 1000000) (ht : T.drop p = (k, s) :: ts) (w : World) (h : PX w pb g T p) :
   Calls Tryz.prog 148 #[.pointer (some ⟨pb, 0, none⟩)] w fun e w' => ValP (pOne (T.drop p)) w pb g T e w' ∧ Kb w w' pb := by
 have HP := Aside0.mk h
 have HN := Aside0.mk ENew_calls
 have HD := Aside0.mk (drop_one ht)
 have HL := Aside0.mk (fun (W : World) (h : PX W pb g T p) => look_calls pb g p T ts k s (by omega) ht W h)
 have HC := Aside0.mk (fun (W : World) (h : PX W pb g T p) => cons1_calls pb g p T ts k s (by omega) ht W h)
 have hsz : s.length ≤ 1000000 := hz (k, s) (List.mem_of_mem_drop (by rw [ht]; exact List.mem_cons_self))
 have HT0 := Aside0.mk ht
 rw [ht]
 clear h hT hz ht
 by_cases h1 : vk k = 1
 · have HR : Aside0 (pOne ((k, s) :: ts) = some ([[]], (k, s) :: ts)) := ⟨by unfold pOne; simp [h1]⟩
   rw [h1] at HL
   clear h1 hsz
   go_enter Tryz.func148, Tryz.ntmps148
   go_wp2_with (first | ((with_reducible refine (New0_calls w).mono ?_); rintro e w1 ⟨b, rfl, hb, hS, hbl⟩; have HX1 := Aside0.mk (VX.mk (HP.out.below hbl) hS (Kb.of_below hbl pb) hb); clear hb hS hbl) | ((with_reducible refine (HL.out _ HX1.out.px).mono ?_); rintro e w2 ⟨rfl, hb⟩; have HX2 := Aside0.mk (HX1.out.below hb); clear hb HL) | ((with_reducible refine (ins_calls HX2.out _ rfl _ (by decide) (by omega)).mono ?_); rintro e x9 ⟨rfl, hx⟩; have HX9 := Aside0.mk hx; clear hx))
   go_ret2
   exact ⟨ValP.some' HR.out HT0.out.symm HX9.out, HX9.out.kb⟩
 by_cases h3 : vk k = 3
 · have HR : Aside0 (pOne ((k, s) :: ts) = some ([[]], (k, s) :: ts)) := ⟨by unfold pOne; simp [h3]⟩
   rw [h3] at HL
   clear h3 hsz
   go_enter Tryz.func148, Tryz.ntmps148
   go_wp2_with (first | ((with_reducible refine (New0_calls w).mono ?_); rintro e w1 ⟨b, rfl, hb, hS, hbl⟩; have HX1 := Aside0.mk (VX.mk (HP.out.below hbl) hS (Kb.of_below hbl pb) hb); clear hb hS hbl) | ((with_reducible refine (HL.out _ HX1.out.px).mono ?_); rintro e w2 ⟨rfl, hb⟩; have HX2 := Aside0.mk (HX1.out.below hb); clear hb HL) | ((with_reducible refine (ins_calls HX2.out _ rfl _ (by decide) (by omega)).mono ?_); rintro e x9 ⟨rfl, hx⟩; have HX9 := Aside0.mk hx; clear hx))
   go_ret2
   exact ⟨ValP.some' HR.out HT0.out.symm HX9.out, HX9.out.kb⟩
 by_cases h8 : vk k = 8
 · have HR : Aside0 (pOne ((k, s) :: ts) = some ([s], ts)) := ⟨by unfold pOne; simp only; rw [if_neg (by omega), if_pos h8]⟩
   rw [h8] at HL HC
   have HSZ : Aside0 ((mk s).size ≤ 140737488351232) := ⟨by rw [mk_size]; omega⟩
   clear h8 h1 h3 hsz
   go_enter Tryz.func148, Tryz.ntmps148
   go_wp2_with (first | ((with_reducible refine (New0_calls w).mono ?_); rintro e w1 ⟨b, rfl, hb, hS, hbl⟩; have HX1 := Aside0.mk (VX.mk (HP.out.below hbl) hS (Kb.of_below hbl pb) hb); clear hb hS hbl) | ((with_reducible refine (HL.out _ HX1.out.px).mono ?_); rintro e w2 ⟨rfl, hb⟩; have HX2 := Aside0.mk (HX1.out.below hb); clear hb HL) | ((with_reducible refine (HC.out _ HX2.out.px).mono ?_); rintro e w3 ⟨rfl, hp3, hk3⟩; have HX3 := Aside0.mk (HX2.out.move hp3 hk3); clear hp3 hk3 HC) | ((with_reducible refine (ins_calls HX3.out _ rfl _ (HSZ.out) (by omega)).mono ?_); rintro e x9 ⟨rfl, hx⟩; have HX9 := Aside0.mk hx; clear hx))
   go_ret2
   exact ⟨ValP.some' HR.out HD.out.symm HX9.out, HX9.out.kb⟩
 have HR : Aside0 (pOne ((k, s) :: ts) = none) := ⟨by unfold pOne; simp only; rw [if_neg (by omega), if_neg h8]⟩
 obtain ⟨kk, hkk⟩ : ∃ kk, vk k = kk := ⟨_, rfl⟩
 rw [hkk] at HL HC h1 h3 h8
 have f1 : ((kk : Int) == 1) = false := by rw [beq_eq_false_iff_ne]; omega
 have f3 : ((kk : Int) == 3) = false := by rw [beq_eq_false_iff_ne]; omega
 have f8 : ((kk : Int) == 8) = false := by rw [beq_eq_false_iff_ne]; omega
 clear hkk h1 h3 h8 hsz
 go_enter Tryz.func148, Tryz.ntmps148
 go_wp2_with (first | ((with_reducible refine (New0_calls w).mono ?_); rintro e w1 ⟨b, rfl, hb, hS, hbl⟩; have HX1 := Aside0.mk (VX.mk (HP.out.below hbl) hS (Kb.of_below hbl pb) hb); clear hb hS hbl) | ((with_reducible refine (HL.out _ HX1.out.px).mono ?_); rintro e w2 ⟨rfl, hb⟩; have HX2 := Aside0.mk (HX1.out.below hb); clear hb HL) | ((with_reducible refine (HC.out _ HX2.out.px).mono ?_); rintro e w3 ⟨rfl, hp3, hk3⟩; have HX3 := Aside0.mk (HX2.out.move hp3 hk3); clear hp3 hk3 HC) | ((with_reducible refine (HN.out _ _).mono ?_); rintro e w5 ⟨rfl, hb⟩; have HK5 := Aside0.mk (HX3.out.kb.trans (Kb.of_below hb pb)); clear hb))
 go_ret2
 exact ⟨ValP.none' HR.out ⟨_, rfl⟩, HK5.out⟩
set_option maxHeartbeats 16000000 in
theorem ids_calls (pb g p : Nat) (T : List Tk) (hT : T.length ≤ 900) (hE : EndsT T) (hz : ∀ t ∈ T, t.2.length ≤ 1000000) (ht : T.drop p ≠ []) (w : World) (h : PX w pb g T p) :
   Calls Tryz.prog 173 #[.pointer (some ⟨pb, 0, none⟩)] w fun e w' => ValP (pIds (T.drop p).length (T.drop p) []) w pb g T e w' ∧ Kb w w' pb := by
 have HP := Aside0.mk h
 have HN := Aside0.mk ENew_calls
 obtain ⟨n, hn⟩ : ∃ n, (T.drop p).length = n := ⟨_, rfl⟩
 have hn9 : n ≤ 900 := by rw [← hn, List.length_drop]; omega
 obtain ⟨R, hR⟩ : ∃ R, pIds (T.drop p).length (T.drop p) [] = R := ⟨_, rfl⟩
 rw [hR]
 rw [hn] at hR
 have HR := Aside0.mk hR
 have HNL := Aside0.mk hn
 have HT0 := Aside0.mk ht
 have mem : ∀ {q k s ts}, T.drop q = (k, s) :: ts → s.length ≤ 1000000 := fun {q k s ts} e => hz (k, s) (List.mem_of_mem_drop (by rw [e]; exact List.mem_cons_self))
 have MEM := Aside0.mk @mem
 have HE := Aside0.mk hE
 clear h hR hn ht hz mem hE
 go_enter Tryz.func173, Tryz.ntmps173
 go_upto_region 2 with (first | ((with_reducible refine (New0_calls w).mono ?_); rintro e w1 ⟨b, rfl, hb, hS, hbl⟩; have HX1 := Aside0.mk (VX.mk (HP.out.below hbl) hS (Kb.of_below hbl pb) hb); clear hb hS hbl))
 go_loopg [] (n) (fun k w' => ∃ (q N : Nat) (ks : List L), Aside0 (pIds k (T.drop q) ks = R) ∧ Aside0 ((T.drop q).length ≤ k ∧ N + 2 * k ≤ 1800 ∧ T.drop q ≠ []) ∧ Aside0 (VX w w' pb g T q b N ks))
 case atStart => exact ⟨p, 0, [], HR, ⟨by rw [HNL.out]; exact Nat.le_refl _, by omega, HT0.out⟩, HX1⟩
 case round =>
  obtain ⟨q, N, ks, HRQ, HQ, HX⟩ := hrel
  clear HX1 HR HNL HT0 HP
  obtain ⟨k1, s1, ts1, ht1⟩ : ∃ k1 s1 ts1, T.drop q = (k1, s1) :: ts1 := by
   cases e : T.drop q with
   | nil => exact absurd e HQ.out.2.2
   | cons t ts => exact ⟨t.1, t.2, ts, rfl⟩
  obtain ⟨m, rfl⟩ : ∃ m, gk = m + 1 := ⟨gk - 1, by have := HQ.out.1; rw [ht1] at this; simp at this; omega⟩
  have hlen : ts1.length ≤ m := by have := HQ.out.1; rw [ht1] at this; simpa using this
  have hNb : N + 2 * m ≤ 1798 := by have := HQ.out.2.1; omega
  have hrq := HRQ.out
  rw [ht1] at hrq
  unfold pIds at hrq
  clear HRQ HQ
  have HC := Aside0.mk (fun (W : World) (h : PX W pb g T q) => cons1_calls pb g q T ts1 k1 s1 (by omega) ht1 W h)
  have HD := Aside0.mk (drop_one ht1)
  have HS1 : Aside0 ((mk s1).size ≤ 140737488351232) := ⟨by rw [mk_size]; have := MEM.out ht1; omega⟩
  by_cases h8 : vk k1 = 8
  · rw [if_pos h8] at hrq
    obtain ⟨k2, s2, ts2, hts, ht2⟩ := HE.out.more ht1 (by omega)
    rw [hts] at hrq
    simp only at hrq
    rw [h8] at HC
    have HL := Aside0.mk (fun (W : World) (h : PX W pb g T (q + 1)) => look_calls pb g (q + 1) T ts2 k2 s2 (by omega) ht2 W h)
    by_cases h3 : vk k2 = 3
    · rw [if_pos h3] at hrq
      rw [h3] at HL
      have HR : Aside0 (pIds m (T.drop (q + 1)) (addK ks (mk s1).data.toList) = R) := ⟨by rw [ht2]; exact hrq⟩
      have HLQ : Aside0 ((T.drop (q + 1)).length ≤ m ∧ T.drop (q + 1) ≠ []) := ⟨by rw [HD.out]; exact hlen, by rw [ht2]; simp⟩
      clear h8 h3 hrq hts ht2 ht1 hlen
      go_wp2_with (first | ((with_reducible refine (HC.out _ HX.out.px).mono ?_); rintro e xa ⟨rfl, hp3, hk3⟩; have HXA := Aside0.mk (HX.out.move hp3 hk3); clear hp3 hk3 HC) | ((with_reducible refine (ins_calls HXA.out _ rfl _ (HS1.out) (by omega)).mono ?_); rintro e xb ⟨rfl, hx⟩; have HXB := Aside0.mk hx; clear hx) | ((with_reducible refine (HL.out _ HXB.out.px).mono ?_); rintro e xc ⟨rfl, hb⟩; have HXC := Aside0.mk (HXB.out.below hb); clear hb HL))
      go_roundg m
      case measure => omega
      case rel => exact ⟨q + 1, N + 1, _, HR, ⟨HLQ.out.1, by omega, HLQ.out.2⟩, HXC⟩
    rw [if_neg h3] at hrq
    by_cases h2 : vk k2 = 2
    · rw [if_pos h2] at hrq
      rw [h2] at HL
      have HR : Aside0 (R = some (addK ks (mk s1).data.toList, ts1)) := ⟨by rw [hts]; exact hrq.symm⟩
      clear h8 h3 h2 hrq hts ht2 ht1 hlen
      go_wp2_with (first | ((with_reducible refine (HC.out _ HX.out.px).mono ?_); rintro e xa ⟨rfl, hp3, hk3⟩; have HXA := Aside0.mk (HX.out.move hp3 hk3); clear hp3 hk3 HC) | ((with_reducible refine (ins_calls HXA.out _ rfl _ (HS1.out) (by omega)).mono ?_); rintro e xb ⟨rfl, hx⟩; have HXB := Aside0.mk hx; clear hx) | ((with_reducible refine (HL.out _ HXB.out.px).mono ?_); rintro e xc ⟨rfl, hb⟩; have HXC := Aside0.mk (HXB.out.below hb); clear hb HL))
      go_ret2
      exact ⟨ValP.some' HR.out HD.out.symm HXC.out, HXC.out.kb⟩
    rw [if_neg h2] at hrq
    have HR : Aside0 (R = none) := ⟨hrq.symm⟩
    obtain ⟨kk, hkk⟩ : ∃ kk, vk k2 = kk := ⟨_, rfl⟩
    rw [hkk] at HL h2 h3
    have f2 : ((kk : Int) == 2) = false := by rw [beq_eq_false_iff_ne]; omega
    have f3 : ((kk : Int) == 3) = false := by rw [beq_eq_false_iff_ne]; omega
    clear hkk h8 h3 h2 hrq hts ht2 ht1 hlen
    go_wp2_with (first | ((with_reducible refine (HC.out _ HX.out.px).mono ?_); rintro e xa ⟨rfl, hp3, hk3⟩; have HXA := Aside0.mk (HX.out.move hp3 hk3); clear hp3 hk3 HC) | ((with_reducible refine (ins_calls HXA.out _ rfl _ (HS1.out) (by omega)).mono ?_); rintro e xb ⟨rfl, hx⟩; have HXB := Aside0.mk hx; clear hx) | ((with_reducible refine (HL.out _ HXB.out.px).mono ?_); rintro e xc ⟨rfl, hb⟩; have HXC := Aside0.mk (HXB.out.below hb); clear hb HL) | ((with_reducible refine (HN.out _ _).mono ?_); rintro e w5 ⟨rfl, hb⟩; have HK5 := Aside0.mk (HXC.out.kb.trans (Kb.of_below hb pb)); clear hb))
    go_ret2
    exact ⟨ValP.none' HR.out ⟨_, rfl⟩, HK5.out⟩
  rw [if_neg h8] at hrq
  by_cases hc : vk k1 = 3
  · rw [if_pos hc] at hrq
    obtain ⟨k2, s2, ts2, hts, ht2⟩ := HE.out.more ht1 (by omega)
    rw [hts] at hrq
    simp only at hrq
    rw [hc] at HC
    have HL := Aside0.mk (fun (W : World) (h : PX W pb g T (q + 1)) => look_calls pb g (q + 1) T ts2 k2 s2 (by omega) ht2 W h)
    have HC2 := Aside0.mk (fun (W : World) (h : PX W pb g T (q + 1)) => cons1_calls pb g (q + 1) T ts2 k2 s2 (by omega) ht2 W h)
    have HD2 := Aside0.mk (drop_one ht2)
    by_cases hks : ks = []
    · subst hks
      rw [if_pos rfl] at hrq
      rw [show ([[]] : List L) = (addK [] (⟨#[]⟩ : ByteArray).data.toList) from rfl] at hrq
      by_cases h2 : vk k2 = 2
      · rw [if_pos h2] at hrq
        rw [h2] at HL
        have HR : Aside0 (R = some (addK (addK [] (⟨#[]⟩ : ByteArray).data.toList) (⟨#[]⟩ : ByteArray).data.toList, ts1)) := ⟨by rw [hts]; exact hrq.symm⟩
        clear h8 hc h2 hrq hts ht2 ht1 hlen HC2 HD2
        go_wp2_with (first | ((with_reducible refine (HC.out _ HX.out.px).mono ?_); rintro e xa ⟨rfl, hp3, hk3⟩; have HXA := Aside0.mk (HX.out.move hp3 hk3); clear hp3 hk3 HC) | ((with_reducible refine (Len_calls b _ _ _ HXA.out.st).mono ?_); rintro e w' ⟨rfl, rfl⟩) | ((with_reducible refine (ins_calls HXA.out _ rfl _ (by decide) (by omega)).mono ?_); rintro e xb ⟨rfl, hx⟩; have HXB := Aside0.mk hx; clear hx) | ((with_reducible refine (HL.out _ HXB.out.px).mono ?_); rintro e xc ⟨rfl, hb⟩; have HXC := Aside0.mk (HXB.out.below hb); clear hb HL) | ((with_reducible refine (ins_calls HXC.out _ rfl _ (by decide) (by omega)).mono ?_); rintro e xd ⟨rfl, hx⟩; have HXD := Aside0.mk hx; clear hx))
        go_ret2
        exact ⟨ValP.some' HR.out HD.out.symm HXD.out, HXD.out.kb⟩
      rw [if_neg h2] at hrq
      by_cases h3 : vk k2 = 3
      · rw [if_pos h3] at hrq
        rw [h3] at HL HC2
        obtain ⟨k3, s3, ts3, hts3, ht3⟩ := HE.out.more ht2 (by omega)
        have HR : Aside0 (pIds m (T.drop (q + 1 + 1)) (addK (addK [] (⟨#[]⟩ : ByteArray).data.toList) (⟨#[]⟩ : ByteArray).data.toList) = R) := ⟨by rw [HD2.out]; exact hrq⟩
        have HLQ : Aside0 ((T.drop (q + 1 + 1)).length ≤ m ∧ T.drop (q + 1 + 1) ≠ []) := ⟨by rw [HD2.out]; rw [hts] at hlen; simp at hlen; omega, by rw [ht3]; simp⟩
        clear h8 hc h2 h3 hrq hts hts3 ht2 ht1 ht3 hlen
        go_wp2_with (first | ((with_reducible refine (HC.out _ HX.out.px).mono ?_); rintro e xa ⟨rfl, hp3, hk3⟩; have HXA := Aside0.mk (HX.out.move hp3 hk3); clear hp3 hk3 HC) | ((with_reducible refine (Len_calls b _ _ _ HXA.out.st).mono ?_); rintro e w' ⟨rfl, rfl⟩) | ((with_reducible refine (ins_calls HXA.out _ rfl _ (by decide) (by omega)).mono ?_); rintro e xb ⟨rfl, hx⟩; have HXB := Aside0.mk hx; clear hx) | ((with_reducible refine (HL.out _ HXB.out.px).mono ?_); rintro e xc ⟨rfl, hb⟩; have HXC := Aside0.mk (HXB.out.below hb); clear hb HL) | ((with_reducible refine (HC2.out _ HXC.out.px).mono ?_); rintro e xd ⟨rfl, hp3, hk3⟩; have HXD := Aside0.mk (HXC.out.move hp3 hk3); clear hp3 hk3 HC2) | ((with_reducible refine (ins_calls HXD.out _ rfl _ (by decide) (by omega)).mono ?_); rintro e xe ⟨rfl, hx⟩; have HXE := Aside0.mk hx; clear hx))
        go_roundg m
        case measure => omega
        case rel => exact ⟨q + 1 + 1, N + 1 + 1, _, HR, ⟨HLQ.out.1, by omega, HLQ.out.2⟩, HXE⟩
      rw [if_neg h3] at hrq
      have HR : Aside0 (pIds m (T.drop (q + 1)) (addK [] (⟨#[]⟩ : ByteArray).data.toList) = R) := ⟨by rw [ht2]; exact hrq⟩
      have HLQ : Aside0 ((T.drop (q + 1)).length ≤ m ∧ T.drop (q + 1) ≠ []) := ⟨by rw [HD.out]; exact hlen, by rw [ht2]; simp⟩
      obtain ⟨kk, hkk⟩ : ∃ kk, vk k2 = kk := ⟨_, rfl⟩
      rw [hkk] at HL h2 h3
      have f2 : ((kk : Int) == 2) = false := by rw [beq_eq_false_iff_ne]; omega
      have f3 : ((kk : Int) == 3) = false := by rw [beq_eq_false_iff_ne]; omega
      clear hkk h8 hc h3 h2 hrq hts ht2 ht1 hlen HC2 HD2
      go_wp2_with (first | ((with_reducible refine (HC.out _ HX.out.px).mono ?_); rintro e xa ⟨rfl, hp3, hk3⟩; have HXA := Aside0.mk (HX.out.move hp3 hk3); clear hp3 hk3 HC) | ((with_reducible refine (Len_calls b _ _ _ HXA.out.st).mono ?_); rintro e w' ⟨rfl, rfl⟩) | ((with_reducible refine (ins_calls HXA.out _ rfl _ (by decide) (by omega)).mono ?_); rintro e xb ⟨rfl, hx⟩; have HXB := Aside0.mk hx; clear hx) | ((with_reducible refine (HL.out _ HXB.out.px).mono ?_); rintro e xc ⟨rfl, hb⟩; have HXC := Aside0.mk (HXB.out.below hb); clear hb HL))
      go_roundg m
      case measure => omega
      case rel => exact ⟨q + 1, N + 1, _, HR, ⟨HLQ.out.1, by omega, HLQ.out.2⟩, HXC⟩
    rw [if_neg hks] at hrq
    have f0 : ((ks.length : Int) == 0) = false := by rw [beq_eq_false_iff_ne]; cases ks with | nil => exact absurd rfl hks | cons a l => simp; omega
    clear hks
    by_cases h2 : vk k2 = 2
    · rw [if_pos h2] at hrq
      rw [h2] at HL
      have HR : Aside0 (R = some (addK ks (⟨#[]⟩ : ByteArray).data.toList, ts1)) := ⟨by rw [hts]; exact hrq.symm⟩
      clear h8 hc h2 hrq hts ht2 ht1 hlen HC2 HD2
      go_wp2_with (first | ((with_reducible refine (HC.out _ HX.out.px).mono ?_); rintro e xa ⟨rfl, hp3, hk3⟩; have HXA := Aside0.mk (HX.out.move hp3 hk3); clear hp3 hk3 HC) | ((with_reducible refine (Len_calls b _ _ _ HXA.out.st).mono ?_); rintro e w' ⟨rfl, rfl⟩) | ((with_reducible refine (HL.out _ HXA.out.px).mono ?_); rintro e xc ⟨rfl, hb⟩; have HXC := Aside0.mk (HXA.out.below hb); clear hb HL) | ((with_reducible refine (ins_calls HXC.out _ rfl _ (by decide) (by omega)).mono ?_); rintro e xd ⟨rfl, hx⟩; have HXD := Aside0.mk hx; clear hx))
      go_ret2
      exact ⟨ValP.some' HR.out HD.out.symm HXD.out, HXD.out.kb⟩
    rw [if_neg h2] at hrq
    by_cases h3 : vk k2 = 3
    · rw [if_pos h3] at hrq
      rw [h3] at HL HC2
      obtain ⟨k3, s3, ts3, hts3, ht3⟩ := HE.out.more ht2 (by omega)
      have HR : Aside0 (pIds m (T.drop (q + 1 + 1)) (addK ks (⟨#[]⟩ : ByteArray).data.toList) = R) := ⟨by rw [HD2.out]; exact hrq⟩
      have HLQ : Aside0 ((T.drop (q + 1 + 1)).length ≤ m ∧ T.drop (q + 1 + 1) ≠ []) := ⟨by rw [HD2.out]; rw [hts] at hlen; simp at hlen; omega, by rw [ht3]; simp⟩
      clear h8 hc h2 h3 hrq hts hts3 ht2 ht1 ht3 hlen
      go_wp2_with (first | ((with_reducible refine (HC.out _ HX.out.px).mono ?_); rintro e xa ⟨rfl, hp3, hk3⟩; have HXA := Aside0.mk (HX.out.move hp3 hk3); clear hp3 hk3 HC) | ((with_reducible refine (Len_calls b _ _ _ HXA.out.st).mono ?_); rintro e w' ⟨rfl, rfl⟩) | ((with_reducible refine (HL.out _ HXA.out.px).mono ?_); rintro e xc ⟨rfl, hb⟩; have HXC := Aside0.mk (HXA.out.below hb); clear hb HL) | ((with_reducible refine (HC2.out _ HXC.out.px).mono ?_); rintro e xd ⟨rfl, hp3, hk3⟩; have HXD := Aside0.mk (HXC.out.move hp3 hk3); clear hp3 hk3 HC2) | ((with_reducible refine (ins_calls HXD.out _ rfl _ (by decide) (by omega)).mono ?_); rintro e xe ⟨rfl, hx⟩; have HXE := Aside0.mk hx; clear hx))
      go_roundg m
      case measure => omega
      case rel => exact ⟨q + 1 + 1, N + 1, _, HR, ⟨HLQ.out.1, by omega, HLQ.out.2⟩, HXE⟩
    rw [if_neg h3] at hrq
    have HR : Aside0 (pIds m (T.drop (q + 1)) ks = R) := ⟨by rw [ht2]; exact hrq⟩
    have HLQ : Aside0 ((T.drop (q + 1)).length ≤ m ∧ T.drop (q + 1) ≠ []) := ⟨by rw [HD.out]; exact hlen, by rw [ht2]; simp⟩
    obtain ⟨kk, hkk⟩ : ∃ kk, vk k2 = kk := ⟨_, rfl⟩
    rw [hkk] at HL h2 h3
    have f2 : ((kk : Int) == 2) = false := by rw [beq_eq_false_iff_ne]; omega
    have f3 : ((kk : Int) == 3) = false := by rw [beq_eq_false_iff_ne]; omega
    clear hkk h8 hc h3 h2 hrq hts ht2 ht1 hlen HC2 HD2
    go_wp2_with (first | ((with_reducible refine (HC.out _ HX.out.px).mono ?_); rintro e xa ⟨rfl, hp3, hk3⟩; have HXA := Aside0.mk (HX.out.move hp3 hk3); clear hp3 hk3 HC) | ((with_reducible refine (Len_calls b _ _ _ HXA.out.st).mono ?_); rintro e w' ⟨rfl, rfl⟩) | ((with_reducible refine (HL.out _ HXA.out.px).mono ?_); rintro e xc ⟨rfl, hb⟩; have HXC := Aside0.mk (HXA.out.below hb); clear hb HL))
    go_roundg m
    case measure => omega
    case rel => exact ⟨q + 1, N, _, HR, ⟨HLQ.out.1, by omega, HLQ.out.2⟩, HXC⟩
  rw [if_neg hc] at hrq
  have HR : Aside0 (R = none) := ⟨hrq.symm⟩
  obtain ⟨kk, hkk⟩ : ∃ kk, vk k1 = kk := ⟨_, rfl⟩
  rw [hkk] at HC h8 hc
  have f8 : ((kk : Int) == 8) = false := by rw [beq_eq_false_iff_ne]; omega
  have f3 : ((kk : Int) == 3) = false := by rw [beq_eq_false_iff_ne]; omega
  clear hkk h8 hc hrq ht1 hlen
  go_wp2_with (first | ((with_reducible refine (HC.out _ HX.out.px).mono ?_); rintro e xa ⟨rfl, hp3, hk3⟩; have HXA := Aside0.mk (HX.out.move hp3 hk3); clear hp3 hk3 HC) | ((with_reducible refine (HN.out _ _).mono ?_); rintro e w5 ⟨rfl, hb⟩; have HK5 := Aside0.mk (HXA.out.kb.trans (Kb.of_below hb pb)); clear hb))
  go_ret2
  exact ⟨ValP.none' HR.out ⟨_, rfl⟩, HK5.out⟩
end Go.Proofs.YthfjolafikgpoaaGreatDoor.Hand

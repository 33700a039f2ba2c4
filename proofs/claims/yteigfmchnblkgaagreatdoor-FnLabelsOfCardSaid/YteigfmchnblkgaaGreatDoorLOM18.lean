/- Requirements as text, with blanks by choices: the tokens of that text, and what the parser makes of them. No program in sight. -/
import Derived.Test.YteigfmchnblkgaaGreatDoorLOGParA
import Derived.Test.YteigfmchnblkgaaGreatDoorLOGParB
import Derived.Test.YteigfmchnblkgaaGreatDoorLOLabNew
import Derived.Test.YteigfmchnblkgaaGreatDoorLOLabSetOf
import Derived.RegionTactic
import Derived.Deep.RegionLaw
import Derived.Deep.RegionWith
import Derived.Deep.RegionHeldLaw
namespace Go.Proofs.YteigfmchnblkgaaGreatDoor.Hand
open Go.RowKit Go.Proofs.YteigfmchnblkgaaGreatDoor.Base
set_option linter.unusedVariables false
set_option linter.unusedSimpArgs false
set_option maxRecDepth 100000
/-- A piece of a text: a gap by choice, or bytes. -/
inductive Pc where
  | gap : Pc
  | str : L → Pc
/-- A blank by its choice. -/
def blankL (c : UInt8) : L := if c.toNat % 4 = 0 then [] else if c.toNat % 4 = 1 then [32] else if c.toNat % 4 = 2 then [32, 32] else [9]
def gapL (cs : L) : L := match cs with | [] => [] | c :: _ => blankL c
/-- The text of pieces. -/
def outL : List Pc → L → L
  | [], _ => []
  | .gap :: ps, cs => gapL cs ++ outL ps cs.tail
  | .str p :: ps, cs => p ++ outL ps cs
def restL : List Pc → L → L
  | [], cs => cs
  | .gap :: ps, cs => restL ps cs.tail
  | .str _ :: ps, cs => restL ps cs
theorem outL_app (a b : List Pc) : ∀ cs, outL (a ++ b) cs = outL a cs ++ outL b (restL a cs) := by
  induction a with
  | nil => intro cs; rfl
  | cons p a ih => intro cs; cases p with
    | gap => show gapL cs ++ outL (a ++ b) cs.tail = (gapL cs ++ outL a cs.tail) ++ _; rw [ih]; simp [restL]
    | str q => show q ++ outL (a ++ b) cs = (q ++ outL a cs) ++ _; rw [ih]; simp [restL]
theorem restL_app (a b : List Pc) : ∀ cs, restL (a ++ b) cs = restL b (restL a cs) := by
  induction a with
  | nil => intro cs; rfl
  | cons p a ih => intro cs; cases p with
    | gap => exact ih cs.tail
    | str q => exact ih cs
/-- A word of a selector: not empty, no sign and no white in it. -/
def isWord (p : L) : Bool := !(p == []) && p.all isWd
abbrev oIn (op : L) : Prop := op = [105, 110] ∨ op = [110, 111, 116, 105, 110]
/-- The pieces that spec.Freely writes. -/
def pcsV : List L → List Pc
  | [] => []
  | v :: r => .str v :: .gap :: r.flatMap fun s => [.str [44], .gap, .str s, .gap]
def pcsR (key op : L) (vs : List L) : List Pc :=
  if op = [33] then [.str [33], .gap, .str key]
  else if op = [101, 120, 105, 115, 116, 115] then [.str key]
  else if oIn op then [.str key, .str [32], .gap, .str op, .gap, .str [40], .gap] ++ (pcsV vs ++ [.str [41]])
  else if op = [103, 116] then [.str key, .gap, .str [62], .gap, .str (vs.headD [])]
  else if op = [108, 116] then [.str key, .gap, .str [60], .gap, .str (vs.headD [])]
  else [.str key, .gap, .str op, .gap, .str (vs.headD [])]
def pcF (r : Rq) : List Pc := .str [44] :: .gap :: (pcsR r.1 r.2.1 r.2.2 ++ [.gap])
def pcsAll : List Rq → List Pc
  | [] => []
  | r :: l => pcsR r.1 r.2.1 r.2.2 ++ .gap :: l.flatMap pcF
end Go.Proofs.YteigfmchnblkgaaGreatDoor.Hand

/- spec.spaced and spec.Freely's own gap: a blank by choice. -/
namespace Go.Proofs.YteigfmchnblkgaaGreatDoor.Hand
open Go.RowKit Go.Maps Go.Proofs.YteigfmchnblkgaaGreatDoorW.PrintWords Go.Proofs.YteigfmchnblkgaaGreatDoorW.PrintLast Go.Proofs.YteigfmchnblkgaaGreatDoorW.PrintMore Go.Proofs.YteigfmchnblkgaaGreatDoor.Base
set_option linter.unusedVariables false
set_option linter.unusedSimpArgs false
set_option maxRecDepth 100000
theorem add_block_ (ad : Addr) (n : Nat) : (ad.add n).block = ad.block := by unfold Addr.add; split <;> rfl
/-- A slice of bytes in memory. -/
def Bts (W : World) (A : Option Addr) (n : Nat) (cs : L) : Prop := cs.length = n ∧ n ≤ 9223372036854775807 ∧ ∀ i : Nat, ∀ c : UInt8, cs[i]? = some c → ∃ ad, A = some ad ∧ W.cell? (ad.add i) = some (.int .u8 (c.toNat : Int)) ∧ ad.block < W.heap.size
theorem Bts.below {W W' : World} {A : Option Addr} {n : Nat} {cs : L} (h : Bts W A n cs) (hb : Below W.heap.size W W') : Bts W' A n cs :=
  ⟨h.1, h.2.1, fun i c hc => by
    obtain ⟨ad, e, h1, h2⟩ := h.2.2 i c hc
    exact ⟨ad, e, (hb.cell (p := ad.add i) (by rw [add_block_]; exact h2)).trans h1, Nat.lt_of_lt_of_le h2 hb.size⟩⟩
/-- The gaps of a call of Freely that began in w0: rs is left of the choices cs. -/
structure GapS (w0 W : World) (A : Option Addr) (n c : Nat) (cs rs : L) : Prop where
  be : Below w0.heap.size w0 W
  bx : W.heap[w0.heap.size]? = some (.cells #[.slice A n c] 37 (0, 0))
  bt : Bts w0 A n cs
  at_ : ∃ a : Nat, rs = cs.drop a ∧ a ≤ n ∧ W.heap[w0.heap.size + 1]? = some (.cells #[.int .i64 a] 3 (0, 0))
theorem blank_pick (c : UInt8) : (∃ k : Nat, k < 4 ∧ c.toNat % 4 = k ∧ ([([] : L), [32], [32, 32], [9]])[k]? = some (blankL c)) := by
  refine ⟨c.toNat % 4, Nat.mod_lt _ (by decide), rfl, ?_⟩
  have h : c.toNat % 4 < 4 := Nat.mod_lt _ (by decide)
  unfold blankL
  generalize c.toNat % 4 = k at h
  match k, h with
  | 0, _ => rfl
  | 1, _ => rfl
  | 2, _ => rfl
  | 3, _ => rfl
set_option maxHeartbeats 8000000 in
theorem Spaced_calls (w0 W : World) (A : Option Addr) (n c : Nat) (cs rs : L) (h : GapS w0 W A n c cs rs) :
    Calls Tryz.prog 55 #[.slice A n c, .pointer (some ⟨w0.heap.size + 1, 0, none⟩)] W fun e W' => e = .returned (.string (mk (gapL rs))) ∧ GapS w0 W' A n c cs rs.tail ∧ Kb W W' (w0.heap.size + 1) := by
  obtain ⟨a, hrs, han, hat⟩ := h.at_
  have k0 : W.cell? ⟨w0.heap.size + 1, 0, none⟩ = some (.int .i64 a) := (blk_cell hat 0).trans rfl
  have k1 : W.frozen? ⟨w0.heap.size + 1, 0, none⟩ = false := blk_frozen hat 0
  have HH := Aside0.mk h
  have HAT := Aside0.mk hat
  have HRS := Aside0.mk hrs
  have hn9 := h.bt.2.1
  have HLN := Aside0.mk h.bt.1
  clear h hat hrs
  by_cases hlt : a < n
  · obtain ⟨b, hb⟩ : ∃ b, cs[a]? = some b := ⟨_, List.getElem?_eq_getElem (by rw [HLN.out]; exact hlt)⟩
    obtain ⟨ad, rfl, hc0, hlb⟩ := HH.out.bt.2.2 a b hb
    have hc : W.cell? (ad.add a) = some (.int .u8 (b.toNat : Int)) := (HH.out.be.cell (p := ad.add a) (by rw [add_block_]; exact hlb)).trans hc0
    have hd : cs.drop a = b :: cs.drop (a + 1) := by
      rw [List.drop_eq_getElem_cons (by rw [HLN.out]; exact hlt)]
      congr 1
      exact (List.getElem?_eq_some_iff.1 hb).2
    have HG : Aside0 (gapL rs = blankL b) := ⟨by rw [HRS.out, hd]; rfl⟩
    have HTL : Aside0 (rs.tail = cs.drop (a + 1)) := ⟨by rw [HRS.out, hd]; rfl⟩
    obtain ⟨W1, hW1⟩ : ∃ W1, W.setCell ⟨w0.heap.size + 1, 0, none⟩ (.int .i64 ((a : Int) + 1)) = W1 := ⟨_, rfl⟩
    have HK : Aside0 (Kb W W1 (w0.heap.size + 1)) := ⟨by rw [← hW1]; exact Kb.set W _ 0 _⟩
    have hat1 : W1.heap[w0.heap.size + 1]? = some (.cells #[.int .i64 ((a : Int) + 1)] 3 (0, 0)) := by rw [← hW1]; exact blk_put HAT.out 0 _ (cs' := #[.int .i64 ((a : Int) + 1)]) rfl
    have d0 : W1.cell? ⟨w0.heap.size + 1, 0, none⟩ = some (.int .i64 ((a : Int) + 1)) := (blk_cell hat1 0).trans rfl
    have HSZ : Aside0 (w0.heap.size ≤ W.heap.size) := ⟨HH.out.be.size⟩
    have d1 : W1.cell? (ad.add a) = some (.int .u8 (b.toNat : Int)) := ((HK.out.below (B := w0.heap.size) (by omega) HSZ.out).cell (p := ad.add a) (by rw [add_block_]; exact hlb)).trans hc
    have HA1 := Aside0.mk hat1
    have HGS : Aside0 (∀ W', Below W1.heap.size W1 W' → GapS w0 W' (some ad) n c cs rs.tail ∧ Kb W W' (w0.heap.size + 1)) := ⟨fun W' hb => by
      have hk : Kb W W' (w0.heap.size + 1) := HK.out.trans (Kb.of_below hb _)
      have hbe : Below w0.heap.size w0 W' := HH.out.be.trans (hk.below (by omega) HSZ.out)
      refine ⟨⟨hbe, ?_, HH.out.bt, a + 1, HTL.out, by omega, ?_⟩, hk⟩
      · have h1 := blk_lt HH.out.bx
        exact ((hk.ke.2 _ h1 (by omega) (by simp)).trans HH.out.bx)
      · exact (hb.block _ (blk_lt HA1.out)).trans HA1.out⟩
    have e1 : decide ((n : Int) ≤ (a : Int)) = false := decide_eq_false (by omega)
    have hm : (b.toNat : Int) % 4 = ((b.toNat % 4 : Nat) : Int) := by omega
    obtain ⟨kk, hk4, hkm, hpk⟩ := blank_pick b
    clear hc0 hc hd hat1 hb hlb
    go_enter Tryz.func55, Tryz.ntmps55
    go_upto_region 4 with (fail)
    obtain ⟨W2, hW2⟩ : ∃ W2, W1.alloc (.cells #[.string ⟨#[]⟩, .string ⟨#[32]⟩, .string ⟨#[32, 32]⟩, .string ⟨#[9]⟩] 9) = W2 := ⟨_, rfl⟩
    have hbk2 := heap_alloc_new W1 (.cells #[.string ⟨#[]⟩, .string ⟨#[32]⟩, .string ⟨#[32, 32]⟩, .string ⟨#[9]⟩] 9)
    have HB2 := Aside0.mk (below_alloc (Below.refl W1.heap.size W1) (.cells #[.string ⟨#[]⟩, .string ⟨#[32]⟩, .string ⟨#[32, 32]⟩, .string ⟨#[9]⟩] 9))
    rw [hW2] at hbk2 HB2
    have m0 : W2.cell? ⟨w0.heap.size + 1, 0, none⟩ = some (.int .i64 ((a : Int) + 1)) := (HB2.out.cell (World.block_lt_of_cell? _ _ d0)).trans d0
    have m1 : W2.cell? (ad.add a) = some (.int .u8 (b.toNat : Int)) := (HB2.out.cell (p := ad.add a) (World.block_lt_of_cell? _ _ d1)).trans d1
    have n0 : W2.cell? ⟨W1.heap.size, 0, none⟩ = some (.string ⟨#[]⟩) := (blk_cell hbk2 0).trans rfl
    have n1 : W2.cell? ⟨W1.heap.size, 1, none⟩ = some (.string ⟨#[32]⟩) := (blk_cell hbk2 1).trans rfl
    have n2 : W2.cell? ⟨W1.heap.size, 2, none⟩ = some (.string ⟨#[32, 32]⟩) := (blk_cell hbk2 2).trans rfl
    have n3 : W2.cell? ⟨W1.heap.size, 3, none⟩ = some (.string ⟨#[9]⟩) := (blk_cell hbk2 3).trans rfl
    clear hW1 k0 k1 hbk2
    have HPK := Aside0.mk hpk
    clear hpk hm e1
    have HK4 : Aside0 ((b.toNat : Int) % 4 = (kk : Int)) := ⟨by omega⟩
    clear hkm
    have h4 : kk = 0 ∨ kk = 1 ∨ kk = 2 ∨ kk = 3 := by omega
    clear hk4
    rcases h4 with rfl | rfl | rfl | rfl
    · have hm : (b.toNat : Int) % 4 = 0 := HK4.out
      go_wp2
      go_ret
      exact ⟨by rw [HG.out, ← Option.some.inj HPK.out]; rfl, HGS.out _ HB2.out⟩
    · have hm : (b.toNat : Int) % 4 = 1 := HK4.out
      go_wp2
      go_ret
      exact ⟨by rw [HG.out, ← Option.some.inj HPK.out]; rfl, HGS.out _ HB2.out⟩
    · have hm : (b.toNat : Int) % 4 = 2 := HK4.out
      go_wp2
      go_ret
      exact ⟨by rw [HG.out, ← Option.some.inj HPK.out]; rfl, HGS.out _ HB2.out⟩
    · have hm : (b.toNat : Int) % 4 = 3 := HK4.out
      go_wp2
      go_ret
      exact ⟨by rw [HG.out, ← Option.some.inj HPK.out]; rfl, HGS.out _ HB2.out⟩
  · have HG : Aside0 (gapL rs = []) := ⟨by rw [HRS.out, List.drop_of_length_le (by rw [HLN.out]; omega)]; rfl⟩
    have HTL : Aside0 (rs.tail = rs) := ⟨by rw [HRS.out, List.drop_of_length_le (by rw [HLN.out]; omega)]; rfl⟩
    have e1 : decide ((n : Int) ≤ (a : Int)) = true := decide_eq_true (by omega)
    go_enter Tryz.func55, Tryz.ntmps55
    go_wp2
    go_ret
    exact ⟨by rw [HG.out]; rfl, by rw [HTL.out]; exact HH.out, Kb.refl _ _⟩
end Go.Proofs.YteigfmchnblkgaaGreatDoor.Hand

/- spec.Fair: what a requirement may be, as the reference says. -/
namespace Go.Proofs.YteigfmchnblkgaaGreatDoor.Hand
open Go.RowKit Go.Maps Go.Proofs.YteigfmchnblkgaaGreatDoorW.PrintWords Go.Proofs.YteigfmchnblkgaaGreatDoorW.PrintLast Go.Proofs.YteigfmchnblkgaaGreatDoorW.PrintMore Go.Proofs.YteigfmchnblkgaaGreatDoor.Base
set_option linter.unusedVariables false
set_option linter.unusedSimpArgs false
set_option maxRecDepth 100000

end Go.Proofs.YteigfmchnblkgaaGreatDoor.Hand

/- spec.Words over one requirement. -/
namespace Go.Proofs.YteigfmchnblkgaaGreatDoor.Hand
open Go.RowKit Go.Maps Go.Proofs.YteigfmchnblkgaaGreatDoorW.PrintWords Go.Proofs.YteigfmchnblkgaaGreatDoorW.PrintLast Go.Proofs.YteigfmchnblkgaaGreatDoorW.PrintMore Go.Proofs.YteigfmchnblkgaaGreatDoor.Base
set_option linter.unusedVariables false
set_option linter.unusedSimpArgs false
set_option maxRecDepth 100000
end Go.Proofs.YteigfmchnblkgaaGreatDoor.Hand

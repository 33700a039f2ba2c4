/- The reference's reader: a requirement. -/
import Derived.Test.YthfjolafikgpoaaGreatDoorSDRdB
import Derived.Test.YthfjolafikgpoaaGreatDoorSDLabFair
import Derived.Test.YthfjolafikgpoaaGreatDoorSDGParB
import Derived.StillTailTactics
namespace Go.Proofs.YthfjolafikgpoaaGreatDoor.Hand
open Go.RowKit Go.Maps Go.Proofs.YthfjolafikgpoaaGreatDoorW.PrintWords Go.Proofs.YthfjolafikgpoaaGreatDoorW.PrintLast Go.Proofs.YthfjolafikgpoaaGreatDoorW.PrintMore Go.Proofs.YthfjolafikgpoaaGreatDoor.Base
set_option linter.unusedVariables false
set_option linter.unusedSimpArgs false
set_option maxRecDepth 100000
def rReq : List Tk → Option (Rq × List Tk)
 | [] => none
 | (k, s) :: ts => if vk k = 4 then (match ts with
     | [] => none
     | (k2, s2) :: ts2 => if vk k2 = 8 then (if fairR s2 [33] [] then some ((s2, [33], []), ts2) else none) else none)
   else if vk k = 8 then (if ePos ts then (if fairR s [101, 120, 105, 115, 116, 115] [] then some ((s, [101, 120, 105, 115, 116, 115], []), ts) else none)
     else (match pOp ts with
       | none => none
       | some (op, ts2) => (match (if op = [105, 110] ∨ op = [110, 111, 116, 105, 110] then pVals ts2 else pOne ts2) with
         | none => none
         | some (ks, ts3) => if fairR s op (setL ks) then some ((s, op, setL ks), ts3) else none)))
   else none
theorem fair_bad {key op : L} {vs : List L} (h : pQ key = false) : fairR key op vs = false := by unfold fairR; rw [h]; simp
theorem rReq_eq (ts : List Tk) : rReq ts = pReq ts := by
 cases ts with
 | nil => rfl
 | cons t ts =>
   obtain ⟨k, s⟩ := t
   unfold rReq pReq pKey
   simp only
   by_cases h4 : vk k = 4
   · rw [if_pos h4, if_pos h4]
     cases ts with
     | nil => rfl
     | cons t2 ts2 =>
       obtain ⟨k2, s2⟩ := t2
       simp only
       by_cases h8 : vk k2 = 8
       · rw [if_pos h8, if_pos h8]
         cases hq : pQ s2 with
         | false => rw [fair_bad hq]; rfl
         | true => simp
       · rw [if_neg h8, if_neg h8]
   · rw [if_neg h4, if_neg h4]
     by_cases h8 : vk k = 8
     · rw [if_pos h8, if_pos h8]
       cases hq : pQ s with
       | false =>
         cases ePos ts
         · cases pOp ts with
           | none => rfl
           | some v =>
             obtain ⟨op, ts2⟩ := v
             simp only [Bool.false_eq_true, if_false]
             cases (if op = [105, 110] ∨ op = [110, 111, 116, 105, 110] then pVals ts2 else pOne ts2) with
             | none => rfl
             | some u => simp only; rw [fair_bad hq]; rfl
         · simp only [if_true]; rw [fair_bad hq]; rfl
       | true =>
         cases ePos ts
         · simp
           rfl
         · simp
     · rw [if_neg h8, if_neg h8]
structure QV (w0 w : World) (rb B g2 g4 : Nat) (T : List Tk) (q : Nat) (key op : ByteArray) (v : Value) : Prop where
 ex : EX w rb B T q
 kb : Kb w0 w rb
 b2 : w.heap[g2]? = some (.cells #[.string ⟨#[]⟩, .string ⟨#[]⟩, .slice none 0 0] 53 (0, 0))
 b4 : w.heap[g4]? = some (.cells #[.string key, .string op, v] 53 (0, 0))
section
variable {w0 w w' : World} {rb B g2 g4 q q' : Nat} {T : List Tk} {key op : ByteArray} {v : Value}
theorem QV.move (h : QV w0 w rb B g2 g4 T q key op v) (h2 : rb ≠ g2) (h4 : rb ≠ g4) (hx : EX w' rb B T q') (hk : Kb w w' rb) : QV w0 w' rb B g2 g4 T q' key op v :=
 ⟨hx, h.kb.trans hk, (hk.ke.2 g2 (blk_lt h.b2) (Ne.symm h2) (by simp)).trans h.b2, (hk.ke.2 g4 (blk_lt h.b4) (Ne.symm h4) (by simp)).trans h.b4⟩
theorem QV.below (h : QV w0 w rb B g2 g4 T q key op v) (hb : Below w.heap.size w w') : QV w0 w' rb B g2 g4 T q key op v :=
 ⟨h.ex.belowS hb, h.kb.trans (Kb.of_below hb rb), (hb.block g2 (blk_lt h.b2)).trans h.b2, (hb.block g4 (blk_lt h.b4)).trans h.b4⟩
theorem QV.put0 (h : QV w0 w rb B g2 g4 T q key op v) (hB : B ≤ w0.heap.size) (h4 : w0.heap.size ≤ g4) (h24 : g2 ≠ g4) (k' : ByteArray) : QV w0 (w.setCell ⟨g4, 0, none⟩ (.string k')) rb B g2 g4 T q k' op v :=
 have hb : Below w0.heap.size w (w.setCell ⟨g4, 0, none⟩ (.string k')) := (Below.refl w0.heap.size w).setCell h4 _
 ⟨h.ex.below (hb.mono hB), h.kb.step hb, (Below.heap_setCell w ⟨g4, 0, none⟩ _ g2 h24).trans h.b2, blk_put h.b4 0 _ rfl⟩
theorem QV.put1 (h : QV w0 w rb B g2 g4 T q key op v) (hB : B ≤ w0.heap.size) (h4 : w0.heap.size ≤ g4) (h24 : g2 ≠ g4) (k' : ByteArray) : QV w0 (w.setCell ⟨g4, 1, none⟩ (.string k')) rb B g2 g4 T q key k' v :=
 have hb : Below w0.heap.size w (w.setCell ⟨g4, 1, none⟩ (.string k')) := (Below.refl w0.heap.size w).setCell h4 _
 ⟨h.ex.below (hb.mono hB), h.kb.step hb, (Below.heap_setCell w ⟨g4, 1, none⟩ _ g2 h24).trans h.b2, blk_put h.b4 1 _ rfl⟩
theorem QV.z (h : QV w0 w rb B g2 g4 T q key op v) (j : Nat) : w.frozen? ⟨g4, j, none⟩ = false := blk_frozen h.b4 j
theorem QV.y (h : QV w0 w rb B g2 g4 T q key op v) (j : Nat) : w.frozen? ⟨g2, j, none⟩ = false := blk_frozen h.b2 j
end
theorem blk3 {w : World} {g t : Nat} {a b c : Value} (h : w.heap[g]? = some (.cells #[a, b, c] t (0, 0))) : w.cell? ⟨g, 0, none⟩ = some a ∧ w.cell? ⟨g, 1, none⟩ = some b ∧ w.cell? ⟨g, 2, none⟩ = some c :=
 ⟨(blk_cell h 0).trans rfl, (blk_cell h 1).trans rfl, (blk_cell h 2).trans rfl⟩
def RqR (r : Option (Rq × List Tk)) (w0 : World) (rb B : Nat) (T : List Tk) (e : Ending) (w' : World) : Prop :=
 Kb w0 w' rb ∧ ∃ (v : Value) (b : Bool), e = .returned (.tuple #[v, .bool b]) ∧ (match r with
   | some (q, ts') => b = true ∧ (∃ i, T.drop i = ts' ∧ EX w' rb B T i) ∧ ∃ (A : Option Addr) (c : Nat), v = .agg #[.string (mk q.1), .string (mk q.2.1), .slice A q.2.2.length c] ∧ Kd.R Kd.string 9 w' w0.heap.size (fun k => w0.heap.size ≤ k) (.slice A q.2.2.length c) (q.2.2.map mk)
   | none => b = false ∧ ∃ (x y : ByteArray) (A : Option Addr) (n c : Nat), v = .agg #[.string x, .string y, .slice A n c])
theorem put3 {w : World} {g t : Nat} {a b c : Value} (h : w.heap[g]? = some (.cells #[a, b, c] t (0, 0))) (x y z : Value) :
   (((w.setCell ⟨g, 0, none⟩ x).setCell ⟨g, 1, none⟩ y).setCell ⟨g, 2, none⟩ z).heap[g]? = some (.cells #[x, y, z] t (0, 0)) :=
 blk_put (blk_put (blk_put h 0 x rfl) 1 y rfl) 2 z rfl
theorem below_put3 {w : World} {B g : Nat} (h : B ≤ g) (x y z : Value) : Below B w (((w.setCell ⟨g, 0, none⟩ x).setCell ⟨g, 1, none⟩ y).setCell ⟨g, 2, none⟩ z) :=
 (((Below.refl B w).setCell h _).setCell h _).setCell h _
theorem put3_far {w : World} {g k : Nat} (h : k ≠ g) {x y z : Value} : (((w.setCell ⟨g, 0, none⟩ x).setCell ⟨g, 1, none⟩ y).setCell ⟨g, 2, none⟩ z).heap[k]? = w.heap[k]? :=
 (Below.heap_setCell _ ⟨g, 2, none⟩ z k h).trans ((Below.heap_setCell _ ⟨g, 1, none⟩ y k h).trans (Below.heap_setCell w ⟨g, 0, none⟩ x k h))
theorem RqR.none' {r : Option (Rq × List Tk)} {w0 w' : World} {rb B : Nat} {T : List Tk} {x y : ByteArray} {A : Option Addr} {n c : Nat} (hr : r = none) (hk : Kb w0 w' rb) : RqR r w0 rb B T (.returned (.tuple #[.agg #[.string x, .string y, .slice A n c], .bool false])) w' := by
 subst hr; exact ⟨hk, _, _, rfl, rfl, _, _, _, _, _, rfl⟩
theorem RqR.fair' {r : Option (Rq × List Tk)} {w0 w' : World} {rb B i : Nat} {T ts' : List Tk} {key op : L} {vs : List L} {A : Option Addr} {c n : Nat} {q : Bool} (hr : r = if q then some ((key, op, vs), ts') else none) (hk : Kb w0 w' rb) (hd : T.drop i = ts') (hx : EX w' rb B T i) (hn : n = vs.length)
   (h : Kd.R Kd.string 9 w' w0.heap.size (fun k => w0.heap.size ≤ k) (.slice A n c) (vs.map mk)) : RqR r w0 rb B T (.returned (.tuple #[.agg #[.string (mk key), .string (mk op), .slice A n c], .bool q])) w' := by
 subst hn
 cases q with
 | false => exact RqR.none' hr hk
 | true => subst hr; exact ⟨hk, _, _, rfl, rfl, ⟨i, hd, hx⟩, A, c, rfl, h⟩
theorem opT_cases {k : Nat} {op : L} (h : opT k = some op) : (k = 9 ∧ op = [105, 110]) ∨ (k = 6 ∧ op = [61]) ∨ (k = 5 ∧ op = [61, 61]) ∨ (k = 7 ∧ op = [103, 116]) ∨ (k = 10 ∧ op = [108, 116]) ∨ (k = 12 ∧ op = [110, 111, 116, 105, 110]) ∨ (k = 11 ∧ op = [33, 61]) := by
 unfold opT at h
 (repeat' split at h) <;> simp_all
theorem opT_none {k : Nat} (h : opT k = none) : k ≠ 9 ∧ k ≠ 6 ∧ k ≠ 5 ∧ k ≠ 7 ∧ k ≠ 10 ∧ k ≠ 12 ∧ k ≠ 11 := by
 refine ⟨?_, ?_, ?_, ?_, ?_, ?_, ?_⟩ <;> (rintro rfl; exact absurd h (by decide))
theorem val_sizes {T : List Tk} {p : Nat} {op : L} (hT : T.length ≤ 400) (hz : ∀ t ∈ T, t.2.length ≤ 1000000) : ∀ ks ts', (if op = [105, 110] ∨ op = [110, 111, 116, 105, 110] then pVals (T.drop p) else pOne (T.drop p)) = some (ks, ts') → Sm ks ∧ ks.length ≤ 900 := fun ks ts' h => by
 have hm : ∀ t ∈ T.drop p, t.2.length ≤ 1000000 := fun t ht => hz t (List.mem_of_mem_drop ht)
 split at h
 · exact pVals_sm hm (by rw [List.length_drop]; omega) h
 · exact pOne_sm hm h
theorem rval_calls (rb B p : Nat) (T ts : List Tk) (k : Nat) (s : L) (hT : T.length ≤ 400) (hE : EndsT T) (ht : T.drop p = (k, s) :: ts) (j : Nat) (op : L) (ho : opT j = some op) (w : World) (hB : B ≤ w.heap.size) (h : EX w rb B T p) :
   Calls Tryz.prog 86 #[.pointer (some ⟨rb, 0, none⟩), .string (mk op)] w fun e w' => ValR (if op = [105, 110] ∨ op = [110, 111, 116, 105, 110] then pVals (T.drop p) else pOne (T.drop p)) w rb B T e w' := by
 rcases opT_cases ho with ⟨_, rfl⟩ | ⟨_, rfl⟩ | ⟨_, rfl⟩ | ⟨_, rfl⟩ | ⟨_, rfl⟩ | ⟨_, rfl⟩ | ⟨_, rfl⟩
 · rw [if_pos (by decide)]; exact rvals_calls rb B p T ts k s hT hE ht _ (.inl rfl) w hB h
 · rw [if_neg (by decide)]; exact rone_calls rb B p T ts k s (by omega) hE ht _ (by rw [toList_eq]; rfl) (by rw [toList_eq]; rfl) w hB h
 · rw [if_neg (by decide)]; exact rone_calls rb B p T ts k s (by omega) hE ht _ (by rw [toList_eq]; rfl) (by rw [toList_eq]; rfl) w hB h
 · rw [if_neg (by decide)]; exact rone_calls rb B p T ts k s (by omega) hE ht _ (by rw [toList_eq]; rfl) (by rw [toList_eq]; rfl) w hB h
 · rw [if_neg (by decide)]; exact rone_calls rb B p T ts k s (by omega) hE ht _ (by rw [toList_eq]; rfl) (by rw [toList_eq]; rfl) w hB h
 · rw [if_pos (by decide)]; exact rvals_calls rb B p T ts k s hT hE ht _ (.inr rfl) w hB h
 · rw [if_neg (by decide)]; exact rone_calls rb B p T ts k s (by omega) hE ht _ (by rw [toList_eq]; rfl) (by rw [toList_eq]; rfl) w hB h
set_option maxHeartbeats 32000000 in
theorem rreq_calls (rb B p : Nat) (T ts : List Tk) (k : Nat) (s : L) (hT : T.length ≤ 400) (hE : EndsT T) (hz : ∀ t ∈ T, t.2.length ≤ 1000000) (ht : T.drop p = (k, s) :: ts) (w0 w : World) (hB : B ≤ w.heap.size) (h : EX w rb B T p) (hV : TV w0) (hb0 : Below w0.heap.size w0 w) (hp0 : w0.heap.size ≤ rb) :
   Calls Tryz.prog 62 #[.pointer (some ⟨rb, 0, none⟩)] w fun e w' => RqR (rReq (T.drop p)) w rb B T e w' := by
 have hlt := Nat.lt_of_lt_of_le h.1 hB
 obtain ⟨W2, hW2⟩ : ∃ W2, (w.alloc (.cells #[.string ⟨#[]⟩, .string ⟨#[]⟩, .slice none 0 0] 53)).alloc (.cells #[.string ⟨#[]⟩, .string ⟨#[]⟩, .slice none 0 0] 53) = W2 := ⟨_, rfl⟩
 have hbw : Below w.heap.size w W2 := by rw [← hW2]; exact below_alloc (below_alloc (Below.refl _ _) _) _
 have HQ2 : Aside0 (QV w W2 rb B w.heap.size (w.heap.size + 1) T p ⟨#[]⟩ ⟨#[]⟩ (.slice none 0 0)) := ⟨⟨h.belowS hbw, Kb.of_below hbw rb, by
  have := blk_alloc (heap_alloc_new w (.cells #[.string ⟨#[]⟩, .string ⟨#[]⟩, .slice none 0 0] 53)) (.cells #[.string ⟨#[]⟩, .string ⟨#[]⟩, .slice none 0 0] 53)
  rw [hW2] at this; exact this, by
  have := heap_alloc_new (w.alloc (.cells #[.string ⟨#[]⟩, .string ⟨#[]⟩, .slice none 0 0] 53)) (.cells #[.string ⟨#[]⟩, .string ⟨#[]⟩, .slice none 0 0] 53)
  rw [hW2] at this; simpa using this⟩⟩
 have HNE : Aside0 (rb ≠ w.heap.size ∧ rb ≠ w.heap.size + 1 ∧ w.heap.size ≤ w.heap.size + 1 ∧ w.heap.size ≠ w.heap.size + 1) := ⟨by omega, by omega, by omega, by omega⟩
 have HT := Aside0.mk (fun (W : World) (hk : Kb w W rb) => hV.below (hb0.trans (hk.below hp0 hb0.size)))
 have HBB := Aside0.mk hB
 have HFA := Aside0.mk (fun (key : L) (hk : key.length ≤ 1000000) (op : ByteArray) (A : Option Addr) (c n : Nat) (vs : List L) (hn : vs.length = n) (hn2 : n ≤ 1000000) (hvz : ∀ p ∈ vs, p.length ≤ 1000000) (W : World) (hk2 : Kb w W rb) (hC : Kd.C Kd.string W A n (vs.map mk)) =>
  Fair_calls (mk key) op (by rw [mk_size]; omega) A c n (vs.map mk) (by rw [List.length_map]; exact hn) (by omega) (fun p hp => by obtain ⟨x, hx, rfl⟩ := List.mem_map.1 hp; rw [mk_size]; have := hvz x hx; omega) W hC (HT.out W hk2))
 have mem : ∀ {q k s ts}, T.drop q = (k, s) :: ts → s.length ≤ 1000000 := fun {q k s ts} e => hz (k, s) (List.mem_of_mem_drop (by rw [e]; exact List.mem_cons_self))
 have HN0 := Aside0.mk (fun (W : World) (h : EX W rb B T p) => nx0_calls rb B p T ts k s (by omega) ht W h)
 have l0 : ((⟨#[]⟩ : ByteArray).toList == ([] : List UInt8)) = true := by rw [toList_eq]; rfl
 rw [ht]
 clear h hV hb0 hbw
 by_cases h4 : vk k = 4
 rotate_left
 · by_cases h8 : vk k = 8
   rotate_left
   · have HR : Aside0 (rReq ((k, s) :: ts) = none) := ⟨by unfold rReq; simp only; rw [if_neg h4, if_neg h8]⟩
     obtain ⟨kk, hkk⟩ : ∃ kk, vk k = kk := ⟨_, rfl⟩
     rw [hkk] at HN0 h4 h8
     have f4 : ((kk : Int) == 4) = false := by rw [beq_eq_false_iff_ne]; omega
     have f8 : ((kk : Int) != 8) = true := by rw [bne_iff_ne]; omega
     clear hkk h4 h8 hT hE hz ht hlt hB hp0 mem HFA
     go_enter Tryz.func62, Tryz.ntmps62
     go_wp2_with (first | ((with_reducible refine (HN0.out _ HQ2.out.ex).mono ?_); rintro e w3 ⟨rfl, hk_⟩; have HK3 := Aside0.mk (HQ2.out.kb.trans hk_); have HB4 := Aside0.mk ((hk_.ke.2 (w.heap.size + 1) (blk_lt HQ2.out.b4) (Ne.symm HNE.out.2.1) (by simp)).trans HQ2.out.b4); have HB2 := Aside0.mk ((hk_.ke.2 w.heap.size (blk_lt HQ2.out.b2) (Ne.symm HNE.out.1) (by simp)).trans HQ2.out.b2); obtain ⟨c30, c31, c32⟩ := blk3 HB4.out; obtain ⟨r30, r31, r32⟩ := blk3 HB2.out; have y30 := blk_frozen HB2.out 0; have y31 := blk_frozen HB2.out 1; have y32 := blk_frozen HB2.out 2; clear hk_ HN0))
     have hbF := put3 HB2.out (.string ⟨#[]⟩) (.string ⟨#[]⟩) (.slice none 0 0)
     have hlF := below_put3 (w := w3) (Nat.le_refl w.heap.size) (.string ⟨#[]⟩) (.string ⟨#[]⟩) (.slice none 0 0)
     generalize hWF : World.setCell (World.setCell (World.setCell _ _ _) _ _) _ _ = WF at hbF hlF ⊢
     obtain ⟨d0, d1, d2⟩ := blk3 hbF
     refine bodyPost_ret (v := .tuple #[.agg #[.string ⟨#[]⟩, .string ⟨#[]⟩, .slice none 0 0], .bool false]) (by simp [results, Tryz.results62, go_sem, d0, d1, d2]) rfl ?_
     exact RqR.none' HR.out (HK3.out.step hlF)
   obtain ⟨k2, s2, ts2, hts, ht2⟩ := hE.more ht (by omega)
   have HN := Aside0.mk (fun (W : World) (h : EX W rb B T p) => nx_calls rb B p T ts k s (by omega) ht (by rw [hts]; simp) W h)
   have HDR := Aside0.mk (drop_one ht)
   have HL := Aside0.mk (fun (W : World) (h : EX W rb B T (p + 1)) => pk_calls rb B (p + 1) T ts2 k2 s2 (by omega) ht2 W h)
   rw [h8] at HN
   have HKL := Aside0.mk (mem ht)
   clear HN0
   cases hep : ePos ts with
   | true =>
     have HR : Aside0 (rReq ((k, s) :: ts) = if fairR s [101, 120, 105, 115, 116, 115] [] then some ((s, [101, 120, 105, 115, 116, 115], []), ts) else none) := ⟨by unfold rReq; simp only; rw [if_neg h4, if_pos h8, if_pos hep]⟩
     have HG : vk k2 = 1 ∨ vk k2 = 3 := by rw [hts] at hep; simpa [ePos] using hep
     clear hep h4 h8 hT hE hz ht hts ht2 hlt hB hp0 mem
     rcases HG with hk2 | hk2
     · rw [hk2] at HL
       clear hk2
       go_enter Tryz.func62, Tryz.ntmps62
       go_upto_region 13 with (first | ((with_reducible refine (HN.out _ HQ2.out.ex).mono ?_); rintro e w3 ⟨rfl, hx_, hk_⟩; have HQ3 := Aside0.mk (HQ2.out.move HNE.out.1 HNE.out.2.1 hx_ hk_); clear hx_ hk_ HN; obtain ⟨c30, c31, c32⟩ := blk3 HQ3.out.b4; have z30 := HQ3.out.z 0; have z31 := HQ3.out.z 1; have z32 := HQ3.out.z 2; obtain ⟨r30, r31, r32⟩ := blk3 HQ3.out.b2; have y30 := HQ3.out.y 0; have y31 := HQ3.out.y 1; have y32 := HQ3.out.y 2; have HQ4 := Aside0.mk (HQ3.out.put0 HBB.out HNE.out.2.2.1 HNE.out.2.2.2 (mk s)); obtain ⟨c40, c41, c42⟩ := blk3 HQ4.out.b4; have z40 := HQ4.out.z 0; have z41 := HQ4.out.z 1; have z42 := HQ4.out.z 2; obtain ⟨r40, r41, r42⟩ := blk3 HQ4.out.b2; have y40 := HQ4.out.y 0; have y41 := HQ4.out.y 1; have y42 := HQ4.out.y 2) | ((with_reducible refine (HL.out _ HQ4.out.ex).mono ?_); rintro e w5 ⟨rfl, hb_⟩; have HQ5 := Aside0.mk (HQ4.out.below hb_); clear hb_ HL; obtain ⟨c50, c51, c52⟩ := blk3 HQ5.out.b4; have z50 := HQ5.out.z 0; have z51 := HQ5.out.z 1; have z52 := HQ5.out.z 2; obtain ⟨r50, r51, r52⟩ := blk3 HQ5.out.b2; have y50 := HQ5.out.y 0; have y51 := HQ5.out.y 1; have y52 := HQ5.out.y 2; have HQ6 := Aside0.mk (HQ5.out.put1 HBB.out HNE.out.2.2.1 HNE.out.2.2.2 (⟨#[101, 120, 105, 115, 116, 115]⟩)); obtain ⟨c60, c61, c62⟩ := blk3 HQ6.out.b4; have z60 := HQ6.out.z 0; have z61 := HQ6.out.z 1; have z62 := HQ6.out.z 2; obtain ⟨r60, r61, r62⟩ := blk3 HQ6.out.b2; have y60 := HQ6.out.y 0; have y61 := HQ6.out.y 1; have y62 := HQ6.out.y 2))
       obtain ⟨w6, hw6⟩ : ∃ w6, w5.setCell ⟨w.heap.size + 1, 1, none⟩ (.string ⟨#[101, 120, 105, 115, 116, 115]⟩) = w6 := ⟨_, rfl⟩
       rw [hw6] at HQ6 c60 c61 c62 z60 z61 z62 r60 r61 r62 y60 y61 y62 ⊢
       clear hw6 c30 c31 c32 z30 z31 z32 r30 r31 r32 y30 y31 y32 c40 c41 c42 z40 z41 z42 r40 r41 r42 y40 y41 y42 c50 c51 c52 z50 z51 z52 r50 r51 r52 y50 y51 y52
       have HFX := Aside0.mk (fun (W : World) (hb : Below w6.heap.size w6 W) => HFA.out s HKL.out ⟨#[101, 120, 105, 115, 116, 115]⟩ none 0 0 [] rfl (by omega) (fun _ h => absurd h List.not_mem_nil) W (HQ6.out.kb.trans (Kb.of_below hb rb)) ⟨rfl, by omega, fun h => absurd h (Nat.lt_irrefl 0)⟩)
       rw [show (mk s).data.toList = s from rfl, show (⟨#[101, 120, 105, 115, 116, 115]⟩ : ByteArray).data.toList = [101, 120, 105, 115, 116, 115] from rfl, show vL (([] : List L).map mk) = [] from rfl] at HFX
       obtain ⟨q, hq⟩ : ∃ q, fairR s [101, 120, 105, 115, 116, 115] [] = q := ⟨_, rfl⟩
       rw [hq] at HFX HR
       clear hq HFA HKL
       go_region_held_law (fun w' => w'.cell? ⟨w.heap.size + 1, 0, none⟩ = some (.string (mk s)) ∧ w'.cell? ⟨w.heap.size + 1, 1, none⟩ = some (.string ⟨#[101, 120, 105, 115, 116, 115]⟩) ∧ w'.cell? ⟨w.heap.size + 1, 2, none⟩ = some (.slice none 0 0)) (first | exact ⟨c70, c71, c72⟩ | exact ⟨c60, c61, c62⟩ | go_keep) ((refine call_ 41 #[.agg #[.string (mk s), .string ⟨#[101, 120, 105, 115, 116, 115]⟩, .slice none 0 0]] (by rfl) (by rfl) (by go_simp) ?_; refine (HFX.out _ ?hb).mono ?_; (case hb => first | exact Below.refl _ _ | exact below_drew1 (Below.refl _ _) | exact pw_below_drewN (Below.refl _ _) _); rintro e w7 ⟨rfl, hb_⟩; have HQ7 := Aside0.mk (HQ6.out.below (below_step (show Below w6.heap.size w6 _ from by first | exact Below.refl _ _ | exact below_drew1 (Below.refl _ _) | exact pw_below_drewN (Below.refl _ _) _) hb_)); clear hb_; obtain ⟨c70, c71, c72⟩ := blk3 HQ7.out.b4; have z70 := HQ7.out.z 0; have z71 := HQ7.out.z 1; have z72 := HQ7.out.z 2; obtain ⟨r70, r71, r72⟩ := blk3 HQ7.out.b2; have y70 := HQ7.out.y 0; have y71 := HQ7.out.y 1; have y72 := HQ7.out.y 2; refine ⟨_, rfl, ?_⟩))
       all_goals go_wp2
       all_goals
         have hbF := put3 HQ7.out.b2 (.string (mk s)) (.string ⟨#[101, 120, 105, 115, 116, 115]⟩) (.slice none 0 0)
         have hlF := below_put3 (w := w7) (Nat.le_refl w.heap.size) (.string (mk s)) (.string ⟨#[101, 120, 105, 115, 116, 115]⟩) (.slice none 0 0)
         generalize hWF : World.setCell (World.setCell (World.setCell _ _ _) _ _) _ _ = WF at hbF hlF ⊢
         obtain ⟨d0, d1, d2⟩ := blk3 hbF
         refine bodyPost_ret (v := .tuple #[.agg #[.string (mk s), .string ⟨#[101, 120, 105, 115, 116, 115]⟩, .slice none 0 0], .bool q]) (by simp [results, Tryz.results62, go_sem, d0, d1, d2]) rfl ?_
         exact RqR.fair' (i := p + 1) (key := s) (op := [101, 120, 105, 115, 116, 115]) (vs := []) HR.out (HQ7.out.kb.step hlF) HDR.out (HQ7.out.ex.below (hlF.mono HBB.out)) rfl (Kd.R_nil _ _ _ _ _)
     · rw [hk2] at HL
       clear hk2
       go_enter Tryz.func62, Tryz.ntmps62
       go_upto_region 13 with (first | ((with_reducible refine (HN.out _ HQ2.out.ex).mono ?_); rintro e w3 ⟨rfl, hx_, hk_⟩; have HQ3 := Aside0.mk (HQ2.out.move HNE.out.1 HNE.out.2.1 hx_ hk_); clear hx_ hk_ HN; obtain ⟨c30, c31, c32⟩ := blk3 HQ3.out.b4; have z30 := HQ3.out.z 0; have z31 := HQ3.out.z 1; have z32 := HQ3.out.z 2; obtain ⟨r30, r31, r32⟩ := blk3 HQ3.out.b2; have y30 := HQ3.out.y 0; have y31 := HQ3.out.y 1; have y32 := HQ3.out.y 2; have HQ4 := Aside0.mk (HQ3.out.put0 HBB.out HNE.out.2.2.1 HNE.out.2.2.2 (mk s)); obtain ⟨c40, c41, c42⟩ := blk3 HQ4.out.b4; have z40 := HQ4.out.z 0; have z41 := HQ4.out.z 1; have z42 := HQ4.out.z 2; obtain ⟨r40, r41, r42⟩ := blk3 HQ4.out.b2; have y40 := HQ4.out.y 0; have y41 := HQ4.out.y 1; have y42 := HQ4.out.y 2) | ((with_reducible refine (HL.out _ HQ4.out.ex).mono ?_); rintro e w5 ⟨rfl, hb_⟩; have HQ5 := Aside0.mk (HQ4.out.below hb_); clear hb_ HL; obtain ⟨c50, c51, c52⟩ := blk3 HQ5.out.b4; have z50 := HQ5.out.z 0; have z51 := HQ5.out.z 1; have z52 := HQ5.out.z 2; obtain ⟨r50, r51, r52⟩ := blk3 HQ5.out.b2; have y50 := HQ5.out.y 0; have y51 := HQ5.out.y 1; have y52 := HQ5.out.y 2; have HQ6 := Aside0.mk (HQ5.out.put1 HBB.out HNE.out.2.2.1 HNE.out.2.2.2 (⟨#[101, 120, 105, 115, 116, 115]⟩)); obtain ⟨c60, c61, c62⟩ := blk3 HQ6.out.b4; have z60 := HQ6.out.z 0; have z61 := HQ6.out.z 1; have z62 := HQ6.out.z 2; obtain ⟨r60, r61, r62⟩ := blk3 HQ6.out.b2; have y60 := HQ6.out.y 0; have y61 := HQ6.out.y 1; have y62 := HQ6.out.y 2))
       obtain ⟨w6, hw6⟩ : ∃ w6, w5.setCell ⟨w.heap.size + 1, 1, none⟩ (.string ⟨#[101, 120, 105, 115, 116, 115]⟩) = w6 := ⟨_, rfl⟩
       rw [hw6] at HQ6 c60 c61 c62 z60 z61 z62 r60 r61 r62 y60 y61 y62 ⊢
       clear hw6 c30 c31 c32 z30 z31 z32 r30 r31 r32 y30 y31 y32 c40 c41 c42 z40 z41 z42 r40 r41 r42 y40 y41 y42 c50 c51 c52 z50 z51 z52 r50 r51 r52 y50 y51 y52
       have HFX := Aside0.mk (fun (W : World) (hb : Below w6.heap.size w6 W) => HFA.out s HKL.out ⟨#[101, 120, 105, 115, 116, 115]⟩ none 0 0 [] rfl (by omega) (fun _ h => absurd h List.not_mem_nil) W (HQ6.out.kb.trans (Kb.of_below hb rb)) ⟨rfl, by omega, fun h => absurd h (Nat.lt_irrefl 0)⟩)
       rw [show (mk s).data.toList = s from rfl, show (⟨#[101, 120, 105, 115, 116, 115]⟩ : ByteArray).data.toList = [101, 120, 105, 115, 116, 115] from rfl, show vL (([] : List L).map mk) = [] from rfl] at HFX
       obtain ⟨q, hq⟩ : ∃ q, fairR s [101, 120, 105, 115, 116, 115] [] = q := ⟨_, rfl⟩
       rw [hq] at HFX HR
       clear hq HFA HKL
       go_region_held_law (fun w' => w'.cell? ⟨w.heap.size + 1, 0, none⟩ = some (.string (mk s)) ∧ w'.cell? ⟨w.heap.size + 1, 1, none⟩ = some (.string ⟨#[101, 120, 105, 115, 116, 115]⟩) ∧ w'.cell? ⟨w.heap.size + 1, 2, none⟩ = some (.slice none 0 0)) (first | exact ⟨c70, c71, c72⟩ | exact ⟨c60, c61, c62⟩ | go_keep) ((refine call_ 41 #[.agg #[.string (mk s), .string ⟨#[101, 120, 105, 115, 116, 115]⟩, .slice none 0 0]] (by rfl) (by rfl) (by go_simp) ?_; refine (HFX.out _ ?hb).mono ?_; (case hb => first | exact Below.refl _ _ | exact below_drew1 (Below.refl _ _) | exact pw_below_drewN (Below.refl _ _) _); rintro e w7 ⟨rfl, hb_⟩; have HQ7 := Aside0.mk (HQ6.out.below (below_step (show Below w6.heap.size w6 _ from by first | exact Below.refl _ _ | exact below_drew1 (Below.refl _ _) | exact pw_below_drewN (Below.refl _ _) _) hb_)); clear hb_; obtain ⟨c70, c71, c72⟩ := blk3 HQ7.out.b4; have z70 := HQ7.out.z 0; have z71 := HQ7.out.z 1; have z72 := HQ7.out.z 2; obtain ⟨r70, r71, r72⟩ := blk3 HQ7.out.b2; have y70 := HQ7.out.y 0; have y71 := HQ7.out.y 1; have y72 := HQ7.out.y 2; refine ⟨_, rfl, ?_⟩))
       all_goals go_wp2
       all_goals
         have hbF := put3 HQ7.out.b2 (.string (mk s)) (.string ⟨#[101, 120, 105, 115, 116, 115]⟩) (.slice none 0 0)
         have hlF := below_put3 (w := w7) (Nat.le_refl w.heap.size) (.string (mk s)) (.string ⟨#[101, 120, 105, 115, 116, 115]⟩) (.slice none 0 0)
         generalize hWF : World.setCell (World.setCell (World.setCell _ _ _) _ _) _ _ = WF at hbF hlF ⊢
         obtain ⟨d0, d1, d2⟩ := blk3 hbF
         refine bodyPost_ret (v := .tuple #[.agg #[.string (mk s), .string ⟨#[101, 120, 105, 115, 116, 115]⟩, .slice none 0 0], .bool q]) (by simp [results, Tryz.results62, go_sem, d0, d1, d2]) rfl ?_
         exact RqR.fair' (i := p + 1) (key := s) (op := [101, 120, 105, 115, 116, 115]) (vs := []) HR.out (HQ7.out.kb.step hlF) HDR.out (HQ7.out.ex.below (hlF.mono HBB.out)) rfl (Kd.R_nil _ _ _ _ _)
   | false =>
     have g1 : ((vk k2 : Int) == 1) = false := by rw [beq_eq_false_iff_ne]; intro e; rw [hts] at hep; simp [ePos] at hep; omega
     have g3 : ((vk k2 : Int) == 3) = false := by rw [beq_eq_false_iff_ne]; intro e; rw [hts] at hep; simp [ePos] at hep; omega
     have hk1 : vk k2 ≠ 1 := by intro e; rw [hts] at hep; simp [ePos] at hep; omega
     obtain ⟨k3, s3, ts3, hts3, ht3⟩ := hE.more ht2 hk1
     have HM := Aside0.mk (fun (W : World) (h : EX W rb B T (p + 1)) => next_calls rb B (p + 1) T ts2 k2 s2 (by omega) ht2 false W h)
     rw [show stp (p + 1) ts2 = p + 1 + 1 from if_neg (by rw [hts3]; simp), show vkb false k2 = k2 from rfl] at HM
     obtain ⟨kv, hkv⟩ : ∃ kv, vk k2 = kv := ⟨_, rfl⟩
     rw [hkv] at HL g1 g3
     cases hop : opT k2 with
     | none =>
       have HR : Aside0 (rReq ((k, s) :: ts) = none) := ⟨by unfold rReq; simp only; rw [if_neg h4, if_pos h8, if_neg (by rw [hep]; decide), hts]; simp only [pOp, hop, Option.map_none]⟩
       obtain ⟨o9, o6, o5, o7, o10, o12, o11⟩ := opT_none hop
       have e9 : ((k2 : Int) == 9) = false := by rw [beq_eq_false_iff_ne]; omega
       have e6 : ((k2 : Int) == 6) = false := by rw [beq_eq_false_iff_ne]; omega
       have e5 : ((k2 : Int) == 5) = false := by rw [beq_eq_false_iff_ne]; omega
       have e7 : ((k2 : Int) == 7) = false := by rw [beq_eq_false_iff_ne]; omega
       have e10 : ((k2 : Int) == 10) = false := by rw [beq_eq_false_iff_ne]; omega
       have e12 : ((k2 : Int) == 12) = false := by rw [beq_eq_false_iff_ne]; omega
       have e11 : ((k2 : Int) == 11) = false := by rw [beq_eq_false_iff_ne]; omega
       clear hep h4 h8 hT hE hz ht hts ht2 hts3 ht3 hlt hB hp0 mem hop hk1 hkv o9 o6 o5 o7 o10 o12 o11 HFA HKL
       go_enter Tryz.func62, Tryz.ntmps62
       go_wp2_with (first | ((with_reducible refine (HN.out _ HQ2.out.ex).mono ?_); rintro e w3 ⟨rfl, hx_, hk_⟩; have HQ3 := Aside0.mk (HQ2.out.move HNE.out.1 HNE.out.2.1 hx_ hk_); clear hx_ hk_ HN; obtain ⟨c30, c31, c32⟩ := blk3 HQ3.out.b4; have z30 := HQ3.out.z 0; have z31 := HQ3.out.z 1; have z32 := HQ3.out.z 2; obtain ⟨r30, r31, r32⟩ := blk3 HQ3.out.b2; have y30 := HQ3.out.y 0; have y31 := HQ3.out.y 1; have y32 := HQ3.out.y 2; have HQ4 := Aside0.mk (HQ3.out.put0 HBB.out HNE.out.2.2.1 HNE.out.2.2.2 (mk s)); obtain ⟨c40, c41, c42⟩ := blk3 HQ4.out.b4; have z40 := HQ4.out.z 0; have z41 := HQ4.out.z 1; have z42 := HQ4.out.z 2; obtain ⟨r40, r41, r42⟩ := blk3 HQ4.out.b2; have y40 := HQ4.out.y 0; have y41 := HQ4.out.y 1; have y42 := HQ4.out.y 2) | ((with_reducible refine (HL.out _ HQ4.out.ex).mono ?_); rintro e w5 ⟨rfl, hb_⟩; have HQ5 := Aside0.mk (HQ4.out.below hb_); clear hb_ HL; obtain ⟨c50, c51, c52⟩ := blk3 HQ5.out.b4; have z50 := HQ5.out.z 0; have z51 := HQ5.out.z 1; have z52 := HQ5.out.z 2; obtain ⟨r50, r51, r52⟩ := blk3 HQ5.out.b2; have y50 := HQ5.out.y 0; have y51 := HQ5.out.y 1; have y52 := HQ5.out.y 2) | ((with_reducible refine (HM.out _ HQ5.out.ex).mono ?_); rintro e w6 ⟨rfl, hx_, hk_⟩; have HQ6 := Aside0.mk (HQ5.out.move HNE.out.1 HNE.out.2.1 hx_ hk_); clear hx_ hk_ HM; obtain ⟨c60, c61, c62⟩ := blk3 HQ6.out.b4; have z60 := HQ6.out.z 0; have z61 := HQ6.out.z 1; have z62 := HQ6.out.z 2; obtain ⟨r60, r61, r62⟩ := blk3 HQ6.out.b2; have y60 := HQ6.out.y 0; have y61 := HQ6.out.y 1; have y62 := HQ6.out.y 2))
       have hbF := put3 HQ6.out.b2 (.string (mk s)) (.string ⟨#[]⟩) (.slice none 0 0)
       have hlF := below_put3 (w := w6) (Nat.le_refl w.heap.size) (.string (mk s)) (.string ⟨#[]⟩) (.slice none 0 0)
       generalize hWF : World.setCell (World.setCell (World.setCell _ _ _) _ _) _ _ = WF at hbF hlF ⊢
       obtain ⟨d0, d1, d2⟩ := blk3 hbF
       refine bodyPost_ret (v := .tuple #[.agg #[.string (mk s), .string ⟨#[]⟩, .slice none 0 0], .bool false]) (by simp [results, Tryz.results62, go_sem, d0, d1, d2]) rfl ?_
       exact RqR.none' HR.out (HQ6.out.kb.step hlF)
     | some op =>
       have HR : Aside0 (rReq ((k, s) :: ts) = (match (if op = [105, 110] ∨ op = [110, 111, 116, 105, 110] then pVals (T.drop (p + 1 + 1)) else pOne (T.drop (p + 1 + 1))) with
         | none => none
         | some (ks, ts3) => if fairR s op (setL ks) then some ((s, op, setL ks), ts3) else none)) := ⟨by unfold rReq; simp only; rw [if_neg h4, if_pos h8, if_neg (by rw [hep]; decide), hts]; simp only [pOp, hop, Option.map_some]; rw [drop_one ht2]⟩
       have HVC := Aside0.mk (fun (W : World) (hB : B ≤ W.heap.size) (h : EX W rb B T (p + 1 + 1)) => rval_calls rb B (p + 1 + 1) T ts3 k3 s3 hT hE ht3 k2 op hop W hB h)
       obtain ⟨VR, hVR⟩ : ∃ VR, (if op = [105, 110] ∨ op = [110, 111, 116, 105, 110] then pVals (T.drop (p + 1 + 1)) else pOne (T.drop (p + 1 + 1))) = VR := ⟨_, rfl⟩
       have HVS : Aside0 (∀ ks ts', VR = some (ks, ts') → Sm ks ∧ ks.length ≤ 900) := ⟨by rw [← hVR]; exact val_sizes hT hz⟩
       rw [hVR] at HVC HR
       have HOP := Aside0.mk hop
       clear hep h4 h8 hT hE hz ht hts ht2 hts3 ht3 hlt hB hp0 mem hop hk1 hkv hVR
       go_enter Tryz.func62, Tryz.ntmps62
       go_upto_block 0 with (first | ((with_reducible refine (HN.out _ HQ2.out.ex).mono ?_); rintro e w3 ⟨rfl, hx_, hk_⟩; have HQ3 := Aside0.mk (HQ2.out.move HNE.out.1 HNE.out.2.1 hx_ hk_); clear hx_ hk_ HN; obtain ⟨c30, c31, c32⟩ := blk3 HQ3.out.b4; have z30 := HQ3.out.z 0; have z31 := HQ3.out.z 1; have z32 := HQ3.out.z 2; obtain ⟨r30, r31, r32⟩ := blk3 HQ3.out.b2; have y30 := HQ3.out.y 0; have y31 := HQ3.out.y 1; have y32 := HQ3.out.y 2; have HQ4 := Aside0.mk (HQ3.out.put0 HBB.out HNE.out.2.2.1 HNE.out.2.2.2 (mk s)); obtain ⟨c40, c41, c42⟩ := blk3 HQ4.out.b4; have z40 := HQ4.out.z 0; have z41 := HQ4.out.z 1; have z42 := HQ4.out.z 2; obtain ⟨r40, r41, r42⟩ := blk3 HQ4.out.b2; have y40 := HQ4.out.y 0; have y41 := HQ4.out.y 1; have y42 := HQ4.out.y 2) | ((with_reducible refine (HL.out _ HQ4.out.ex).mono ?_); rintro e w5 ⟨rfl, hb_⟩; have HQ5 := Aside0.mk (HQ4.out.below hb_); clear hb_ HL; obtain ⟨c50, c51, c52⟩ := blk3 HQ5.out.b4; have z50 := HQ5.out.z 0; have z51 := HQ5.out.z 1; have z52 := HQ5.out.z 2; obtain ⟨r50, r51, r52⟩ := blk3 HQ5.out.b2; have y50 := HQ5.out.y 0; have y51 := HQ5.out.y 1; have y52 := HQ5.out.y 2) | ((with_reducible refine (HM.out _ HQ5.out.ex).mono ?_); rintro e w6 ⟨rfl, hx_, hk_⟩; have HQ6 := Aside0.mk (HQ5.out.move HNE.out.1 HNE.out.2.1 hx_ hk_); clear hx_ hk_ HM; obtain ⟨c60, c61, c62⟩ := blk3 HQ6.out.b4; have z60 := HQ6.out.z 0; have z61 := HQ6.out.z 1; have z62 := HQ6.out.z 2; obtain ⟨r60, r61, r62⟩ := blk3 HQ6.out.b2; have y60 := HQ6.out.y 0; have y61 := HQ6.out.y 1; have y62 := HQ6.out.y 2))
       go_cut [] (fun wx => w6.setCell ⟨w.heap.size + 1, 1, none⟩ (.string (mk op)) = wx)
       case first =>
        rcases opT_cases HOP.out with ⟨rfl, rfl⟩ | ⟨rfl, rfl⟩ | ⟨rfl, rfl⟩ | ⟨rfl, rfl⟩ | ⟨rfl, rfl⟩ | ⟨rfl, rfl⟩ | ⟨rfl, rfl⟩
        all_goals
          go_wp2
          go_meet
          case rel => rfl
       case rest =>
       obtain ⟨w7, hw7⟩ : ∃ w7, w6.setCell ⟨w.heap.size + 1, 1, none⟩ (.string (mk op)) = w7 := ⟨_, rfl⟩
       rw [hw7] at hcut
       obtain rfl := hcut
       have HQ7 := Aside0.mk (HQ6.out.put1 HBB.out HNE.out.2.2.1 HNE.out.2.2.2 (mk op))
       rw [hw7] at HQ7
       clear hw7 HOP c30 c31 c32 z30 z31 z32 r30 r31 r32 y30 y31 y32 c40 c41 c42 z40 z41 z42 r40 r41 r42 y40 y41 y42 c50 c51 c52 z50 z51 z52 r50 r51 r52 y50 y51 y52 c60 c61 c62 z60 z61 z62 r60 r61 r62 y60 y61 y62
       obtain ⟨c70, c71, c72⟩ := blk3 HQ7.out.b4
       have z70 := HQ7.out.z 0
       have z71 := HQ7.out.z 1
       have z72 := HQ7.out.z 2
       obtain ⟨r70, r71, r72⟩ := blk3 HQ7.out.b2
       have y70 := HQ7.out.y 0
       have y71 := HQ7.out.y 1
       have y72 := HQ7.out.y 2
       go_upto_region 33 with (first | ((with_reducible refine (HVC.out _ (Nat.le_trans HBB.out HQ7.out.kb.size) HQ7.out.ex).mono ?_); rintro e w8 ⟨hk8, A8, n8, c8, b8, rfl, hm8⟩; have HK8 := Aside0.mk hk8; have HM8 := Aside0.mk hm8; have HB84 := Aside0.mk ((hk8.ke.2 (w.heap.size + 1) (blk_lt HQ7.out.b4) (Ne.symm HNE.out.2.1) (by simp)).trans HQ7.out.b4); have HB82 := Aside0.mk ((hk8.ke.2 w.heap.size (blk_lt HQ7.out.b2) (Ne.symm HNE.out.1) (by simp)).trans HQ7.out.b2); obtain ⟨c80, c81, c82⟩ := blk3 HB84.out; have z82 := blk_frozen HB84.out 2; clear hk8 hm8 HVC))
       obtain ⟨w9, hw9⟩ : ∃ w9, w8.setCell ⟨w.heap.size + 1, 2, none⟩ (.slice A8 n8 c8) = w9 := ⟨_, rfl⟩
       rw [hw9]
       have HB94 : Aside0 (w9.heap[w.heap.size + 1]? = some (.cells #[.string (mk s), .string (mk op), .slice A8 n8 c8] 53 (0, 0))) := ⟨by rw [← hw9]; exact blk_put HB84.out 2 _ rfl⟩
       have HB92 : Aside0 (w9.heap[w.heap.size]? = some (.cells #[.string ⟨#[]⟩, .string ⟨#[]⟩, .slice none 0 0] 53 (0, 0))) := ⟨by rw [← hw9]; exact (Below.heap_setCell w8 ⟨w.heap.size + 1, 2, none⟩ _ w.heap.size HNE.out.2.2.2).trans HB82.out⟩
       have HBE : Aside0 (Below w.heap.size w8 w9) := ⟨by rw [← hw9]; exact (Below.refl w.heap.size w8).setCell HNE.out.2.2.1 _⟩
       have HK9 := Aside0.mk ((HQ7.out.kb.trans HK8.out).step HBE.out)
       obtain ⟨c90, c91, c92⟩ := blk3 HB94.out
       obtain ⟨r90, r91, r92⟩ := blk3 HB92.out
       have y90 := blk_frozen HB92.out 0
       have y91 := blk_frozen HB92.out 1
       have y92 := blk_frozen HB92.out 2
       clear c70 c71 c72 z70 z71 z72 r70 r71 r72 y70 y71 y72 c80 c81 c82 z82
       cases VR with
       | none =>
         obtain rfl : b8 = false := HM8.out
         clear hw9 HM8 HFA HVS HKL
         go_wp2
         go_region_with (fail)
         all_goals go_wp2
         all_goals
           have hbF := put3 HB92.out (.string (mk s)) (.string (mk op)) (.slice A8 n8 c8)
           have hlF := below_put3 (w := w9) (Nat.le_refl w.heap.size) (.string (mk s)) (.string (mk op)) (.slice A8 n8 c8)
           generalize hWF : World.setCell (World.setCell (World.setCell _ _ _) _ _) _ _ = WF at hbF hlF ⊢
           obtain ⟨d0, d1, d2⟩ := blk3 hbF
           refine bodyPost_ret (v := .tuple #[.agg #[.string (mk s), .string (mk op), .slice A8 n8 c8], .bool false]) (by simp [results, Tryz.results62, go_sem, d0, d1, d2]) rfl ?_
           first | exact RqR.none' HR.out (HK9.out.step hlF) | exact RqR.none' HR.out (HK9.out.step (below_drew hlF)) | exact RqR.none' HR.out (HK9.out.step (pw_below_drewN hlF _))
       | some r =>
         obtain ⟨ks, ts'⟩ := r
         obtain ⟨rfl, i, hi, hx8, hr8⟩ := HM8.out
         simp only at HR
         have hr9 : Kd.R Kd.string 9 w9 w7.heap.size (fun k => w7.heap.size ≤ k) (.slice A8 n8 c8) ((setL ks).map mk) := by
          rw [← hw9]; exact Kd.R_far (p := ⟨w.heap.size + 1, 2, none⟩) hr8 (fun k hk e => by have h1 := blk_lt HQ7.out.b4; have h2 : k = w.heap.size + 1 := e; omega) _
         have HR9 := Aside0.mk (Kd.R_lower hr9 HQ7.out.kb.size)
         have HG9 : Aside0 (w.heap.size + 2 ≤ w7.heap.size) := ⟨by have := blk_lt HQ7.out.b4; omega⟩
         obtain ⟨hn8, hc8, hC8⟩ := Kd.R_reads' hr9
         rw [List.length_map] at hn8 hC8
         have HN8 := Aside0.mk hn8
         obtain ⟨hs1, hs2⟩ := HVS.out ks ts' rfl
         have HX9 := Aside0.mk (hx8.below (HBE.out.mono HBB.out))
         have HI := Aside0.mk hi
         have HFX := Aside0.mk (fun (W : World) (hb : Below w9.heap.size w9 W) => HFA.out s HKL.out (mk op) A8 c8 n8 (setL ks) hn8.symm (by have := setL_len ks; omega) (fun p hp => hs1 p ((setL_mem ks p).1 hp)) W (HK9.out.trans (Kb.of_below hb rb)) (Kd.C_below (by rw [hn8]; exact hC8) hb))
         rw [show (mk s).data.toList = s from rfl, show (mk op).data.toList = op from rfl, show vL ((setL ks).map mk) = setL ks from vL_mk _] at HFX
         obtain ⟨q, hq⟩ : ∃ q, fairR s op (setL ks) = q := ⟨_, rfl⟩
         rw [hq] at HFX HR
         clear hw9 HM8 HFA HVS HKL hr8 hr9 hn8 hc8 hC8 hs1 hs2 hx8 hi hq
         go_region_held_law (fun w' => w'.cell? ⟨w.heap.size + 1, 0, none⟩ = some (.string (mk s)) ∧ w'.cell? ⟨w.heap.size + 1, 1, none⟩ = some (.string (mk op)) ∧ w'.cell? ⟨w.heap.size + 1, 2, none⟩ = some (.slice A8 n8 c8)) (first | exact ⟨ca0, ca1, ca2⟩ | exact ⟨c90, c91, c92⟩ | go_keep) ((refine call_ 41 #[.agg #[.string (mk s), .string (mk op), .slice A8 n8 c8]] (by rfl) (by rfl) (by go_simp) ?_; refine (HFX.out _ ?hb).mono ?_; (case hb => first | exact Below.refl _ _ | exact below_drew1 (Below.refl _ _) | exact pw_below_drewN (Below.refl _ _) _); rintro e wa ⟨rfl, hb_⟩; have HBA := Aside0.mk (below_step (show Below w9.heap.size w9 _ from by first | exact Below.refl _ _ | exact below_drew1 (Below.refl _ _) | exact pw_below_drewN (Below.refl _ _) _) hb_); clear hb_; have HBA4 := Aside0.mk ((HBA.out.block _ (blk_lt HB94.out)).trans HB94.out); have HBA2 := Aside0.mk ((HBA.out.block _ (blk_lt HB92.out)).trans HB92.out); obtain ⟨ca0, ca1, ca2⟩ := blk3 HBA4.out; obtain ⟨ra0, ra1, ra2⟩ := blk3 HBA2.out; have ya0 := blk_frozen HBA2.out 0; have ya1 := blk_frozen HBA2.out 1; have ya2 := blk_frozen HBA2.out 2; refine ⟨_, rfl, ?_⟩))
         all_goals go_wp2
         all_goals
           have hbF := put3 HBA2.out (.string (mk s)) (.string (mk op)) (.slice A8 n8 c8)
           have hlF := below_put3 (w := wa) (Nat.le_refl w.heap.size) (.string (mk s)) (.string (mk op)) (.slice A8 n8 c8)
           generalize hWF : World.setCell (World.setCell (World.setCell _ _ _) _ _) _ _ = WF at hbF hlF ⊢
           obtain ⟨d0, d1, d2⟩ := blk3 hbF
           refine bodyPost_ret (v := .tuple #[.agg #[.string (mk s), .string (mk op), .slice A8 n8 c8], .bool q]) (by simp [results, Tryz.results62, go_sem, d0, d1, d2]) rfl ?_
           exact RqR.fair' (i := i) (key := s) (op := op) (vs := setL ks) HR.out (HK9.out.step ((HBA.out.mono HK9.out.size).trans hlF)) HI.out (HX9.out.below ((HBA.out.mono (Nat.le_trans HBB.out HK9.out.size)).trans (hlF.mono HBB.out))) HN8.out (Kd.R_mono (Kd.R_step (Kd.R_below HR9.out HBA.out) (fun k hk _ => by rw [← hWF]; exact put3_far (by have := HG9.out; omega))) (fun k hk => by have := HG9.out; omega))
 · obtain ⟨k2, s2, ts2, hts, ht2⟩ := hE.more ht (by omega)
   have HN := Aside0.mk (fun (W : World) (h : EX W rb B T p) => nx_calls rb B p T ts k s (by omega) ht (by rw [hts]; simp) W h)
   rw [h4] at HN
   clear HN0
   by_cases h8 : vk k2 = 8
   rotate_left
   · have HR : Aside0 (rReq ((k, s) :: ts) = none) := ⟨by unfold rReq; simp only; rw [if_pos h4, hts]; simp only; rw [if_neg h8]⟩
     have HN2 := Aside0.mk (fun (W : World) (h : EX W rb B T (p + 1)) => nx0_calls rb B (p + 1) T ts2 k2 s2 (by omega) ht2 W h)
     obtain ⟨kk, hkk⟩ : ∃ kk, vk k2 = kk := ⟨_, rfl⟩
     rw [hkk] at HN2 h8
     have f8 : ((kk : Int) != 8) = true := by rw [bne_iff_ne]; omega
     clear hkk h4 h8 hT hE hz ht hts ht2 hlt hB hp0 mem HFA
     go_enter Tryz.func62, Tryz.ntmps62
     go_wp2_with (first | ((with_reducible refine (HN.out _ HQ2.out.ex).mono ?_); rintro e w3 ⟨rfl, hx_, hk_⟩; have HQ3 := Aside0.mk (HQ2.out.move HNE.out.1 HNE.out.2.1 hx_ hk_); clear hx_ hk_ HN; obtain ⟨c30, c31, c32⟩ := blk3 HQ3.out.b4; have z30 := HQ3.out.z 0; have z31 := HQ3.out.z 1; have z32 := HQ3.out.z 2; obtain ⟨r30, r31, r32⟩ := blk3 HQ3.out.b2; have y30 := HQ3.out.y 0; have y31 := HQ3.out.y 1; have y32 := HQ3.out.y 2; have HQ4 := Aside0.mk (HQ3.out.put1 HBB.out HNE.out.2.2.1 HNE.out.2.2.2 (⟨#[33]⟩)); obtain ⟨c40, c41, c42⟩ := blk3 HQ4.out.b4; have z40 := HQ4.out.z 0; have z41 := HQ4.out.z 1; have z42 := HQ4.out.z 2; obtain ⟨r40, r41, r42⟩ := blk3 HQ4.out.b2; have y40 := HQ4.out.y 0; have y41 := HQ4.out.y 1; have y42 := HQ4.out.y 2) | ((with_reducible refine (HN2.out _ HQ4.out.ex).mono ?_); rintro e w5 ⟨rfl, hk_⟩; have HK5 := Aside0.mk (HQ4.out.kb.trans hk_); have HB4 := Aside0.mk ((hk_.ke.2 (w.heap.size + 1) (blk_lt HQ4.out.b4) (Ne.symm HNE.out.2.1) (by simp)).trans HQ4.out.b4); have HB2 := Aside0.mk ((hk_.ke.2 w.heap.size (blk_lt HQ4.out.b2) (Ne.symm HNE.out.1) (by simp)).trans HQ4.out.b2); obtain ⟨c50, c51, c52⟩ := blk3 HB4.out; obtain ⟨r50, r51, r52⟩ := blk3 HB2.out; have y50 := blk_frozen HB2.out 0; have y51 := blk_frozen HB2.out 1; have y52 := blk_frozen HB2.out 2; clear hk_ HN2))
     have hbF := put3 HB2.out (.string ⟨#[]⟩) (.string ⟨#[33]⟩) (.slice none 0 0)
     have hlF := below_put3 (w := w5) (Nat.le_refl w.heap.size) (.string ⟨#[]⟩) (.string ⟨#[33]⟩) (.slice none 0 0)
     generalize hWF : World.setCell (World.setCell (World.setCell _ _ _) _ _) _ _ = WF at hbF hlF ⊢
     obtain ⟨d0, d1, d2⟩ := blk3 hbF
     refine bodyPost_ret (v := .tuple #[.agg #[.string ⟨#[]⟩, .string ⟨#[33]⟩, .slice none 0 0], .bool false]) (by simp [results, Tryz.results62, go_sem, d0, d1, d2]) rfl ?_
     exact RqR.none' HR.out (HK5.out.step hlF)
   have HR : Aside0 (rReq ((k, s) :: ts) = if fairR s2 [33] [] then some ((s2, [33], []), ts2) else none) := ⟨by unfold rReq; simp only; rw [if_pos h4, hts]; simp only; rw [if_pos h8]⟩
   obtain ⟨k3, s3, ts3, hts3, ht3⟩ := hE.more ht2 (by omega)
   have HN2 := Aside0.mk (fun (W : World) (h : EX W rb B T (p + 1)) => nx_calls rb B (p + 1) T ts2 k2 s2 (by omega) ht2 (by rw [hts3]; simp) W h)
   have HL := Aside0.mk (fun (W : World) (h : EX W rb B T (p + 1 + 1)) => pk_calls rb B (p + 1 + 1) T ts3 k3 s3 (by omega) ht3 W h)
   rw [h8] at HN2
   have HKL := Aside0.mk (mem ht2)
   have HDR := Aside0.mk (drop_one ht2)
   have l33 : ((⟨#[33]⟩ : ByteArray).toList == ([] : List UInt8)) = false := by rw [toList_eq]; rfl
   obtain ⟨kk, hkk⟩ : ∃ kk, vk k3 = kk := ⟨_, rfl⟩
   rw [hkk] at HL
   clear hkk h4 h8 hT hE hz ht hts ht2 hts3 ht3 hlt hB hp0 mem
   go_enter Tryz.func62, Tryz.ntmps62
   go_upto_region 13 with (first | ((with_reducible refine (HN.out _ HQ2.out.ex).mono ?_); rintro e w3 ⟨rfl, hx_, hk_⟩; have HQ3 := Aside0.mk (HQ2.out.move HNE.out.1 HNE.out.2.1 hx_ hk_); clear hx_ hk_ HN; obtain ⟨c30, c31, c32⟩ := blk3 HQ3.out.b4; have z30 := HQ3.out.z 0; have z31 := HQ3.out.z 1; have z32 := HQ3.out.z 2; obtain ⟨r30, r31, r32⟩ := blk3 HQ3.out.b2; have y30 := HQ3.out.y 0; have y31 := HQ3.out.y 1; have y32 := HQ3.out.y 2; have HQ4 := Aside0.mk (HQ3.out.put1 HBB.out HNE.out.2.2.1 HNE.out.2.2.2 (⟨#[33]⟩)); obtain ⟨c40, c41, c42⟩ := blk3 HQ4.out.b4; have z40 := HQ4.out.z 0; have z41 := HQ4.out.z 1; have z42 := HQ4.out.z 2; obtain ⟨r40, r41, r42⟩ := blk3 HQ4.out.b2; have y40 := HQ4.out.y 0; have y41 := HQ4.out.y 1; have y42 := HQ4.out.y 2) | ((with_reducible refine (HN2.out _ HQ4.out.ex).mono ?_); rintro e w5 ⟨rfl, hx_, hk_⟩; have HQ5 := Aside0.mk (HQ4.out.move HNE.out.1 HNE.out.2.1 hx_ hk_); clear hx_ hk_ HN2; obtain ⟨c50, c51, c52⟩ := blk3 HQ5.out.b4; have z50 := HQ5.out.z 0; have z51 := HQ5.out.z 1; have z52 := HQ5.out.z 2; obtain ⟨r50, r51, r52⟩ := blk3 HQ5.out.b2; have y50 := HQ5.out.y 0; have y51 := HQ5.out.y 1; have y52 := HQ5.out.y 2; have HQ6 := Aside0.mk (HQ5.out.put0 HBB.out HNE.out.2.2.1 HNE.out.2.2.2 (mk s2)); obtain ⟨c60, c61, c62⟩ := blk3 HQ6.out.b4; have z60 := HQ6.out.z 0; have z61 := HQ6.out.z 1; have z62 := HQ6.out.z 2; obtain ⟨r60, r61, r62⟩ := blk3 HQ6.out.b2; have y60 := HQ6.out.y 0; have y61 := HQ6.out.y 1; have y62 := HQ6.out.y 2) | ((with_reducible refine (HL.out _ HQ6.out.ex).mono ?_); rintro e w7 ⟨rfl, hb_⟩; have HQ7 := Aside0.mk (HQ6.out.below hb_); clear hb_ HL; obtain ⟨c70, c71, c72⟩ := blk3 HQ7.out.b4; have z70 := HQ7.out.z 0; have z71 := HQ7.out.z 1; have z72 := HQ7.out.z 2; obtain ⟨r70, r71, r72⟩ := blk3 HQ7.out.b2; have y70 := HQ7.out.y 0; have y71 := HQ7.out.y 1; have y72 := HQ7.out.y 2))
   clear c30 c31 c32 z30 z31 z32 r30 r31 r32 y30 y31 y32 c40 c41 c42 z40 z41 z42 r40 r41 r42 y40 y41 y42 c50 c51 c52 z50 z51 z52 r50 r51 r52 y50 y51 y52 c60 c61 c62 z60 z61 z62 r60 r61 r62 y60 y61 y62
   have HFX := Aside0.mk (fun (W : World) (hb : Below w7.heap.size w7 W) => HFA.out s2 HKL.out ⟨#[33]⟩ none 0 0 [] rfl (by omega) (fun _ h => absurd h List.not_mem_nil) W (HQ7.out.kb.trans (Kb.of_below hb rb)) ⟨rfl, by omega, fun h => absurd h (Nat.lt_irrefl 0)⟩)
   rw [show (mk s2).data.toList = s2 from rfl, show (⟨#[33]⟩ : ByteArray).data.toList = [33] from rfl, show vL (([] : List L).map mk) = [] from rfl] at HFX
   obtain ⟨q, hq⟩ : ∃ q, fairR s2 [33] [] = q := ⟨_, rfl⟩
   rw [hq] at HFX HR
   clear hq HFA HKL
   go_region_held_law (fun w' => w'.cell? ⟨w.heap.size + 1, 0, none⟩ = some (.string (mk s2)) ∧ w'.cell? ⟨w.heap.size + 1, 1, none⟩ = some (.string ⟨#[33]⟩) ∧ w'.cell? ⟨w.heap.size + 1, 2, none⟩ = some (.slice none 0 0)) (first | exact ⟨c80, c81, c82⟩ | exact ⟨c70, c71, c72⟩ | go_keep) ((refine call_ 41 #[.agg #[.string (mk s2), .string ⟨#[33]⟩, .slice none 0 0]] (by rfl) (by rfl) (by go_simp) ?_; refine (HFX.out _ ?hb).mono ?_; (case hb => first | exact Below.refl _ _ | exact below_drew1 (Below.refl _ _) | exact pw_below_drewN (Below.refl _ _) _); rintro e w8 ⟨rfl, hb_⟩; have HQ8 := Aside0.mk (HQ7.out.below (below_step (show Below w7.heap.size w7 _ from by first | exact Below.refl _ _ | exact below_drew1 (Below.refl _ _) | exact pw_below_drewN (Below.refl _ _) _) hb_)); clear hb_; obtain ⟨c80, c81, c82⟩ := blk3 HQ8.out.b4; have z80 := HQ8.out.z 0; have z81 := HQ8.out.z 1; have z82 := HQ8.out.z 2; obtain ⟨r80, r81, r82⟩ := blk3 HQ8.out.b2; have y80 := HQ8.out.y 0; have y81 := HQ8.out.y 1; have y82 := HQ8.out.y 2; refine ⟨_, rfl, ?_⟩))
   all_goals go_wp2
   all_goals
     have hbF := put3 HQ8.out.b2 (.string (mk s2)) (.string ⟨#[33]⟩) (.slice none 0 0)
     have hlF := below_put3 (w := w8) (Nat.le_refl w.heap.size) (.string (mk s2)) (.string ⟨#[33]⟩) (.slice none 0 0)
     generalize hWF : World.setCell (World.setCell (World.setCell _ _ _) _ _) _ _ = WF at hbF hlF ⊢
     obtain ⟨d0, d1, d2⟩ := blk3 hbF
     refine bodyPost_ret (v := .tuple #[.agg #[.string (mk s2), .string ⟨#[33]⟩, .slice none 0 0], .bool q]) (by simp [results, Tryz.results62, go_sem, d0, d1, d2]) rfl ?_
     exact RqR.fair' (i := p + 1 + 1) (key := s2) (op := [33]) (vs := []) HR.out (HQ8.out.kb.step hlF) HDR.out (HQ8.out.ex.below (hlF.mono HBB.out)) rfl (Kd.R_nil _ _ _ _ _)
end Go.Proofs.YthfjolafikgpoaaGreatDoor.Hand

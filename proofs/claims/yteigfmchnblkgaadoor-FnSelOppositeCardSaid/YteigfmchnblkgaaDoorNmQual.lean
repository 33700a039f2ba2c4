/- The reference Qualified. -/
import Derived.Test.YteigfmchnblkgaaDoorNmChk68
import Derived.Test.YteigfmchnblkgaaDoorNmWild
import Derived.Test.YteigfmchnblkgaaDoorNmAux
import Derived.Test.YteigfmchnblkgaaDoorPkD
namespace Go.Proofs.YteigfmchnblkgaaDoor.Hand
open Go.RowKit Go.Proofs.YteigfmchnblkgaaDoorW.PrintWords Go.Proofs.YteigfmchnblkgaaDoorW.PrintLast Go.Proofs.YteigfmchnblkgaaDoorW.PrintMore Go.Proofs.YteigfmchnblkgaaDoor.Base
set_option linter.unusedVariables false
set_option linter.unusedSimpArgs false
set_option maxRecDepth 100000
def pName (n : L) : Bool := !(n == []) && pValue n
def pQ (x : L) : Bool := match pieces 47 x with
  | [n] => pName n
  | [p, n] => (most 253 p && sub p) && pName n
  | _ => false
theorem one_cell {w : World} {A : Option Addr} {n : Nat} {a : ByteArray} (h : Kd.C Kd.string w A n [a]) : ∃ ad, A = some ad ∧ w.cell? ad = some (.string a) := by
  have hn := Kd.C_len h
  obtain ⟨ad, e, h0⟩ := Kd.at_string h 0 (by omega) (by simp at hn; omega)
  rw [show (0 : Int).toNat = 0 from rfl, add0] at h0
  exact ⟨ad, e, h0⟩

set_option maxHeartbeats 4000000 in
theorem Qualified_calls (s : ByteArray) (hs : s.size ≤ 2147483647) (w : World) :
    Calls Tryd.prog 19 #[.string s] w fun e w' => e = .returned (.bool (pQ s.data.toList)) ∧ Below w.heap.size w w' := by
  obtain ⟨x, hx, hxs⟩ : ∃ x : L, s = mk x ∧ s.size = x.length := exists_mk s
  have HB := Aside0.mk (Below.refl w.heap.size w)
  have h2 : ∀ w, Calls Tryd.prog 26 #[.string s, .int .u8 47] w fun e w' => ∃ v0_ : Value, e = .returned (v0_) ∧ Kd.R Kd.string 9 w' w.heap.size (fun _ => True) v0_ ((pieces 47 s.data.toList).map mk) ∧ Below w.heap.size w w' := fun w => Pieces_calls 47 s (by omega) w
  rw [show s.data.toList = x by rw [hx]; rfl] at h2 ⊢
  have hne := pieces_ne 47 x
  have hle := pieces_le 47 x
  have hlen := pieces_len 47 x
  have hP : ∀ ps, pieces 47 x = ps → pQ x = match ps with
    | [n] => pName n
    | [p, n] => (most 253 p && sub p) && pName n
    | _ => false := by intro ps h; unfold pQ; rw [h]
  obtain ⟨ps, hps⟩ : ∃ ps, pieces 47 x = ps := ⟨_, rfl⟩
  rw [hP ps hps]
  rw [hps] at h2 hne hle hlen
  clear hP hps hx
  match ps, hne, hle, hlen, h2 with
  | [], hne, _, _, _ => exact absurd rfl hne
  | [n], _, hle, _, h2 =>
    have hnl : n.length ≤ x.length := hle n (by simp)
    obtain ⟨nn, hnn⟩ : ∃ nn, mk n = nn := ⟨_, rfl⟩
    have hnz : nn.size ≤ 2147483647 := by rw [← hnn, mk_size]; omega
    have hnd : nn.data.toList = n := by rw [← hnn]; rfl
    simp only [List.map_cons, List.map_nil, hnn] at h2
    have h3 : ∀ w, Calls Tryd.prog 18 #[.string nn] w fun e w' => e = .returned (.bool (pValue n)) ∧ w = w' := fun w => by
      have := LabelText_calls nn (by omega) w; rw [hnd] at this; exact this
    have H2 := Aside0.mk h2; have H3 := Aside0.mk h3
    have hnt : nn.toList = n := by rw [← hnn, mk_toList]
    clear h2 h3 hle hnl hxs hnd
    show Calls _ _ _ _ fun e w' => e = .returned (.bool (pName n)) ∧ _
    by_cases h0 : n = []
    · have HN : Aside0 (pName n = false) := ⟨by rw [h0]; rfl⟩
      have t0 : (nn.toList == ([] : List UInt8)) = true := by rw [hnt, h0]; rfl
      have t1 : (nn.toList != ([] : List UInt8)) = false := by rw [bne, t0]; rfl
      rw [HN.out]
      clear h0 hnt hnn
      go_enter Tryd.func19, Tryd.ntmps19
      go_wp2_with (first | ((with_reducible refine (H2.out _).mono ?_); rintro e w' ⟨v0, rfl, g1, hb⟩; (obtain ⟨A1, c1, e1⟩ := Kd.R_slice g1); (simp only [List.length_cons, List.length_nil, Nat.zero_add, Nat.reduceAdd] at e1); subst e1; (obtain ⟨ad, eA, k0⟩ := one_cell (Kd.R_reads' g1).2.2); subst eA; clear g1; have nb_ := Aside0.mk (below_step (by repeat (first | (with_reducible first | exact HB.out | apply below_alloc | apply pw_below_drewN | apply below_drew1) | exact HB.out)) hb); clear HB; have HB := nb_; clear nb_; (try clear hb)))
      go_ret
      exact ⟨rfl, (by repeat (first | (with_reducible first | exact HB.out | apply below_alloc | apply pw_below_drewN | apply below_drew1) | exact HB.out))⟩
    · have HN : Aside0 (pName n = pValue n) := ⟨by unfold pName; rw [show (n == []) = false from beq_eq_false_iff_ne.2 h0]; rfl⟩
      have t0 : (nn.toList == ([] : List UInt8)) = false := by rw [hnt]; exact beq_eq_false_iff_ne.2 h0
      have t1 : (nn.toList != ([] : List UInt8)) = true := by rw [bne, t0]; rfl
      rw [HN.out]
      obtain ⟨q, hq⟩ : ∃ q, pValue n = q := ⟨_, rfl⟩
      rw [hq] at H3 ⊢
      clear h0 hnt hnn hq HN
      go_enter Tryd.func19, Tryd.ntmps19
      go_wp2_with (first | ((with_reducible refine (H2.out _).mono ?_); rintro e w' ⟨v0, rfl, g1, hb⟩; (obtain ⟨A1, c1, e1⟩ := Kd.R_slice g1); (simp only [List.length_cons, List.length_nil, Nat.zero_add, Nat.reduceAdd] at e1); subst e1; (obtain ⟨ad, eA, k0⟩ := one_cell (Kd.R_reads' g1).2.2); subst eA; clear g1; have nb_ := Aside0.mk (below_step (by repeat (first | (with_reducible first | exact HB.out | apply below_alloc | apply pw_below_drewN | apply below_drew1) | exact HB.out)) hb); clear HB; have HB := nb_; clear nb_; (try clear hb)) | ((with_reducible refine (H3.out _).mono ?_); rintro e w' ⟨rfl, rfl⟩))
      go_ret
      exact ⟨rfl, (by repeat (first | (with_reducible first | exact HB.out | apply below_alloc | apply pw_below_drewN | apply below_drew1) | exact HB.out))⟩
  | [p, n], _, hle, _, h2 =>
    have hnl : n.length ≤ x.length := hle n (by simp)
    have hpl : p.length ≤ x.length := hle p (by simp)
    obtain ⟨nn, hnn⟩ : ∃ nn, mk n = nn := ⟨_, rfl⟩
    have hnz : nn.size ≤ 2147483647 := by rw [← hnn, mk_size]; omega
    have hnd : nn.data.toList = n := by rw [← hnn]; rfl
    obtain ⟨pp, hpp⟩ : ∃ pp, mk p = pp := ⟨_, rfl⟩
    have hpz : pp.size ≤ 2147483647 := by rw [← hpp, mk_size]; omega
    have hpd : pp.data.toList = p := by rw [← hpp]; rfl
    simp only [List.map_cons, List.map_nil, hnn, hpp] at h2
    have h3 : ∀ w, Calls Tryd.prog 18 #[.string nn] w fun e w' => e = .returned (.bool (pValue n)) ∧ w = w' := fun w => by
      have := LabelText_calls nn (by omega) w; rw [hnd] at this; exact this
    have h4 : ∀ w, Calls Tryd.prog 27 #[.string pp] w fun e w' => e = .returned (.bool (most 253 p && sub p)) ∧ Below w.heap.size w w' := fun w => by
      have := pSub_calls pp (by omega) w; rw [hpd] at this; exact this
    show Calls _ _ _ _ fun e w' => e = .returned (.bool ((most 253 p && sub p) && pName n)) ∧ _
    obtain ⟨z, hz⟩ : ∃ z, (most 253 p && sub p) = z := ⟨_, rfl⟩
    rw [hz] at h4 ⊢
    have H2 := Aside0.mk h2; have H3 := Aside0.mk h3; have H4 := Aside0.mk h4
    have hnt : nn.toList = n := by rw [← hnn, mk_toList]
    clear h2 h3 h4 hle hnl hpl hxs hnd hpd hz hpp
    have FIRST : True := trivial
    cases z with
    | false =>
      clear hnt hnn
      go_enter Tryd.func19, Tryd.ntmps19
      go_wp2_with (first | ((with_reducible refine (H2.out _).mono ?_); rintro e w' ⟨v0, rfl, g1, hb⟩; (obtain ⟨A1, c1, e1⟩ := Kd.R_slice g1); (simp only [List.length_cons, List.length_nil, Nat.zero_add, Nat.reduceAdd] at e1); subst e1; (obtain ⟨ad, eA, k0, k1⟩ := two_cells (Kd.R_reads' g1).2.2); subst eA; clear g1; have nb_ := Aside0.mk (below_step (by repeat (first | (with_reducible first | exact HB.out | apply below_alloc | apply pw_below_drewN | apply below_drew1) | exact HB.out)) hb); clear HB; have HB := nb_; clear nb_; (try clear hb)) | ((with_reducible refine (H4.out _).mono ?_); rintro e w' ⟨rfl, hb⟩; clear k0 k1; have nb_ := Aside0.mk (below_step (by repeat (first | (with_reducible first | exact HB.out | apply below_alloc | apply pw_below_drewN | apply below_drew1) | exact HB.out)) hb); clear HB; have HB := nb_; clear nb_; (try clear hb)))
      go_ret
      exact ⟨rfl, (by repeat (first | (with_reducible first | exact HB.out | apply below_alloc | apply pw_below_drewN | apply below_drew1) | exact HB.out))⟩
    | true =>
      by_cases h0 : n = []
      · have HN : Aside0 ((true && pName n) = false) := ⟨by rw [h0]; rfl⟩
        have t0 : (nn.toList == ([] : List UInt8)) = true := by rw [hnt, h0]; rfl
        have t1 : (nn.toList != ([] : List UInt8)) = false := by rw [bne, t0]; rfl
        rw [HN.out]
        clear h0 hnt hnn
        go_enter Tryd.func19, Tryd.ntmps19
        go_wp2_with (first | ((with_reducible refine (H2.out _).mono ?_); rintro e w' ⟨v0, rfl, g1, hb⟩; (obtain ⟨A1, c1, e1⟩ := Kd.R_slice g1); (simp only [List.length_cons, List.length_nil, Nat.zero_add, Nat.reduceAdd] at e1); subst e1; (obtain ⟨ad, eA, k0, k1⟩ := two_cells (Kd.R_reads' g1).2.2); subst eA; clear g1; have nb_ := Aside0.mk (below_step (by repeat (first | (with_reducible first | exact HB.out | apply below_alloc | apply pw_below_drewN | apply below_drew1) | exact HB.out)) hb); clear HB; have HB := nb_; clear nb_; (try clear hb)) | ((with_reducible refine (H4.out _).mono ?_); rintro e w' ⟨rfl, hb⟩; replace k0 := pw_cell_below hb k0; replace k1 := pw_cell_below hb k1; have nb_ := Aside0.mk (below_step (by repeat (first | (with_reducible first | exact HB.out | apply below_alloc | apply pw_below_drewN | apply below_drew1) | exact HB.out)) hb); clear HB; have HB := nb_; clear nb_; (try clear hb)))
        go_ret
        exact ⟨rfl, (by repeat (first | (with_reducible first | exact HB.out | apply below_alloc | apply pw_below_drewN | apply below_drew1) | exact HB.out))⟩
      · have HN : Aside0 ((true && pName n) = pValue n) := ⟨by unfold pName; rw [show (n == []) = false from beq_eq_false_iff_ne.2 h0]; rfl⟩
        have t0 : (nn.toList == ([] : List UInt8)) = false := by rw [hnt]; exact beq_eq_false_iff_ne.2 h0
        have t1 : (nn.toList != ([] : List UInt8)) = true := by rw [bne, t0]; rfl
        rw [HN.out]
        obtain ⟨q, hq⟩ : ∃ q, pValue n = q := ⟨_, rfl⟩
        rw [hq] at H3 ⊢
        clear h0 hnt hnn hq HN
        go_enter Tryd.func19, Tryd.ntmps19
        go_wp2_with (first | ((with_reducible refine (H2.out _).mono ?_); rintro e w' ⟨v0, rfl, g1, hb⟩; (obtain ⟨A1, c1, e1⟩ := Kd.R_slice g1); (simp only [List.length_cons, List.length_nil, Nat.zero_add, Nat.reduceAdd] at e1); subst e1; (obtain ⟨ad, eA, k0, k1⟩ := two_cells (Kd.R_reads' g1).2.2); subst eA; clear g1; have nb_ := Aside0.mk (below_step (by repeat (first | (with_reducible first | exact HB.out | apply below_alloc | apply pw_below_drewN | apply below_drew1) | exact HB.out)) hb); clear HB; have HB := nb_; clear nb_; (try clear hb)) | ((with_reducible refine (H4.out _).mono ?_); rintro e w' ⟨rfl, hb⟩; replace k0 := pw_cell_below hb k0; replace k1 := pw_cell_below hb k1; have nb_ := Aside0.mk (below_step (by repeat (first | (with_reducible first | exact HB.out | apply below_alloc | apply pw_below_drewN | apply below_drew1) | exact HB.out)) hb); clear HB; have HB := nb_; clear nb_; (try clear hb)) | ((with_reducible refine (H3.out _).mono ?_); rintro e w' ⟨rfl, rfl⟩))
        go_ret
        exact ⟨rfl, (by repeat (first | (with_reducible first | exact HB.out | apply below_alloc | apply pw_below_drewN | apply below_drew1) | exact HB.out))⟩
  | a :: b :: c :: d, _, hle, hlen, h2 =>
    show Calls _ _ _ _ fun e w' => e = .returned (.bool false) ∧ _
    obtain ⟨l, hl⟩ : ∃ l, (a :: b :: c :: d).map mk = l := ⟨_, rfl⟩
    have hll : 3 ≤ l.length := by rw [← hl]; simp
    have hlm : l.length ≤ 2147483648 := by rw [← hl, List.length_map]; omega
    rw [hl] at h2
    have H2 := Aside0.mk h2
    clear h2 hl hle hlen hxs
    go_enter Tryd.func19, Tryd.ntmps19
    go_wp2_with (first | ((with_reducible refine (H2.out _).mono ?_); rintro e w' ⟨v0, rfl, g1, hb⟩; (obtain ⟨A1, c1, e1⟩ := Kd.R_slice g1); subst e1; clear g1; have nb_ := Aside0.mk (below_step (by repeat (first | (with_reducible first | exact HB.out | apply below_alloc | apply pw_below_drewN | apply below_drew1) | exact HB.out)) hb); clear HB; have HB := nb_; clear nb_; (try clear hb)))
    go_ret
    exact ⟨rfl, (by repeat (first | (with_reducible first | exact HB.out | apply below_alloc | apply pw_below_drewN | apply below_drew1) | exact HB.out))⟩
end Go.Proofs.YteigfmchnblkgaaDoor.Hand

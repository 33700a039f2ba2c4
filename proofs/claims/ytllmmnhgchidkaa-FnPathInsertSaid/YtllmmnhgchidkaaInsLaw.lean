/- The law FnPathInsert. -/
import Derived.Test.YtllmmnhgchidkaaPathInsert
namespace Go.Proofs.Ytllmmnhgchidkaa.Hand
open Go.RowKit Go.Proofs.YtllmmnhgchidkaaW.PrintWords Go.Proofs.YtllmmnhgchidkaaW.PrintLast Go.Proofs.YtllmmnhgchidkaaW.PrintMore Go.Proofs.Ytllmmnhgchidkaa.Base Go.Proofs.Ytllmmnhgchidkaa.PFnPathParts
set_option linter.unusedVariables false
set_option linter.unusedSimpArgs false
set_option maxRecDepth 100000
theorem mx_clamp (p : Int) (n : Nat) : mx 0 (mn p (n : Int)) = (clampI p n : Int) := by
  unfold mx mn clampI
  by_cases h1 : (n : Int) < p
  · rw [if_pos h1, if_neg (show ¬ p < 0 by omega), if_pos (show p > (n : Int) from h1)]; split <;> omega
  · rw [if_neg h1]
    by_cases h2 : p < 0
    · rw [if_pos h2, if_neg (by omega)]; rfl
    · rw [if_neg h2, if_neg (show ¬ p > (n : Int) from h1)]; split <;> omega
theorem Inserted_calls (A : Option Addr) (c : Nat) (l : List L) (p : Int) (q : ByteArray) (w : World) (hr : Kd.C Kd.string w A l.length (l.map mk)) (hc : l.length ≤ c) (hl : l.length ≤ 1000) :
    Calls Try.prog 40 #[.slice A l.length c, .int .i64 p, .string q] w fun e w' => ∃ v0 : Value, e = .returned v0 ∧ Kd.R Kd.string 9 w' w.heap.size (fun _ => True) v0 ((insI l (clampI p l.length) q.data.toList).map mk) ∧ Below w.heap.size w w' := by
  have hi := clampI_le p l.length
  have hf : PFnPathInsert.spec_Inserted.f (l.map mk) p q = some ((insI l (clampI p l.length) q.data.toList).map mk) := by
    unfold PFnPathInsert.spec_Inserted.f
    rw [List.length_map, mx_clamp]
    simp only [Option.bind_some, Int.toNat_natCast]
    rw [if_pos (by omega), if_pos (by omega), if_pos (by simp; omega), if_pos (by simp; omega), if_pos (by simp; omega)]
    have hq : q = mk q.data.toList := mk_of q
    simp only [insI, List.map_append, List.map_cons, List.map_take, List.map_drop, List.nil_append, List.append_assoc, List.singleton_append]
    rw [← hq]
  have h := PFnPathInsert.spec_Inserted.calls A c (l.map mk) p q _ w (by rw [List.length_map]; exact hr) (by rw [List.length_map]; exact hc) hf
  rw [List.length_map] at h; exact h
/-- InsertPart of the parts ld ++ ns (ld: an empty part, or none). -/
theorem InsG_calls (s q : ByteArray) (place : Int) (ro : Bool) (ns : List L) (hg : Good ns) (hn : ns.length ≤ 101) (hm : ∀ p ∈ ns, p.length ≤ 200) (hgq : Good [q.data.toList]) (hqz : q.data.toList.length ≤ 200)
    (hs : ∃ k, filesys_PathSplit.f k s = some (((if ro = true then [[]] else []) ++ ns).map mk)) (w : World) :
    Calls Try.prog 41 #[.string s, .int .i64 place, .string q] w fun e w' => e = .returned (.string (mk (if ro = true then 47 :: joinL [47] (insI ns (clampI place ns.length) q.data.toList) else joinL [47] (insI ns (clampI place ns.length) q.data.toList)))) ∧ Below w.heap.size w w' := by
  have HB := Aside0.mk (Below.refl w.heap.size w)
  obtain ⟨k, hk⟩ := hs
  have hi := clampI_le place ns.length
  have hrl := resI_len ns (clampI place ns.length) q.data.toList hi
  have hrm : ∀ p ∈ resI ns (clampI place ns.length) q.data.toList, p.length ≤ 200 := by
    intro p hp
    simp only [resI, List.mem_append, List.mem_cons, List.mem_replicate] at hp
    rcases hp with (hp | rfl | ⟨_, rfl⟩) | hp
    · exact hm p (List.mem_of_mem_take hp)
    · exact hqz
    · simp
    · exact hm p (List.mem_of_mem_drop hp)
  obtain ⟨out, hout⟩ : ∃ out, mk (if ro = true then 47 :: joinL [47] (insI ns (clampI place ns.length) q.data.toList) else joinL [47] (insI ns (clampI place ns.length) q.data.toList)) = out := ⟨_, rfl⟩
  rw [hout]
  have h64 : ∀ w, Calls Try.prog 64 #[.string s, .int .i64 place, .string q] w fun e w' => e = .returned (.string out) ∧ Below w.heap.size w w' := by
    intro w
    refine InsPP_calls s q place ((if ro = true then [[]] else []) ++ ns) (by cases ro <;> simp <;> omega) (hgq _ (by simp)).1 out (fun w => filesys_PathSplit.calls k s _ w hk) (fun w A c hC hc => ?_) w
    cases ro with
    | true =>
      rw [if_pos rfl] at hout hC hc ⊢
      have e : resI ([[]] ++ ns) (spotI ([[]] ++ ns) place) q.data.toList = [] :: resI ns (clampI place ns.length) q.data.toList := by
        rw [show [[]] ++ ns = [] :: ns from rfl, spot_rooted, res_rooted]
      rw [e] at hC hc ⊢
      rw [List.length_cons] at hC hc ⊢
      have h := PathJoinG_rooted A c _ w hC hc (by omega) hrm
      rw [res_join hg _ hgq, hout] at h; exact h
    | false =>
      rw [if_neg (by decide)] at hout hC hc ⊢
      have e : resI ([] ++ ns) (spotI ([] ++ ns) place) q.data.toList = resI ns (clampI place ns.length) q.data.toList := by
        rw [List.nil_append, spot_plain hg]
      rw [e] at hC hc ⊢
      have hh := res_head hg (clampI place ns.length) hgq
      have h := PathJoinG_plain A c _ w hC hc (by omega) hh.2 hh.1 hrm
      rw [res_join hg _ hgq, hout] at h; exact h
  have H64 := Aside0.mk h64
  clear h64 hk hg hm hgq hrm hout
  go_enter Try.func41, Try.ntmps41
  go_wp2_with (first | ((with_reducible refine (H64.out _).mono ?_); rintro e w' ⟨rfl, hb⟩; have nb_ := Aside0.mk (below_step (by repeat (first | (with_reducible first | exact HB.out | apply below_alloc | apply pw_below_drewN | apply below_drew1) | exact HB.out)) hb); clear HB; have HB := nb_; clear nb_; (try clear hb)))
  go_ret
  exact ⟨rfl, (by repeat (first | (with_reducible first | exact HB.out | apply below_alloc | apply pw_below_drewN | apply below_drew1) | exact HB.out))⟩
/-- An empty part changes nothing. -/
theorem InsE_calls (s : ByteArray) (place : Int) (w : World) : Calls Try.prog 41 #[.string s, .int .i64 place, .string ⟨#[]⟩] w fun e w' => e = .returned (.string s) ∧ Below w.heap.size w w' := by
  have HB := Aside0.mk (Below.refl w.heap.size w)
  have H64 : Aside0 (∀ w, Calls Try.prog 64 #[.string s, .int .i64 place, .string ⟨#[]⟩] w fun e w' => e = .returned (.string s) ∧ w = w') := ⟨by
    intro w
    go_enter Try.func64, Try.ntmps64
    go_wp2
    go_ret
    exact ⟨rfl, rfl⟩⟩
  go_enter Try.func41, Try.ntmps41
  go_wp2_with (first | ((with_reducible refine (H64.out _).mono ?_); rintro e w' ⟨rfl, rfl⟩))
  go_ret
  exact ⟨rfl, (by repeat (first | (with_reducible first | exact HB.out | apply below_alloc | apply pw_below_drewN | apply below_drew1) | exact HB.out))⟩
theorem path_hk {x : L} (h : epc x = true) : ∃ k, filesys_PathSplit.f k (mk x) = some (((if rooted x = true then [[]] else []) ++ names x).map mk) := by
  obtain ⟨h1, h2, h3, h4, h5⟩ := epc_form h
  have hl := names_len x
  have hpl : (names x).length = ((names x).length - 1) + 1 := by have := List.length_pos_iff.2 h3; omega
  cases hr : rooted x with
  | true =>
    rw [hr, if_pos rfl] at h5
    have h6 : x = [47] ++ joinL [47] (names x) := h5
    have h7 := pathSplit_ev [47] (.inr rfl) _ (names x) hpl h2 (by rw [← h6]; omega) (by omega)
    rw [← h6] at h7
    exact h7.rounds
  | false =>
    rw [hr, if_neg (by decide)] at h5
    have h6 : x = [] ++ joinL [47] (names x) := h5
    have h7 := pathSplit_ev [] (.inl rfl) _ (names x) hpl h2 (by rw [← h6]; omega) (by omega)
    rw [← h6] at h7
    exact h7.rounds
theorem empty_hk : ∃ k, filesys_PathSplit.f k (⟨#[]⟩ : ByteArray) = some (((if false = true then [[]] else []) ++ ([] : List L)).map mk) := ⟨1, by decide +kernel⟩
theorem root_hk : ∃ k, filesys_PathSplit.f k (⟨#[47]⟩ : ByteArray) = some (((if true = true then [[]] else []) ++ ([] : List L)).map mk) := ⟨9, by decide +kernel⟩
end Go.Proofs.Ytllmmnhgchidkaa.Hand

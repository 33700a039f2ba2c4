/- Plain lemmas on clean paths without points as names, and what the printed functions PathSplit, zzSplit, zzTrimSuffix and epSame come to. -/
import Derived.Test.YtllmmnhgchidkaaPathJoined
import Derived.Test.YtllmmnhgchidkaaPFnPathPartsx3
namespace Go.Proofs.Ytllmmnhgchidkaa.Hand
open Go.RowKit Go.Proofs.Ytllmmnhgchidkaa.PFnPathParts Go.Proofs.YtllmmnhgchidkaaW.PrintWords Go.Proofs.YtllmmnhgchidkaaW.PrintLast Go.Proofs.Ytllmmnhgchidkaa.Base

def noSep (n : L) : Prop := ∀ b ∈ n, b ≠ 47
def Good (ns : List L) : Prop := ∀ n ∈ ns, n ≠ [] ∧ noSep n ∧ n ≠ [46] ∧ n ≠ [46, 46]

theorem pieces_noSep (n : L) (h : noSep n) : pieces 47 n = [n] := by
  induction n with
  | nil => rfl
  | cons b t ih =>
    unfold pieces
    rw [if_neg (h b (by simp)), ih (fun c hc => h c (by simp [hc]))]
    rfl
theorem pieces_app (n t : L) (h : noSep n) : pieces 47 (n ++ 47 :: t) = n :: pieces 47 t := by
  induction n with
  | nil => rw [List.nil_append, pieces, if_pos rfl]
  | cons b r ih =>
    rw [List.cons_append, pieces, if_neg (h b (by simp)), ih (fun c hc => h c (by simp [hc]))]
    rfl
theorem pieces_join (ns : List L) (h : ∀ n ∈ ns, noSep n) (hne : ns ≠ []) : pieces 47 (joinL [47] ns) = ns := by
  induction ns with
  | nil => exact absurd rfl hne
  | cons a t ih =>
    cases t with
    | nil => simp only [joinL]; exact pieces_noSep a (h a (by simp))
    | cons b r =>
      simp only [joinL]
      rw [List.append_assoc, List.singleton_append, pieces_app a _ (h a (by simp)), ih (fun n hn => h n (by simp [hn])) (by simp)]
theorem pieces_mem_noSep (x : L) : ∀ p ∈ pieces 47 x, noSep p := by
  induction x with
  | nil => intro p hp; simp [pieces] at hp; subst hp; intro b hb; simp at hb
  | cons b t ih =>
    intro p hp
    unfold pieces at hp
    split at hp
    · rcases List.mem_cons.1 hp with rfl | hp
      · intro c hc; simp at hc
      · exact ih p hp
    · rename_i hb
      cases hq : pieces 47 t with
      | nil => exact absurd hq (pieces_ne 47 t)
      | cons q r =>
        rw [hq] at hp ih
        simp only [glue, List.mem_cons] at hp
        rcases hp with rfl | hp
        · intro c hc
          simp only [List.singleton_append, List.mem_cons] at hc
          rcases hc with rfl | hc
          · exact hb
          · exact ih q (by simp) c hc
        · exact ih p (by simp [hp])
theorem Good.full {ns : List L} (h : Good ns) : full ns = ns := by
  unfold Hand.full
  rw [List.filter_eq_self]
  intro p hp
  simpa using (h p hp).1
theorem fold_good (ro : Bool) (ns : List L) (h : Good ns) : ∀ l, ns.foldl (pstep ro) l = l ++ ns := by
  induction ns with
  | nil => intro l; simp
  | cons a t ih =>
    intro l
    obtain ⟨h1, h2, h3, h4⟩ := h a (by simp)
    rw [List.foldl_cons]
    have e : pstep ro l a = l ++ [a] := by
      unfold pstep
      rw [if_neg (by simp [h1, h3]), if_neg (fun h => h4 h.1), if_neg (fun h => h4 h.1)]
    rw [e, ih (fun n hn => h n (by simp [hn]))]
    simp
theorem joinL_ne {ns : List L} (h : Good ns) (hne : ns ≠ []) : joinL [47] ns ≠ [] := by
  cases ns with
  | nil => exact absurd rfl hne
  | cons a t =>
    have := (h a (by simp)).1
    cases t with
    | nil => simpa [joinL] using this
    | cons b r => simp [joinL]
theorem names_join {ns : List L} (h : Good ns) (hne : ns ≠ []) : names (joinL [47] ns) = ns := by
  unfold names
  rw [pieces_join ns (fun n hn => (h n hn).2.1) hne]
  exact Good.full h
theorem rooted_join {ns : List L} (h : Good ns) (hne : ns ≠ []) : rooted (joinL [47] ns) = false := by
  cases ns with
  | nil => exact absurd rfl hne
  | cons a t =>
    obtain ⟨h1, h2, _⟩ := h a (by simp)
    cases a with
    | nil => exact absurd rfl h1
    | cons c r =>
      have hc : c ≠ 47 := h2 c (by simp)
      unfold rooted
      cases t with
      | nil => simpa [joinL] using hc
      | cons b r => simpa [joinL] using hc
theorem clean_join {ns : List L} (h : Good ns) (hne : ns ≠ []) : clean (joinL [47] ns) = joinL [47] ns := by
  unfold clean
  rw [if_neg (joinL_ne h hne), parts_names, rooted_join h hne, names_join h hne, fold_good false ns h, List.nil_append]
  unfold finish
  rw [if_neg (by decide), if_neg (joinL_ne h hne)]
theorem joinPath_good {ns : List L} (h : Good ns) (hne : ns ≠ []) : joinPath ns = joinL [47] ns := by
  unfold joinPath
  rw [Good.full h, if_neg hne, clean_join h hne]

/-- What epClean tells. -/
def epc (x : L) : Bool := epOk [x] && (!(x == []) && (!(x == [47]) && ((clean x == x) && (names x).all (fun n => !(n == [46]) && !(n == [46, 46])))))
theorem epc_form {x : L} (h : epc x = true) : x.length ≤ 200 ∧ Good (names x) ∧ names x ≠ [] ∧ x ≠ [] ∧ x = (if rooted x = true then 47 :: joinL [47] (names x) else joinL [47] (names x)) := by
  unfold epc at h
  simp only [Bool.and_eq_true, Bool.not_eq_true', beq_eq_false_iff_ne, beq_iff_eq, List.all_eq_true] at h
  obtain ⟨h1, h2, h3, h4, h5⟩ := h
  have hg : Good (names x) := by
    intro n hn
    have h6 := h5 n hn
    refine ⟨(names_mem x n hn).1, ?_, h6.1, h6.2⟩
    exact pieces_mem_noSep x n (List.mem_filter.1 hn).1
  have hx : x = finish (rooted x) (joinL [47] (names x)) := by
    have e : clean x = finish (rooted x) (joinL [47] (parts x)) := by unfold clean; rw [if_neg h2]
    rw [parts_names, fold_good _ _ hg, List.nil_append] at e
    rw [← e]; exact h4.symm
  have hne : names x ≠ [] := by
    intro h6
    rw [h6] at hx
    cases hr : rooted x with
    | true => rw [hr] at hx; exact h3 hx
    | false =>
      rw [hr] at hx
      have h7 : x = [46] := hx
      have h8 : names x = [[46]] := by rw [h7]; decide
      rw [h6] at h8; exact absurd h8 (by simp)
  refine ⟨((epOk_bd h1).2 x (by simp)).1, hg, hne, h2, ?_⟩
  cases hr : rooted x with
  | true => rw [hr] at hx; rw [if_pos rfl]; exact hx
  | false =>
    rw [hr] at hx
    rw [if_neg (by decide)]
    unfold finish at hx
    rw [if_neg (by decide), if_neg (joinL_ne hg hne)] at hx
    exact hx

/-- zzSplit. -/
theorem split_l0 (a n : L) (ha : a = [] ∨ a.getD (a.length - 1) 0 = 47) (hn : noSep n) (hz : (a ++ n).length ≤ 140737488351232) :
    ∀ (d i : Nat), i = a.length + d → d ≤ n.length → Ev (fun k => filesys_zzSplit.l0 k (mk (a ++ n)) ((i : Int) - 1)) (mk a, mk n) := by
  intro d
  induction d with
  | zero =>
    intro i hi hd
    have hi' : i = a.length := by omega
    subst hi'
    have hl : (a ++ n).length = a.length + n.length := List.length_append
    have r1 : (mk (a ++ n)).extract 0 (a.length : Int).toNat = mk a := by rw [extract_mk, Int.toNat_natCast]; simp
    have r2 : (mk (a ++ n)).extract (a.length : Int).toNat (mk (a ++ n)).size = mk n := by rw [extract_mk, Int.toNat_natCast, mk_size, List.take_length]; simp
    have e1 : wrap64 ((a.length : Int) - 1 + 1) = a.length := by rw [wrap_id (by omega) (by omega)]; omega
    by_cases h0 : a.length = 0
    · refine Ev.step (f := fun _ => some (mk a, mk n)) (fun k => ?_) (Ev.now _)
      simp only [filesys_zzSplit.l0]
      rw [if_neg (by omega), e1, if_pos (by omega), if_pos (by rw [mk_size]; omega), r1, r2]
    · have ha' : a.getD (a.length - 1) 0 = 47 := by
        rcases ha with h | h
        · rw [h] at h0; exact absurd rfl h0
        · exact h
      refine Ev.step (f := fun _ => some (mk a, mk n)) (fun k => ?_) (Ev.now _)
      simp only [filesys_zzSplit.l0]
      have eb : bt (mk (a ++ n)) ((a.length : Int) - 1) = 47 := by
        rw [bt_mk, show ((a.length : Int) - 1).toNat = a.length - 1 by omega, List.getD_eq_getElem?_getD, List.getElem?_append_left (by omega), ← List.getD_eq_getElem?_getD, ha']
        rfl
      rw [if_pos (by omega), if_pos (by omega), if_pos (by rw [mk_size]; omega), if_pos eb, e1, if_pos (by omega), if_pos (by rw [mk_size]; omega), r1, r2]
  | succ d ih =>
    intro i hi hd
    have hl : (a ++ n).length = a.length + n.length := List.length_append
    have h1 := ih (i - 1) (by omega) (by omega)
    have e0 : ((i - 1 : Nat) : Int) = (i : Int) - 1 := by omega
    rw [e0] at h1
    refine Ev.step (fun k => ?_) h1
    simp only [filesys_zzSplit.l0]
    have eb : ¬ bt (mk (a ++ n)) ((i : Int) - 1) = 47 := by
      rw [bt_mk, show ((i : Int) - 1).toNat = a.length + d by omega, List.getD_eq_getElem?_getD, List.getElem?_append_right (by omega), show a.length + d - a.length = d by omega, List.getElem?_eq_getElem (by omega), Option.getD_some]
      intro h
      exact hn n[d] (List.getElem_mem (by omega)) (UInt8.toNat_inj.1 (by simpa using (by omega : n[d].toNat = 47)))
    rw [if_pos (by omega), if_pos (by omega), if_pos (by rw [mk_size]; omega), if_neg eb, wrap_id (by omega) (by omega)]
theorem split_ev (a n : L) (ha : a = [] ∨ a.getD (a.length - 1) 0 = 47) (hn : noSep n) (hz : (a ++ n).length ≤ 140737488351232) : Ev (fun k => filesys_zzSplit.f k (mk (a ++ n))) (mk a, mk n) := by
  have h := split_l0 a n ha hn hz n.length (a ++ n).length (by simp) (Nat.le_refl _)
  refine Ev.congr (fun k => ?_) h
  unfold filesys_zzSplit.f
  rw [mk_size, wrap_id (by omega) (by omega)]
theorem trim_some (a : L) (hz : a.length ≤ 140737488351232) : filesys_zzTrimSuffix.f (mk (a ++ [47])) (⟨#[47]⟩ : ByteArray) = some (mk a) := by
  have hl : (a ++ [47]).length = a.length + 1 := by simp
  unfold filesys_zzTrimSuffix.f
  have e1 : ((⟨#[47]⟩ : ByteArray).size : Int) = 1 := by decide
  rw [mk_size, e1, hl, if_pos (by omega)]
  have e2 : wrap64 (((a.length + 1 : Nat) : Int) - 1) = a.length := by rw [wrap_id (by omega) (by omega)]; omega
  rw [e2, if_pos (by omega), if_pos (by omega), Int.toNat_natCast, extract_mk, extract_mk]
  have e3 : (⟨#[47]⟩ : ByteArray).toList = [47] := by rw [toList_eq]
  rw [mk_toList, e3, ← hl, List.take_length, if_pos (by simp)]
  simp
theorem trim_nil : filesys_zzTrimSuffix.f (mk []) (⟨#[47]⟩ : ByteArray) = some (mk []) := by
  unfold filesys_zzTrimSuffix.f
  rw [if_neg (by decide)]

/-- PathSplit of names behind an empty text or a slash. -/
theorem last_sep (a : L) : (a ++ [47]).getD ((a ++ [47]).length - 1) 0 = 47 := by
  rw [List.length_append, List.length_singleton, Nat.add_sub_cancel, List.getD_eq_getElem?_getD, List.getElem?_append_right (Nat.le_refl _)]
  simp
def heads (pre : L) : List L := if pre = [] then [] else [[]]
theorem pathSplit_ev (pre : L) (hp : pre = [] ∨ pre = [47]) : ∀ (m : Nat) (ns : List L), ns.length = m + 1 → Good ns → (pre ++ joinL [47] ns).length ≤ 100000 → ns.length ≤ 100000 →
    Ev (fun k => filesys_PathSplit.f k (mk (pre ++ joinL [47] ns))) ((heads pre ++ ns).map mk) := by
  intro m
  induction m with
  | zero =>
    intro ns hm hg hz _
    obtain ⟨n, rfl⟩ := List.length_eq_one_iff.1 hm
    obtain ⟨h1, h2, h3, h4⟩ := hg n (by simp)
    simp only [joinL] at hz ⊢
    have hs := split_ev pre n (by rcases hp with rfl | rfl; exact .inl rfl; exact .inr rfl) h2 (by omega)
    refine Ev.step (f := fun k => (filesys_zzSplit.f k (mk (pre ++ n))).bind fun bt145 => (if bt145.1.toList = ([47] : List UInt8) then (if bt145.2.toList = ([] : List UInt8) then (some (([(⟨#[]⟩ : ByteArray)] : List ByteArray))) else (some (([(⟨#[]⟩ : ByteArray), bt145.2] : List ByteArray)))) else ((filesys_zzTrimSuffix.f bt145.1 (⟨#[47]⟩ : ByteArray)).bind fun t153 => (if t153.toList = ([] : List UInt8) then (some (([bt145.2] : List ByteArray))) else ((filesys_PathSplit.f k t153).bind fun t157 => (if t157.length < 8796093022208 then (some (t157 ++ [bt145.2])) else (none))))))) (fun k => ?_) ?_
    · simp only [filesys_PathSplit.f]
      rw [if_neg (by rw [mk_toList]; simp [h1])]
    · refine Ev.bind hs ?_
      simp only [mk_toList]
      rcases hp with rfl | rfl
      · refine Ev.neg (by simp) ?_
        rw [trim_nil]
        exact Ev.congr (fun k => by rw [Option.bind_some, mk_toList, if_pos rfl]; rfl) (Ev.now _)
      · exact Ev.pos rfl (Ev.neg h1 (Ev.now _))
  | succ m ih =>
    intro ns hm hg hz hz2
    obtain ⟨init, n, rfl⟩ : ∃ init n, ns = init ++ [n] := ⟨ns.dropLast, ns.getLast (by intro h; rw [h] at hm; simp at hm), (List.dropLast_concat_getLast _).symm⟩
    have him : init.length = m + 1 := by simp at hm; exact hm
    have hine : init ≠ [] := by intro h; rw [h] at him; simp at him
    obtain ⟨h1, h2, h3, h4⟩ := hg n (by simp)
    have hgi : Good init := fun q hq => hg q (by simp [hq])
    rw [joinL_snoc, if_neg hine] at hz ⊢
    have hz3 : (pre ++ joinL [47] init).length ≤ 100000 := by simp only [List.length_append] at hz ⊢; omega
    have e1 : pre ++ (joinL [47] init ++ [47] ++ n) = (pre ++ joinL [47] init ++ [47]) ++ n := by simp
    rw [e1] at hz ⊢
    have hs := split_ev (pre ++ joinL [47] init ++ [47]) n (.inr (last_sep _)) h2 (by omega)
    have hi := ih init him hgi hz3 (by simp at hz2; omega)
    have hjn := joinL_ne hgi hine
    refine Ev.step (f := fun k => (filesys_zzSplit.f k (mk (pre ++ joinL [47] init ++ [47] ++ n))).bind fun bt145 => (if bt145.1.toList = ([47] : List UInt8) then (if bt145.2.toList = ([] : List UInt8) then (some (([(⟨#[]⟩ : ByteArray)] : List ByteArray))) else (some (([(⟨#[]⟩ : ByteArray), bt145.2] : List ByteArray)))) else ((filesys_zzTrimSuffix.f bt145.1 (⟨#[47]⟩ : ByteArray)).bind fun t153 => (if t153.toList = ([] : List UInt8) then (some (([bt145.2] : List ByteArray))) else ((filesys_PathSplit.f k t153).bind fun t157 => (if t157.length < 8796093022208 then (some (t157 ++ [bt145.2])) else (none))))))) (fun k => ?_) ?_
    · simp only [filesys_PathSplit.f]
      rw [if_neg (by rw [mk_toList]; simp)]
    · refine Ev.bind hs ?_
      simp only [mk_toList]
      have hn1 : ¬ pre ++ joinL [47] init ++ [47] = [47] := by
        intro h
        have h8 := congrArg List.length h
        have h9 := List.length_pos_iff.2 hjn
        simp only [List.length_append, List.length_singleton] at h8
        omega
      refine Ev.neg hn1 ?_
      rw [trim_some _ (by omega)]
      simp only [Option.bind_some, mk_toList]
      refine Ev.neg (fun h => hjn (List.append_eq_nil_iff.1 h).2) ?_
      refine Ev.bind hi ?_
      have hlen : ((heads pre ++ init).map mk).length < 8796093022208 := by
        rw [List.length_map, List.length_append]
        have : (heads pre).length ≤ 1 := by unfold heads; split <;> simp
        simp at hz2; omega
      refine Ev.pos hlen ?_
      have e2 : (heads pre ++ (init ++ [n])).map mk = (heads pre ++ init).map mk ++ [mk n] := by simp
      rw [e2]
      exact Ev.now _

/-- epSame. -/
theorem same_l0 (a b : List L) (hl : a.length = b.length) (hz : a.length ≤ 140737488351232) : ∀ (d i : Nat), i + d = a.length →
    Ev (fun k => laws_epSame.l0 k (a.map mk) (b.map mk) (a.length : Int) i) (a.drop i == b.drop i) := by
  intro d
  induction d with
  | zero =>
    intro i hi
    rw [List.drop_eq_nil_of_le (by omega), List.drop_eq_nil_of_le (by omega)]
    exact Ev.step (fun k => by simp only [laws_epSame.l0]; rw [if_neg (by omega)]) (Ev.now true)
  | succ d ih =>
    intro i hi
    have h1 : i < a.length := by omega
    have h2 : i < b.length := by omega
    rw [List.drop_eq_getElem_cons h1, List.drop_eq_getElem_cons h2]
    by_cases h : a[i] = b[i]
    · rw [h, show (b[i] :: a.drop (i + 1) == b[i] :: b.drop (i + 1)) = (a.drop (i + 1) == b.drop (i + 1)) by rw [List.cons_beq_cons, beq_self_eq_true, Bool.true_and]]
      exact Ev.step (fun k => by
        simp only [laws_epSame.l0]
        rw [if_pos (by omega), if_pos (by omega), if_pos (by rw [List.length_map]; omega), if_pos (by rw [List.length_map]; omega), rd_mk, rd_mk, Int.toNat_natCast, getD_of a [] h1, getD_of b [] h2, mk_toList, mk_toList, if_pos h, wrap_id (by omega) (by omega)]
        rfl) (ih (i + 1) (by omega))
    · rw [show (a[i] :: a.drop (i + 1) == b[i] :: b.drop (i + 1)) = false by rw [List.cons_beq_cons, show (a[i] == b[i]) = false by simpa using h, Bool.false_and]]
      exact Ev.step (fun k => by
        simp only [laws_epSame.l0]
        rw [if_pos (by omega), if_pos (by omega), if_pos (by rw [List.length_map]; omega), if_pos (by rw [List.length_map]; omega), rd_mk, rd_mk, Int.toNat_natCast, getD_of a [] h1, getD_of b [] h2, mk_toList, mk_toList, if_neg h]) (Ev.now false)
theorem same_ev (a b : List L) (hz : a.length ≤ 140737488351232) : Ev (fun k => laws_epSame.f k (a.map mk) (b.map mk)) (a == b) := by
  unfold laws_epSame.f
  by_cases h : a.length = b.length
  · refine Ev.pos (by simp [h]) ?_
    have := same_l0 a b h hz a.length 0 (by omega)
    simp only [List.drop_zero] at this
    refine Ev.congr (fun k => ?_) this
    rw [List.length_map]; rfl
  · rw [show (a == b) = false by simpa using fun e => h (by rw [e])]
    exact Ev.neg (by simp; omega) (Ev.now false)
end Go.Proofs.Ytllmmnhgchidkaa.Hand

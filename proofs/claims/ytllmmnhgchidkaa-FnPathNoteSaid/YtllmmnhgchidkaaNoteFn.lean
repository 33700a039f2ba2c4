/- The law FnPathNote, walked. -/
import Derived.Test.YtllmmnhgchidkaaNoteLaw
namespace Go.Proofs.Ytllmmnhgchidkaa.Hand
open Go.RowKit Go.Proofs.YtllmmnhgchidkaaW.PrintWords Go.Proofs.YtllmmnhgchidkaaW.PrintLast Go.Proofs.YtllmmnhgchidkaaW.PrintMore Go.Proofs.Ytllmmnhgchidkaa.Base
set_option linter.unusedVariables false
set_option linter.unusedSimpArgs false
set_option maxRecDepth 100000
set_option maxHeartbeats 16000000 in
theorem FnPathNote_calls (d : ByteArray) (hd : d.size ≤ 140737488351232) (n : ByteArray) (hn : n.size ≤ 140737488351232) (k : ByteArray) (hk : k.size ≤ 140737488351232) (m : ByteArray) (hm : m.size ≤ 140737488351232) (w : World) :
    Calls Try.prog 9 #[.string d, .string n, .string k, .string m] w fun e w' => e = .returned (.bool true) ∧ Below w.heap.size w w' := by
  have HB := Aside0.mk (Below.refl w.heap.size w)
  by_cases gd : 2147483647 < d.size
  · go_enter Try.func9, Try.ntmps9
    go_wp2
    go_ret
    exact ⟨by first | rfl | simp, (by repeat (first | (with_reducible first | exact HB.out | apply below_alloc | apply pw_below_drewN | apply below_drew1) | exact HB.out))⟩
  by_cases gn : 2147483647 < n.size
  · go_enter Try.func9, Try.ntmps9
    go_wp2
    go_ret
    exact ⟨by first | rfl | simp, (by repeat (first | (with_reducible first | exact HB.out | apply below_alloc | apply pw_below_drewN | apply below_drew1) | exact HB.out))⟩
  by_cases gk : 2147483647 < k.size
  · go_enter Try.func9, Try.ntmps9
    go_wp2
    go_ret
    exact ⟨by first | rfl | simp, (by repeat (first | (with_reducible first | exact HB.out | apply below_alloc | apply pw_below_drewN | apply below_drew1) | exact HB.out))⟩
  by_cases gm : 2147483647 < m.size
  · go_enter Try.func9, Try.ntmps9
    go_wp2
    go_ret
    exact ⟨by first | rfl | simp, (by repeat (first | (with_reducible first | exact HB.out | apply below_alloc | apply pw_below_drewN | apply below_drew1) | exact HB.out))⟩
  have gd2 : d.size ≤ 2147483647 := by omega
  have gn2 : n.size ≤ 2147483647 := by omega
  have gk2 : k.size ≤ 2147483647 := by omega
  have gm2 : m.size ≤ 2147483647 := by omega
  have hdw : ∀ w, Calls Try.prog 30 #[.string d] w fun e w' => e = .returned (.bool (word d.data.toList)) ∧ Drawn0 w w' := fun w => foWord_calls d gd2 w
  have hnw : ∀ w, Calls Try.prog 30 #[.string n] w fun e w' => e = .returned (.bool (word n.data.toList)) ∧ Drawn0 w w' := fun w => foWord_calls n gn2 w
  have hkw : ∀ w, Calls Try.prog 30 #[.string k] w fun e w' => e = .returned (.bool (word k.data.toList)) ∧ Drawn0 w w' := fun w => foWord_calls k gk2 w
  have hmw : ∀ w, Calls Try.prog 30 #[.string m] w fun e w' => e = .returned (.bool (word m.data.toList)) ∧ Drawn0 w w' := fun w => foWord_calls m gm2 w
  by_cases ed : d.data.toList = []
  · have td : (d.toList == ([] : List UInt8)) = true := by rw [toList_eq]; simpa using ed
    by_cases en : n.data.toList = []
    · have tn : (n.toList == ([] : List UInt8)) = true := by rw [toList_eq]; simpa using en
      by_cases W_k : word k.data.toList = true
      · have Hk := Aside0.mk hkw
        rw [W_k] at Hk
        by_cases W_m : word m.data.toList = true
        · have Hm := Aside0.mk hmw
          rw [W_m] at Hm
          have hD : d.data.toList = [] ∨ word d.data.toList = true := .inl ed
          have hN : n.data.toList = [] ∨ word n.data.toList = true := .inl en
          have hj := note_join hD hN W_k W_m
          have zd : d.size ≤ 20 := by rw [Lib.size_eq, ed]; simp
          have zn : n.size ≤ 20 := by rw [Lib.size_eq, en]; simp
          have zk : k.size ≤ 20 := by rw [Lib.size_eq]; exact (word_parts W_k).2.2
          have zm : m.size ≤ 20 := by rw [Lib.size_eq]; exact (word_parts W_m).2.2
          have HP := Aside0.mk (fun w => PathValue_calls d ⟨#[118, 49]⟩ k m n zd zk zm zn w)
          have HF := Aside0.mk (fun w => foPath_calls d n k m zd zk zm zn w)
          rw [hj] at HP
          obtain ⟨so, hso⟩ : ∃ so, mk (notePath d.data.toList n.data.toList k.data.toList m.data.toList) = so := ⟨_, rfl⟩
          rw [hso] at HP HF
          have tS : (so.toList == so.toList) = true := by simp
          clear hj hso hD hN zd zn zk zm
          go_enter Try.func9, Try.ntmps9
          go_wp2_with (first | ((with_reducible refine (Hk.out _).mono ?_); rintro e w' ⟨rfl, ⟨nd, rfl⟩⟩) | ((with_reducible refine (Hm.out _).mono ?_); rintro e w' ⟨rfl, ⟨nd, rfl⟩⟩) | ((with_reducible refine (HP.out _).mono ?_); rintro e w' ⟨rfl, hb⟩; have nb_ := Aside0.mk (below_step (by repeat (first | (with_reducible first | exact HB.out | apply below_alloc | apply pw_below_drewN | apply below_drew1) | exact HB.out)) hb); clear HB; have HB := nb_; clear nb_; (try clear hb)) | ((with_reducible refine (HF.out _).mono ?_); rintro e w' ⟨rfl, hb⟩; have nb_ := Aside0.mk (below_step (by repeat (first | (with_reducible first | exact HB.out | apply below_alloc | apply pw_below_drewN | apply below_drew1) | exact HB.out)) hb); clear HB; have HB := nb_; clear nb_; (try clear hb)))
          go_ret
          exact ⟨by first | rfl | simp, (by repeat (first | (with_reducible first | exact HB.out | apply below_alloc | apply pw_below_drewN | apply below_drew1) | exact HB.out))⟩
        · have Hm := Aside0.mk hmw
          rw [Bool.eq_false_iff.2 W_m] at Hm
          go_enter Try.func9, Try.ntmps9
          go_wp2_with (first | ((with_reducible refine (Hk.out _).mono ?_); rintro e w' ⟨rfl, ⟨nd, rfl⟩⟩) | ((with_reducible refine (Hm.out _).mono ?_); rintro e w' ⟨rfl, ⟨nd, rfl⟩⟩))
          go_ret
          exact ⟨by first | rfl | simp, (by repeat (first | (with_reducible first | exact HB.out | apply below_alloc | apply pw_below_drewN | apply below_drew1) | exact HB.out))⟩
      · have Hk := Aside0.mk hkw
        rw [Bool.eq_false_iff.2 W_k] at Hk
        go_enter Try.func9, Try.ntmps9
        go_wp2_with (first | ((with_reducible refine (Hk.out _).mono ?_); rintro e w' ⟨rfl, ⟨nd, rfl⟩⟩))
        go_ret
        exact ⟨by first | rfl | simp, (by repeat (first | (with_reducible first | exact HB.out | apply below_alloc | apply pw_below_drewN | apply below_drew1) | exact HB.out))⟩
    have tn : (n.toList == ([] : List UInt8)) = false := by rw [toList_eq]; simpa using en
    by_cases W_n : word n.data.toList = true
    · have Hn := Aside0.mk hnw
      rw [W_n] at Hn
      by_cases W_k : word k.data.toList = true
      · have Hk := Aside0.mk hkw
        rw [W_k] at Hk
        by_cases W_m : word m.data.toList = true
        · have Hm := Aside0.mk hmw
          rw [W_m] at Hm
          have hD : d.data.toList = [] ∨ word d.data.toList = true := .inl ed
          have hN : n.data.toList = [] ∨ word n.data.toList = true := .inr W_n
          have hj := note_join hD hN W_k W_m
          have zd : d.size ≤ 20 := by rw [Lib.size_eq, ed]; simp
          have zn : n.size ≤ 20 := by rw [Lib.size_eq]; exact (word_parts W_n).2.2
          have zk : k.size ≤ 20 := by rw [Lib.size_eq]; exact (word_parts W_k).2.2
          have zm : m.size ≤ 20 := by rw [Lib.size_eq]; exact (word_parts W_m).2.2
          have HP := Aside0.mk (fun w => PathValue_calls d ⟨#[118, 49]⟩ k m n zd zk zm zn w)
          have HF := Aside0.mk (fun w => foPath_calls d n k m zd zk zm zn w)
          rw [hj] at HP
          obtain ⟨so, hso⟩ : ∃ so, mk (notePath d.data.toList n.data.toList k.data.toList m.data.toList) = so := ⟨_, rfl⟩
          rw [hso] at HP HF
          have tS : (so.toList == so.toList) = true := by simp
          clear hj hso hD hN zd zn zk zm
          go_enter Try.func9, Try.ntmps9
          go_wp2_with (first | ((with_reducible refine (Hn.out _).mono ?_); rintro e w' ⟨rfl, ⟨nd, rfl⟩⟩) | ((with_reducible refine (Hk.out _).mono ?_); rintro e w' ⟨rfl, ⟨nd, rfl⟩⟩) | ((with_reducible refine (Hm.out _).mono ?_); rintro e w' ⟨rfl, ⟨nd, rfl⟩⟩) | ((with_reducible refine (HP.out _).mono ?_); rintro e w' ⟨rfl, hb⟩; have nb_ := Aside0.mk (below_step (by repeat (first | (with_reducible first | exact HB.out | apply below_alloc | apply pw_below_drewN | apply below_drew1) | exact HB.out)) hb); clear HB; have HB := nb_; clear nb_; (try clear hb)) | ((with_reducible refine (HF.out _).mono ?_); rintro e w' ⟨rfl, hb⟩; have nb_ := Aside0.mk (below_step (by repeat (first | (with_reducible first | exact HB.out | apply below_alloc | apply pw_below_drewN | apply below_drew1) | exact HB.out)) hb); clear HB; have HB := nb_; clear nb_; (try clear hb)))
          go_ret
          exact ⟨by first | rfl | simp, (by repeat (first | (with_reducible first | exact HB.out | apply below_alloc | apply pw_below_drewN | apply below_drew1) | exact HB.out))⟩
        · have Hm := Aside0.mk hmw
          rw [Bool.eq_false_iff.2 W_m] at Hm
          go_enter Try.func9, Try.ntmps9
          go_wp2_with (first | ((with_reducible refine (Hn.out _).mono ?_); rintro e w' ⟨rfl, ⟨nd, rfl⟩⟩) | ((with_reducible refine (Hk.out _).mono ?_); rintro e w' ⟨rfl, ⟨nd, rfl⟩⟩) | ((with_reducible refine (Hm.out _).mono ?_); rintro e w' ⟨rfl, ⟨nd, rfl⟩⟩))
          go_ret
          exact ⟨by first | rfl | simp, (by repeat (first | (with_reducible first | exact HB.out | apply below_alloc | apply pw_below_drewN | apply below_drew1) | exact HB.out))⟩
      · have Hk := Aside0.mk hkw
        rw [Bool.eq_false_iff.2 W_k] at Hk
        go_enter Try.func9, Try.ntmps9
        go_wp2_with (first | ((with_reducible refine (Hn.out _).mono ?_); rintro e w' ⟨rfl, ⟨nd, rfl⟩⟩) | ((with_reducible refine (Hk.out _).mono ?_); rintro e w' ⟨rfl, ⟨nd, rfl⟩⟩))
        go_ret
        exact ⟨by first | rfl | simp, (by repeat (first | (with_reducible first | exact HB.out | apply below_alloc | apply pw_below_drewN | apply below_drew1) | exact HB.out))⟩
    · have Hn := Aside0.mk hnw
      rw [Bool.eq_false_iff.2 W_n] at Hn
      go_enter Try.func9, Try.ntmps9
      go_wp2_with (first | ((with_reducible refine (Hn.out _).mono ?_); rintro e w' ⟨rfl, ⟨nd, rfl⟩⟩))
      go_ret
      exact ⟨by first | rfl | simp, (by repeat (first | (with_reducible first | exact HB.out | apply below_alloc | apply pw_below_drewN | apply below_drew1) | exact HB.out))⟩
  have td : (d.toList == ([] : List UInt8)) = false := by rw [toList_eq]; simpa using ed
  by_cases W_d : word d.data.toList = true
  · have Hd := Aside0.mk hdw
    rw [W_d] at Hd
    by_cases en : n.data.toList = []
    · have tn : (n.toList == ([] : List UInt8)) = true := by rw [toList_eq]; simpa using en
      by_cases W_k : word k.data.toList = true
      · have Hk := Aside0.mk hkw
        rw [W_k] at Hk
        by_cases W_m : word m.data.toList = true
        · have Hm := Aside0.mk hmw
          rw [W_m] at Hm
          have hD : d.data.toList = [] ∨ word d.data.toList = true := .inr W_d
          have hN : n.data.toList = [] ∨ word n.data.toList = true := .inl en
          have hj := note_join hD hN W_k W_m
          have zd : d.size ≤ 20 := by rw [Lib.size_eq]; exact (word_parts W_d).2.2
          have zn : n.size ≤ 20 := by rw [Lib.size_eq, en]; simp
          have zk : k.size ≤ 20 := by rw [Lib.size_eq]; exact (word_parts W_k).2.2
          have zm : m.size ≤ 20 := by rw [Lib.size_eq]; exact (word_parts W_m).2.2
          have HP := Aside0.mk (fun w => PathValue_calls d ⟨#[118, 49]⟩ k m n zd zk zm zn w)
          have HF := Aside0.mk (fun w => foPath_calls d n k m zd zk zm zn w)
          rw [hj] at HP
          obtain ⟨so, hso⟩ : ∃ so, mk (notePath d.data.toList n.data.toList k.data.toList m.data.toList) = so := ⟨_, rfl⟩
          rw [hso] at HP HF
          have tS : (so.toList == so.toList) = true := by simp
          clear hj hso hD hN zd zn zk zm
          go_enter Try.func9, Try.ntmps9
          go_wp2_with (first | ((with_reducible refine (Hd.out _).mono ?_); rintro e w' ⟨rfl, ⟨nd, rfl⟩⟩) | ((with_reducible refine (Hk.out _).mono ?_); rintro e w' ⟨rfl, ⟨nd, rfl⟩⟩) | ((with_reducible refine (Hm.out _).mono ?_); rintro e w' ⟨rfl, ⟨nd, rfl⟩⟩) | ((with_reducible refine (HP.out _).mono ?_); rintro e w' ⟨rfl, hb⟩; have nb_ := Aside0.mk (below_step (by repeat (first | (with_reducible first | exact HB.out | apply below_alloc | apply pw_below_drewN | apply below_drew1) | exact HB.out)) hb); clear HB; have HB := nb_; clear nb_; (try clear hb)) | ((with_reducible refine (HF.out _).mono ?_); rintro e w' ⟨rfl, hb⟩; have nb_ := Aside0.mk (below_step (by repeat (first | (with_reducible first | exact HB.out | apply below_alloc | apply pw_below_drewN | apply below_drew1) | exact HB.out)) hb); clear HB; have HB := nb_; clear nb_; (try clear hb)))
          go_ret
          exact ⟨by first | rfl | simp, (by repeat (first | (with_reducible first | exact HB.out | apply below_alloc | apply pw_below_drewN | apply below_drew1) | exact HB.out))⟩
        · have Hm := Aside0.mk hmw
          rw [Bool.eq_false_iff.2 W_m] at Hm
          go_enter Try.func9, Try.ntmps9
          go_wp2_with (first | ((with_reducible refine (Hd.out _).mono ?_); rintro e w' ⟨rfl, ⟨nd, rfl⟩⟩) | ((with_reducible refine (Hk.out _).mono ?_); rintro e w' ⟨rfl, ⟨nd, rfl⟩⟩) | ((with_reducible refine (Hm.out _).mono ?_); rintro e w' ⟨rfl, ⟨nd, rfl⟩⟩))
          go_ret
          exact ⟨by first | rfl | simp, (by repeat (first | (with_reducible first | exact HB.out | apply below_alloc | apply pw_below_drewN | apply below_drew1) | exact HB.out))⟩
      · have Hk := Aside0.mk hkw
        rw [Bool.eq_false_iff.2 W_k] at Hk
        go_enter Try.func9, Try.ntmps9
        go_wp2_with (first | ((with_reducible refine (Hd.out _).mono ?_); rintro e w' ⟨rfl, ⟨nd, rfl⟩⟩) | ((with_reducible refine (Hk.out _).mono ?_); rintro e w' ⟨rfl, ⟨nd, rfl⟩⟩))
        go_ret
        exact ⟨by first | rfl | simp, (by repeat (first | (with_reducible first | exact HB.out | apply below_alloc | apply pw_below_drewN | apply below_drew1) | exact HB.out))⟩
    have tn : (n.toList == ([] : List UInt8)) = false := by rw [toList_eq]; simpa using en
    by_cases W_n : word n.data.toList = true
    · have Hn := Aside0.mk hnw
      rw [W_n] at Hn
      by_cases W_k : word k.data.toList = true
      · have Hk := Aside0.mk hkw
        rw [W_k] at Hk
        by_cases W_m : word m.data.toList = true
        · have Hm := Aside0.mk hmw
          rw [W_m] at Hm
          have hD : d.data.toList = [] ∨ word d.data.toList = true := .inr W_d
          have hN : n.data.toList = [] ∨ word n.data.toList = true := .inr W_n
          have hj := note_join hD hN W_k W_m
          have zd : d.size ≤ 20 := by rw [Lib.size_eq]; exact (word_parts W_d).2.2
          have zn : n.size ≤ 20 := by rw [Lib.size_eq]; exact (word_parts W_n).2.2
          have zk : k.size ≤ 20 := by rw [Lib.size_eq]; exact (word_parts W_k).2.2
          have zm : m.size ≤ 20 := by rw [Lib.size_eq]; exact (word_parts W_m).2.2
          have HP := Aside0.mk (fun w => PathValue_calls d ⟨#[118, 49]⟩ k m n zd zk zm zn w)
          have HF := Aside0.mk (fun w => foPath_calls d n k m zd zk zm zn w)
          rw [hj] at HP
          obtain ⟨so, hso⟩ : ∃ so, mk (notePath d.data.toList n.data.toList k.data.toList m.data.toList) = so := ⟨_, rfl⟩
          rw [hso] at HP HF
          have tS : (so.toList == so.toList) = true := by simp
          clear hj hso hD hN zd zn zk zm
          go_enter Try.func9, Try.ntmps9
          go_wp2_with (first | ((with_reducible refine (Hd.out _).mono ?_); rintro e w' ⟨rfl, ⟨nd, rfl⟩⟩) | ((with_reducible refine (Hn.out _).mono ?_); rintro e w' ⟨rfl, ⟨nd, rfl⟩⟩) | ((with_reducible refine (Hk.out _).mono ?_); rintro e w' ⟨rfl, ⟨nd, rfl⟩⟩) | ((with_reducible refine (Hm.out _).mono ?_); rintro e w' ⟨rfl, ⟨nd, rfl⟩⟩) | ((with_reducible refine (HP.out _).mono ?_); rintro e w' ⟨rfl, hb⟩; have nb_ := Aside0.mk (below_step (by repeat (first | (with_reducible first | exact HB.out | apply below_alloc | apply pw_below_drewN | apply below_drew1) | exact HB.out)) hb); clear HB; have HB := nb_; clear nb_; (try clear hb)) | ((with_reducible refine (HF.out _).mono ?_); rintro e w' ⟨rfl, hb⟩; have nb_ := Aside0.mk (below_step (by repeat (first | (with_reducible first | exact HB.out | apply below_alloc | apply pw_below_drewN | apply below_drew1) | exact HB.out)) hb); clear HB; have HB := nb_; clear nb_; (try clear hb)))
          go_ret
          exact ⟨by first | rfl | simp, (by repeat (first | (with_reducible first | exact HB.out | apply below_alloc | apply pw_below_drewN | apply below_drew1) | exact HB.out))⟩
        · have Hm := Aside0.mk hmw
          rw [Bool.eq_false_iff.2 W_m] at Hm
          go_enter Try.func9, Try.ntmps9
          go_wp2_with (first | ((with_reducible refine (Hd.out _).mono ?_); rintro e w' ⟨rfl, ⟨nd, rfl⟩⟩) | ((with_reducible refine (Hn.out _).mono ?_); rintro e w' ⟨rfl, ⟨nd, rfl⟩⟩) | ((with_reducible refine (Hk.out _).mono ?_); rintro e w' ⟨rfl, ⟨nd, rfl⟩⟩) | ((with_reducible refine (Hm.out _).mono ?_); rintro e w' ⟨rfl, ⟨nd, rfl⟩⟩))
          go_ret
          exact ⟨by first | rfl | simp, (by repeat (first | (with_reducible first | exact HB.out | apply below_alloc | apply pw_below_drewN | apply below_drew1) | exact HB.out))⟩
      · have Hk := Aside0.mk hkw
        rw [Bool.eq_false_iff.2 W_k] at Hk
        go_enter Try.func9, Try.ntmps9
        go_wp2_with (first | ((with_reducible refine (Hd.out _).mono ?_); rintro e w' ⟨rfl, ⟨nd, rfl⟩⟩) | ((with_reducible refine (Hn.out _).mono ?_); rintro e w' ⟨rfl, ⟨nd, rfl⟩⟩) | ((with_reducible refine (Hk.out _).mono ?_); rintro e w' ⟨rfl, ⟨nd, rfl⟩⟩))
        go_ret
        exact ⟨by first | rfl | simp, (by repeat (first | (with_reducible first | exact HB.out | apply below_alloc | apply pw_below_drewN | apply below_drew1) | exact HB.out))⟩
    · have Hn := Aside0.mk hnw
      rw [Bool.eq_false_iff.2 W_n] at Hn
      go_enter Try.func9, Try.ntmps9
      go_wp2_with (first | ((with_reducible refine (Hd.out _).mono ?_); rintro e w' ⟨rfl, ⟨nd, rfl⟩⟩) | ((with_reducible refine (Hn.out _).mono ?_); rintro e w' ⟨rfl, ⟨nd, rfl⟩⟩))
      go_ret
      exact ⟨by first | rfl | simp, (by repeat (first | (with_reducible first | exact HB.out | apply below_alloc | apply pw_below_drewN | apply below_drew1) | exact HB.out))⟩
  · have Hd := Aside0.mk hdw
    rw [Bool.eq_false_iff.2 W_d] at Hd
    go_enter Try.func9, Try.ntmps9
    go_wp2_with (first | ((with_reducible refine (Hd.out _).mono ?_); rintro e w' ⟨rfl, ⟨nd, rfl⟩⟩))
    go_ret
    exact ⟨by first | rfl | simp, (by repeat (first | (with_reducible first | exact HB.out | apply below_alloc | apply pw_below_drewN | apply below_drew1) | exact HB.out))⟩
end Go.Proofs.Ytllmmnhgchidkaa.Hand

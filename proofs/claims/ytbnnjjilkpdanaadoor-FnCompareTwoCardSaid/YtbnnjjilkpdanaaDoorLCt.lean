/- The law of two characters' order: the walk. -/
import Derived.Test.YtbnnjjilkpdanaaDoorEc
import Derived.Deep.DeepCutAuto
namespace Go.Proofs.YtbnnjjilkpdanaaDoor
open Go.RowKit
set_option linter.unusedVariables false

theorem ltU_1 {c d : Int} (h1 : 65535 < c) (h2 : d ≤ 65535) : ltU c d = decide (57344 ≤ d) := by unfold ltU; rw [if_pos ⟨h1, h2⟩]
theorem ord_neg (c d : Int) (h : c ≠ d) : decide (ordU c d < 0) = ltU c d := by unfold ordU; rw [if_neg h]; cases ltU c d <;> rfl
theorem ord_zero (c d : Int) : decide (ordU c d = 0) = decide (c = d) := by
  unfold ordU
  by_cases h : c = d
  · simp [h]
  · rw [if_neg h]; cases ltU c d <;> simp [h]
theorem ltU_self (c : Int) : ltU c c = false := by unfold ltU; rw [if_neg (by omega), if_neg (by omega)]; simp

set_option maxRecDepth 100000 in
set_option maxHeartbeats 8000000 in
theorem core (c d R : Int) (a b : ByteArray) (w : World) (c0 : ¬ c < 0) (c1 : ¬ 1114111 < c) (d0 : ¬ d < 0) (d1 : ¬ 1114111 < d) (hcs : c < 55296 ∨ 57343 < c) (hds : d < 55296 ∨ 57343 < d)
    (hA : ∀ w : World, Calls Tryd.prog 19 #[.int .i64 c] w fun e w' => e = .returned (.string a) ∧ Below w.heap.size w w')
    (hB : ∀ w : World, Calls Tryd.prog 19 #[.int .i64 d] w fun e w' => e = .returned (.string b) ∧ Below w.heap.size w w')
    (hN : ∀ w1 : World, Tabs w1 → Calls Tryd.prog 17 #[.string a, .string b] w1 fun e w' => e = .returned (.int .i64 R) ∧ Below w1.heap.size w1 w') (T0 : Tabs w)
    (hcases : R = 0 ∧ c = d ∨ R = -1 ∧ c ≠ d ∧ ltU c d = true ∨ R = 1 ∧ c ≠ d ∧ ltU c d = false) :
    Calls Tryd.prog 5 #[.int .i64 c, .int .i64 d] w fun e w' => e = .returned (.bool true) ∧ Below w.heap.size w w' := by
  have fin : ∀ {w1 w2 w3 w4 w5 w6 : World}, Below w.heap.size w w1 → Below w1.heap.size w1 w2 → Below w2.heap.size w2 w3 → Below w3.heap.size w3 w4 → Below w4.heap.size w4 w5 → Below w5.heap.size w5 w6 → Below w.heap.size w w6 :=
    fun h1 h2 h3 h4 h5 h6 => bw (bw (bw (bw (bw h1 h2) h3) h4) h5) h6
  go_enter Tryd.func5, Tryd.ntmps5
  go_upto_region 1 with fail
  go_cut [35] (fun v wx => v = .bool false ∧ wx = w)
  case first =>
    rcases hcs with hcs | hcs <;> rcases hds with hds | hds
    all_goals
      go_wp2_with fail
      go_meet
      exact ⟨congrArg Value.bool (by first | done | rfl | (simp; omega)), rfl⟩
  case rest =>
    obtain ⟨rfl, rfl⟩ := hcut
    go_upto_region 4 with fail
    go_cut [44] (fun v wx => v = .bool (decide (65535 < c ∧ d ≤ 65535)) ∧ wx = wc)
    case first =>
      by_cases k1 : 65535 < c
      · go_wp2_with fail
        go_meet
        exact ⟨congrArg Value.bool (by rw [Bool.eq_iff_iff]; simp [k1]), rfl⟩
      · have hno : ¬ (65535 < c ∧ d ≤ 65535) := fun h => k1 h.1
        go_wp2_with fail
        go_meet
        exact ⟨congrArg Value.bool (decide_eq_false (fun h => by omega)).symm, rfl⟩
    case rest =>
      obtain ⟨rfl, rfl⟩ := hcut
      go_upto_if 44 with fail
      go_cut [5] (fun v wx => v = .bool (if 65535 < c ∧ d ≤ 65535 then decide (57344 ≤ d) else decide (c < d)) ∧ wx = wc)
      case first =>
        go_wp2_with fail
        all_goals go_meet
        · rename_i h
          exact ⟨congrArg Value.bool (by rw [if_pos h]), rfl⟩
        · rename_i h
          exact ⟨congrArg Value.bool (by rw [if_neg h]), rfl⟩
      case rest =>
        obtain ⟨rfl, rfl⟩ := hcut
        generalize hL1 : (if 65535 < c ∧ d ≤ 65535 then decide (57344 ≤ d) else decide (c < d)) = L1
        go_upto_region 6 with fail
        go_cut [52] (fun v wx => v = .bool (decide (65535 < d ∧ c ≤ 65535)) ∧ wx = wc)
        case first =>
          by_cases k1 : 65535 < d
          · go_wp2_with fail
            go_meet
            exact ⟨congrArg Value.bool (by rw [Bool.eq_iff_iff]; simp [k1]), rfl⟩
          · go_wp2_with fail
            go_meet
            exact ⟨congrArg Value.bool (decide_eq_false (fun h => by omega)).symm, rfl⟩
        case rest =>
          obtain ⟨rfl, rfl⟩ := hcut
          go_upto_if 52 with fail
          go_cut [5] (fun v wx => v = .bool (if 65535 < d ∧ c ≤ 65535 then decide (c < 57344) else L1) ∧ wx = wc)
          case first =>
            go_wp2_with fail
            all_goals go_meet
            · rename_i h
              exact ⟨congrArg Value.bool (by rw [if_pos h]), rfl⟩
            · rename_i h
              exact ⟨congrArg Value.bool (by rw [if_neg h]), rfl⟩
          case rest =>
            obtain ⟨rfl, rfl⟩ := hcut
            have hL : (if 65535 < d ∧ c ≤ 65535 then decide (c < 57344) else L1) = ltU c d := by
              rw [← hL1]
              unfold ltU
              by_cases h1 : 65535 < c ∧ d ≤ 65535
              · rw [if_pos h1, if_pos h1, if_neg (by omega)]
              · rw [if_neg h1, if_neg h1]
            rw [hL]
            clear hL hL1
            rcases hcases with ⟨rfl, rfl⟩ | ⟨rfl, hne, hl⟩ | ⟨rfl, hne, hl⟩
            · rw [ltU_self]
              go_wp2_with fail
              refine (hA _).mono ?_
              rintro e w1 ⟨rfl, hb1⟩
              have T1 := T0.below hb1
              go_wp2_with fail
              refine (hB _).mono ?_
              rintro e w2 ⟨rfl, hb2⟩
              have T2 := T1.below hb2
              go_wp2_with fail
              refine (hN _ T2).mono ?_
              rintro e w3 ⟨rfl, hb3⟩
              have T3 := T2.below hb3
              go_wp2_with fail
              refine (hA _).mono ?_
              rintro e w4 ⟨rfl, hb4⟩
              have T4 := T3.below hb4
              go_wp2_with fail
              refine (hB _).mono ?_
              rintro e w5 ⟨rfl, hb5⟩
              have T5 := T4.below hb5
              go_wp2_with fail
              refine (hN _ T5).mono ?_
              rintro e w6 ⟨rfl, hb6⟩
              have T6 := T5.below hb6
              go_wp2_with fail
              all_goals go_ret
              exact ⟨by first | rfl | simp [*], fin hb1 hb2 hb3 hb4 hb5 hb6⟩
            · rw [hl]
              have hne1 : (c == d) = false := by simpa using hne
              have hne2 : decide (c = d) = false := decide_eq_false hne
              go_wp2_with fail
              refine (hA _).mono ?_
              rintro e w1 ⟨rfl, hb1⟩
              have T1 := T0.below hb1
              go_wp2_with fail
              refine (hB _).mono ?_
              rintro e w2 ⟨rfl, hb2⟩
              have T2 := T1.below hb2
              go_wp2_with fail
              refine (hN _ T2).mono ?_
              rintro e w3 ⟨rfl, hb3⟩
              have T3 := T2.below hb3
              go_wp2_with fail
              refine (hA _).mono ?_
              rintro e w4 ⟨rfl, hb4⟩
              have T4 := T3.below hb4
              go_wp2_with fail
              refine (hB _).mono ?_
              rintro e w5 ⟨rfl, hb5⟩
              have T5 := T4.below hb5
              go_wp2_with fail
              refine (hN _ T5).mono ?_
              rintro e w6 ⟨rfl, hb6⟩
              have T6 := T5.below hb6
              go_wp2_with fail
              all_goals go_ret
              exact ⟨by first | rfl | simp [*], fin hb1 hb2 hb3 hb4 hb5 hb6⟩
            · rw [hl]
              have hne1 : (c == d) = false := by simpa using hne
              have hne2 : decide (c = d) = false := decide_eq_false hne
              go_wp2_with fail
              refine (hA _).mono ?_
              rintro e w1 ⟨rfl, hb1⟩
              have T1 := T0.below hb1
              go_wp2_with fail
              refine (hB _).mono ?_
              rintro e w2 ⟨rfl, hb2⟩
              have T2 := T1.below hb2
              go_wp2_with fail
              refine (hN _ T2).mono ?_
              rintro e w3 ⟨rfl, hb3⟩
              have T3 := T2.below hb3
              go_wp2_with fail
              refine (hA _).mono ?_
              rintro e w4 ⟨rfl, hb4⟩
              have T4 := T3.below hb4
              go_wp2_with fail
              refine (hB _).mono ?_
              rintro e w5 ⟨rfl, hb5⟩
              have T5 := T4.below hb5
              go_wp2_with fail
              refine (hN _ T5).mono ?_
              rintro e w6 ⟨rfl, hb6⟩
              have T6 := T5.below hb6
              go_wp2_with fail
              all_goals go_ret
              exact ⟨by first | rfl | simp [*], fin hb1 hb2 hb3 hb4 hb5 hb6⟩

set_option maxRecDepth 100000 in
set_option maxHeartbeats 4000000 in
theorem walk_FnCompareTwo (c : Int) (wc : (Lit.int .i64 c).wf = true) (d : Int) (wd : (Lit.int .i64 d).wf = true) (w : World) (hT : TabsB w.heap.size w) :
    Calls Tryd.prog 5 #[.int .i64 c, .int .i64 d] w fun e w' => e = .returned (.bool true) ∧ Below w.heap.size w w' := by
  by_cases k0 : c < 0
  · go_enter Tryd.func5, Tryd.ntmps5
    go_wp2_with fail
    all_goals go_ret
    all_goals exact ⟨rfl, Below.refl _ _⟩
  by_cases k1 : 1114111 < c
  · go_enter Tryd.func5, Tryd.ntmps5
    go_wp2_with fail
    all_goals go_ret
    all_goals exact ⟨rfl, Below.refl _ _⟩
  by_cases k2 : d < 0
  · go_enter Tryd.func5, Tryd.ntmps5
    go_wp2_with fail
    all_goals go_ret
    all_goals exact ⟨rfl, Below.refl _ _⟩
  by_cases k3 : 1114111 < d
  · go_enter Tryd.func5, Tryd.ntmps5
    go_wp2_with fail
    all_goals go_ret
    all_goals exact ⟨rfl, Below.refl _ _⟩
  by_cases k5 : 55296 ≤ c ∧ c ≤ 57343
  · obtain ⟨k5, k6⟩ := k5
    go_enter Tryd.func5, Tryd.ntmps5
    go_wp2_with fail
    all_goals go_ret
    all_goals exact ⟨rfl, Below.refl _ _⟩
  by_cases k7 : 55296 ≤ d ∧ d ≤ 57343
  · obtain ⟨k7, k8⟩ := k7
    by_cases k9 : 55296 ≤ c
    · have k10 : 57343 < c := by omega
      go_enter Tryd.func5, Tryd.ntmps5
      go_wp2_with fail
      all_goals go_ret
      all_goals exact ⟨rfl, Below.refl _ _⟩
    · skip
      go_enter Tryd.func5, Tryd.ntmps5
      go_wp2_with fail
      all_goals go_ret
      all_goals exact ⟨rfl, Below.refl _ _⟩
  have hc : Chr c := ⟨by omega, by omega, k5⟩
  have hd : Chr d := ⟨by omega, by omega, k7⟩
  obtain ⟨a, A, hA⟩ := encoded_any hc
  obtain ⟨b, B, hB⟩ := encoded_any hd
  have hcmp := cmp_chars hc hd A B
  have hal : a.size ≤ maxLen := by have := A.le; unfold maxLen; omega
  have hbl : b.size ≤ maxLen := by have := B.le; unfold maxLen; omega
  have hord : ordU c d = 0 ∧ c = d ∨ ordU c d = -1 ∧ c ≠ d ∧ ltU c d = true ∨ ordU c d = 1 ∧ c ≠ d ∧ ltU c d = false := by
    unfold ordU
    by_cases h : c = d
    · exact Or.inl ⟨if_pos h, h⟩
    · rw [if_neg h]
      cases ltU c d
      · exact Or.inr (Or.inr ⟨rfl, h, rfl⟩)
      · exact Or.inr (Or.inl ⟨rfl, h, rfl⟩)
  obtain ⟨R, hR⟩ : ∃ R, ordU c d = R := ⟨_, rfl⟩
  rw [hR] at hcmp hord
  have hN : ∀ w1 : World, Tabs w1 → Calls Tryd.prog 17 #[.string a, .string b] w1 fun e w' => e = .returned (.int .i64 R) ∧ Below w1.heap.size w1 w' := fun w1 h => by
    have := names_any a b w1 hal hbl h
    rw [hcmp] at this
    exact this
  have T0 := hT.1
  clear A B hcmp hal hbl hT wc wd hR hc hd
  have hcs : c < 55296 ∨ 57343 < c := by omega
  have hds : d < 55296 ∨ 57343 < d := by omega
  clear k5 k7
  exact core c d R a b w (by omega) (by omega) (by omega) (by omega) hcs hds hA hB hN T0 hord
end Go.Proofs.YtbnnjjilkpdanaaDoor

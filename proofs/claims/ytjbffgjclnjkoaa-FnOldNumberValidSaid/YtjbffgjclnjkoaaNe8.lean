/- number8, every8: the law's own look at a number's text. -/
import Derived.Test.YtjbffgjclnjkoaaNz
import Derived.Test.YtjbffgjclnjkoaaSw
namespace Go.Proofs.Ytjbffgjclnjkoaa
set_option linter.unusedVariables false
set_option linter.unusedSimpArgs false
open Go.RowKit Go.Shelf

set_option maxRecDepth 100000 in
set_option maxHeartbeats 4000000 in
theorem number8_any (s : ByteArray) (hs : s.size ≤ 9000) (w : World) : Calls Try.prog 12 #[.string s] w fun e w' => e = .returned (.bool (numF 0 (bl s))) ∧ w' = w := by
  obtain ⟨R, hR⟩ : ∃ R, numF 0 (bl s) = R := ⟨_, rfl⟩
  rw [hR]
  have hsI : (s.size : Int) ≤ 9000 := by omega
  have A0 : Aside (numF 0 ((bl s).drop 0) = R) := hR
  clear hR
  go_enter Try.func12, Try.ntmps12
  go_wp2_with fail
  go_loopg [3, 9] s.size (fun g st i wr => ∃ (k n : Nat), st = .int .i64 n ∧ i = .int .i64 k ∧ k ≤ s.size ∧ s.size - k ≤ g ∧ n ≤ 8 ∧ wr = w ∧ Aside (numF n ((bl s).drop k) = R))
  case atStart => exact ⟨0, 0, rfl, rfl, Nat.zero_le _, by omega, by omega, rfl, A0⟩
  case round =>
    clear A0
    obtain ⟨k, n, rfl, rfl, hk, hg, hn, rfl, A⟩ := hrel
    have hn9 : n = 0 ∨ n = 1 ∨ n = 2 ∨ n = 3 ∨ n = 4 ∨ n = 5 ∨ n = 6 ∨ n = 7 ∨ n = 8 := by omega
    by_cases hlt : k < s.size
    case neg =>
      obtain rfl : k = s.size := by omega
      unfold Aside at A
      rw [List.drop_of_length_le (by rw [bl_len]; exact Nat.le_refl _)] at A
      rcases hn9 with rfl | rfl | rfl | rfl | rfl | rfl | rfl | rfl | rfl
      all_goals subst A
      all_goals go_wp2_with fail
      all_goals go_ret
      all_goals exact ⟨rfl, rfl⟩
    have hkI : (k : Int) < (s.size : Int) := by omega
    unfold Aside at A
    rw [bl_drop hlt] at A
    go_upto_region 6 with fail
    generalize (s[k].toNat : Int) = c at A ⊢
    have hcl : c = 45 ∨ c = 48 ∨ c = 46 ∨ c = 101 ∨ c = 69 ∨ c = 43 ∨ (49 ≤ c ∧ c ≤ 57) ∨ (c < 48 ∧ c ≠ 45 ∧ c ≠ 46 ∧ c ≠ 43) ∨ (57 < c ∧ c ≠ 101 ∧ c ≠ 69) := by omega
    clear hn
    rcases hn9 with rfl | rfl | rfl | rfl | rfl | rfl | rfl | rfl | rfl
    · rcases hcl with rfl | rfl | rfl | rfl | rfl | rfl | ⟨h1, h2⟩ | ⟨h1, h2, h3, h4⟩ | ⟨h1, h2, h3⟩
      · as_aux_lemma =>
        have hS : numS 0 45 = some 1 := by decide
        have A2 : Aside (numF 1 ((bl s).drop (k + 1)) = R) := by rw [numF, hS] at A; exact A
        clear A
        go_wp2_with fail
        go_roundg (gk - 1)
        case measure => omega
        case rel => exact ⟨k + 1, 1, rfl, by go_num, by omega, by omega, by omega, rfl, A2⟩
      · as_aux_lemma =>
        have hS : numS 0 48 = some 2 := by decide
        have A2 : Aside (numF 2 ((bl s).drop (k + 1)) = R) := by rw [numF, hS] at A; exact A
        clear A
        go_wp2_with fail
        go_roundg (gk - 1)
        case measure => omega
        case rel => exact ⟨k + 1, 2, rfl, by go_num, by omega, by omega, by omega, rfl, A2⟩
      · as_aux_lemma =>
        have hS : numS 0 46 = none := by decide
        obtain rfl : false = R := by rw [← A, numF, hS]
        clear A
        go_wp2_with fail
        all_goals go_ret
        exact ⟨rfl, rfl⟩
      · as_aux_lemma =>
        have hS : numS 0 101 = none := by decide
        obtain rfl : false = R := by rw [← A, numF, hS]
        clear A
        go_wp2_with fail
        all_goals go_ret
        exact ⟨rfl, rfl⟩
      · as_aux_lemma =>
        have hS : numS 0 69 = none := by decide
        obtain rfl : false = R := by rw [← A, numF, hS]
        clear A
        go_wp2_with fail
        all_goals go_ret
        exact ⟨rfl, rfl⟩
      · as_aux_lemma =>
        have hS : numS 0 43 = none := by decide
        obtain rfl : false = R := by rw [← A, numF, hS]
        clear A
        go_wp2_with fail
        all_goals go_ret
        exact ⟨rfl, rfl⟩
      · as_aux_lemma =>
        have hd : digB c = true := by unfold digB; simp; omega
        have g0 : 48 ≤ c := by omega
        have g1 : (c == 45) = false := by simp; omega
        have g2 : (c == 48) = false := by simp; omega
        have g3 : (c == 46) = false := by simp; omega
        have g4 : (c == 101) = false := by simp; omega
        have g5 : (c == 69) = false := by simp; omega
        have g6 : (c == 43) = false := by simp; omega
        have hS : numS 0 c = some 3 := by simp at g1 g2 g3 g4 g5 g6; simp [numS, hd, g1, g2, g3, g4, g5, g6]
        clear hd h1
        have A2 : Aside (numF 3 ((bl s).drop (k + 1)) = R) := by rw [numF, hS] at A; exact A
        clear A
        go_wp2_with fail
        go_roundg (gk - 1)
        case measure => omega
        case rel => exact ⟨k + 1, 3, rfl, by go_num, by omega, by omega, by omega, rfl, A2⟩
      · as_aux_lemma =>
        have hd : digB c = false := by unfold digB; simp; omega
        have g1 : (c == 45) = false := by simpa using h2
        have g2 : (c == 48) = false := by simp; omega
        have g3 : (c == 46) = false := by simpa using h3
        have g4 : (c == 101) = false := by simp; omega
        have g5 : (c == 69) = false := by simp; omega
        have g6 : (c == 43) = false := by simpa using h4
        have g7 : decide (48 ≤ c) = false := by simp; omega
        have hS : numS 0 c = none := by simp at g1 g2 g3 g4 g5 g6; simp [numS, hd, g1, g2, g3, g4, g5, g6]
        clear hd h1 h2 h3 h4
        obtain rfl : false = R := by rw [← A, numF, hS]
        clear A
        go_wp2_with fail
        all_goals go_ret
        exact ⟨rfl, rfl⟩
      · as_aux_lemma =>
        have hd : digB c = false := by unfold digB; simp; omega
        have g1 : (c == 45) = false := by simp; omega
        have g2 : (c == 48) = false := by simp; omega
        have g3 : (c == 46) = false := by simp; omega
        have g4 : (c == 101) = false := by simpa using h2
        have g5 : (c == 69) = false := by simpa using h3
        have g6 : (c == 43) = false := by simp; omega
        have g7 : 48 ≤ c := by omega
        have g8 : decide (c ≤ 57) = false := by simp; omega
        have hS : numS 0 c = none := by simp at g1 g2 g3 g4 g5 g6; simp [numS, hd, g1, g2, g3, g4, g5, g6]
        clear hd h1 h2 h3
        obtain rfl : false = R := by rw [← A, numF, hS]
        clear A
        go_wp2_with fail
        all_goals go_ret
        exact ⟨rfl, rfl⟩
    · rcases hcl with rfl | rfl | rfl | rfl | rfl | rfl | ⟨h1, h2⟩ | ⟨h1, h2, h3, h4⟩ | ⟨h1, h2, h3⟩
      · as_aux_lemma =>
        have hS : numS 1 45 = none := by decide
        obtain rfl : false = R := by rw [← A, numF, hS]
        clear A
        go_wp2_with fail
        all_goals go_ret
        exact ⟨rfl, rfl⟩
      · as_aux_lemma =>
        have hS : numS 1 48 = some 2 := by decide
        have A2 : Aside (numF 2 ((bl s).drop (k + 1)) = R) := by rw [numF, hS] at A; exact A
        clear A
        go_wp2_with fail
        go_roundg (gk - 1)
        case measure => omega
        case rel => exact ⟨k + 1, 2, rfl, by go_num, by omega, by omega, by omega, rfl, A2⟩
      · as_aux_lemma =>
        have hS : numS 1 46 = none := by decide
        obtain rfl : false = R := by rw [← A, numF, hS]
        clear A
        go_wp2_with fail
        all_goals go_ret
        exact ⟨rfl, rfl⟩
      · as_aux_lemma =>
        have hS : numS 1 101 = none := by decide
        obtain rfl : false = R := by rw [← A, numF, hS]
        clear A
        go_wp2_with fail
        all_goals go_ret
        exact ⟨rfl, rfl⟩
      · as_aux_lemma =>
        have hS : numS 1 69 = none := by decide
        obtain rfl : false = R := by rw [← A, numF, hS]
        clear A
        go_wp2_with fail
        all_goals go_ret
        exact ⟨rfl, rfl⟩
      · as_aux_lemma =>
        have hS : numS 1 43 = none := by decide
        obtain rfl : false = R := by rw [← A, numF, hS]
        clear A
        go_wp2_with fail
        all_goals go_ret
        exact ⟨rfl, rfl⟩
      · as_aux_lemma =>
        have hd : digB c = true := by unfold digB; simp; omega
        have g0 : 48 ≤ c := by omega
        have g1 : (c == 45) = false := by simp; omega
        have g2 : (c == 48) = false := by simp; omega
        have g3 : (c == 46) = false := by simp; omega
        have g4 : (c == 101) = false := by simp; omega
        have g5 : (c == 69) = false := by simp; omega
        have g6 : (c == 43) = false := by simp; omega
        have hS : numS 1 c = some 3 := by simp at g1 g2 g3 g4 g5 g6; simp [numS, hd, g1, g2, g3, g4, g5, g6]
        clear hd h1
        have A2 : Aside (numF 3 ((bl s).drop (k + 1)) = R) := by rw [numF, hS] at A; exact A
        clear A
        go_wp2_with fail
        go_roundg (gk - 1)
        case measure => omega
        case rel => exact ⟨k + 1, 3, rfl, by go_num, by omega, by omega, by omega, rfl, A2⟩
      · as_aux_lemma =>
        have hd : digB c = false := by unfold digB; simp; omega
        have g1 : (c == 45) = false := by simpa using h2
        have g2 : (c == 48) = false := by simp; omega
        have g3 : (c == 46) = false := by simpa using h3
        have g4 : (c == 101) = false := by simp; omega
        have g5 : (c == 69) = false := by simp; omega
        have g6 : (c == 43) = false := by simpa using h4
        have g7 : decide (48 ≤ c) = false := by simp; omega
        have hS : numS 1 c = none := by simp at g1 g2 g3 g4 g5 g6; simp [numS, hd, g1, g2, g3, g4, g5, g6]
        clear hd h1 h2 h3 h4
        obtain rfl : false = R := by rw [← A, numF, hS]
        clear A
        go_wp2_with fail
        all_goals go_ret
        exact ⟨rfl, rfl⟩
      · as_aux_lemma =>
        have hd : digB c = false := by unfold digB; simp; omega
        have g1 : (c == 45) = false := by simp; omega
        have g2 : (c == 48) = false := by simp; omega
        have g3 : (c == 46) = false := by simp; omega
        have g4 : (c == 101) = false := by simpa using h2
        have g5 : (c == 69) = false := by simpa using h3
        have g6 : (c == 43) = false := by simp; omega
        have g7 : 48 ≤ c := by omega
        have g8 : decide (c ≤ 57) = false := by simp; omega
        have hS : numS 1 c = none := by simp at g1 g2 g3 g4 g5 g6; simp [numS, hd, g1, g2, g3, g4, g5, g6]
        clear hd h1 h2 h3
        obtain rfl : false = R := by rw [← A, numF, hS]
        clear A
        go_wp2_with fail
        all_goals go_ret
        exact ⟨rfl, rfl⟩
    · rcases hcl with rfl | rfl | rfl | rfl | rfl | rfl | ⟨h1, h2⟩ | ⟨h1, h2, h3, h4⟩ | ⟨h1, h2, h3⟩
      · as_aux_lemma =>
        have hS : numS 2 45 = none := by decide
        obtain rfl : false = R := by rw [← A, numF, hS]
        clear A
        go_wp2_with fail
        all_goals go_ret
        exact ⟨rfl, rfl⟩
      · as_aux_lemma =>
        have hS : numS 2 48 = none := by decide
        obtain rfl : false = R := by rw [← A, numF, hS]
        clear A
        go_wp2_with fail
        all_goals go_ret
        exact ⟨rfl, rfl⟩
      · as_aux_lemma =>
        have hS : numS 2 46 = some 4 := by decide
        have A2 : Aside (numF 4 ((bl s).drop (k + 1)) = R) := by rw [numF, hS] at A; exact A
        clear A
        go_wp2_with fail
        go_roundg (gk - 1)
        case measure => omega
        case rel => exact ⟨k + 1, 4, rfl, by go_num, by omega, by omega, by omega, rfl, A2⟩
      · as_aux_lemma =>
        have hS : numS 2 101 = some 6 := by decide
        have A2 : Aside (numF 6 ((bl s).drop (k + 1)) = R) := by rw [numF, hS] at A; exact A
        clear A
        go_wp2_with fail
        go_roundg (gk - 1)
        case measure => omega
        case rel => exact ⟨k + 1, 6, rfl, by go_num, by omega, by omega, by omega, rfl, A2⟩
      · as_aux_lemma =>
        have hS : numS 2 69 = some 6 := by decide
        have A2 : Aside (numF 6 ((bl s).drop (k + 1)) = R) := by rw [numF, hS] at A; exact A
        clear A
        go_wp2_with fail
        go_roundg (gk - 1)
        case measure => omega
        case rel => exact ⟨k + 1, 6, rfl, by go_num, by omega, by omega, by omega, rfl, A2⟩
      · as_aux_lemma =>
        have hS : numS 2 43 = none := by decide
        obtain rfl : false = R := by rw [← A, numF, hS]
        clear A
        go_wp2_with fail
        all_goals go_ret
        exact ⟨rfl, rfl⟩
      · as_aux_lemma =>
        have hd : digB c = true := by unfold digB; simp; omega
        have g0 : 48 ≤ c := by omega
        have g1 : (c == 45) = false := by simp; omega
        have g2 : (c == 48) = false := by simp; omega
        have g3 : (c == 46) = false := by simp; omega
        have g4 : (c == 101) = false := by simp; omega
        have g5 : (c == 69) = false := by simp; omega
        have g6 : (c == 43) = false := by simp; omega
        have hS : numS 2 c = none := by simp at g1 g2 g3 g4 g5 g6; simp [numS, hd, g1, g2, g3, g4, g5, g6]
        clear hd h1
        obtain rfl : false = R := by rw [← A, numF, hS]
        clear A
        go_wp2_with fail
        all_goals go_ret
        exact ⟨rfl, rfl⟩
      · as_aux_lemma =>
        have hd : digB c = false := by unfold digB; simp; omega
        have g1 : (c == 45) = false := by simpa using h2
        have g2 : (c == 48) = false := by simp; omega
        have g3 : (c == 46) = false := by simpa using h3
        have g4 : (c == 101) = false := by simp; omega
        have g5 : (c == 69) = false := by simp; omega
        have g6 : (c == 43) = false := by simpa using h4
        have g7 : decide (48 ≤ c) = false := by simp; omega
        have hS : numS 2 c = none := by simp at g1 g2 g3 g4 g5 g6; simp [numS, hd, g1, g2, g3, g4, g5, g6]
        clear hd h1 h2 h3 h4
        obtain rfl : false = R := by rw [← A, numF, hS]
        clear A
        go_wp2_with fail
        all_goals go_ret
        exact ⟨rfl, rfl⟩
      · as_aux_lemma =>
        have hd : digB c = false := by unfold digB; simp; omega
        have g1 : (c == 45) = false := by simp; omega
        have g2 : (c == 48) = false := by simp; omega
        have g3 : (c == 46) = false := by simp; omega
        have g4 : (c == 101) = false := by simpa using h2
        have g5 : (c == 69) = false := by simpa using h3
        have g6 : (c == 43) = false := by simp; omega
        have g7 : 48 ≤ c := by omega
        have g8 : decide (c ≤ 57) = false := by simp; omega
        have hS : numS 2 c = none := by simp at g1 g2 g3 g4 g5 g6; simp [numS, hd, g1, g2, g3, g4, g5, g6]
        clear hd h1 h2 h3
        obtain rfl : false = R := by rw [← A, numF, hS]
        clear A
        go_wp2_with fail
        all_goals go_ret
        exact ⟨rfl, rfl⟩
    · rcases hcl with rfl | rfl | rfl | rfl | rfl | rfl | ⟨h1, h2⟩ | ⟨h1, h2, h3, h4⟩ | ⟨h1, h2, h3⟩
      · as_aux_lemma =>
        have hS : numS 3 45 = none := by decide
        obtain rfl : false = R := by rw [← A, numF, hS]
        clear A
        go_wp2_with fail
        all_goals go_ret
        exact ⟨rfl, rfl⟩
      · as_aux_lemma =>
        have hS : numS 3 48 = some 3 := by decide
        have A2 : Aside (numF 3 ((bl s).drop (k + 1)) = R) := by rw [numF, hS] at A; exact A
        clear A
        go_wp2_with fail
        go_roundg (gk - 1)
        case measure => omega
        case rel => exact ⟨k + 1, 3, rfl, by go_num, by omega, by omega, by omega, rfl, A2⟩
      · as_aux_lemma =>
        have hS : numS 3 46 = some 4 := by decide
        have A2 : Aside (numF 4 ((bl s).drop (k + 1)) = R) := by rw [numF, hS] at A; exact A
        clear A
        go_wp2_with fail
        go_roundg (gk - 1)
        case measure => omega
        case rel => exact ⟨k + 1, 4, rfl, by go_num, by omega, by omega, by omega, rfl, A2⟩
      · as_aux_lemma =>
        have hS : numS 3 101 = some 6 := by decide
        have A2 : Aside (numF 6 ((bl s).drop (k + 1)) = R) := by rw [numF, hS] at A; exact A
        clear A
        go_wp2_with fail
        go_roundg (gk - 1)
        case measure => omega
        case rel => exact ⟨k + 1, 6, rfl, by go_num, by omega, by omega, by omega, rfl, A2⟩
      · as_aux_lemma =>
        have hS : numS 3 69 = some 6 := by decide
        have A2 : Aside (numF 6 ((bl s).drop (k + 1)) = R) := by rw [numF, hS] at A; exact A
        clear A
        go_wp2_with fail
        go_roundg (gk - 1)
        case measure => omega
        case rel => exact ⟨k + 1, 6, rfl, by go_num, by omega, by omega, by omega, rfl, A2⟩
      · as_aux_lemma =>
        have hS : numS 3 43 = none := by decide
        obtain rfl : false = R := by rw [← A, numF, hS]
        clear A
        go_wp2_with fail
        all_goals go_ret
        exact ⟨rfl, rfl⟩
      · as_aux_lemma =>
        have hd : digB c = true := by unfold digB; simp; omega
        have g0 : 48 ≤ c := by omega
        have g1 : (c == 45) = false := by simp; omega
        have g2 : (c == 48) = false := by simp; omega
        have g3 : (c == 46) = false := by simp; omega
        have g4 : (c == 101) = false := by simp; omega
        have g5 : (c == 69) = false := by simp; omega
        have g6 : (c == 43) = false := by simp; omega
        have hS : numS 3 c = some 3 := by simp at g1 g2 g3 g4 g5 g6; simp [numS, hd, g1, g2, g3, g4, g5, g6]
        clear hd h1
        have A2 : Aside (numF 3 ((bl s).drop (k + 1)) = R) := by rw [numF, hS] at A; exact A
        clear A
        go_wp2_with fail
        go_roundg (gk - 1)
        case measure => omega
        case rel => exact ⟨k + 1, 3, rfl, by go_num, by omega, by omega, by omega, rfl, A2⟩
      · as_aux_lemma =>
        have hd : digB c = false := by unfold digB; simp; omega
        have g1 : (c == 45) = false := by simpa using h2
        have g2 : (c == 48) = false := by simp; omega
        have g3 : (c == 46) = false := by simpa using h3
        have g4 : (c == 101) = false := by simp; omega
        have g5 : (c == 69) = false := by simp; omega
        have g6 : (c == 43) = false := by simpa using h4
        have g7 : decide (48 ≤ c) = false := by simp; omega
        have hS : numS 3 c = none := by simp at g1 g2 g3 g4 g5 g6; simp [numS, hd, g1, g2, g3, g4, g5, g6]
        clear hd h1 h2 h3 h4
        obtain rfl : false = R := by rw [← A, numF, hS]
        clear A
        go_wp2_with fail
        all_goals go_ret
        exact ⟨rfl, rfl⟩
      · as_aux_lemma =>
        have hd : digB c = false := by unfold digB; simp; omega
        have g1 : (c == 45) = false := by simp; omega
        have g2 : (c == 48) = false := by simp; omega
        have g3 : (c == 46) = false := by simp; omega
        have g4 : (c == 101) = false := by simpa using h2
        have g5 : (c == 69) = false := by simpa using h3
        have g6 : (c == 43) = false := by simp; omega
        have g7 : 48 ≤ c := by omega
        have g8 : decide (c ≤ 57) = false := by simp; omega
        have hS : numS 3 c = none := by simp at g1 g2 g3 g4 g5 g6; simp [numS, hd, g1, g2, g3, g4, g5, g6]
        clear hd h1 h2 h3
        obtain rfl : false = R := by rw [← A, numF, hS]
        clear A
        go_wp2_with fail
        all_goals go_ret
        exact ⟨rfl, rfl⟩
    · rcases hcl with rfl | rfl | rfl | rfl | rfl | rfl | ⟨h1, h2⟩ | ⟨h1, h2, h3, h4⟩ | ⟨h1, h2, h3⟩
      · as_aux_lemma =>
        have hS : numS 4 45 = none := by decide
        obtain rfl : false = R := by rw [← A, numF, hS]
        clear A
        go_wp2_with fail
        all_goals go_ret
        exact ⟨rfl, rfl⟩
      · as_aux_lemma =>
        have hS : numS 4 48 = some 5 := by decide
        have A2 : Aside (numF 5 ((bl s).drop (k + 1)) = R) := by rw [numF, hS] at A; exact A
        clear A
        go_wp2_with fail
        go_roundg (gk - 1)
        case measure => omega
        case rel => exact ⟨k + 1, 5, rfl, by go_num, by omega, by omega, by omega, rfl, A2⟩
      · as_aux_lemma =>
        have hS : numS 4 46 = none := by decide
        obtain rfl : false = R := by rw [← A, numF, hS]
        clear A
        go_wp2_with fail
        all_goals go_ret
        exact ⟨rfl, rfl⟩
      · as_aux_lemma =>
        have hS : numS 4 101 = none := by decide
        obtain rfl : false = R := by rw [← A, numF, hS]
        clear A
        go_wp2_with fail
        all_goals go_ret
        exact ⟨rfl, rfl⟩
      · as_aux_lemma =>
        have hS : numS 4 69 = none := by decide
        obtain rfl : false = R := by rw [← A, numF, hS]
        clear A
        go_wp2_with fail
        all_goals go_ret
        exact ⟨rfl, rfl⟩
      · as_aux_lemma =>
        have hS : numS 4 43 = none := by decide
        obtain rfl : false = R := by rw [← A, numF, hS]
        clear A
        go_wp2_with fail
        all_goals go_ret
        exact ⟨rfl, rfl⟩
      · as_aux_lemma =>
        have hd : digB c = true := by unfold digB; simp; omega
        have g0 : 48 ≤ c := by omega
        have g1 : (c == 45) = false := by simp; omega
        have g2 : (c == 48) = false := by simp; omega
        have g3 : (c == 46) = false := by simp; omega
        have g4 : (c == 101) = false := by simp; omega
        have g5 : (c == 69) = false := by simp; omega
        have g6 : (c == 43) = false := by simp; omega
        have hS : numS 4 c = some 5 := by simp at g1 g2 g3 g4 g5 g6; simp [numS, hd, g1, g2, g3, g4, g5, g6]
        clear hd h1
        have A2 : Aside (numF 5 ((bl s).drop (k + 1)) = R) := by rw [numF, hS] at A; exact A
        clear A
        go_wp2_with fail
        go_roundg (gk - 1)
        case measure => omega
        case rel => exact ⟨k + 1, 5, rfl, by go_num, by omega, by omega, by omega, rfl, A2⟩
      · as_aux_lemma =>
        have hd : digB c = false := by unfold digB; simp; omega
        have g1 : (c == 45) = false := by simpa using h2
        have g2 : (c == 48) = false := by simp; omega
        have g3 : (c == 46) = false := by simpa using h3
        have g4 : (c == 101) = false := by simp; omega
        have g5 : (c == 69) = false := by simp; omega
        have g6 : (c == 43) = false := by simpa using h4
        have g7 : decide (48 ≤ c) = false := by simp; omega
        have hS : numS 4 c = none := by simp at g1 g2 g3 g4 g5 g6; simp [numS, hd, g1, g2, g3, g4, g5, g6]
        clear hd h1 h2 h3 h4
        obtain rfl : false = R := by rw [← A, numF, hS]
        clear A
        go_wp2_with fail
        all_goals go_ret
        exact ⟨rfl, rfl⟩
      · as_aux_lemma =>
        have hd : digB c = false := by unfold digB; simp; omega
        have g1 : (c == 45) = false := by simp; omega
        have g2 : (c == 48) = false := by simp; omega
        have g3 : (c == 46) = false := by simp; omega
        have g4 : (c == 101) = false := by simpa using h2
        have g5 : (c == 69) = false := by simpa using h3
        have g6 : (c == 43) = false := by simp; omega
        have g7 : 48 ≤ c := by omega
        have g8 : decide (c ≤ 57) = false := by simp; omega
        have hS : numS 4 c = none := by simp at g1 g2 g3 g4 g5 g6; simp [numS, hd, g1, g2, g3, g4, g5, g6]
        clear hd h1 h2 h3
        obtain rfl : false = R := by rw [← A, numF, hS]
        clear A
        go_wp2_with fail
        all_goals go_ret
        exact ⟨rfl, rfl⟩
    · rcases hcl with rfl | rfl | rfl | rfl | rfl | rfl | ⟨h1, h2⟩ | ⟨h1, h2, h3, h4⟩ | ⟨h1, h2, h3⟩
      · as_aux_lemma =>
        have hS : numS 5 45 = none := by decide
        obtain rfl : false = R := by rw [← A, numF, hS]
        clear A
        go_wp2_with fail
        all_goals go_ret
        exact ⟨rfl, rfl⟩
      · as_aux_lemma =>
        have hS : numS 5 48 = some 5 := by decide
        have A2 : Aside (numF 5 ((bl s).drop (k + 1)) = R) := by rw [numF, hS] at A; exact A
        clear A
        go_wp2_with fail
        go_roundg (gk - 1)
        case measure => omega
        case rel => exact ⟨k + 1, 5, rfl, by go_num, by omega, by omega, by omega, rfl, A2⟩
      · as_aux_lemma =>
        have hS : numS 5 46 = none := by decide
        obtain rfl : false = R := by rw [← A, numF, hS]
        clear A
        go_wp2_with fail
        all_goals go_ret
        exact ⟨rfl, rfl⟩
      · as_aux_lemma =>
        have hS : numS 5 101 = some 6 := by decide
        have A2 : Aside (numF 6 ((bl s).drop (k + 1)) = R) := by rw [numF, hS] at A; exact A
        clear A
        go_wp2_with fail
        go_roundg (gk - 1)
        case measure => omega
        case rel => exact ⟨k + 1, 6, rfl, by go_num, by omega, by omega, by omega, rfl, A2⟩
      · as_aux_lemma =>
        have hS : numS 5 69 = some 6 := by decide
        have A2 : Aside (numF 6 ((bl s).drop (k + 1)) = R) := by rw [numF, hS] at A; exact A
        clear A
        go_wp2_with fail
        go_roundg (gk - 1)
        case measure => omega
        case rel => exact ⟨k + 1, 6, rfl, by go_num, by omega, by omega, by omega, rfl, A2⟩
      · as_aux_lemma =>
        have hS : numS 5 43 = none := by decide
        obtain rfl : false = R := by rw [← A, numF, hS]
        clear A
        go_wp2_with fail
        all_goals go_ret
        exact ⟨rfl, rfl⟩
      · as_aux_lemma =>
        have hd : digB c = true := by unfold digB; simp; omega
        have g0 : 48 ≤ c := by omega
        have g1 : (c == 45) = false := by simp; omega
        have g2 : (c == 48) = false := by simp; omega
        have g3 : (c == 46) = false := by simp; omega
        have g4 : (c == 101) = false := by simp; omega
        have g5 : (c == 69) = false := by simp; omega
        have g6 : (c == 43) = false := by simp; omega
        have hS : numS 5 c = some 5 := by simp at g1 g2 g3 g4 g5 g6; simp [numS, hd, g1, g2, g3, g4, g5, g6]
        clear hd h1
        have A2 : Aside (numF 5 ((bl s).drop (k + 1)) = R) := by rw [numF, hS] at A; exact A
        clear A
        go_wp2_with fail
        go_roundg (gk - 1)
        case measure => omega
        case rel => exact ⟨k + 1, 5, rfl, by go_num, by omega, by omega, by omega, rfl, A2⟩
      · as_aux_lemma =>
        have hd : digB c = false := by unfold digB; simp; omega
        have g1 : (c == 45) = false := by simpa using h2
        have g2 : (c == 48) = false := by simp; omega
        have g3 : (c == 46) = false := by simpa using h3
        have g4 : (c == 101) = false := by simp; omega
        have g5 : (c == 69) = false := by simp; omega
        have g6 : (c == 43) = false := by simpa using h4
        have g7 : decide (48 ≤ c) = false := by simp; omega
        have hS : numS 5 c = none := by simp at g1 g2 g3 g4 g5 g6; simp [numS, hd, g1, g2, g3, g4, g5, g6]
        clear hd h1 h2 h3 h4
        obtain rfl : false = R := by rw [← A, numF, hS]
        clear A
        go_wp2_with fail
        all_goals go_ret
        exact ⟨rfl, rfl⟩
      · as_aux_lemma =>
        have hd : digB c = false := by unfold digB; simp; omega
        have g1 : (c == 45) = false := by simp; omega
        have g2 : (c == 48) = false := by simp; omega
        have g3 : (c == 46) = false := by simp; omega
        have g4 : (c == 101) = false := by simpa using h2
        have g5 : (c == 69) = false := by simpa using h3
        have g6 : (c == 43) = false := by simp; omega
        have g7 : 48 ≤ c := by omega
        have g8 : decide (c ≤ 57) = false := by simp; omega
        have hS : numS 5 c = none := by simp at g1 g2 g3 g4 g5 g6; simp [numS, hd, g1, g2, g3, g4, g5, g6]
        clear hd h1 h2 h3
        obtain rfl : false = R := by rw [← A, numF, hS]
        clear A
        go_wp2_with fail
        all_goals go_ret
        exact ⟨rfl, rfl⟩
    · rcases hcl with rfl | rfl | rfl | rfl | rfl | rfl | ⟨h1, h2⟩ | ⟨h1, h2, h3, h4⟩ | ⟨h1, h2, h3⟩
      · as_aux_lemma =>
        have hS : numS 6 45 = some 7 := by decide
        have A2 : Aside (numF 7 ((bl s).drop (k + 1)) = R) := by rw [numF, hS] at A; exact A
        clear A
        go_wp2_with fail
        go_roundg (gk - 1)
        case measure => omega
        case rel => exact ⟨k + 1, 7, rfl, by go_num, by omega, by omega, by omega, rfl, A2⟩
      · as_aux_lemma =>
        have hS : numS 6 48 = some 8 := by decide
        have A2 : Aside (numF 8 ((bl s).drop (k + 1)) = R) := by rw [numF, hS] at A; exact A
        clear A
        go_wp2_with fail
        go_roundg (gk - 1)
        case measure => omega
        case rel => exact ⟨k + 1, 8, rfl, by go_num, by omega, by omega, by omega, rfl, A2⟩
      · as_aux_lemma =>
        have hS : numS 6 46 = none := by decide
        obtain rfl : false = R := by rw [← A, numF, hS]
        clear A
        go_wp2_with fail
        all_goals go_ret
        exact ⟨rfl, rfl⟩
      · as_aux_lemma =>
        have hS : numS 6 101 = none := by decide
        obtain rfl : false = R := by rw [← A, numF, hS]
        clear A
        go_wp2_with fail
        all_goals go_ret
        exact ⟨rfl, rfl⟩
      · as_aux_lemma =>
        have hS : numS 6 69 = none := by decide
        obtain rfl : false = R := by rw [← A, numF, hS]
        clear A
        go_wp2_with fail
        all_goals go_ret
        exact ⟨rfl, rfl⟩
      · as_aux_lemma =>
        have hS : numS 6 43 = some 7 := by decide
        have A2 : Aside (numF 7 ((bl s).drop (k + 1)) = R) := by rw [numF, hS] at A; exact A
        clear A
        go_wp2_with fail
        go_roundg (gk - 1)
        case measure => omega
        case rel => exact ⟨k + 1, 7, rfl, by go_num, by omega, by omega, by omega, rfl, A2⟩
      · as_aux_lemma =>
        have hd : digB c = true := by unfold digB; simp; omega
        have g0 : 48 ≤ c := by omega
        have g1 : (c == 45) = false := by simp; omega
        have g2 : (c == 48) = false := by simp; omega
        have g3 : (c == 46) = false := by simp; omega
        have g4 : (c == 101) = false := by simp; omega
        have g5 : (c == 69) = false := by simp; omega
        have g6 : (c == 43) = false := by simp; omega
        have hS : numS 6 c = some 8 := by simp at g1 g2 g3 g4 g5 g6; simp [numS, hd, g1, g2, g3, g4, g5, g6]
        clear hd h1
        have A2 : Aside (numF 8 ((bl s).drop (k + 1)) = R) := by rw [numF, hS] at A; exact A
        clear A
        go_wp2_with fail
        go_roundg (gk - 1)
        case measure => omega
        case rel => exact ⟨k + 1, 8, rfl, by go_num, by omega, by omega, by omega, rfl, A2⟩
      · as_aux_lemma =>
        have hd : digB c = false := by unfold digB; simp; omega
        have g1 : (c == 45) = false := by simpa using h2
        have g2 : (c == 48) = false := by simp; omega
        have g3 : (c == 46) = false := by simpa using h3
        have g4 : (c == 101) = false := by simp; omega
        have g5 : (c == 69) = false := by simp; omega
        have g6 : (c == 43) = false := by simpa using h4
        have g7 : decide (48 ≤ c) = false := by simp; omega
        have hS : numS 6 c = none := by simp at g1 g2 g3 g4 g5 g6; simp [numS, hd, g1, g2, g3, g4, g5, g6]
        clear hd h1 h2 h3 h4
        obtain rfl : false = R := by rw [← A, numF, hS]
        clear A
        go_wp2_with fail
        all_goals go_ret
        exact ⟨rfl, rfl⟩
      · as_aux_lemma =>
        have hd : digB c = false := by unfold digB; simp; omega
        have g1 : (c == 45) = false := by simp; omega
        have g2 : (c == 48) = false := by simp; omega
        have g3 : (c == 46) = false := by simp; omega
        have g4 : (c == 101) = false := by simpa using h2
        have g5 : (c == 69) = false := by simpa using h3
        have g6 : (c == 43) = false := by simp; omega
        have g7 : 48 ≤ c := by omega
        have g8 : decide (c ≤ 57) = false := by simp; omega
        have hS : numS 6 c = none := by simp at g1 g2 g3 g4 g5 g6; simp [numS, hd, g1, g2, g3, g4, g5, g6]
        clear hd h1 h2 h3
        obtain rfl : false = R := by rw [← A, numF, hS]
        clear A
        go_wp2_with fail
        all_goals go_ret
        exact ⟨rfl, rfl⟩
    · rcases hcl with rfl | rfl | rfl | rfl | rfl | rfl | ⟨h1, h2⟩ | ⟨h1, h2, h3, h4⟩ | ⟨h1, h2, h3⟩
      · as_aux_lemma =>
        have hS : numS 7 45 = none := by decide
        obtain rfl : false = R := by rw [← A, numF, hS]
        clear A
        go_wp2_with fail
        all_goals go_ret
        exact ⟨rfl, rfl⟩
      · as_aux_lemma =>
        have hS : numS 7 48 = some 8 := by decide
        have A2 : Aside (numF 8 ((bl s).drop (k + 1)) = R) := by rw [numF, hS] at A; exact A
        clear A
        go_wp2_with fail
        go_roundg (gk - 1)
        case measure => omega
        case rel => exact ⟨k + 1, 8, rfl, by go_num, by omega, by omega, by omega, rfl, A2⟩
      · as_aux_lemma =>
        have hS : numS 7 46 = none := by decide
        obtain rfl : false = R := by rw [← A, numF, hS]
        clear A
        go_wp2_with fail
        all_goals go_ret
        exact ⟨rfl, rfl⟩
      · as_aux_lemma =>
        have hS : numS 7 101 = none := by decide
        obtain rfl : false = R := by rw [← A, numF, hS]
        clear A
        go_wp2_with fail
        all_goals go_ret
        exact ⟨rfl, rfl⟩
      · as_aux_lemma =>
        have hS : numS 7 69 = none := by decide
        obtain rfl : false = R := by rw [← A, numF, hS]
        clear A
        go_wp2_with fail
        all_goals go_ret
        exact ⟨rfl, rfl⟩
      · as_aux_lemma =>
        have hS : numS 7 43 = none := by decide
        obtain rfl : false = R := by rw [← A, numF, hS]
        clear A
        go_wp2_with fail
        all_goals go_ret
        exact ⟨rfl, rfl⟩
      · as_aux_lemma =>
        have hd : digB c = true := by unfold digB; simp; omega
        have g0 : 48 ≤ c := by omega
        have g1 : (c == 45) = false := by simp; omega
        have g2 : (c == 48) = false := by simp; omega
        have g3 : (c == 46) = false := by simp; omega
        have g4 : (c == 101) = false := by simp; omega
        have g5 : (c == 69) = false := by simp; omega
        have g6 : (c == 43) = false := by simp; omega
        have hS : numS 7 c = some 8 := by simp at g1 g2 g3 g4 g5 g6; simp [numS, hd, g1, g2, g3, g4, g5, g6]
        clear hd h1
        have A2 : Aside (numF 8 ((bl s).drop (k + 1)) = R) := by rw [numF, hS] at A; exact A
        clear A
        go_wp2_with fail
        go_roundg (gk - 1)
        case measure => omega
        case rel => exact ⟨k + 1, 8, rfl, by go_num, by omega, by omega, by omega, rfl, A2⟩
      · as_aux_lemma =>
        have hd : digB c = false := by unfold digB; simp; omega
        have g1 : (c == 45) = false := by simpa using h2
        have g2 : (c == 48) = false := by simp; omega
        have g3 : (c == 46) = false := by simpa using h3
        have g4 : (c == 101) = false := by simp; omega
        have g5 : (c == 69) = false := by simp; omega
        have g6 : (c == 43) = false := by simpa using h4
        have g7 : decide (48 ≤ c) = false := by simp; omega
        have hS : numS 7 c = none := by simp at g1 g2 g3 g4 g5 g6; simp [numS, hd, g1, g2, g3, g4, g5, g6]
        clear hd h1 h2 h3 h4
        obtain rfl : false = R := by rw [← A, numF, hS]
        clear A
        go_wp2_with fail
        all_goals go_ret
        exact ⟨rfl, rfl⟩
      · as_aux_lemma =>
        have hd : digB c = false := by unfold digB; simp; omega
        have g1 : (c == 45) = false := by simp; omega
        have g2 : (c == 48) = false := by simp; omega
        have g3 : (c == 46) = false := by simp; omega
        have g4 : (c == 101) = false := by simpa using h2
        have g5 : (c == 69) = false := by simpa using h3
        have g6 : (c == 43) = false := by simp; omega
        have g7 : 48 ≤ c := by omega
        have g8 : decide (c ≤ 57) = false := by simp; omega
        have hS : numS 7 c = none := by simp at g1 g2 g3 g4 g5 g6; simp [numS, hd, g1, g2, g3, g4, g5, g6]
        clear hd h1 h2 h3
        obtain rfl : false = R := by rw [← A, numF, hS]
        clear A
        go_wp2_with fail
        all_goals go_ret
        exact ⟨rfl, rfl⟩
    · rcases hcl with rfl | rfl | rfl | rfl | rfl | rfl | ⟨h1, h2⟩ | ⟨h1, h2, h3, h4⟩ | ⟨h1, h2, h3⟩
      · as_aux_lemma =>
        have hS : numS 8 45 = none := by decide
        obtain rfl : false = R := by rw [← A, numF, hS]
        clear A
        go_wp2_with fail
        all_goals go_ret
        exact ⟨rfl, rfl⟩
      · as_aux_lemma =>
        have hS : numS 8 48 = some 8 := by decide
        have A2 : Aside (numF 8 ((bl s).drop (k + 1)) = R) := by rw [numF, hS] at A; exact A
        clear A
        go_wp2_with fail
        go_roundg (gk - 1)
        case measure => omega
        case rel => exact ⟨k + 1, 8, rfl, by go_num, by omega, by omega, by omega, rfl, A2⟩
      · as_aux_lemma =>
        have hS : numS 8 46 = none := by decide
        obtain rfl : false = R := by rw [← A, numF, hS]
        clear A
        go_wp2_with fail
        all_goals go_ret
        exact ⟨rfl, rfl⟩
      · as_aux_lemma =>
        have hS : numS 8 101 = none := by decide
        obtain rfl : false = R := by rw [← A, numF, hS]
        clear A
        go_wp2_with fail
        all_goals go_ret
        exact ⟨rfl, rfl⟩
      · as_aux_lemma =>
        have hS : numS 8 69 = none := by decide
        obtain rfl : false = R := by rw [← A, numF, hS]
        clear A
        go_wp2_with fail
        all_goals go_ret
        exact ⟨rfl, rfl⟩
      · as_aux_lemma =>
        have hS : numS 8 43 = none := by decide
        obtain rfl : false = R := by rw [← A, numF, hS]
        clear A
        go_wp2_with fail
        all_goals go_ret
        exact ⟨rfl, rfl⟩
      · as_aux_lemma =>
        have hd : digB c = true := by unfold digB; simp; omega
        have g0 : 48 ≤ c := by omega
        have g1 : (c == 45) = false := by simp; omega
        have g2 : (c == 48) = false := by simp; omega
        have g3 : (c == 46) = false := by simp; omega
        have g4 : (c == 101) = false := by simp; omega
        have g5 : (c == 69) = false := by simp; omega
        have g6 : (c == 43) = false := by simp; omega
        have hS : numS 8 c = some 8 := by simp at g1 g2 g3 g4 g5 g6; simp [numS, hd, g1, g2, g3, g4, g5, g6]
        clear hd h1
        have A2 : Aside (numF 8 ((bl s).drop (k + 1)) = R) := by rw [numF, hS] at A; exact A
        clear A
        go_wp2_with fail
        go_roundg (gk - 1)
        case measure => omega
        case rel => exact ⟨k + 1, 8, rfl, by go_num, by omega, by omega, by omega, rfl, A2⟩
      · as_aux_lemma =>
        have hd : digB c = false := by unfold digB; simp; omega
        have g1 : (c == 45) = false := by simpa using h2
        have g2 : (c == 48) = false := by simp; omega
        have g3 : (c == 46) = false := by simpa using h3
        have g4 : (c == 101) = false := by simp; omega
        have g5 : (c == 69) = false := by simp; omega
        have g6 : (c == 43) = false := by simpa using h4
        have g7 : decide (48 ≤ c) = false := by simp; omega
        have hS : numS 8 c = none := by simp at g1 g2 g3 g4 g5 g6; simp [numS, hd, g1, g2, g3, g4, g5, g6]
        clear hd h1 h2 h3 h4
        obtain rfl : false = R := by rw [← A, numF, hS]
        clear A
        go_wp2_with fail
        all_goals go_ret
        exact ⟨rfl, rfl⟩
      · as_aux_lemma =>
        have hd : digB c = false := by unfold digB; simp; omega
        have g1 : (c == 45) = false := by simp; omega
        have g2 : (c == 48) = false := by simp; omega
        have g3 : (c == 46) = false := by simp; omega
        have g4 : (c == 101) = false := by simpa using h2
        have g5 : (c == 69) = false := by simpa using h3
        have g6 : (c == 43) = false := by simp; omega
        have g7 : 48 ≤ c := by omega
        have g8 : decide (c ≤ 57) = false := by simp; omega
        have hS : numS 8 c = none := by simp at g1 g2 g3 g4 g5 g6; simp [numS, hd, g1, g2, g3, g4, g5, g6]
        clear hd h1 h2 h3
        obtain rfl : false = R := by rw [← A, numF, hS]
        clear A
        go_wp2_with fail
        all_goals go_ret
        exact ⟨rfl, rfl⟩
end Go.Proofs.Ytjbffgjclnjkoaa

/- Unquoting: the beginning of an escape; whether a character is whole; pairs of units. -/
import Derived.Test.YtokhmhbjbclcoaaDoorUs
namespace Go.Proofs.YtokhmhbjbclcoaaDoor
set_option linter.unusedVariables false
set_option linter.unusedSimpArgs false
open Go.RowKit

/-- May a byte stand at place j of an escape of a unit (of a second half, if low)? -/
def escAt (low : Bool) (j : Nat) (c : Int) : Bool :=
  if j = 0 then c == 92 else if j = 1 then c == 117
  else if 6 ≤ j then true
  else decide (0 ≤ hexV c) && (!low || (!(j == 2) || (c == 100 || c == 68)) && (!(j == 3) || (decide (99 ≤ c) && decide (c ≤ 102) || decide (67 ≤ c) && decide (c ≤ 70))))
/-- Are the first m bytes from i on the beginning of an escape? -/
def prefB (low : Bool) (s : ByteArray) (i : Nat) : Nat → Bool
  | 0 => true
  | m + 1 => prefB low s i m && escAt low m (bAt s (i + m))
theorem prefB_le {low : Bool} {s : ByteArray} {i k m : Nat} (h : prefB low s i m = true) (hk : k ≤ m) : prefB low s i k = true := by
  induction m with
  | zero => obtain rfl : k = 0 := by omega
            exact h
  | succ m ih =>
    by_cases e : k = m + 1
    · subst e; exact h
    · unfold prefB at h; rw [Bool.and_eq_true] at h; exact ih h.1 (by omega)
theorem prefB_not {low : Bool} {s : ByteArray} {i k m : Nat} (h1 : k < m) (h2 : escAt low k (bAt s (i + k)) = false) : prefB low s i m = false := by
  cases h : prefB low s i m
  · rfl
  · have := prefB_le (k := k + 1) h (by omega)
    unfold prefB at this
    rw [h2, Bool.and_false] at this
    cases this

theorem hex_yes {X : Int} (h : (48 ≤ X ∧ X ≤ 57) ∨ (65 ≤ X ∧ X ≤ 70) ∨ (97 ≤ X ∧ X ≤ 102)) : (0 ≤ hexV X) = True := by
  refine eq_true ?_
  unfold hexV
  repeat' split
  all_goals omega
theorem hex_no {X : Int} (h : X < 48 ∨ (57 < X ∧ X < 65) ∨ (70 < X ∧ X < 97) ∨ 102 < X) : (0 ≤ hexV X) = False := by
  refine eq_false ?_
  unfold hexV
  repeat' split
  all_goals omega
set_option maxRecDepth 100000 in
set_option maxHeartbeats 8000000 in
theorem hasEsc_any (s : ByteArray) (low : Bool) (b i m cap : Nat) (w : World) (hi : i + m ≤ s.size) (hs : s.size ≤ 100000000000) (hS : Lib.Bytes w b 0 s) :
    Calls Tryd.prog 61 #[.slice (some ⟨b, i, none⟩) m cap, .bool low] w fun e w' => e = .returned (.bool (prefB low s i m)) ∧ w' = w := by
  obtain ⟨R, HR⟩ : ∃ R, Hid (prefB low s i m = R) := ⟨_, Lib.hid rfl⟩
  rw [HR.out]
  go_enter Tryd.func61, Tryd.ntmps61
  go_wp2_with fail
  go_loopg [9] m (fun g n wr => ∃ (k : Nat), k ≤ m ∧ n = .int .i64 k ∧ Hid (prefB low s i k = true) ∧ wr = w ∧ m - k ≤ g)
  case atStart => exact ⟨0, Nat.zero_le _, rfl, Lib.hid rfl, rfl, by omega⟩
  case round =>
    obtain ⟨k, hk, rfl, HA, rfl, hg⟩ := hrel
    by_cases hlt : k < m
    · obtain ⟨X, hX⟩ : ∃ X, bAt s (i + k) = X := ⟨_, rfl⟩
      have hc := cellZ hS (i := i + k) (by omega) X hX
      have hx0 : 0 ≤ X := by rw [← hX]; exact bAt_nonneg _ _
      have hx1 : X ≤ 255 := by rw [← hX]; exact bAt_le _ _
      have next : escAt low k X = true → Hid (prefB low s i (k + 1) = true) := fun e => Lib.hid (by unfold prefB; rw [HA.out, hX, e]; rfl)
      have stop : escAt low k X = false → Hid (R = false) := fun e => Lib.hid (by rw [← HR.out, prefB_not hlt (by rw [hX]; exact e)])
      have hlm : (k : Int) < (m : Int) := by omega
      clear hX
      have hkl : k = 0 ∨ k = 1 ∨ k = 2 ∨ k = 3 ∨ (4 ≤ k ∧ k < 6) ∨ 6 ≤ k := by omega
      rcases hkl with rfl | rfl | rfl | rfl | hk0 | hk0
      · rw [show ((0 : Nat) : Int) = 0 from rfl] at hlm ⊢
        rw [Nat.add_zero] at hc
        have ev : escAt low 0 X = (X == 92) := by unfold escAt; simp
        by_cases x1 : X = 92
        · subst x1
          have e := next (by rw [ev]; rfl)
          clear next stop
          go_wp2_with fail
          go_roundg (gk - 1)
          case measure => omega
          case rel => exact ⟨1, by omega, by go_num, e, rfl, by omega⟩
        · have x2 : (X == 92) = false := by simpa using x1
          have e := stop (by rw [ev]; exact x2)
          clear next stop
          go_wp2_with fail
          all_goals go_ret
          exact ⟨by rw [e.out]; first | done | rfl, rfl⟩
      · rw [show ((1 : Nat) : Int) = 1 from rfl] at hlm ⊢
        have ev : escAt low 1 X = (X == 117) := by unfold escAt; simp
        by_cases x1 : X = 117
        · subst x1
          have e := next (by rw [ev]; rfl)
          clear next stop
          go_wp2_with fail
          go_roundg (gk - 1)
          case measure => omega
          case rel => exact ⟨2, by omega, by go_num, e, rfl, by omega⟩
        · have x2 : (X == 117) = false := by simpa using x1
          have e := stop (by rw [ev]; exact x2)
          clear next stop
          go_wp2_with fail
          all_goals go_ret
          exact ⟨by rw [e.out]; first | done | rfl, rfl⟩
      · rw [show ((2 : Nat) : Int) = 2 from rfl] at hlm ⊢
        have ev : escAt low 2 X = (decide (0 ≤ hexV X) && (!low || (X == 100 || X == 68))) := by unfold escAt; simp
        have hcl : X < 48 ∨ (48 ≤ X ∧ X ≤ 57) ∨ (58 ≤ X ∧ X ≤ 64) ∨ (65 ≤ X ∧ X ≤ 67) ∨ X = 68 ∨ (69 ≤ X ∧ X ≤ 70) ∨ (71 ≤ X ∧ X ≤ 96) ∨ (97 ≤ X ∧ X ≤ 99) ∨ X = 100 ∨ (101 ≤ X ∧ X ≤ 102) ∨ 102 < X := by omega
        cases low
        · rcases hcl with x1 | ⟨x1, x2⟩ | ⟨x1, x2⟩ | ⟨x1, x2⟩ | rfl | ⟨x1, x2⟩ | ⟨x1, x2⟩ | ⟨x1, x2⟩ | rfl | ⟨x1, x2⟩ | x1
          · have e := stop (by rw [ev]; simp [hex_no (X := X) (by omega)] <;> omega)
            have l48 : decide (48 ≤ X) = false := decide_eq_false (by omega)
            have l97 : decide (97 ≤ X) = false := decide_eq_false (by omega)
            have l65 : decide (65 ≤ X) = false := decide_eq_false (by omega)
            have u57 : decide (X ≤ 57) = true := decide_eq_true (by omega)
            have u102 : decide (X ≤ 102) = true := decide_eq_true (by omega)
            have u70 : decide (X ≤ 70) = true := decide_eq_true (by omega)
            have q68 : (X != 68) = true := by simp; omega
            have q100 : (X != 100) = true := by simp; omega
            clear hx0 hx1 x1
            clear next stop
            go_wp2_with fail
            all_goals go_ret
            exact ⟨by rw [e.out]; first | done | rfl, rfl⟩
          · have e := next (by rw [ev]; simp [hex_yes (X := X) (by omega)] <;> omega)
            have l48 : decide (48 ≤ X) = true := decide_eq_true (by omega)
            have l97 : decide (97 ≤ X) = false := decide_eq_false (by omega)
            have l65 : decide (65 ≤ X) = false := decide_eq_false (by omega)
            have u57 : decide (X ≤ 57) = true := decide_eq_true (by omega)
            have u102 : decide (X ≤ 102) = true := decide_eq_true (by omega)
            have u70 : decide (X ≤ 70) = true := decide_eq_true (by omega)
            have q68 : (X != 68) = true := by simp; omega
            have q100 : (X != 100) = true := by simp; omega
            clear hx0 hx1 x1 x2
            clear next stop
            go_wp2_with fail
            go_roundg (gk - 1)
            case measure => omega
            case rel => exact ⟨3, by omega, by go_num, e, rfl, by omega⟩
          · have e := stop (by rw [ev]; simp [hex_no (X := X) (by omega)] <;> omega)
            have l48 : decide (48 ≤ X) = true := decide_eq_true (by omega)
            have l97 : decide (97 ≤ X) = false := decide_eq_false (by omega)
            have l65 : decide (65 ≤ X) = false := decide_eq_false (by omega)
            have u57 : decide (X ≤ 57) = false := decide_eq_false (by omega)
            have u102 : decide (X ≤ 102) = true := decide_eq_true (by omega)
            have u70 : decide (X ≤ 70) = true := decide_eq_true (by omega)
            have q68 : (X != 68) = true := by simp; omega
            have q100 : (X != 100) = true := by simp; omega
            clear hx0 hx1 x1 x2
            clear next stop
            go_wp2_with fail
            all_goals go_ret
            exact ⟨by rw [e.out]; first | done | rfl, rfl⟩
          · have e := next (by rw [ev]; simp [hex_yes (X := X) (by omega)] <;> omega)
            have l48 : decide (48 ≤ X) = true := decide_eq_true (by omega)
            have l97 : decide (97 ≤ X) = false := decide_eq_false (by omega)
            have l65 : decide (65 ≤ X) = true := decide_eq_true (by omega)
            have u57 : decide (X ≤ 57) = false := decide_eq_false (by omega)
            have u102 : decide (X ≤ 102) = true := decide_eq_true (by omega)
            have u70 : decide (X ≤ 70) = true := decide_eq_true (by omega)
            have q68 : (X != 68) = true := by simp; omega
            have q100 : (X != 100) = true := by simp; omega
            clear hx0 hx1 x1 x2
            clear next stop
            go_wp2_with fail
            go_roundg (gk - 1)
            case measure => omega
            case rel => exact ⟨3, by omega, by go_num, e, rfl, by omega⟩
          · have e := next (by rw [ev]; simp [hex_yes (X := 68) (by omega)] <;> omega)
            clear next stop
            go_wp2_with fail
            go_roundg (gk - 1)
            case measure => omega
            case rel => exact ⟨3, by omega, by go_num, e, rfl, by omega⟩
          · have e := next (by rw [ev]; simp [hex_yes (X := X) (by omega)] <;> omega)
            have l48 : decide (48 ≤ X) = true := decide_eq_true (by omega)
            have l97 : decide (97 ≤ X) = false := decide_eq_false (by omega)
            have l65 : decide (65 ≤ X) = true := decide_eq_true (by omega)
            have u57 : decide (X ≤ 57) = false := decide_eq_false (by omega)
            have u102 : decide (X ≤ 102) = true := decide_eq_true (by omega)
            have u70 : decide (X ≤ 70) = true := decide_eq_true (by omega)
            have q68 : (X != 68) = true := by simp; omega
            have q100 : (X != 100) = true := by simp; omega
            clear hx0 hx1 x1 x2
            clear next stop
            go_wp2_with fail
            go_roundg (gk - 1)
            case measure => omega
            case rel => exact ⟨3, by omega, by go_num, e, rfl, by omega⟩
          · have e := stop (by rw [ev]; simp [hex_no (X := X) (by omega)] <;> omega)
            have l48 : decide (48 ≤ X) = true := decide_eq_true (by omega)
            have l97 : decide (97 ≤ X) = false := decide_eq_false (by omega)
            have l65 : decide (65 ≤ X) = true := decide_eq_true (by omega)
            have u57 : decide (X ≤ 57) = false := decide_eq_false (by omega)
            have u102 : decide (X ≤ 102) = true := decide_eq_true (by omega)
            have u70 : decide (X ≤ 70) = false := decide_eq_false (by omega)
            have q68 : (X != 68) = true := by simp; omega
            have q100 : (X != 100) = true := by simp; omega
            clear hx0 hx1 x1 x2
            clear next stop
            go_wp2_with fail
            all_goals go_ret
            exact ⟨by rw [e.out]; first | done | rfl, rfl⟩
          · have e := next (by rw [ev]; simp [hex_yes (X := X) (by omega)] <;> omega)
            have l48 : decide (48 ≤ X) = true := decide_eq_true (by omega)
            have l97 : decide (97 ≤ X) = true := decide_eq_true (by omega)
            have l65 : decide (65 ≤ X) = true := decide_eq_true (by omega)
            have u57 : decide (X ≤ 57) = false := decide_eq_false (by omega)
            have u102 : decide (X ≤ 102) = true := decide_eq_true (by omega)
            have u70 : decide (X ≤ 70) = false := decide_eq_false (by omega)
            have q68 : (X != 68) = true := by simp; omega
            have q100 : (X != 100) = true := by simp; omega
            clear hx0 hx1 x1 x2
            clear next stop
            go_wp2_with fail
            go_roundg (gk - 1)
            case measure => omega
            case rel => exact ⟨3, by omega, by go_num, e, rfl, by omega⟩
          · have e := next (by rw [ev]; simp [hex_yes (X := 100) (by omega)] <;> omega)
            clear next stop
            go_wp2_with fail
            go_roundg (gk - 1)
            case measure => omega
            case rel => exact ⟨3, by omega, by go_num, e, rfl, by omega⟩
          · have e := next (by rw [ev]; simp [hex_yes (X := X) (by omega)] <;> omega)
            have l48 : decide (48 ≤ X) = true := decide_eq_true (by omega)
            have l97 : decide (97 ≤ X) = true := decide_eq_true (by omega)
            have l65 : decide (65 ≤ X) = true := decide_eq_true (by omega)
            have u57 : decide (X ≤ 57) = false := decide_eq_false (by omega)
            have u102 : decide (X ≤ 102) = true := decide_eq_true (by omega)
            have u70 : decide (X ≤ 70) = false := decide_eq_false (by omega)
            have q68 : (X != 68) = true := by simp; omega
            have q100 : (X != 100) = true := by simp; omega
            clear hx0 hx1 x1 x2
            clear next stop
            go_wp2_with fail
            go_roundg (gk - 1)
            case measure => omega
            case rel => exact ⟨3, by omega, by go_num, e, rfl, by omega⟩
          · have e := stop (by rw [ev]; simp [hex_no (X := X) (by omega)] <;> omega)
            have l48 : decide (48 ≤ X) = true := decide_eq_true (by omega)
            have l97 : decide (97 ≤ X) = true := decide_eq_true (by omega)
            have l65 : decide (65 ≤ X) = true := decide_eq_true (by omega)
            have u57 : decide (X ≤ 57) = false := decide_eq_false (by omega)
            have u102 : decide (X ≤ 102) = false := decide_eq_false (by omega)
            have u70 : decide (X ≤ 70) = false := decide_eq_false (by omega)
            have q68 : (X != 68) = true := by simp; omega
            have q100 : (X != 100) = true := by simp; omega
            clear hx0 hx1 x1
            clear next stop
            go_wp2_with fail
            all_goals go_ret
            exact ⟨by rw [e.out]; first | done | rfl, rfl⟩
        · rcases hcl with x1 | ⟨x1, x2⟩ | ⟨x1, x2⟩ | ⟨x1, x2⟩ | rfl | ⟨x1, x2⟩ | ⟨x1, x2⟩ | ⟨x1, x2⟩ | rfl | ⟨x1, x2⟩ | x1
          · have e := stop (by rw [ev]; simp [hex_no (X := X) (by omega)] <;> omega)
            have l48 : decide (48 ≤ X) = false := decide_eq_false (by omega)
            have l97 : decide (97 ≤ X) = false := decide_eq_false (by omega)
            have l65 : decide (65 ≤ X) = false := decide_eq_false (by omega)
            have u57 : decide (X ≤ 57) = true := decide_eq_true (by omega)
            have u102 : decide (X ≤ 102) = true := decide_eq_true (by omega)
            have u70 : decide (X ≤ 70) = true := decide_eq_true (by omega)
            have q68 : (X != 68) = true := by simp; omega
            have q100 : (X != 100) = true := by simp; omega
            clear hx0 hx1 x1
            clear next stop
            go_wp2_with fail
            all_goals go_ret
            exact ⟨by rw [e.out]; first | done | rfl, rfl⟩
          · have e := stop (by rw [ev]; simp [hex_yes (X := X) (by omega)] <;> omega)
            have l48 : decide (48 ≤ X) = true := decide_eq_true (by omega)
            have l97 : decide (97 ≤ X) = false := decide_eq_false (by omega)
            have l65 : decide (65 ≤ X) = false := decide_eq_false (by omega)
            have u57 : decide (X ≤ 57) = true := decide_eq_true (by omega)
            have u102 : decide (X ≤ 102) = true := decide_eq_true (by omega)
            have u70 : decide (X ≤ 70) = true := decide_eq_true (by omega)
            have q68 : (X != 68) = true := by simp; omega
            have q100 : (X != 100) = true := by simp; omega
            clear hx0 hx1 x1 x2
            clear next stop
            go_wp2_with fail
            all_goals go_ret
            exact ⟨by rw [e.out]; first | done | rfl, rfl⟩
          · have e := stop (by rw [ev]; simp [hex_no (X := X) (by omega)] <;> omega)
            have l48 : decide (48 ≤ X) = true := decide_eq_true (by omega)
            have l97 : decide (97 ≤ X) = false := decide_eq_false (by omega)
            have l65 : decide (65 ≤ X) = false := decide_eq_false (by omega)
            have u57 : decide (X ≤ 57) = false := decide_eq_false (by omega)
            have u102 : decide (X ≤ 102) = true := decide_eq_true (by omega)
            have u70 : decide (X ≤ 70) = true := decide_eq_true (by omega)
            have q68 : (X != 68) = true := by simp; omega
            have q100 : (X != 100) = true := by simp; omega
            clear hx0 hx1 x1 x2
            clear next stop
            go_wp2_with fail
            all_goals go_ret
            exact ⟨by rw [e.out]; first | done | rfl, rfl⟩
          · have e := stop (by rw [ev]; simp [hex_yes (X := X) (by omega)] <;> omega)
            have l48 : decide (48 ≤ X) = true := decide_eq_true (by omega)
            have l97 : decide (97 ≤ X) = false := decide_eq_false (by omega)
            have l65 : decide (65 ≤ X) = true := decide_eq_true (by omega)
            have u57 : decide (X ≤ 57) = false := decide_eq_false (by omega)
            have u102 : decide (X ≤ 102) = true := decide_eq_true (by omega)
            have u70 : decide (X ≤ 70) = true := decide_eq_true (by omega)
            have q68 : (X != 68) = true := by simp; omega
            have q100 : (X != 100) = true := by simp; omega
            clear hx0 hx1 x1 x2
            clear next stop
            go_wp2_with fail
            all_goals go_ret
            exact ⟨by rw [e.out]; first | done | rfl, rfl⟩
          · have e := next (by rw [ev]; simp [hex_yes (X := 68) (by omega)] <;> omega)
            clear next stop
            go_wp2_with fail
            go_roundg (gk - 1)
            case measure => omega
            case rel => exact ⟨3, by omega, by go_num, e, rfl, by omega⟩
          · have e := stop (by rw [ev]; simp [hex_yes (X := X) (by omega)] <;> omega)
            have l48 : decide (48 ≤ X) = true := decide_eq_true (by omega)
            have l97 : decide (97 ≤ X) = false := decide_eq_false (by omega)
            have l65 : decide (65 ≤ X) = true := decide_eq_true (by omega)
            have u57 : decide (X ≤ 57) = false := decide_eq_false (by omega)
            have u102 : decide (X ≤ 102) = true := decide_eq_true (by omega)
            have u70 : decide (X ≤ 70) = true := decide_eq_true (by omega)
            have q68 : (X != 68) = true := by simp; omega
            have q100 : (X != 100) = true := by simp; omega
            clear hx0 hx1 x1 x2
            clear next stop
            go_wp2_with fail
            all_goals go_ret
            exact ⟨by rw [e.out]; first | done | rfl, rfl⟩
          · have e := stop (by rw [ev]; simp [hex_no (X := X) (by omega)] <;> omega)
            have l48 : decide (48 ≤ X) = true := decide_eq_true (by omega)
            have l97 : decide (97 ≤ X) = false := decide_eq_false (by omega)
            have l65 : decide (65 ≤ X) = true := decide_eq_true (by omega)
            have u57 : decide (X ≤ 57) = false := decide_eq_false (by omega)
            have u102 : decide (X ≤ 102) = true := decide_eq_true (by omega)
            have u70 : decide (X ≤ 70) = false := decide_eq_false (by omega)
            have q68 : (X != 68) = true := by simp; omega
            have q100 : (X != 100) = true := by simp; omega
            clear hx0 hx1 x1 x2
            clear next stop
            go_wp2_with fail
            all_goals go_ret
            exact ⟨by rw [e.out]; first | done | rfl, rfl⟩
          · have e := stop (by rw [ev]; simp [hex_yes (X := X) (by omega)] <;> omega)
            have l48 : decide (48 ≤ X) = true := decide_eq_true (by omega)
            have l97 : decide (97 ≤ X) = true := decide_eq_true (by omega)
            have l65 : decide (65 ≤ X) = true := decide_eq_true (by omega)
            have u57 : decide (X ≤ 57) = false := decide_eq_false (by omega)
            have u102 : decide (X ≤ 102) = true := decide_eq_true (by omega)
            have u70 : decide (X ≤ 70) = false := decide_eq_false (by omega)
            have q68 : (X != 68) = true := by simp; omega
            have q100 : (X != 100) = true := by simp; omega
            clear hx0 hx1 x1 x2
            clear next stop
            go_wp2_with fail
            all_goals go_ret
            exact ⟨by rw [e.out]; first | done | rfl, rfl⟩
          · have e := next (by rw [ev]; simp [hex_yes (X := 100) (by omega)] <;> omega)
            clear next stop
            go_wp2_with fail
            go_roundg (gk - 1)
            case measure => omega
            case rel => exact ⟨3, by omega, by go_num, e, rfl, by omega⟩
          · have e := stop (by rw [ev]; simp [hex_yes (X := X) (by omega)] <;> omega)
            have l48 : decide (48 ≤ X) = true := decide_eq_true (by omega)
            have l97 : decide (97 ≤ X) = true := decide_eq_true (by omega)
            have l65 : decide (65 ≤ X) = true := decide_eq_true (by omega)
            have u57 : decide (X ≤ 57) = false := decide_eq_false (by omega)
            have u102 : decide (X ≤ 102) = true := decide_eq_true (by omega)
            have u70 : decide (X ≤ 70) = false := decide_eq_false (by omega)
            have q68 : (X != 68) = true := by simp; omega
            have q100 : (X != 100) = true := by simp; omega
            clear hx0 hx1 x1 x2
            clear next stop
            go_wp2_with fail
            all_goals go_ret
            exact ⟨by rw [e.out]; first | done | rfl, rfl⟩
          · have e := stop (by rw [ev]; simp [hex_no (X := X) (by omega)] <;> omega)
            have l48 : decide (48 ≤ X) = true := decide_eq_true (by omega)
            have l97 : decide (97 ≤ X) = true := decide_eq_true (by omega)
            have l65 : decide (65 ≤ X) = true := decide_eq_true (by omega)
            have u57 : decide (X ≤ 57) = false := decide_eq_false (by omega)
            have u102 : decide (X ≤ 102) = false := decide_eq_false (by omega)
            have u70 : decide (X ≤ 70) = false := decide_eq_false (by omega)
            have q68 : (X != 68) = true := by simp; omega
            have q100 : (X != 100) = true := by simp; omega
            clear hx0 hx1 x1
            clear next stop
            go_wp2_with fail
            all_goals go_ret
            exact ⟨by rw [e.out]; first | done | rfl, rfl⟩
      · rw [show ((3 : Nat) : Int) = 3 from rfl] at hlm ⊢
        have ev : escAt low 3 X = (decide (0 ≤ hexV X) && (!low || (decide (99 ≤ X) && decide (X ≤ 102) || decide (67 ≤ X) && decide (X ≤ 70)))) := by unfold escAt; simp
        have hcl : X < 48 ∨ (48 ≤ X ∧ X ≤ 57) ∨ (58 ≤ X ∧ X ≤ 64) ∨ (65 ≤ X ∧ X ≤ 66) ∨ (67 ≤ X ∧ X ≤ 70) ∨ (71 ≤ X ∧ X ≤ 96) ∨ (97 ≤ X ∧ X ≤ 98) ∨ (99 ≤ X ∧ X ≤ 102) ∨ 102 < X := by omega
        cases low
        · rcases hcl with x1 | ⟨x1, x2⟩ | ⟨x1, x2⟩ | ⟨x1, x2⟩ | ⟨x1, x2⟩ | ⟨x1, x2⟩ | ⟨x1, x2⟩ | ⟨x1, x2⟩ | x1
          · have e := stop (by rw [ev]; simp [hex_no (X := X) (by omega)] <;> omega)
            have l48 : decide (48 ≤ X) = false := decide_eq_false (by omega)
            have l97 : decide (97 ≤ X) = false := decide_eq_false (by omega)
            have l65 : decide (65 ≤ X) = false := decide_eq_false (by omega)
            have l99 : decide (99 ≤ X) = false := decide_eq_false (by omega)
            have l67 : decide (67 ≤ X) = false := decide_eq_false (by omega)
            have u57 : decide (X ≤ 57) = true := decide_eq_true (by omega)
            have u102 : decide (X ≤ 102) = true := decide_eq_true (by omega)
            have u70 : decide (X ≤ 70) = true := decide_eq_true (by omega)
            clear hx0 hx1 x1
            clear next stop
            go_wp2_with fail
            all_goals go_ret
            exact ⟨by rw [e.out]; first | done | rfl, rfl⟩
          · have e := next (by rw [ev]; simp [hex_yes (X := X) (by omega)] <;> omega)
            have l48 : decide (48 ≤ X) = true := decide_eq_true (by omega)
            have l97 : decide (97 ≤ X) = false := decide_eq_false (by omega)
            have l65 : decide (65 ≤ X) = false := decide_eq_false (by omega)
            have l99 : decide (99 ≤ X) = false := decide_eq_false (by omega)
            have l67 : decide (67 ≤ X) = false := decide_eq_false (by omega)
            have u57 : decide (X ≤ 57) = true := decide_eq_true (by omega)
            have u102 : decide (X ≤ 102) = true := decide_eq_true (by omega)
            have u70 : decide (X ≤ 70) = true := decide_eq_true (by omega)
            clear hx0 hx1 x1 x2
            clear next stop
            go_wp2_with fail
            go_roundg (gk - 1)
            case measure => omega
            case rel => exact ⟨4, by omega, by go_num, e, rfl, by omega⟩
          · have e := stop (by rw [ev]; simp [hex_no (X := X) (by omega)] <;> omega)
            have l48 : decide (48 ≤ X) = true := decide_eq_true (by omega)
            have l97 : decide (97 ≤ X) = false := decide_eq_false (by omega)
            have l65 : decide (65 ≤ X) = false := decide_eq_false (by omega)
            have l99 : decide (99 ≤ X) = false := decide_eq_false (by omega)
            have l67 : decide (67 ≤ X) = false := decide_eq_false (by omega)
            have u57 : decide (X ≤ 57) = false := decide_eq_false (by omega)
            have u102 : decide (X ≤ 102) = true := decide_eq_true (by omega)
            have u70 : decide (X ≤ 70) = true := decide_eq_true (by omega)
            clear hx0 hx1 x1 x2
            clear next stop
            go_wp2_with fail
            all_goals go_ret
            exact ⟨by rw [e.out]; first | done | rfl, rfl⟩
          · have e := next (by rw [ev]; simp [hex_yes (X := X) (by omega)] <;> omega)
            have l48 : decide (48 ≤ X) = true := decide_eq_true (by omega)
            have l97 : decide (97 ≤ X) = false := decide_eq_false (by omega)
            have l65 : decide (65 ≤ X) = true := decide_eq_true (by omega)
            have l99 : decide (99 ≤ X) = false := decide_eq_false (by omega)
            have l67 : decide (67 ≤ X) = false := decide_eq_false (by omega)
            have u57 : decide (X ≤ 57) = false := decide_eq_false (by omega)
            have u102 : decide (X ≤ 102) = true := decide_eq_true (by omega)
            have u70 : decide (X ≤ 70) = true := decide_eq_true (by omega)
            clear hx0 hx1 x1 x2
            clear next stop
            go_wp2_with fail
            go_roundg (gk - 1)
            case measure => omega
            case rel => exact ⟨4, by omega, by go_num, e, rfl, by omega⟩
          · have e := next (by rw [ev]; simp [hex_yes (X := X) (by omega)] <;> omega)
            have l48 : decide (48 ≤ X) = true := decide_eq_true (by omega)
            have l97 : decide (97 ≤ X) = false := decide_eq_false (by omega)
            have l65 : decide (65 ≤ X) = true := decide_eq_true (by omega)
            have l99 : decide (99 ≤ X) = false := decide_eq_false (by omega)
            have l67 : decide (67 ≤ X) = true := decide_eq_true (by omega)
            have u57 : decide (X ≤ 57) = false := decide_eq_false (by omega)
            have u102 : decide (X ≤ 102) = true := decide_eq_true (by omega)
            have u70 : decide (X ≤ 70) = true := decide_eq_true (by omega)
            clear hx0 hx1 x1 x2
            clear next stop
            go_wp2_with fail
            go_roundg (gk - 1)
            case measure => omega
            case rel => exact ⟨4, by omega, by go_num, e, rfl, by omega⟩
          · have e := stop (by rw [ev]; simp [hex_no (X := X) (by omega)] <;> omega)
            have l48 : decide (48 ≤ X) = true := decide_eq_true (by omega)
            have l97 : decide (97 ≤ X) = false := decide_eq_false (by omega)
            have l65 : decide (65 ≤ X) = true := decide_eq_true (by omega)
            have l99 : decide (99 ≤ X) = false := decide_eq_false (by omega)
            have l67 : decide (67 ≤ X) = true := decide_eq_true (by omega)
            have u57 : decide (X ≤ 57) = false := decide_eq_false (by omega)
            have u102 : decide (X ≤ 102) = true := decide_eq_true (by omega)
            have u70 : decide (X ≤ 70) = false := decide_eq_false (by omega)
            clear hx0 hx1 x1 x2
            clear next stop
            go_wp2_with fail
            all_goals go_ret
            exact ⟨by rw [e.out]; first | done | rfl, rfl⟩
          · have e := next (by rw [ev]; simp [hex_yes (X := X) (by omega)] <;> omega)
            have l48 : decide (48 ≤ X) = true := decide_eq_true (by omega)
            have l97 : decide (97 ≤ X) = true := decide_eq_true (by omega)
            have l65 : decide (65 ≤ X) = true := decide_eq_true (by omega)
            have l99 : decide (99 ≤ X) = false := decide_eq_false (by omega)
            have l67 : decide (67 ≤ X) = true := decide_eq_true (by omega)
            have u57 : decide (X ≤ 57) = false := decide_eq_false (by omega)
            have u102 : decide (X ≤ 102) = true := decide_eq_true (by omega)
            have u70 : decide (X ≤ 70) = false := decide_eq_false (by omega)
            clear hx0 hx1 x1 x2
            clear next stop
            go_wp2_with fail
            go_roundg (gk - 1)
            case measure => omega
            case rel => exact ⟨4, by omega, by go_num, e, rfl, by omega⟩
          · have e := next (by rw [ev]; simp [hex_yes (X := X) (by omega)] <;> omega)
            have l48 : decide (48 ≤ X) = true := decide_eq_true (by omega)
            have l97 : decide (97 ≤ X) = true := decide_eq_true (by omega)
            have l65 : decide (65 ≤ X) = true := decide_eq_true (by omega)
            have l99 : decide (99 ≤ X) = true := decide_eq_true (by omega)
            have l67 : decide (67 ≤ X) = true := decide_eq_true (by omega)
            have u57 : decide (X ≤ 57) = false := decide_eq_false (by omega)
            have u102 : decide (X ≤ 102) = true := decide_eq_true (by omega)
            have u70 : decide (X ≤ 70) = false := decide_eq_false (by omega)
            clear hx0 hx1 x1 x2
            clear next stop
            go_wp2_with fail
            go_roundg (gk - 1)
            case measure => omega
            case rel => exact ⟨4, by omega, by go_num, e, rfl, by omega⟩
          · have e := stop (by rw [ev]; simp [hex_no (X := X) (by omega)] <;> omega)
            have l48 : decide (48 ≤ X) = true := decide_eq_true (by omega)
            have l97 : decide (97 ≤ X) = true := decide_eq_true (by omega)
            have l65 : decide (65 ≤ X) = true := decide_eq_true (by omega)
            have l99 : decide (99 ≤ X) = true := decide_eq_true (by omega)
            have l67 : decide (67 ≤ X) = true := decide_eq_true (by omega)
            have u57 : decide (X ≤ 57) = false := decide_eq_false (by omega)
            have u102 : decide (X ≤ 102) = false := decide_eq_false (by omega)
            have u70 : decide (X ≤ 70) = false := decide_eq_false (by omega)
            clear hx0 hx1 x1
            clear next stop
            go_wp2_with fail
            all_goals go_ret
            exact ⟨by rw [e.out]; first | done | rfl, rfl⟩
        · rcases hcl with x1 | ⟨x1, x2⟩ | ⟨x1, x2⟩ | ⟨x1, x2⟩ | ⟨x1, x2⟩ | ⟨x1, x2⟩ | ⟨x1, x2⟩ | ⟨x1, x2⟩ | x1
          · have e := stop (by rw [ev]; simp [hex_no (X := X) (by omega)] <;> omega)
            have l48 : decide (48 ≤ X) = false := decide_eq_false (by omega)
            have l97 : decide (97 ≤ X) = false := decide_eq_false (by omega)
            have l65 : decide (65 ≤ X) = false := decide_eq_false (by omega)
            have l99 : decide (99 ≤ X) = false := decide_eq_false (by omega)
            have l67 : decide (67 ≤ X) = false := decide_eq_false (by omega)
            have u57 : decide (X ≤ 57) = true := decide_eq_true (by omega)
            have u102 : decide (X ≤ 102) = true := decide_eq_true (by omega)
            have u70 : decide (X ≤ 70) = true := decide_eq_true (by omega)
            clear hx0 hx1 x1
            clear next stop
            go_wp2_with fail
            all_goals go_ret
            exact ⟨by rw [e.out]; first | done | rfl, rfl⟩
          · have e := stop (by rw [ev]; simp [hex_yes (X := X) (by omega)] <;> omega)
            have l48 : decide (48 ≤ X) = true := decide_eq_true (by omega)
            have l97 : decide (97 ≤ X) = false := decide_eq_false (by omega)
            have l65 : decide (65 ≤ X) = false := decide_eq_false (by omega)
            have l99 : decide (99 ≤ X) = false := decide_eq_false (by omega)
            have l67 : decide (67 ≤ X) = false := decide_eq_false (by omega)
            have u57 : decide (X ≤ 57) = true := decide_eq_true (by omega)
            have u102 : decide (X ≤ 102) = true := decide_eq_true (by omega)
            have u70 : decide (X ≤ 70) = true := decide_eq_true (by omega)
            clear hx0 hx1 x1 x2
            clear next stop
            go_wp2_with fail
            all_goals go_ret
            exact ⟨by rw [e.out]; first | done | rfl, rfl⟩
          · have e := stop (by rw [ev]; simp [hex_no (X := X) (by omega)] <;> omega)
            have l48 : decide (48 ≤ X) = true := decide_eq_true (by omega)
            have l97 : decide (97 ≤ X) = false := decide_eq_false (by omega)
            have l65 : decide (65 ≤ X) = false := decide_eq_false (by omega)
            have l99 : decide (99 ≤ X) = false := decide_eq_false (by omega)
            have l67 : decide (67 ≤ X) = false := decide_eq_false (by omega)
            have u57 : decide (X ≤ 57) = false := decide_eq_false (by omega)
            have u102 : decide (X ≤ 102) = true := decide_eq_true (by omega)
            have u70 : decide (X ≤ 70) = true := decide_eq_true (by omega)
            clear hx0 hx1 x1 x2
            clear next stop
            go_wp2_with fail
            all_goals go_ret
            exact ⟨by rw [e.out]; first | done | rfl, rfl⟩
          · have e := stop (by rw [ev]; simp [hex_yes (X := X) (by omega)] <;> omega)
            have l48 : decide (48 ≤ X) = true := decide_eq_true (by omega)
            have l97 : decide (97 ≤ X) = false := decide_eq_false (by omega)
            have l65 : decide (65 ≤ X) = true := decide_eq_true (by omega)
            have l99 : decide (99 ≤ X) = false := decide_eq_false (by omega)
            have l67 : decide (67 ≤ X) = false := decide_eq_false (by omega)
            have u57 : decide (X ≤ 57) = false := decide_eq_false (by omega)
            have u102 : decide (X ≤ 102) = true := decide_eq_true (by omega)
            have u70 : decide (X ≤ 70) = true := decide_eq_true (by omega)
            clear hx0 hx1 x1 x2
            clear next stop
            go_wp2_with fail
            all_goals go_ret
            exact ⟨by rw [e.out]; first | done | rfl, rfl⟩
          · have e := next (by rw [ev]; simp [hex_yes (X := X) (by omega)] <;> omega)
            have l48 : decide (48 ≤ X) = true := decide_eq_true (by omega)
            have l97 : decide (97 ≤ X) = false := decide_eq_false (by omega)
            have l65 : decide (65 ≤ X) = true := decide_eq_true (by omega)
            have l99 : decide (99 ≤ X) = false := decide_eq_false (by omega)
            have l67 : decide (67 ≤ X) = true := decide_eq_true (by omega)
            have u57 : decide (X ≤ 57) = false := decide_eq_false (by omega)
            have u102 : decide (X ≤ 102) = true := decide_eq_true (by omega)
            have u70 : decide (X ≤ 70) = true := decide_eq_true (by omega)
            clear hx0 hx1 x1 x2
            clear next stop
            go_wp2_with fail
            go_roundg (gk - 1)
            case measure => omega
            case rel => exact ⟨4, by omega, by go_num, e, rfl, by omega⟩
          · have e := stop (by rw [ev]; simp [hex_no (X := X) (by omega)] <;> omega)
            have l48 : decide (48 ≤ X) = true := decide_eq_true (by omega)
            have l97 : decide (97 ≤ X) = false := decide_eq_false (by omega)
            have l65 : decide (65 ≤ X) = true := decide_eq_true (by omega)
            have l99 : decide (99 ≤ X) = false := decide_eq_false (by omega)
            have l67 : decide (67 ≤ X) = true := decide_eq_true (by omega)
            have u57 : decide (X ≤ 57) = false := decide_eq_false (by omega)
            have u102 : decide (X ≤ 102) = true := decide_eq_true (by omega)
            have u70 : decide (X ≤ 70) = false := decide_eq_false (by omega)
            clear hx0 hx1 x1 x2
            clear next stop
            go_wp2_with fail
            all_goals go_ret
            exact ⟨by rw [e.out]; first | done | rfl, rfl⟩
          · have e := stop (by rw [ev]; simp [hex_yes (X := X) (by omega)] <;> omega)
            have l48 : decide (48 ≤ X) = true := decide_eq_true (by omega)
            have l97 : decide (97 ≤ X) = true := decide_eq_true (by omega)
            have l65 : decide (65 ≤ X) = true := decide_eq_true (by omega)
            have l99 : decide (99 ≤ X) = false := decide_eq_false (by omega)
            have l67 : decide (67 ≤ X) = true := decide_eq_true (by omega)
            have u57 : decide (X ≤ 57) = false := decide_eq_false (by omega)
            have u102 : decide (X ≤ 102) = true := decide_eq_true (by omega)
            have u70 : decide (X ≤ 70) = false := decide_eq_false (by omega)
            clear hx0 hx1 x1 x2
            clear next stop
            go_wp2_with fail
            all_goals go_ret
            exact ⟨by rw [e.out]; first | done | rfl, rfl⟩
          · have e := next (by rw [ev]; simp [hex_yes (X := X) (by omega)] <;> omega)
            have l48 : decide (48 ≤ X) = true := decide_eq_true (by omega)
            have l97 : decide (97 ≤ X) = true := decide_eq_true (by omega)
            have l65 : decide (65 ≤ X) = true := decide_eq_true (by omega)
            have l99 : decide (99 ≤ X) = true := decide_eq_true (by omega)
            have l67 : decide (67 ≤ X) = true := decide_eq_true (by omega)
            have u57 : decide (X ≤ 57) = false := decide_eq_false (by omega)
            have u102 : decide (X ≤ 102) = true := decide_eq_true (by omega)
            have u70 : decide (X ≤ 70) = false := decide_eq_false (by omega)
            clear hx0 hx1 x1 x2
            clear next stop
            go_wp2_with fail
            go_roundg (gk - 1)
            case measure => omega
            case rel => exact ⟨4, by omega, by go_num, e, rfl, by omega⟩
          · have e := stop (by rw [ev]; simp [hex_no (X := X) (by omega)] <;> omega)
            have l48 : decide (48 ≤ X) = true := decide_eq_true (by omega)
            have l97 : decide (97 ≤ X) = true := decide_eq_true (by omega)
            have l65 : decide (65 ≤ X) = true := decide_eq_true (by omega)
            have l99 : decide (99 ≤ X) = true := decide_eq_true (by omega)
            have l67 : decide (67 ≤ X) = true := decide_eq_true (by omega)
            have u57 : decide (X ≤ 57) = false := decide_eq_false (by omega)
            have u102 : decide (X ≤ 102) = false := decide_eq_false (by omega)
            have u70 : decide (X ≤ 70) = false := decide_eq_false (by omega)
            clear hx0 hx1 x1
            clear next stop
            go_wp2_with fail
            all_goals go_ret
            exact ⟨by rw [e.out]; first | done | rfl, rfl⟩
      · have e0 : ((k : Int) == 0) = false := by simp; omega
        have e1 : ((k : Int) == 1) = false := by simp; omega
        have e2 : ((k : Int) == 2) = false := by simp; omega
        have e3 : ((k : Int) == 3) = false := by simp; omega
        have e4 : (2 : Int) ≤ (k : Int) := by omega
        have e5 : (k : Int) < 6 := by omega
        have K0 : (k = 0) = False := by simp; omega
        have K1 : (k = 1) = False := by simp; omega
        have K2 : (k = 2) = False := by simp; omega
        have K3 : (k = 3) = False := by simp; omega
        have K6 : (6 ≤ k) = False := by simp; omega
        have ev : escAt low k X = decide (0 ≤ hexV X) := by unfold escAt; simp [K0, K1, K2, K3, K6]
        clear hk0 K0 K1 K2 K3 K6
        have hcl : X < 48 ∨ (48 ≤ X ∧ X ≤ 57) ∨ (58 ≤ X ∧ X ≤ 64) ∨ (65 ≤ X ∧ X ≤ 70) ∨ (71 ≤ X ∧ X ≤ 96) ∨ (97 ≤ X ∧ X ≤ 102) ∨ 102 < X := by omega
        rcases hcl with x1 | ⟨x1, x2⟩ | ⟨x1, x2⟩ | ⟨x1, x2⟩ | ⟨x1, x2⟩ | ⟨x1, x2⟩ | x1
        · have e := stop (by rw [ev]; simp [hex_no (X := X) (by omega)] <;> omega)
          have l48 : decide (48 ≤ X) = false := decide_eq_false (by omega)
          have l97 : decide (97 ≤ X) = false := decide_eq_false (by omega)
          have l65 : decide (65 ≤ X) = false := decide_eq_false (by omega)
          have u57 : decide (X ≤ 57) = true := decide_eq_true (by omega)
          have u102 : decide (X ≤ 102) = true := decide_eq_true (by omega)
          have u70 : decide (X ≤ 70) = true := decide_eq_true (by omega)
          clear hx0 hx1 x1
          clear next stop
          go_wp2_with fail
          all_goals go_ret
          exact ⟨by rw [e.out]; first | done | rfl, rfl⟩
        · have e := next (by rw [ev]; simp [hex_yes (X := X) (by omega)] <;> omega)
          have l48 : decide (48 ≤ X) = true := decide_eq_true (by omega)
          have l97 : decide (97 ≤ X) = false := decide_eq_false (by omega)
          have l65 : decide (65 ≤ X) = false := decide_eq_false (by omega)
          have u57 : decide (X ≤ 57) = true := decide_eq_true (by omega)
          have u102 : decide (X ≤ 102) = true := decide_eq_true (by omega)
          have u70 : decide (X ≤ 70) = true := decide_eq_true (by omega)
          clear hx0 hx1 x1 x2
          clear next stop
          go_wp2_with fail
          go_roundg (gk - 1)
          case measure => omega
          case rel => exact ⟨k + 1, by omega, by go_num, e, rfl, by omega⟩
        · have e := stop (by rw [ev]; simp [hex_no (X := X) (by omega)] <;> omega)
          have l48 : decide (48 ≤ X) = true := decide_eq_true (by omega)
          have l97 : decide (97 ≤ X) = false := decide_eq_false (by omega)
          have l65 : decide (65 ≤ X) = false := decide_eq_false (by omega)
          have u57 : decide (X ≤ 57) = false := decide_eq_false (by omega)
          have u102 : decide (X ≤ 102) = true := decide_eq_true (by omega)
          have u70 : decide (X ≤ 70) = true := decide_eq_true (by omega)
          clear hx0 hx1 x1 x2
          clear next stop
          go_wp2_with fail
          all_goals go_ret
          exact ⟨by rw [e.out]; first | done | rfl, rfl⟩
        · have e := next (by rw [ev]; simp [hex_yes (X := X) (by omega)] <;> omega)
          have l48 : decide (48 ≤ X) = true := decide_eq_true (by omega)
          have l97 : decide (97 ≤ X) = false := decide_eq_false (by omega)
          have l65 : decide (65 ≤ X) = true := decide_eq_true (by omega)
          have u57 : decide (X ≤ 57) = false := decide_eq_false (by omega)
          have u102 : decide (X ≤ 102) = true := decide_eq_true (by omega)
          have u70 : decide (X ≤ 70) = true := decide_eq_true (by omega)
          clear hx0 hx1 x1 x2
          clear next stop
          go_wp2_with fail
          go_roundg (gk - 1)
          case measure => omega
          case rel => exact ⟨k + 1, by omega, by go_num, e, rfl, by omega⟩
        · have e := stop (by rw [ev]; simp [hex_no (X := X) (by omega)] <;> omega)
          have l48 : decide (48 ≤ X) = true := decide_eq_true (by omega)
          have l97 : decide (97 ≤ X) = false := decide_eq_false (by omega)
          have l65 : decide (65 ≤ X) = true := decide_eq_true (by omega)
          have u57 : decide (X ≤ 57) = false := decide_eq_false (by omega)
          have u102 : decide (X ≤ 102) = true := decide_eq_true (by omega)
          have u70 : decide (X ≤ 70) = false := decide_eq_false (by omega)
          clear hx0 hx1 x1 x2
          clear next stop
          go_wp2_with fail
          all_goals go_ret
          exact ⟨by rw [e.out]; first | done | rfl, rfl⟩
        · have e := next (by rw [ev]; simp [hex_yes (X := X) (by omega)] <;> omega)
          have l48 : decide (48 ≤ X) = true := decide_eq_true (by omega)
          have l97 : decide (97 ≤ X) = true := decide_eq_true (by omega)
          have l65 : decide (65 ≤ X) = true := decide_eq_true (by omega)
          have u57 : decide (X ≤ 57) = false := decide_eq_false (by omega)
          have u102 : decide (X ≤ 102) = true := decide_eq_true (by omega)
          have u70 : decide (X ≤ 70) = false := decide_eq_false (by omega)
          clear hx0 hx1 x1 x2
          clear next stop
          go_wp2_with fail
          go_roundg (gk - 1)
          case measure => omega
          case rel => exact ⟨k + 1, by omega, by go_num, e, rfl, by omega⟩
        · have e := stop (by rw [ev]; simp [hex_no (X := X) (by omega)] <;> omega)
          have l48 : decide (48 ≤ X) = true := decide_eq_true (by omega)
          have l97 : decide (97 ≤ X) = true := decide_eq_true (by omega)
          have l65 : decide (65 ≤ X) = true := decide_eq_true (by omega)
          have u57 : decide (X ≤ 57) = false := decide_eq_false (by omega)
          have u102 : decide (X ≤ 102) = false := decide_eq_false (by omega)
          have u70 : decide (X ≤ 70) = false := decide_eq_false (by omega)
          clear hx0 hx1 x1
          clear next stop
          go_wp2_with fail
          all_goals go_ret
          exact ⟨by rw [e.out]; first | done | rfl, rfl⟩
      · have e0 : ((k : Int) == 0) = false := by simp; omega
        have e1 : ((k : Int) == 1) = false := by simp; omega
        have e2 : ((k : Int) == 2) = false := by simp; omega
        have e3 : ((k : Int) == 3) = false := by simp; omega
        have e4 : (2 : Int) ≤ (k : Int) := by omega
        have e5 : 6 ≤ (k : Int) := by omega
        have K0 : (k = 0) = False := by simp; omega
        have K1 : (k = 1) = False := by simp; omega
        have K2 : (k = 2) = False := by simp; omega
        have K3 : (k = 3) = False := by simp; omega
        have K6 : (6 ≤ k) = True := by simp; omega
        have ev : escAt low k X = true := by unfold escAt; simp [K0, K1, K6]
        clear hk0 K0 K1 K2 K3 K6
        have e := next (ev)
        clear next stop
        go_wp2_with fail
        go_roundg (gk - 1)
        case measure => omega
        case rel => exact ⟨k + 1, by omega, by go_num, e, rfl, by omega⟩
    · obtain rfl : k = m := by omega
      have e : Hid (R = true) := Lib.hid (by rw [← HR.out, HA.out])
      go_wp2_with fail
      all_goals go_ret
      exact ⟨by rw [e.out]; first | done | rfl, rfl⟩
end Go.Proofs.YtokhmhbjbclcoaaDoor

/- Unquoting: the small functions. -/
import Derived.Test.YtokhmhbjbclcoaaDoorCu
import Derived.Test.YtokhmhbjbclcoaaDoorSb
import Derived.Test.YtokhmhbjbclcoaaDoorGl
import Derived.Deep.LoopGhost
import Derived.WalkKit
import Derived.WalkLawsBesides
import Derived.WalkSpells
import Derived.BigQuiet
import Derived.Deep.QuietTactic
import Derived.Laws.BitsLemmas
namespace Go.Proofs.YtokhmhbjbclcoaaDoor
set_option linter.unusedVariables false
set_option linter.unusedSimpArgs false
open Go.RowKit

theorem cellZ {w : World} {b : Nat} {s : ByteArray} (h : Lib.Bytes w b 0 s) {i : Nat} (hi : i < s.size) (X : Int) (hX : bAt s i = X) : w.cell? ⟨b, i, none⟩ = some (.int .u8 X) := by
  have := h i hi
  rw [Nat.zero_add] at this
  rw [this, ← hX]; unfold bAt; rw [dif_pos hi]

/-- A byte that stands for itself in a string. -/
def plainB (c : Int) : Bool := decide (c < 128) && decide (32 ≤ c) && !(c == 92) && !(c == 34)
theorem plain_any (c : Int) (w : World) : Calls Tryd.prog 59 #[.int .u8 c] w fun e w' => e = .returned (.bool (plainB c)) ∧ w' = w := by
  go_enter Tryd.func59, Tryd.ntmps59
  go_wp2
  all_goals go_ret
  all_goals refine ⟨?_, rfl⟩
  all_goals refine congrArg (fun b => Ending.returned (.bool b)) ?_
  all_goals unfold plainB
  all_goals (rw [Bool.eq_iff_iff]; simp [*]; try omega)

def surB (r : Int) : Bool := decide (55296 ≤ r) && decide (r < 57344)
theorem sur_any (r : Int) (w : World) : Calls Tryd.prog 64 #[.int .i32 r] w fun e w' => e = .returned (.bool (surB r)) ∧ w' = w := by
  go_enter Tryd.func64, Tryd.ntmps64
  go_wp2
  all_goals go_ret
  all_goals refine ⟨?_, rfl⟩
  all_goals refine congrArg (fun b => Ending.returned (.bool b)) ?_
  all_goals unfold surB
  all_goals (rw [Bool.eq_iff_iff]; simp [*]; try omega)

/-- Four digits from a place on: their number; are they digits? -/
def hexPre (s : ByteArray) (i : Nat) : Nat → Int
  | 0 => 0
  | k + 1 => 16 * hexPre s i k + hexV (bAt s (i + k))
def hexAll (s : ByteArray) (i : Nat) : Nat → Bool
  | 0 => true
  | k + 1 => hexAll s i k && decide (0 ≤ hexV (bAt s (i + k)))
theorem hexV_bd (c : Int) : -1 ≤ hexV c ∧ hexV c ≤ 15 := by
  unfold hexV
  repeat' split
  all_goals omega
theorem hexPre_bd (s : ByteArray) (i : Nat) : ∀ k, hexAll s i k = true → 0 ≤ hexPre s i k ∧ hexPre s i k < 16 ^ k
  | 0, _ => by simp [hexPre]
  | k + 1, h => by
    unfold hexAll at h
    rw [Bool.and_eq_true, decide_eq_true_eq] at h
    have h1 := hexPre_bd s i k h.1
    have h2 := hexV_bd (bAt s (i + k))
    unfold hexPre
    rw [Int.pow_succ]
    omega
theorem hexAll_le {s : ByteArray} {i : Nat} {k m : Nat} (h : hexAll s i m = true) (hk : k ≤ m) : hexAll s i k = true := by
  induction m with
  | zero => obtain rfl : k = 0 := by omega
            exact h
  | succ m ih =>
    by_cases e : k = m + 1
    · subst e; exact h
    · unfold hexAll at h; rw [Bool.and_eq_true] at h; exact ih h.1 (by omega)
theorem hexAll_not {s : ByteArray} {i k : Nat} (h1 : k < 4) (h2 : hexV (bAt s (i + k)) < 0) : hexAll s i 4 = false := by
  cases h : hexAll s i 4
  · rfl
  · have := hexAll_le (k := k + 1) h (by omega)
    unfold hexAll at this
    rw [Bool.and_eq_true, decide_eq_true_eq] at this
    omega

set_option maxRecDepth 100000 in
set_option maxHeartbeats 1000000 in
theorem parseHex_any (s : ByteArray) (b i m cap : Nat) (w : World) (hm : m = 4) (hi : i + 4 ≤ s.size) (hs : s.size ≤ 100000000000) (hS : Lib.Bytes w b 0 s) :
    Calls Tryd.prog 63 #[.slice (some ⟨b, i, none⟩) m cap] w fun e w' => e = .returned (.tuple #[.int .u16 (if hexAll s i 4 then hexPre s i 4 else 0), .bool (hexAll s i 4)]) ∧ w' = w := by
  subst hm
  obtain ⟨R, HR⟩ : ∃ R, Hid (Value.tuple #[.int .u16 (if hexAll s i 4 then hexPre s i 4 else 0), .bool (hexAll s i 4)] = R) := ⟨_, Lib.hid rfl⟩
  rw [HR.out]
  go_enter Tryd.func63, Tryd.ntmps63
  go_wp2_with fail
  go_loopg [2, 9] 4 (fun g v n wr => ∃ (k : Nat) (V : Int), k ≤ 4 ∧ n = .int .i64 k ∧ v = .int .u16 V ∧ Hid (hexPre s i k = V) ∧ Hid (hexAll s i k = true) ∧ wr = w ∧ 4 - k ≤ g)
  case atStart => exact ⟨0, 0, by omega, rfl, rfl, Lib.hid rfl, Lib.hid rfl, rfl, by omega⟩
  case round =>
    obtain ⟨k, V, hk, rfl, rfl, HV, HA, rfl, hg⟩ := hrel
    have hbd := hexPre_bd s i k HA.out
    rw [HV.out] at hbd
    by_cases hlt : k < 4
    · obtain ⟨X, hX⟩ : ∃ X, bAt s (i + k) = X := ⟨_, rfl⟩
      have hc := cellZ hS (i := i + k) (by omega) X hX
      have hx0 : 0 ≤ X := by rw [← hX]; exact bAt_nonneg _ _
      have hx1 : X ≤ 255 := by rw [← hX]; exact bAt_le _ _
      have hp : V * 16 < 65536 - 15 := by
        have h3 : k = 0 ∨ k = 1 ∨ k = 2 ∨ k = 3 := by omega
        rcases h3 with rfl | rfl | rfl | rfl <;> simp at hbd <;> omega
      have hp0 : 0 ≤ V := hbd.1
      have next : ∀ h : Int, hexV X = h → 0 ≤ h → Hid (hexPre s i (k + 1) = V * 16 + h) ∧ Hid (hexAll s i (k + 1) = true) := fun h e e0 =>
        ⟨Lib.hid (by unfold hexPre; rw [HV.out, hX, e]; omega), Lib.hid (by unfold hexAll; rw [HA.out, hX, e]; simpa using e0)⟩
      have stop : hexV X < 0 → Hid (R = .tuple #[.int .u16 0, .bool false]) := fun e => Lib.hid (by rw [← HR.out, hexAll_not hlt (by rw [hX]; exact e)]; simp)
      clear hbd hX
      have hcl : X < 48 ∨ (48 ≤ X ∧ X ≤ 57) ∨ (57 < X ∧ X < 65) ∨ (65 ≤ X ∧ X ≤ 70) ∨ (70 < X ∧ X < 97) ∨ (97 ≤ X ∧ X ≤ 102) ∨ 102 < X := by omega
      rcases hcl with d1 | ⟨d1, d2⟩ | ⟨d1, d2⟩ | ⟨d1, d2⟩ | ⟨d1, d2⟩ | ⟨d1, d2⟩ | d1
      · have e := stop (by unfold hexV; rw [if_neg (by omega), if_neg (by omega), if_neg (by omega)]; omega)
        clear next stop
        go_wp2_with fail
        all_goals go_ret2
        exact ⟨by rw [e.out]; first | done | rfl, rfl⟩
      · obtain ⟨n1, n2⟩ := next (X - 48) (by unfold hexV; rw [if_pos ⟨d1, d2⟩]) (by omega)
        clear next stop
        go_wp2_with fail
        go_roundg (gk - 1)
        case measure => omega
        case rel => exact ⟨k + 1, _, by omega, by go_num, rfl, by first | exact n1 | exact n3 ▸ n1, n2, rfl, by omega⟩
      · have e := stop (by unfold hexV; rw [if_neg (by omega), if_neg (by omega), if_neg (by omega)]; omega)
        clear next stop
        go_wp2_with fail
        all_goals go_ret2
        exact ⟨by rw [e.out]; first | done | rfl, rfl⟩
      · obtain ⟨n1, n2⟩ := next (X - 65 + 10) (by unfold hexV; rw [if_neg (by omega), if_neg (by omega), if_pos ⟨d1, d2⟩]) (by omega)
        have n3 : 10 + X - 65 = X - 65 + 10 := by omega
        clear next stop
        go_wp2_with fail
        go_roundg (gk - 1)
        case measure => omega
        case rel => exact ⟨k + 1, _, by omega, by go_num, rfl, by first | exact n1 | exact n3 ▸ n1, n2, rfl, by omega⟩
      · have e := stop (by unfold hexV; rw [if_neg (by omega), if_neg (by omega), if_neg (by omega)]; omega)
        clear next stop
        go_wp2_with fail
        all_goals go_ret2
        exact ⟨by rw [e.out]; first | done | rfl, rfl⟩
      · obtain ⟨n1, n2⟩ := next (X - 97 + 10) (by unfold hexV; rw [if_neg (by omega), if_pos ⟨d1, d2⟩]) (by omega)
        have n3 : 10 + X - 97 = X - 97 + 10 := by omega
        clear next stop
        go_wp2_with fail
        go_roundg (gk - 1)
        case measure => omega
        case rel => exact ⟨k + 1, _, by omega, by go_num, rfl, by first | exact n1 | exact n3 ▸ n1, n2, rfl, by omega⟩
      · have e := stop (by unfold hexV; rw [if_neg (by omega), if_neg (by omega), if_neg (by omega)]; omega)
        clear next stop
        go_wp2_with fail
        all_goals go_ret2
        exact ⟨by rw [e.out]; first | done | rfl, rfl⟩
    · obtain rfl : k = 4 := by omega
      have e : Hid (R = .tuple #[.int .u16 V, .bool true]) := Lib.hid (by rw [← HR.out, HA.out, ← HV.out]; simp)
      go_wp2_with fail
      all_goals go_ret2
      exact ⟨by rw [e.out]; first | done | rfl, rfl⟩
end Go.Proofs.YtokhmhbjbclcoaaDoor

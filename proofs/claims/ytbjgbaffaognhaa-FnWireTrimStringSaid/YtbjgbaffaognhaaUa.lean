/- Whole numbers: the plain mathematics. -/
import Derived.Test.YtbjgbaffaognhaaPl
namespace Go.Proofs.Ytbjgbaffaognhaa
open Go.RowKit

def isDg (c : Int) : Bool := decide (48 ≤ c) && decide (c ≤ 57)
/-- Where the digits end. -/
def dgEnd (s : ByteArray) : Nat → Nat → Nat
  | 0, i => i
  | n + 1, i => if i < s.size ∧ isDg (bAt s i) = true then dgEnd s n (i + 1) else i
/-- The number of the first k digits. -/
def valN (s : ByteArray) : Nat → Nat
  | 0 => 0
  | k + 1 => 10 * valN s k + (bAt s k - 48).toNat

def m64 (n : Nat) : Int := ((n % 18446744073709551616 : Nat) : Int)
theorem m64_bd (n : Nat) : 0 ≤ m64 n ∧ m64 n ≤ 18446744073709551615 := by unfold m64; omega
theorem m64_step (n d : Nat) : IntKind.u64.wrap (IntKind.u64.wrap (10 * m64 n) + d) = m64 (10 * n + d) := by
  unfold m64
  simp only [IntKind.wrap, IntKind.signed, IntKind.bits]
  simp
  omega
/-- The greatest number of 64 bits. -/
def mx64 : Nat := 18446744073709551615
def uintN (s : ByteArray) : Int :=
  if dgEnd s s.size 0 = 0 ∨ dgEnd s s.size 0 < s.size ∨ (1 < dgEnd s s.size 0 ∧ bAt s 0 = 48) then 0 else if valN s s.size ≤ mx64 then (valN s s.size : Int) else (mx64 : Int)
def uintB (s : ByteArray) : Bool :=
  if dgEnd s s.size 0 = 0 ∨ dgEnd s s.size 0 < s.size ∨ (1 < dgEnd s s.size 0 ∧ bAt s 0 = 48) then false else decide (valN s s.size ≤ mx64)

theorem dgEnd_le (s : ByteArray) : ∀ (n i : Nat), i ≤ s.size → i ≤ dgEnd s n i ∧ dgEnd s n i ≤ s.size
  | 0, i, h => ⟨Nat.le_refl _, h⟩
  | n + 1, i, h => by
    unfold dgEnd
    split
    · have := dgEnd_le s n (i + 1) (by omega); omega
    · exact ⟨Nat.le_refl _, h⟩
theorem dgEnd_dg (s : ByteArray) : ∀ (n i : Nat), ∀ j, i ≤ j → j < dgEnd s n i → isDg (bAt s j) = true
  | 0, i, j, h1, h2 => by unfold dgEnd at h2; omega
  | n + 1, i, j, h1, h2 => by
    unfold dgEnd at h2
    split at h2
    · rename_i h
      by_cases e : j = i
      · subst e; exact h.2
      · exact dgEnd_dg s n (i + 1) j (by omega) h2
    · omega
/-- The number of k digits lies between two powers of ten, by its first digit. -/
theorem valN_lt (s : ByteArray) : ∀ k, (∀ j, j < k → isDg (bAt s j) = true) → valN s k < 10 ^ k
  | 0, _ => by simp [valN]
  | k + 1, h => by
    have h1 := valN_lt s k (fun j hj => h j (by omega))
    have h2 := h k (by omega)
    simp [isDg] at h2
    rw [valN, Nat.pow_succ]
    omega
theorem valN_first (s : ByteArray) : ∀ k, (∀ j, j < k + 1 → isDg (bAt s j) = true) → (bAt s 0 - 48).toNat * 10 ^ k ≤ valN s (k + 1) ∧ valN s (k + 1) < ((bAt s 0 - 48).toNat + 1) * 10 ^ k
  | 0, _ => by simp [valN]
  | k + 1, h => by
    have h1 := valN_first s k (fun j hj => h j (by omega))
    have h2 := h (k + 1) (by omega)
    simp [isDg] at h2
    rw [valN, Nat.pow_succ]
    generalize (bAt s 0 - 48).toNat = d at h1 ⊢
    generalize 10 ^ k = p at h1 ⊢
    generalize valN s (k + 1) = v at h1 ⊢
    obtain ⟨h1, h3⟩ := h1
    constructor
    · have : d * (p * 10) = 10 * (d * p) := by rw [← Nat.mul_assoc, Nat.mul_comm]
      omega
    · have : (d + 1) * (p * 10) = 10 * ((d + 1) * p) := by rw [← Nat.mul_assoc, Nat.mul_comm]
      omega
theorem valN_mono (s : ByteArray) (j k : Nat) (h : j ≤ k) : valN s j ≤ valN s k := by
  induction k with
  | zero => have : j = 0 := by omega
            subst this; exact Nat.le_refl _
  | succ k ih =>
    by_cases e : j = k + 1
    · subst e; exact Nat.le_refl _
    · have := ih (by omega); rw [valN]; omega

/-- How the library tells that a number is too great. -/
theorem over_iff (s : ByteArray) (n : Nat) (hn : n = s.size) (h0 : 0 < n) (hd : ∀ j, j < n → isDg (bAt s j) = true) (h1 : ¬ (1 < n ∧ bAt s 0 = 48)) :
    (n < 20 → valN s n ≤ mx64 ∧ m64 (valN s n) = valN s n) ∧
    (n = 20 → bAt s 0 = 49 → (10000000000000000000 ≤ m64 (valN s n) ↔ valN s n ≤ mx64)) ∧
    (n = 20 → bAt s 0 ≠ 49 → ¬ valN s n ≤ mx64) ∧ (20 < n → ¬ valN s n ≤ mx64) ∧ (valN s n ≤ mx64 → m64 (valN s n) = valN s n) := by
  obtain ⟨k, rfl⟩ : ∃ k, n = k + 1 := ⟨n - 1, by omega⟩
  have hf := valN_first s k hd
  have hl := valN_lt s (k + 1) hd
  have hd0 := hd 0 (by omega)
  simp [isDg] at hd0
  have hfit : valN s (k + 1) ≤ mx64 → m64 (valN s (k + 1)) = valN s (k + 1) := by unfold mx64 m64; omega
  refine ⟨fun hn => ?_, fun hn hb => ?_, fun hn hb => ?_, fun hn => ?_, hfit⟩
  · have : (10 : Nat) ^ (k + 1) ≤ 10 ^ 19 := Nat.pow_le_pow_right (by omega) (by omega)
    have hle : valN s (k + 1) ≤ mx64 := by unfold mx64; omega
    exact ⟨hle, hfit hle⟩
  · obtain rfl : k = 19 := by omega
    generalize valN s (19 + 1) = v at hf hl ⊢
    rw [hb] at hf
    simp at hf
    unfold m64 mx64
    omega
  · obtain rfl : k = 19 := by omega
    have : 2 ≤ (bAt s 0 - 48).toNat := by omega
    have h2 : 2 * 10 ^ 19 ≤ (bAt s 0 - 48).toNat * 10 ^ 19 := Nat.mul_le_mul_right _ this
    unfold mx64
    omega
  · have h2 : (10 : Nat) ^ 20 ≤ 10 ^ k := Nat.pow_le_pow_right (by omega) (by omega)
    have : 1 ≤ (bAt s 0 - 48).toNat := by omega
    have h3 : 1 * 10 ^ k ≤ (bAt s 0 - 48).toNat * 10 ^ k := Nat.mul_le_mul_right _ this
    unfold mx64
    omega
theorem m64_0 : m64 0 = 0 := rfl
end Go.Proofs.Ytbjgbaffaognhaa

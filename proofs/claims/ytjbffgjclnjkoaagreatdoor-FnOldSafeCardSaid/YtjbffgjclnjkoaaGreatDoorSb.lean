/- Parts of a text, as lists of bytes. -/
import Derived.Test.YtjbffgjclnjkoaaGreatDoorPl
import Derived.Test.YtjbffgjclnjkoaaGreatDoorBw
namespace Go.Proofs.YtjbffgjclnjkoaaGreatDoor
set_option linter.unusedVariables false
set_option linter.unusedSimpArgs false
open Go.RowKit

/-- The bytes of a text from j to k. -/
def sub (s : ByteArray) (j k : Nat) : List Int := (List.range (k - j)).map fun t => bAt s (j + t)
theorem sub_len (s : ByteArray) (j k : Nat) : (sub s j k).length = k - j := by simp [sub]
theorem sub_by (s : ByteArray) (j k : Nat) : By8 (sub s j k) := by
  intro x hx
  obtain ⟨t, _, rfl⟩ := List.mem_map.1 hx
  have := bAt_nonneg s (j + t); have := bAt_le s (j + t); omega
theorem sub_self (s : ByteArray) (k : Nat) : sub s k k = [] := by simp [sub]
theorem sub_app (s : ByteArray) {j m k : Nat} (h1 : j ≤ m) (h2 : m ≤ k) : sub s j m ++ sub s m k = sub s j k := by
  apply List.ext_getElem?
  intro i
  unfold sub
  rw [List.getElem?_append]
  simp only [List.length_map, List.length_range, List.getElem?_map, List.getElem?_range]
  split
  · rename_i h
    rw [List.getElem?_eq_getElem (by simpa using h), List.getElem?_eq_getElem (by simp; omega)]
    simp
  · rename_i h
    by_cases h3 : i < k - j
    · rw [List.getElem?_eq_getElem (by simp; omega), List.getElem?_eq_getElem (by simpa using h3)]
      simp
      congr 1; omega
    · rw [List.getElem?_eq_none (by simp; omega), List.getElem?_eq_none (by simp; omega)]; rfl
theorem sub_one (s : ByteArray) (k : Nat) : sub s k (k + 1) = [bAt s k] := by simp [sub]
theorem sub_snoc (s : ByteArray) {j k : Nat} (h : j ≤ k) : sub s j (k + 1) = sub s j k ++ [bAt s k] := by
  rw [← sub_one, sub_app s h (by omega)]
theorem sub_cells {w : World} {b : Nat} {s : ByteArray} (h : Lib.Bytes w b 0 s) {j k : Nat} (hk : k ≤ s.size) : ∀ t u, (bv (sub s j k))[t]? = some u → w.cell? ⟨b, j + t, none⟩ = some u := by
  intro t u hu
  have ht : t < k - j := by
    have := (List.getElem?_eq_some_iff.1 hu).1
    rwa [bv_len, sub_len] at this
  have hc := h (j + t) (by omega)
  rw [Nat.zero_add] at hc
  rw [hc, ← hu]
  simp only [bv, sub, List.map_map, List.getElem?_map]
  rw [List.getElem?_eq_getElem (by simpa using ht)]
  simp only [List.getElem_range, Option.map_some, Function.comp]
  rw [bAt_lt (by omega)]
theorem sub_all (s : ByteArray) : sub s 0 s.size = bl s := by
  apply List.ext_getElem?
  intro i
  unfold sub bl
  simp only [List.getElem?_map, Nat.sub_zero, Nat.zero_add]
  by_cases h : i < s.size
  · rw [List.getElem?_eq_getElem (by simpa using h), List.getElem?_eq_getElem (by simpa using h)]
    simp only [List.getElem_range, Option.map_some]
    rw [bAt_lt h]; rfl
  · rw [List.getElem?_eq_none (by simpa using h), List.getElem?_eq_none (by simpa using h)]; rfl
theorem bAt_bl {t : ByteArray} {L : List Int} (h : bl t = L) (k : Nat) (hk : k < L.length) : bAt t k = L[k] := by
  subst h
  have hk' := hk
  rw [bl_len] at hk'
  rw [bAt_lt hk']
  apply Option.some.inj
  rw [← List.getElem?_eq_getElem hk]
  unfold bl
  rw [List.getElem?_map, List.getElem?_eq_getElem (by simpa using hk')]
  rfl
/-- A part of a text. -/
theorem bl_sub (s : ByteArray) (j k : Nat) (hk : k ≤ s.size) (hj : j ≤ k) : bl (s.extract j k) = sub s j k := by
  have hz : (s.extract j k).size = k - j := by rw [ByteArray.size_extract]; omega
  have hlen : (s.extract j k).data.toList.length = k - j := by rw [Array.length_toList]; exact hz
  apply List.ext_getElem?
  intro i
  unfold bl sub
  simp only [List.getElem?_map]
  by_cases h : i < k - j
  · have hi : i < (s.extract j k).size := by omega
    have e : (s.extract j k).data.toList[i]? = some ((s.extract j k)[i]'hi) := by
      rw [List.getElem?_eq_getElem (by rw [hlen]; exact h)]; rfl
    rw [e, List.getElem?_eq_getElem (by simpa using h)]
    simp only [List.getElem_range, Option.map_some]
    rw [bAt_lt (by omega), ByteArray.getElem_extract]
  · rw [List.getElem?_eq_none (by rw [hlen]; omega), List.getElem?_eq_none (by simpa using h)]; rfl
end Go.Proofs.YtjbffgjclnjkoaaGreatDoor

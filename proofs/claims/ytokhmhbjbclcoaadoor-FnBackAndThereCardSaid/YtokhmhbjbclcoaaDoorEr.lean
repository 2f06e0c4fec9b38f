/- The library's own errors of syntax: a new box behind an interface, whatever stands in it. -/
import Derived.Test.YtokhmhbjbclcoaaDoorCu
import Derived.Test.YtokhmhbjbclcoaaDoorBw
import Derived.Test.YtokhmhbjbclcoaaDoorSb
namespace Go.Proofs.YtokhmhbjbclcoaaDoor
set_option linter.unusedVariables false
set_option linter.unusedSimpArgs false
open Go.RowKit

/-- A part of the bytes of a text. -/
theorem bytes_part {w : World} {b : Nat} {a : ByteArray} (h : Lib.Bytes w b 0 a) {i j : Nat} (hij : i ≤ j) (hj : j ≤ a.size) : Lib.Bytes w b i (a.extract i j) := by
  intro k hk
  have hz : (a.extract i j).size = j - i := by rw [ByteArray.size_extract]; omega
  rw [hz] at hk
  have := h (i + k) (by omega)
  rw [Nat.zero_add] at this
  rw [this, ByteArray.getElem_extract]
theorem part_conv {w : World} {b : Nat} {a : ByteArray} (h : Lib.Bytes w b 0 a) {i m : Nat} (hj : i + m ≤ a.size) (cap : Nat) :
    (convert 46 9 (.slice (some ⟨b, i, none⟩) m cap)).run Tryd.prog w = .ok (.string (a.extract i (i + m))) w := by
  have hz : (a.extract i (i + m)).size = m := by rw [ByteArray.size_extract]; omega
  have := Lib.run_convert_whole (P := Tryd.prog) w 46 5 9 Tryd.underlying46 Tryd.underlying5 Tryd.underlying9 b i (a.extract i (i + m)) (bytes_part h (by omega) hj) cap
  rw [hz] at this
  exact this

/-- What a maker of an error leaves. -/
def ErrT (w : World) (e : Ending) (w' : World) : Prop := ∃ p, e = .returned (.iface 127 (.pointer (some p))) ∧ Below w.heap.size w w'

set_option maxRecDepth 100000 in
theorem badChar_any (a : ByteArray) (i m b cap : Nat) (msg : ByteArray) (w : World) (hm : m = a.size - i) (h0 : i < a.size) (hs : a.size ≤ maxLen) (hcap : m ≤ cap) (hT : Tabs w) (hB : Lib.Bytes w b 0 a) :
    Calls Tryd.prog 50 #[.slice (some ⟨b, i, none⟩) m cap, .string msg] w (ErrT w) := by
  have h := decode_from a i b cap w h0 hT hB
  obtain ⟨r, hr⟩ : ∃ r : Int, (runeN a i : Int) = r := ⟨_, rfl⟩
  obtain ⟨d, hd⟩ : ∃ d, stepN a i = d := ⟨_, rfl⟩
  have hst : i + stepN a i ≤ a.size := by
    have h1 := uw_fit a i
    unfold stepN
    split
    · omega
    · exact h1 ‹_›
  rw [hr, hd, ← hm] at h
  rw [hd] at hst
  have hdc : (d : Int) ≤ (cap : Int) := by omega
  unfold maxLen at hs
  have hcv : ∀ w' : World, Below w.heap.size w w' → b < w.heap.size → (convert 46 9 (.slice (some ⟨b, i, none⟩) d cap)).run Tryd.prog w' = .ok (.string (a.extract i (i + d))) w' := fun w' hb hlt =>
    part_conv (fun k hk => (World.cell?_of_block (a := ⟨b, 0 + k, none⟩) (hb.block b hlt)).trans (hB k hk)) hst cap
  have hblt : b < w.heap.size := World.block_lt_of_cell? w ⟨b, _, none⟩ (hB 0 (by omega))
  clear hr hd hm hT hB h0 hst
  go_enter Tryd.func50, Tryd.ntmps50
  go_wp2_with (go_at_call 60; refine h.mono ?_; rintro e w1 ⟨rfl, hb1⟩; have hc1 := hcv w1 hb1 hblt)
  all_goals go_ret
  exact ⟨_, rfl, hb1.alloc hb1.size _⟩

set_option maxRecDepth 100000 in
theorem badEsc_any (a : ByteArray) (i m b cap : Nat) (w : World) (h0 : i + m ≤ a.size) (hs : a.size ≤ maxLen) (hB : Lib.Bytes w b 0 a) :
    Calls Tryd.prog 62 #[.slice (some ⟨b, i, none⟩) m cap] w (ErrT w) := by
  have hcv := part_conv hB h0 cap
  unfold maxLen at hs
  go_enter Tryd.func62, Tryd.ntmps62
  go_wp2_with fail
  all_goals go_ret
  all_goals exact ⟨_, rfl, (Below.refl _ _).alloc (Nat.le_refl _) _⟩
end Go.Proofs.YtokhmhbjbclcoaaDoor

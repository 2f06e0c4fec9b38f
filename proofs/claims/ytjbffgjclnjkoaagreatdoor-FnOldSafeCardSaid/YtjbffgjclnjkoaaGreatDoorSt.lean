/- Short lists of strings; whether texts are short enough. -/
import Derived.Test.YtjbffgjclnjkoaaGreatDoorRows
import Derived.WalkKit
import Derived.Lib.Hide
import Derived.Deep.LoopGhost
namespace Go.Proofs.YtjbffgjclnjkoaaGreatDoor
set_option linter.unusedVariables false
set_option linter.unusedSimpArgs false
open Go.RowKit

/-- Strings in a row. -/
def Strs (w : World) (b : Nat) (l : List ByteArray) : Prop := ∀ i, i < l.length → w.cell? ⟨b, i, none⟩ = some (.string (l.getD i ByteArray.empty))

theorem strs1 (w : World) (a : ByteArray) (T : TypeId) : Strs (w.alloc (.cells #[.string a] T)) w.heap.size [a] := by
  intro i hi
  have h0 : i = 0 := by simp at hi; omega
  subst h0
  rw [World.cell?_alloc_mark]; rfl
theorem strs2 (w : World) (a b : ByteArray) (T : TypeId) : Strs (w.alloc (.cells #[.string a, .string b] T)) w.heap.size [a, b] := by
  intro i hi
  have h0 : i = 0 ∨ i = 1 := by simp at hi; omega
  rcases h0 with rfl | rfl <;> (rw [World.cell?_alloc_mark]; rfl)
theorem strs3 (w : World) (a b c : ByteArray) (T : TypeId) : Strs (w.alloc (.cells #[.string a, .string b, .string c] T)) w.heap.size [a, b, c] := by
  intro i hi
  have h0 : i = 0 ∨ i = 1 ∨ i = 2 := by simp at hi; omega
  rcases h0 with rfl | rfl | rfl <;> (rw [World.cell?_alloc_mark]; rfl)

theorem fits8_any (l : List ByteArray) (b : Nat) (w : World) (h : Strs w b l) (hn : l.length ≤ 100) (hl : ∀ s ∈ l, s.size ≤ maxLen) :
    Calls Tryz.prog 6 #[.slice (some ⟨b, 0, none⟩) l.length l.length] w fun e w' => e = .returned (.bool (l.all fun s => decide (s.size ≤ 1000))) ∧ w' = w := by
  have hn' : ((l.length : Nat) : Int) ≤ 100 := by omega
  obtain ⟨R, HR⟩ : ∃ R, Hid ((l.all fun s => decide (s.size ≤ 1000)) = R) := ⟨_, Lib.hid rfl⟩
  have A0 : Aside (((l.drop 0).all fun s => decide (s.size ≤ 1000)) = R) := HR.out
  rw [HR.out]
  have hl' := Lib.hid hl
  clear hl
  have h' := Lib.hid h
  clear h
  go_enter Tryz.func6, Tryz.ntmps6
  go_wp2
  go_loop [7] (fun n => ∃ k : Nat, k ≤ l.length ∧ n = .int .i64 k ∧ Aside (((l.drop k).all fun s => decide (s.size ≤ 1000)) = R)) (fun n => l.length - (intOf n).toNat)
  case atStart => exact ⟨0, Nat.zero_le _, rfl, A0⟩
  case round =>
    obtain ⟨k, hk, rfl, A⟩ := hrel
    by_cases hlt : k < l.length
    · have hc := h'.out k hlt
      have A1 : ((l.drop k).all fun s => decide (s.size ≤ 1000)) = R := A
      rw [List.drop_eq_getElem_cons hlt, List.all_cons] at A1
      have hg : l.getD k ByteArray.empty = l[k] := by simp [List.getD, List.getElem?_eq_getElem hlt]
      rw [hg] at hc
      have hz := hl'.out l[k] (List.getElem_mem hlt)
      generalize hv : l[k] = v at hc A1 hz
      clear hv hg
      unfold maxLen at hz
      by_cases h4 : v.size ≤ 1000
      · have A2 : Aside (((l.drop (k + 1)).all fun s => decide (s.size ≤ 1000)) = R) := (by simpa [h4] using A1 : ((l.drop (k + 1)).all fun s => decide (s.size ≤ 1000)) = R)
        have h4' : (v.size : Int) ≤ 1000 := by omega
        clear A1 h4 A
        go_wp2
        go_round
        case rel => exact ⟨k + 1, by omega, by go_num, A2⟩
        case measure => simp [intOf]; omega
      · have A2 : Hid (false = R) := (by simpa [h4] using A1.symm : R = false).symm
        have h4' : 1000 < (v.size : Int) := by omega
        clear A1 h4 A
        go_wp2
        go_ret
        rw [← A2.out]
        exact ⟨rfl, rfl⟩
    · have A2 : Hid (R = true) := by
        show R = true
        have A1 : ((l.drop k).all fun s => decide (s.size ≤ 1000)) = R := A
        rw [List.drop_eq_nil_of_le (by omega)] at A1
        simpa using A1.symm
      clear A
      go_wp2
      go_ret
      rw [A2.out]
      exact ⟨rfl, rfl⟩

theorem f8one (a : ByteArray) (b : Nat) (w : World) (r : Bool) (hr : Hid (decide (a.size ≤ 1000) = r)) (h : Strs w b [a]) (ha : a.size ≤ maxLen) :
    Calls Tryz.prog 6 #[.slice (some ⟨b, 0, none⟩) 1 1] w fun e w' => e = .returned (.bool r) ∧ w' = w := by
  have := fits8_any [a] b w h (by simp) (by simpa using ha)
  rw [← hr.out]
  simpa using this
theorem f8two (a c : ByteArray) (b : Nat) (w : World) (r : Bool) (hr : Hid ((decide (a.size ≤ 1000) && decide (c.size ≤ 1000)) = r)) (h : Strs w b [a, c]) (ha : a.size ≤ maxLen) (hc : c.size ≤ maxLen) :
    Calls Tryz.prog 6 #[.slice (some ⟨b, 0, none⟩) 2 2] w fun e w' => e = .returned (.bool r) ∧ w' = w := by
  have := fits8_any [a, c] b w h (by simp) (by simpa using ⟨ha, hc⟩)
  rw [← hr.out]
  simpa using this
end Go.Proofs.YtjbffgjclnjkoaaGreatDoor

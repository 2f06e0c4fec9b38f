/- The walk of the law FnWireSpace. -/
import Derived.Test.YtbjgbaffaognhaaLb
namespace Go.Proofs.Ytbjgbaffaognhaa
open Go.RowKit
set_option linter.unusedVariables false

theorem walk_FnWireSpace (a0 : ByteArray) (w0 : a0.size ≤ maxLen) (w : World) :
    Calls Try.prog 3 #[.string a0] w fun e w' => e = .returned (.bool true) ∧ Below w.heap.size w w' := by
  have hs := w0
  unfold maxLen at hs
  by_cases hz : 2147483647 < (a0.size : Int)
  · go_enter Try.func3, Try.ntmps3
    go_wp2_with fail
    all_goals go_ret
    exact ⟨rfl, Below.refl _ _⟩
  · obtain ⟨r, hr⟩ : ∃ r, Hid (decide (a0.size ≤ 4000) = r) := ⟨_, Lib.hid rfl⟩
    go_enter Try.func3, Try.ntmps3
    go_wp2_with fail
    refine (short1 a0 _ _ r hr (strs1 _ _ _) w0).mono ?_
    rintro e w1 ⟨rfl, rfl⟩
    cases r
    · go_wp2_with fail
      all_goals go_ret
      exact ⟨rfl, (Below.refl _ _).alloc (Nat.le_refl _) _⟩
    · go_wp2_with fail
      refine (wireSpace_any a0 _ w0).mono ?_
      rintro e w2 ⟨rfl, hb2⟩
      go_wp2_with fail
      refine (spaces_any a0 _ w0).mono ?_
      rintro e w3 ⟨rfl, hb3⟩
      have hb : Below w.heap.size w w3 := (((Below.refl _ _).alloc (Nat.le_refl _) _).trans (hb2.mono (by simp))).trans (hb3.mono (by have := hb2.size; simp at this; omega))
      go_wp2_with fail
      all_goals go_ret
      exact ⟨rfl, hb⟩
end Go.Proofs.Ytbjgbaffaognhaa

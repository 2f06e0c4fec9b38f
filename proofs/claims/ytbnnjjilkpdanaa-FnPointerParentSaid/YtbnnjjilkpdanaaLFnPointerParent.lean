/- The walk of the law FnPointerParent. -/
import Derived.Test.YtbnnjjilkpdanaaPq
import Derived.Test.YtbnnjjilkpdanaaPt
namespace Go.Proofs.Ytbnnjjilkpdanaa
open Go.RowKit
set_option linter.unusedVariables false

set_option maxRecDepth 100000 in
set_option maxHeartbeats 4000000 in
theorem walk_FnPointerParent (a0 : ByteArray) (w0 : a0.size ≤ maxLen) (w : World) :
    Calls Try.prog 3 #[.string a0] w fun e w' => e = .returned (.bool true) ∧ Below w.heap.size w w' := by
  have hs := w0
  unfold maxLen at hs
  by_cases hz : 2147483647 < (a0.size : Int)
  · go_enter Try.func3, Try.ntmps3
    go_wp2_with fail
    all_goals go_ret
    exact ⟨rfl, Below.refl _ _⟩
  · obtain ⟨r, hr⟩ : ∃ r, Hid (ptrsB [a0] = r) := ⟨_, Lib.hid rfl⟩
    cases r
    · go_enter Try.func3, Try.ntmps3
      go_wp2_with fail
      refine (ptrs1 a0 _ _ false hr (strs1 _ _ _) w0).mono ?_
      rintro e wa ⟨rfl, hwa⟩
      obtain rfl := hwa.symm
      go_wp2_with fail
      all_goals go_ret
      exact ⟨rfl, (Below.refl _ _).alloc (Nat.le_refl _) _⟩
    · have h := hr.out
      unfold ptrsB at h
      simp only [List.all_cons, List.all_nil, Bool.and_true, Bool.and_eq_true, decide_eq_true_eq] at h
      exact parent_core a0 w h.1 (ptr_ok h.2) (ptrs1 a0 _ _ true hr (strs1 _ _ _) w0)
end Go.Proofs.Ytbnnjjilkpdanaa

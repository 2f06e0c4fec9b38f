/- belongs: the bytes of literals and numbers. -/
import Derived.Test.YtjbffgjclnjkoaaC1
import Derived.Test.YtjbffgjclnjkoaaSw
namespace Go.Proofs.Ytjbffgjclnjkoaa
set_option linter.unusedVariables false
set_option linter.unusedSimpArgs false
open Go.RowKit

set_option maxRecDepth 100000 in
set_option maxHeartbeats 1000000 in
theorem belongs_any (c : Int) (w : World) : Calls Try.prog 44 #[.int .u8 c] w fun e w' => e = .returned (.bool (belB c)) ∧ w' = w := by
  obtain ⟨R, hR⟩ : ∃ R, Hid (belB c = R) := ⟨_, Lib.hid rfl⟩
  rw [hR.out]
  go_enter Try.func44, Try.ntmps44
  go_wp2
  all_goals go_ret
  all_goals refine ⟨congrArg (fun b => Ending.returned (.bool b)) ?_, rfl⟩
  all_goals rw [← hR.out]
  all_goals unfold belB
  all_goals first | rfl | (simp [*]; done) | (rw [Bool.eq_iff_iff]; simp [*]; try omega)
end Go.Proofs.Ytjbffgjclnjkoaa

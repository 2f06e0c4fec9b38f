/- Appending escapes: the small functions. -/
import Derived.Test.YtjbffgjclnjkoaaGreatDoorBw
import Derived.WalkLawsBesides
import Derived.WalkSpells
import Derived.BigQuiet
import Derived.Deep.QuietTactic
import Derived.Laws.BitsLemmas
import Derived.OwnWalk
import Derived.Deep.RegionHeld3
import Derived.Outline
namespace Go.Proofs.YtjbffgjclnjkoaaGreatDoor
set_option linter.unusedVariables false
set_option linter.unusedSimpArgs false
open Go.RowKit

/-- A digit's byte. -/
def hxD (n : Int) : Int := if n < 10 then 48 + n else 87 + n
theorem hxD_by {n : Int} (h0 : 0 ≤ n) (h1 : n < 16) : 0 ≤ hxD n ∧ hxD n < 256 := by unfold hxD; split <;> omega
theorem hexIdx (k : IntKind) (n : Int) (h0 : 0 ≤ n) (h1 : n < 16) (w : World) :
    (Instr.index 9 (.string ⟨#[48, 49, 50, 51, 52, 53, 54, 55, 56, 57, 97, 98, 99, 100, 101, 102]⟩) (.int k n)).run Tryz.prog w = .ok (.int .u8 (hxD n)) w := by
  obtain rfl | rfl | rfl | rfl | rfl | rfl | rfl | rfl | rfl | rfl | rfl | rfl | rfl | rfl | rfl | rfl : n = 0 ∨ n = 1 ∨ n = 2 ∨ n = 3 ∨ n = 4 ∨ n = 5 ∨ n = 6 ∨ n = 7 ∨ n = 8 ∨ n = 9 ∨ n = 10 ∨ n = 11 ∨ n = 12 ∨ n = 13 ∨ n = 14 ∨ n = 15 := by omega
  all_goals kernel_rfl

/-- The escape of a number below 65536. -/
def unitT (x : Int) : List Int := [92, 117, hxD (x / 4096 % 16), hxD (x / 256 % 16), hxD (x / 16 % 16), hxD (x % 16)]
theorem unitT_by (x : Int) : By8 (unitT x) := by
  intro y hy
  simp only [unitT, List.mem_cons, List.not_mem_nil, or_false] at hy
  rcases hy with rfl | rfl | rfl | rfl | rfl | rfl
  · omega
  · omega
  all_goals exact hxD_by (by omega) (by omega)

theorem mask4u (x : Int) (h0 : 0 ≤ x) (h1 : x < 65536) : bits .and .u16 x 15 = x % 16 := bits_mask .u16 16 (by decide) (fun n a b => by rw [IntKind.wrap_u16]; omega) 4 (by decide) x h0 h1

/-- A plain character's escape. -/
def escA (c : Int) : List Int :=
  if c = 34 ∨ c = 92 then [92, c] else if c = 8 then [92, 98] else if c = 12 then [92, 102] else if c = 10 then [92, 110] else if c = 13 then [92, 114] else if c = 9 then [92, 116] else unitT c

end Go.Proofs.YtjbffgjclnjkoaaGreatDoor

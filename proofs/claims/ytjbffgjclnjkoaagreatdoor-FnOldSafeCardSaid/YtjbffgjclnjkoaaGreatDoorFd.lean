/- freeScanner as a deferred call. -/
import Derived.Test.YtjbffgjclnjkoaaGreatDoorSk
import Derived.Test.YtjbffgjclnjkoaaGreatDoorSv
import Derived.Defers
namespace Go.Proofs.YtjbffgjclnjkoaaGreatDoor
set_option linter.unusedVariables false
set_option linter.unusedSimpArgs false
open Go.RowKit Go.Shelf
attribute [go_sem] run_state

set_option maxRecDepth 100000 in
set_option maxHeartbeats 1000000 in
theorem free_d (b B : Nat) (σ : Sc) (v : Value) (w : World) (u : FrameMode) (h : IsS w b B σ v) :
    CallsD Tryz.prog 44 #[.pointer (some ⟨b, 0, none⟩)] u w fun e u' w' => u' = u ∧ (e = .returned (.tuple #[]) ∧ Below B w w') := by
  obtain ⟨e, n, _, _, _, c2, _, _, f0⟩ := h.cells
  have f2 := f0 2
  have hv : ∃ a cap, v = .slice a σ.stk.length cap := by
    rcases h.row.2 with ⟨e, h0⟩ | ⟨g, cap, cur, e, _⟩
    · exact ⟨none, 0, by rw [e, h0]⟩
    · exact ⟨_, _, e⟩
  obtain ⟨a, cap, rfl⟩ := hv
  have hset : Below B w (w.setCell ⟨b, 2, none⟩ (.slice none 0 0)) := ⟨rfl, rfl, rfl, by simp [World.setCell], fun k hk => Below.heap_setCell _ _ _ _ (by have := h.hB; simp; omega)⟩
  obtain ⟨m, hm⟩ : ∃ m, σ.stk.length = m := ⟨_, rfl⟩
  rw [hm] at c2
  clear h hm f0
  by_cases hd : (1024 : Int) < (m : Int)
  · go_enter_d Tryz.func44, Tryz.ntmps44
    go_wp2_with fail
    all_goals go_end0
    exact ⟨rfl, hset⟩
  · have hd' : decide ((1024 : Int) < (m : Int)) = false := by simp; omega
    clear hd
    go_enter_d Tryz.func44, Tryz.ntmps44
    go_wp2_with fail
    all_goals go_end0
    exact ⟨rfl, Below.refl _ _⟩
theorem bl_drop {s : ByteArray} {k : Nat} (h : k < s.size) : (bl s).drop k = (s[k].toNat : Int) :: (bl s).drop (k + 1) := by
  have hl : k < (bl s).length := by rw [bl_len]; exact h
  rw [List.drop_eq_getElem_cons hl]
  congr 1
  simp [bl]
  rfl
end Go.Proofs.YtjbffgjclnjkoaaGreatDoor

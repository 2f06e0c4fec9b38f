/- The head of a string: the walk. -/
import Derived.Test.YtokhmhbjbclcoaaDoorLb
namespace Go.Proofs.YtokhmhbjbclcoaaDoor
set_option linter.unusedVariables false
set_option linter.unusedSimpArgs false
open Go.RowKit

/-- What reading a string at the beginning comes to. -/
def shP (s : ByteArray) (strict : Bool) : Bool × St :=
  let p := St.quoted s (!strict) ⟨0, 0, false⟩
  (p.1, if p.1 then { p.2 with at_ := p.2.at_ + 1 } else p.2)

theorem stringHead_any (s : ByteArray) (strict : Bool) (w : World) (hs : s.size ≤ maxLen) (hs2 : s.size < 9223372036854775807) :
    Calls Tryd.prog 20 #[.string s, .bool strict] w fun e w' => e = .returned (.tuple #[.int .i64 (cameN s (shP s strict)), .int .i64 (cameHow s (shP s strict))]) ∧ Below w.heap.size w w' := by
  have h0 := newR w s false (!strict) 49
  obtain ⟨r, σ, H⟩ := named (St.quoted s (!strict) ⟨0, 0, false⟩)
  have hq := (St.quoted_le (s := s) (!strict) (σ := ⟨0, 0, false⟩) (Nat.zero_le _)).2
  rw [H.out] at hq
  dsimp only at hq
  cases r
  · have E : Hid (shP s strict = (false, σ)) := Lib.hid (by unfold shP; rw [H.out]; simp)
    go_enter Tryd.func20, Tryd.ntmps20
    go_wp2_with fail
    refine (quoted_any _ s false (!strict) ⟨0, 0, false⟩ _ h0 hs (Nat.zero_le _)).mono ?_
    rw [H.out]
    rintro e w1 ⟨rfl, hR, hM⟩
    have hb : Below w.heap.size w w1 := ((Below.refl _ _).alloc (Nat.le_refl _) _).trans (hM.below (Nat.le_refl _) (by simp))
    obtain ⟨c0, c1, c2, c3, c4, c5, f1, f4, f5⟩ := hR.cells
    go_wp2_with fail
    refine (came_any s false (!strict) false σ _).mono ?_
    rintro e w2 ⟨rfl, o, rfl⟩
    go_wp2_with fail
    all_goals go_ret2
    exact ⟨by rw [E.out]; first | done | rfl, hb.alloc (by have := hb.size; exact this) _⟩
  · have E : Hid (shP s strict = (true, { σ with at_ := σ.at_ + 1 })) := Lib.hid (by unfold shP; rw [H.out]; simp)
    have hq1 : (σ.at_ : Int) < 9223372036854775807 := by omega
    go_enter Tryd.func20, Tryd.ntmps20
    go_wp2_with fail
    refine (quoted_any _ s false (!strict) ⟨0, 0, false⟩ _ h0 hs (Nat.zero_le _)).mono ?_
    rw [H.out]
    rintro e w1 ⟨rfl, hR, hM⟩
    have hb : Below w.heap.size w w1 := ((Below.refl _ _).alloc (Nat.le_refl _) _).trans (hM.below (Nat.le_refl _) (by simp))
    obtain ⟨c0, c1, c2, c3, c4, c5, f1, f4, f5⟩ := hR.cells
    go_wp2_with fail
    refine (came_any s false (!strict) true { σ with at_ := σ.at_ + 1 } _).mono ?_
    rintro e w2 ⟨rfl, o, rfl⟩
    go_wp2_with fail
    all_goals go_ret2
    exact ⟨by rw [E.out]; first | done | rfl, (hb.setCell (Nat.le_refl _) _).alloc (by have := hb.size; simpa using this) _⟩
end Go.Proofs.YtokhmhbjbclcoaaDoor

/- The law of the numbers at a text's beginning: the walk. -/
import Derived.Test.YtokhmhbjbclcoaaDoorNc
import Derived.Test.YtokhmhbjbclcoaaDoorCb
namespace Go.Proofs.YtokhmhbjbclcoaaDoor
open Go.RowKit
set_option linter.unusedVariables false

set_option maxRecDepth 100000 in
theorem wireNumber_any (s : ByteArray) (w : World) (B : Nat) (hB : B ≤ w.heap.size) (hs : s.size ≤ 100000000000) (hT : TabsB B w) (hU : EofB B w) :
    Calls Tryd.prog 10 #[.string s] w fun e w' => ∃ n : Int, e = .returned (.tuple #[.int .i64 n, .int .i64 (cameHow s (nhP s))]) ∧ ((nhP s).1 = true → n = cameN s (nhP s)) ∧ Below w.heap.size w w' := by
  obtain ⟨cap, w1, hc, C⟩ := cnvB s (by unfold maxLen; omega) w
  have hb1 := C.below
  have hsz := C.size
  have hT1 := hT.below (hb1.mono hB)
  have hU1 := hU.below (hb1.mono hB)
  have h := cn_any B s w.heap.size cap w1 (by omega) hs C.cap_ge C.cap_le (by omega) C.bytes hT1 hU1
  obtain ⟨H, hH⟩ : ∃ H, cameHow s (nhP s) = H := ⟨_, rfl⟩
  have HSZ := Lib.hid hsz
  clear C hsz
  have g1 : Calls Tryd.prog 22 #[.slice (some ⟨w.heap.size, 0, none⟩) s.size cap] w1 fun e w' => ∃ (n : Int) (er : Value), e = .returned (.tuple #[.int .i64 n, er]) ∧ ErrIs w' er H ∧ ((nhP s).1 = true → n = cameN s (nhP s)) ∧ Below w1.heap.size w1 w' := by
    clear hc hT1 hU1 hb1
    go_enter Tryd.func22, Tryd.ntmps22
    go_wp2_with (go_at_call 34; refine h.mono ?_; rintro e w2 ⟨n, st, er, rfl, he, hn, hb⟩; rw [hH] at he)
    all_goals go_ret2
    exact ⟨n, er, rfl, he, hn, hb⟩
  rw [hH]
  clear h hT1
  go_enter Tryd.func10, Tryd.ntmps10
  go_wp2_with (first
    | (go_at_call 22; refine g1.mono ?_; rintro e w2 ⟨n, er, rfl, he, hn, hb⟩; have hU2 := hU1.below (hb.mono (by have := HSZ.out; omega)); have hbb : Below w.heap.size w w2 := hb1.trans (hb.mono (by have := HSZ.out; omega)))
    | (go_at_call 23; refine (wireFault_any _ _ _ _ hU2 he).mono ?_; rintro e w3 ⟨rfl, rfl⟩))
  all_goals go_ret2
  exact ⟨n, rfl, hn, hbb⟩

theorem wire10_any (n how due came : Int) (w : World) (h1 : how = came) (h2 : came = 0 → n = due) (h3 : came = 0 ∨ came = 1 ∨ came = 2) :
    Calls Tryd.prog 12 #[.int .i64 n, .int .i64 how, .int .i64 due, .int .i64 came] w fun e w' => e = .returned (.bool true) ∧ w' = w := by
  subst h1
  rcases h3 with rfl | rfl | rfl
  · obtain rfl := h2 rfl
    clear h2
    go_enter Tryd.func12, Tryd.ntmps12
    go_wp2_with fail
    all_goals go_ret
    exact ⟨rfl, rfl⟩
  · clear h2
    go_enter Tryd.func12, Tryd.ntmps12
    go_wp2_with fail
    all_goals go_ret
    exact ⟨rfl, rfl⟩
  · clear h2
    go_enter Tryd.func12, Tryd.ntmps12
    go_wp2_with fail
    all_goals go_ret
    exact ⟨rfl, rfl⟩
theorem how_cases (s : ByteArray) (p : Bool × St) : cameHow s p = 0 ∨ cameHow s p = 1 ∨ cameHow s p = 2 := by
  unfold cameHow; split
  · exact .inl rfl
  · split
    · exact .inr (.inl rfl)
    · exact .inr (.inr rfl)
theorem how_ok {s : ByteArray} {p : Bool × St} (h : cameHow s p = 0) : p.1 = true := by
  cases hp : p.1
  · unfold cameHow at h; rw [hp] at h; simp at h; split at h <;> cases h
  · rfl

set_option maxRecDepth 100000 in
theorem walk_FnWireNumber (a0 : ByteArray) (w0 : a0.size ≤ maxLen) (w : World) (hT : TabsB w.heap.size w) (hU : EofB w.heap.size w) :
    Calls Tryd.prog 3 #[.string a0] w fun e w' => e = .returned (.bool true) ∧ Below w.heap.size w w' := by
  have hs := w0
  unfold maxLen at hs
  by_cases hz : 2147483647 < (a0.size : Int)
  · go_enter Tryd.func3, Tryd.ntmps3
    go_wp2_with fail
    all_goals go_ret
    exact ⟨rfl, Below.refl _ _⟩
  · obtain ⟨r, hr⟩ : ∃ r, Hid (decide (a0.size ≤ 4000) = r) := ⟨_, Lib.hid rfl⟩
    cases r
    · go_enter Tryd.func3, Tryd.ntmps3
      go_wp2_with fail
      refine (short1 a0 _ _ _ hr (strs1 _ _ _) w0).mono ?_
      rintro e w1 ⟨rfl, rfl⟩
      go_wp2_with fail
      all_goals go_ret
      exact ⟨rfl, (Below.refl _ _).alloc (Nat.le_refl _) _⟩
    · have hsz : a0.size ≤ 4000 := by simpa using hr.out
      have hba : Below w.heap.size w (w.alloc (.cells #[.string a0] 9)) := (Below.refl _ _).alloc (Nat.le_refl _) _
      have hn := wireNumber_any a0 (w.alloc (.cells #[.string a0] 9)) w.heap.size (by simp) (by omega) (hT.below hba) (hU.below hba)
      obtain ⟨H, hH⟩ : ∃ H, cameHow a0 (nhP a0) = H := ⟨_, rfl⟩
      obtain ⟨N, hN⟩ : ∃ N, cameN a0 (nhP a0) = N := ⟨_, rfl⟩
      have hc := how_cases a0 (nhP a0)
      have ho := how_ok (s := a0) (p := nhP a0)
      have hd : ∀ w' : World, Calls Tryd.prog 11 #[.string a0] w' fun e w'' => e = .returned (.tuple #[.int .i64 N, .int .i64 H]) ∧ Below w'.heap.size w' w'' := fun w' => by
        have := numberHead_any a0 w' w0
        rwa [hH, hN] at this
      rw [hH] at hn hc ho
      rw [hN] at hn
      clear hH hN
      go_enter Tryd.func3, Tryd.ntmps3
      go_wp2_with (first
        | (go_at_call 9; refine (short1 a0 _ _ _ hr (strs1 _ _ _) w0).mono ?_; rintro e w1 ⟨rfl, rfl⟩)
        | (go_at_call 10; refine hn.mono ?_; rintro e w2 ⟨n, rfl, hnn, hb2⟩; have hb3 := hba.trans (hb2.mono hba.size))
        | (go_at_call 11; refine (hd _).mono ?_; rintro e w4 ⟨rfl, hb4⟩; have hb5 := hb3.trans (hb4.mono hb3.size))
        | (go_at_call 12; refine (wire10_any _ _ _ _ _ rfl (fun h => hnn (ho h)) hc).mono ?_; rintro e w6 ⟨rfl, rfl⟩))
      all_goals go_ret
      exact ⟨rfl, hb5⟩
end Go.Proofs.YtokhmhbjbclcoaaDoor

/- The law of two texts of strings one behind the other: the walk. -/
import Derived.Test.YtokhmhbjbclcoaaDoorUi
import Derived.Test.YtokhmhbjbclcoaaDoorUj
import Derived.Test.YtokhmhbjbclcoaaDoorSt
namespace Go.Proofs.YtokhmhbjbclcoaaDoor
set_option linter.unusedVariables false
set_option linter.unusedSimpArgs false
open Go.RowKit

theorem txt_app {X Y : List Int} (hX : By8 X) (hY : By8 Y) : txt X ++ txt Y = txt (X ++ Y) := by
  apply bl_inj
  rw [bl_append, bl_txt hX, bl_txt hY, bl_txt (hX.app hY)]
theorem unq_empty (s : ByteArray) : unquoted ⟨#[]⟩ s = txt (uq s).1 := rfl

set_option maxRecDepth 100000 in
set_option maxHeartbeats 4000000 in
theorem walk_FnUnquoteJoin (a0 : ByteArray) (w0 : a0.size ≤ maxLen) (a1 : ByteArray) (w1 : a1.size ≤ maxLen) (w : World) (hT : TabsB w.heap.size w) (hU : EofB w.heap.size w) (hI : InvB w.heap.size w) :
    Calls Tryd.prog 6 #[.string a0, .string a1] w fun e w' => e = .returned (.bool true) ∧ Below w.heap.size w w' := by
  have hs0 := w0
  have hs1 := w1
  unfold maxLen at hs0 hs1
  by_cases hz : 2147483647 < (a0.size : Int)
  · go_enter Tryd.func6, Tryd.ntmps6
    go_wp2_with fail
    all_goals go_ret
    exact ⟨rfl, Below.refl _ _⟩
  by_cases hz1 : 2147483647 < (a1.size : Int)
  · go_enter Tryd.func6, Tryd.ntmps6
    go_wp2_with fail
    all_goals go_ret
    exact ⟨rfl, Below.refl _ _⟩
  have z0 : (a0.size : Int) ≤ 2147483647 := by omega
  have z1 : (a1.size : Int) ≤ 2147483647 := by omega
  clear hz hz1
  have e0 : ⟨#[34]⟩ ++ a0 ++ ⟨#[34]⟩ = qt a0 := rfl
  have e1 : ⟨#[34]⟩ ++ a1 ++ ⟨#[34]⟩ = qt a1 := rfl
  have q0 : (qt a0).size ≤ maxLen := by rw [qt_size]; unfold maxLen; omega
  have q1 : (qt a1).size ≤ maxLen := by rw [qt_size]; unfold maxLen; omega
  obtain ⟨F0, hF0⟩ : ∃ F, decide ((psQ (qt a0) false).fault = 0) = F := ⟨_, rfl⟩
  obtain ⟨F1, hF1⟩ : ∃ F, decide ((psQ (qt a1) false).fault = 0) = F := ⟨_, rfl⟩
  have t0 : ∀ w' : World, Calls Tryd.prog 13 #[.string (qt a0), .agg #[.bool false, .bool false]] w' fun e w'' => (∃ o : Bool, e = .returned (.tuple #[.bool F0, .bool o])) ∧ Below w'.heap.size w' w'' := fun w' => by
    have := taken_q (qt a0) false false w' q0 (qt_0 a0)
    rw [hF0] at this
    exact this.mono fun e w'' h => ⟨⟨_, h.1⟩, h.2⟩
  have t1 : ∀ w' : World, Calls Tryd.prog 13 #[.string (qt a1), .agg #[.bool false, .bool false]] w' fun e w'' => (∃ o : Bool, e = .returned (.tuple #[.bool F1, .bool o])) ∧ Below w'.heap.size w' w'' := fun w' => by
    have := taken_q (qt a1) false false w' q1 (qt_0 a1)
    rw [hF1] at this
    exact this.mono fun e w'' h => ⟨⟨_, h.1⟩, h.2⟩
  obtain ⟨r, hr⟩ : ∃ r, Hid ((decide (a0.size ≤ 1000) && decide (a1.size ≤ 1000)) = r) := ⟨_, Lib.hid rfl⟩
  have fit : ∀ w' : World, Calls Tryd.prog 15 #[.slice (some ⟨w'.heap.size, 0, none⟩) 2 2] (w'.alloc (.cells #[.string a0, .string a1] 9)) fun e w'' => e = .returned (.bool r) ∧ w'' = w'.alloc (.cells #[.string a0, .string a1] 9) := fun w' => f8two a0 a1 _ _ r hr (strs2 _ _ _ _) w0 w1
  have bw : ∀ {u v : World}, Below w.heap.size w u → Below u.heap.size u v → Below w.heap.size w v := fun h k => h.trans (k.mono h.size)
  have ba : ∀ {u : World} (o : Obj), Below w.heap.size w u → Below w.heap.size w (u.alloc o) := fun o h => h.alloc h.size _
  cases r
  · clear hF0 hF1
    go_enter Tryd.func6, Tryd.ntmps6
    go_upto_region 4 with fail
    cases F0 <;> cases F1
    all_goals
      go_wp2_with (first
        | (go_at_call 13; refine (t0 _).mono ?_; clear t0; rintro e wa ⟨⟨oa, rfl⟩, hba⟩; have hb1 := bw (Below.refl _ _) hba)
        | (go_at_call 13; refine (t1 _).mono ?_; rintro e wb ⟨⟨ob, rfl⟩, hbb⟩; have hb2 := bw hb1 hbb)
        | (go_at_call 15; refine (fit _).mono ?_; rintro e wc ⟨rfl, rfl⟩; have hb3 := ba (.cells #[.string a0, .string a1] 9) hb2))
      all_goals go_ret
      exact ⟨rfl, hb3⟩
  · cases F0
    · clear hF0 hF1
      go_enter Tryd.func6, Tryd.ntmps6
      go_upto_region 4 with fail
      cases F1
      all_goals
        go_wp2_with (first
          | (go_at_call 13; refine (t0 _).mono ?_; clear t0; rintro e wa ⟨⟨oa, rfl⟩, hba⟩; have hb1 := bw (Below.refl _ _) hba)
          | (go_at_call 13; refine (t1 _).mono ?_; rintro e wb ⟨⟨ob, rfl⟩, hbb⟩; have hb2 := bw hb1 hbb)
          | (go_at_call 15; refine (fit _).mono ?_; rintro e wc ⟨rfl, rfl⟩; have hb3 := ba (.cells #[.string a0, .string a1] 9) hb2))
        all_goals go_ret
        exact ⟨rfl, hb3⟩
    · cases F1
      · clear hF0 hF1
        go_enter Tryd.func6, Tryd.ntmps6
        go_upto_region 4 with fail
        go_wp2_with (first
          | (go_at_call 13; refine (t0 _).mono ?_; clear t0; rintro e wa ⟨⟨oa, rfl⟩, hba⟩; have hb1 := bw (Below.refl _ _) hba)
          | (go_at_call 13; refine (t1 _).mono ?_; rintro e wb ⟨⟨ob, rfl⟩, hbb⟩; have hb2 := bw hb1 hbb)
          | (go_at_call 15; refine (fit _).mono ?_; rintro e wc ⟨rfl, rfl⟩; have hb3 := ba (.cells #[.string a0, .string a1] 9) hb2))
        all_goals go_ret
        exact ⟨rfl, hb3⟩
      · have hsz : a0.size ≤ 1000 ∧ a1.size ≤ 1000 := by simpa using hr.out
        obtain ⟨s0, s1⟩ := hsz
        obtain ⟨j1, j2, j3, j4⟩ := unq_join a0 a1 (of_decide_eq_true hF0) (of_decide_eq_true hF1)
        have e2 : ⟨#[34]⟩ ++ a0 ++ a1 ++ ⟨#[34]⟩ = qt (a0 ++ a1) := by apply bl_inj; unfold qt; simp only [bl_append, List.append_assoc]
        have l0 := uq_len (qt a0)
        have l1 := uq_len (qt a1)
        rw [qt_size] at l0 l1
        have hcat : txt (uq (qt a0)).1 ++ txt (uq (qt a1)).1 = txt ((uq (qt a0)).1 ++ (uq (qt a1)).1) := txt_app (uq_by _) (uq_by _)
        have g0 : (txt (uq (qt a0)).1).size ≤ 4008 := by rw [txt_size]; omega
        have g1 : (txt (uq (qt a1)).1).size ≤ 4008 := by rw [txt_size]; omega
        have u0 : ∀ w' : World, Below w.heap.size w w' → Calls Tryd.prog 17 #[.string ⟨#[]⟩, .string (qt a0)] w' fun e w'' => e = .returned (.tuple #[.string (txt (uq (qt a0)).1), .bool true]) ∧ Below w'.heap.size w' w'' := fun w' h => by
          have := implUnquote ⟨#[]⟩ (qt a0) w' w.heap.size h.size (by simp [ByteArray.size]) (by rw [qt_size]; omega) (hT.below h) (hU.below h) (hI.below h)
          rw [unq_empty, j1] at this
          exact this
        have u1 : ∀ w' : World, Below w.heap.size w w' → Calls Tryd.prog 17 #[.string ⟨#[]⟩, .string (qt a1)] w' fun e w'' => e = .returned (.tuple #[.string (txt (uq (qt a1)).1), .bool true]) ∧ Below w'.heap.size w' w'' := fun w' h => by
          have := implUnquote ⟨#[]⟩ (qt a1) w' w.heap.size h.size (by simp [ByteArray.size]) (by rw [qt_size]; omega) (hT.below h) (hU.below h) (hI.below h)
          rw [unq_empty, j2] at this
          exact this
        have u2 : ∀ w' : World, Below w.heap.size w w' → Calls Tryd.prog 17 #[.string ⟨#[]⟩, .string (⟨#[34]⟩ ++ a0 ++ a1 ++ ⟨#[34]⟩)] w' fun e w'' => e = .returned (.tuple #[.string (txt ((uq (qt a0)).1 ++ (uq (qt a1)).1)), .bool true]) ∧ Below w'.heap.size w' w'' := fun w' h => by
          have := implUnquote ⟨#[]⟩ (qt (a0 ++ a1)) w' w.heap.size h.size (by simp [ByteArray.size]) (by rw [qt_size, ByteArray.size_append]; omega) (hT.below h) (hU.below h) (hI.below h)
          rw [unq_empty, j3, j4] at this
          rw [e2]
          exact this
        revert hcat g0 g1 u0 u1 u2
        generalize txt ((uq (qt a0)).1 ++ (uq (qt a1)).1) = S2
        generalize txt (uq (qt a0)).1 = S0
        generalize txt (uq (qt a1)).1 = S1
        intro hcat g0 g1 u0 u1 u2
        have HC := Lib.hid hcat
        clear hF0 hF1 j1 j2 j3 j4 l0 l1 e2 hcat hT hU hI
        go_enter Tryd.func6, Tryd.ntmps6
        go_upto_region 4 with fail
        go_wp2_with (first
          | (go_at_call 13; refine (t0 _).mono ?_; clear t0; rintro e wa ⟨⟨oa, rfl⟩, hba⟩; have hb1 := bw (Below.refl _ _) hba)
          | (go_at_call 13; refine (t1 _).mono ?_; rintro e wb ⟨⟨ob, rfl⟩, hbb⟩; have hb2 := bw hb1 hbb)
          | (go_at_call 15; refine (fit _).mono ?_; rintro e wc ⟨rfl, rfl⟩; have hb3 := ba (.cells #[.string a0, .string a1] 9) hb2)
          | (go_at_call 17; refine (u0 _ hb3).mono ?_; clear u0; rintro e wd ⟨rfl, hbd⟩; have hb4 := bw hb3 hbd)
          | (go_at_call 17; refine (u1 _ hb4).mono ?_; clear u1; rintro e we ⟨rfl, hbe⟩; have hb5 := bw hb4 hbe)
          | (go_at_call 17; refine (u2 _ hb5).mono ?_; rintro e wf ⟨rfl, hbf⟩; have hb6 := bw hb5 hbf))
        all_goals go_ret
        exact ⟨congrArg (fun b => Ending.returned (.bool b)) (by rw [HC.out]; exact beq_self_eq_true _), hb6⟩
end Go.Proofs.YtokhmhbjbclcoaaDoor

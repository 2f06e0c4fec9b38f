/- The law of unquoting behind another text: the walk. -/
import Derived.Test.YtokhmhbjbclcoaaDoorUi
import Derived.Test.YtokhmhbjbclcoaaDoorUj
import Derived.Test.YtokhmhbjbclcoaaDoorSt
import Derived.Test.YtokhmhbjbclcoaaDoorWt
import Derived.Test.YtokhmhbjbclcoaaDoorDe
namespace Go.Proofs.YtokhmhbjbclcoaaDoor
set_option linter.unusedVariables false
set_option linter.unusedSimpArgs false
open Go.RowKit

theorem oldRules_any (w : World) : Calls Tryd.prog 14 #[] w fun e w' => e = .returned (.agg #[.bool true, .bool true]) ∧ Below w.heap.size w w' := by
  go_enter Tryd.func14, Tryd.ntmps14
  go_wp2
  have h := heap_alloc_new w (.cells #[.bool true, .bool true] 32)
  have c0 : (w.alloc (.cells #[.bool true, .bool true] 32)).cell? ⟨w.heap.size, 0, none⟩ = some (.bool true) := by simp only [World.cell?, h]; rfl
  have c1 : (w.alloc (.cells #[.bool true, .bool true] 32)).cell? ⟨w.heap.size, 1, none⟩ = some (.bool true) := by simp only [World.cell?, h]; rfl
  clear h
  refine bodyPost_ret (v := .agg #[.bool true, .bool true]) (by simp [results, Tryd.results14, go_sem, c0, c1]; try rfl) rfl ?_
  exact ⟨rfl, (Below.refl _ _).alloc (Nat.le_refl _) _⟩
theorem inner_of (s : ByteArray) (h2 : 2 ≤ s.size) : (s.extract 1 (s.size - 1)).size = s.size - 2 ∧ ∀ i, i < (s.extract 1 (s.size - 1)).size → bAt (s.extract 1 (s.size - 1)) i = bAt s (i + 1) := by
  have hz : (s.extract 1 (s.size - 1)).size = s.size - 2 := by rw [ByteArray.size_extract]; omega
  refine ⟨hz, fun i hi => ?_⟩
  rw [hz] at hi
  rw [bAt_lt (by rw [hz]; exact hi), bAt_lt (s := s) (i := i + 1) (by omega), ByteArray.getElem_extract]
  congr 2
  simp [Nat.add_comm]
/-- What the three readers say of a text between quotation marks. -/
theorem unq_law {s : ByteArray} (h0 : bAt s 0 = 34) (hl : bAt s (s.size - 1) = 34) (hf : (psQ s true).fault = 0) :
    ∃ X b, 2 ≤ s.size ∧ uq s = (X, b) ∧ dO (s.extract 1 (s.size - 1)) (s.extract 1 (s.size - 1)).size 0 = (X, !b) ∧ At (s.extract 1 (s.size - 1)) 0 := by
  obtain ⟨X, b, h2, r⟩ := taken_lr h0 hl hf
  obtain ⟨hz, hS⟩ := inner_of s h2
  exact ⟨X, b, h2, lr_uq h0 hl h2 r, lr_d hS (by omega) r 0 rfl (by omega) _ (by omega), lr_at hS (by omega) r 0 rfl (by omega)⟩
theorem uq_bad0 {s : ByteArray} (h : s.size = 0 ∨ bAt s 0 ≠ 34) : (uq s).2 = true := by
  unfold uq
  split
  · rfl
  · rw [if_neg (by omega)]

set_option maxRecDepth 100000 in
set_option maxHeartbeats 4000000 in
theorem walk_FnUnquote (a0 : ByteArray) (w0 : a0.size ≤ maxLen) (a1 : ByteArray) (w1 : a1.size ≤ maxLen) (w : World) (hT : TabsB w.heap.size w) (hU : EofB w.heap.size w) (hI : InvB w.heap.size w) :
    Calls Tryd.prog 5 #[.string a0, .string a1] w fun e w' => e = .returned (.bool true) ∧ Below w.heap.size w w' := by
  have hs0 := w0
  have hs1 := w1
  unfold maxLen at hs0 hs1
  by_cases hz : 2147483647 < (a0.size : Int)
  · go_enter Tryd.func5, Tryd.ntmps5
    go_wp2_with fail
    all_goals go_ret
    exact ⟨rfl, Below.refl _ _⟩
  by_cases hz1 : 2147483647 < (a1.size : Int)
  · go_enter Tryd.func5, Tryd.ntmps5
    go_wp2_with fail
    all_goals go_ret
    exact ⟨rfl, Below.refl _ _⟩
  have z0 : (a0.size : Int) ≤ 2147483647 := by omega
  have z1 : (a1.size : Int) ≤ 2147483647 := by omega
  clear hz hz1
  obtain ⟨r, hr⟩ : ∃ r, Hid ((decide (a0.size ≤ 1000) && decide (a1.size ≤ 1000)) = r) := ⟨_, Lib.hid rfl⟩
  have fit : ∀ w' : World, Calls Tryd.prog 15 #[.slice (some ⟨w'.heap.size, 0, none⟩) 2 2] (w'.alloc (.cells #[.string a0, .string a1] 9)) fun e w'' => e = .returned (.bool r) ∧ w'' = w'.alloc (.cells #[.string a0, .string a1] 9) := fun w' => f8two a0 a1 _ _ r hr (strs2 _ _ _ _) w0 w1
  cases r
  · go_enter Tryd.func5, Tryd.ntmps5
    go_wp2_with (go_at_call 15; refine (fit _).mono ?_; rintro e wc ⟨rfl, rfl⟩)
    all_goals go_ret
    exact ⟨rfl, (Below.refl _ _).alloc (Nat.le_refl _) _⟩
  have hsz : a0.size ≤ 1000 ∧ a1.size ≤ 1000 := by simpa using hr.out
  obtain ⟨s0, s1⟩ := hsz
  have bw : ∀ {u v : World}, Below w.heap.size w u → Below u.heap.size u v → Below w.heap.size w v := fun h k => h.trans (k.mono h.size)
  have hb0 : Below w.heap.size w (w.alloc (.cells #[.string a0, .string a1] 9)) := (Below.refl _ _).alloc (Nat.le_refl _) _
  have hun := implUnquote a0 a1 (w.alloc (.cells #[.string a0, .string a1] 9)) w.heap.size hb0.size (by omega) (by omega) (hT.below hb0) (hU.below hb0) (hI.below hb0)
  -- what is unquoted with a fault
  have bad : ∀ (t0 : Bool → Prop), (uq a1).2 = true → (∀ w' : World, Calls Tryd.prog 13 #[.string a1, .agg #[.bool true, .bool true]] w' fun e w'' => (∃ t o, e = .returned (.tuple #[.bool t, .bool o]) ∧ t0 t) ∧ Below w'.heap.size w' w'') →
      (t0 true → ∃ (h : 0 < a1.size), ((a1[0].toNat : Nat) : Int) ≠ 34 ∨ ((a1[a1.size - 1].toNat : Nat) : Int) ≠ 34) →
      Calls Tryd.prog 5 #[.string a0, .string a1] w fun e w' => e = .returned (.bool true) ∧ Below w.heap.size w w' := fun t0 hb htk hno => by
    rw [hb] at hun
    have hun2 : Calls Tryd.prog 17 #[.string a0, .string a1] (w.alloc (.cells #[.string a0, .string a1] 9)) fun e w'' => e = .returned (.tuple #[.string (unquoted a0 a1), .bool false]) ∧ Below (w.alloc (.cells #[.string a0, .string a1] 9)).heap.size (w.alloc (.cells #[.string a0, .string a1] 9)) w'' := hun
    generalize unquoted a0 a1 = SU at hun2
    have HNO := Lib.hid hno
    clear hno hun hb hT hU hI
    go_enter Tryd.func5, Tryd.ntmps5
    go_upto_region 7 with (first
      | (go_at_call 15; refine (fit _).mono ?_; rintro e wc ⟨rfl, rfl⟩)
      | (go_at_call 17; refine hun2.mono ?_; rintro e w2 ⟨rfl, hb2⟩; have hb3 := bw hb0 hb2)
      | (go_at_call 14; refine (oldRules_any _).mono ?_; rintro e w3 ⟨rfl, hb4⟩; have hb5 := bw hb3 hb4)
      | (go_at_call 13; refine (htk _).mono ?_; rintro e w4 ⟨⟨t, o, rfl, ht⟩, hb6⟩; have hb7 := bw hb5 hb6))
    cases t
    · clear ht
      go_wp2_with fail
      all_goals go_ret
      exact ⟨rfl, hb7⟩
    · obtain ⟨hpos, hor⟩ := HNO.out ht
      have hposI : (0 : Int) < (a1.size : Int) := by omega
      clear ht
      by_cases e0 : ((a1[0].toNat : Nat) : Int) = 34
      · have e1 : (((a1[a1.size - 1].toNat : Nat) : Int) != 34) = true := by rcases hor with h | h; exact absurd e0 h; simpa using h
        clear hor
        go_wp2_with fail
        all_goals go_ret
        exact ⟨rfl, hb7⟩
      · have e0' : (((a1[0].toNat : Nat) : Int) != 34) = true := by simpa using e0
        clear hor e0
        go_wp2_with fail
        all_goals go_ret
        exact ⟨rfl, hb7⟩
  have twk := fun w' => taken_wk (fun _ => True) a1 true true w' (by omega) (fun _ _ _ => trivial) (fun h => by cases h)
  by_cases hz : a1.size = 0
  · exact bad (fun t => t = false) (uq_bad0 (.inl hz)) (fun w' => (twk w').mono fun e w'' ⟨⟨t, o, h1, h2⟩, h3⟩ => ⟨⟨t, o, h1, h2 hz⟩, h3⟩) (fun h => by cases h)
  have hpos : 0 < a1.size := by omega
  have b0 := bAt_lt hpos
  have bl1 := bAt_lt (s := a1) (i := a1.size - 1) (by omega)
  by_cases h34 : bAt a1 0 = 34
  case neg => exact bad (fun _ => True) (uq_bad0 (.inr h34)) (fun w' => (twk w').mono fun e w'' ⟨⟨t, o, h1, h2⟩, h3⟩ => ⟨⟨t, o, h1, trivial⟩, h3⟩) (fun _ => ⟨hpos, .inl (by rw [← b0]; exact h34)⟩)
  have tq := fun w' => taken_q a1 true true w' w1 h34
  by_cases hf : (psQ a1 true).fault = 0
  case neg =>
    have hb : (uq a1).2 = true := by
      cases h : (uq a1).2
      · exact absurd (uq_taken h).2.2 hf
      · rfl
    exact bad (fun t => t = false) hb (fun w' => (tq w').mono fun e w'' ⟨h1, h3⟩ => ⟨⟨_, _, h1, decide_eq_false hf⟩, h3⟩) (fun h => by cases h)
  by_cases hl : bAt a1 (a1.size - 1) = 34
  case neg =>
    have hb : (uq a1).2 = true := by
      cases h : (uq a1).2
      · exact absurd (uq_taken h).2.1 hl
      · rfl
    exact bad (fun _ => True) hb (fun w' => (tq w').mono fun e w'' ⟨h1, h3⟩ => ⟨⟨_, _, h1, trivial⟩, h3⟩) (fun _ => ⟨hpos, .inr (by rw [← bl1]; exact hl)⟩)
  obtain ⟨X, b, h2, hq, hd, hat⟩ := unq_law h34 hl hf
  have hdec := fun w' => specDecode_any a1 _ w' (by omega) h2 rfl hat
  rw [hd] at hdec
  have hX8 : By8 X := by have := uq_by a1; rw [hq] at this; exact this
  have hcat : unquoted a0 a1 = a0 ++ txt X := by
    apply bl_inj
    unfold unquoted
    rw [hq, bl_append, bl_txt hX8, bl_txt ((bl_by8 a0).app hX8)]
  rw [hcat, hq] at hun
  have hlen : X.length ≤ 4 * a1.size := by have := uq_len a1; rw [hq] at this; exact this
  have hXs : (txt X).size ≤ 4000 := by rw [txt_size]; omega
  have tk : ∀ w' : World, Calls Tryd.prog 13 #[.string a1, .agg #[.bool true, .bool true]] w' fun e w'' => (∃ o : Bool, e = .returned (.tuple #[.bool true, .bool o])) ∧ Below w'.heap.size w' w'' := fun w' => by
    have := tq w'
    rw [decide_eq_true hf] at this
    exact this.mono fun e w'' h => ⟨⟨_, h.1⟩, h.2⟩
  have e0 : ((a1[0].toNat : Nat) : Int) = 34 := by rw [← b0]; exact h34
  have e1 : ((a1[a1.size - 1].toNat : Nat) : Int) = 34 := by rw [← bl1]; exact hl
  have hposI : (0 : Int) < (a1.size : Int) := by omega
  clear bad twk hz b0 bl1 h34 tq hf hl hq hd hat hX8 hcat hlen hT hU hI
  dsimp only at hun hdec
  generalize txt X = S at hun hdec hXs
  cases b
  all_goals
    go_enter Tryd.func5, Tryd.ntmps5
    go_wp2_with (first
      | (go_at_call 15; refine (fit _).mono ?_; rintro e wc ⟨rfl, rfl⟩)
      | (go_at_call 17; refine hun.mono ?_; rintro e w2 ⟨rfl, hb2⟩; have hb3 := bw hb0 hb2)
      | (go_at_call 14; refine (oldRules_any _).mono ?_; rintro e w3 ⟨rfl, hb4⟩; have hb5 := bw hb3 hb4)
      | (go_at_call 13; refine (tk _).mono ?_; rintro e w4 ⟨⟨o, rfl⟩, hb6⟩; have hb7 := bw hb5 hb6)
      | (go_at_call 18; refine (hdec _).mono ?_; rintro e w5 ⟨rfl, hb8⟩; have hb9 := bw hb7 hb8))
    all_goals go_ret
    exact ⟨rfl, hb9⟩
end Go.Proofs.YtokhmhbjbclcoaaDoor

/- Made compact and escaped at once, or one behind the other: the walk of the law. -/
import Derived.Test.YtjbffgjclnjkoaaAt
import Derived.Test.YtjbffgjclnjkoaaJt
namespace Go.Proofs.Ytjbffgjclnjkoaa
set_option linter.unusedVariables false
set_option linter.unusedSimpArgs false
open Go.RowKit Go.Shelf

theorem oldRulesT_any (w : World) : Calls Try.prog 14 #[] w fun e w' => e = .returned (.agg #[.bool true, .bool true]) ∧ Below w.heap.size w w' := by
  go_enter Try.func14, Try.ntmps14
  go_wp2
  have h := heap_alloc_new w (.cells #[.bool true, .bool true] 31)
  have c0 : (w.alloc (.cells #[.bool true, .bool true] 31)).cell? ⟨w.heap.size, 0, none⟩ = some (.bool true) := by simp only [World.cell?, h]; rfl
  have c1 : (w.alloc (.cells #[.bool true, .bool true] 31)).cell? ⟨w.heap.size, 1, none⟩ = some (.bool true) := by simp only [World.cell?, h]; rfl
  clear h
  refine bodyPost_ret (v := .agg #[.bool true, .bool true]) (by simp [results, Try.results14, go_sem, c0, c1]; try rfl) rfl ?_
  exact ⟨rfl, (Below.refl _ _).alloc (Nat.le_refl _) _⟩
theorem taken_old (s : ByteArray) (hs : s.size ≤ 2147483647) (w : World) : Calls Try.prog 13 #[.string s, .agg #[.bool true, .bool true]] w fun e w' => (∃ o, e = .returned (.tuple #[.bool (validQ sc0 (bl s)), .bool o])) ∧ Below w.heap.size w w' :=
  (taken_ex (fun _ => True) s true true w hs (fun _ _ _ => trivial) (fun h => by cases h)).mono fun e w'' ⟨⟨t', o, σG, h1, h2, h3⟩, h4⟩ => by
    refine ⟨⟨o, ?_⟩, h4⟩
    have hv := parse_valid h2.2
    have : t' = validQ sc0 (bl s) := by
      rw [h3]
      cases h : validQ sc0 (bl s)
      · rw [h] at hv; simpa using hv
      · rw [h] at hv; simpa using hv
    rw [h1, this]
set_option maxRecDepth 100000 in
set_option maxHeartbeats 4000000 in
theorem walk_FnOldTight (a0 a1 : ByteArray) (w0 : a0.size ≤ maxLen) (w1 : a1.size ≤ maxLen) (w : World) :
    Calls Try.prog 5 #[.string a0, .string a1] w fun e w' => e = .returned (.bool true) ∧ Below w.heap.size w w' := by
  have hs0 := w0
  have hs1 := w1
  unfold maxLen at hs0 hs1
  by_cases hz0 : 2147483647 < (a0.size : Int)
  · go_enter Try.func5, Try.ntmps5
    go_wp2_with fail
    all_goals go_ret
    exact ⟨rfl, Below.refl _ _⟩
  by_cases hz1 : 2147483647 < (a1.size : Int)
  · go_enter Try.func5, Try.ntmps5
    go_wp2_with fail
    all_goals go_ret
    exact ⟨rfl, Below.refl _ _⟩
  obtain ⟨r, hr⟩ : ∃ r, Hid ((decide (a0.size ≤ 1000) && decide (a1.size ≤ 1000)) = r) := ⟨_, Lib.hid rfl⟩
  have tk := fun w' => taken_old a1 (by omega) w'
  obtain ⟨V, hV⟩ : ∃ V, validQ sc0 (bl a1) = V := ⟨_, rfl⟩
  rw [hV] at tk
  cases r
  · clear hV hs0 hs1
    go_enter Try.func5, Try.ntmps5
    go_wp2_with (first
      | (go_at_call 14; refine (oldRulesT_any _).mono ?_; rintro e w3 ⟨rfl, hb3⟩)
      | (go_at_call 13; refine (tk _).mono ?_; rintro e w4 ⟨⟨o, rfl⟩, hb4⟩; have hb5 := bwT hb3 hb4)
      | (go_at_call 6; refine (f8two a0 a1 _ _ false hr (strs2 _ _ _ _) w0 w1).mono ?_; rintro e w6 ⟨rfl, hw6⟩; obtain rfl := hw6.symm))
    all_goals go_ret
    exact ⟨rfl, hb5.alloc hb5.size _⟩
  have hl : a0.size ≤ 1000 ∧ a1.size ≤ 1000 := by simpa using hr.out
  cases V
  · clear hV hs0 hs1
    go_enter Try.func5, Try.ntmps5
    go_wp2_with (first
      | (go_at_call 14; refine (oldRulesT_any _).mono ?_; rintro e w3 ⟨rfl, hb3⟩)
      | (go_at_call 13; refine (tk _).mono ?_; rintro e w4 ⟨⟨o, rfl⟩, hb4⟩; have hb5 := bwT hb3 hb4)
      | (go_at_call 6; refine (f8two a0 a1 _ _ true hr (strs2 _ _ _ _) w0 w1).mono ?_; rintro e w6 ⟨rfl, hw6⟩; obtain rfl := hw6.symm))
    all_goals go_ret
    exact ⟨rfl, hb5.alloc hb5.size _⟩
  have hVQ := vq_of _ sc0 rfl hV
  obtain ⟨t1, t2⟩ := tight_esc (bl a1).length (bl a1) sc0 (Nat.le_refl _) wl0 hVQ
  have b1 : By8 (heL (bl a1)) := heL_by (bl_by8 a1)
  have b2 : By8 (cmpQ sc0 (bl a1)) := cmp_by (bl_by8 a1) sc0
  have hE : (ByteArray.mk #[]).size ≤ 100000000000 := by decide
  have hbE : bl (ByteArray.mk #[]) = [] := rfl
  have len1 := heL_len (bl a1) 0
  have len2 := cmp_len (bl a1) sc0
  rw [bl_len] at len1 len2
  have hT1 := fun w' => oldTight_any a0 a1 true w' (by omega) (by omega) hV
  have hT2 := fun w' => oldTight_any (ByteArray.mk #[]) a1 false w' hE (by omega) hV
  have hS1 := fun w' => oldSafe_any (ByteArray.mk #[]) a1 w' hE (by omega)
  obtain ⟨X, hX⟩ : ∃ X, txt (heL (bl a1)) = X := ⟨_, rfl⟩
  have hbX : bl X = heL (bl a1) := by rw [← hX, bl_txt b1]
  have hXz : X.size ≤ 6 * a1.size := by rw [← bl_len, hbX]; exact len1
  have hT3 := fun w' => oldTight_any a0 X false w' (by omega) (by omega) (by rw [hbX]; exact of_vq _ _ t2)
  obtain ⟨Y, hY⟩ : ∃ Y, txt (cmpQ sc0 (bl a1)) = Y := ⟨_, rfl⟩
  have hbY : bl Y = cmpQ sc0 (bl a1) := by rw [← hY, bl_txt b2]
  have hYz : Y.size ≤ a1.size := by rw [← bl_len, hbY]; exact len2
  have hS2 := fun w' => oldSafe_any a0 Y w' (by omega) (by omega)
  simp only [hbE, hbX, hbY, t1, List.nil_append, if_true, Bool.false_eq_true, if_false, hX, hY] at hT1 hT2 hT3 hS1 hS2
  generalize txt (bl a0 ++ heL (cmpQ sc0 (bl a1))) = Z at hT1 hT3 hS2
  clear hX hY hbX hbY hXz hYz len1 len2 b1 b2 t1 t2 hVQ hV hl hs0 hs1 hE hbE
  go_enter Try.func5, Try.ntmps5
  go_upto_region 9 with (first
    | (go_at_call 14; refine (oldRulesT_any _).mono ?_; rintro e w3 ⟨rfl, hb3⟩)
    | (go_at_call 13; refine (tk _).mono ?_; rintro e w4 ⟨⟨o, rfl⟩, hb4⟩; have hb5 := bwT hb3 hb4)
    | (go_at_call 6; refine (f8two a0 a1 _ _ true hr (strs2 _ _ _ _) w0 w1).mono ?_; rintro e w6 ⟨rfl, hw6⟩; obtain rfl := hw6.symm; have hb6 := hb5.alloc hb5.size (.cells #[.string a0, .string a1] 9))
    | (go_at_call 15; refine (hT1 _).mono ?_; rintro e w7 ⟨⟨n7, rfl⟩, hb7⟩; clear hT1; have hb8 := bwT hb6 hb7)
    | (go_at_call 15; refine (hT2 _).mono ?_; rintro e w9 ⟨⟨n9, rfl⟩, hb9⟩; clear hT2; have hb10 := bwT hb8 hb9)
    | (go_at_call 16; refine (hS1 _).mono ?_; rintro e w11 ⟨rfl, hb11⟩; clear hS1; have hb12 := bwT hb10 hb11)
    | (go_at_call 15; refine (hT3 _).mono ?_; rintro e w13 ⟨⟨n13, rfl⟩, hb13⟩; clear hT3; have hb14 := bwT hb12 hb13))
  go_wp2_with (first
    | (go_at_call 16; refine (hS2 _).mono ?_; rintro e w15 ⟨rfl, hb15⟩; have hb16 := bwT hb14 hb15))
  all_goals go_ret
  exact ⟨by first | rfl | simp, hb16⟩
end Go.Proofs.Ytjbffgjclnjkoaa

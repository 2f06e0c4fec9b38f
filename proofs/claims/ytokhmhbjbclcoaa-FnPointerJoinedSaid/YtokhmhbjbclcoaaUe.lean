/- A token without its escapes; a text without the slash at its beginning. -/
import Derived.Test.YtokhmhbjbclcoaaIy
namespace Go.Proofs.Ytokhmhbjbclcoaa
set_option linter.unusedVariables false
set_option linter.unusedSimpArgs false
open Go.RowKit

theorem bw2 {w a b : World} (h : Below w.heap.size w a) (k : Below a.heap.size a b) : Below w.heap.size w b := Below.trans h (Below.mono k h.size)
set_option maxRecDepth 100000 in
set_option maxHeartbeats 4000000 in
theorem unescape_any (s : ByteArray) (w : World) (hs : s.size ≤ 1000000000) :
    Calls Try.prog 17 #[.string s] w fun e w' => e = .returned (.string (txt (repP 48 126 (repP 49 47 (bl s))))) ∧ Below w.heap.size w w' := by
  have hz := fun w => zzIndex_any s ⟨#[126]⟩ w (by omega) (by decide)
  rcases idx_spec s ⟨#[126]⟩ (s.size + 1) 0 (by omega) with ⟨h1, h2⟩ | ⟨k, h1, h2, h3, h4, h5⟩
  · rw [h1] at hz
    have hno : ∀ x ∈ bl s, x ≠ 126 := by
      intro x hx e
      subst e
      obtain ⟨j, hj, hje⟩ := List.mem_iff_getElem.1 hx
      rw [bl_len] at hj
      refine h2 j (Nat.zero_le _) (by show j + 1 ≤ s.size; omega) ?_
      show bl (s.extract j (j + 1)) = [126]
      rw [bl_sub s j (j + 1) (by omega) (by omega), sub_one, bAt_bl (rfl : bl s = bl s) j (by rw [bl_len]; exact hj), hje]
    have hE : txt (repP 48 126 (repP 49 47 (bl s))) = s := by rw [repP_none 49 47 _ hno, repP_none 48 126 _ hno, txt_bl]
    rw [hE]
    clear h1 h2 hno hE hs
    go_enter Try.func17, Try.ntmps17
    go_wp2_with (first | (go_at_call 28; refine (hz _).mono ?_; rintro e w2 ⟨rfl, rfl⟩) | (go_at_call 23; go_in))
    all_goals go_ret
    exact ⟨rfl, Below.refl _ _⟩
  · rw [h1] at hz
    have e8 : By8 (repP 49 47 (bl s)) := repP_by (by decide) _ (bl_by8 s)
    have hr1 := fun w => zzReplace_any s ⟨#[126, 49]⟩ ⟨#[47]⟩ 49 47 rfl rfl w hs
    have hl1 := repP_len 49 47 (bl s)
    rw [bl_len] at hl1
    have hr2 := fun w => zzReplace_any (txt (repP 49 47 (bl s))) ⟨#[126, 48]⟩ ⟨#[126]⟩ 48 126 rfl rfl w (by rw [txt_size]; omega)
    rw [bl_txt e8] at hr2
    generalize repP 49 47 (bl s) = L at *
    generalize txt (repP 48 126 L) = S at *
    generalize txt L = T at *
    have hk : (0 : Int) ≤ (k : Int) := by omega
    clear h1 h2 h3 h4 h5 e8 hl1 hs
    go_enter Try.func17, Try.ntmps17
    go_wp2_with (first | (go_at_call 28; refine (hz _).mono ?_; rintro e w2 ⟨rfl, rfl⟩) | (go_at_call 23; go_in))
    refine (hr1 _).mono ?_
    rintro e w3 ⟨rfl, hb3⟩
    go_wp2_with fail
    refine (hr2 _).mono ?_
    rintro e w4 ⟨rfl, hb4⟩
    go_wp2_with fail
    all_goals go_ret
    exact ⟨rfl, bw2 hb3 hb4⟩

set_option maxRecDepth 100000 in
set_option maxHeartbeats 4000000 in
theorem trimSlash_any (L : ByteArray) (w : World) (h1 : 1 ≤ L.size) (h0 : bAt L 0 = 47) (hs : L.size ≤ 1000000000) :
    Calls Try.prog 15 #[.string L, .string ⟨#[47]⟩] w fun e w' => e = .returned (.string (L.extract 1 L.size)) ∧ w' = w := by
  have H2 : ((L.extract 0 1).toList == [47]) = true := by
    have h := toList_beq (L.extract 0 1) ⟨#[47]⟩
    have e : (⟨#[47]⟩ : ByteArray).toList = [47] := by rw [ByteArray.toList_eq]
    rw [e] at h
    rw [h, bl_sub L 0 1 h1 (Nat.zero_le _)]
    have : sub L 0 1 = [47] := by rw [sub_one L 0, h0]
    rw [this]
    exact decide_eq_true rfl
  have h1' : (1 : Int) ≤ (L.size : Int) := by omega
  clear h0 hs
  go_enter Try.func15, Try.ntmps15
  go_wp2_with (first | go_in)
  all_goals go_ret
  all_goals exact ⟨rfl, rfl⟩

end Go.Proofs.Ytokhmhbjbclcoaa

/- A token's escapes are taken back: the walks. -/
import Derived.Test.YtokhmhbjbclcoaaIx
namespace Go.Proofs.Ytokhmhbjbclcoaa
set_option linter.unusedVariables false
set_option linter.unusedSimpArgs false
open Go.RowKit

theorem toList_beq (a b : ByteArray) : (a.toList == b.toList) = decide (bl a = bl b) := by
  by_cases h : bl a = bl b
  · rw [bl_inj h]; simp
  · rw [decide_eq_false h, beq_eq_false_iff_ne]
    intro e
    apply h
    rw [ByteArray.toList_eq, ByteArray.toList_eq] at e
    unfold bl
    rw [e]
theorem idx_spec (s u : ByteArray) : ∀ (g i : Nat), s.size + 1 - i ≤ g →
    (idxF s u g i = -1 ∧ ∀ j, i ≤ j → j + u.size ≤ s.size → bl (s.extract j (j + u.size)) ≠ bl u) ∨
    (∃ k : Nat, idxF s u g i = (k : Int) ∧ i ≤ k ∧ k + u.size ≤ s.size ∧ bl (s.extract k (k + u.size)) = bl u ∧ ∀ j, i ≤ j → j < k → bl (s.extract j (j + u.size)) ≠ bl u)
  | 0, i, hg => Or.inl ⟨rfl, fun j h1 h2 => by omega⟩
  | g + 1, i, hg => by
    unfold idxF
    by_cases hi : i + u.size ≤ s.size
    · rw [if_pos hi, toList_beq]
      by_cases he : bl (s.extract i (i + u.size)) = bl u
      · rw [if_pos (decide_eq_true he)]
        exact Or.inr ⟨i, rfl, Nat.le_refl _, hi, he, fun j h1 h2 => by omega⟩
      · rw [if_neg (by simpa using he)]
        rcases idx_spec s u g (i + 1) (by omega) with ⟨h1, h2⟩ | ⟨k, h1, h2, h3, h4, h5⟩
        · refine Or.inl ⟨h1, fun j h3 h4 => ?_⟩
          by_cases e : j = i
          · subst e; exact he
          · exact h2 j (by omega) h4
        · refine Or.inr ⟨k, h1, by omega, h3, h4, fun j h6 h7 => ?_⟩
          by_cases e : j = i
          · subst e; exact he
          · exact h5 j (by omega) h7
    · rw [if_neg hi]
      exact Or.inl ⟨rfl, fun j h1 h2 => by omega⟩
theorem bl_get (s : ByteArray) (j : Nat) (h : j < s.size) : (bl s)[j]? = some (bAt s j) := by
  have h2 : j < (bl s).length := by rw [bl_len]; exact h
  rw [List.getElem?_eq_getElem h2, ← bAt_bl (rfl : bl s = bl s) j h2]
theorem ext_two (s : ByteArray) (j : Nat) (h : j + 2 ≤ s.size) : bl (s.extract j (j + 2)) = [bAt s j, bAt s (j + 1)] := by
  rw [bl_sub s j (j + 2) h (by omega)]; simp [sub, List.range_succ]
theorem pair_iff (s : ByteArray) (c : Int) (j : Nat) : ((bl s)[j]? = some 126 ∧ (bl s)[j + 1]? = some c) ↔ (j + 2 ≤ s.size ∧ bAt s j = 126 ∧ bAt s (j + 1) = c) := by
  by_cases h : j + 2 ≤ s.size
  · rw [bl_get s j (by omega), bl_get s (j + 1) (by omega)]
    simp [h]
  · have : (bl s)[j + 1]? = none := List.getElem?_eq_none (by rw [bl_len]; omega)
    rw [this]; simp [h]

set_option maxRecDepth 100000 in
set_option maxHeartbeats 4000000 in
theorem zzReplace_any (s u n : ByteArray) (c d : Int) (hu : bl u = [126, c]) (hn : bl n = [d]) (w : World) (hs : s.size ≤ 1000000000) :
    Calls Try.prog 24 #[.string s, .string u, .string n] w fun e w' => e = .returned (.string (txt (repP c d (bl s)))) ∧ Below w.heap.size w w' := by
  obtain ⟨i0, hi, hz0, hz1, hz2⟩ := info_parts Try.infoU8
  obtain ⟨B, HB⟩ : ∃ B, Hid (w.heap.size = B) := ⟨_, Lib.hid rfl⟩
  obtain ⟨R, HR⟩ : ∃ R, Hid (repP c d (bl s) = R) := ⟨_, Lib.hid rfl⟩
  have hRl : R.length ≤ 1000000000 := by rw [← HR.out]; have := repP_len c d (bl s); rw [bl_len] at this; omega
  rw [HR.out]
  have A0 : Aside ([] ++ repP c d (bl s) = R) := HR.out
  have hus : u.size = 2 := by rw [← bl_len, hu]; rfl
  have hns : n.size = 1 := by rw [← bl_len, hn]; rfl
  have hb0 : Below B w w := Below.refl _ _
  go_enter Try.func24, Try.ntmps24
  go_wp2_with fail
  go_loopg [0, 7] (s.size + 1) (fun g a o wr => ∃ (t : ByteArray) (l : List Int), a = .string t ∧ t.size < g ∧ t.size ≤ s.size ∧ Bs wr B o l ∧ Below B w wr ∧ Aside (l ++ repP c d (bl t) = R))
  case atStart => exact ⟨s, [], rfl, by omega, Nat.le_refl _, Bs.nil w B, hb0, A0⟩
  case round =>
    clear A0 hb0
    obtain ⟨t, l, rfl, hg, hts, hb, hbel, A⟩ := hrel
    have hBr : B ≤ wr.heap.size := by have := hbel.size; have := HB.out; omega
    have A' : l ++ repP c d (bl t) = R := A
    have hll : l.length ≤ R.length := by rw [← A', List.length_append]; omega
    have hz := fun w => zzIndex_any t u w (by omega) (by omega)
    obtain ⟨G, rfl⟩ : ∃ G, gk = G + 1 := ⟨gk - 1, by omega⟩
    rcases idx_spec t u (t.size + 1) 0 (by omega) with ⟨h1, h2⟩ | ⟨k, h1, h2, h3, h4, h5⟩
    · rw [h1] at hz
      have hR : l ++ bl t = R := by
        rw [← A', repP_no c d (bl t) (fun j hj => by
          rw [pair_iff] at hj
          refine h2 j (Nat.zero_le _) (by omega) ?_
          rw [hus, ext_two t j hj.1, hu, hj.2.1, hj.2.2])]
      have HRR := Lib.hid hR
      clear A A' h1 h2 hR
      go_wp2_with (first | (go_at_call 28; refine (hz _).mono ?_; rintro e w2 ⟨rfl, rfl⟩) | (at_builtin; refine wpList_append_bs _ rfl (.tmp 14) (.tmp 15) 43 9 (by rfl) B i0 Try.underlying43 hi hz0 hz1 hz2 _ _ rfl hb _ (bl t) rfl (bl_by8 _) (src_str Try.underlying9 t _ _ hz1) (by first | omega | (simp; omega) | (simp only [List.length_append, sub_len, bl_len, List.length_cons, List.length_nil]; omega)) (by first | assumption | omega | (simp; omega)) ?_; intro v1 w1 hb1 ha1; have hcv := bs_str hb1))
      all_goals go_ret
      have hbel1 : Below B w w1 := hbel.trans (ha1.below hb hBr)
      exact ⟨by rw [← HRR.out]; first | done | rfl, by rw [HB.out]; exact hbel1⟩
    · rw [h1] at hz
      rw [hus] at h3 h4 h5
      rw [ext_two t k h3, hu] at h4
      simp only [List.cons.injEq, and_true] at h4
      have hA2 : Aside (l ++ bl (t.extract 0 k) ++ bl n ++ repP c d (bl (t.extract (k + 2) t.size)) = R) := by
        show l ++ bl (t.extract 0 k) ++ bl n ++ repP c d (bl (t.extract (k + 2) t.size)) = R
        rw [← A', repP_at c d k (bl t) (fun j hj hp => by
          rw [pair_iff] at hp
          refine h5 j (Nat.zero_le _) hj ?_
          rw [ext_two t j hp.1, hu, hp.2.1, hp.2.2]) (by rw [pair_iff]; exact ⟨h3, h4.1, h4.2⟩), hn, bl_sub t 0 k (by omega) (Nat.zero_le _), bl_sub t (k + 2) t.size (Nat.le_refl _) h3]
        have e1 : (bl t).take k = sub t 0 k := by
          rw [← bl_sub t 0 k (by omega) (Nat.zero_le _)]
          unfold bl; simp
        have e2 : (bl t).drop (k + 2) = sub t (k + 2) t.size := by
          rw [← bl_sub t (k + 2) t.size (Nat.le_refl _) h3]
          unfold bl; simp
          exact (List.take_of_length_le (by simp)).symm
        rw [e1, e2]; simp
      have hk0 : (0 : Int) ≤ (k : Int) := by omega
      have hk1 : (k : Int) ≤ (t.size : Int) := by omega
      have hk2 : (k : Int) + 2 ≤ (t.size : Int) := by omega
      have hk3 : ((k : Int) + 2).toNat = k + 2 := by omega
      have hk4 : IntKind.i64.wrap ((k : Int) + 2) = (k : Int) + 2 := by rw [IntKind.wrap_i64]; omega
      have hk5 : (0 : Int) ≤ (k : Int) + 2 := by omega
      have husI : (u.size : Int) = 2 := by omega
      have hq1 : (t.extract 0 k).size = k := by rw [ByteArray.size_extract]; omega
      have hq2 : (t.extract (k + 2) t.size).size = t.size - (k + 2) := size_from t (k + 2)
      have hkR : k ≤ 1000000000 := by omega
      have hlen2 : (l ++ bl (t.extract 0 k)).length + (bl n).length ≤ 140737488355328 := by rw [List.length_append, bl_len, bl_len]; omega
      have hlen1 : l.length + (bl (t.extract 0 k)).length ≤ 140737488355328 := by rw [bl_len]; omega
      clear A A' h1 h2 h4 h5
      go_wp2_with (first | (go_at_call 28; refine (hz _).mono ?_; rintro e w2 ⟨rfl, rfl⟩) | (at_builtin; refine wpList_append_bs _ rfl (.tmp 18) (.tmp 21) 43 9 (by rfl) B i0 Try.underlying43 hi hz0 hz1 hz2 _ _ rfl hb _ (bl (t.extract 0 k)) rfl (bl_by8 _) (src_str Try.underlying9 (t.extract 0 k) _ _ hz1) (by exact hlen1) (by first | assumption | omega | (simp; omega)) ?_; intro v1 w1 hb1 ha1; have hB1 : B ≤ w1.heap.size := Nat.le_trans hBr ha1.size) | (at_builtin; refine wpList_append_bs _ rfl (.tmp 22) (.tmp 23) 43 9 (by rfl) B i0 Try.underlying43 hi hz0 hz1 hz2 _ _ rfl hb1 _ (bl n) rfl (bl_by8 _) (src_str Try.underlying9 n _ _ hz1) (by exact hlen2) (by first | assumption | omega | (simp; omega)) ?_; intro v2 w2 hb2 ha2))
      have hbel1 : Below B w w1 := hbel.trans (ha1.below hb hBr)
      have hbel2 : Below B w w2 := hbel1.trans (ha2.below hb1 (by have := hbel1.size; have := HB.out; omega))
      go_roundg G
      case measure => go_light; omega
      case rel =>
        go_light
        exact ⟨_, _, rfl, by omega, by omega, hb2, hbel2, hA2⟩
end Go.Proofs.Ytokhmhbjbclcoaa

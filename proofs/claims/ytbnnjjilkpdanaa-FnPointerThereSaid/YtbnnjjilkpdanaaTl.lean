/- The last token of a pointer, and a pointer with one more token: the walks. -/
import Derived.Test.YtbnnjjilkpdanaaIy
import Derived.Test.YtbnnjjilkpdanaaEp
namespace Go.Proofs.Ytbnnjjilkpdanaa
open Go.RowKit
set_option linter.unusedVariables false

theorem bw2 {w a b : World} (h : Below w.heap.size w a) (k : Below a.heap.size a b) : Below w.heap.size w b := Below.trans h (Below.mono k h.size)
theorem bs_ptr {w : World} {B : Nat} {v : Value} {l : List Int} (h : Bs w B v l) : (convert 31 32 v).run Try.prog w = .ok (.string (txt l)) w := by
  obtain ⟨h8, ao, cap, rfl, h1, h2, h3⟩ := h
  have hz : (txt l).size = l.length := txt_size l
  rcases h3 with ⟨rfl, rfl⟩ | ⟨g, cur, fr, rfl, hB, hg, k1, k2, k3⟩
  · have : l = [] := List.eq_nil_of_length_eq_zero (by omega)
    subst this
    simp [convert, run_underlying Try.underlying31, run_underlying Try.underlying32, run_underlying Try.underlying5, Conv.bytesToString, txt]
    rfl
  · have hB' : Lib.Bytes w g 0 (txt l) := by
      intro i hi
      rw [hz] at hi
      have hc : cur.toList[i]? = (bv l)[i]? := by rw [← k3, List.getElem?_take, if_pos hi]
      have hbt := bl_txt h8
      have e : ((txt l)[i]'(by rw [hz]; exact hi)).toNat = ((l[i]).toNat : Nat) := by
        have h0 := h8 l[i] (List.getElem_mem hi)
        show ((txt l).data[i]'_).toNat = _
        unfold txt; simp
        omega
      rw [Nat.zero_add]
      simp only [World.cell?, hg]
      have h0 := h8 l[i] (List.getElem_mem hi)
      have hci : cur[i]? = some (.int .u8 l[i]) := by
        rw [← Array.getElem?_toList, hc]
        simp [bv, hi]
      rw [e, Int.toNat_of_nonneg h0.1]
      simpa using hci
    have hr := Lib.run_convert_whole (P := Try.prog) w 31 5 32 Try.underlying31 Try.underlying5 Try.underlying32 g 0 (txt l) hB' cap
    rw [hz] at hr
    exact hr

set_option maxRecDepth 100000 in
set_option maxHeartbeats 4000000 in
theorem unescape_any (s : ByteArray) (w : World) (hs : s.size ≤ 1000000000) :
    Calls Try.prog 30 #[.string s] w fun e w' => e = .returned (.string (txt (repP 48 126 (repP 49 47 (bl s))))) ∧ Below w.heap.size w w' := by
  have hz := fun w => zzIndex_any s ⟨#[126]⟩ w (by omega) (by decide)
  rcases idx_spec s ⟨#[126]⟩ (s.size + 1) 0 (by omega) with ⟨h1, h2⟩ | ⟨k, h1, h2, h3, h4, h5⟩
  · rw [h1] at hz
    have hno : ∀ x ∈ bl s, x ≠ 126 := by
      intro x hx e
      subst e
      obtain ⟨j, hj, hje⟩ := List.mem_iff_getElem.1 hx
      rw [bl_len] at hj
      refine h2 j (Nat.zero_le _) (by show j + 1 ≤ s.size; omega) ?_
      show bl (s.extract j (j + 1)) = [126]
      rw [bl_sub s j (j + 1) (by omega) (by omega), sub_one, bAt_bl (rfl : bl s = bl s) j (by rw [bl_len]; exact hj), hje]
    have hE : txt (repP 48 126 (repP 49 47 (bl s))) = s := by rw [repP_none 49 47 _ hno, repP_none 48 126 _ hno, txt_bl]
    rw [hE]
    clear h1 h2 hno hE hs
    go_enter Try.func30, Try.ntmps30
    go_wp2_with (first | (go_at_call 43; refine (hz _).mono ?_; rintro e w2 ⟨rfl, rfl⟩) | (go_at_call 37; go_in))
    all_goals go_ret
    exact ⟨rfl, Below.refl _ _⟩
  · rw [h1] at hz
    have e8 : By8 (repP 49 47 (bl s)) := repP_by (by decide) _ (bl_by8 s)
    have hr1 := fun w => zzReplace_any s ⟨#[126, 49]⟩ ⟨#[47]⟩ 49 47 rfl rfl w hs
    have hl1 := repP_len 49 47 (bl s)
    rw [bl_len] at hl1
    have hr2 := fun w => zzReplace_any (txt (repP 49 47 (bl s))) ⟨#[126, 48]⟩ ⟨#[126]⟩ 48 126 rfl rfl w (by rw [txt_size]; omega)
    rw [bl_txt e8] at hr2
    generalize repP 49 47 (bl s) = L at *
    generalize txt (repP 48 126 L) = S at *
    generalize txt L = T at *
    have hk : (0 : Int) ≤ (k : Int) := by omega
    clear h1 h2 h3 h4 h5 e8 hl1 hs
    go_enter Try.func30, Try.ntmps30
    go_wp2_with (first | (go_at_call 43; refine (hz _).mono ?_; rintro e w2 ⟨rfl, rfl⟩) | (go_at_call 37; go_in))
    refine (hr1 _).mono ?_
    rintro e w3 ⟨rfl, hb3⟩
    go_wp2_with fail
    refine (hr2 _).mono ?_
    rintro e w4 ⟨rfl, hb4⟩
    go_wp2_with fail
    all_goals go_ret
    exact ⟨rfl, bw2 hb3 hb4⟩

set_option maxRecDepth 100000 in
set_option maxHeartbeats 4000000 in
theorem trimSlash_any (L : ByteArray) (w : World) (h1 : 1 ≤ L.size) (h0 : bAt L 0 = 47) (hs : L.size ≤ 1000000000) :
    Calls Try.prog 28 #[.string L, .string ⟨#[47]⟩] w fun e w' => e = .returned (.string (L.extract 1 L.size)) ∧ w' = w := by
  have H2 : ((L.extract 0 1).toList == [47]) = true := by
    have h := toList_beq (L.extract 0 1) ⟨#[47]⟩
    have e : (⟨#[47]⟩ : ByteArray).toList = [47] := by rw [ByteArray.toList_eq]
    rw [e] at h
    rw [h, bl_sub L 0 1 h1 (Nat.zero_le _)]
    have : sub L 0 1 = [47] := by rw [sub_one L 0, h0]
    rw [this]
    exact decide_eq_true rfl
  have h1' : (1 : Int) ≤ (L.size : Int) := by omega
  clear h0 hs
  go_enter Try.func28, Try.ntmps28
  go_wp2_with (first | go_in)
  all_goals go_ret
  all_goals exact ⟨rfl, rfl⟩

/-- The last token of a pointer that is not empty. -/
theorem last_any (p : ByteArray) (w : World) (hs : p.size ≤ 1000000000) (hlt : lastSl p p.size < p.size) (h47 : bAt p (lastSl p p.size) = 47) :
    Calls Try.prog 17 #[.string p] w fun e w' => e = .returned (.string (txt (repP 48 126 (repP 49 47 (bl (p.extract (lastSl p p.size + 1) p.size)))))) ∧ Below w.heap.size w w' := by
  have hsm : p.size ≤ maxLen := by unfold maxLen; omega
  have hl := fun w => lastIdx_any p w hsm
  have hm := lidx_max p p.size
  generalize lidx p p.size = L at hl hm
  generalize lastSl p p.size = n at hm hlt h47 ⊢
  have hn0 : (0 : Int) ≤ (n : Int) := by omega
  have hnp : (n : Int) ≤ (p.size : Int) := by omega
  have hz : (p.extract n p.size).size = p.size - n := size_from p n
  have htr := fun w => trimSlash_any (p.extract n p.size) w (by omega) (by rw [bAt_from, Nat.add_zero]; exact h47) (by omega)
  rw [from_from p n 1 (by omega)] at htr
  have hz2 : (p.extract (n + 1) p.size).size = p.size - (n + 1) := size_from p (n + 1)
  have hun := fun w => unescape_any (p.extract (n + 1) p.size) w (by omega)
  generalize txt (repP 48 126 (repP 49 47 (bl (p.extract (n + 1) p.size)))) = S at hun ⊢
  generalize p.extract (n + 1) p.size = U at htr hun
  clear hz hz2 h47
  go_enter Try.func17, Try.ntmps17
  go_wp2_with (first | (go_at_call 34; refine (hl _).mono ?_; rintro e w2 ⟨rfl, rfl⟩) | (go_at_call 25; go_in) | (go_at_call 26; go_in))
  refine (htr _).mono ?_
  rintro e w3 ⟨rfl, hw3⟩
  obtain rfl := hw3.symm
  go_wp2_with fail
  refine (hun _).mono ?_
  rintro e w4 ⟨rfl, hb4⟩
  go_wp2_with fail
  all_goals go_ret
  exact ⟨rfl, hb4⟩
set_option maxRecDepth 100000 in
set_option maxHeartbeats 4000000 in
theorem append_any (p s : ByteArray) (w : World) (hp : p.size ≤ 100000000) (hs : s.size ≤ 100000000) (ht : textF s s.size 0 = true) :
    Calls Try.prog 16 #[.string p, .string s] w fun e w' => e = .returned (.string (txt (bl p ++ [47] ++ (bl s).flatMap escP))) ∧ Below w.heap.size w w' := by
  obtain ⟨P1, hP1⟩ : ∃ P1, p ++ (⟨#[47]⟩ : ByteArray) = P1 := ⟨_, rfl⟩
  have hbP : bl P1 = bl p ++ [47] := by rw [← hP1, bl_append, show bl (⟨#[47]⟩ : ByteArray) = [47] from rfl]
  have hzP : P1.size = p.size + 1 := by rw [← bl_len, hbP]; simp [bl_len]
  obtain ⟨c1, w1, hc1, C1⟩ := cnv_any 32 31 Try.underlying32 Try.underlying31 Try.underlying5 P1 (by unfold maxLen; omega) w
  obtain ⟨c2, w2, hc2, C2⟩ := cnvB s (by unfold maxLen; omega) w1
  have hb1 : Bs w2 w.heap.size _ (bl P1) := C1.bs.below C2.below
  have hE := escName_any s w.heap.size w1.heap.size c2 _ (bl P1) w2 hb1 (by rw [bl_len]; omega) (Nat.le_trans C1.below.size C2.below.size) C2.bytes (by omega) ht
  rw [hbP] at hE
  generalize bl p ++ [47] ++ (bl s).flatMap escP = R at hE ⊢
  have hb2 := bw2 C1.below C2.below
  obtain ⟨m, hm⟩ : ∃ m, P1.size = m := ⟨_, rfl⟩
  rw [hm] at hE hc1
  clear hb1 ht C1 C2 hs hzP hm hbP
  go_enter Try.func16, Try.ntmps16
  go_wp2_with (first | (go_at_call 33; refine hE.mono ?_; rintro e w3 ⟨v3, rfl, hb3, hbl3⟩; have hcv := bs_ptr hb3) | (go_at_call 24; go_in))
  all_goals go_ret
  exact ⟨rfl, hb2.trans hbl3⟩
end Go.Proofs.Ytbnnjjilkpdanaa

/- Quoting by the reference, with all marks, of a text of UTF-8: the walks of Mended, Quote and Simple. -/
import Derived.Test.YtbnnjjilkpdanaaDoorSq
import Derived.Test.YtbnnjjilkpdanaaDoorWd
import Derived.Test.YtbnnjjilkpdanaaDoorDc
import Derived.Deep.RegionHeld3
namespace Go.Proofs.YtbnnjjilkpdanaaDoor
open Go.RowKit
set_option linter.unusedVariables false

/-- A part of a text. -/
theorem bl_sub (s : ByteArray) (j k : Nat) (hk : k ≤ s.size) (hj : j ≤ k) : bl (s.extract j k) = sub s j k := by
  have hz : (s.extract j k).size = k - j := by rw [ByteArray.size_extract]; omega
  have hlen : (s.extract j k).data.toList.length = k - j := by rw [Array.length_toList]; exact hz
  apply List.ext_getElem?
  intro i
  unfold bl sub
  simp only [List.getElem?_map]
  by_cases h : i < k - j
  · have hi : i < (s.extract j k).size := by omega
    have e : (s.extract j k).data.toList[i]? = some ((s.extract j k)[i]'hi) := by
      rw [List.getElem?_eq_getElem (by rw [hlen]; exact h)]; rfl
    rw [e, List.getElem?_eq_getElem (by simpa using h)]
    simp only [List.getElem_range, Option.map_some]
    rw [bAt_lt (by omega), ByteArray.getElem_extract]
  · rw [List.getElem?_eq_none (by rw [hlen]; omega), List.getElem?_eq_none (by simpa using h)]; rfl

theorem text_next {s : ByteArray} {k : Nat} (ht : textF s (s.size - k) k = true) (hk : k < s.size) : uw s k ≠ 0 ∧ textF s (s.size - (k + uw s k)) (k + uw s k) = true := by
  obtain ⟨g, hg⟩ : ∃ g, s.size - k = g + 1 := ⟨s.size - k - 1, by omega⟩
  rw [hg, textF, if_pos hk] at ht
  split at ht
  · cases ht
  · rename_i hu
    refine ⟨hu, ?_⟩
    have hf := uw_fit s k hu
    have : ∀ (a b i : Nat), s.size - i ≤ a → s.size - i ≤ b → textF s a i = true → textF s b i = true := by
      intro a
      induction a with
      | zero => intro b i h1 h2 h3; cases b with
        | zero => exact h3
        | succ b => rw [textF, if_neg (by omega)]
      | succ a ih =>
        intro b i h1 h2 h3
        cases b with
        | zero => rw [textF]; simp; omega
        | succ b =>
          rw [textF] at h3 ⊢
          split at h3
          · rename_i hi
            rw [if_pos hi]
            split at h3
            · cases h3
            · rename_i hu'
              rw [if_neg hu']
              exact ih b _ (by omega) (by omega) h3
          · rename_i hi; rw [if_neg hi]
    exact this g _ _ (by omega) (by omega) ht

set_option maxRecDepth 100000 in
set_option maxHeartbeats 1000000 in
theorem mended_text (s : ByteArray) (w : World) (hs : s.size ≤ 100000000000) (ht : textF s s.size 0 = true) :
    Calls Tryd.prog 50 #[.string s] w fun e w' => e = .returned (.tuple #[.string s, .bool true]) ∧ Below w.heap.size w w' := by
  obtain ⟨i0, hi, hz0, hz1, hz2⟩ := info_parts Tryd.infoU8
  have hsm : s.size ≤ maxLen := by unfold maxLen; omega
  have h0 : Bs (w.alloc (.cells #[] 5)) w.heap.size (.slice (some ⟨w.heap.size, 0, none⟩) 0 0) [] := bs_lit w [] By8.nil #[] rfl 0 rfl (Nat.zero_le _)
  have ha0 : Below w.heap.size w (w.alloc (.cells #[] 5)) := (Below.refl _ _).alloc (Nat.le_refl _) _
  have HT := Lib.hid ht
  clear ht
  go_enter Tryd.func50, Tryd.ntmps50
  go_wp2
  go_loopg [4, 5, 6] s.size (fun g o c i wr => ∃ (k : Nat), i = .int .i64 k ∧ c = .bool true ∧ k ≤ s.size ∧ s.size - k ≤ g ∧ Bs wr w.heap.size o (sub s 0 k) ∧ Below w.heap.size w wr ∧ Aside (textF s (s.size - k) k = true))
  case atStart => exact ⟨0, rfl, rfl, by omega, by omega, by rw [sub_self]; exact h0, ha0, HT.out⟩
  case round =>
    clear h0 ha0
    obtain ⟨k, rfl, rfl, hks, hg, hb, hbel, A⟩ := hrel
    by_cases hk : k < s.size
    · obtain ⟨hu, A2⟩ := text_next (A : textF s (s.size - k) k = true) hk
      have A2' : Aside (textF s (s.size - (k + uw s k)) (k + uw s k) = true) := A2
      have hf := uw_fit s k hu
      have hwd := fun w' => width_any s k w' hsm hk
      obtain ⟨n, hn⟩ : ∃ n, uw s k = n := ⟨_, rfl⟩
      rw [hn] at A2' hf hu
      simp only [hn] at hwd
      have hn0 : ((n : Int) == 0) = false := by simp; omega
      have hn1 : 1 ≤ n := by omega
      have hbs : bl (s.extract k (k + n)) = sub s k (k + n) := bl_sub s k (k + n) hf (by omega)
      have hkn : (k : Int) + (n : Int) ≤ s.size := by omega
      have hsub := sub_app s (Nat.zero_le k) (show k ≤ k + n by omega)
      have hl0 : (sub s 0 k).length = k := by rw [sub_len]; omega
      have hl1 : (sub s k (k + n)).length = n := by rw [sub_len]; omega
      have HBS := Lib.hid hbs
      have HSUB := Lib.hid hsub
      have HL0 := Lib.hid hl0
      have HL1 := Lib.hid hl1
      clear hu A A2 hn hbs hsub hl0 hl1
      go_wp2_with (first
        | (go_at_call 48; refine (hwd _).mono ?_; rintro e w1 ⟨rfl, hb1⟩; have hbe1 := Below.trans hbel (Below.mono hb1 hbel.size); have hbb1 := hb.below hb1)
        | (at_builtin; refine wpList_append_bs _ rfl (.tmp 22) (.tmp 28) 46 9 (by rfl) w.heap.size i0 Tryd.underlying46 hi hz0 hz1 hz2 _ _ rfl hbb1 _ (sub s k (k + n)) rfl (sub_by s k (k + n)) (src_strL Tryd.underlying9 _ _ HBS.out _ _ hz1) (by rw [HL0.out, HL1.out]; omega) hbe1.size ?_; intro v2 w2 hb2 ha2))
      go_roundg (gk - 1)
      case measure => omega
      case rel => exact ⟨k + n, by go_num, rfl, hf, by omega, HSUB.out ▸ hb2, hbe1.trans (ha2.below hbb1 hbe1.size), A2'⟩
    · have hks2 : k = s.size := by omega
      subst hks2
      have hcv := bs_str hb
      rw [sub_all, txt_bl] at hcv
      clear A hk
      go_wp2
      go_ret2
      exact ⟨rfl, hbel⟩

/-- What stands for the character at a place, with all marks. -/
def qsC (s : ByteArray) (k : Nat) : List Int := if bAt s k < 128 then qS1 (bAt s k) else qSm (sub s k (k + uw s k))
def qsO (s : ByteArray) : Nat → Nat → List Int
  | 0, _ => []
  | g + 1, k => if k < s.size then qsC s k ++ qsO s g (k + uw s k) else []
theorem qSm_by {L : List Int} (h : By8 L) : By8 (qSm L) := by
  unfold qSm; repeat' split
  · exact unitT_by _
  · exact unitT_by _
  · exact h
theorem qsC_by (s : ByteArray) (k : Nat) : By8 (qsC s k) := by
  unfold qsC; split
  · rename_i h; exact qS1_by (bAt_nonneg s k) h
  · exact qSm_by (sub_by _ _ _)
theorem qsO_by (s : ByteArray) : ∀ (g k : Nat), By8 (qsO s g k)
  | 0, k => By8.nil
  | g + 1, k => by
    unfold qsO; split
    · exact (qsC_by s k).app (qsO_by s g _)
    · exact By8.nil
theorem qS1_len {X : Int} : 1 ≤ (qS1 X).length ∧ (qS1 X).length ≤ 6 := by
  unfold qS1 escA
  repeat' split
  all_goals simp [unitT]
theorem qSm_len (L : List Int) : L.length ≤ (qSm L).length ∧ (qSm L).length ≤ 6 + L.length := by
  unfold qSm
  repeat' split
  · rename_i h; subst h; simp [unitT]
  · rename_i h; subst h; simp [unitT]
  · omega
theorem qsC_len (s : ByteArray) (k : Nat) (hk : k < s.size) (hu : uw s k ≠ 0) : uw s k ≤ (qsC s k).length ∧ (qsC s k).length ≤ 7 * uw s k := by
  have h1 := uw_one s k hk
  unfold qsC
  split
  · rename_i h
    have := qS1_len (X := bAt s k)
    have := h1.1 h
    omega
  · have := qSm_len (sub s k (k + uw s k))
    rw [sub_len] at this
    have h2 : uw s k ≠ 1 := fun e => by have := h1.2 e; omega
    omega
theorem quotedAny (s : ByteArray) (k : Nat) (hk : k < s.size) (hu : uw s k ≠ 0) (n : Nat) (hn : uw s k = n) (w : World) :
    Calls Tryd.prog 51 #[.string (s.extract k (k + n)), .agg #[.bool true, .bool true]] w fun e w' => e = .returned (.string (txt (qsC s k))) ∧ Below w.heap.size w w' := by
  subst hn
  have hf := uw_fit s k hu
  have h1 := uw_one s k hk
  have hbl := bl_sub s k (k + uw s k) hf (by omega)
  have h0 := bAt_nonneg s k
  unfold qsC
  by_cases hX : bAt s k < 128
  · rw [if_pos hX]
    rw [h1.1 hX] at hbl ⊢
    rw [sub_one] at hbl
    exact quoted1 _ _ hbl w h0 hX
  · rw [if_neg hX]
    have hu1 : uw s k ≠ 1 := fun h => hX (h1.2 h)
    have hz : (s.extract k (k + uw s k)).size = uw s k := by rw [ByteArray.size_extract]; omega
    refine quotedB _ _ hbl w (by omega) ?_
    rw [bAt_bl hbl 0 (by rw [sub_len]; omega)]
    simp only [sub, List.getElem_map, List.getElem_range, Nat.add_zero]
    omega

set_option maxRecDepth 100000 in
set_option maxHeartbeats 2000000 in
theorem quote_text (s : ByteArray) (w : World) (hs : s.size ≤ 10000000000) (ht : textF s s.size 0 = true) :
    Calls Tryd.prog 34 #[.string s, .agg #[.bool true, .bool true]] w fun e w' => e = .returned (.tuple #[.string (txt (34 :: (qsO s s.size 0 ++ [34]))), .bool true]) ∧ Below w.heap.size w w' := by
  obtain ⟨i0, hi, hz0, hz1, hz2⟩ := info_parts Tryd.infoU8
  have hsm : s.size ≤ maxLen := by unfold maxLen; omega
  have HT := Lib.hid ht
  obtain ⟨T, HTT⟩ : ∃ T, Hid (34 :: qsO s s.size 0 = T) := ⟨_, Lib.hid rfl⟩
  have hres : 34 :: (qsO s s.size 0 ++ [34]) = T ++ [34] := by rw [← HTT.out]; rfl
  have hT8 : By8 (T ++ [34]) := by
    rw [← hres]
    have h1 : By8 [34] := by intro x hx; simp at hx; omega
    exact By8.app (l := [34]) h1 ((qsO_by _ _ _).app h1)
  rw [hres]
  have hm := mended_text s (w.alloc (.cells #[.bool true, .bool true] 49)) (by omega) ht
  have HRES := Lib.hid hres
  clear ht hres
  go_enter Tryd.func34, Tryd.ntmps34
  go_wp2_with (go_at_call 50; refine hm.mono ?_; rintro e w1 ⟨rfl, hb1⟩)
  have hb0 : Below w.heap.size w w1 := ((Below.refl _ _).alloc (Nat.le_refl _) _).trans (hb1.mono (by simp))
  have hm0 : w1.heap[w.heap.size]? = some (.cells #[.bool true, .bool true] 49 (0, 0)) := (hb1.block w.heap.size (by simp)).trans (heap_alloc_new w _)
  have hsz : w.heap.size + 1 ≤ w1.heap.size := by have := hb1.size; simpa using this
  have hbs0 : Bs (w1.alloc (.cells #[.int .u8 34] 5)) (w.heap.size + 1) (.slice (some ⟨w1.heap.size, 0, none⟩) 1 1) [34] := (bs_lit w1 [34] (by intro x hx; simp at hx; omega) _ rfl 1 rfl (by unfold maxLen; omega)).mono hsz
  go_loopg [8, 9] s.size (fun g o i wr => ∃ (k : Nat) (l : List Int), i = .int .i64 k ∧ k ≤ s.size ∧ s.size - k ≤ g ∧ Bs wr (w.heap.size + 1) o l ∧ l.length ≤ 1 + 7 * k ∧ Below (w.heap.size + 1) w1 wr ∧ Aside (textF s (s.size - k) k = true) ∧ Aside (l ++ qsO s g k = T))
  case atStart => exact ⟨0, [34], rfl, by omega, by omega, hbs0, by simp, ((Below.refl _ _).alloc hsz _), HT.out, HTT.out⟩
  case round =>
    clear hbs0
    obtain ⟨k, l, rfl, hks, hg, hb, hll, hbel, A, AO⟩ := hrel
    have hwr : w.heap.size + 1 ≤ wr.heap.size := Nat.le_trans hsz hbel.size
    have hmr := (hbel.block w.heap.size (by omega)).trans hm0
    by_cases hk : k < s.size
    · obtain ⟨hu, A2⟩ := text_next (A : textF s (s.size - k) k = true) hk
      have A2' : Aside (textF s (s.size - (k + uw s k)) (k + uw s k) = true) := A2
      have hf := uw_fit s k hu
      have hlen := qsC_len s k hk hu
      have hC8 := qsC_by s k
      have AO2 : Aside (l ++ qsC s k ++ qsO s (gk - 1) (k + uw s k) = T) := by
        have A0 : l ++ qsO s gk k = T := AO
        rw [show gk = gk - 1 + 1 by omega, qsO, if_pos hk] at A0
        show l ++ qsC s k ++ qsO s (gk - 1) (k + uw s k) = T
        rw [List.append_assoc]; exact A0
      obtain ⟨n, hn⟩ : ∃ n, uw s k = n := ⟨_, rfl⟩
      have hwd := fun w' => width_any s k w' hsm hk
      have hqp := fun w' => quotedAny s k hk hu n hn w'
      rw [hn] at A2' hf hu hlen AO2
      simp only [hn] at hwd
      obtain ⟨C, hC⟩ : ∃ C, qsC s k = C := ⟨_, rfl⟩
      rw [hC] at hlen hC8 AO2
      simp only [hC] at hqp
      have hn1 : 1 ≤ n := by omega
      have hkn : (k : Int) + (n : Int) ≤ s.size := by omega
      have hwk : IntKind.i64.wrap ((k : Int) + (n : Int)) = (k : Int) + (n : Int) := by rw [IntKind.wrap_i64]; omega
      have hk0 : (0 : Int) ≤ (k : Int) + (n : Int) := by omega
      have hkk : (k : Int) ≤ (k : Int) + (n : Int) := by omega
      have htn : ((k : Int) + (n : Int)).toNat = k + n := by omega
      have hbt : bl (txt C) = C := bl_txt hC8
      have HBT := Lib.hid hbt
      clear hu A A2 hn hC AO hbt
      go_wp2_with (go_at_call 48; refine (hwd _).mono ?_; rintro e w2 ⟨rfl, hb2⟩)
      have hb2' := hb.below hb2
      have hbe2 : Below (w.heap.size + 1) w1 w2 := hbel.trans (hb2.mono hwr)
      have hm2 := (hb2.block w.heap.size (by omega)).trans hmr
      have hw2 : w.heap.size + 1 ≤ w2.heap.size := Nat.le_trans hwr hb2.size
      refine wp_region_any (by kernel_rfl) ?_
      try (change wpAny _ _ _ _ _ _ _ (World.drew _))
      refine wpAny_take (i := 0) (v := ?_) rfl (by kernel_rfl) (by kernel_rfl) (by kernel_rfl) (fun _ _ _ h => h) (Or.inl ⟨by rfl, ?_⟩) ?_
      rotate_left
      · intro wx; go_simp; try with_reducible rfl
      rotate_left
      refine wpAny_take (i := 1) (v := ?_) rfl (by kernel_rfl) (by kernel_rfl) (by kernel_rfl) (fun _ _ _ h => h) (Or.inl ⟨by rfl, ?_⟩) ?_
      rotate_left
      · intro wx; go_simp; try with_reducible rfl
      rotate_left
      refine wpAny_take (i := 2) (v := ?_) rfl (by kernel_rfl) (by kernel_rfl) (by kernel_rfl) (fun _ _ _ h => h) (Or.inl ⟨by rfl, ?_⟩) ?_
      rotate_left
      · intro wx; go_simp; try with_reducible rfl
      rotate_left
      refine wpAny_take (i := 3) (v := ?_) rfl (by kernel_rfl) (by kernel_rfl) (by kernel_rfl) (fun _ _ _ h => h) (Or.inl ⟨by rfl, ?_⟩) ?_
      rotate_left
      · intro wx; go_simp; try with_reducible rfl
      rotate_left
      refine wpAny_take (i := 4) (v := ?_) rfl (by kernel_rfl) (by kernel_rfl) (by kernel_rfl) (fun _ _ _ h => h) (Or.inl ⟨by rfl, ?_⟩) ?_
      rotate_left
      · intro wx; go_simp; try with_reducible rfl
      rotate_left
      refine wpAny_take (i := 5) (v := ?_) rfl (by kernel_rfl) (by kernel_rfl) (by kernel_rfl) (fun _ _ _ h => h) (Or.inl ⟨by rfl, ?_⟩) ?_
      rotate_left
      · intro wx; go_simp; try with_reducible rfl
      rotate_left
      refine wpAny_take (i := 6) (v := ?_) rfl (by kernel_rfl) (by kernel_rfl) (by kernel_rfl) (fun _ _ _ h => h) (Or.inl ⟨by rfl, ?_⟩) ?_
      rotate_left
      · intro wx; go_simp; try with_reducible rfl
      rotate_left
      refine wpAny_rest 7 (by kernel_rfl) ?_
      simp only [List.drop_succ_cons, List.drop_zero]
      have hb3 : Bs w2.drew (w.heap.size + 1) u8 l := hb2'.drewN 1
      have hbe3 : Below (w.heap.size + 1) w1 w2.drew := hbe2.drew
      have hm3 : w2.drew.heap[w.heap.size]? = some (.cells #[.bool true, .bool true] 49 (0, 0)) := hm2
      have hw3 : w.heap.size + 1 ≤ w2.drew.heap.size := hw2
      clear hb2' hbe2 hm2 hw2 hb2
      generalize w2.drew = w3 at hb3 hbe3 hm3 hw3 ⊢
      have f0 : w3.cell? ⟨w.heap.size, 0, none⟩ = some (.bool true) := by simp [World.cell?, hm3]
      have f1 : w3.cell? ⟨w.heap.size, 1, none⟩ = some (.bool true) := by simp [World.cell?, hm3]
      go_wp2_with (first
        | (go_at_call 51; refine (hqp _).mono ?_; rintro e w4 ⟨rfl, hb4⟩; have hb5 := hb3.below hb4; have hw4 := Nat.le_trans hw3 hb4.size)
        | (at_builtin; refine wpList_append_bs _ rfl (.tmp 24) (.tmp 32) 46 9 (by rfl) (w.heap.size + 1) i0 Tryd.underlying46 hi hz0 hz1 hz2 _ _ rfl hb5 _ C rfl hC8 (src_strL Tryd.underlying9 _ _ HBT.out _ _ hz1) (by omega) hw4 ?_; intro v5 w5 hb6 ha5))
      go_roundg (gk - 1)
      case measure => omega
      case rel => exact ⟨k + n, _, by go_num, hf, by omega, hb6, by rw [List.length_append]; omega, (hbe3.trans (hb4.mono hw3)).trans (ha5.below hb5 hw4), A2', AO2⟩
    · have hl : l = T := by
        have A0 : l ++ qsO s gk k = T := AO
        have h0 : qsO s gk k = [] := by cases gk with
          | zero => rfl
          | succ g => rw [qsO, if_neg hk]
        rw [h0, List.append_nil] at A0; exact A0
      subst hl
      have HT8 := Lib.hid hT8
      have hge : (s.size : Int) ≤ (k : Int) := by omega
      clear A AO hk
      go_wp2_with (at_builtin; refine wpList_append_bs _ rfl (.tmp 37) (.tmp 38) 46 46 (by rfl) (w.heap.size + 1) i0 Tryd.underlying46 hi hz0 hz1 hz2 _ _ rfl (Bs.alloc hb _) _ [34] rfl (by intro x hx; simp at hx; omega) (src_lit Tryd.underlying46 _ [34] 1 rfl _ _ hz1 _ rfl) (by simp; omega) (by simp; omega) ?_; intro v5 w5 hb6 ha5; have hcv := bs_str hb6)
      have hfin : Below w.heap.size w w5 := hb0.trans ((hbel.trans (((Below.refl _ _).alloc hwr _).trans (ha5.below (Bs.alloc hb _) (by simp; omega)))).mono (by omega))
      go_ret2
      exact ⟨rfl, hfin⟩

theorem eq_str (a b : ByteArray) (r : Bool) (h : decide (bl a = bl b) = r) : (a.toList == b.toList) = r := by
  rw [← h, Bool.eq_iff_iff]
  simp only [beq_iff_eq, decide_eq_true_eq]
  constructor
  · intro h; rw [ByteArray.toList_eq, ByteArray.toList_eq] at h; unfold bl; rw [h]
  · intro h; rw [bl_inj h]
/-- Is a text written as it stands, whatever the marks are? -/
def simB (s : ByteArray) : Bool := decide (qsO s s.size 0 = bl s)
set_option maxHeartbeats 400000 in
theorem simple_text (s : ByteArray) (w : World) (hs : s.size ≤ 10000000000) (ht : textF s s.size 0 = true) :
    Calls Tryd.prog 16 #[.string s] w fun e w' => e = .returned (.bool (simB s)) ∧ Below w.heap.size w w' := by
  have hq := quote_text s w hs ht
  obtain ⟨t, ht'⟩ : ∃ t, txt (34 :: (qsO s s.size 0 ++ [34])) = t := ⟨_, rfl⟩
  have hb1 : By8 [34] := by intro x hx; simp at hx; omega
  have hbt : bl t = 34 :: (qsO s s.size 0 ++ [34]) := by
    rw [← ht']
    exact bl_txt (By8.app (l := [34]) hb1 ((qsO_by _ _ _).app hb1))
  rw [ht'] at hq
  have hsum1 : (1 : Int) + s.size ≤ 9223372036854775807 := by omega
  have hcmp : (t.toList == ((⟨#[34]⟩ : ByteArray) ++ s ++ ⟨#[34]⟩).toList) = simB s := eq_str _ _ _ (by
    rw [hbt, bl_append, bl_append]
    have e : bl (⟨#[34]⟩ : ByteArray) = [34] := rfl
    rw [e]
    unfold simB
    rw [Bool.eq_iff_iff]
    simp only [decide_eq_true_eq]
    constructor
    · intro h
      have h2 : qsO s s.size 0 ++ [34] = bl s ++ [34] := by simpa using h
      exact List.append_cancel_right h2
    · intro h; rw [h]; simp)
  have hz1 : ((⟨#[34]⟩ : ByteArray) ++ s).size = 1 + s.size := by rw [ByteArray.size_append]; rfl
  have hsum2 : ((1 + s.size : Nat) : Int) + 1 ≤ 9223372036854775807 := by omega
  obtain ⟨r, hr⟩ : ∃ r, simB s = r := ⟨_, rfl⟩
  rw [hr] at hcmp ⊢
  clear hbt ht' hr
  have HZ := Lib.hid hz1
  clear hz1
  go_enter Tryd.func16, Tryd.ntmps16
  go_wp2_with (go_at_call 34; refine hq.mono ?_; rintro e w1 ⟨rfl, hb1⟩)
  go_ret
  exact ⟨rfl, hb1⟩
def brkAt (s : ByteArray) (i : Nat) : Bool := decide (bAt s i = 239) && decide (bAt s (i + 1) = 191) && decide (bAt s (i + 2) = 189)
/-- Does U+FFFD stand in a text, from a place on? -/
def hbF (s : ByteArray) : Nat → Nat → Bool
  | 0, _ => false
  | g + 1, i => if i + 3 ≤ s.size then brkAt s i || hbF s g (i + 1) else false
theorem hasBroken_any (s : ByteArray) (w : World) (hs : s.size ≤ 10000000000) :
    Calls Tryd.prog 14 #[.string s] w fun e w' => e = .returned (.bool (hbF s s.size 0)) ∧ w' = w := by
  obtain ⟨R, HR⟩ : ∃ R, Hid (hbF s s.size 0 = R) := ⟨_, Lib.hid rfl⟩
  have A0 : Aside (hbF s s.size 0 = R) := HR.out
  rw [HR.out]
  go_enter Tryd.func14, Tryd.ntmps14
  go_wp2
  go_loopg [3] s.size (fun g i wr => ∃ k : Nat, i = .int .i64 k ∧ k ≤ s.size ∧ s.size - k ≤ g ∧ w = wr ∧ Aside (hbF s g k = R))
  case atStart => exact ⟨0, rfl, by omega, by omega, rfl, A0⟩
  case round =>
    clear A0
    obtain ⟨k, rfl, hks, hg, rfl, A⟩ := hrel
    by_cases hk : k + 3 ≤ s.size
    · have A1 : (brkAt s k || hbF s (gk - 1) (k + 1)) = R := by
        have A' : hbF s gk k = R := A
        rw [show gk = gk - 1 + 1 by omega, hbF, if_pos hk] at A'; exact A'
      have ht : ((s.extract k (k + 3)).toList == [239, 191, 189]) = brkAt s k := eq_lit _ _ _ (by
        rw [bl_sub s k (k + 3) hk (by omega), sub_snoc s (by omega : k ≤ k + 2), sub_snoc s (by omega : k ≤ k + 1), sub_one]
        unfold brkAt
        rw [Bool.eq_iff_iff]
        simp
        omega)
      have hk3 : (k : Int) + 3 ≤ s.size := by omega
      obtain ⟨r, hr⟩ : ∃ r, brkAt s k = r := ⟨_, rfl⟩
      rw [hr] at A1 ht
      clear A hr
      cases r
      · have A2 : Aside (hbF s (gk - 1) (k + 1) = R) := (by simpa using A1 : hbF s (gk - 1) (k + 1) = R)
        clear A1
        go_wp2
        go_roundg (gk - 1)
        case measure => omega
        case rel => exact ⟨k + 1, by go_num, by omega, by omega, rfl, A2⟩
      · obtain rfl : true = R := by simpa using A1
        go_wp2
        go_ret
        exact ⟨rfl, rfl⟩
    · have hR : R = false := by
        have A' : hbF s gk k = R := A
        cases gk with
        | zero => exact A'.symm
        | succ g => rw [hbF, if_neg hk] at A'; exact A'.symm
      subst hR
      have hk3 : ¬ (k : Int) + 3 ≤ s.size := by omega
      clear A
      go_wp2
      go_ret
      exact ⟨rfl, rfl⟩
end Go.Proofs.YtbnnjjilkpdanaaDoor

/- A pointer with one more token: the plain mathematics. -/
import Derived.Test.YtbnnjjilkpdanaaEp
import Derived.Test.YtbnnjjilkpdanaaPq
namespace Go.Proofs.Ytbnnjjilkpdanaa
open Go.RowKit
set_option linter.unusedVariables false

theorem uw_of2 {s : ByteArray} {k : Nat} (hf : k + 2 ≤ s.size) (h0 : 194 ≤ bAt s k) (h1 : bAt s k ≤ 223) (h2 : 128 ≤ bAt s (k + 1)) (h3 : bAt s (k + 1) ≤ 191) : uw s k = 2 := by
  have hl : uLen (bAt s k) = 2 := by unfold uLen; rw [if_pos ⟨h0, h1⟩]
  have hlo : uLo (bAt s k) = 128 := by unfold uLo; rw [if_neg (by omega), if_neg (by omega)]
  have hhi : uHi (bAt s k) = 191 := by unfold uHi; rw [if_neg (by omega), if_neg (by omega)]
  have hok : uwOk s k 2 128 191 = true := by unfold uwOk; simp [contN]; omega
  unfold uw; rw [if_pos (by omega), if_neg (by omega), hl, hlo, hhi, if_neg (by omega), if_pos hok]
theorem uw_of3 {s : ByteArray} {k : Nat} (hf : k + 3 ≤ s.size) (h0 : 224 ≤ bAt s k) (h1 : bAt s k ≤ 239) (h2 : 128 ≤ bAt s (k + 1)) (h3 : bAt s (k + 1) ≤ 191) (h4 : bAt s k = 224 → 160 ≤ bAt s (k + 1)) (h5 : bAt s k = 237 → bAt s (k + 1) ≤ 159)
    (h6 : 128 ≤ bAt s (k + 2)) (h7 : bAt s (k + 2) ≤ 191) : uw s k = 3 := by
  have hl : uLen (bAt s k) = 3 := by unfold uLen; rw [if_neg (by omega), if_pos ⟨h0, h1⟩]
  have hlo : uLo (bAt s k) ≤ bAt s (k + 1) := by unfold uLo; split; omega; split <;> omega
  have hhi : bAt s (k + 1) ≤ uHi (bAt s k) := by unfold uHi; split; omega; split <;> omega
  have hok : uwOk s k 3 (uLo (bAt s k)) (uHi (bAt s k)) = true := by unfold uwOk; simp [contN, cont]; omega
  unfold uw; rw [if_pos (by omega), if_neg (by omega), hl, if_neg (by omega), if_pos hok]
theorem uw_of4 {s : ByteArray} {k : Nat} (hf : k + 4 ≤ s.size) (h0 : 240 ≤ bAt s k) (h1 : bAt s k ≤ 244) (h2 : 128 ≤ bAt s (k + 1)) (h3 : bAt s (k + 1) ≤ 191) (h4 : bAt s k = 240 → 144 ≤ bAt s (k + 1)) (h5 : bAt s k = 244 → bAt s (k + 1) ≤ 143)
    (h6 : 128 ≤ bAt s (k + 2)) (h7 : bAt s (k + 2) ≤ 191) (h8 : 128 ≤ bAt s (k + 3)) (h9 : bAt s (k + 3) ≤ 191) : uw s k = 4 := by
  have hl : uLen (bAt s k) = 4 := by unfold uLen; rw [if_neg (by omega), if_neg (by omega), if_pos ⟨h0, h1⟩]
  have hlo : uLo (bAt s k) ≤ bAt s (k + 1) := by unfold uLo; split; omega; split <;> omega
  have hhi : bAt s (k + 1) ≤ uHi (bAt s k) := by unfold uHi; split; omega; split <;> omega
  have hok : uwOk s k 4 (uLo (bAt s k)) (uHi (bAt s k)) = true := by
    unfold uwOk; simp [contN, cont, show k + 2 + 1 = k + 3 from rfl]; omega
  unfold uw; rw [if_pos (by omega), if_neg (by omega), hl, if_neg (by omega), if_pos hok]
theorem uw_same {s t : ByteArray} {k j : Nat} (hu : uw s k ≠ 0) (hj : j + uw s k ≤ t.size) (hb : ∀ i, i < uw s k → bAt t (j + i) = bAt s (k + i)) : uw t j = uw s k := by
  rcases rune_parts hu with ⟨e, h1, _⟩ | ⟨e, h⟩ | ⟨e, h⟩ | ⟨e, h⟩
  · rw [e] at hj hb ⊢
    have b0 := hb 0 (by omega)
    rw [Nat.add_zero, Nat.add_zero] at b0
    have n0 := bN_eq t j
    exact uw_1 (by omega) (by omega)
  · rw [e] at hj hb ⊢
    have b0 := hb 0 (by omega)
    have b1 := hb 1 (by omega)
    rw [Nat.add_zero, Nat.add_zero] at b0
    exact uw_of2 hj (by omega) (by omega) (by omega) (by omega)
  · rw [e] at hj hb ⊢
    have b0 := hb 0 (by omega)
    have b1 := hb 1 (by omega)
    have b2 := hb 2 (by omega)
    rw [Nat.add_zero, Nat.add_zero] at b0
    exact uw_of3 hj (by omega) (by omega) (by omega) (by omega) (by omega) (by omega) (by omega) (by omega)
  · rw [e] at hj hb ⊢
    have b0 := hb 0 (by omega)
    have b1 := hb 1 (by omega)
    have b2 := hb 2 (by omega)
    have b3 := hb 3 (by omega)
    rw [Nat.add_zero, Nat.add_zero] at b0
    exact uw_of4 hj (by omega) (by omega) (by omega) (by omega) (by omega) (by omega) (by omega) (by omega) (by omega) (by omega)
theorem text_mk {t : ByteArray} {j : Nat} (hu : uw t j ≠ 0) (h : textF t (t.size - (j + uw t j)) (j + uw t j) = true) : textF t (t.size - j) j = true := by
  have hf := uw_fit t j hu
  rw [show t.size - j = (t.size - j - 1) + 1 by omega, textF, if_pos (by omega), if_neg hu]
  rw [← h]
  exact textF_fuel t _ _ _ (by omega) (by omega)
theorem text_within {s t : ByteArray} {o : Nat} (ho : o + s.size ≤ t.size) (hb : ∀ i, i < s.size → bAt t (o + i) = bAt s i) (hr : textF t (t.size - (o + s.size)) (o + s.size) = true) :
    ∀ (g k : Nat), s.size - k ≤ g → k ≤ s.size → textF s (s.size - k) k = true → textF t (t.size - (o + k)) (o + k) = true
  | 0, k, hg, hk, _ => by
    have : k = s.size := by omega
    subst this; exact hr
  | g + 1, k, hg, hk, h => by
    by_cases e : k < s.size
    · obtain ⟨hu, hf, h2⟩ := text_at' h e
      have hs : uw t (o + k) = uw s k := uw_same hu (by omega) (fun i hi => by rw [Nat.add_assoc]; exact hb (k + i) (by omega))
      have := text_within ho hb hr g (k + uw s k) (by omega) hf h2
      refine text_mk (by omega) ?_
      rw [hs, Nat.add_assoc]
      exact this
    · have : k = s.size := by omega
      subst this; exact hr

/-- A row of bytes is a text. -/
def TxL (l : List Int) : Prop := textF (txt l) (txt l).size 0 = true
theorem txl_app {a b : List Int} (ha : By8 a) (hb : By8 b) (h1 : TxL a) (h2 : TxL b) : TxL (a ++ b) := by
  have hz : (txt (a ++ b)).size = a.length + b.length := by rw [txt_size, List.length_append]
  have za : (txt a).size = a.length := txt_size a
  have zb : (txt b).size = b.length := txt_size b
  have hab := bl_txt (ha.app hb)
  have gb : ∀ i, i < (txt b).size → bAt (txt (a ++ b)) (a.length + i) = bAt (txt b) i := fun i hi => by
    rw [zb] at hi
    rw [bAt_bl hab (a.length + i) (by rw [List.length_append]; omega), bAt_bl (bl_txt hb) i hi]
    simp
  have ga : ∀ i, i < (txt a).size → bAt (txt (a ++ b)) (0 + i) = bAt (txt a) i := fun i hi => by
    rw [za] at hi
    rw [Nat.zero_add, bAt_bl hab i (by rw [List.length_append]; omega), bAt_bl (bl_txt ha) i hi]
    simp [hi]
  have e2 := text_within (s := txt b) (t := txt (a ++ b)) (o := a.length) (by omega) gb (by rw [show (txt (a ++ b)).size - (a.length + (txt b).size) = 0 by omega, textF]; simp; omega) (txt b).size 0 (by omega) (by omega) (by rw [Nat.sub_zero]; exact h2)
  rw [Nat.add_zero] at e2
  have e1 := text_within (s := txt a) (t := txt (a ++ b)) (o := 0) (by omega) ga (by rw [Nat.zero_add, za]; exact e2) (txt a).size 0 (by omega) (by omega) (by rw [Nat.sub_zero]; exact h1)
  exact e1
theorem txl_one {c : Int} (h0 : 0 ≤ c) (h1 : c < 128) : TxL [c] := by
  have h8 : By8 [c] := by intro x hx; simp at hx; omega
  have hz : (txt [c]).size = 1 := by rw [txt_size]; rfl
  have hb : bAt (txt [c]) 0 = c := bAt_bl (bl_txt h8) 0 (by simp)
  have n0 := bN_eq (txt [c]) 0
  have hu : uw (txt [c]) 0 = 1 := uw_1 (by omega) (by omega)
  have := text_mk (t := txt [c]) (j := 0) (by omega) (by rw [hu, hz]; simp [textF, hz])
  rw [Nat.sub_zero] at this
  exact this
theorem txl_char {s : ByteArray} {k : Nat} (hu : uw s k ≠ 0) : TxL (sub s k (k + uw s k)) := by
  have hf := uw_fit s k hu
  have h8 := sub_by s k (k + uw s k)
  have hz : (txt (sub s k (k + uw s k))).size = uw s k := by rw [txt_size, sub_len]; omega
  have hb : ∀ i, i < uw s k → bAt (txt (sub s k (k + uw s k))) (0 + i) = bAt s (k + i) := fun i hi => by
    rw [Nat.zero_add, bAt_bl (bl_txt h8) i (by rw [sub_len]; omega)]
    simp [sub]
  have e := uw_same (s := s) (t := txt (sub s k (k + uw s k))) (k := k) (j := 0) hu (by omega) hb
  have := text_mk (t := txt (sub s k (k + uw s k))) (j := 0) (by rw [e]; exact hu) (by rw [e, hz, Nat.zero_add, Nat.sub_self, textF]; simp [hz])
  rw [Nat.sub_zero] at this
  exact this
theorem txl_nil : TxL [] := by
  unfold TxL
  have hz : (txt []).size = 0 := txt_size []
  rw [hz, textF]; simp [hz]
theorem esc_by {l : List Int} (h : By8 l) : By8 (l.flatMap escP) := by
  intro x hx
  obtain ⟨c, hc, h2⟩ := List.mem_flatMap.1 hx
  have := h c hc
  unfold escP at h2
  repeat' split at h2
  all_goals simp at h2; omega
theorem txl_esc {s : ByteArray} : ∀ (g k : Nat), s.size - k ≤ g → k ≤ s.size → textF s (s.size - k) k = true → TxL ((sub s k s.size).flatMap escP)
  | 0, k, hg, hk, _ => by
    have : k = s.size := by omega
    subst this; rw [sub_self]; exact txl_nil
  | g + 1, k, hg, hk, h => by
    by_cases e : k < s.size
    · obtain ⟨hu, hf, h2⟩ := text_at' h e
      have ih := txl_esc g (k + uw s k) (by omega) hf h2
      rw [← sub_app s (j := k) (m := k + uw s k) (k := s.size) (by omega) hf, List.flatMap_append]
      refine txl_app (esc_by (sub_by s _ _)) (esc_by (sub_by s _ _)) ?_ ih
      rw [esc_chunk hu]
      split
      · exact txl_app (a := [126]) (b := [48]) (by intro x hx; simp at hx; omega) (by intro x hx; simp at hx; omega) (txl_one (by decide) (by decide)) (txl_one (by decide) (by decide))
      · split
        · exact txl_app (a := [126]) (b := [49]) (by intro x hx; simp at hx; omega) (by intro x hx; simp at hx; omega) (txl_one (by decide) (by decide)) (txl_one (by decide) (by decide))
        · rw [enc_sub hu]; exact txl_char hu
    · have : k = s.size := by omega
      subst this; rw [sub_self]; exact txl_nil

theorem esc_tilde : ∀ (l : List Int) (e : Nat), (l.flatMap escP)[e]? = some 126 → (l.flatMap escP)[e + 1]? = some 48 ∨ (l.flatMap escP)[e + 1]? = some 49
  | [], e, h => by simp at h
  | c :: t, e, h => by
    rw [List.flatMap_cons] at h ⊢
    by_cases h1 : c = 126
    · have hc : escP c = [126, 48] := by unfold escP; rw [if_pos h1]
      rw [hc] at h ⊢
      match e, h with
      | 0, _ => exact Or.inl rfl
      | 1, h => simp at h
      | e + 2, h => exact esc_tilde t e h
    · by_cases h2 : c = 47
      · have hc : escP c = [126, 49] := by unfold escP; rw [if_neg h1, if_pos h2]
        rw [hc] at h ⊢
        match e, h with
        | 0, _ => exact Or.inr rfl
        | 1, h => simp at h
        | e + 2, h => exact esc_tilde t e h
      · have hc : escP c = [c] := by unfold escP; rw [if_neg h1, if_neg h2]
        rw [hc] at h ⊢
        match e, h with
        | 0, h => simp at h; exact absurd h h1
        | e + 1, h => exact esc_tilde t e h
theorem esc_slash (l : List Int) : ∀ x ∈ l.flatMap escP, x ≠ 47 := by
  intro x hx
  obtain ⟨c, hc, h2⟩ := List.mem_flatMap.1 hx
  unfold escP at h2
  repeat' split at h2
  all_goals simp at h2; omega
theorem tilde_mk (p : ByteArray) : ∀ (n i : Nat), (∀ j, i ≤ j → j < i + n → bAt p j = 126 → j + 1 < p.size ∧ (bAt p (j + 1) = 48 ∨ bAt p (j + 1) = 49)) → tildeOk p n i = true
  | 0, _, _ => rfl
  | n + 1, i, h => by
    rw [tildeOk, if_neg (fun hc => hc.2 (h i (Nat.le_refl _) (by omega) hc.1))]
    exact tilde_mk p n (i + 1) (fun j h1 h2 => h j (by omega) (by omega))
theorem lastSl_skip (p : ByteArray) : ∀ (n i : Nat), i ≤ n → (∀ j, i ≤ j → j < n → bAt p j ≠ 47) → lastSl p n = lastSl p i ∨ i = n
  | 0, i, h, _ => Or.inr (by omega)
  | n + 1, i, h, hn => by
    by_cases e : i = n + 1
    · exact Or.inr e
    · left
      rw [lastSl, if_neg (hn n (by omega) (by omega))]
      rcases lastSl_skip p n i (by omega) (fun j h1 h2 => hn j h1 (by omega)) with h2 | h2
      · exact h2
      · rw [h2]

/-- A pointer with one more token: what it is. -/
theorem longer_is {p s X : ByteArray} (hp : pvB p = true) (ht : textF s s.size 0 = true) (hX : bl X = bl p ++ [47] ++ (bl s).flatMap escP) :
    pvB X = true ∧ lastSl X X.size = p.size ∧ X.extract 0 p.size = p := by
  have ok := ptr_ok hp
  have hE8 : By8 ((bl s).flatMap escP) := esc_by (bl_by8 s)
  have hTE : TxL ((bl s).flatMap escP) := by
    have := txl_esc (s := s) s.size 0 (by omega) (Nat.zero_le _) (by rw [Nat.sub_zero]; exact ht)
    rw [sub_all] at this
    exact this
  have htil := esc_tilde (bl s)
  have hsl := esc_slash (bl s)
  generalize (bl s).flatMap escP = E at hX hE8 hTE htil hsl
  have hz : X.size = p.size + 1 + E.length := by rw [← bl_len, hX]; simp [bl_len]; omega
  have bp : ∀ i, i < p.size → bAt X i = bAt p i := fun i hi => by
    have h2 : i < (bl p).length := by rw [bl_len]; exact hi
    rw [bAt_bl hX i (by simp [bl_len]; omega), bAt_bl (rfl : bl p = bl p) i h2]
    rw [List.getElem_append_left (by rw [List.length_append]; omega), List.getElem_append_left h2]
  have bs : bAt X p.size = 47 := by
    rw [bAt_bl hX p.size (by simp [bl_len])]
    rw [List.getElem_append_left (by simp [bl_len]), List.getElem_append_right (by rw [bl_len]; exact Nat.le_refl _)]
    simp [bl_len]
  have be : ∀ e (h : e < E.length), bAt X (p.size + 1 + e) = E[e] := fun e h => by
    rw [bAt_bl hX (p.size + 1 + e) (by simp [bl_len]; omega)]
    rw [List.getElem_append_right (by simp [bl_len])]
    simp [bl_len]
  have hpT : textF p p.size 0 = true := by
    unfold pvB at hp
    simp only [Bool.and_eq_true] at hp
    exact hp.1.1
  have hTX : textF X X.size 0 = true := by
    have h1 : TxL (bl p) := by unfold TxL; rw [txt_bl]; exact hpT
    have h8 : By8 [(47 : Int)] := by intro x hx; simp at hx; omega
    have h2 := txl_app ((bl_by8 p).app h8) hE8 (txl_app (bl_by8 p) h8 h1 (txl_one (by decide) (by decide))) hTE
    rw [← hX] at h2
    unfold TxL at h2
    rw [txt_bl] at h2
    exact h2
  refine ⟨?_, ?_, ?_⟩
  · have hhead : X.size = 0 ∨ bAt X 0 = 47 := by
      right
      rcases ok.head with h | h
      · rw [h] at bs; exact bs
      · by_cases h0 : 0 < p.size
        · rw [bp 0 h0]; exact h
        · have : p.size = 0 := by omega
          rw [this] at bs; exact bs
    have htl : tildeOk X X.size 0 = true := tilde_mk X X.size 0 (fun j _ hj h126 => by
      rw [Nat.zero_add] at hj
      by_cases h1 : j < p.size
      · rw [bp j h1] at h126
        have := ok.tilde j h1 h126
        rw [bp (j + 1) this.1]
        exact ⟨by omega, this.2⟩
      · by_cases h2 : j = p.size
        · rw [h2, bs] at h126; exact absurd h126 (by decide)
        · obtain ⟨e, rfl⟩ : ∃ e, j = p.size + 1 + e := ⟨j - p.size - 1, by omega⟩
          have he : e < E.length := by omega
          rw [be e he] at h126
          have h3 := htil e (by rw [List.getElem?_eq_getElem he, h126])
          have he1 : e + 1 < E.length := by
            by_cases h : e + 1 < E.length
            · exact h
            · rw [List.getElem?_eq_none (by omega)] at h3; rcases h3 with h3 | h3 <;> cases h3
          rw [List.getElem?_eq_getElem he1] at h3
          rw [show p.size + 1 + e + 1 = p.size + 1 + (e + 1) by omega, be (e + 1) he1]
          refine ⟨by omega, ?_⟩
          rcases h3 with h3 | h3
          · exact Or.inl (Option.some.inj h3)
          · exact Or.inr (Option.some.inj h3))
    unfold pvB
    simp only [Bool.and_eq_true, Bool.or_eq_true, decide_eq_true_eq]
    exact ⟨⟨hTX, hhead⟩, htl⟩
  · have h47 : lastSl X (p.size + 1) = p.size := by rw [lastSl, if_pos bs]
    rcases lastSl_skip X X.size (p.size + 1) (by omega) (fun j h1 h2 => by
      obtain ⟨e, rfl⟩ : ∃ e, j = p.size + 1 + e := ⟨j - p.size - 1, by omega⟩
      have he : e < E.length := by omega
      rw [be e he]
      exact hsl _ (List.getElem_mem he)) with h | h
    · rw [h, h47]
    · rw [← h, h47]
  · apply bl_inj
    rw [bl_sub X 0 p.size (by omega) (Nat.zero_le _)]
    have := sub_all p
    rw [← this]
    unfold sub
    apply List.map_congr_left
    intro i hi
    rw [List.mem_range] at hi
    rw [Nat.zero_add]
    exact bp i (by omega)
end Go.Proofs.Ytbnnjjilkpdanaa

/- Two texts of strings one behind the other: the plain law. No program in sight. -/
import Derived.Test.YtokhmhbjbclcoaaDoorUd
import Derived.Test.YtokhmhbjbclcoaaDoorPs
namespace Go.Proofs.YtokhmhbjbclcoaaDoor
set_option linter.unusedVariables false
set_option linter.unusedSimpArgs false
open Go.RowKit

/-- A fault is noted just where reading says that it did not go well. -/
def Ft (σ : St) (p : Bool × St) : Prop := (p.1 = false → p.2.fault ≠ 0) ∧ (p.1 = true → p.2.fault = σ.fault)
theorem fail_ne (σ : St) : (σ.fail 4).fault ≠ 0 := by unfold St.fail; split; (show (4 : Int) ≠ 0; decide); assumption
theorem Ft.failed (σ : St) : Ft σ (false, σ.fail 4) := ⟨fun _ => fail_ne σ, fun h => by cases h⟩
theorem Ft.same {σ : St} {n : Nat} : Ft σ (true, { σ with at_ := n }) := ⟨fun h => (by cases h), fun _ => rfl⟩
theorem Ft.then {σ : St} {p : Bool × St} {f : St → Bool × St} (h : Ft σ p) (hf : ∀ τ, Ft τ (f τ)) : Ft σ (St.andThen p f) := by
  unfold St.andThen
  split
  · rename_i hp
    exact ⟨(hf p.2).1, fun e => ((hf p.2).2 e).trans (h.2 hp)⟩
  · rename_i hp
    exact ⟨fun _ => h.1 (by simpa using hp), fun e => by cases e⟩
theorem Ft.at1 {σ : St} {n : Nat} {p : Bool × St} (h : Ft { σ with at_ := n } p) : Ft σ p := h
section
variable (s : ByteArray)
theorem need_ft (σ : St) (x y : Int) : Ft σ (St.need s σ x y) := by unfold St.need; split; exact Ft.same; exact Ft.failed σ
theorem hex_ft (σ : St) (x y : Int) : Ft σ (St.hex s σ x y) := by unfold St.hex; split; exact Ft.failed σ; exact Ft.same
theorem hex2_ft (σ : St) : Ft σ (St.hex2 s σ) := (hex_ft s σ 0 15).then fun τ => hex_ft s τ 0 15
theorem hex3_ft (σ : St) : Ft σ (St.hex3 s σ) := (hex_ft s σ 0 15).then fun τ => hex2_ft s τ
theorem hex4_ft (σ : St) : Ft σ (St.hex4 s σ) := (hex_ft s σ 0 15).then fun τ => hex3_ft s τ
theorem unit_ft (lo low : Bool) (σ : St) : Ft σ ((St.unit s lo low σ).1, (St.unit s lo low σ).2.2) := by
  unfold St.unit
  split
  · exact hex4_ft s σ
  · dsimp only
    split
    · rename_i hp
      have h1 := hex_ft s σ (St.unitX low) (St.unitY low)
      have h2 := (hex_ft s (St.hex s σ (St.unitX low) (St.unitY low)).2 (St.unitLo low) (St.unitHi low (hexV (bAt s σ.at_)))).then (f := fun σ => St.hex2 s σ) fun τ => hex2_ft s τ
      exact ⟨h2.1, fun e => (h2.2 e).trans (h1.2 hp)⟩
    · rename_i hp
      exact ⟨fun _ => (hex_ft s σ _ _).1 (by simpa using hp), fun e => by cases e⟩
theorem escape_ft (lo : Bool) (σ : St) : Ft σ (St.escape s lo σ) := by
  unfold St.escape
  dsimp only
  split
  · exact Ft.same
  · split
    · have hu := (unit_ft s lo false { σ with at_ := σ.at_ + 1 }).at1
      split
      · rename_i hh
        rw [Bool.and_eq_true] at hh
        have h2 := (need_ft s (St.unit s lo false { σ with at_ := σ.at_ + 1 }).2.2 92 92).then (f := fun σ => St.andThen (St.need s σ 117 117) fun σ => ((St.unit s lo true σ).1, (St.unit s lo true σ).2.2)) fun τ => (need_ft s τ 117 117).then fun τ => unit_ft s lo true τ
        exact ⟨h2.1, fun e => (h2.2 e).trans (hu.2 hh.1)⟩
      · exact hu
    · exact Ft.failed σ
theorem rune_ft (σ : St) : Ft σ (St.rune s σ) := by
  unfold St.rune
  dsimp only
  split
  · exact (need_ft s _ _ _).at1
  · split
    · exact ((need_ft s _ _ _).then fun τ => need_ft s τ 128 191).at1
    · split
      · exact ((need_ft s _ _ _).then fun τ => (need_ft s τ 128 191).then fun τ => need_ft s τ 128 191).at1
      · exact Ft.failed σ
theorem inner_ft (lo : Bool) (σ : St) : Ft σ (St.inner s lo σ) := by
  unfold St.inner
  dsimp only
  split
  · exact (escape_ft s lo _).at1
  · split
    · exact Ft.failed σ
    · split
      · exact Ft.same
      · exact rune_ft s σ
theorem loop_ft (lo : Bool) : ∀ (g : Nat) (σ : St), Ft σ (St.strLoop s lo g σ)
  | 0, σ => Ft.failed σ
  | g + 1, σ => by
    unfold St.strLoop
    split
    · split
      · exact ⟨fun h => (by cases h), fun _ => rfl⟩
      · exact (inner_ft s lo σ).then fun τ => loop_ft lo g τ
    · exact Ft.failed σ
theorem quoted_ft (lo : Bool) (σ : St) : Ft σ (St.quoted s lo σ) := (need_ft s σ 34 34).then fun τ => loop_ft s lo _ τ
theorem scQ_ft (lo : Bool) (σ : St) : Ft σ (scQ s lo σ) := (quoted_ft s lo σ).then fun τ => need_ft s τ 34 34
end

theorem spEnd_sp (s : ByteArray) : ∀ (n i j : Nat), i ≤ j → j < spEnd s n i → isSp (bAt s j) = true
  | 0, i, j, h1, h2 => by unfold spEnd at h2; omega
  | n + 1, i, j, h1, h2 => by
    unfold spEnd at h2
    split at h2
    · rename_i h
      by_cases e : j = i
      · subst e; exact h.2
      · exact spEnd_sp s n (i + 1) j (by omega) h2
    · omega
/-- A text that is taken, from quotation mark to quotation mark. -/
theorem taken_scQ {s : ByteArray} {lo : Bool} (h0 : 0 < s.size) (hl : bAt s (s.size - 1) = 34) (hf : (psQ s lo).fault = 0) : ∃ σ, scQ s lo ⟨0, 0, false⟩ = (true, σ) ∧ σ.at_ = s.size := by
  unfold psQ at hf
  dsimp only at hf
  split at hf
  · rename_i hp
    have hle : (scQ s lo ⟨0, 0, false⟩).2.at_ ≤ s.size := by
      have h1 := St.quoted_le (s := s) lo (σ := ⟨0, 0, false⟩) (Nat.zero_le _)
      exact St.then_le h1.2 (St.need_adv h1.2 34 34).2.1
    obtain ⟨σ, hs⟩ : ∃ σ, scQ s lo ⟨0, 0, false⟩ = (true, σ) := ⟨_, Prod.ext hp rfl⟩
    rw [hs] at hf hle
    dsimp only at hf hle
    rw [space_eq] at hf
    dsimp only at hf
    refine ⟨σ, hs, ?_⟩
    by_cases e : σ.at_ = s.size
    · exact e
    · split at hf
      · exact absurd hf (fail_ne _)
      · rename_i hn
        have := spEnd_sp s (s.size - σ.at_) σ.at_ (s.size - 1) (by omega) (by omega)
        rw [hl] at this
        cases this
  · rename_i hp
    exact absurd hf ((scQ_ft s lo ⟨0, 0, false⟩).1 (by simpa using hp))
/-- A text that is taken strictly is a run, and is unquoted so. -/
theorem taken_run {s : ByteArray} (h0 : bAt s 0 = 34) (hl : bAt s (s.size - 1) = 34) (hf : (psQ s false).fault = 0) : ∃ X, 2 ≤ s.size ∧ Run s 1 (s.size - 1) X := by
  have hz : 0 < s.size := by
    by_cases h : 0 < s.size
    · exact h
    · rw [bAt_ge h] at h0; cases h0
  obtain ⟨σ, hs, ha⟩ := taken_scQ hz hl hf
  obtain ⟨τ, h1, h2⟩ := then_ok hs
  obtain ⟨a1, _, _, rfl⟩ := need_ok h2
  obtain ⟨τ0, g1, g2⟩ := then_ok h1
  obtain ⟨_, _, _, rfl⟩ := need_ok g1
  obtain ⟨X, r1, r2, r3⟩ := loop_run _ _ _ (by dsimp only; omega) g2
  dsimp only at r1 ha
  have hle := r1.le
  refine ⟨X, by omega, ?_⟩
  have e : s.size - 1 = τ.at_ := by omega
  rw [e]
  exact r1
theorem run_uq {s : ByteArray} {X : List Int} (h0 : bAt s 0 = 34) (hl : bAt s (s.size - 1) = 34) (h2 : 2 ≤ s.size) (r : Run s 1 (s.size - 1) X) : uq s = (X, false) := by
  unfold uq
  rw [if_neg (by omega), if_pos h0, r.uO (by omega) hl s.size (by omega)]
  simp; omega
theorem uO_by (s : ByteArray) : ∀ (g n : Nat), By8 (uO s g n).1
  | 0, n => By8.nil
  | g + 1, n => by
    unfold uO
    split
    · rename_i hn
      split
      · exact By8.nil
      · split
        · exact (uS_fit s n hn).2.2
        · exact (uS_fit s n hn).2.2.app (uO_by s g _)
    · exact By8.nil
theorem uq_by (s : ByteArray) : By8 (uq s).1 := by
  unfold uq
  split
  · exact By8.nil
  · split
    · exact uO_by s _ _
    · exact By8.nil

theorem uO_len (s : ByteArray) : ∀ (g n : Nat), (uO s g n).1.length ≤ 4 * g
  | 0, n => by simp [uO]
  | g + 1, n => by
    unfold uO
    split
    · rename_i hn
      split
      · simp
      · have h1 := (uS_fit s n hn).2.1
        split
        · dsimp only; omega
        · have h2 := uO_len s g (n + (uS s n).2.1)
          rw [List.length_append]; omega
    · simp
theorem uq_len (s : ByteArray) : (uq s).1.length ≤ 4 * s.size := by
  unfold uq
  split
  · simp
  · split
    · exact uO_len s _ _
    · simp
/-- A text between quotation marks. -/
def qt (a : ByteArray) : ByteArray := ⟨#[34]⟩ ++ a ++ ⟨#[34]⟩
theorem bl_qt (a : ByteArray) : bl (qt a) = 34 :: (bl a ++ [34]) := by
  unfold qt
  rw [bl_append, bl_append]
  rfl
theorem qt_size (a : ByteArray) : (qt a).size = a.size + 2 := by rw [← bl_len, bl_qt]; simp [bl_len]
theorem bAt_getD (t : ByteArray) (k : Nat) : bAt t k = (bl t).getD k 0 := by
  by_cases h : k < t.size
  · rw [bAt_bl (L := bl t) rfl k (by rw [bl_len]; exact h), List.getD_eq_getElem?_getD, List.getElem?_eq_getElem (by rw [bl_len]; exact h)]; rfl
  · rw [bAt_ge h, List.getD_eq_getElem?_getD, List.getElem?_eq_none (by rw [bl_len]; omega)]; rfl
theorem qt_0 (a : ByteArray) : bAt (qt a) 0 = 34 := by rw [bAt_getD, bl_qt]; rfl
theorem qt_last (a : ByteArray) : bAt (qt a) ((qt a).size - 1) = 34 := by
  rw [bAt_getD, bl_qt, qt_size, List.getD_eq_getElem?_getD, show a.size + 2 - 1 = a.size + 1 by omega, List.getElem?_cons_succ, List.getElem?_append_right (by rw [bl_len]; exact Nat.le_refl _), bl_len, Nat.sub_self]
  rfl
theorem qt_in (a : ByteArray) (i : Nat) (hi : i < a.size) : bAt (qt a) (1 + i) = bAt a i := by
  rw [bAt_getD, bAt_getD, bl_qt, Nat.add_comm 1 i, List.getD_eq_getElem?_getD, List.getElem?_cons_succ, List.getElem?_append_left (by rw [bl_len]; exact hi), ← List.getD_eq_getElem?_getD]
theorem app_l (a b : ByteArray) (i : Nat) (hi : i < a.size) : bAt (a ++ b) i = bAt a i := by
  rw [bAt_getD, bAt_getD, bl_append, List.getD_eq_getElem?_getD, List.getElem?_append_left (by rw [bl_len]; exact hi), ← List.getD_eq_getElem?_getD]
theorem app_r (a b : ByteArray) (i : Nat) : bAt (a ++ b) (a.size + i) = bAt b i := by
  rw [bAt_getD, bAt_getD, bl_append, List.getD_eq_getElem?_getD, List.getElem?_append_right (by rw [bl_len]; omega), bl_len, Nat.add_sub_cancel_left, ← List.getD_eq_getElem?_getD]

/-- What is unquoted of two texts of strings one behind the other. -/
theorem unq_join (a b : ByteArray) (ha : (psQ (qt a) false).fault = 0) (hb : (psQ (qt b) false).fault = 0) :
    (uq (qt a)).2 = false ∧ (uq (qt b)).2 = false ∧ (uq (qt (a ++ b))).2 = false ∧ (uq (qt (a ++ b))).1 = (uq (qt a)).1 ++ (uq (qt b)).1 := by
  obtain ⟨X, a2, ra⟩ := taken_run (qt_0 a) (qt_last a) ha
  obtain ⟨Y, b2, rb⟩ := taken_run (qt_0 b) (qt_last b) hb
  have ea := run_uq (qt_0 a) (qt_last a) a2 ra
  have eb := run_uq (qt_0 b) (qt_last b) b2 rb
  rw [qt_size] at ra rb
  rw [show a.size + 2 - 1 = a.size + 1 by omega] at ra
  rw [show b.size + 2 - 1 = b.size + 1 by omega] at rb
  have za : Run (qt (a ++ b)) 1 (1 + (a.size + 1 - 1)) X := ra.same 1 (fun i hi => by
    rw [qt_in a i (by omega), qt_in (a ++ b) i (by rw [ByteArray.size_append]; omega), app_l a b i (by omega)]) (by rw [qt_size, ByteArray.size_append]; omega)
  have zb : Run (qt (a ++ b)) (1 + a.size) (1 + a.size + (b.size + 1 - 1)) Y := rb.same (1 + a.size) (fun i hi => by
    rw [qt_in b i (by omega), Nat.add_assoc, qt_in (a ++ b) (a.size + i) (by rw [ByteArray.size_append]; omega), app_r]) (by rw [qt_size, ByteArray.size_append]; omega)
  rw [show 1 + (a.size + 1 - 1) = 1 + a.size by omega] at za
  have zz := za.app zb
  have hz : (qt (a ++ b)).size - 1 = 1 + a.size + (b.size + 1 - 1) := by rw [qt_size, ByteArray.size_append]; omega
  rw [← hz] at zz
  have ez := run_uq (qt_0 (a ++ b)) (qt_last (a ++ b)) (by rw [qt_size]; omega) zz
  rw [ea, eb, ez]
  exact ⟨rfl, rfl, rfl, rfl⟩
end Go.Proofs.YtokhmhbjbclcoaaDoor

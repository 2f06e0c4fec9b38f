/- Unquoting a string: the plain mathematics of the library's own unquoting. No program in sight. -/
import Derived.Test.YtokhmhbjbclcoaaDoorQt
import Derived.Test.YtokhmhbjbclcoaaDoorAr
import Derived.Test.YtokhmhbjbclcoaaDoorUv
import Derived.Test.YtokhmhbjbclcoaaDoorUx
namespace Go.Proofs.YtokhmhbjbclcoaaDoor
set_option linter.unusedVariables false
set_option linter.unusedSimpArgs false
open Go.RowKit

/-- The character that stands for what is none. -/
def brk : List Int := [239, 191, 189]
theorem brk_by : By8 brk := by intro x hx; simp [brk] at hx; omega
/-- The byte for which a letter behind a backslash stands, -1 for others. -/
def escC (e : Int) : Int :=
  if e = 34 ∨ e = 92 ∨ e = 47 then e else if e = 98 then 8 else if e = 102 then 12 else if e = 110 then 10 else if e = 114 then 13 else if e = 116 then 9 else -1

/-- An escape of a unit at a place: what is put, how long it is (0: reading ends), whether something was wrong. -/
def uU (s : ByteArray) (n : Nat) : List Int × Nat × Bool :=
  if s.size < n + 6 then ([], 0, true)
  else if hexAll s (n + 2) 4 = false then ([], 0, true)
  else if surB (hexPre s (n + 2) 4) = false then (encU (hexPre s (n + 2) 4), 6, false)
  else if s.size < n + 12 then (if prefB true s (n + 6) (s.size - (n + 6)) = true then (brk, 0, true) else (brk, 6, true))
  else if bAt s (n + 6) = 92 ∧ bAt s (n + 7) = 117 ∧ hexAll s (n + 8) 4 = true ∧ pairR (hexPre s (n + 2) 4) (hexPre s (n + 8) 4) ≠ 65533 then
    (encU (pairR (hexPre s (n + 2) 4) (hexPre s (n + 8) 4)), 12, false)
  else (brk, 6, true)
/-- One step of unquoting. -/
def uS (s : ByteArray) (n : Nat) : List Int × Nat × Bool :=
  if bAt s n = 92 then
    if s.size < n + 2 then ([], 0, true)
    else if 0 ≤ escC (bAt s (n + 1)) then ([escC (bAt s (n + 1))], 2, false)
    else if bAt s (n + 1) = 117 then uU s n
    else ([], 0, true)
  else if bAt s n < 32 then ([], 0, true)
  else if bAt s n < 128 then ([bAt s n], 1, false)
  else if uw s n = 0 then (if fullB s n = true then (brk, 1, true) else ([], 0, true))
  else (sub s n (n + uw s n), uw s n, false)
/-- What is written from a place on, and whether something was wrong. -/
def uO (s : ByteArray) : Nat → Nat → List Int × Bool
  | 0, _ => ([], true)
  | g + 1, n =>
    if n < s.size then
      if bAt s n = 34 then ([], decide (n + 1 < s.size))
      else if (uS s n).2.1 = 0 then ((uS s n).1, true)
      else ((uS s n).1 ++ (uO s g (n + (uS s n).2.1)).1, (uS s n).2.2 || (uO s g (n + (uS s n).2.1)).2)
    else ([], true)
/-- What unquoting makes of a text. -/
def uq (s : ByteArray) : List Int × Bool := if s.size = 0 then ([], true) else if bAt s 0 = 34 then uO s s.size 1 else ([], true)

theorem escC_bd (e : Int) (h0 : 0 ≤ e) (h1 : e ≤ 255) (h : 0 ≤ escC e) : escC e < 256 := by
  unfold escC at *
  repeat' split
  all_goals omega
theorem pairR_bd (a b : Int) : 0 ≤ pairR a b ∧ pairR a b ≤ 1114111 := by
  unfold pairR
  split
  all_goals omega
theorem uU_fit (s : ByteArray) (n : Nat) (hn : n < s.size) : n + (uU s n).2.1 ≤ s.size ∧ (uU s n).1.length ≤ 4 ∧ By8 (uU s n).1 := by
  unfold uU
  split
  · exact ⟨by dsimp only; omega, by simp, By8.nil⟩
  · split
    · exact ⟨by dsimp only; omega, by simp, By8.nil⟩
    · rename_i h6 ha
      have hb := hexPre_bd s (n + 2) 4 (by simpa using ha)
      split
      · exact ⟨by dsimp only; omega, encU_len _, encU_by hb.1 (by have := hb.2; simp at this; omega)⟩
      · split
        · split
          · exact ⟨by dsimp only; omega, by simp [brk], brk_by⟩
          · exact ⟨by dsimp only; omega, by simp [brk], brk_by⟩
        · split
          · exact ⟨by dsimp only; omega, encU_len _, encU_by (pairR_bd _ _).1 (pairR_bd _ _).2⟩
          · exact ⟨by dsimp only; omega, by simp [brk], brk_by⟩
theorem uS_fit (s : ByteArray) (n : Nat) (hn : n < s.size) : n + (uS s n).2.1 ≤ s.size ∧ (uS s n).1.length ≤ 4 ∧ By8 (uS s n).1 := by
  have h0 := bAt_nonneg s n
  have h1 := bAt_le s n
  unfold uS
  split
  · split
    · exact ⟨by dsimp only; omega, by simp, By8.nil⟩
    · rename_i h2
      split
      · rename_i h3
        refine ⟨by dsimp only; omega, by simp, ?_⟩
        intro x hx
        simp at hx
        subst hx
        exact ⟨h3, escC_bd _ (bAt_nonneg _ _) (bAt_le _ _) h3⟩
      · split
        · exact uU_fit s n hn
        · exact ⟨by dsimp only; omega, by simp, By8.nil⟩
  · split
    · exact ⟨by dsimp only; omega, by simp, By8.nil⟩
    · split
      · refine ⟨by dsimp only; omega, by simp, ?_⟩
        intro x hx
        simp at hx
        omega
      · split
        · split
          · exact ⟨by dsimp only; omega, by simp [brk], brk_by⟩
          · exact ⟨by dsimp only; omega, by simp, By8.nil⟩
        · rename_i hu
          have := uw_fit s n hu
          have h4 := step_fits s n hn
          unfold stepN at h4
          rw [if_neg hu] at h4
          exact ⟨this, by rw [sub_len]; omega, sub_by _ _ _⟩

/-- What holds from a place on is what is put there and what holds behind it. -/
theorem u_step {s : ByteArray} {g j k : Nat} {l : List Int} {bi : Bool} {T : List Int} {TI : Bool} (A : Aside (l ++ sub s j k ++ (uO s g k).1 = T)) (AI : Aside ((bi || (uO s g k).2) = TI)) (hk : k < s.size) (hg : s.size - k ≤ g) (h34 : bAt s k ≠ 34) (d : Nat) (hd : (uS s k).2.1 = d) (hd0 : d ≠ 0) :
    g - 1 < g ∧ s.size - (k + d) ≤ g - 1 ∧ k + d ≤ s.size ∧
      Aside (l ++ sub s j k ++ ((uS s k).1 ++ (uO s (g - 1) (k + d)).1) = T) ∧ Aside ((bi || ((uS s k).2.2 || (uO s (g - 1) (k + d)).2)) = TI) := by
  obtain ⟨g', rfl⟩ : ∃ g', g = g' + 1 := ⟨g - 1, by omega⟩
  have A' : l ++ sub s j k ++ (uO s (g' + 1) k).1 = T := A
  have AI' : (bi || (uO s (g' + 1) k).2) = TI := AI
  have hf := uS_fit s k hk
  rw [hd] at hf
  rw [uO, if_pos hk, if_neg h34, hd, if_neg hd0] at A'
  rw [uO, if_pos hk, if_neg h34, hd, if_neg hd0] at AI'
  exact ⟨by omega, by omega, hf.1, A', AI'⟩
theorem u_stop {s : ByteArray} {g j k : Nat} {l : List Int} {bi : Bool} {T : List Int} {TI : Bool} (A : Aside (l ++ sub s j k ++ (uO s g k).1 = T)) (AI : Aside ((bi || (uO s g k).2) = TI)) (hk : k < s.size) (hg : s.size - k ≤ g) (h34 : bAt s k ≠ 34) (hd : (uS s k).2.1 = 0) :
    l ++ sub s j k ++ (uS s k).1 = T ∧ TI = true := by
  obtain ⟨g', rfl⟩ : ∃ g', g = g' + 1 := ⟨g - 1, by omega⟩
  have A' : l ++ sub s j k ++ (uO s (g' + 1) k).1 = T := A
  have AI' : (bi || (uO s (g' + 1) k).2) = TI := AI
  rw [uO, if_pos hk, if_neg h34, if_pos hd] at A'
  rw [uO, if_pos hk, if_neg h34, if_pos hd] at AI'
  exact ⟨A', by rw [← AI']; simp⟩
theorem u_quote {s : ByteArray} {g j k : Nat} {l : List Int} {bi : Bool} {T : List Int} {TI : Bool} (A : Aside (l ++ sub s j k ++ (uO s g k).1 = T)) (AI : Aside ((bi || (uO s g k).2) = TI)) (hk : k < s.size) (hg : s.size - k ≤ g) (h34 : bAt s k = 34) :
    l ++ sub s j k = T ∧ TI = (bi || decide (k + 1 < s.size)) := by
  obtain ⟨g', rfl⟩ : ∃ g', g = g' + 1 := ⟨g - 1, by omega⟩
  have A' : l ++ sub s j k ++ (uO s (g' + 1) k).1 = T := A
  have AI' : (bi || (uO s (g' + 1) k).2) = TI := AI
  rw [uO, if_pos hk, if_pos h34] at A'
  rw [uO, if_pos hk, if_pos h34] at AI'
  exact ⟨by simpa using A', AI'.symm⟩
theorem u_end {s : ByteArray} {g j k : Nat} {l : List Int} {bi : Bool} {T : List Int} {TI : Bool} (A : Aside (l ++ sub s j k ++ (uO s g k).1 = T)) (AI : Aside ((bi || (uO s g k).2) = TI)) (hk : ¬ k < s.size) :
    l ++ sub s j k = T ∧ TI = true := by
  have A' : l ++ sub s j k ++ (uO s g k).1 = T := A
  have AI' : (bi || (uO s g k).2) = TI := AI
  have h1 : uO s g k = ([], true) := by cases g; rfl; rw [uO, if_neg hk]
  rw [h1] at A' AI'
  exact ⟨by simpa using A', by rw [← AI']; simp⟩
end Go.Proofs.YtokhmhbjbclcoaaDoor

/- The comparison of two characters' encodings: the plain law. -/
import Derived.Test.YtbnnjjilkpdanaaDoorEn
import Derived.Test.YtbnnjjilkpdanaaDoorSb
namespace Go.Proofs.YtbnnjjilkpdanaaDoor
open Go.RowKit
set_option linter.unusedVariables false

/-- What a text tells of the one character that it encodes. -/
structure EncOf (c : Int) (s : ByteArray) : Prop where
  size : s.size = stepN s 0
  rune : (runeN s 0 : Int) = c
  pos : 0 < s.size
  le : s.size ≤ 4
  low : c < 128 → bAt s 0 = c ∧ s.size = 1
  high : 128 ≤ c → 192 ≤ bAt s 0 ∧ 2 ≤ stepN s 0

theorem enc1_of {c : Int} (h0 : 0 ≤ c) (h1 : c < 128) : EncOf c (txt [c]) := by
  have hb : bl (txt [c]) = [c] := bl_txt (by intro x hx; simp at hx; omega)
  have hs : (txt [c]).size = 1 := by rw [txt_size]; rfl
  have e0 : bAt (txt [c]) 0 = c := bAt_bl hb 0 (by simp)
  generalize txt [c] = s at *
  have hu : uw s 0 = 1 := by unfold uw; rw [if_pos (by omega), if_pos (by omega)]
  have n0 := bN_eq s 0
  refine ⟨by unfold stepN; rw [hu, hs]; rfl, by unfold runeN; rw [if_pos hu]; omega, by omega, by omega, fun _ => ⟨e0, hs⟩, fun _ => by omega⟩

theorem enc2_of {c : Int} (h0 : 128 ≤ c) (h1 : c < 2048) : EncOf c (txt [192 + c / 64, 128 + c % 64]) := by
  have hb : bl (txt [192 + c / 64, 128 + c % 64]) = [192 + c / 64, 128 + c % 64] := bl_txt (by intro x hx; simp at hx; omega)
  have hs : (txt [192 + c / 64, 128 + c % 64]).size = 2 := by rw [txt_size]; rfl
  have e0 : bAt (txt [192 + c / 64, 128 + c % 64]) 0 = 192 + c / 64 := bAt_bl hb 0 (by simp)
  have e1 : bAt (txt [192 + c / 64, 128 + c % 64]) 1 = 128 + c % 64 := bAt_bl hb 1 (by simp)
  generalize txt [192 + c / 64, 128 + c % 64] = s at *
  have hl : uLen (bAt s 0) = 2 := by unfold uLen; rw [if_pos (by omega)]
  have hlo : uLo (bAt s 0) = 128 := by unfold uLo; rw [if_neg (by omega), if_neg (by omega)]
  have hhi : uHi (bAt s 0) = 191 := by unfold uHi; rw [if_neg (by omega), if_neg (by omega)]
  have hok : uwOk s 0 2 128 191 = true := by
    unfold uwOk
    show (decide (0 + 2 ≤ s.size) && decide (128 ≤ bAt s (0 + 1)) && decide (bAt s (0 + 1) ≤ 191) && true) = true
    simp only [Nat.zero_add, Bool.and_eq_true, decide_eq_true_eq, and_true]
    omega
  have hu : uw s 0 = 2 := by unfold uw; rw [if_pos (by omega), if_neg (by omega), hl, hlo, hhi, if_neg (by omega), if_pos hok]
  have n0 := bN_eq s 0
  have n1 := bN_eq s (0 + 1)
  rw [Nat.zero_add] at n1
  refine ⟨by unfold stepN; rw [hu, hs]; rfl, ?_, by omega, by omega, fun _ => by omega, fun _ => ⟨by omega, by unfold stepN; rw [hu]; decide⟩⟩
  unfold runeN; rw [if_neg (by omega), if_pos hu, Nat.zero_add]; omega

theorem enc3_of {c : Int} (h0 : 2048 ≤ c) (h1 : c < 65536) (h2 : c < 55296 ∨ 57343 < c) : EncOf c (txt [224 + c / 4096, 128 + c / 64 % 64, 128 + c % 64]) := by
  have hb : bl (txt [224 + c / 4096, 128 + c / 64 % 64, 128 + c % 64]) = [224 + c / 4096, 128 + c / 64 % 64, 128 + c % 64] := bl_txt (by intro x hx; simp at hx; omega)
  have hs : (txt [224 + c / 4096, 128 + c / 64 % 64, 128 + c % 64]).size = 3 := by rw [txt_size]; rfl
  have e0 : bAt (txt [224 + c / 4096, 128 + c / 64 % 64, 128 + c % 64]) 0 = 224 + c / 4096 := bAt_bl hb 0 (by simp)
  have e1 : bAt (txt [224 + c / 4096, 128 + c / 64 % 64, 128 + c % 64]) 1 = 128 + c / 64 % 64 := bAt_bl hb 1 (by simp)
  have e2 : bAt (txt [224 + c / 4096, 128 + c / 64 % 64, 128 + c % 64]) 2 = 128 + c % 64 := bAt_bl hb 2 (by simp)
  generalize txt [224 + c / 4096, 128 + c / 64 % 64, 128 + c % 64] = s at *
  have hl : uLen (bAt s 0) = 3 := by unfold uLen; rw [if_neg (by omega), if_pos (by omega)]
  have hlo : uLo (bAt s 0) ≤ bAt s 1 := by unfold uLo; (split; omega; split <;> omega)
  have hhi : bAt s 1 ≤ uHi (bAt s 0) := by unfold uHi; (split; omega; split <;> omega)
  have hok : uwOk s 0 3 (uLo (bAt s 0)) (uHi (bAt s 0)) = true := by
    unfold uwOk
    show (decide (0 + 3 ≤ s.size) && decide (uLo (bAt s 0) ≤ bAt s (0 + 1)) && decide (bAt s (0 + 1) ≤ uHi (bAt s 0)) && (cont (bAt s (0 + 2)) && true)) = true
    unfold cont
    simp only [Nat.zero_add, Bool.and_eq_true, decide_eq_true_eq, and_true]
    exact ⟨⟨⟨by omega, hlo⟩, hhi⟩, by omega, by omega⟩
  have hu : uw s 0 = 3 := by unfold uw; rw [if_pos (by omega), if_neg (by omega), hl, if_neg (by omega), if_pos hok]
  have n0 := bN_eq s 0
  have n1 := bN_eq s 1
  have n2 := bN_eq s 2
  refine ⟨by unfold stepN; rw [hu, hs]; rfl, ?_, by omega, by omega, fun _ => by omega, fun _ => ⟨by omega, by unfold stepN; rw [hu]; decide⟩⟩
  unfold runeN; rw [if_neg (by omega), if_neg (by omega), if_pos hu, Nat.zero_add, Nat.zero_add]; omega

theorem enc4_of {c : Int} (h0 : 65536 ≤ c) (h1 : c < 1114112) : EncOf c (txt [240 + c / 262144, 128 + c / 4096 % 64, 128 + c / 64 % 64, 128 + c % 64]) := by
  have hb : bl (txt [240 + c / 262144, 128 + c / 4096 % 64, 128 + c / 64 % 64, 128 + c % 64]) = [240 + c / 262144, 128 + c / 4096 % 64, 128 + c / 64 % 64, 128 + c % 64] := bl_txt (by intro x hx; simp at hx; omega)
  have hs : (txt [240 + c / 262144, 128 + c / 4096 % 64, 128 + c / 64 % 64, 128 + c % 64]).size = 4 := by rw [txt_size]; rfl
  have e0 : bAt (txt [240 + c / 262144, 128 + c / 4096 % 64, 128 + c / 64 % 64, 128 + c % 64]) 0 = 240 + c / 262144 := bAt_bl hb 0 (by simp)
  have e1 : bAt (txt [240 + c / 262144, 128 + c / 4096 % 64, 128 + c / 64 % 64, 128 + c % 64]) 1 = 128 + c / 4096 % 64 := bAt_bl hb 1 (by simp)
  have e2 : bAt (txt [240 + c / 262144, 128 + c / 4096 % 64, 128 + c / 64 % 64, 128 + c % 64]) 2 = 128 + c / 64 % 64 := bAt_bl hb 2 (by simp)
  have e3 : bAt (txt [240 + c / 262144, 128 + c / 4096 % 64, 128 + c / 64 % 64, 128 + c % 64]) 3 = 128 + c % 64 := bAt_bl hb 3 (by simp)
  generalize txt [240 + c / 262144, 128 + c / 4096 % 64, 128 + c / 64 % 64, 128 + c % 64] = s at *
  have hl : uLen (bAt s 0) = 4 := by unfold uLen; rw [if_neg (by omega), if_neg (by omega), if_pos (by omega)]
  have hlo : uLo (bAt s 0) ≤ bAt s 1 := by unfold uLo; (split; omega; split <;> omega)
  have hhi : bAt s 1 ≤ uHi (bAt s 0) := by unfold uHi; (split; omega; split <;> omega)
  have hok : uwOk s 0 4 (uLo (bAt s 0)) (uHi (bAt s 0)) = true := by
    unfold uwOk
    show (decide (0 + 4 ≤ s.size) && decide (uLo (bAt s 0) ≤ bAt s (0 + 1)) && decide (bAt s (0 + 1) ≤ uHi (bAt s 0)) && (cont (bAt s (0 + 2)) && (cont (bAt s (0 + 2 + 1)) && true))) = true
    unfold cont
    simp only [Nat.zero_add, Bool.and_eq_true, decide_eq_true_eq, and_true]
    have e3' : bAt s (2 + 1) = 128 + c % 64 := e3
    exact ⟨⟨⟨by omega, hlo⟩, hhi⟩, ⟨by omega, by omega⟩, by omega, by omega⟩
  have hu : uw s 0 = 4 := by unfold uw; rw [if_pos (by omega), if_neg (by omega), hl, if_neg (by omega), if_pos hok]
  have n0 := bN_eq s 0
  have n1 := bN_eq s 1
  have n2 := bN_eq s 2
  have n3 := bN_eq s 3
  refine ⟨by unfold stepN; rw [hu, hs]; rfl, ?_, by omega, by omega, fun _ => by omega, fun _ => ⟨by omega, by unfold stepN; rw [hu]; decide⟩⟩
  unfold runeN; rw [if_neg (by omega), if_neg (by omega), if_neg (by omega), if_pos hu, Nat.zero_add, Nat.zero_add, Nat.zero_add]; omega

/-- A character that has an encoding. -/
def Chr (c : Int) : Prop := 0 ≤ c ∧ c ≤ 1114111 ∧ ¬ (55296 ≤ c ∧ c ≤ 57343)
theorem encoded_any {c : Int} (h : Chr c) : ∃ s, EncOf c s ∧ ∀ w : World, Calls Tryd.prog 19 #[.int .i64 c] w fun e w' => e = .returned (.string s) ∧ Below w.heap.size w w' := by
  obtain ⟨h0, h1, h2⟩ := h
  by_cases k1 : c < 128
  · exact ⟨_, enc1_of h0 k1, fun w => enc_1 c h0 k1 w⟩
  · by_cases k2 : c < 2048
    · exact ⟨_, enc2_of (by omega) k2, fun w => enc_2 c (by omega) k2 w⟩
    · by_cases k3 : c < 65536
      · exact ⟨_, enc3_of (by omega) k3 (by omega), fun w => enc_3 c (by omega) k3 (by omega) w⟩
      · exact ⟨_, enc4_of (by omega) (by omega), fun w => enc_4 c (by omega) (by omega) w⟩

/-- Does the one stand ahead of the other by the units of UTF-16? -/
def ltU (c d : Int) : Bool := if 65535 < c ∧ d ≤ 65535 then decide (57344 ≤ d) else if 65535 < d ∧ c ≤ 65535 then decide (c < 57344) else decide (c < d)
def ordU (c d : Int) : Int := if c = d then 0 else if ltU c d then -1 else 1

theorem cmp_end (a b : ByteArray) (g : Nat) : cmpU a b g a.size b.size = 0 := by
  cases g with
  | zero => rfl
  | succ g => unfold cmpU; rw [if_pos (Or.inl (Nat.le_refl _))]; simp [cmpB]

theorem ltU_iff (c d : Int) : ltU c d = true ↔ (65535 < c ∧ d ≤ 65535 ∧ 57344 ≤ d) ∨ (65535 < d ∧ c ≤ 65535 ∧ c < 57344) ∨ (¬ (65535 < c ∧ d ≤ 65535) ∧ ¬ (65535 < d ∧ c ≤ 65535) ∧ c < d) := by
  unfold ltU
  by_cases k1 : 65535 < c ∧ d ≤ 65535
  · rw [if_pos k1, decide_eq_true_eq]; omega
  · rw [if_neg k1]
    by_cases k2 : 65535 < d ∧ c ≤ 65535
    · rw [if_pos k2, decide_eq_true_eq]; omega
    · rw [if_neg k2, decide_eq_true_eq]; omega
theorem cmp_ord {x y c d : Int} (hne : x ≠ y) (hcd : c ≠ d) (h : x < y ↔ ltU c d = true) : cmpB x y = ordU c d := by
  unfold cmpB ordU
  rw [if_neg hcd]
  by_cases k : x < y
  · rw [if_pos k, if_pos (h.1 k)]
  · rw [if_neg k, if_neg (fun e => k (h.2 e)), if_pos (by omega)]

theorem cmp_chars {c d : Int} {a b : ByteArray} (hc : Chr c) (hd : Chr d) (A : EncOf c a) (B : EncOf d b) : cmpU a b (a.size + 1) 0 0 = ordU c d := by
  obtain ⟨c0, c1, c2⟩ := hc
  obtain ⟨d0, d1, d2⟩ := hd
  have pa := A.pos
  have pb := B.pos
  have cl : c < 128 ∧ bAt a 0 = c ∧ a.size = 1 ∨ 128 ≤ c ∧ 192 ≤ bAt a 0 ∧ 2 ≤ stepN a 0 := by
    rcases Int.lt_or_le c 128 with h | h
    · exact Or.inl ⟨h, A.low h⟩
    · exact Or.inr ⟨h, A.high h⟩
  have dl : d < 128 ∧ bAt b 0 = d ∧ b.size = 1 ∨ 128 ≤ d ∧ 192 ≤ bAt b 0 ∧ 2 ≤ stepN b 0 := by
    rcases Int.lt_or_le d 128 with h | h
    · exact Or.inl ⟨h, B.low h⟩
    · exact Or.inr ⟨h, B.high h⟩
  unfold cmpU
  rw [if_neg (by omega)]
  by_cases h1 : bAt a 0 < 128 ∨ bAt b 0 < 128
  · rw [if_pos h1]
    by_cases h2 : bAt a 0 = bAt b 0
    · rw [if_pos h2]
      have e := cmp_end a b a.size
      have ea : a.size = 1 := by omega
      have eb : b.size = 1 := by omega
      rw [ea, eb] at e
      rw [Nat.zero_add, ea, e]
      unfold ordU; rw [if_pos (by omega)]
    · rw [if_neg h2]
      exact cmp_ord h2 (by intro e; omega) (by rw [ltU_iff]; omega)
  · rw [if_neg h1]
    have hc : 128 ≤ c := by omega
    have hd : 128 ≤ d := by omega
    rw [A.rune, B.rune]
    have sc : selfU c = decide (c ≤ 65535) := by unfold selfU; rw [Bool.eq_iff_iff]; simp; omega
    have sd : selfU d = decide (d ≤ 65535) := by unfold selfU; rw [Bool.eq_iff_iff]; simp; omega
    have r1 : rxU c d = if d ≤ 65535 ∧ 65535 < c then 55296 + (c - 65536) / 1024 else c := by
      unfold rxU hiU; rw [sc, sd]
      by_cases h : d ≤ 65535 ∧ 65535 < c
      · rw [if_pos h, if_pos (by simp; omega), if_neg (by omega)]
      · rw [if_neg h, if_neg (by simp; omega)]
    have r2 : rxU d c = if c ≤ 65535 ∧ 65535 < d then 55296 + (d - 65536) / 1024 else d := by
      unfold rxU hiU; rw [sc, sd]
      by_cases h : c ≤ 65535 ∧ 65535 < d
      · rw [if_pos h, if_pos (by simp; omega), if_neg (by omega)]
      · rw [if_neg h, if_neg (by simp; omega)]
    by_cases he : c = d
    · subst he
      rw [if_neg (by simp), if_neg ?_]
      · rw [← A.size, ← B.size, Nat.zero_add, Nat.zero_add, cmp_end]
        unfold ordU; rw [if_pos rfl]
      · intro h
        have h := h.1
        unfold invU at h
        simp at h
        omega
    · have hne : rxU c d ≠ rxU d c := by rw [r1, r2]; split <;> split <;> omega
      rw [if_pos hne]
      refine cmp_ord hne he ?_
      rw [ltU_iff, r1, r2]
      split <;> split <;> omega
end Go.Proofs.YtbnnjjilkpdanaaDoor

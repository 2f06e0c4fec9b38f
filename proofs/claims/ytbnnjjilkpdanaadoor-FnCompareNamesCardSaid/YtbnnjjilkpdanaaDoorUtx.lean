/- Characters, texts and pointers of the reference: the walks. -/
import Derived.Test.YtbnnjjilkpdanaaDoorUtw
namespace Go.Proofs.YtbnnjjilkpdanaaDoor
open Go.RowKit
set_option linter.unusedVariables false

set_option maxRecDepth 100000 in
theorem runeLength_any (t : ByteArray) (w : World) (hs : t.size ≤ maxLen) (h0 : 0 < t.size) :
    Calls Tryd.prog 32 #[.string t] w fun e w' => e = .returned (.int .i64 (uw t 0 : Nat)) ∧ w' = w := by
  have hs' := hs
  unfold maxLen at hs'
  have hb0 := bAt_lt h0
  have key : ∀ (n : Nat) (x y : Int), uLen (bAt t 0) = n → uLo (bAt t 0) = x → uHi (bAt t 0) = y → n ≠ 0 → ¬ bAt t 0 < 128 → selN (uwOk t 0 n x y) n = ((uw t 0 : Nat) : Int) := by
    intro n x y h1 h2 h3 h4 h5
    unfold uw selN
    rw [if_pos h0, if_neg h5, h1, if_neg h4, h2, h3]
    split <;> rfl
  by_cases c1 : bAt t 0 < 128
  · have E : Hid (uw t 0 = 1) := Lib.hid (by unfold uw; rw [if_pos h0, if_pos c1])
    rw [hb0] at c1
    clear key hb0
    go_enter Tryd.func32, Tryd.ntmps32
    go_wp2
    all_goals go_ret
    exact ⟨by rw [E.out]; first | done | rfl, rfl⟩
  by_cases c2 : 194 ≤ bAt t 0 ∧ bAt t 0 ≤ 223
  · have h := runeLength_2 t 128 191 w hs h0 (by omega)
    rwa [key 2 128 191 (by unfold uLen; rw [if_pos (by omega)]) (by unfold uLo; rw [if_neg (by omega), if_neg (by omega)]) (by unfold uHi; rw [if_neg (by omega), if_neg (by omega)]) (by omega) c1] at h
  by_cases c3 : 224 ≤ bAt t 0 ∧ bAt t 0 ≤ 239
  · have hl : uLen (bAt t 0) = 3 := by unfold uLen; rw [if_neg c2, if_pos c3]
    by_cases e1 : bAt t 0 = 224
    · have h := runeLength_3 t 160 191 w hs h0 (by omega)
      rwa [key 3 160 191 hl (by unfold uLo; rw [if_pos e1]) (by unfold uHi; rw [if_neg (by omega), if_neg (by omega)]) (by omega) c1] at h
    by_cases e2 : bAt t 0 = 237
    · have h := runeLength_3 t 128 159 w hs h0 (by omega)
      rwa [key 3 128 159 hl (by unfold uLo; rw [if_neg (by omega), if_neg (by omega)]) (by unfold uHi; rw [if_pos e2]) (by omega) c1] at h
    have h := runeLength_3 t 128 191 w hs h0 (by omega)
    rwa [key 3 128 191 hl (by unfold uLo; rw [if_neg (by omega), if_neg (by omega)]) (by unfold uHi; rw [if_neg (by omega), if_neg (by omega)]) (by omega) c1] at h
  by_cases c4 : 240 ≤ bAt t 0 ∧ bAt t 0 ≤ 244
  · have hl : uLen (bAt t 0) = 4 := by unfold uLen; rw [if_neg c2, if_neg c3, if_pos c4]
    by_cases e1 : bAt t 0 = 240
    · have h := runeLength_4 t 144 191 w hs h0 (by omega)
      rwa [key 4 144 191 hl (by unfold uLo; rw [if_neg (by omega), if_pos e1]) (by unfold uHi; rw [if_neg (by omega), if_neg (by omega)]) (by omega) c1] at h
    by_cases e2 : bAt t 0 = 244
    · have h := runeLength_4 t 128 143 w hs h0 (by omega)
      rwa [key 4 128 143 hl (by unfold uLo; rw [if_neg (by omega), if_neg (by omega)]) (by unfold uHi; rw [if_neg (by omega), if_pos e2]) (by omega) c1] at h
    have h := runeLength_4 t 128 191 w hs h0 (by omega)
    rwa [key 4 128 191 hl (by unfold uLo; rw [if_neg (by omega), if_neg (by omega)]) (by unfold uHi; rw [if_neg (by omega), if_neg (by omega)]) (by omega) c1] at h
  · have E : Hid (uw t 0 = 0) := Lib.hid (by
      have hl : uLen (bAt t 0) = 0 := by unfold uLen; rw [if_neg c2, if_neg c3, if_neg c4]
      unfold uw; rw [if_pos h0, if_neg c1, if_pos hl])
    have hr : (128 ≤ bAt t 0 ∧ bAt t 0 < 194) ∨ 244 < bAt t 0 := by omega
    rw [hb0] at hr
    clear key hb0 c1 c2 c3 c4
    rcases hr with ⟨g1, g2⟩ | g1
    all_goals
      go_enter Tryd.func32, Tryd.ntmps32
      go_wp2
      all_goals go_ret
      exact ⟨by rw [E.out]; first | done | rfl, rfl⟩

theorem text_step {p : ByteArray} {k : Nat} {R : Bool} (A : Aside (textF p (p.size - k) k = R)) (hk : k < p.size) :
    (uw p k = 0 → R = false) ∧ (uw p k ≠ 0 → k + uw p k ≤ p.size ∧ Aside (textF p (p.size - (k + uw p k)) (k + uw p k) = R)) := by
  have A' : textF p (p.size - k) k = R := A
  rw [show p.size - k = (p.size - k - 1) + 1 by omega, textF, if_pos hk] at A'
  constructor
  · intro h; rw [if_pos h] at A'; exact A'.symm
  · intro h
    rw [if_neg h] at A'
    have hf := uw_fit p k h
    refine ⟨hf, ?_⟩
    have more : ∀ (n m j : Nat), p.size - j ≤ n → p.size - j ≤ m → textF p n j = textF p m j := by
      intro n
      induction n with
      | zero =>
        intro m j h1 _
        cases m with
        | zero => rfl
        | succ m => rw [textF, textF, if_neg (by omega)]; simp; omega
      | succ n ih =>
        intro m j h1 h2
        cases m with
        | zero => rw [textF, textF, if_neg (by omega)]; simp; omega
        | succ m =>
          rw [textF, textF]
          split
          · rename_i hj
            split
            · rfl
            · rename_i hu
              exact ih m _ (by omega) (by omega)
          · rfl
    show textF p _ _ = R
    rw [more (p.size - (k + uw p k)) (p.size - k - 1) _ (by omega) (by omega)]
    exact A'
theorem text_end {p : ByteArray} {k : Nat} {R : Bool} (A : Aside (textF p (p.size - k) k = R)) (hk : ¬ k < p.size) : R = true := by
  have A' : textF p (p.size - k) k = R := A
  rw [show p.size - k = 0 by omega, textF] at A'
  rw [← A']; simp; omega

theorem isText_any (p : ByteArray) (w : World) (hs : p.size ≤ maxLen) :
    Calls Tryd.prog 13 #[.string p] w fun e w' => e = .returned (.bool (textF p p.size 0)) ∧ w' = w := by
  obtain ⟨R, HR⟩ : ∃ R, Hid (textF p p.size 0 = R) := ⟨_, Lib.hid rfl⟩
  rw [HR.out]
  have A0 : Aside (textF p (p.size - 0) 0 = R) := HR.out
  have e0 : p = p.extract 0 p.size := by simp
  go_enter Tryd.func13, Tryd.ntmps13
  go_wp2_with fail
  go_loopg [0] p.size (fun g t wr => ∃ k : Nat, k ≤ p.size ∧ p.size - k ≤ g ∧ t = .string (p.extract k p.size) ∧ w = wr ∧ Aside (textF p (p.size - k) k = R))
  case atStart => exact ⟨0, Nat.zero_le _, by omega, by rw [← e0], rfl, A0⟩
  case round =>
    clear e0
    obtain ⟨k, hk, hg, rfl, rfl, A⟩ := hrel
    have hsz := size_from p k
    have huw := uw_from p k 0 hk
    rw [Nat.add_zero] at huw
    by_cases hlt : k < p.size
    · have T := text_step A hlt
      have hff := from_from p k (uw p k)
      generalize p.extract k p.size = t at hsz huw hff ⊢
      have h0 : 0 < t.size := by omega
      have hs2 : t.size ≤ maxLen := by omega
      have hne : t.toList.isEmpty = false := empty_no (by omega)
      have HS := Lib.hid hsz
      have HU := Lib.hid huw
      clear hsz huw
      by_cases hu : uw p k = 0
      · have E := Lib.hid (T.1 hu)
        have HU0 := Lib.hid hu
        clear T A hu hff
        go_wp2_with fail
        refine (runeLength_any t _ hs2 h0).mono ?_
        rw [HU.out, HU0.out]
        rintro e w1 ⟨rfl, rfl⟩
        go_wp2_with fail
        all_goals go_ret
        exact ⟨by rw [E.out]; first | done | rfl, rfl⟩
      · have T2 := T.2 hu
        obtain ⟨t1, t2⟩ := T2
        have hu1 : ((uw p k : Nat) : Int) ≤ (t.size : Int) := by have := HS.out; omega
        have hu0 : ((uw p k : Nat) == 0) = false := by simpa using hu
        have hu0' : (((uw p k : Nat) : Int) == 0) = false := by simp; omega
        have hs3 : t.size ≤ 9223372036854775807 := hs2
        have HF := Lib.hid (hff (by have := HS.out; omega))
        clear T A hff
        go_wp2_with fail
        refine (runeLength_any t _ hs2 h0).mono ?_
        rw [HU.out]
        rintro e w1 ⟨rfl, rfl⟩
        go_wp2_with fail
        go_roundg (p.size - (k + uw p k))
        case measure => omega
        case rel => exact ⟨k + uw p k, t1, Nat.le_refl _, by rw [HF.out], rfl, t2⟩
    · have E := Lib.hid (text_end A hlt)
      generalize p.extract k p.size = t at hsz huw ⊢
      have hne : t.toList.isEmpty = true := empty_yes (by omega)
      clear hsz huw A
      go_wp2_with fail
      all_goals go_ret
      exact ⟨by rw [E.out]; first | done | rfl, rfl⟩

end Go.Proofs.YtbnnjjilkpdanaaDoor

/- Characters, texts and pointers of the reference: the walks. -/
import Derived.Test.YtokhmhbjbclcoaaUtw
namespace Go.Proofs.Ytokhmhbjbclcoaa
set_option linter.unusedVariables false
set_option linter.unusedSimpArgs false
open Go.RowKit

set_option maxRecDepth 100000 in
theorem runeLength_any (t : ByteArray) (w : World) (hs : t.size ≤ maxLen) (h0 : 0 < t.size) :
    Calls Try.prog 20 #[.string t] w fun e w' => e = .returned (.int .i64 (uw t 0 : Nat)) ∧ w' = w := by
  have hs' := hs
  unfold maxLen at hs'
  have hb0 := bAt_lt h0
  have key : ∀ (n : Nat) (x y : Int), uLen (bAt t 0) = n → uLo (bAt t 0) = x → uHi (bAt t 0) = y → n ≠ 0 → ¬ bAt t 0 < 128 → selN (uwOk t 0 n x y) n = ((uw t 0 : Nat) : Int) := by
    intro n x y h1 h2 h3 h4 h5
    unfold uw selN
    rw [if_pos h0, if_neg h5, h1, if_neg h4, h2, h3]
    split <;> rfl
  by_cases c1 : bAt t 0 < 128
  · have E : Hid (uw t 0 = 1) := Lib.hid (by unfold uw; rw [if_pos h0, if_pos c1])
    rw [hb0] at c1
    clear key hb0
    go_enter Try.func20, Try.ntmps20
    go_wp2
    all_goals go_ret
    exact ⟨by rw [E.out]; first | done | rfl, rfl⟩
  by_cases c2 : 194 ≤ bAt t 0 ∧ bAt t 0 ≤ 223
  · have h := runeLength_2 t 128 191 w hs h0 (by omega)
    rwa [key 2 128 191 (by unfold uLen; rw [if_pos (by omega)]) (by unfold uLo; rw [if_neg (by omega), if_neg (by omega)]) (by unfold uHi; rw [if_neg (by omega), if_neg (by omega)]) (by omega) c1] at h
  by_cases c3 : 224 ≤ bAt t 0 ∧ bAt t 0 ≤ 239
  · have hl : uLen (bAt t 0) = 3 := by unfold uLen; rw [if_neg c2, if_pos c3]
    by_cases e1 : bAt t 0 = 224
    · have h := runeLength_3 t 160 191 w hs h0 (by omega)
      rwa [key 3 160 191 hl (by unfold uLo; rw [if_pos e1]) (by unfold uHi; rw [if_neg (by omega), if_neg (by omega)]) (by omega) c1] at h
    by_cases e2 : bAt t 0 = 237
    · have h := runeLength_3 t 128 159 w hs h0 (by omega)
      rwa [key 3 128 159 hl (by unfold uLo; rw [if_neg (by omega), if_neg (by omega)]) (by unfold uHi; rw [if_pos e2]) (by omega) c1] at h
    have h := runeLength_3 t 128 191 w hs h0 (by omega)
    rwa [key 3 128 191 hl (by unfold uLo; rw [if_neg (by omega), if_neg (by omega)]) (by unfold uHi; rw [if_neg (by omega), if_neg (by omega)]) (by omega) c1] at h
  by_cases c4 : 240 ≤ bAt t 0 ∧ bAt t 0 ≤ 244
  · have hl : uLen (bAt t 0) = 4 := by unfold uLen; rw [if_neg c2, if_neg c3, if_pos c4]
    by_cases e1 : bAt t 0 = 240
    · have h := runeLength_4 t 144 191 w hs h0 (by omega)
      rwa [key 4 144 191 hl (by unfold uLo; rw [if_neg (by omega), if_pos e1]) (by unfold uHi; rw [if_neg (by omega), if_neg (by omega)]) (by omega) c1] at h
    by_cases e2 : bAt t 0 = 244
    · have h := runeLength_4 t 128 143 w hs h0 (by omega)
      rwa [key 4 128 143 hl (by unfold uLo; rw [if_neg (by omega), if_neg (by omega)]) (by unfold uHi; rw [if_neg (by omega), if_pos e2]) (by omega) c1] at h
    have h := runeLength_4 t 128 191 w hs h0 (by omega)
    rwa [key 4 128 191 hl (by unfold uLo; rw [if_neg (by omega), if_neg (by omega)]) (by unfold uHi; rw [if_neg (by omega), if_neg (by omega)]) (by omega) c1] at h
  · have E : Hid (uw t 0 = 0) := Lib.hid (by
      have hl : uLen (bAt t 0) = 0 := by unfold uLen; rw [if_neg c2, if_neg c3, if_neg c4]
      unfold uw; rw [if_pos h0, if_neg c1, if_pos hl])
    have hr : (128 ≤ bAt t 0 ∧ bAt t 0 < 194) ∨ 244 < bAt t 0 := by omega
    rw [hb0] at hr
    clear key hb0 c1 c2 c3 c4
    rcases hr with ⟨g1, g2⟩ | g1
    all_goals
      go_enter Try.func20, Try.ntmps20
      go_wp2
      all_goals go_ret
      exact ⟨by rw [E.out]; first | done | rfl, rfl⟩

theorem text_step {p : ByteArray} {k : Nat} {R : Bool} (A : Aside (textF p (p.size - k) k = R)) (hk : k < p.size) :
    (uw p k = 0 → R = false) ∧ (uw p k ≠ 0 → k + uw p k ≤ p.size ∧ Aside (textF p (p.size - (k + uw p k)) (k + uw p k) = R)) := by
  have A' : textF p (p.size - k) k = R := A
  rw [show p.size - k = (p.size - k - 1) + 1 by omega, textF, if_pos hk] at A'
  constructor
  · intro h; rw [if_pos h] at A'; exact A'.symm
  · intro h
    rw [if_neg h] at A'
    have hf := uw_fit p k h
    refine ⟨hf, ?_⟩
    have more : ∀ (n m j : Nat), p.size - j ≤ n → p.size - j ≤ m → textF p n j = textF p m j := by
      intro n
      induction n with
      | zero =>
        intro m j h1 _
        cases m with
        | zero => rfl
        | succ m => rw [textF, textF, if_neg (by omega)]; simp; omega
      | succ n ih =>
        intro m j h1 h2
        cases m with
        | zero => rw [textF, textF, if_neg (by omega)]; simp; omega
        | succ m =>
          rw [textF, textF]
          split
          · rename_i hj
            split
            · rfl
            · rename_i hu
              exact ih m _ (by omega) (by omega)
          · rfl
    show textF p _ _ = R
    rw [more (p.size - (k + uw p k)) (p.size - k - 1) _ (by omega) (by omega)]
    exact A'
theorem text_end {p : ByteArray} {k : Nat} {R : Bool} (A : Aside (textF p (p.size - k) k = R)) (hk : ¬ k < p.size) : R = true := by
  have A' : textF p (p.size - k) k = R := A
  rw [show p.size - k = 0 by omega, textF] at A'
  rw [← A']; simp; omega

theorem isText_any (p : ByteArray) (w : World) (hs : p.size ≤ maxLen) :
    Calls Try.prog 13 #[.string p] w fun e w' => e = .returned (.bool (textF p p.size 0)) ∧ w' = w := by
  obtain ⟨R, HR⟩ : ∃ R, Hid (textF p p.size 0 = R) := ⟨_, Lib.hid rfl⟩
  rw [HR.out]
  have A0 : Aside (textF p (p.size - 0) 0 = R) := HR.out
  have e0 : p = p.extract 0 p.size := by simp
  go_enter Try.func13, Try.ntmps13
  go_wp2_with fail
  go_loopg [0] p.size (fun g t wr => ∃ k : Nat, k ≤ p.size ∧ p.size - k ≤ g ∧ t = .string (p.extract k p.size) ∧ w = wr ∧ Aside (textF p (p.size - k) k = R))
  case atStart => exact ⟨0, Nat.zero_le _, by omega, by rw [← e0], rfl, A0⟩
  case round =>
    clear e0
    obtain ⟨k, hk, hg, rfl, rfl, A⟩ := hrel
    have hsz := size_from p k
    have huw := uw_from p k 0 hk
    rw [Nat.add_zero] at huw
    by_cases hlt : k < p.size
    · have T := text_step A hlt
      have hff := from_from p k (uw p k)
      generalize p.extract k p.size = t at hsz huw hff ⊢
      have h0 : 0 < t.size := by omega
      have hs2 : t.size ≤ maxLen := by omega
      have hne : t.toList.isEmpty = false := empty_no (by omega)
      have HS := Lib.hid hsz
      have HU := Lib.hid huw
      clear hsz huw
      by_cases hu : uw p k = 0
      · have E := Lib.hid (T.1 hu)
        have HU0 := Lib.hid hu
        clear T A hu hff
        go_wp2_with fail
        refine (runeLength_any t _ hs2 h0).mono ?_
        rw [HU.out, HU0.out]
        rintro e w1 ⟨rfl, rfl⟩
        go_wp2_with fail
        all_goals go_ret
        exact ⟨by rw [E.out]; first | done | rfl, rfl⟩
      · have T2 := T.2 hu
        obtain ⟨t1, t2⟩ := T2
        have hu1 : ((uw p k : Nat) : Int) ≤ (t.size : Int) := by have := HS.out; omega
        have hu0 : ((uw p k : Nat) == 0) = false := by simpa using hu
        have hu0' : (((uw p k : Nat) : Int) == 0) = false := by simp; omega
        have hs3 : t.size ≤ 9223372036854775807 := hs2
        have HF := Lib.hid (hff (by have := HS.out; omega))
        clear T A hff
        go_wp2_with fail
        refine (runeLength_any t _ hs2 h0).mono ?_
        rw [HU.out]
        rintro e w1 ⟨rfl, rfl⟩
        go_wp2_with fail
        go_roundg (p.size - (k + uw p k))
        case measure => omega
        case rel => exact ⟨k + uw p k, t1, Nat.le_refl _, by rw [HF.out], rfl, t2⟩
    · have E := Lib.hid (text_end A hlt)
      generalize p.extract k p.size = t at hsz huw ⊢
      have hne : t.toList.isEmpty = true := empty_yes (by omega)
      clear hsz huw A
      go_wp2_with fail
      all_goals go_ret
      exact ⟨by rw [E.out]; first | done | rfl, rfl⟩

theorem tilde_step {p : ByteArray} {k : Nat} {R : Bool} (A : Aside (tildeOk p (p.size - k) k = R)) (hk : k < p.size) :
    (bAt p k = 126 → ¬ (k + 1 < p.size ∧ (bAt p (k + 1) = 48 ∨ bAt p (k + 1) = 49)) → R = false) ∧
    (¬ (bAt p k = 126 ∧ ¬ (k + 1 < p.size ∧ (bAt p (k + 1) = 48 ∨ bAt p (k + 1) = 49))) → Aside (tildeOk p (p.size - (k + 1)) (k + 1) = R)) := by
  have A' : tildeOk p (p.size - k) k = R := A
  rw [show p.size - k = (p.size - (k + 1)) + 1 by omega, tildeOk] at A'
  constructor
  · intro h1 h2; rw [if_pos ⟨h1, h2⟩] at A'; exact A'.symm
  · intro h; rw [if_neg h] at A'; exact A'

set_option maxRecDepth 100000 in
set_option maxHeartbeats 1000000 in
theorem pointerIsValid_any (p : ByteArray) (w : World) (hs : p.size ≤ maxLen) :
    Calls Try.prog 9 #[.string p] w fun e w' => e = .returned (.bool (pvB p)) ∧ w' = w := by
  have hs' := hs
  unfold maxLen at hs'
  obtain ⟨r, hr⟩ : ∃ r, Hid (textF p p.size 0 = r) := ⟨_, Lib.hid rfl⟩
  cases r
  · have E : Hid (pvB p = false) := Lib.hid (by unfold pvB; rw [hr.out]; rfl)
    go_enter Try.func9, Try.ntmps9
    go_wp2_with fail
    refine (isText_any p _ hs).mono ?_
    rw [hr.out]
    rintro e w1 ⟨rfl, rfl⟩
    go_wp2_with fail
    all_goals go_ret
    exact ⟨by rw [E.out]; first | done | rfl, rfl⟩
  by_cases h0 : p.size = 0
  · have E : Hid (pvB p = true) := Lib.hid (by unfold pvB; rw [hr.out, h0]; rfl)
    have hne : p.toList.isEmpty = true := empty_yes (by omega)
    have hz : (p.size : Int) = 0 := by omega
    have hge : ¬ (0 : Int) < (p.size : Int) := by omega
    have HZ := Lib.hid hz
    clear h0 hz
    go_enter Try.func9, Try.ntmps9
    go_wp2_with fail
    refine (isText_any p _ hs).mono ?_
    rw [hr.out]
    rintro e w1 ⟨rfl, rfl⟩
    go_wp2_with fail
    go_loop [18] (fun i => i = .int .i64 0) (fun i => 0)
    case atStart => rfl
    case round =>
      subst hrel
      go_wp2_with fail
      all_goals go_ret
      exact ⟨by rw [E.out]; first | done | rfl, rfl⟩
  have hp : 0 < p.size := by omega
  have hb0 := bAt_lt hp
  have hne : p.toList.isEmpty = false := empty_no (by omega)
  by_cases h47 : bAt p 0 = 47
  · have hd : ((p[0].toNat : Int) == 47) = true := by rw [← hb0, h47]; rfl
    have hd' : ((p[0].toNat : Int) != 47) = false := by rw [← hb0, h47]; rfl
    obtain ⟨R, HR⟩ : ∃ R, Hid (tildeOk p p.size 0 = R) := ⟨_, Lib.hid rfl⟩
    have E : Hid (pvB p = R) := Lib.hid (by unfold pvB; rw [hr.out, HR.out, h47]; simp)
    have A0 : Aside (tildeOk p (p.size - 0) 0 = R) := HR.out
    clear hb0 h47 h0
    rw [E.out]
    go_enter Try.func9, Try.ntmps9
    go_wp2_with fail
    refine (isText_any p _ hs).mono ?_
    rw [hr.out]
    rintro e w1 ⟨rfl, rfl⟩
    go_wp2_with fail
    go_loop [18] (fun i => ∃ k : Nat, k ≤ p.size ∧ i = .int .i64 k ∧ Aside (tildeOk p (p.size - k) k = R)) (fun i => p.size - (intOf i).toNat)
    case atStart => exact ⟨0, Nat.zero_le _, rfl, A0⟩
    case round =>
      clear A0 hd hd'
      obtain ⟨k, hk, rfl, A⟩ := hrel
      by_cases hlt : k < p.size
      · have hbk := bAt_lt hlt
        have T := tilde_step A hlt
        by_cases h126 : bAt p k = 126
        · have hd : ((p[k].toNat : Int) == 126) = true := by rw [← hbk, h126]; rfl
          by_cases hk1 : k + 1 < p.size
          · have hb1 := bAt_lt hk1
            have he1 : ((k : Int) + 1 == (p.size : Int)) = false := by simp; omega
            by_cases h48 : bAt p (k + 1) = 48
            · have A2 := T.2 (fun h => h.2 ⟨hk1, .inl h48⟩)
              have hd1 : ((p[k + 1].toNat : Int) != 48) = false := by rw [← hb1, h48]; rfl
              clear T A hbk hb1 h126 h48
              go_wp2_with fail
              go_round
              case rel => exact ⟨k + 1, by omega, by go_num, A2⟩
              case measure => simp [intOf]; omega
            · have hd1 : ((p[k + 1].toNat : Int) != 48) = true := by rw [← hb1]; simpa using h48
              by_cases h49 : bAt p (k + 1) = 49
              · have A2 := T.2 (fun h => h.2 ⟨hk1, .inr h49⟩)
                have hd2 : ((p[k + 1].toNat : Int) != 49) = false := by rw [← hb1, h49]; rfl
                clear T A hbk hb1 h126 h48 h49
                go_wp2_with fail
                go_round
                case rel => exact ⟨k + 1, by omega, by go_num, A2⟩
                case measure => simp [intOf]; omega
              · have E2 := Lib.hid (T.1 h126 (fun h => h.2.elim h48 h49))
                have hd2 : ((p[k + 1].toNat : Int) != 49) = true := by rw [← hb1]; simpa using h49
                clear T A hbk hb1 h126 h48 h49
                go_wp2_with fail
                all_goals go_ret
                exact ⟨by rw [E2.out]; first | done | rfl, rfl⟩
          · have E2 := Lib.hid (T.1 h126 (fun h => hk1 h.1))
            have he1 : ((k : Int) + 1 == (p.size : Int)) = true := by simp; omega
            clear T A hbk h126
            go_wp2_with fail
            all_goals go_ret
            exact ⟨by rw [E2.out]; first | done | rfl, rfl⟩
        · have A2 := T.2 (fun h => h126 h.1)
          have hd : ((p[k].toNat : Int) == 126) = false := by rw [← hbk]; simpa using h126
          clear T A hbk h126
          go_wp2_with fail
          go_round
          case rel => exact ⟨k + 1, by omega, by go_num, A2⟩
          case measure => simp [intOf]; omega
      · have E2 : Hid (R = true) := Lib.hid (by
          have A' : tildeOk p (p.size - k) k = R := A
          rw [show p.size - k = 0 by omega] at A'
          exact A'.symm)
        clear A
        go_wp2_with fail
        all_goals go_ret
        exact ⟨by rw [E2.out]; first | done | rfl, rfl⟩
  · have hd : ((p[0].toNat : Int) != 47) = true := by rw [← hb0]; simpa using h47
    have E : Hid (pvB p = false) := Lib.hid (by unfold pvB; rw [hr.out]; simp [h0, h47])
    clear hb0 h47 h0
    go_enter Try.func9, Try.ntmps9
    go_wp2_with fail
    refine (isText_any p _ hs).mono ?_
    rw [hr.out]
    rintro e w1 ⟨rfl, rfl⟩
    go_wp2_with fail
    all_goals go_ret
    exact ⟨by rw [E.out]; first | done | rfl, rfl⟩
end Go.Proofs.Ytokhmhbjbclcoaa

/- Characters and pointers of the reference: the walks. Lines by program (genut.py). -/
import Derived.Test.YtokhmhbjbclcoaaUt
import Derived.Test.YtokhmhbjbclcoaaSt
namespace Go.Proofs.Ytokhmhbjbclcoaa
set_option linter.unusedVariables false
set_option linter.unusedSimpArgs false
open Go.RowKit

theorem cont_step {t : ByteArray} {k n : Nat} {R : Bool} (A : Aside (contN t k (n - k) = R)) (hk : k < n) :
    (cont (bAt t k) = true → Aside (contN t (k + 1) (n - (k + 1)) = R)) ∧ (cont (bAt t k) = false → R = false) := by
  have A' : contN t k (n - k) = R := A
  rw [show n - k = (n - (k + 1)) + 1 by omega, contN] at A'
  constructor
  · intro h; rw [h, Bool.true_and] at A'; exact A'
  · intro h; rw [h, Bool.false_and] at A'; exact A'.symm

/-- n or 0. -/
def selN (r : Bool) (n : Nat) : Int := if r then (n : Int) else 0

set_option maxRecDepth 100000 in
set_option maxHeartbeats 4000000 in
theorem runeLength_2 (t : ByteArray) (x y : Int) (w : World) (hs : t.size ≤ maxLen) (h0 : 0 < t.size)
    (hc : (194 ≤ bAt t 0 ∧ bAt t 0 ≤ 223 ∧ x = 128 ∧ y = 191)) :
    Calls Try.prog 20 #[.string t] w fun e w' => e = .returned (.int .i64 (selN (uwOk t 0 2 x y) 2)) ∧ w' = w := by
  have hs' := hs
  unfold maxLen at hs'
  have hb0 := bAt_lt h0
  rw [hb0] at hc
  obtain ⟨R, HR⟩ : ∃ R, Hid (uwOk t 0 2 x y = R) := ⟨_, Lib.hid rfl⟩
  rw [HR.out]
  clear hb0
  by_cases hn : t.size < 2
  · have E : Hid (R = false) := Lib.hid (by rw [← HR.out]; unfold uwOk; simp; intro h; omega)
    clear HR
    obtain ⟨h1, h2, rfl, rfl⟩ := hc
    all_goals
      go_enter Try.func20, Try.ntmps20
      go_wp2
      all_goals go_ret
      exact ⟨by rw [E.out]; first | done | rfl, rfl⟩
  · have hl1 : 1 < t.size := by omega
    have hb1 := bAt_lt hl1
    by_cases h2nd : x ≤ (t[1].toNat : Int) ∧ (t[1].toNat : Int) ≤ y
    · obtain ⟨g1, g2⟩ := h2nd
      have A : Aside (contN t 2 (2 - 2) = R) := by
        show contN t 2 (2 - 2) = R
        rw [← HR.out]; unfold uwOk; simp only [Nat.zero_add, hb1]
        simp [g1, g2]; omega
      clear hb1 HR
      obtain ⟨h1, h2, rfl, rfl⟩ := hc
      all_goals
        go_enter Try.func20, Try.ntmps20
        go_wp2
        go_loop [7] (fun i => ∃ k : Nat, 2 ≤ k ∧ k ≤ 2 ∧ i = .int .i64 k ∧ Aside (contN t k (2 - k) = R)) (fun i => 2 - (intOf i).toNat)
        case atStart => exact ⟨2, Nat.le_refl _, by omega, rfl, A⟩
        case round =>
          clear A
          obtain ⟨k, hk2, hkn, rfl, A⟩ := hrel
          by_cases hlt : k < 2
          · exact absurd hlt (by omega)
          · have E : Hid (R = true) := Lib.hid (by
              have A' : contN t k (2 - k) = R := A
              rw [show 2 - k = 0 by omega] at A'
              exact A'.symm)
            have hlt' : (2 : Int) ≤ (k : Int) := by omega
            clear A
            go_wp2
            all_goals go_ret
            exact ⟨by rw [E.out]; first | done | rfl, rfl⟩
    · have E : Hid (R = false) := Lib.hid (by
        rw [← HR.out]; unfold uwOk; simp only [Nat.zero_add, hb1]; simp; intro _ h3 h4; exact absurd ⟨h3, h4⟩ h2nd)
      have h2nd' : (t[1].toNat : Int) < x ∨ x ≤ (t[1].toNat : Int) ∧ y < (t[1].toNat : Int) := by omega
      clear hb1 h2nd HR
      rcases h2nd' with g1 | ⟨g1, g2⟩
      all_goals
        obtain ⟨h1, h2, rfl, rfl⟩ := hc
        all_goals
          go_enter Try.func20, Try.ntmps20
          go_wp2
          all_goals go_ret
          exact ⟨by rw [E.out]; first | done | rfl, rfl⟩

set_option maxRecDepth 100000 in
set_option maxHeartbeats 4000000 in
theorem runeLength_3 (t : ByteArray) (x y : Int) (w : World) (hs : t.size ≤ maxLen) (h0 : 0 < t.size)
    (hc : (224 ≤ bAt t 0 ∧ bAt t 0 ≤ 224 ∧ x = 160 ∧ y = 191) ∨ (225 ≤ bAt t 0 ∧ bAt t 0 ≤ 236 ∧ x = 128 ∧ y = 191) ∨ (237 ≤ bAt t 0 ∧ bAt t 0 ≤ 237 ∧ x = 128 ∧ y = 159) ∨ (238 ≤ bAt t 0 ∧ bAt t 0 ≤ 239 ∧ x = 128 ∧ y = 191)) :
    Calls Try.prog 20 #[.string t] w fun e w' => e = .returned (.int .i64 (selN (uwOk t 0 3 x y) 3)) ∧ w' = w := by
  have hs' := hs
  unfold maxLen at hs'
  have hb0 := bAt_lt h0
  rw [hb0] at hc
  obtain ⟨R, HR⟩ : ∃ R, Hid (uwOk t 0 3 x y = R) := ⟨_, Lib.hid rfl⟩
  rw [HR.out]
  clear hb0
  by_cases hn : t.size < 3
  · have E : Hid (R = false) := Lib.hid (by rw [← HR.out]; unfold uwOk; simp; intro h; omega)
    clear HR
    rcases hc with ⟨h1, h2, rfl, rfl⟩ | ⟨h1, h2, rfl, rfl⟩ | ⟨h1, h2, rfl, rfl⟩ | ⟨h1, h2, rfl, rfl⟩
    all_goals
      go_enter Try.func20, Try.ntmps20
      go_wp2
      all_goals go_ret
      exact ⟨by rw [E.out]; first | done | rfl, rfl⟩
  · have hl1 : 1 < t.size := by omega
    have hb1 := bAt_lt hl1
    by_cases h2nd : x ≤ (t[1].toNat : Int) ∧ (t[1].toNat : Int) ≤ y
    · obtain ⟨g1, g2⟩ := h2nd
      have A : Aside (contN t 2 (3 - 2) = R) := by
        show contN t 2 (3 - 2) = R
        rw [← HR.out]; unfold uwOk; simp only [Nat.zero_add, hb1]
        simp [g1, g2]; omega
      clear hb1 HR
      rcases hc with ⟨h1, h2, rfl, rfl⟩ | ⟨h1, h2, rfl, rfl⟩ | ⟨h1, h2, rfl, rfl⟩ | ⟨h1, h2, rfl, rfl⟩
      all_goals
        go_enter Try.func20, Try.ntmps20
        go_wp2
        go_loop [7] (fun i => ∃ k : Nat, 2 ≤ k ∧ k ≤ 3 ∧ i = .int .i64 k ∧ Aside (contN t k (3 - k) = R)) (fun i => 3 - (intOf i).toNat)
        case atStart => exact ⟨2, Nat.le_refl _, by omega, rfl, A⟩
        case round =>
          clear A
          obtain ⟨k, hk2, hkn, rfl, A⟩ := hrel
          by_cases hlt : k < 3
          · have hkt : k < t.size := by omega
            have hbk := bAt_lt hkt
            have S := cont_step A hlt
            have hlt' : (k : Int) < 3 := by omega
            by_cases hck : 128 ≤ (t[k].toNat : Int) ∧ (t[k].toNat : Int) ≤ 191
            · have A2 := S.1 (by rw [hbk]; simp [cont]; omega)
              obtain ⟨q1, q2⟩ := hck
              clear S A hbk
              go_wp2
              go_round
              case rel => exact ⟨k + 1, by omega, by omega, by go_num, A2⟩
              case measure => first | (simp [intOf]; done) | (simp [intOf]; omega)
            · have E := Lib.hid (S.2 (by rw [hbk]; simp [cont]; omega))
              have hck' : (t[k].toNat : Int) < 128 ∨ 128 ≤ (t[k].toNat : Int) ∧ 191 < (t[k].toNat : Int) := by omega
              clear S A hbk hck
              rcases hck' with q | ⟨q, q'⟩
              all_goals
                go_wp2
                all_goals go_ret
                exact ⟨by rw [E.out]; first | done | rfl, rfl⟩
          · have E : Hid (R = true) := Lib.hid (by
              have A' : contN t k (3 - k) = R := A
              rw [show 3 - k = 0 by omega] at A'
              exact A'.symm)
            have hlt' : (3 : Int) ≤ (k : Int) := by omega
            clear A
            go_wp2
            all_goals go_ret
            exact ⟨by rw [E.out]; first | done | rfl, rfl⟩
    · have E : Hid (R = false) := Lib.hid (by
        rw [← HR.out]; unfold uwOk; simp only [Nat.zero_add, hb1]; simp; intro _ h3 h4; exact absurd ⟨h3, h4⟩ h2nd)
      have h2nd' : (t[1].toNat : Int) < x ∨ x ≤ (t[1].toNat : Int) ∧ y < (t[1].toNat : Int) := by omega
      clear hb1 h2nd HR
      rcases h2nd' with g1 | ⟨g1, g2⟩
      all_goals
        rcases hc with ⟨h1, h2, rfl, rfl⟩ | ⟨h1, h2, rfl, rfl⟩ | ⟨h1, h2, rfl, rfl⟩ | ⟨h1, h2, rfl, rfl⟩
        all_goals
          go_enter Try.func20, Try.ntmps20
          go_wp2
          all_goals go_ret
          exact ⟨by rw [E.out]; first | done | rfl, rfl⟩

set_option maxRecDepth 100000 in
set_option maxHeartbeats 4000000 in
theorem runeLength_4 (t : ByteArray) (x y : Int) (w : World) (hs : t.size ≤ maxLen) (h0 : 0 < t.size)
    (hc : (240 ≤ bAt t 0 ∧ bAt t 0 ≤ 240 ∧ x = 144 ∧ y = 191) ∨ (241 ≤ bAt t 0 ∧ bAt t 0 ≤ 243 ∧ x = 128 ∧ y = 191) ∨ (244 ≤ bAt t 0 ∧ bAt t 0 ≤ 244 ∧ x = 128 ∧ y = 143)) :
    Calls Try.prog 20 #[.string t] w fun e w' => e = .returned (.int .i64 (selN (uwOk t 0 4 x y) 4)) ∧ w' = w := by
  have hs' := hs
  unfold maxLen at hs'
  have hb0 := bAt_lt h0
  rw [hb0] at hc
  obtain ⟨R, HR⟩ : ∃ R, Hid (uwOk t 0 4 x y = R) := ⟨_, Lib.hid rfl⟩
  rw [HR.out]
  clear hb0
  by_cases hn : t.size < 4
  · have E : Hid (R = false) := Lib.hid (by rw [← HR.out]; unfold uwOk; simp; intro h; omega)
    clear HR
    rcases hc with ⟨h1, h2, rfl, rfl⟩ | ⟨h1, h2, rfl, rfl⟩ | ⟨h1, h2, rfl, rfl⟩
    all_goals
      go_enter Try.func20, Try.ntmps20
      go_wp2
      all_goals go_ret
      exact ⟨by rw [E.out]; first | done | rfl, rfl⟩
  · have hl1 : 1 < t.size := by omega
    have hb1 := bAt_lt hl1
    by_cases h2nd : x ≤ (t[1].toNat : Int) ∧ (t[1].toNat : Int) ≤ y
    · obtain ⟨g1, g2⟩ := h2nd
      have A : Aside (contN t 2 (4 - 2) = R) := by
        show contN t 2 (4 - 2) = R
        rw [← HR.out]; unfold uwOk; simp only [Nat.zero_add, hb1]
        simp [g1, g2]; omega
      clear hb1 HR
      rcases hc with ⟨h1, h2, rfl, rfl⟩ | ⟨h1, h2, rfl, rfl⟩ | ⟨h1, h2, rfl, rfl⟩
      all_goals
        go_enter Try.func20, Try.ntmps20
        go_wp2
        go_loop [7] (fun i => ∃ k : Nat, 2 ≤ k ∧ k ≤ 4 ∧ i = .int .i64 k ∧ Aside (contN t k (4 - k) = R)) (fun i => 4 - (intOf i).toNat)
        case atStart => exact ⟨2, Nat.le_refl _, by omega, rfl, A⟩
        case round =>
          clear A
          obtain ⟨k, hk2, hkn, rfl, A⟩ := hrel
          by_cases hlt : k < 4
          · have hkt : k < t.size := by omega
            have hbk := bAt_lt hkt
            have S := cont_step A hlt
            have hlt' : (k : Int) < 4 := by omega
            by_cases hck : 128 ≤ (t[k].toNat : Int) ∧ (t[k].toNat : Int) ≤ 191
            · have A2 := S.1 (by rw [hbk]; simp [cont]; omega)
              obtain ⟨q1, q2⟩ := hck
              clear S A hbk
              go_wp2
              go_round
              case rel => exact ⟨k + 1, by omega, by omega, by go_num, A2⟩
              case measure => first | (simp [intOf]; done) | (simp [intOf]; omega)
            · have E := Lib.hid (S.2 (by rw [hbk]; simp [cont]; omega))
              have hck' : (t[k].toNat : Int) < 128 ∨ 128 ≤ (t[k].toNat : Int) ∧ 191 < (t[k].toNat : Int) := by omega
              clear S A hbk hck
              rcases hck' with q | ⟨q, q'⟩
              all_goals
                go_wp2
                all_goals go_ret
                exact ⟨by rw [E.out]; first | done | rfl, rfl⟩
          · have E : Hid (R = true) := Lib.hid (by
              have A' : contN t k (4 - k) = R := A
              rw [show 4 - k = 0 by omega] at A'
              exact A'.symm)
            have hlt' : (4 : Int) ≤ (k : Int) := by omega
            clear A
            go_wp2
            all_goals go_ret
            exact ⟨by rw [E.out]; first | done | rfl, rfl⟩
    · have E : Hid (R = false) := Lib.hid (by
        rw [← HR.out]; unfold uwOk; simp only [Nat.zero_add, hb1]; simp; intro _ h3 h4; exact absurd ⟨h3, h4⟩ h2nd)
      have h2nd' : (t[1].toNat : Int) < x ∨ x ≤ (t[1].toNat : Int) ∧ y < (t[1].toNat : Int) := by omega
      clear hb1 h2nd HR
      rcases h2nd' with g1 | ⟨g1, g2⟩
      all_goals
        rcases hc with ⟨h1, h2, rfl, rfl⟩ | ⟨h1, h2, rfl, rfl⟩ | ⟨h1, h2, rfl, rfl⟩
        all_goals
          go_enter Try.func20, Try.ntmps20
          go_wp2
          all_goals go_ret
          exact ⟨by rw [E.out]; first | done | rfl, rfl⟩
end Go.Proofs.Ytokhmhbjbclcoaa

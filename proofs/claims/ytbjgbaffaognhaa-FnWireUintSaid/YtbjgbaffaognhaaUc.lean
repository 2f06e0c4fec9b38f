/- Whole numbers of the reference: the walks; the library's reading of a whole number; the law. -/
import Derived.Test.YtbjgbaffaognhaaUb
namespace Go.Proofs.Ytbjgbaffaognhaa
open Go.RowKit
set_option linter.unusedVariables false

def bndN (s : ByteArray) : Int := if valN s s.size ≤ mx64 then (valN s s.size : Int) else (mx64 : Int)
def bndB (s : ByteArray) : Bool := decide (¬ valN s s.size ≤ mx64)

theorem over_step {s : ByteArray} {k : Nat} {v d : Int} (hv : (valN s k : Int) = v) (hd : (bAt s k - 48).toNat = d.toNat) (hd0 : 0 ≤ d) (hd9 : d ≤ 9) (hk : k < s.size) :
    ((18446744073709551615 - d) / 10 < v → ¬ valN s s.size ≤ mx64) ∧ (¬ (18446744073709551615 - d) / 10 < v → 10 * v + d ≤ 18446744073709551615 ∧ (valN s (k + 1) : Int) = 10 * v + d) := by
  have h1 : valN s (k + 1) = 10 * valN s k + (bAt s k - 48).toNat := rfl
  have h2 := valN_mono s (k + 1) s.size (by omega)
  unfold mx64
  constructor
  · intro h; omega
  · intro h; omega

set_option maxHeartbeats 1000000 in
theorem bounded_any (s : ByteArray) (w : World) (hs : s.size ≤ maxLen) (hdg : ∀ j, j < s.size → isDg (bAt s j) = true) :
    Calls Try.prog 39 #[.string s, .int .u64 18446744073709551615] w fun e w' => e = .returned (.tuple #[.int .u64 (bndN s), .bool (bndB s)]) ∧ w' = w := by
  unfold maxLen at hs
  have HDG := Lib.hid hdg
  clear hdg
  go_enter Try.func39, Try.ntmps39
  go_wp2
  go_loop [6, 11] (fun v n => ∃ (k : Nat) (x : Int), k ≤ s.size ∧ n = .int .i64 k ∧ v = .int .u64 x ∧ 0 ≤ x ∧ x ≤ 18446744073709551615 ∧ Aside ((valN s k : Int) = x)) (fun v n => s.size - (intOf n).toNat)
  case atStart => exact ⟨0, 0, Nat.zero_le _, rfl, rfl, by omega, by omega, rfl⟩
  case round =>
    obtain ⟨k, v, hk, rfl, rfl, hv0, hv1, A⟩ := hrel
    by_cases hlt : k < s.size
    · have hb := bAt_lt hlt
      have hd := HDG.out k hlt
      rw [hb] at hd
      simp [isDg] at hd
      obtain ⟨d1, d2⟩ := hd
      have d1' : 48 ≤ (s[k].toNat : Int) := by omega
      have d2' : (s[k].toNat : Int) ≤ 57 := by omega
      have O := Lib.hid (over_step (v := v) (d := (s[k].toNat : Int) - 48) A (by rw [hb]) (by omega) (by omega) hlt)
      by_cases ho : (18446744073709551615 - ((s[k].toNat : Int) - 48)) / 10 < v
      · have HN : Hid (bndN s = (mx64 : Int) ∧ bndB s = true) := Lib.hid (by unfold bndN bndB; have := O.out.1 ho; simp [this])
        have HM : Hid ((mx64 : Int) = 18446744073709551615) := Lib.hid rfl
        clear A hb d1 d2
        go_wp2
        all_goals go_ret2
        exact ⟨by rw [HN.out.1, HN.out.2, HM.out]; first | done | rfl, rfl⟩
      · have O2 := O.out.2 ho
        obtain ⟨o1, o2⟩ := O2
        have A2 : Aside ((valN s (k + 1) : Int) = 10 * v + ((s[k].toNat : Int) - 48)) := o2
        clear A hb d1 d2 o2 O
        go_wp2
        go_round
        case rel => exact ⟨k + 1, _, by omega, by go_num, rfl, by omega, by omega, A2⟩
        case measure => simp [intOf]; omega
    · have hks : k = s.size := by omega
      have HN : Hid (bndN s = v ∧ bndB s = false) := Lib.hid (by
        have A1 : (valN s k : Int) = v := A
        rw [hks] at A1
        have : valN s s.size ≤ mx64 := by unfold mx64; omega
        unfold bndN bndB; rw [if_pos this, A1]; simp [this])
      clear A hks
      go_wp2
      all_goals go_ret2
      exact ⟨by rw [HN.out.1, HN.out.2]; first | done | rfl, rfl⟩

theorem wireUint_any (s : ByteArray) (w : World) (hs : s.size ≤ maxLen) :
    Calls Try.prog 17 #[.string s] w fun e w' => e = .returned (.tuple #[.int .u64 (uintN s), .bool (uintB s)]) ∧ Below w.heap.size w w' := by
  obtain ⟨cap, w1, hcv, C⟩ := convB s w
  have hb := C.below
  go_enter Try.func17, Try.ntmps17
  go_wp2_with fail
  refine (parseUint_any s _ cap w1 C.bytes hs).mono ?_
  rintro e w2 ⟨rfl, rfl⟩
  go_wp2_with fail
  all_goals go_ret2
  exact ⟨rfl, hb⟩

theorem whole_any (s : ByteArray) (w : World) (hs : s.size ≤ maxLen) :
    Calls Try.prog 18 #[.string s] w fun e w' => e = .returned (.tuple #[.int .u64 (uintN s), .bool (uintB s)]) ∧ w' = w := by
  have hle := (dgEnd_le s s.size 0 (Nat.zero_le _)).2
  have hdg := dgEnd_dg s s.size 0
  obtain ⟨D, HD⟩ : ∃ D, Hid (dgEnd s s.size 0 = D) := ⟨_, Lib.hid rfl⟩
  rw [HD.out] at hle hdg
  have hs' := hs
  unfold maxLen at hs'
  by_cases h0 : D = 0
  · have HN : Hid (uintN s = 0 ∧ uintB s = false) := Lib.hid (by unfold uintN uintB; rw [HD.out]; simp [h0])
    have h0' : ((D : Int) == 0) = true := by simp [h0]
    clear h0 hdg
    go_enter Try.func18, Try.ntmps18
    go_wp2_with fail
    refine (digits_any s w hs).mono ?_
    rw [HD.out]
    rintro e w2 ⟨rfl, rfl⟩
    go_wp2_with fail
    all_goals go_ret2
    exact ⟨by rw [HN.out.1, HN.out.2]; first | done | rfl, rfl⟩
  have h0' : ((D : Int) == 0) = false := by simp; omega
  by_cases hl : D < s.size
  · have HN : Hid (uintN s = 0 ∧ uintB s = false) := Lib.hid (by unfold uintN uintB; rw [HD.out]; simp [hl])
    clear hdg
    go_enter Try.func18, Try.ntmps18
    go_wp2_with fail
    refine (digits_any s w hs).mono ?_
    rw [HD.out]
    rintro e w2 ⟨rfl, rfl⟩
    go_wp2_with fail
    all_goals go_ret2
    exact ⟨by rw [HN.out.1, HN.out.2]; first | done | rfl, rfl⟩
  have hDs : D = s.size := by omega
  have hp : 0 < s.size := by omega
  have hb := bAt_lt hp
  by_cases hz : 1 < D ∧ bAt s 0 = 48
  · have HN : Hid (uintN s = 0 ∧ uintB s = false) := Lib.hid (by unfold uintN uintB; rw [HD.out]; simp [hz])
    obtain ⟨hz1, hz2⟩ := hz
    have hz2' : ((s[0].toNat : Int) == 48) = true := by rw [← hb, hz2]; rfl
    clear hdg hDs hb hz2
    go_enter Try.func18, Try.ntmps18
    go_wp2_with fail
    refine (digits_any s w hs).mono ?_
    rw [HD.out]
    rintro e w2 ⟨rfl, rfl⟩
    go_wp2_with fail
    all_goals go_ret2
    exact ⟨by rw [HN.out.1, HN.out.2]; first | done | rfl, rfl⟩
  have HN : Hid (uintN s = bndN s ∧ uintB s = !bndB s) := Lib.hid (by
    unfold uintN uintB bndN bndB
    have hno : ¬ (D = 0 ∨ D < s.size ∨ 1 < D ∧ bAt s 0 = 48) := by omega
    rw [HD.out]
    simp only [if_neg hno]
    by_cases h : valN s s.size ≤ mx64 <;> simp [h])
  have HX : ∀ j, j < s.size → isDg (bAt s j) = true := fun j hj => hdg j (Nat.zero_le _) (by omega)
  have HX' := Lib.hid HX
  have hz1 : D ≤ 1 ∨ 1 < D ∧ ((s[0].toNat : Int) == 48) = false := by
    by_cases h1 : 1 < D
    · exact .inr ⟨h1, by rw [← hb]; simpa using fun h => hz ⟨h1, h⟩⟩
    · exact .inl (by omega)
  clear hdg hDs hb hz HX
  rcases hz1 with hz1 | ⟨hz1, hz2⟩
  all_goals
    go_enter Try.func18, Try.ntmps18
    go_wp2_with fail
    refine (digits_any s w hs).mono ?_
    rw [HD.out]
    rintro e w2 ⟨rfl, rfl⟩
    go_wp2_with fail
    refine (bounded_any s _ hs HX'.out).mono ?_
    rintro e w2 ⟨rfl, rfl⟩
    go_wp2_with fail
    all_goals go_ret2
    exact ⟨by rw [HN.out.1, HN.out.2]; first | done | rfl, rfl⟩

theorem walk_FnWireUint (a0 : ByteArray) (w0 : a0.size ≤ maxLen) (w : World) :
    Calls Try.prog 5 #[.string a0] w fun e w' => e = .returned (.bool true) ∧ Below w.heap.size w w' := by
  have hs := w0
  unfold maxLen at hs
  by_cases hz : 2147483647 < (a0.size : Int)
  · go_enter Try.func5, Try.ntmps5
    go_wp2_with fail
    all_goals go_ret
    exact ⟨rfl, Below.refl _ _⟩
  · obtain ⟨r, hr⟩ : ∃ r, Hid (decide (a0.size ≤ 4000) = r) := ⟨_, Lib.hid rfl⟩
    go_enter Try.func5, Try.ntmps5
    go_wp2_with fail
    refine (short1 a0 _ _ r hr (strs1 _ _ _) w0).mono ?_
    rintro e w1 ⟨rfl, rfl⟩
    cases r
    · go_wp2_with fail
      all_goals go_ret
      exact ⟨rfl, (Below.refl _ _).alloc (Nat.le_refl _) _⟩
    · go_wp2_with fail
      refine (wireUint_any a0 _ w0).mono ?_
      rintro e w2 ⟨rfl, hb2⟩
      go_wp2_with fail
      refine (whole_any a0 _ w0).mono ?_
      rintro e w3 ⟨rfl, rfl⟩
      have hb : Below w.heap.size w w3 := ((Below.refl _ _).alloc (Nat.le_refl _) _).trans (hb2.mono (by simp))
      go_wp2_with fail
      all_goals go_ret
      exact ⟨rfl, hb⟩
end Go.Proofs.Ytbjgbaffaognhaa

/- every8: each byte of a text is one of some. -/
import Derived.Test.YtjbffgjclnjkoaaNz
import Derived.Test.YtjbffgjclnjkoaaSw
namespace Go.Proofs.Ytjbffgjclnjkoaa
set_option linter.unusedVariables false
set_option linter.unusedSimpArgs false
open Go.RowKit Go.Shelf

theorem bdN2 {w x : World} (h : Below w.heap.size w x) (n : Nat) : Below w.heap.size w (x.drewN n) := ⟨h.os, h.tape, h.output, h.size, h.block⟩
set_option maxRecDepth 100000 in
set_option maxHeartbeats 4000000 in
theorem every8_any (s u : ByteArray) (hs : s.size ≤ 9000) (hu : u.size ≤ 9000) (w : World) :
    Calls Try.prog 9 #[.string s, .string u] w fun e w' => e = .returned (.bool ((bl s).all fun c => (bl u).any (c == ·))) ∧ Below w.heap.size w w' := by
  obtain ⟨R, hR⟩ : ∃ R, ((bl s).all fun c => (bl u).any (c == ·)) = R := ⟨_, rfl⟩
  rw [hR]
  have hsI : (s.size : Int) ≤ 9000 := by omega
  have huI : (u.size : Int) ≤ 9000 := by omega
  have A0 : Aside ((((bl s).drop 0).all fun c => (bl u).any (c == ·)) = R) := hR
  clear hR
  go_enter Try.func9, Try.ntmps9
  go_wp2_with fail
  go_loopg [10] s.size (fun g i wr => ∃ k : Nat, i = .int .i64 k ∧ k ≤ s.size ∧ s.size - k ≤ g ∧ Below w.heap.size w wr ∧ Aside ((((bl s).drop k).all fun c => (bl u).any (c == ·)) = R))
  case atStart => exact ⟨0, rfl, Nat.zero_le _, by omega, Below.refl _ _, A0⟩
  case round =>
    clear A0
    obtain ⟨k, rfl, hk, hg, hb, A⟩ := hrel
    unfold Aside at A
    by_cases hlt : k < s.size
    case neg =>
      obtain rfl : k = s.size := by omega
      rw [List.drop_of_length_le (by rw [bl_len]; exact Nat.le_refl _)] at A
      obtain rfl : true = R := by rw [← A]; rfl
      clear A
      go_wp2_with fail
      all_goals go_ret
      exact ⟨rfl, hb⟩
    have hkI : (k : Int) < (s.size : Int) := by omega
    rw [bl_drop hlt, List.all_cons] at A
    obtain ⟨c, hc⟩ : ∃ c, (s[k].toNat : Int) = c := ⟨_, rfl⟩
    rw [hc] at A
    obtain ⟨F, hF⟩ : ∃ F, (bl u).any (c == ·) = F := ⟨_, rfl⟩
    rw [hF] at A
    have A0 : Aside ((false || ((bl u).drop 0).any (c == ·)) = F) := by rw [← hF]; rfl
    clear hF
    go_upto_block 2 with fail
    go_cut [6, 7, 15] from 16 to 28 (fun f x y wx => f = .bool F ∧ Below w.heap.size w wx)
    case first =>
      clear A
      go_wp2_with fail
      go_loopg [6, 15] u.size (fun g f j wx => ∃ (m : Nat) (b : Bool), j = .int .i64 m ∧ f = .bool b ∧ m ≤ u.size ∧ u.size - m ≤ g ∧ Below w.heap.size w wx ∧ Aside ((b || ((bl u).drop m).any (c == ·)) = F))
      case atStart => exact ⟨0, false, rfl, rfl, Nat.zero_le _, by omega, hb, A0⟩
      case round =>
        clear A0
        obtain ⟨m, b, rfl, rfl, hm, hg2, hb2, A⟩ := hrel
        unfold Aside at A
        by_cases hlt2 : m < u.size
        case neg =>
          obtain rfl : m = u.size := by omega
          rw [List.drop_of_length_le (by rw [bl_len]; exact Nat.le_refl _)] at A
          obtain rfl : b = F := by rw [← A]; simp
          clear A
          go_wp2_with fail
          go_meet
          exact ⟨rfl, hb2⟩
        have hmI : (m : Int) < (u.size : Int) := by omega
        rw [bl_drop hlt2, List.any_cons] at A
        cases b
        · obtain ⟨y, hy⟩ : ∃ y, (c == (u[m].toNat : Int)) = y := ⟨_, rfl⟩
          rw [hy] at A
          have A2 : Aside ((y || ((bl u).drop (m + 1)).any (c == ·)) = F) := by show _ = F; rw [← A]; simp
          rw [← hc] at hy
          clear A
          go_wp2_with fail
          go_quiet (fail)
          go_wp2_with fail
          go_roundg (gk - 1)
          case measure => omega
          case rel => exact ⟨m + 1, y, by go_num, by rw [← hy, hc], by omega, by omega, bdN2 hb2 _, A2⟩
        · have A2 : Aside ((true || ((bl u).drop (m + 1)).any (c == ·)) = F) := by show _ = F; rw [← A]; simp
          clear A
          go_wp2_with fail
          go_quiet (fail)
          go_wp2_with fail
          go_roundg (gk - 1)
          case measure => omega
          case rel => exact ⟨m + 1, true, by go_num, rfl, by omega, by omega, bdN2 hb2 _, A2⟩
    case rest =>
    clear A0 hb hc
    obtain ⟨rfl, hb⟩ := hcut
    cases F
    · obtain rfl : false = R := by rw [← A]; rfl
      clear A
      go_wp2_with fail
      all_goals go_ret
      exact ⟨rfl, hb⟩
    · have A2 : Aside ((((bl s).drop (k + 1)).all fun c => (bl u).any (c == ·)) = R) := by show _ = R; rw [← A]; simp
      clear A
      go_wp2_with fail
      go_roundg (gk - 1)
      case measure => omega
      case rel => exact ⟨k + 1, by go_num, by omega, by omega, hb, A2⟩
end Go.Proofs.Ytjbffgjclnjkoaa

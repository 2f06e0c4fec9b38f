/- The parent of a pointer: the walks. -/
import Derived.Test.YtbnnjjilkpdanaaPo
namespace Go.Proofs.Ytbnnjjilkpdanaa
open Go.RowKit
set_option linter.unusedVariables false

/-- The place of the last slash ahead of a place, less than 0 if there is none. -/
def lidx (p : ByteArray) : Nat → Int
  | 0 => -1
  | i + 1 => if bAt p i = 47 then (i : Int) else lidx p i
theorem lidx_max (p : ByteArray) : ∀ i, max (lidx p i) 0 = (lastSl p i : Int)
  | 0 => rfl
  | i + 1 => by
    unfold lidx lastSl
    split
    · omega
    · exact lidx_max p i

set_option maxRecDepth 100000 in
set_option maxHeartbeats 4000000 in
theorem lastIdx_any (p : ByteArray) (w : World) (hs : p.size ≤ maxLen) :
    Calls Try.prog 34 #[.string p, .int .u8 47] w fun e w' => e = .returned (.int .i64 (lidx p p.size)) ∧ w' = w := by
  have hsI : (p.size : Int) ≤ 9223372036854775807 := by unfold maxLen at hs; omega
  obtain ⟨R, HR⟩ : ∃ R, Hid (lidx p p.size = R) := ⟨_, Lib.hid rfl⟩
  rw [HR.out]
  have A0 : Aside (lidx p p.size = R) := HR.out
  have hw0 : IntKind.i64.wrap ((p.size : Int) - 1) = (p.size : Int) - 1 := by rw [IntKind.wrap_i64]; omega
  clear hs
  go_enter Try.func34, Try.ntmps34
  go_wp2
  go_loopg [5] p.size (fun g i wr => ∃ k : Nat, i = .int .i64 ((k : Int) - 1) ∧ k ≤ p.size ∧ k ≤ g ∧ wr = w ∧ Aside (lidx p k = R))
  case atStart => exact ⟨p.size, rfl, by omega, by omega, rfl, A0⟩
  case round =>
    clear A0
    obtain ⟨k, rfl, hks, hg, rfl, A⟩ := hrel
    have A' : lidx p k = R := A
    rcases Nat.eq_zero_or_pos k with rfl | hk
    · have hR : R = -1 := A'.symm
      subst hR
      go_wp2
      go_ret
      exact ⟨rfl, rfl⟩
    · obtain ⟨n, rfl⟩ : ∃ n, k = n + 1 := ⟨k - 1, by omega⟩
      have hn : n < p.size := by omega
      have hb := bAt_lt hn
      have e1 : ((n + 1 : Nat) : Int) - 1 = (n : Int) := by omega
      rw [e1]
      unfold lidx at A'
      have hw1 : IntKind.i64.wrap ((n : Int) - 1) = (n : Int) - 1 := by rw [IntKind.wrap_i64]; omega
      obtain ⟨G, rfl⟩ : ∃ G, gk = G + 1 := ⟨gk - 1, by omega⟩
      by_cases h47 : bAt p n = 47
      · rw [if_pos h47] at A'
        subst A'
        have hd : ((p[n].toNat : Int) == 47) = true := by rw [← hb, h47]; rfl
        clear A hb h47
        go_wp2
        go_ret
        exact ⟨rfl, rfl⟩
      · rw [if_neg h47] at A'
        have A2 : Aside (lidx p n = R) := A'
        have hd : ((p[n].toNat : Int) == 47) = false := by rw [← hb]; simpa using h47
        clear A A' hb h47
        go_wp2
        go_roundg G
        case measure => go_light; omega
        case rel =>
          go_light
          exact ⟨n, rfl, by omega, by omega, rfl, A2⟩

set_option maxRecDepth 100000 in
theorem parent_any (p : ByteArray) (w : World) (hs : p.size ≤ maxLen) :
    Calls Try.prog 8 #[.string p] w fun e w' => e = .returned (.string (p.extract 0 (lastSl p p.size))) ∧ w' = w := by
  have hl := lastIdx_any p
  have hm := lidx_max p p.size
  have hle := lastSl_le p p.size
  generalize lidx p p.size = L at hl hm
  generalize lastSl p p.size = n at hm hle ⊢
  have hn0 : (0 : Int) ≤ (n : Int) := by omega
  have hnp : (n : Int) ≤ (p.size : Int) := by omega
  go_enter Try.func8, Try.ntmps8
  go_wp2_with (first | (go_at_call 34; refine (hl _ hs).mono ?_; rintro e w' ⟨rfl, rfl⟩) | go_in)
  go_ways
  all_goals go_ret
  exact ⟨rfl, rfl⟩
end Go.Proofs.Ytbnnjjilkpdanaa

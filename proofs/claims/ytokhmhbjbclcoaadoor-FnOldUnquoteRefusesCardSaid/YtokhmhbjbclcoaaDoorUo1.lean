/- Unquoting by the elder package: four digits behind a backslash and the letter u. -/
import Derived.Test.YtokhmhbjbclcoaaDoorUo0
import Derived.Deep.DeepCutAuto
import Derived.Deep.CutBlock
namespace Go.Proofs.YtokhmhbjbclcoaaDoor
set_option linter.unusedVariables false
set_option linter.unusedSimpArgs false
open Go.RowKit

theorem cellO {w : World} {b o : Nat} {s : ByteArray} (h : Lib.Bytes w b o s) {i : Nat} (hi : i < s.size) (X : Int) (hX : bAt s i = X) (p : Nat) (hp : p = o + i) : w.cell? ⟨b, p, none⟩ = some (.int .u8 X) := by
  subst hp
  rw [h i hi, ← hX]; unfold bAt; rw [dif_pos hi]
/-- What the four digits give, if they are there. -/
def U4 (T : ByteArray) (k : Nat) (r : Int) : Prop := -1 ≤ r ∧ r < 65536 ∧ (0 ≤ r → k + 6 ≤ T.size ∧ bAt T k = 92 ∧ bAt T (k + 1) = 117 ∧ hexAll T (k + 2) 4 = true)
theorem U4.no (T : ByteArray) (k : Nat) : U4 T k (-1) := ⟨by omega, by omega, fun h => by omega⟩

set_option maxRecDepth 100000 in
set_option maxHeartbeats 4000000 in
theorem getu4_any (T : ByteArray) (k b o off m cap : Nat) (w : World) (hB : Lib.Bytes w b o T) (hoff : off = o + k) (hm : m = T.size - k) (hs : T.size ≤ 100000000000) (hmc : m ≤ cap) :
    Calls Tryd.prog 78 #[.slice (some ⟨b, off, none⟩) m cap] w fun e w' => (∃ r : Int, e = .returned (.int .i32 r) ∧ U4 T k r) ∧ w' = w := by
  have HO := Lib.hid hoff
  have HM := Lib.hid hm
  clear hoff
  by_cases h6 : m < 6
  · clear hm
    have h6' : (m : Int) < 6 := by omega
    go_enter Tryd.func78, Tryd.ntmps78
    go_wp2_with fail
    all_goals go_ret
    exact ⟨⟨_, rfl, U4.no T k⟩, rfl⟩
  have h6' : (6 : Int) ≤ (m : Int) := by omega
  have h6c : (6 : Int) ≤ (cap : Int) := by omega
  obtain ⟨X0, hX0⟩ : ∃ X, bAt T k = X := ⟨_, rfl⟩
  obtain ⟨X1, hX1⟩ : ∃ X, bAt T (k + 1) = X := ⟨_, rfl⟩
  have hc0 := cellO hB (i := k) (by omega) X0 hX0 off HO.out
  have hc1 := cellO hB (i := k + 1) (by omega) X1 hX1 (off + 1) (by have := HO.out; omega)
  clear hm
  by_cases h0 : X0 = 92
  case neg =>
    have h0' : (X0 != 92) = true := by simpa using h0
    clear h0 h6 hX0 hX1
    go_enter Tryd.func78, Tryd.ntmps78
    go_wp2_with fail
    all_goals go_ret
    exact ⟨⟨_, rfl, U4.no T k⟩, rfl⟩
  subst h0
  by_cases h1 : X1 = 117
  case neg =>
    have h1' : (X1 != 117) = true := by simpa using h1
    clear h1 h6 hX0 hX1
    go_enter Tryd.func78, Tryd.ntmps78
    go_wp2_with fail
    all_goals go_ret
    exact ⟨⟨_, rfl, U4.no T k⟩, rfl⟩
  subst h1
  have fin : ∀ V : Int, Hid (hexPre T (k + 2) 4 = V) → Hid (hexAll T (k + 2) 4 = true) → U4 T k V := fun V h h2 => by
    have := hexPre_bd T (k + 2) 4 h2.out
    rw [h.out] at this
    exact ⟨by omega, by simpa using this.2, fun _ => ⟨by have := HM.out; omega, hX0, hX1, h2.out⟩⟩
  go_enter Tryd.func78, Tryd.ntmps78
  go_wp2_with fail
  go_loopg [3, 24] 4 (fun g v n wr => ∃ (j : Nat) (V : Int), j ≤ 4 ∧ n = .int .i64 j ∧ v = .int .i32 V ∧ Hid (hexPre T (k + 2) j = V) ∧ Hid (hexAll T (k + 2) j = true) ∧ wr = w ∧ 4 - j ≤ g)
  case atStart => exact ⟨0, 0, by omega, rfl, rfl, Lib.hid rfl, Lib.hid rfl, rfl, by omega⟩
  case round =>
    clear hc0 hc1 hX0 hX1
    obtain ⟨j, V, hj, rfl, rfl, HV, HA, rfl, hg⟩ := hrel
    have hbd := hexPre_bd T (k + 2) j HA.out
    rw [HV.out] at hbd
    by_cases hlt : j < 4
    · obtain ⟨X, hX⟩ : ∃ X, bAt T (k + 2 + j) = X := ⟨_, rfl⟩
      have hc := cellO hB (i := k + 2 + j) (by have := HM.out; omega) X hX (off + 2 + j) (by have := HO.out; omega)
      have hx0 : 0 ≤ X := by rw [← hX]; exact bAt_nonneg _ _
      have hx1 : X ≤ 255 := by rw [← hX]; exact bAt_le _ _
      have hp : V * 16 < 65536 - 15 := by
        have h3 : j = 0 ∨ j = 1 ∨ j = 2 ∨ j = 3 := by omega
        rcases h3 with rfl | rfl | rfl | rfl <;> simp at hbd <;> omega
      have hp0 : 0 ≤ V := hbd.1
      have next : ∀ h : Int, hexV X = h → 0 ≤ h → Hid (hexPre T (k + 2) (j + 1) = V * 16 + h) ∧ Hid (hexAll T (k + 2) (j + 1) = true) := fun h e e0 =>
        ⟨Lib.hid (by unfold hexPre; rw [HV.out, hX, e]; omega), Lib.hid (by unfold hexAll; rw [HA.out, hX, e]; simpa using e0)⟩
      have hjI : (j : Int) < 4 := by omega
      clear hbd hX
      have hcl : X < 48 ∨ (48 ≤ X ∧ X ≤ 57) ∨ (57 < X ∧ X < 65) ∨ (65 ≤ X ∧ X ≤ 70) ∨ (70 < X ∧ X < 97) ∨ (97 ≤ X ∧ X ≤ 102) ∨ 102 < X := by omega
      rcases hcl with d1 | ⟨d1, d2⟩ | ⟨d1, d2⟩ | ⟨d1, d2⟩ | ⟨d1, d2⟩ | ⟨d1, d2⟩ | d1
      · clear next
        go_wp2_with fail
        all_goals go_ret
        exact ⟨⟨_, rfl, U4.no T k⟩, rfl⟩
      · obtain ⟨n1, n2⟩ := next (X - 48) (by unfold hexV; rw [if_pos ⟨d1, d2⟩]) (by omega)
        clear next
        go_wp2_with fail
        go_roundg (gk - 1)
        case measure => omega
        case rel => exact ⟨j + 1, _, by omega, by go_num, rfl, by first | exact n1 | exact Lib.hid (by have := n1.out; omega), n2, rfl, by omega⟩
      · clear next
        go_wp2_with fail
        all_goals go_ret
        exact ⟨⟨_, rfl, U4.no T k⟩, rfl⟩
      · obtain ⟨n1, n2⟩ := next (X - 65 + 10) (by unfold hexV; rw [if_neg (by omega), if_neg (by omega), if_pos ⟨d1, d2⟩]) (by omega)
        clear next
        go_wp2_with fail
        go_roundg (gk - 1)
        case measure => omega
        case rel => exact ⟨j + 1, _, by omega, by go_num, rfl, by first | exact n1 | exact Lib.hid (by have := n1.out; omega), n2, rfl, by omega⟩
      · clear next
        go_wp2_with fail
        all_goals go_ret
        exact ⟨⟨_, rfl, U4.no T k⟩, rfl⟩
      · obtain ⟨n1, n2⟩ := next (X - 97 + 10) (by unfold hexV; rw [if_neg (by omega), if_pos ⟨d1, d2⟩]) (by omega)
        clear next
        go_wp2_with fail
        go_roundg (gk - 1)
        case measure => omega
        case rel => exact ⟨j + 1, _, by omega, by go_num, rfl, by first | exact n1 | exact Lib.hid (by have := n1.out; omega), n2, rfl, by omega⟩
      · clear next
        go_wp2_with fail
        all_goals go_ret
        exact ⟨⟨_, rfl, U4.no T k⟩, rfl⟩
    · obtain rfl : j = 4 := by omega
      go_wp2_with fail
      all_goals go_ret
      exact ⟨⟨_, rfl, fin _ HV HA⟩, rfl⟩
theorem pair_neg (a : Int) (w : World) : Calls Tryd.prog 66 #[.int .i32 a, .int .i32 (-1)] w fun e w' => e = .returned (.int .i32 65533) ∧ w' = w := by
  by_cases h1 : 55296 ≤ a
  · by_cases h2 : a < 56320
    · go_enter Tryd.func66, Tryd.ntmps66
      go_wp2
      all_goals go_ret
      exact ⟨rfl, rfl⟩
    · have h5 : 56320 ≤ a := by omega
      clear h2
      go_enter Tryd.func66, Tryd.ntmps66
      go_wp2
      all_goals go_ret
      exact ⟨rfl, rfl⟩
  · have h5 : a < 55296 := by omega
    clear h1
    go_enter Tryd.func66, Tryd.ntmps66
    go_wp2
    all_goals go_ret
    exact ⟨rfl, rfl⟩
end Go.Proofs.YtokhmhbjbclcoaaDoor

/- Whether a string needs an escape for some reader: the plain mathematics and the walk. -/
import Derived.Test.YtbnnjjilkpdanaaDoorQw
import Derived.Test.YtbnnjjilkpdanaaDoorCb
namespace Go.Proofs.YtbnnjjilkpdanaaDoor
open Go.RowKit
set_option linter.unusedVariables false

/-- Does the character at a place need an escape for some reader? -/
def neC (s : ByteArray) (k : Nat) : Bool :=
  if bAt s k < 128 then decide (escT (bAt s k) = 1) else decide ((runeN s k : Int) = 65533) || decide ((runeN s k : Int) = 8232) || decide ((runeN s k : Int) = 8233)
def neF (s : ByteArray) : Nat → Nat → Bool
  | 0, _ => false
  | g + 1, k => if k < s.size then neC s k || neF s g (k + stepN s k) else false

theorem ne_step {s : ByteArray} {g k : Nat} {R : Bool} (A : Aside (neF s g k = R)) (hk : k < s.size) (hg : s.size - k ≤ g) :
    (neC s k = true → R = true) ∧ (neC s k = false → g - 1 < g ∧ k + stepN s k ≤ s.size ∧ s.size - (k + stepN s k) ≤ g - 1 ∧ Aside (neF s (g - 1) (k + stepN s k) = R)) := by
  obtain ⟨g', rfl⟩ : ∃ g', g = g' + 1 := ⟨g - 1, by omega⟩
  have A' : neF s (g' + 1) k = R := A
  rw [neF, if_pos hk] at A'
  have := step_fits s k hk
  refine ⟨fun h => by rw [h] at A'; exact A'.symm, fun h => ⟨by omega, by omega, by omega, ?_⟩⟩
  rw [h, Bool.false_or] at A'
  exact A'
theorem ne_end {s : ByteArray} {g k : Nat} {R : Bool} (A : Aside (neF s g k = R)) (hk : ¬ k < s.size) : R = false := by
  have A' : neF s g k = R := A
  cases g with
  | zero => exact A'.symm
  | succ g => rw [neF, if_neg hk] at A'; exact A'.symm

set_option maxRecDepth 100000 in
set_option maxHeartbeats 2000000 in
theorem needW (s : ByteArray) (b cap : Nat) (w : World) (hs : s.size ≤ 100000000000) (hcap : s.size ≤ cap) (hcm : cap ≤ maxLen) (hS : Lib.Bytes w b 0 s) (hbl : b < w.heap.size) (hT : TabsB w.heap.size w) (hE : EscB w.heap.size w) :
    Calls Tryd.prog 33 #[.slice (some ⟨b, 0, none⟩) s.size cap] w fun e w' => e = .returned (.bool (neF s s.size 0)) ∧ Below w.heap.size w w' := by
  unfold maxLen at hcm
  obtain ⟨R, HR⟩ : ∃ R, Hid (neF s s.size 0 = R) := ⟨_, Lib.hid rfl⟩
  have A0 : Aside (neF s s.size 0 = R) := HR.out
  rw [HR.out]
  go_enter Tryd.func33, Tryd.ntmps33
  go_wp2
  go_loopg [3] s.size (fun g i wr => ∃ k : Nat, i = .int .i64 k ∧ k ≤ s.size ∧ s.size - k ≤ g ∧ Below w.heap.size w wr ∧ Aside (neF s g k = R))
  case atStart => exact ⟨0, rfl, by omega, by omega, Below.refl _ _, A0⟩
  case round =>
    clear A0
    obtain ⟨k, rfl, hks, hg, hbel, A⟩ := hrel
    have hTr := hT.below hbel
    have hEr := hE.below hbel
    have hSr := bytes_block hS (hbel.block b hbl)
    by_cases hk : k < s.size
    · obtain ⟨a1, a2⟩ := ne_step A hk hg
      have hst := step_fits s k hk
      have hX0 := bAt_nonneg s k
      have hX1 := bAt_le s k
      have hkc : (k : Int) < (cap : Int) := by omega
      obtain ⟨X, hX⟩ : ∃ X, bAt s k = X := ⟨_, rfl⟩
      have c1 := cellX hSr hk X hX
      rw [hX] at hX0 hX1
      by_cases hX2 : X < 128
      · have hs1 : stepN s k = 1 := step_one s k hk (by rw [hX]; exact hX2)
        have ht := hEr.at hX0 hX2
        rw [hs1] at a2
        have e1 : escT X = 1 ∨ escT X = 0 := by unfold escT; split <;> simp
        have hc : neC s k = decide (escT X = 1) := by unfold neC; rw [hX, if_pos hX2]
        rw [hc] at a1 a2
        clear hst hX A hc
        rcases e1 with e1 | e1
        · rw [e1] at ht
          obtain rfl := a1 (by simp [e1])
          clear a1 a2 e1
          go_wp2
          go_ret
          exact ⟨rfl, hbel⟩
        · rw [e1] at ht
          have E := Lib.hid (a2 (by simp [e1]))
          clear a1 a2 e1
          go_wp2
          go_roundg (gk - 1)
          case measure => exact E.out.1
          case rel => exact ⟨k + 1, by go_num, E.out.2.1, E.out.2.2.1, hbel, E.out.2.2.2⟩
      · obtain ⟨r, hr⟩ : ∃ r : Int, (runeN s k : Int) = r := ⟨_, rfl⟩
        obtain ⟨d, hd⟩ : ∃ d, stepN s k = d := ⟨_, rfl⟩
        have hc : neC s k = (decide (r = 65533) || decide (r = 8232) || decide (r = 8233)) := by unfold neC; rw [hX, if_neg hX2, hr]
        rw [hc] at a1 a2
        rw [hd] at a2 hst
        have hd1 : (d : Int) ≤ s.size := by omega
        have hkd : (k : Int) + (d : Int) ≤ s.size := by omega
        by_cases hsp : (r = 65533 ∨ r = 8232) ∨ r = 8233
        · obtain rfl := a1 (by rcases hsp with (h | h) | h <;> simp [h])
          clear hX A hc a1 a2
          rcases hsp with (rfl | rfl) | rfl
          all_goals
            go_wp2_with (go_at_call 49; refine (decode_r s k _ b _ _ rfl hk hTr.1 hSr _ d hr hd).mono ?_; rintro e w3 ⟨rfl, hb3⟩; have hbel3 := Below.trans hbel (Below.mono hb3 hbel.size))
            go_ret
            exact ⟨rfl, hbel3⟩
        · have A2 := Lib.hid (a2 (by simp; omega))
          have n1 : (r == 65533) = false := by simp; omega
          have n2 : (r == 8232) = false := by simp; omega
          have n3 : (r == 8233) = false := by simp; omega
          clear hX A hc a1 a2 hsp
          go_wp2_with (go_at_call 49; refine (decode_r s k _ b _ _ rfl hk hTr.1 hSr _ d hr hd).mono ?_; rintro e w3 ⟨rfl, hb3⟩; have hbel3 := Below.trans hbel (Below.mono hb3 hbel.size))
          go_roundg (gk - 1)
          case measure => exact A2.out.1
          case rel => exact ⟨k + d, by go_num, A2.out.2.1, A2.out.2.2.1, hbel3, A2.out.2.2.2⟩
    · obtain rfl := ne_end A hk
      clear A
      go_wp2
      go_ret
      exact ⟨rfl, hbel⟩

theorem implNeed (s : ByteArray) (w : World) (hs : s.size ≤ 100000000000) (hT : TabsB w.heap.size w) (hE : EscB w.heap.size w) :
    Calls Tryd.prog 15 #[.string s] w fun e w' => e = .returned (.bool (neF s s.size 0)) ∧ Below w.heap.size w w' := by
  obtain ⟨cap, w1, hc, C⟩ := cnvB s (by unfold maxLen; omega) w
  have hz := C.size
  have hT1 := hT.below C.below
  have hE1 := hE.below C.below
  have h := needW s w.heap.size cap w1 hs C.cap_ge C.cap_le C.bytes (by omega) ⟨hT1.1, by have := hT1.2; omega⟩ ⟨by have := hE1.1; omega, hE1.2⟩
  have hb := C.below
  clear C hz hT1 hE1
  go_enter Tryd.func15, Tryd.ntmps15
  go_wp2_with (go_at_call 33; refine h.mono ?_; rintro e w3 ⟨rfl, hb3⟩)
  go_ret
  exact ⟨rfl, hb.trans (Below.mono hb3 hb.size)⟩
end Go.Proofs.YtbnnjjilkpdanaaDoor

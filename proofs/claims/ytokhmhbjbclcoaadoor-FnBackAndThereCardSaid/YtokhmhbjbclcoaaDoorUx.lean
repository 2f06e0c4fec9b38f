/- Unquoting: whether a character is whole; pairs of units. -/
import Derived.Test.YtokhmhbjbclcoaaDoorUs
import Derived.Deep.DeepCutAuto
namespace Go.Proofs.YtokhmhbjbclcoaaDoor
set_option linter.unusedVariables false
set_option linter.unusedSimpArgs false
open Go.RowKit

/-- The character of a pair of units, 65533 if they are none. -/
def pairR (a b : Int) : Int := if 55296 ≤ a ∧ a < 56320 ∧ 56320 ≤ b ∧ b < 57344 then (a - 55296) * 1024 + (b - 56320) + 65536 else 65533
theorem or10 (x y : Int) (hx0 : 0 ≤ x) (hx : x % 1024 = 0) (hx1 : x < 1048576) (hy0 : 0 ≤ y) (hy1 : y < 1024) : bits .or .i32 x y = x + y :=
  bits_join .i32 31 (by decide) wraps_i32 10 x y hx0 hx (by omega) hy0 hy1 (by omega)
theorem pair_any (a b : Int) (w : World) (ha0 : 0 ≤ a) (ha1 : a < 65536) (hb0 : 0 ≤ b) (hb1 : b < 65536) :
    Calls Tryd.prog 66 #[.int .i32 a, .int .i32 b] w fun e w' => e = .returned (.int .i32 (pairR a b)) ∧ w' = w := by
  by_cases h1 : 55296 ≤ a
  · by_cases h2 : a < 56320
    · by_cases h3 : 56320 ≤ b
      · by_cases h4 : b < 57344
        · have e : Hid (pairR a b = (a - 55296) * 1024 + (b - 56320) + 65536) := Lib.hid (by unfold pairR; rw [if_pos ⟨h1, h2, h3, h4⟩])
          have ho2 := or10 ((a - 55296) * 1024) (b - 56320) (by omega) (by omega) (by omega) (by omega) (by omega)
          go_enter Tryd.func66, Tryd.ntmps66
          go_wp2
          all_goals go_ret
          exact ⟨by rw [e.out]; first | done | rfl, rfl⟩
        · have e : Hid (pairR a b = 65533) := Lib.hid (by unfold pairR; rw [if_neg (by omega)])
          have h5 : 57344 ≤ b := by omega
          clear h4
          go_enter Tryd.func66, Tryd.ntmps66
          go_wp2
          all_goals go_ret
          exact ⟨by rw [e.out]; first | done | rfl, rfl⟩
      · have e : Hid (pairR a b = 65533) := Lib.hid (by unfold pairR; rw [if_neg (by omega)])
        have h5 : b < 56320 := by omega
        clear h3
        go_enter Tryd.func66, Tryd.ntmps66
        go_wp2
        all_goals go_ret
        exact ⟨by rw [e.out]; first | done | rfl, rfl⟩
    · have e : Hid (pairR a b = 65533) := Lib.hid (by unfold pairR; rw [if_neg (by omega)])
      have h5 : 56320 ≤ a := by omega
      clear h2
      go_enter Tryd.func66, Tryd.ntmps66
      go_wp2
      all_goals go_ret
      exact ⟨by rw [e.out]; first | done | rfl, rfl⟩
  · have e : Hid (pairR a b = 65533) := Lib.hid (by unfold pairR; rw [if_neg (by omega)])
    have h5 : a < 55296 := by omega
    clear h1
    go_enter Tryd.func66, Tryd.ntmps66
    go_wp2
    all_goals go_ret
    exact ⟨by rw [e.out]; first | done | rfl, rfl⟩

/-- Is the character at a place whole, or none, as utf8.FullRune has it? -/
def fullB (s : ByteArray) (i : Nat) : Bool :=
  let c := bAt s i
  let m := s.size - i
  if uLen c ≤ m then true
  else if 1 < m ∧ (bAt s (i + 1) < uLo c ∨ uHi c < bAt s (i + 1)) then true
  else if 2 < m ∧ (bAt s (i + 2) < 128 ∨ 191 < bAt s (i + 2)) then true
  else false

/-- A character that is cut off by the text's end has no byte of ASCII behind its first. -/
theorem fullB_quote (s : ByteArray) (i : Nat) (hi : i + 1 < s.size) (hq : bAt s (s.size - 1) < 128) : fullB s i = true := by
  unfold fullB
  dsimp only
  have hl := uLen_le (bAt s i)
  have hlo : 128 ≤ uLo (bAt s i) := by
    unfold uLo
    repeat' split
    all_goals omega
  by_cases h1 : uLen (bAt s i) ≤ s.size - i
  · rw [if_pos h1]
  · rw [if_neg h1]
    by_cases h2 : s.size - i = 2
    · have e : s.size - 1 = i + 1 := by omega
      rw [e] at hq
      rw [if_pos ⟨by omega, .inl (by omega)⟩]
    · have e : s.size - 1 = i + 2 := by omega
      rw [e] at hq
      rw [if_pos (show 2 < s.size - i ∧ _ from ⟨by omega, .inl hq⟩)]
      split <;> rfl

theorem newc (w : World) (cs : Array Value) (T : TypeId) {k : Nat} {v : Value} (h : cs[k]? = some v) : (w.alloc (.cells cs T)).cell? ⟨w.heap.size, k, none⟩ = some v := by
  unfold World.cell?; rw [heap_alloc_new]; exact h
theorem tab_at {B : Nat} {w : World} (hT : TabsB B w) {X : Int} (h0 : 0 ≤ X) (h1 : X ≤ 255) : w.cell? ⟨3, X.toNat, none⟩ = some (.int .u8 (Lib.firstT X.toNat)) := hT.1.1 X.toNat (by omega)
theorem and7 (x : Int) (h0 : 0 ≤ x) (h1 : x < 256) : bits .and .u8 x 7 = x % 8 := u8_and7 x h0 h1

set_option maxRecDepth 100000 in
set_option maxHeartbeats 4000000 in
theorem full_0 (B : Nat) (s : ByteArray) (b i m cap : Nat) (X : Int) (w : World) (hm : m = s.size - i) (hi : i < s.size) (hs : s.size ≤ 100000000000) (hT : TabsB B w) (hS : Lib.Bytes w b 0 s) (hX : bAt s i = X) (hx0 : 128 ≤ X) (hx1 : X ≤ 193) :
    Calls Tryd.prog 67 #[.slice (some ⟨b, i, none⟩) m cap] w fun e w' => e = .returned (.bool (fullB s i)) ∧ Below w.heap.size w w' := by
  have hc := cellZ hS hi X hX
  have ht : w.cell? ⟨3, X.toNat, none⟩ = some (.int .u8 241) := by
    have h := hT.1.1 X.toNat (by omega)
    rw [h]
    have : Lib.firstT X.toNat = 241 := by
      unfold Lib.firstT
      repeat' split
      all_goals omega
    rw [this]; rfl
  have hl : uLen X = 0 := by
    unfold uLen
    repeat' split
    all_goals omega
  have h7 : bits .and .u8 241 7 = 1 := by decide
  have e : Hid (fullB s i = true) := Lib.hid (by unfold fullB; dsimp only; rw [hX, hl, if_pos (by omega)])
  have hm1 : (0 : Int) < (m : Int) := by omega
  clear hl hX hm hT
  go_enter Tryd.func67, Tryd.ntmps67
  go_wp2_with fail
  all_goals go_ret
  exact ⟨by rw [e.out]; first | done | rfl, Below.refl _ _⟩

set_option maxRecDepth 100000 in
set_option maxHeartbeats 4000000 in
theorem full_1 (B : Nat) (s : ByteArray) (b i m cap : Nat) (X : Int) (w : World) (hm : m = s.size - i) (hi : i < s.size) (hs : s.size ≤ 100000000000) (hT : TabsB B w) (hS : Lib.Bytes w b 0 s) (hX : bAt s i = X) (hx0 : 194 ≤ X) (hx1 : X ≤ 223) :
    Calls Tryd.prog 67 #[.slice (some ⟨b, i, none⟩) m cap] w fun e w' => e = .returned (.bool (fullB s i)) ∧ Below w.heap.size w w' := by
  have hc := cellZ hS hi X hX
  have ht : w.cell? ⟨3, X.toNat, none⟩ = some (.int .u8 2) := by
    have h := hT.1.1 X.toNat (by omega)
    rw [h]
    have : Lib.firstT X.toNat = 2 := by
      unfold Lib.firstT
      repeat' split
      all_goals omega
    rw [this]; rfl
  have hl : uLen X = 2 := by
    unfold uLen
    repeat' split
    all_goals omega
  have h7 : bits .and .u8 2 7 = 2 := by decide
  have hlo : uLo X = 128 := by
    unfold uLo
    repeat' split
    all_goals omega
  have hhi : uHi X = 191 := by
    unfold uHi
    repeat' split
    all_goals omega
  have hac := (hT.1.2 0 (by omega)).1
  have had := (hT.1.2 0 (by omega)).2
  rw [show Lib.accLo 0 = 128 from rfl, show 2 * 0 = 0 from rfl] at hac
  rw [show Lib.accHi 0 = 191 from rfl, show 2 * 0 + 1 = 1 from rfl] at had
  have hm1 : (0 : Int) < (m : Int) := by omega
  have F : fullB s i = if 2 ≤ m then true else if 1 < m ∧ (bAt s (i + 1) < 128 ∨ 191 < bAt s (i + 1)) then true else if 2 < m ∧ (bAt s (i + 2) < 128 ∨ 191 < bAt s (i + 2)) then true else false := by
    unfold fullB; dsimp only; rw [hX, hl, hlo, hhi, hm]
  have HM := Lib.hid hm
  clear hl hX hlo hhi hm hT
  by_cases h1 : 2 ≤ m
  · have e : Hid (fullB s i = true) := Lib.hid (by rw [F, if_pos h1])
    clear F
    go_enter Tryd.func67, Tryd.ntmps67
    go_wp2_with fail
    all_goals go_ret
    exact ⟨by rw [e.out]; first | done | rfl, Below.refl _ _⟩
  · by_cases m1 : m = 1
    · subst m1
      clear HM hm1
      have e : Hid (fullB s i = false) := Lib.hid (by rw [F]; rw [if_neg (by omega), if_neg (by omega), if_neg (by omega)])
      clear F
      go_enter Tryd.func67, Tryd.ntmps67
      go_upto_region 7 with fail
      go_cut [5] from 20 (fun v wx => v = .pointer (some ⟨w.heap.size, 0, none⟩) ∧ wx.cell? ⟨w.heap.size, 0, none⟩ = some (.int .u8 128) ∧ wx.cell? ⟨w.heap.size, 1, none⟩ = some (.int .u8 191) ∧ Below w.heap.size w wx)
      case first =>
        go_wp2_with fail
        go_meet
        exact ⟨rfl, newc w _ _ (by rfl), newc w _ _ (by rfl), (Below.refl _ _).alloc (Nat.le_refl _) _⟩
      case rest =>
        obtain ⟨rfl, hq0, hq1, hbl⟩ := hcut
        have r0 : ∀ n, (wc.drewN n).cell? ⟨w.heap.size, 0, none⟩ = some (.int .u8 128) := fun n => hq0
        have r1 : ∀ n, (wc.drewN n).cell? ⟨w.heap.size, 1, none⟩ = some (.int .u8 191) := fun n => hq1
        go_wp2_with fail
        go_quiet (fail)
        go_wp2_with fail
        all_goals go_ret
        exact ⟨by rw [e.out]; first | done | rfl, bdN hbl _⟩
    · omega

set_option maxRecDepth 100000 in
set_option maxHeartbeats 4000000 in
theorem full_2 (B : Nat) (s : ByteArray) (b i m cap : Nat) (X : Int) (w : World) (hm : m = s.size - i) (hi : i < s.size) (hs : s.size ≤ 100000000000) (hT : TabsB B w) (hS : Lib.Bytes w b 0 s) (hX : bAt s i = X) (hx0 : 224 ≤ X) (hx1 : X ≤ 224) :
    Calls Tryd.prog 67 #[.slice (some ⟨b, i, none⟩) m cap] w fun e w' => e = .returned (.bool (fullB s i)) ∧ Below w.heap.size w w' := by
  have hc := cellZ hS hi X hX
  have ht : w.cell? ⟨3, X.toNat, none⟩ = some (.int .u8 19) := by
    have h := hT.1.1 X.toNat (by omega)
    rw [h]
    have : Lib.firstT X.toNat = 19 := by
      unfold Lib.firstT
      repeat' split
      all_goals omega
    rw [this]; rfl
  have hl : uLen X = 3 := by
    unfold uLen
    repeat' split
    all_goals omega
  have h7 : bits .and .u8 19 7 = 3 := by decide
  have hlo : uLo X = 160 := by
    unfold uLo
    repeat' split
    all_goals omega
  have hhi : uHi X = 191 := by
    unfold uHi
    repeat' split
    all_goals omega
  have hac := (hT.1.2 1 (by omega)).1
  have had := (hT.1.2 1 (by omega)).2
  rw [show Lib.accLo 1 = 160 from rfl, show 2 * 1 = 2 from rfl] at hac
  rw [show Lib.accHi 1 = 191 from rfl, show 2 * 1 + 1 = 3 from rfl] at had
  have hm1 : (0 : Int) < (m : Int) := by omega
  have F : fullB s i = if 3 ≤ m then true else if 1 < m ∧ (bAt s (i + 1) < 160 ∨ 191 < bAt s (i + 1)) then true else if 2 < m ∧ (bAt s (i + 2) < 128 ∨ 191 < bAt s (i + 2)) then true else false := by
    unfold fullB; dsimp only; rw [hX, hl, hlo, hhi, hm]
  have HM := Lib.hid hm
  clear hl hX hlo hhi hm hT
  by_cases h1 : 3 ≤ m
  · have e : Hid (fullB s i = true) := Lib.hid (by rw [F, if_pos h1])
    clear F
    go_enter Tryd.func67, Tryd.ntmps67
    go_wp2_with fail
    all_goals go_ret
    exact ⟨by rw [e.out]; first | done | rfl, Below.refl _ _⟩
  · by_cases m1 : m = 1
    · subst m1
      clear HM hm1
      have e : Hid (fullB s i = false) := Lib.hid (by rw [F]; rw [if_neg (by omega), if_neg (by omega), if_neg (by omega)])
      clear F
      go_enter Tryd.func67, Tryd.ntmps67
      go_upto_region 7 with fail
      go_cut [5] from 20 (fun v wx => v = .pointer (some ⟨w.heap.size, 0, none⟩) ∧ wx.cell? ⟨w.heap.size, 0, none⟩ = some (.int .u8 160) ∧ wx.cell? ⟨w.heap.size, 1, none⟩ = some (.int .u8 191) ∧ Below w.heap.size w wx)
      case first =>
        go_wp2_with fail
        go_meet
        exact ⟨rfl, newc w _ _ (by rfl), newc w _ _ (by rfl), (Below.refl _ _).alloc (Nat.le_refl _) _⟩
      case rest =>
        obtain ⟨rfl, hq0, hq1, hbl⟩ := hcut
        have r0 : ∀ n, (wc.drewN n).cell? ⟨w.heap.size, 0, none⟩ = some (.int .u8 160) := fun n => hq0
        have r1 : ∀ n, (wc.drewN n).cell? ⟨w.heap.size, 1, none⟩ = some (.int .u8 191) := fun n => hq1
        go_wp2_with fail
        go_quiet (fail)
        go_wp2_with fail
        all_goals go_ret
        exact ⟨by rw [e.out]; first | done | rfl, bdN hbl _⟩
    · obtain ⟨Y, hY⟩ : ∃ Y, bAt s (i + 1) = Y := ⟨_, rfl⟩
      have hcy := cellZ hS (i := i + 1) (by have := HM.out; omega) Y hY
      have hm2 : (1 : Int) < (m : Int) := by omega
      rw [hY] at F
      clear hY
      by_cases y1 : Y < 160
      · have y2 : Y ≤ 191 := by omega
        have e : Hid (fullB s i = true) := Lib.hid (by rw [F]; rw [if_neg h1, if_pos ⟨by omega, .inl y1⟩])
        clear F
        go_enter Tryd.func67, Tryd.ntmps67
        go_upto_region 7 with fail
        go_cut [5] from 20 (fun v wx => v = .pointer (some ⟨w.heap.size, 0, none⟩) ∧ wx.cell? ⟨w.heap.size, 0, none⟩ = some (.int .u8 160) ∧ wx.cell? ⟨w.heap.size, 1, none⟩ = some (.int .u8 191) ∧ Below w.heap.size w wx)
        case first =>
          go_wp2_with fail
          go_meet
          exact ⟨rfl, newc w _ _ (by rfl), newc w _ _ (by rfl), (Below.refl _ _).alloc (Nat.le_refl _) _⟩
        case rest =>
          obtain ⟨rfl, hq0, hq1, hbl⟩ := hcut
          have r0 : ∀ n, (wc.drewN n).cell? ⟨w.heap.size, 0, none⟩ = some (.int .u8 160) := fun n => hq0
          have r1 : ∀ n, (wc.drewN n).cell? ⟨w.heap.size, 1, none⟩ = some (.int .u8 191) := fun n => hq1
          have qY : ∀ n, (wc.drewN n).cell? ⟨b, i + 1, none⟩ = some (.int .u8 Y) := fun n => (hbl.cell (p := ⟨b, i + 1, none⟩) (World.block_lt_of_cell? w ⟨b, _, none⟩ hcy)).trans hcy
          go_wp2_with fail
          go_quiet (fail)
          go_wp2_with fail
          all_goals go_ret
          exact ⟨by rw [e.out]; first | done | rfl, bdN hbl _⟩
      · by_cases y2 : 191 < Y
        · have y3 : 160 ≤ Y := by omega
          have e : Hid (fullB s i = true) := Lib.hid (by rw [F]; rw [if_neg h1, if_pos ⟨by omega, .inr y2⟩])
          clear F
          clear y1
          go_enter Tryd.func67, Tryd.ntmps67
          go_upto_region 7 with fail
          go_cut [5] from 20 (fun v wx => v = .pointer (some ⟨w.heap.size, 0, none⟩) ∧ wx.cell? ⟨w.heap.size, 0, none⟩ = some (.int .u8 160) ∧ wx.cell? ⟨w.heap.size, 1, none⟩ = some (.int .u8 191) ∧ Below w.heap.size w wx)
          case first =>
            go_wp2_with fail
            go_meet
            exact ⟨rfl, newc w _ _ (by rfl), newc w _ _ (by rfl), (Below.refl _ _).alloc (Nat.le_refl _) _⟩
          case rest =>
            obtain ⟨rfl, hq0, hq1, hbl⟩ := hcut
            have r0 : ∀ n, (wc.drewN n).cell? ⟨w.heap.size, 0, none⟩ = some (.int .u8 160) := fun n => hq0
            have r1 : ∀ n, (wc.drewN n).cell? ⟨w.heap.size, 1, none⟩ = some (.int .u8 191) := fun n => hq1
            have qY : ∀ n, (wc.drewN n).cell? ⟨b, i + 1, none⟩ = some (.int .u8 Y) := fun n => (hbl.cell (p := ⟨b, i + 1, none⟩) (World.block_lt_of_cell? w ⟨b, _, none⟩ hcy)).trans hcy
            go_wp2_with fail
            go_quiet (fail)
            go_wp2_with fail
            all_goals go_ret
            exact ⟨by rw [e.out]; first | done | rfl, bdN hbl _⟩
        · have y3 : 160 ≤ Y := by omega
          have y4 : Y ≤ 191 := by omega
          have m2 : m = 2 := by omega
          subst m2
          clear HM hm1 hm2
          have e : Hid (fullB s i = false) := Lib.hid (by rw [F]; rw [if_neg h1, if_neg (by omega), if_neg (by omega)])
          clear F
          clear y1 y2
          go_enter Tryd.func67, Tryd.ntmps67
          go_upto_region 7 with fail
          go_cut [5] from 20 (fun v wx => v = .pointer (some ⟨w.heap.size, 0, none⟩) ∧ wx.cell? ⟨w.heap.size, 0, none⟩ = some (.int .u8 160) ∧ wx.cell? ⟨w.heap.size, 1, none⟩ = some (.int .u8 191) ∧ Below w.heap.size w wx)
          case first =>
            go_wp2_with fail
            go_meet
            exact ⟨rfl, newc w _ _ (by rfl), newc w _ _ (by rfl), (Below.refl _ _).alloc (Nat.le_refl _) _⟩
          case rest =>
            obtain ⟨rfl, hq0, hq1, hbl⟩ := hcut
            have r0 : ∀ n, (wc.drewN n).cell? ⟨w.heap.size, 0, none⟩ = some (.int .u8 160) := fun n => hq0
            have r1 : ∀ n, (wc.drewN n).cell? ⟨w.heap.size, 1, none⟩ = some (.int .u8 191) := fun n => hq1
            have qY : ∀ n, (wc.drewN n).cell? ⟨b, i + 1, none⟩ = some (.int .u8 Y) := fun n => (hbl.cell (p := ⟨b, i + 1, none⟩) (World.block_lt_of_cell? w ⟨b, _, none⟩ hcy)).trans hcy
            go_wp2_with fail
            go_quiet (fail)
            go_wp2_with fail
            all_goals go_ret
            exact ⟨by rw [e.out]; first | done | rfl, bdN hbl _⟩

set_option maxRecDepth 100000 in
set_option maxHeartbeats 4000000 in
theorem full_3 (B : Nat) (s : ByteArray) (b i m cap : Nat) (X : Int) (w : World) (hm : m = s.size - i) (hi : i < s.size) (hs : s.size ≤ 100000000000) (hT : TabsB B w) (hS : Lib.Bytes w b 0 s) (hX : bAt s i = X) (hx0 : 225 ≤ X) (hx1 : X ≤ 236) :
    Calls Tryd.prog 67 #[.slice (some ⟨b, i, none⟩) m cap] w fun e w' => e = .returned (.bool (fullB s i)) ∧ Below w.heap.size w w' := by
  have hc := cellZ hS hi X hX
  have ht : w.cell? ⟨3, X.toNat, none⟩ = some (.int .u8 3) := by
    have h := hT.1.1 X.toNat (by omega)
    rw [h]
    have : Lib.firstT X.toNat = 3 := by
      unfold Lib.firstT
      repeat' split
      all_goals omega
    rw [this]; rfl
  have hl : uLen X = 3 := by
    unfold uLen
    repeat' split
    all_goals omega
  have h7 : bits .and .u8 3 7 = 3 := by decide
  have hlo : uLo X = 128 := by
    unfold uLo
    repeat' split
    all_goals omega
  have hhi : uHi X = 191 := by
    unfold uHi
    repeat' split
    all_goals omega
  have hac := (hT.1.2 0 (by omega)).1
  have had := (hT.1.2 0 (by omega)).2
  rw [show Lib.accLo 0 = 128 from rfl, show 2 * 0 = 0 from rfl] at hac
  rw [show Lib.accHi 0 = 191 from rfl, show 2 * 0 + 1 = 1 from rfl] at had
  have hm1 : (0 : Int) < (m : Int) := by omega
  have F : fullB s i = if 3 ≤ m then true else if 1 < m ∧ (bAt s (i + 1) < 128 ∨ 191 < bAt s (i + 1)) then true else if 2 < m ∧ (bAt s (i + 2) < 128 ∨ 191 < bAt s (i + 2)) then true else false := by
    unfold fullB; dsimp only; rw [hX, hl, hlo, hhi, hm]
  have HM := Lib.hid hm
  clear hl hX hlo hhi hm hT
  by_cases h1 : 3 ≤ m
  · have e : Hid (fullB s i = true) := Lib.hid (by rw [F, if_pos h1])
    clear F
    go_enter Tryd.func67, Tryd.ntmps67
    go_wp2_with fail
    all_goals go_ret
    exact ⟨by rw [e.out]; first | done | rfl, Below.refl _ _⟩
  · by_cases m1 : m = 1
    · subst m1
      clear HM hm1
      have e : Hid (fullB s i = false) := Lib.hid (by rw [F]; rw [if_neg (by omega), if_neg (by omega), if_neg (by omega)])
      clear F
      go_enter Tryd.func67, Tryd.ntmps67
      go_upto_region 7 with fail
      go_cut [5] from 20 (fun v wx => v = .pointer (some ⟨w.heap.size, 0, none⟩) ∧ wx.cell? ⟨w.heap.size, 0, none⟩ = some (.int .u8 128) ∧ wx.cell? ⟨w.heap.size, 1, none⟩ = some (.int .u8 191) ∧ Below w.heap.size w wx)
      case first =>
        go_wp2_with fail
        go_meet
        exact ⟨rfl, newc w _ _ (by rfl), newc w _ _ (by rfl), (Below.refl _ _).alloc (Nat.le_refl _) _⟩
      case rest =>
        obtain ⟨rfl, hq0, hq1, hbl⟩ := hcut
        have r0 : ∀ n, (wc.drewN n).cell? ⟨w.heap.size, 0, none⟩ = some (.int .u8 128) := fun n => hq0
        have r1 : ∀ n, (wc.drewN n).cell? ⟨w.heap.size, 1, none⟩ = some (.int .u8 191) := fun n => hq1
        go_wp2_with fail
        go_quiet (fail)
        go_wp2_with fail
        all_goals go_ret
        exact ⟨by rw [e.out]; first | done | rfl, bdN hbl _⟩
    · obtain ⟨Y, hY⟩ : ∃ Y, bAt s (i + 1) = Y := ⟨_, rfl⟩
      have hcy := cellZ hS (i := i + 1) (by have := HM.out; omega) Y hY
      have hm2 : (1 : Int) < (m : Int) := by omega
      rw [hY] at F
      clear hY
      by_cases y1 : Y < 128
      · have y2 : Y ≤ 191 := by omega
        have e : Hid (fullB s i = true) := Lib.hid (by rw [F]; rw [if_neg h1, if_pos ⟨by omega, .inl y1⟩])
        clear F
        go_enter Tryd.func67, Tryd.ntmps67
        go_upto_region 7 with fail
        go_cut [5] from 20 (fun v wx => v = .pointer (some ⟨w.heap.size, 0, none⟩) ∧ wx.cell? ⟨w.heap.size, 0, none⟩ = some (.int .u8 128) ∧ wx.cell? ⟨w.heap.size, 1, none⟩ = some (.int .u8 191) ∧ Below w.heap.size w wx)
        case first =>
          go_wp2_with fail
          go_meet
          exact ⟨rfl, newc w _ _ (by rfl), newc w _ _ (by rfl), (Below.refl _ _).alloc (Nat.le_refl _) _⟩
        case rest =>
          obtain ⟨rfl, hq0, hq1, hbl⟩ := hcut
          have r0 : ∀ n, (wc.drewN n).cell? ⟨w.heap.size, 0, none⟩ = some (.int .u8 128) := fun n => hq0
          have r1 : ∀ n, (wc.drewN n).cell? ⟨w.heap.size, 1, none⟩ = some (.int .u8 191) := fun n => hq1
          have qY : ∀ n, (wc.drewN n).cell? ⟨b, i + 1, none⟩ = some (.int .u8 Y) := fun n => (hbl.cell (p := ⟨b, i + 1, none⟩) (World.block_lt_of_cell? w ⟨b, _, none⟩ hcy)).trans hcy
          go_wp2_with fail
          go_quiet (fail)
          go_wp2_with fail
          all_goals go_ret
          exact ⟨by rw [e.out]; first | done | rfl, bdN hbl _⟩
      · by_cases y2 : 191 < Y
        · have y3 : 128 ≤ Y := by omega
          have e : Hid (fullB s i = true) := Lib.hid (by rw [F]; rw [if_neg h1, if_pos ⟨by omega, .inr y2⟩])
          clear F
          clear y1
          go_enter Tryd.func67, Tryd.ntmps67
          go_upto_region 7 with fail
          go_cut [5] from 20 (fun v wx => v = .pointer (some ⟨w.heap.size, 0, none⟩) ∧ wx.cell? ⟨w.heap.size, 0, none⟩ = some (.int .u8 128) ∧ wx.cell? ⟨w.heap.size, 1, none⟩ = some (.int .u8 191) ∧ Below w.heap.size w wx)
          case first =>
            go_wp2_with fail
            go_meet
            exact ⟨rfl, newc w _ _ (by rfl), newc w _ _ (by rfl), (Below.refl _ _).alloc (Nat.le_refl _) _⟩
          case rest =>
            obtain ⟨rfl, hq0, hq1, hbl⟩ := hcut
            have r0 : ∀ n, (wc.drewN n).cell? ⟨w.heap.size, 0, none⟩ = some (.int .u8 128) := fun n => hq0
            have r1 : ∀ n, (wc.drewN n).cell? ⟨w.heap.size, 1, none⟩ = some (.int .u8 191) := fun n => hq1
            have qY : ∀ n, (wc.drewN n).cell? ⟨b, i + 1, none⟩ = some (.int .u8 Y) := fun n => (hbl.cell (p := ⟨b, i + 1, none⟩) (World.block_lt_of_cell? w ⟨b, _, none⟩ hcy)).trans hcy
            go_wp2_with fail
            go_quiet (fail)
            go_wp2_with fail
            all_goals go_ret
            exact ⟨by rw [e.out]; first | done | rfl, bdN hbl _⟩
        · have y3 : 128 ≤ Y := by omega
          have y4 : Y ≤ 191 := by omega
          have m2 : m = 2 := by omega
          subst m2
          clear HM hm1 hm2
          have e : Hid (fullB s i = false) := Lib.hid (by rw [F]; rw [if_neg h1, if_neg (by omega), if_neg (by omega)])
          clear F
          clear y1 y2
          go_enter Tryd.func67, Tryd.ntmps67
          go_upto_region 7 with fail
          go_cut [5] from 20 (fun v wx => v = .pointer (some ⟨w.heap.size, 0, none⟩) ∧ wx.cell? ⟨w.heap.size, 0, none⟩ = some (.int .u8 128) ∧ wx.cell? ⟨w.heap.size, 1, none⟩ = some (.int .u8 191) ∧ Below w.heap.size w wx)
          case first =>
            go_wp2_with fail
            go_meet
            exact ⟨rfl, newc w _ _ (by rfl), newc w _ _ (by rfl), (Below.refl _ _).alloc (Nat.le_refl _) _⟩
          case rest =>
            obtain ⟨rfl, hq0, hq1, hbl⟩ := hcut
            have r0 : ∀ n, (wc.drewN n).cell? ⟨w.heap.size, 0, none⟩ = some (.int .u8 128) := fun n => hq0
            have r1 : ∀ n, (wc.drewN n).cell? ⟨w.heap.size, 1, none⟩ = some (.int .u8 191) := fun n => hq1
            have qY : ∀ n, (wc.drewN n).cell? ⟨b, i + 1, none⟩ = some (.int .u8 Y) := fun n => (hbl.cell (p := ⟨b, i + 1, none⟩) (World.block_lt_of_cell? w ⟨b, _, none⟩ hcy)).trans hcy
            go_wp2_with fail
            go_quiet (fail)
            go_wp2_with fail
            all_goals go_ret
            exact ⟨by rw [e.out]; first | done | rfl, bdN hbl _⟩

set_option maxRecDepth 100000 in
set_option maxHeartbeats 4000000 in
theorem full_4 (B : Nat) (s : ByteArray) (b i m cap : Nat) (X : Int) (w : World) (hm : m = s.size - i) (hi : i < s.size) (hs : s.size ≤ 100000000000) (hT : TabsB B w) (hS : Lib.Bytes w b 0 s) (hX : bAt s i = X) (hx0 : 237 ≤ X) (hx1 : X ≤ 237) :
    Calls Tryd.prog 67 #[.slice (some ⟨b, i, none⟩) m cap] w fun e w' => e = .returned (.bool (fullB s i)) ∧ Below w.heap.size w w' := by
  have hc := cellZ hS hi X hX
  have ht : w.cell? ⟨3, X.toNat, none⟩ = some (.int .u8 35) := by
    have h := hT.1.1 X.toNat (by omega)
    rw [h]
    have : Lib.firstT X.toNat = 35 := by
      unfold Lib.firstT
      repeat' split
      all_goals omega
    rw [this]; rfl
  have hl : uLen X = 3 := by
    unfold uLen
    repeat' split
    all_goals omega
  have h7 : bits .and .u8 35 7 = 3 := by decide
  have hlo : uLo X = 128 := by
    unfold uLo
    repeat' split
    all_goals omega
  have hhi : uHi X = 159 := by
    unfold uHi
    repeat' split
    all_goals omega
  have hac := (hT.1.2 2 (by omega)).1
  have had := (hT.1.2 2 (by omega)).2
  rw [show Lib.accLo 2 = 128 from rfl, show 2 * 2 = 4 from rfl] at hac
  rw [show Lib.accHi 2 = 159 from rfl, show 2 * 2 + 1 = 5 from rfl] at had
  have hm1 : (0 : Int) < (m : Int) := by omega
  have F : fullB s i = if 3 ≤ m then true else if 1 < m ∧ (bAt s (i + 1) < 128 ∨ 159 < bAt s (i + 1)) then true else if 2 < m ∧ (bAt s (i + 2) < 128 ∨ 191 < bAt s (i + 2)) then true else false := by
    unfold fullB; dsimp only; rw [hX, hl, hlo, hhi, hm]
  have HM := Lib.hid hm
  clear hl hX hlo hhi hm hT
  by_cases h1 : 3 ≤ m
  · have e : Hid (fullB s i = true) := Lib.hid (by rw [F, if_pos h1])
    clear F
    go_enter Tryd.func67, Tryd.ntmps67
    go_wp2_with fail
    all_goals go_ret
    exact ⟨by rw [e.out]; first | done | rfl, Below.refl _ _⟩
  · by_cases m1 : m = 1
    · subst m1
      clear HM hm1
      have e : Hid (fullB s i = false) := Lib.hid (by rw [F]; rw [if_neg (by omega), if_neg (by omega), if_neg (by omega)])
      clear F
      go_enter Tryd.func67, Tryd.ntmps67
      go_upto_region 7 with fail
      go_cut [5] from 20 (fun v wx => v = .pointer (some ⟨w.heap.size, 0, none⟩) ∧ wx.cell? ⟨w.heap.size, 0, none⟩ = some (.int .u8 128) ∧ wx.cell? ⟨w.heap.size, 1, none⟩ = some (.int .u8 159) ∧ Below w.heap.size w wx)
      case first =>
        go_wp2_with fail
        go_meet
        exact ⟨rfl, newc w _ _ (by rfl), newc w _ _ (by rfl), (Below.refl _ _).alloc (Nat.le_refl _) _⟩
      case rest =>
        obtain ⟨rfl, hq0, hq1, hbl⟩ := hcut
        have r0 : ∀ n, (wc.drewN n).cell? ⟨w.heap.size, 0, none⟩ = some (.int .u8 128) := fun n => hq0
        have r1 : ∀ n, (wc.drewN n).cell? ⟨w.heap.size, 1, none⟩ = some (.int .u8 159) := fun n => hq1
        go_wp2_with fail
        go_quiet (fail)
        go_wp2_with fail
        all_goals go_ret
        exact ⟨by rw [e.out]; first | done | rfl, bdN hbl _⟩
    · obtain ⟨Y, hY⟩ : ∃ Y, bAt s (i + 1) = Y := ⟨_, rfl⟩
      have hcy := cellZ hS (i := i + 1) (by have := HM.out; omega) Y hY
      have hm2 : (1 : Int) < (m : Int) := by omega
      rw [hY] at F
      clear hY
      by_cases y1 : Y < 128
      · have y2 : Y ≤ 159 := by omega
        have e : Hid (fullB s i = true) := Lib.hid (by rw [F]; rw [if_neg h1, if_pos ⟨by omega, .inl y1⟩])
        clear F
        go_enter Tryd.func67, Tryd.ntmps67
        go_upto_region 7 with fail
        go_cut [5] from 20 (fun v wx => v = .pointer (some ⟨w.heap.size, 0, none⟩) ∧ wx.cell? ⟨w.heap.size, 0, none⟩ = some (.int .u8 128) ∧ wx.cell? ⟨w.heap.size, 1, none⟩ = some (.int .u8 159) ∧ Below w.heap.size w wx)
        case first =>
          go_wp2_with fail
          go_meet
          exact ⟨rfl, newc w _ _ (by rfl), newc w _ _ (by rfl), (Below.refl _ _).alloc (Nat.le_refl _) _⟩
        case rest =>
          obtain ⟨rfl, hq0, hq1, hbl⟩ := hcut
          have r0 : ∀ n, (wc.drewN n).cell? ⟨w.heap.size, 0, none⟩ = some (.int .u8 128) := fun n => hq0
          have r1 : ∀ n, (wc.drewN n).cell? ⟨w.heap.size, 1, none⟩ = some (.int .u8 159) := fun n => hq1
          have qY : ∀ n, (wc.drewN n).cell? ⟨b, i + 1, none⟩ = some (.int .u8 Y) := fun n => (hbl.cell (p := ⟨b, i + 1, none⟩) (World.block_lt_of_cell? w ⟨b, _, none⟩ hcy)).trans hcy
          go_wp2_with fail
          go_quiet (fail)
          go_wp2_with fail
          all_goals go_ret
          exact ⟨by rw [e.out]; first | done | rfl, bdN hbl _⟩
      · by_cases y2 : 159 < Y
        · have y3 : 128 ≤ Y := by omega
          have e : Hid (fullB s i = true) := Lib.hid (by rw [F]; rw [if_neg h1, if_pos ⟨by omega, .inr y2⟩])
          clear F
          clear y1
          go_enter Tryd.func67, Tryd.ntmps67
          go_upto_region 7 with fail
          go_cut [5] from 20 (fun v wx => v = .pointer (some ⟨w.heap.size, 0, none⟩) ∧ wx.cell? ⟨w.heap.size, 0, none⟩ = some (.int .u8 128) ∧ wx.cell? ⟨w.heap.size, 1, none⟩ = some (.int .u8 159) ∧ Below w.heap.size w wx)
          case first =>
            go_wp2_with fail
            go_meet
            exact ⟨rfl, newc w _ _ (by rfl), newc w _ _ (by rfl), (Below.refl _ _).alloc (Nat.le_refl _) _⟩
          case rest =>
            obtain ⟨rfl, hq0, hq1, hbl⟩ := hcut
            have r0 : ∀ n, (wc.drewN n).cell? ⟨w.heap.size, 0, none⟩ = some (.int .u8 128) := fun n => hq0
            have r1 : ∀ n, (wc.drewN n).cell? ⟨w.heap.size, 1, none⟩ = some (.int .u8 159) := fun n => hq1
            have qY : ∀ n, (wc.drewN n).cell? ⟨b, i + 1, none⟩ = some (.int .u8 Y) := fun n => (hbl.cell (p := ⟨b, i + 1, none⟩) (World.block_lt_of_cell? w ⟨b, _, none⟩ hcy)).trans hcy
            go_wp2_with fail
            go_quiet (fail)
            go_wp2_with fail
            all_goals go_ret
            exact ⟨by rw [e.out]; first | done | rfl, bdN hbl _⟩
        · have y3 : 128 ≤ Y := by omega
          have y4 : Y ≤ 159 := by omega
          have m2 : m = 2 := by omega
          subst m2
          clear HM hm1 hm2
          have e : Hid (fullB s i = false) := Lib.hid (by rw [F]; rw [if_neg h1, if_neg (by omega), if_neg (by omega)])
          clear F
          clear y1 y2
          go_enter Tryd.func67, Tryd.ntmps67
          go_upto_region 7 with fail
          go_cut [5] from 20 (fun v wx => v = .pointer (some ⟨w.heap.size, 0, none⟩) ∧ wx.cell? ⟨w.heap.size, 0, none⟩ = some (.int .u8 128) ∧ wx.cell? ⟨w.heap.size, 1, none⟩ = some (.int .u8 159) ∧ Below w.heap.size w wx)
          case first =>
            go_wp2_with fail
            go_meet
            exact ⟨rfl, newc w _ _ (by rfl), newc w _ _ (by rfl), (Below.refl _ _).alloc (Nat.le_refl _) _⟩
          case rest =>
            obtain ⟨rfl, hq0, hq1, hbl⟩ := hcut
            have r0 : ∀ n, (wc.drewN n).cell? ⟨w.heap.size, 0, none⟩ = some (.int .u8 128) := fun n => hq0
            have r1 : ∀ n, (wc.drewN n).cell? ⟨w.heap.size, 1, none⟩ = some (.int .u8 159) := fun n => hq1
            have qY : ∀ n, (wc.drewN n).cell? ⟨b, i + 1, none⟩ = some (.int .u8 Y) := fun n => (hbl.cell (p := ⟨b, i + 1, none⟩) (World.block_lt_of_cell? w ⟨b, _, none⟩ hcy)).trans hcy
            go_wp2_with fail
            go_quiet (fail)
            go_wp2_with fail
            all_goals go_ret
            exact ⟨by rw [e.out]; first | done | rfl, bdN hbl _⟩

set_option maxRecDepth 100000 in
set_option maxHeartbeats 4000000 in
theorem full_5 (B : Nat) (s : ByteArray) (b i m cap : Nat) (X : Int) (w : World) (hm : m = s.size - i) (hi : i < s.size) (hs : s.size ≤ 100000000000) (hT : TabsB B w) (hS : Lib.Bytes w b 0 s) (hX : bAt s i = X) (hx0 : 238 ≤ X) (hx1 : X ≤ 239) :
    Calls Tryd.prog 67 #[.slice (some ⟨b, i, none⟩) m cap] w fun e w' => e = .returned (.bool (fullB s i)) ∧ Below w.heap.size w w' := by
  have hc := cellZ hS hi X hX
  have ht : w.cell? ⟨3, X.toNat, none⟩ = some (.int .u8 3) := by
    have h := hT.1.1 X.toNat (by omega)
    rw [h]
    have : Lib.firstT X.toNat = 3 := by
      unfold Lib.firstT
      repeat' split
      all_goals omega
    rw [this]; rfl
  have hl : uLen X = 3 := by
    unfold uLen
    repeat' split
    all_goals omega
  have h7 : bits .and .u8 3 7 = 3 := by decide
  have hlo : uLo X = 128 := by
    unfold uLo
    repeat' split
    all_goals omega
  have hhi : uHi X = 191 := by
    unfold uHi
    repeat' split
    all_goals omega
  have hac := (hT.1.2 0 (by omega)).1
  have had := (hT.1.2 0 (by omega)).2
  rw [show Lib.accLo 0 = 128 from rfl, show 2 * 0 = 0 from rfl] at hac
  rw [show Lib.accHi 0 = 191 from rfl, show 2 * 0 + 1 = 1 from rfl] at had
  have hm1 : (0 : Int) < (m : Int) := by omega
  have F : fullB s i = if 3 ≤ m then true else if 1 < m ∧ (bAt s (i + 1) < 128 ∨ 191 < bAt s (i + 1)) then true else if 2 < m ∧ (bAt s (i + 2) < 128 ∨ 191 < bAt s (i + 2)) then true else false := by
    unfold fullB; dsimp only; rw [hX, hl, hlo, hhi, hm]
  have HM := Lib.hid hm
  clear hl hX hlo hhi hm hT
  by_cases h1 : 3 ≤ m
  · have e : Hid (fullB s i = true) := Lib.hid (by rw [F, if_pos h1])
    clear F
    go_enter Tryd.func67, Tryd.ntmps67
    go_wp2_with fail
    all_goals go_ret
    exact ⟨by rw [e.out]; first | done | rfl, Below.refl _ _⟩
  · by_cases m1 : m = 1
    · subst m1
      clear HM hm1
      have e : Hid (fullB s i = false) := Lib.hid (by rw [F]; rw [if_neg (by omega), if_neg (by omega), if_neg (by omega)])
      clear F
      go_enter Tryd.func67, Tryd.ntmps67
      go_upto_region 7 with fail
      go_cut [5] from 20 (fun v wx => v = .pointer (some ⟨w.heap.size, 0, none⟩) ∧ wx.cell? ⟨w.heap.size, 0, none⟩ = some (.int .u8 128) ∧ wx.cell? ⟨w.heap.size, 1, none⟩ = some (.int .u8 191) ∧ Below w.heap.size w wx)
      case first =>
        go_wp2_with fail
        go_meet
        exact ⟨rfl, newc w _ _ (by rfl), newc w _ _ (by rfl), (Below.refl _ _).alloc (Nat.le_refl _) _⟩
      case rest =>
        obtain ⟨rfl, hq0, hq1, hbl⟩ := hcut
        have r0 : ∀ n, (wc.drewN n).cell? ⟨w.heap.size, 0, none⟩ = some (.int .u8 128) := fun n => hq0
        have r1 : ∀ n, (wc.drewN n).cell? ⟨w.heap.size, 1, none⟩ = some (.int .u8 191) := fun n => hq1
        go_wp2_with fail
        go_quiet (fail)
        go_wp2_with fail
        all_goals go_ret
        exact ⟨by rw [e.out]; first | done | rfl, bdN hbl _⟩
    · obtain ⟨Y, hY⟩ : ∃ Y, bAt s (i + 1) = Y := ⟨_, rfl⟩
      have hcy := cellZ hS (i := i + 1) (by have := HM.out; omega) Y hY
      have hm2 : (1 : Int) < (m : Int) := by omega
      rw [hY] at F
      clear hY
      by_cases y1 : Y < 128
      · have y2 : Y ≤ 191 := by omega
        have e : Hid (fullB s i = true) := Lib.hid (by rw [F]; rw [if_neg h1, if_pos ⟨by omega, .inl y1⟩])
        clear F
        go_enter Tryd.func67, Tryd.ntmps67
        go_upto_region 7 with fail
        go_cut [5] from 20 (fun v wx => v = .pointer (some ⟨w.heap.size, 0, none⟩) ∧ wx.cell? ⟨w.heap.size, 0, none⟩ = some (.int .u8 128) ∧ wx.cell? ⟨w.heap.size, 1, none⟩ = some (.int .u8 191) ∧ Below w.heap.size w wx)
        case first =>
          go_wp2_with fail
          go_meet
          exact ⟨rfl, newc w _ _ (by rfl), newc w _ _ (by rfl), (Below.refl _ _).alloc (Nat.le_refl _) _⟩
        case rest =>
          obtain ⟨rfl, hq0, hq1, hbl⟩ := hcut
          have r0 : ∀ n, (wc.drewN n).cell? ⟨w.heap.size, 0, none⟩ = some (.int .u8 128) := fun n => hq0
          have r1 : ∀ n, (wc.drewN n).cell? ⟨w.heap.size, 1, none⟩ = some (.int .u8 191) := fun n => hq1
          have qY : ∀ n, (wc.drewN n).cell? ⟨b, i + 1, none⟩ = some (.int .u8 Y) := fun n => (hbl.cell (p := ⟨b, i + 1, none⟩) (World.block_lt_of_cell? w ⟨b, _, none⟩ hcy)).trans hcy
          go_wp2_with fail
          go_quiet (fail)
          go_wp2_with fail
          all_goals go_ret
          exact ⟨by rw [e.out]; first | done | rfl, bdN hbl _⟩
      · by_cases y2 : 191 < Y
        · have y3 : 128 ≤ Y := by omega
          have e : Hid (fullB s i = true) := Lib.hid (by rw [F]; rw [if_neg h1, if_pos ⟨by omega, .inr y2⟩])
          clear F
          clear y1
          go_enter Tryd.func67, Tryd.ntmps67
          go_upto_region 7 with fail
          go_cut [5] from 20 (fun v wx => v = .pointer (some ⟨w.heap.size, 0, none⟩) ∧ wx.cell? ⟨w.heap.size, 0, none⟩ = some (.int .u8 128) ∧ wx.cell? ⟨w.heap.size, 1, none⟩ = some (.int .u8 191) ∧ Below w.heap.size w wx)
          case first =>
            go_wp2_with fail
            go_meet
            exact ⟨rfl, newc w _ _ (by rfl), newc w _ _ (by rfl), (Below.refl _ _).alloc (Nat.le_refl _) _⟩
          case rest =>
            obtain ⟨rfl, hq0, hq1, hbl⟩ := hcut
            have r0 : ∀ n, (wc.drewN n).cell? ⟨w.heap.size, 0, none⟩ = some (.int .u8 128) := fun n => hq0
            have r1 : ∀ n, (wc.drewN n).cell? ⟨w.heap.size, 1, none⟩ = some (.int .u8 191) := fun n => hq1
            have qY : ∀ n, (wc.drewN n).cell? ⟨b, i + 1, none⟩ = some (.int .u8 Y) := fun n => (hbl.cell (p := ⟨b, i + 1, none⟩) (World.block_lt_of_cell? w ⟨b, _, none⟩ hcy)).trans hcy
            go_wp2_with fail
            go_quiet (fail)
            go_wp2_with fail
            all_goals go_ret
            exact ⟨by rw [e.out]; first | done | rfl, bdN hbl _⟩
        · have y3 : 128 ≤ Y := by omega
          have y4 : Y ≤ 191 := by omega
          have m2 : m = 2 := by omega
          subst m2
          clear HM hm1 hm2
          have e : Hid (fullB s i = false) := Lib.hid (by rw [F]; rw [if_neg h1, if_neg (by omega), if_neg (by omega)])
          clear F
          clear y1 y2
          go_enter Tryd.func67, Tryd.ntmps67
          go_upto_region 7 with fail
          go_cut [5] from 20 (fun v wx => v = .pointer (some ⟨w.heap.size, 0, none⟩) ∧ wx.cell? ⟨w.heap.size, 0, none⟩ = some (.int .u8 128) ∧ wx.cell? ⟨w.heap.size, 1, none⟩ = some (.int .u8 191) ∧ Below w.heap.size w wx)
          case first =>
            go_wp2_with fail
            go_meet
            exact ⟨rfl, newc w _ _ (by rfl), newc w _ _ (by rfl), (Below.refl _ _).alloc (Nat.le_refl _) _⟩
          case rest =>
            obtain ⟨rfl, hq0, hq1, hbl⟩ := hcut
            have r0 : ∀ n, (wc.drewN n).cell? ⟨w.heap.size, 0, none⟩ = some (.int .u8 128) := fun n => hq0
            have r1 : ∀ n, (wc.drewN n).cell? ⟨w.heap.size, 1, none⟩ = some (.int .u8 191) := fun n => hq1
            have qY : ∀ n, (wc.drewN n).cell? ⟨b, i + 1, none⟩ = some (.int .u8 Y) := fun n => (hbl.cell (p := ⟨b, i + 1, none⟩) (World.block_lt_of_cell? w ⟨b, _, none⟩ hcy)).trans hcy
            go_wp2_with fail
            go_quiet (fail)
            go_wp2_with fail
            all_goals go_ret
            exact ⟨by rw [e.out]; first | done | rfl, bdN hbl _⟩

set_option maxRecDepth 100000 in
set_option maxHeartbeats 4000000 in
theorem full_6 (B : Nat) (s : ByteArray) (b i m cap : Nat) (X : Int) (w : World) (hm : m = s.size - i) (hi : i < s.size) (hs : s.size ≤ 100000000000) (hT : TabsB B w) (hS : Lib.Bytes w b 0 s) (hX : bAt s i = X) (hx0 : 240 ≤ X) (hx1 : X ≤ 240) :
    Calls Tryd.prog 67 #[.slice (some ⟨b, i, none⟩) m cap] w fun e w' => e = .returned (.bool (fullB s i)) ∧ Below w.heap.size w w' := by
  have hc := cellZ hS hi X hX
  have ht : w.cell? ⟨3, X.toNat, none⟩ = some (.int .u8 52) := by
    have h := hT.1.1 X.toNat (by omega)
    rw [h]
    have : Lib.firstT X.toNat = 52 := by
      unfold Lib.firstT
      repeat' split
      all_goals omega
    rw [this]; rfl
  have hl : uLen X = 4 := by
    unfold uLen
    repeat' split
    all_goals omega
  have h7 : bits .and .u8 52 7 = 4 := by decide
  have hlo : uLo X = 144 := by
    unfold uLo
    repeat' split
    all_goals omega
  have hhi : uHi X = 191 := by
    unfold uHi
    repeat' split
    all_goals omega
  have hac := (hT.1.2 3 (by omega)).1
  have had := (hT.1.2 3 (by omega)).2
  rw [show Lib.accLo 3 = 144 from rfl, show 2 * 3 = 6 from rfl] at hac
  rw [show Lib.accHi 3 = 191 from rfl, show 2 * 3 + 1 = 7 from rfl] at had
  have hm1 : (0 : Int) < (m : Int) := by omega
  have F : fullB s i = if 4 ≤ m then true else if 1 < m ∧ (bAt s (i + 1) < 144 ∨ 191 < bAt s (i + 1)) then true else if 2 < m ∧ (bAt s (i + 2) < 128 ∨ 191 < bAt s (i + 2)) then true else false := by
    unfold fullB; dsimp only; rw [hX, hl, hlo, hhi, hm]
  have HM := Lib.hid hm
  clear hl hX hlo hhi hm hT
  by_cases h1 : 4 ≤ m
  · have e : Hid (fullB s i = true) := Lib.hid (by rw [F, if_pos h1])
    clear F
    go_enter Tryd.func67, Tryd.ntmps67
    go_wp2_with fail
    all_goals go_ret
    exact ⟨by rw [e.out]; first | done | rfl, Below.refl _ _⟩
  · by_cases m1 : m = 1
    · subst m1
      clear HM hm1
      have e : Hid (fullB s i = false) := Lib.hid (by rw [F]; rw [if_neg (by omega), if_neg (by omega), if_neg (by omega)])
      clear F
      go_enter Tryd.func67, Tryd.ntmps67
      go_upto_region 7 with fail
      go_cut [5] from 20 (fun v wx => v = .pointer (some ⟨w.heap.size, 0, none⟩) ∧ wx.cell? ⟨w.heap.size, 0, none⟩ = some (.int .u8 144) ∧ wx.cell? ⟨w.heap.size, 1, none⟩ = some (.int .u8 191) ∧ Below w.heap.size w wx)
      case first =>
        go_wp2_with fail
        go_meet
        exact ⟨rfl, newc w _ _ (by rfl), newc w _ _ (by rfl), (Below.refl _ _).alloc (Nat.le_refl _) _⟩
      case rest =>
        obtain ⟨rfl, hq0, hq1, hbl⟩ := hcut
        have r0 : ∀ n, (wc.drewN n).cell? ⟨w.heap.size, 0, none⟩ = some (.int .u8 144) := fun n => hq0
        have r1 : ∀ n, (wc.drewN n).cell? ⟨w.heap.size, 1, none⟩ = some (.int .u8 191) := fun n => hq1
        go_wp2_with fail
        go_quiet (fail)
        go_wp2_with fail
        all_goals go_ret
        exact ⟨by rw [e.out]; first | done | rfl, bdN hbl _⟩
    · obtain ⟨Y, hY⟩ : ∃ Y, bAt s (i + 1) = Y := ⟨_, rfl⟩
      have hcy := cellZ hS (i := i + 1) (by have := HM.out; omega) Y hY
      have hm2 : (1 : Int) < (m : Int) := by omega
      rw [hY] at F
      clear hY
      by_cases y1 : Y < 144
      · have y2 : Y ≤ 191 := by omega
        have e : Hid (fullB s i = true) := Lib.hid (by rw [F]; rw [if_neg h1, if_pos ⟨by omega, .inl y1⟩])
        clear F
        go_enter Tryd.func67, Tryd.ntmps67
        go_upto_region 7 with fail
        go_cut [5] from 20 (fun v wx => v = .pointer (some ⟨w.heap.size, 0, none⟩) ∧ wx.cell? ⟨w.heap.size, 0, none⟩ = some (.int .u8 144) ∧ wx.cell? ⟨w.heap.size, 1, none⟩ = some (.int .u8 191) ∧ Below w.heap.size w wx)
        case first =>
          go_wp2_with fail
          go_meet
          exact ⟨rfl, newc w _ _ (by rfl), newc w _ _ (by rfl), (Below.refl _ _).alloc (Nat.le_refl _) _⟩
        case rest =>
          obtain ⟨rfl, hq0, hq1, hbl⟩ := hcut
          have r0 : ∀ n, (wc.drewN n).cell? ⟨w.heap.size, 0, none⟩ = some (.int .u8 144) := fun n => hq0
          have r1 : ∀ n, (wc.drewN n).cell? ⟨w.heap.size, 1, none⟩ = some (.int .u8 191) := fun n => hq1
          have qY : ∀ n, (wc.drewN n).cell? ⟨b, i + 1, none⟩ = some (.int .u8 Y) := fun n => (hbl.cell (p := ⟨b, i + 1, none⟩) (World.block_lt_of_cell? w ⟨b, _, none⟩ hcy)).trans hcy
          go_wp2_with fail
          go_quiet (fail)
          go_wp2_with fail
          all_goals go_ret
          exact ⟨by rw [e.out]; first | done | rfl, bdN hbl _⟩
      · by_cases y2 : 191 < Y
        · have y3 : 144 ≤ Y := by omega
          have e : Hid (fullB s i = true) := Lib.hid (by rw [F]; rw [if_neg h1, if_pos ⟨by omega, .inr y2⟩])
          clear F
          clear y1
          go_enter Tryd.func67, Tryd.ntmps67
          go_upto_region 7 with fail
          go_cut [5] from 20 (fun v wx => v = .pointer (some ⟨w.heap.size, 0, none⟩) ∧ wx.cell? ⟨w.heap.size, 0, none⟩ = some (.int .u8 144) ∧ wx.cell? ⟨w.heap.size, 1, none⟩ = some (.int .u8 191) ∧ Below w.heap.size w wx)
          case first =>
            go_wp2_with fail
            go_meet
            exact ⟨rfl, newc w _ _ (by rfl), newc w _ _ (by rfl), (Below.refl _ _).alloc (Nat.le_refl _) _⟩
          case rest =>
            obtain ⟨rfl, hq0, hq1, hbl⟩ := hcut
            have r0 : ∀ n, (wc.drewN n).cell? ⟨w.heap.size, 0, none⟩ = some (.int .u8 144) := fun n => hq0
            have r1 : ∀ n, (wc.drewN n).cell? ⟨w.heap.size, 1, none⟩ = some (.int .u8 191) := fun n => hq1
            have qY : ∀ n, (wc.drewN n).cell? ⟨b, i + 1, none⟩ = some (.int .u8 Y) := fun n => (hbl.cell (p := ⟨b, i + 1, none⟩) (World.block_lt_of_cell? w ⟨b, _, none⟩ hcy)).trans hcy
            go_wp2_with fail
            go_quiet (fail)
            go_wp2_with fail
            all_goals go_ret
            exact ⟨by rw [e.out]; first | done | rfl, bdN hbl _⟩
        · have y3 : 144 ≤ Y := by omega
          have y4 : Y ≤ 191 := by omega
          by_cases m2 : m = 2
          · subst m2
            have e : Hid (fullB s i = false) := Lib.hid (by rw [F]; rw [if_neg h1, if_neg (by omega), if_neg (by omega)])
            clear F
            clear y1 y2
            go_enter Tryd.func67, Tryd.ntmps67
            go_upto_region 7 with fail
            go_cut [5] from 20 (fun v wx => v = .pointer (some ⟨w.heap.size, 0, none⟩) ∧ wx.cell? ⟨w.heap.size, 0, none⟩ = some (.int .u8 144) ∧ wx.cell? ⟨w.heap.size, 1, none⟩ = some (.int .u8 191) ∧ Below w.heap.size w wx)
            case first =>
              go_wp2_with fail
              go_meet
              exact ⟨rfl, newc w _ _ (by rfl), newc w _ _ (by rfl), (Below.refl _ _).alloc (Nat.le_refl _) _⟩
            case rest =>
              obtain ⟨rfl, hq0, hq1, hbl⟩ := hcut
              have r0 : ∀ n, (wc.drewN n).cell? ⟨w.heap.size, 0, none⟩ = some (.int .u8 144) := fun n => hq0
              have r1 : ∀ n, (wc.drewN n).cell? ⟨w.heap.size, 1, none⟩ = some (.int .u8 191) := fun n => hq1
              have qY : ∀ n, (wc.drewN n).cell? ⟨b, i + 1, none⟩ = some (.int .u8 Y) := fun n => (hbl.cell (p := ⟨b, i + 1, none⟩) (World.block_lt_of_cell? w ⟨b, _, none⟩ hcy)).trans hcy
              go_wp2_with fail
              go_quiet (fail)
              go_wp2_with fail
              all_goals go_ret
              exact ⟨by rw [e.out]; first | done | rfl, bdN hbl _⟩
          · have m3 : m = 3 := by omega
            subst m3
            obtain ⟨Z, hZ⟩ : ∃ Z, bAt s (i + 2) = Z := ⟨_, rfl⟩
            have hcz := cellZ hS (i := i + 2) (by have := HM.out; omega) Z hZ
            rw [hZ] at F
            clear hZ
            by_cases z1 : Z < 128
            · have z2 : Z ≤ 191 := by omega
              have e : Hid (fullB s i = true) := Lib.hid (by rw [F]; rw [if_neg h1, if_neg (by omega), if_pos ⟨by omega, .inl z1⟩])
              clear F
              clear y1 y2
              go_enter Tryd.func67, Tryd.ntmps67
              go_upto_region 7 with fail
              go_cut [5] from 20 (fun v wx => v = .pointer (some ⟨w.heap.size, 0, none⟩) ∧ wx.cell? ⟨w.heap.size, 0, none⟩ = some (.int .u8 144) ∧ wx.cell? ⟨w.heap.size, 1, none⟩ = some (.int .u8 191) ∧ Below w.heap.size w wx)
              case first =>
                go_wp2_with fail
                go_meet
                exact ⟨rfl, newc w _ _ (by rfl), newc w _ _ (by rfl), (Below.refl _ _).alloc (Nat.le_refl _) _⟩
              case rest =>
                obtain ⟨rfl, hq0, hq1, hbl⟩ := hcut
                have r0 : ∀ n, (wc.drewN n).cell? ⟨w.heap.size, 0, none⟩ = some (.int .u8 144) := fun n => hq0
                have r1 : ∀ n, (wc.drewN n).cell? ⟨w.heap.size, 1, none⟩ = some (.int .u8 191) := fun n => hq1
                have qY : ∀ n, (wc.drewN n).cell? ⟨b, i + 1, none⟩ = some (.int .u8 Y) := fun n => (hbl.cell (p := ⟨b, i + 1, none⟩) (World.block_lt_of_cell? w ⟨b, _, none⟩ hcy)).trans hcy
                have qZ : ∀ n, (wc.drewN n).cell? ⟨b, i + 2, none⟩ = some (.int .u8 Z) := fun n => (hbl.cell (p := ⟨b, i + 2, none⟩) (World.block_lt_of_cell? w ⟨b, _, none⟩ hcz)).trans hcz
                go_wp2_with fail
                go_quiet (fail)
                go_wp2_with fail
                all_goals go_ret
                exact ⟨by rw [e.out]; first | done | rfl, bdN hbl _⟩
            · by_cases z2 : 191 < Z
              · have z3 : 128 ≤ Z := by omega
                have e : Hid (fullB s i = true) := Lib.hid (by rw [F]; rw [if_neg h1, if_neg (by omega), if_pos ⟨by omega, .inr z2⟩])
                clear F
                clear y1 y2 z1
                go_enter Tryd.func67, Tryd.ntmps67
                go_upto_region 7 with fail
                go_cut [5] from 20 (fun v wx => v = .pointer (some ⟨w.heap.size, 0, none⟩) ∧ wx.cell? ⟨w.heap.size, 0, none⟩ = some (.int .u8 144) ∧ wx.cell? ⟨w.heap.size, 1, none⟩ = some (.int .u8 191) ∧ Below w.heap.size w wx)
                case first =>
                  go_wp2_with fail
                  go_meet
                  exact ⟨rfl, newc w _ _ (by rfl), newc w _ _ (by rfl), (Below.refl _ _).alloc (Nat.le_refl _) _⟩
                case rest =>
                  obtain ⟨rfl, hq0, hq1, hbl⟩ := hcut
                  have r0 : ∀ n, (wc.drewN n).cell? ⟨w.heap.size, 0, none⟩ = some (.int .u8 144) := fun n => hq0
                  have r1 : ∀ n, (wc.drewN n).cell? ⟨w.heap.size, 1, none⟩ = some (.int .u8 191) := fun n => hq1
                  have qY : ∀ n, (wc.drewN n).cell? ⟨b, i + 1, none⟩ = some (.int .u8 Y) := fun n => (hbl.cell (p := ⟨b, i + 1, none⟩) (World.block_lt_of_cell? w ⟨b, _, none⟩ hcy)).trans hcy
                  have qZ : ∀ n, (wc.drewN n).cell? ⟨b, i + 2, none⟩ = some (.int .u8 Z) := fun n => (hbl.cell (p := ⟨b, i + 2, none⟩) (World.block_lt_of_cell? w ⟨b, _, none⟩ hcz)).trans hcz
                  go_wp2_with fail
                  go_quiet (fail)
                  go_wp2_with fail
                  all_goals go_ret
                  exact ⟨by rw [e.out]; first | done | rfl, bdN hbl _⟩
              · have z3 : 128 ≤ Z := by omega
                have z4 : Z ≤ 191 := by omega
                have e : Hid (fullB s i = false) := Lib.hid (by rw [F]; rw [if_neg h1, if_neg (by omega), if_neg (by omega)])
                clear F
                clear y1 y2 z1 z2
                go_enter Tryd.func67, Tryd.ntmps67
                go_upto_region 7 with fail
                go_cut [5] from 20 (fun v wx => v = .pointer (some ⟨w.heap.size, 0, none⟩) ∧ wx.cell? ⟨w.heap.size, 0, none⟩ = some (.int .u8 144) ∧ wx.cell? ⟨w.heap.size, 1, none⟩ = some (.int .u8 191) ∧ Below w.heap.size w wx)
                case first =>
                  go_wp2_with fail
                  go_meet
                  exact ⟨rfl, newc w _ _ (by rfl), newc w _ _ (by rfl), (Below.refl _ _).alloc (Nat.le_refl _) _⟩
                case rest =>
                  obtain ⟨rfl, hq0, hq1, hbl⟩ := hcut
                  have r0 : ∀ n, (wc.drewN n).cell? ⟨w.heap.size, 0, none⟩ = some (.int .u8 144) := fun n => hq0
                  have r1 : ∀ n, (wc.drewN n).cell? ⟨w.heap.size, 1, none⟩ = some (.int .u8 191) := fun n => hq1
                  have qY : ∀ n, (wc.drewN n).cell? ⟨b, i + 1, none⟩ = some (.int .u8 Y) := fun n => (hbl.cell (p := ⟨b, i + 1, none⟩) (World.block_lt_of_cell? w ⟨b, _, none⟩ hcy)).trans hcy
                  have qZ : ∀ n, (wc.drewN n).cell? ⟨b, i + 2, none⟩ = some (.int .u8 Z) := fun n => (hbl.cell (p := ⟨b, i + 2, none⟩) (World.block_lt_of_cell? w ⟨b, _, none⟩ hcz)).trans hcz
                  go_wp2_with fail
                  go_quiet (fail)
                  go_wp2_with fail
                  all_goals go_ret
                  exact ⟨by rw [e.out]; first | done | rfl, bdN hbl _⟩

set_option maxRecDepth 100000 in
set_option maxHeartbeats 4000000 in
theorem full_7 (B : Nat) (s : ByteArray) (b i m cap : Nat) (X : Int) (w : World) (hm : m = s.size - i) (hi : i < s.size) (hs : s.size ≤ 100000000000) (hT : TabsB B w) (hS : Lib.Bytes w b 0 s) (hX : bAt s i = X) (hx0 : 241 ≤ X) (hx1 : X ≤ 243) :
    Calls Tryd.prog 67 #[.slice (some ⟨b, i, none⟩) m cap] w fun e w' => e = .returned (.bool (fullB s i)) ∧ Below w.heap.size w w' := by
  have hc := cellZ hS hi X hX
  have ht : w.cell? ⟨3, X.toNat, none⟩ = some (.int .u8 4) := by
    have h := hT.1.1 X.toNat (by omega)
    rw [h]
    have : Lib.firstT X.toNat = 4 := by
      unfold Lib.firstT
      repeat' split
      all_goals omega
    rw [this]; rfl
  have hl : uLen X = 4 := by
    unfold uLen
    repeat' split
    all_goals omega
  have h7 : bits .and .u8 4 7 = 4 := by decide
  have hlo : uLo X = 128 := by
    unfold uLo
    repeat' split
    all_goals omega
  have hhi : uHi X = 191 := by
    unfold uHi
    repeat' split
    all_goals omega
  have hac := (hT.1.2 0 (by omega)).1
  have had := (hT.1.2 0 (by omega)).2
  rw [show Lib.accLo 0 = 128 from rfl, show 2 * 0 = 0 from rfl] at hac
  rw [show Lib.accHi 0 = 191 from rfl, show 2 * 0 + 1 = 1 from rfl] at had
  have hm1 : (0 : Int) < (m : Int) := by omega
  have F : fullB s i = if 4 ≤ m then true else if 1 < m ∧ (bAt s (i + 1) < 128 ∨ 191 < bAt s (i + 1)) then true else if 2 < m ∧ (bAt s (i + 2) < 128 ∨ 191 < bAt s (i + 2)) then true else false := by
    unfold fullB; dsimp only; rw [hX, hl, hlo, hhi, hm]
  have HM := Lib.hid hm
  clear hl hX hlo hhi hm hT
  by_cases h1 : 4 ≤ m
  · have e : Hid (fullB s i = true) := Lib.hid (by rw [F, if_pos h1])
    clear F
    go_enter Tryd.func67, Tryd.ntmps67
    go_wp2_with fail
    all_goals go_ret
    exact ⟨by rw [e.out]; first | done | rfl, Below.refl _ _⟩
  · by_cases m1 : m = 1
    · subst m1
      clear HM hm1
      have e : Hid (fullB s i = false) := Lib.hid (by rw [F]; rw [if_neg (by omega), if_neg (by omega), if_neg (by omega)])
      clear F
      go_enter Tryd.func67, Tryd.ntmps67
      go_upto_region 7 with fail
      go_cut [5] from 20 (fun v wx => v = .pointer (some ⟨w.heap.size, 0, none⟩) ∧ wx.cell? ⟨w.heap.size, 0, none⟩ = some (.int .u8 128) ∧ wx.cell? ⟨w.heap.size, 1, none⟩ = some (.int .u8 191) ∧ Below w.heap.size w wx)
      case first =>
        go_wp2_with fail
        go_meet
        exact ⟨rfl, newc w _ _ (by rfl), newc w _ _ (by rfl), (Below.refl _ _).alloc (Nat.le_refl _) _⟩
      case rest =>
        obtain ⟨rfl, hq0, hq1, hbl⟩ := hcut
        have r0 : ∀ n, (wc.drewN n).cell? ⟨w.heap.size, 0, none⟩ = some (.int .u8 128) := fun n => hq0
        have r1 : ∀ n, (wc.drewN n).cell? ⟨w.heap.size, 1, none⟩ = some (.int .u8 191) := fun n => hq1
        go_wp2_with fail
        go_quiet (fail)
        go_wp2_with fail
        all_goals go_ret
        exact ⟨by rw [e.out]; first | done | rfl, bdN hbl _⟩
    · obtain ⟨Y, hY⟩ : ∃ Y, bAt s (i + 1) = Y := ⟨_, rfl⟩
      have hcy := cellZ hS (i := i + 1) (by have := HM.out; omega) Y hY
      have hm2 : (1 : Int) < (m : Int) := by omega
      rw [hY] at F
      clear hY
      by_cases y1 : Y < 128
      · have y2 : Y ≤ 191 := by omega
        have e : Hid (fullB s i = true) := Lib.hid (by rw [F]; rw [if_neg h1, if_pos ⟨by omega, .inl y1⟩])
        clear F
        go_enter Tryd.func67, Tryd.ntmps67
        go_upto_region 7 with fail
        go_cut [5] from 20 (fun v wx => v = .pointer (some ⟨w.heap.size, 0, none⟩) ∧ wx.cell? ⟨w.heap.size, 0, none⟩ = some (.int .u8 128) ∧ wx.cell? ⟨w.heap.size, 1, none⟩ = some (.int .u8 191) ∧ Below w.heap.size w wx)
        case first =>
          go_wp2_with fail
          go_meet
          exact ⟨rfl, newc w _ _ (by rfl), newc w _ _ (by rfl), (Below.refl _ _).alloc (Nat.le_refl _) _⟩
        case rest =>
          obtain ⟨rfl, hq0, hq1, hbl⟩ := hcut
          have r0 : ∀ n, (wc.drewN n).cell? ⟨w.heap.size, 0, none⟩ = some (.int .u8 128) := fun n => hq0
          have r1 : ∀ n, (wc.drewN n).cell? ⟨w.heap.size, 1, none⟩ = some (.int .u8 191) := fun n => hq1
          have qY : ∀ n, (wc.drewN n).cell? ⟨b, i + 1, none⟩ = some (.int .u8 Y) := fun n => (hbl.cell (p := ⟨b, i + 1, none⟩) (World.block_lt_of_cell? w ⟨b, _, none⟩ hcy)).trans hcy
          go_wp2_with fail
          go_quiet (fail)
          go_wp2_with fail
          all_goals go_ret
          exact ⟨by rw [e.out]; first | done | rfl, bdN hbl _⟩
      · by_cases y2 : 191 < Y
        · have y3 : 128 ≤ Y := by omega
          have e : Hid (fullB s i = true) := Lib.hid (by rw [F]; rw [if_neg h1, if_pos ⟨by omega, .inr y2⟩])
          clear F
          clear y1
          go_enter Tryd.func67, Tryd.ntmps67
          go_upto_region 7 with fail
          go_cut [5] from 20 (fun v wx => v = .pointer (some ⟨w.heap.size, 0, none⟩) ∧ wx.cell? ⟨w.heap.size, 0, none⟩ = some (.int .u8 128) ∧ wx.cell? ⟨w.heap.size, 1, none⟩ = some (.int .u8 191) ∧ Below w.heap.size w wx)
          case first =>
            go_wp2_with fail
            go_meet
            exact ⟨rfl, newc w _ _ (by rfl), newc w _ _ (by rfl), (Below.refl _ _).alloc (Nat.le_refl _) _⟩
          case rest =>
            obtain ⟨rfl, hq0, hq1, hbl⟩ := hcut
            have r0 : ∀ n, (wc.drewN n).cell? ⟨w.heap.size, 0, none⟩ = some (.int .u8 128) := fun n => hq0
            have r1 : ∀ n, (wc.drewN n).cell? ⟨w.heap.size, 1, none⟩ = some (.int .u8 191) := fun n => hq1
            have qY : ∀ n, (wc.drewN n).cell? ⟨b, i + 1, none⟩ = some (.int .u8 Y) := fun n => (hbl.cell (p := ⟨b, i + 1, none⟩) (World.block_lt_of_cell? w ⟨b, _, none⟩ hcy)).trans hcy
            go_wp2_with fail
            go_quiet (fail)
            go_wp2_with fail
            all_goals go_ret
            exact ⟨by rw [e.out]; first | done | rfl, bdN hbl _⟩
        · have y3 : 128 ≤ Y := by omega
          have y4 : Y ≤ 191 := by omega
          by_cases m2 : m = 2
          · subst m2
            have e : Hid (fullB s i = false) := Lib.hid (by rw [F]; rw [if_neg h1, if_neg (by omega), if_neg (by omega)])
            clear F
            clear y1 y2
            go_enter Tryd.func67, Tryd.ntmps67
            go_upto_region 7 with fail
            go_cut [5] from 20 (fun v wx => v = .pointer (some ⟨w.heap.size, 0, none⟩) ∧ wx.cell? ⟨w.heap.size, 0, none⟩ = some (.int .u8 128) ∧ wx.cell? ⟨w.heap.size, 1, none⟩ = some (.int .u8 191) ∧ Below w.heap.size w wx)
            case first =>
              go_wp2_with fail
              go_meet
              exact ⟨rfl, newc w _ _ (by rfl), newc w _ _ (by rfl), (Below.refl _ _).alloc (Nat.le_refl _) _⟩
            case rest =>
              obtain ⟨rfl, hq0, hq1, hbl⟩ := hcut
              have r0 : ∀ n, (wc.drewN n).cell? ⟨w.heap.size, 0, none⟩ = some (.int .u8 128) := fun n => hq0
              have r1 : ∀ n, (wc.drewN n).cell? ⟨w.heap.size, 1, none⟩ = some (.int .u8 191) := fun n => hq1
              have qY : ∀ n, (wc.drewN n).cell? ⟨b, i + 1, none⟩ = some (.int .u8 Y) := fun n => (hbl.cell (p := ⟨b, i + 1, none⟩) (World.block_lt_of_cell? w ⟨b, _, none⟩ hcy)).trans hcy
              go_wp2_with fail
              go_quiet (fail)
              go_wp2_with fail
              all_goals go_ret
              exact ⟨by rw [e.out]; first | done | rfl, bdN hbl _⟩
          · have m3 : m = 3 := by omega
            subst m3
            obtain ⟨Z, hZ⟩ : ∃ Z, bAt s (i + 2) = Z := ⟨_, rfl⟩
            have hcz := cellZ hS (i := i + 2) (by have := HM.out; omega) Z hZ
            rw [hZ] at F
            clear hZ
            by_cases z1 : Z < 128
            · have z2 : Z ≤ 191 := by omega
              have e : Hid (fullB s i = true) := Lib.hid (by rw [F]; rw [if_neg h1, if_neg (by omega), if_pos ⟨by omega, .inl z1⟩])
              clear F
              clear y1 y2
              go_enter Tryd.func67, Tryd.ntmps67
              go_upto_region 7 with fail
              go_cut [5] from 20 (fun v wx => v = .pointer (some ⟨w.heap.size, 0, none⟩) ∧ wx.cell? ⟨w.heap.size, 0, none⟩ = some (.int .u8 128) ∧ wx.cell? ⟨w.heap.size, 1, none⟩ = some (.int .u8 191) ∧ Below w.heap.size w wx)
              case first =>
                go_wp2_with fail
                go_meet
                exact ⟨rfl, newc w _ _ (by rfl), newc w _ _ (by rfl), (Below.refl _ _).alloc (Nat.le_refl _) _⟩
              case rest =>
                obtain ⟨rfl, hq0, hq1, hbl⟩ := hcut
                have r0 : ∀ n, (wc.drewN n).cell? ⟨w.heap.size, 0, none⟩ = some (.int .u8 128) := fun n => hq0
                have r1 : ∀ n, (wc.drewN n).cell? ⟨w.heap.size, 1, none⟩ = some (.int .u8 191) := fun n => hq1
                have qY : ∀ n, (wc.drewN n).cell? ⟨b, i + 1, none⟩ = some (.int .u8 Y) := fun n => (hbl.cell (p := ⟨b, i + 1, none⟩) (World.block_lt_of_cell? w ⟨b, _, none⟩ hcy)).trans hcy
                have qZ : ∀ n, (wc.drewN n).cell? ⟨b, i + 2, none⟩ = some (.int .u8 Z) := fun n => (hbl.cell (p := ⟨b, i + 2, none⟩) (World.block_lt_of_cell? w ⟨b, _, none⟩ hcz)).trans hcz
                go_wp2_with fail
                go_quiet (fail)
                go_wp2_with fail
                all_goals go_ret
                exact ⟨by rw [e.out]; first | done | rfl, bdN hbl _⟩
            · by_cases z2 : 191 < Z
              · have z3 : 128 ≤ Z := by omega
                have e : Hid (fullB s i = true) := Lib.hid (by rw [F]; rw [if_neg h1, if_neg (by omega), if_pos ⟨by omega, .inr z2⟩])
                clear F
                clear y1 y2 z1
                go_enter Tryd.func67, Tryd.ntmps67
                go_upto_region 7 with fail
                go_cut [5] from 20 (fun v wx => v = .pointer (some ⟨w.heap.size, 0, none⟩) ∧ wx.cell? ⟨w.heap.size, 0, none⟩ = some (.int .u8 128) ∧ wx.cell? ⟨w.heap.size, 1, none⟩ = some (.int .u8 191) ∧ Below w.heap.size w wx)
                case first =>
                  go_wp2_with fail
                  go_meet
                  exact ⟨rfl, newc w _ _ (by rfl), newc w _ _ (by rfl), (Below.refl _ _).alloc (Nat.le_refl _) _⟩
                case rest =>
                  obtain ⟨rfl, hq0, hq1, hbl⟩ := hcut
                  have r0 : ∀ n, (wc.drewN n).cell? ⟨w.heap.size, 0, none⟩ = some (.int .u8 128) := fun n => hq0
                  have r1 : ∀ n, (wc.drewN n).cell? ⟨w.heap.size, 1, none⟩ = some (.int .u8 191) := fun n => hq1
                  have qY : ∀ n, (wc.drewN n).cell? ⟨b, i + 1, none⟩ = some (.int .u8 Y) := fun n => (hbl.cell (p := ⟨b, i + 1, none⟩) (World.block_lt_of_cell? w ⟨b, _, none⟩ hcy)).trans hcy
                  have qZ : ∀ n, (wc.drewN n).cell? ⟨b, i + 2, none⟩ = some (.int .u8 Z) := fun n => (hbl.cell (p := ⟨b, i + 2, none⟩) (World.block_lt_of_cell? w ⟨b, _, none⟩ hcz)).trans hcz
                  go_wp2_with fail
                  go_quiet (fail)
                  go_wp2_with fail
                  all_goals go_ret
                  exact ⟨by rw [e.out]; first | done | rfl, bdN hbl _⟩
              · have z3 : 128 ≤ Z := by omega
                have z4 : Z ≤ 191 := by omega
                have e : Hid (fullB s i = false) := Lib.hid (by rw [F]; rw [if_neg h1, if_neg (by omega), if_neg (by omega)])
                clear F
                clear y1 y2 z1 z2
                go_enter Tryd.func67, Tryd.ntmps67
                go_upto_region 7 with fail
                go_cut [5] from 20 (fun v wx => v = .pointer (some ⟨w.heap.size, 0, none⟩) ∧ wx.cell? ⟨w.heap.size, 0, none⟩ = some (.int .u8 128) ∧ wx.cell? ⟨w.heap.size, 1, none⟩ = some (.int .u8 191) ∧ Below w.heap.size w wx)
                case first =>
                  go_wp2_with fail
                  go_meet
                  exact ⟨rfl, newc w _ _ (by rfl), newc w _ _ (by rfl), (Below.refl _ _).alloc (Nat.le_refl _) _⟩
                case rest =>
                  obtain ⟨rfl, hq0, hq1, hbl⟩ := hcut
                  have r0 : ∀ n, (wc.drewN n).cell? ⟨w.heap.size, 0, none⟩ = some (.int .u8 128) := fun n => hq0
                  have r1 : ∀ n, (wc.drewN n).cell? ⟨w.heap.size, 1, none⟩ = some (.int .u8 191) := fun n => hq1
                  have qY : ∀ n, (wc.drewN n).cell? ⟨b, i + 1, none⟩ = some (.int .u8 Y) := fun n => (hbl.cell (p := ⟨b, i + 1, none⟩) (World.block_lt_of_cell? w ⟨b, _, none⟩ hcy)).trans hcy
                  have qZ : ∀ n, (wc.drewN n).cell? ⟨b, i + 2, none⟩ = some (.int .u8 Z) := fun n => (hbl.cell (p := ⟨b, i + 2, none⟩) (World.block_lt_of_cell? w ⟨b, _, none⟩ hcz)).trans hcz
                  go_wp2_with fail
                  go_quiet (fail)
                  go_wp2_with fail
                  all_goals go_ret
                  exact ⟨by rw [e.out]; first | done | rfl, bdN hbl _⟩

set_option maxRecDepth 100000 in
set_option maxHeartbeats 4000000 in
theorem full_8 (B : Nat) (s : ByteArray) (b i m cap : Nat) (X : Int) (w : World) (hm : m = s.size - i) (hi : i < s.size) (hs : s.size ≤ 100000000000) (hT : TabsB B w) (hS : Lib.Bytes w b 0 s) (hX : bAt s i = X) (hx0 : 244 ≤ X) (hx1 : X ≤ 244) :
    Calls Tryd.prog 67 #[.slice (some ⟨b, i, none⟩) m cap] w fun e w' => e = .returned (.bool (fullB s i)) ∧ Below w.heap.size w w' := by
  have hc := cellZ hS hi X hX
  have ht : w.cell? ⟨3, X.toNat, none⟩ = some (.int .u8 68) := by
    have h := hT.1.1 X.toNat (by omega)
    rw [h]
    have : Lib.firstT X.toNat = 68 := by
      unfold Lib.firstT
      repeat' split
      all_goals omega
    rw [this]; rfl
  have hl : uLen X = 4 := by
    unfold uLen
    repeat' split
    all_goals omega
  have h7 : bits .and .u8 68 7 = 4 := by decide
  have hlo : uLo X = 128 := by
    unfold uLo
    repeat' split
    all_goals omega
  have hhi : uHi X = 143 := by
    unfold uHi
    repeat' split
    all_goals omega
  have hac := (hT.1.2 4 (by omega)).1
  have had := (hT.1.2 4 (by omega)).2
  rw [show Lib.accLo 4 = 128 from rfl, show 2 * 4 = 8 from rfl] at hac
  rw [show Lib.accHi 4 = 143 from rfl, show 2 * 4 + 1 = 9 from rfl] at had
  have hm1 : (0 : Int) < (m : Int) := by omega
  have F : fullB s i = if 4 ≤ m then true else if 1 < m ∧ (bAt s (i + 1) < 128 ∨ 143 < bAt s (i + 1)) then true else if 2 < m ∧ (bAt s (i + 2) < 128 ∨ 191 < bAt s (i + 2)) then true else false := by
    unfold fullB; dsimp only; rw [hX, hl, hlo, hhi, hm]
  have HM := Lib.hid hm
  clear hl hX hlo hhi hm hT
  by_cases h1 : 4 ≤ m
  · have e : Hid (fullB s i = true) := Lib.hid (by rw [F, if_pos h1])
    clear F
    go_enter Tryd.func67, Tryd.ntmps67
    go_wp2_with fail
    all_goals go_ret
    exact ⟨by rw [e.out]; first | done | rfl, Below.refl _ _⟩
  · by_cases m1 : m = 1
    · subst m1
      clear HM hm1
      have e : Hid (fullB s i = false) := Lib.hid (by rw [F]; rw [if_neg (by omega), if_neg (by omega), if_neg (by omega)])
      clear F
      go_enter Tryd.func67, Tryd.ntmps67
      go_upto_region 7 with fail
      go_cut [5] from 20 (fun v wx => v = .pointer (some ⟨w.heap.size, 0, none⟩) ∧ wx.cell? ⟨w.heap.size, 0, none⟩ = some (.int .u8 128) ∧ wx.cell? ⟨w.heap.size, 1, none⟩ = some (.int .u8 143) ∧ Below w.heap.size w wx)
      case first =>
        go_wp2_with fail
        go_meet
        exact ⟨rfl, newc w _ _ (by rfl), newc w _ _ (by rfl), (Below.refl _ _).alloc (Nat.le_refl _) _⟩
      case rest =>
        obtain ⟨rfl, hq0, hq1, hbl⟩ := hcut
        have r0 : ∀ n, (wc.drewN n).cell? ⟨w.heap.size, 0, none⟩ = some (.int .u8 128) := fun n => hq0
        have r1 : ∀ n, (wc.drewN n).cell? ⟨w.heap.size, 1, none⟩ = some (.int .u8 143) := fun n => hq1
        go_wp2_with fail
        go_quiet (fail)
        go_wp2_with fail
        all_goals go_ret
        exact ⟨by rw [e.out]; first | done | rfl, bdN hbl _⟩
    · obtain ⟨Y, hY⟩ : ∃ Y, bAt s (i + 1) = Y := ⟨_, rfl⟩
      have hcy := cellZ hS (i := i + 1) (by have := HM.out; omega) Y hY
      have hm2 : (1 : Int) < (m : Int) := by omega
      rw [hY] at F
      clear hY
      by_cases y1 : Y < 128
      · have y2 : Y ≤ 143 := by omega
        have e : Hid (fullB s i = true) := Lib.hid (by rw [F]; rw [if_neg h1, if_pos ⟨by omega, .inl y1⟩])
        clear F
        go_enter Tryd.func67, Tryd.ntmps67
        go_upto_region 7 with fail
        go_cut [5] from 20 (fun v wx => v = .pointer (some ⟨w.heap.size, 0, none⟩) ∧ wx.cell? ⟨w.heap.size, 0, none⟩ = some (.int .u8 128) ∧ wx.cell? ⟨w.heap.size, 1, none⟩ = some (.int .u8 143) ∧ Below w.heap.size w wx)
        case first =>
          go_wp2_with fail
          go_meet
          exact ⟨rfl, newc w _ _ (by rfl), newc w _ _ (by rfl), (Below.refl _ _).alloc (Nat.le_refl _) _⟩
        case rest =>
          obtain ⟨rfl, hq0, hq1, hbl⟩ := hcut
          have r0 : ∀ n, (wc.drewN n).cell? ⟨w.heap.size, 0, none⟩ = some (.int .u8 128) := fun n => hq0
          have r1 : ∀ n, (wc.drewN n).cell? ⟨w.heap.size, 1, none⟩ = some (.int .u8 143) := fun n => hq1
          have qY : ∀ n, (wc.drewN n).cell? ⟨b, i + 1, none⟩ = some (.int .u8 Y) := fun n => (hbl.cell (p := ⟨b, i + 1, none⟩) (World.block_lt_of_cell? w ⟨b, _, none⟩ hcy)).trans hcy
          go_wp2_with fail
          go_quiet (fail)
          go_wp2_with fail
          all_goals go_ret
          exact ⟨by rw [e.out]; first | done | rfl, bdN hbl _⟩
      · by_cases y2 : 143 < Y
        · have y3 : 128 ≤ Y := by omega
          have e : Hid (fullB s i = true) := Lib.hid (by rw [F]; rw [if_neg h1, if_pos ⟨by omega, .inr y2⟩])
          clear F
          clear y1
          go_enter Tryd.func67, Tryd.ntmps67
          go_upto_region 7 with fail
          go_cut [5] from 20 (fun v wx => v = .pointer (some ⟨w.heap.size, 0, none⟩) ∧ wx.cell? ⟨w.heap.size, 0, none⟩ = some (.int .u8 128) ∧ wx.cell? ⟨w.heap.size, 1, none⟩ = some (.int .u8 143) ∧ Below w.heap.size w wx)
          case first =>
            go_wp2_with fail
            go_meet
            exact ⟨rfl, newc w _ _ (by rfl), newc w _ _ (by rfl), (Below.refl _ _).alloc (Nat.le_refl _) _⟩
          case rest =>
            obtain ⟨rfl, hq0, hq1, hbl⟩ := hcut
            have r0 : ∀ n, (wc.drewN n).cell? ⟨w.heap.size, 0, none⟩ = some (.int .u8 128) := fun n => hq0
            have r1 : ∀ n, (wc.drewN n).cell? ⟨w.heap.size, 1, none⟩ = some (.int .u8 143) := fun n => hq1
            have qY : ∀ n, (wc.drewN n).cell? ⟨b, i + 1, none⟩ = some (.int .u8 Y) := fun n => (hbl.cell (p := ⟨b, i + 1, none⟩) (World.block_lt_of_cell? w ⟨b, _, none⟩ hcy)).trans hcy
            go_wp2_with fail
            go_quiet (fail)
            go_wp2_with fail
            all_goals go_ret
            exact ⟨by rw [e.out]; first | done | rfl, bdN hbl _⟩
        · have y3 : 128 ≤ Y := by omega
          have y4 : Y ≤ 143 := by omega
          by_cases m2 : m = 2
          · subst m2
            have e : Hid (fullB s i = false) := Lib.hid (by rw [F]; rw [if_neg h1, if_neg (by omega), if_neg (by omega)])
            clear F
            clear y1 y2
            go_enter Tryd.func67, Tryd.ntmps67
            go_upto_region 7 with fail
            go_cut [5] from 20 (fun v wx => v = .pointer (some ⟨w.heap.size, 0, none⟩) ∧ wx.cell? ⟨w.heap.size, 0, none⟩ = some (.int .u8 128) ∧ wx.cell? ⟨w.heap.size, 1, none⟩ = some (.int .u8 143) ∧ Below w.heap.size w wx)
            case first =>
              go_wp2_with fail
              go_meet
              exact ⟨rfl, newc w _ _ (by rfl), newc w _ _ (by rfl), (Below.refl _ _).alloc (Nat.le_refl _) _⟩
            case rest =>
              obtain ⟨rfl, hq0, hq1, hbl⟩ := hcut
              have r0 : ∀ n, (wc.drewN n).cell? ⟨w.heap.size, 0, none⟩ = some (.int .u8 128) := fun n => hq0
              have r1 : ∀ n, (wc.drewN n).cell? ⟨w.heap.size, 1, none⟩ = some (.int .u8 143) := fun n => hq1
              have qY : ∀ n, (wc.drewN n).cell? ⟨b, i + 1, none⟩ = some (.int .u8 Y) := fun n => (hbl.cell (p := ⟨b, i + 1, none⟩) (World.block_lt_of_cell? w ⟨b, _, none⟩ hcy)).trans hcy
              go_wp2_with fail
              go_quiet (fail)
              go_wp2_with fail
              all_goals go_ret
              exact ⟨by rw [e.out]; first | done | rfl, bdN hbl _⟩
          · have m3 : m = 3 := by omega
            subst m3
            obtain ⟨Z, hZ⟩ : ∃ Z, bAt s (i + 2) = Z := ⟨_, rfl⟩
            have hcz := cellZ hS (i := i + 2) (by have := HM.out; omega) Z hZ
            rw [hZ] at F
            clear hZ
            by_cases z1 : Z < 128
            · have z2 : Z ≤ 191 := by omega
              have e : Hid (fullB s i = true) := Lib.hid (by rw [F]; rw [if_neg h1, if_neg (by omega), if_pos ⟨by omega, .inl z1⟩])
              clear F
              clear y1 y2
              go_enter Tryd.func67, Tryd.ntmps67
              go_upto_region 7 with fail
              go_cut [5] from 20 (fun v wx => v = .pointer (some ⟨w.heap.size, 0, none⟩) ∧ wx.cell? ⟨w.heap.size, 0, none⟩ = some (.int .u8 128) ∧ wx.cell? ⟨w.heap.size, 1, none⟩ = some (.int .u8 143) ∧ Below w.heap.size w wx)
              case first =>
                go_wp2_with fail
                go_meet
                exact ⟨rfl, newc w _ _ (by rfl), newc w _ _ (by rfl), (Below.refl _ _).alloc (Nat.le_refl _) _⟩
              case rest =>
                obtain ⟨rfl, hq0, hq1, hbl⟩ := hcut
                have r0 : ∀ n, (wc.drewN n).cell? ⟨w.heap.size, 0, none⟩ = some (.int .u8 128) := fun n => hq0
                have r1 : ∀ n, (wc.drewN n).cell? ⟨w.heap.size, 1, none⟩ = some (.int .u8 143) := fun n => hq1
                have qY : ∀ n, (wc.drewN n).cell? ⟨b, i + 1, none⟩ = some (.int .u8 Y) := fun n => (hbl.cell (p := ⟨b, i + 1, none⟩) (World.block_lt_of_cell? w ⟨b, _, none⟩ hcy)).trans hcy
                have qZ : ∀ n, (wc.drewN n).cell? ⟨b, i + 2, none⟩ = some (.int .u8 Z) := fun n => (hbl.cell (p := ⟨b, i + 2, none⟩) (World.block_lt_of_cell? w ⟨b, _, none⟩ hcz)).trans hcz
                go_wp2_with fail
                go_quiet (fail)
                go_wp2_with fail
                all_goals go_ret
                exact ⟨by rw [e.out]; first | done | rfl, bdN hbl _⟩
            · by_cases z2 : 191 < Z
              · have z3 : 128 ≤ Z := by omega
                have e : Hid (fullB s i = true) := Lib.hid (by rw [F]; rw [if_neg h1, if_neg (by omega), if_pos ⟨by omega, .inr z2⟩])
                clear F
                clear y1 y2 z1
                go_enter Tryd.func67, Tryd.ntmps67
                go_upto_region 7 with fail
                go_cut [5] from 20 (fun v wx => v = .pointer (some ⟨w.heap.size, 0, none⟩) ∧ wx.cell? ⟨w.heap.size, 0, none⟩ = some (.int .u8 128) ∧ wx.cell? ⟨w.heap.size, 1, none⟩ = some (.int .u8 143) ∧ Below w.heap.size w wx)
                case first =>
                  go_wp2_with fail
                  go_meet
                  exact ⟨rfl, newc w _ _ (by rfl), newc w _ _ (by rfl), (Below.refl _ _).alloc (Nat.le_refl _) _⟩
                case rest =>
                  obtain ⟨rfl, hq0, hq1, hbl⟩ := hcut
                  have r0 : ∀ n, (wc.drewN n).cell? ⟨w.heap.size, 0, none⟩ = some (.int .u8 128) := fun n => hq0
                  have r1 : ∀ n, (wc.drewN n).cell? ⟨w.heap.size, 1, none⟩ = some (.int .u8 143) := fun n => hq1
                  have qY : ∀ n, (wc.drewN n).cell? ⟨b, i + 1, none⟩ = some (.int .u8 Y) := fun n => (hbl.cell (p := ⟨b, i + 1, none⟩) (World.block_lt_of_cell? w ⟨b, _, none⟩ hcy)).trans hcy
                  have qZ : ∀ n, (wc.drewN n).cell? ⟨b, i + 2, none⟩ = some (.int .u8 Z) := fun n => (hbl.cell (p := ⟨b, i + 2, none⟩) (World.block_lt_of_cell? w ⟨b, _, none⟩ hcz)).trans hcz
                  go_wp2_with fail
                  go_quiet (fail)
                  go_wp2_with fail
                  all_goals go_ret
                  exact ⟨by rw [e.out]; first | done | rfl, bdN hbl _⟩
              · have z3 : 128 ≤ Z := by omega
                have z4 : Z ≤ 191 := by omega
                have e : Hid (fullB s i = false) := Lib.hid (by rw [F]; rw [if_neg h1, if_neg (by omega), if_neg (by omega)])
                clear F
                clear y1 y2 z1 z2
                go_enter Tryd.func67, Tryd.ntmps67
                go_upto_region 7 with fail
                go_cut [5] from 20 (fun v wx => v = .pointer (some ⟨w.heap.size, 0, none⟩) ∧ wx.cell? ⟨w.heap.size, 0, none⟩ = some (.int .u8 128) ∧ wx.cell? ⟨w.heap.size, 1, none⟩ = some (.int .u8 143) ∧ Below w.heap.size w wx)
                case first =>
                  go_wp2_with fail
                  go_meet
                  exact ⟨rfl, newc w _ _ (by rfl), newc w _ _ (by rfl), (Below.refl _ _).alloc (Nat.le_refl _) _⟩
                case rest =>
                  obtain ⟨rfl, hq0, hq1, hbl⟩ := hcut
                  have r0 : ∀ n, (wc.drewN n).cell? ⟨w.heap.size, 0, none⟩ = some (.int .u8 128) := fun n => hq0
                  have r1 : ∀ n, (wc.drewN n).cell? ⟨w.heap.size, 1, none⟩ = some (.int .u8 143) := fun n => hq1
                  have qY : ∀ n, (wc.drewN n).cell? ⟨b, i + 1, none⟩ = some (.int .u8 Y) := fun n => (hbl.cell (p := ⟨b, i + 1, none⟩) (World.block_lt_of_cell? w ⟨b, _, none⟩ hcy)).trans hcy
                  have qZ : ∀ n, (wc.drewN n).cell? ⟨b, i + 2, none⟩ = some (.int .u8 Z) := fun n => (hbl.cell (p := ⟨b, i + 2, none⟩) (World.block_lt_of_cell? w ⟨b, _, none⟩ hcz)).trans hcz
                  go_wp2_with fail
                  go_quiet (fail)
                  go_wp2_with fail
                  all_goals go_ret
                  exact ⟨by rw [e.out]; first | done | rfl, bdN hbl _⟩

set_option maxRecDepth 100000 in
set_option maxHeartbeats 4000000 in
theorem full_9 (B : Nat) (s : ByteArray) (b i m cap : Nat) (X : Int) (w : World) (hm : m = s.size - i) (hi : i < s.size) (hs : s.size ≤ 100000000000) (hT : TabsB B w) (hS : Lib.Bytes w b 0 s) (hX : bAt s i = X) (hx0 : 245 ≤ X) (hx1 : X ≤ 255) :
    Calls Tryd.prog 67 #[.slice (some ⟨b, i, none⟩) m cap] w fun e w' => e = .returned (.bool (fullB s i)) ∧ Below w.heap.size w w' := by
  have hc := cellZ hS hi X hX
  have ht : w.cell? ⟨3, X.toNat, none⟩ = some (.int .u8 241) := by
    have h := hT.1.1 X.toNat (by omega)
    rw [h]
    have : Lib.firstT X.toNat = 241 := by
      unfold Lib.firstT
      repeat' split
      all_goals omega
    rw [this]; rfl
  have hl : uLen X = 0 := by
    unfold uLen
    repeat' split
    all_goals omega
  have h7 : bits .and .u8 241 7 = 1 := by decide
  have e : Hid (fullB s i = true) := Lib.hid (by unfold fullB; dsimp only; rw [hX, hl, if_pos (by omega)])
  have hm1 : (0 : Int) < (m : Int) := by omega
  clear hl hX hm hT
  go_enter Tryd.func67, Tryd.ntmps67
  go_wp2_with fail
  all_goals go_ret
  exact ⟨by rw [e.out]; first | done | rfl, Below.refl _ _⟩
/-- Is a character whole: the library's own word. -/
theorem full_any (B : Nat) (s : ByteArray) (b i m cap : Nat) (w : World) (hm : m = s.size - i) (hi : i < s.size) (hs : s.size ≤ 100000000000) (hT : TabsB B w) (hS : Lib.Bytes w b 0 s) (hX128 : 128 ≤ bAt s i) :
    Calls Tryd.prog 67 #[.slice (some ⟨b, i, none⟩) m cap] w fun e w' => e = .returned (.bool (fullB s i)) ∧ Below w.heap.size w w' := by
  obtain ⟨X, hX⟩ : ∃ X, bAt s i = X := ⟨_, rfl⟩
  have h1 := bAt_le s i
  rw [hX] at hX128 h1
  have hcl : (128 ≤ X ∧ X ≤ 193) ∨ (194 ≤ X ∧ X ≤ 223) ∨ (224 ≤ X ∧ X ≤ 224) ∨ (225 ≤ X ∧ X ≤ 236) ∨ (237 ≤ X ∧ X ≤ 237) ∨ (238 ≤ X ∧ X ≤ 239) ∨ (240 ≤ X ∧ X ≤ 240) ∨ (241 ≤ X ∧ X ≤ 243) ∨ (244 ≤ X ∧ X ≤ 244) ∨ (245 ≤ X ∧ X ≤ 255) := by omega
  rcases hcl with ⟨x0, x1⟩ | ⟨x0, x1⟩ | ⟨x0, x1⟩ | ⟨x0, x1⟩ | ⟨x0, x1⟩ | ⟨x0, x1⟩ | ⟨x0, x1⟩ | ⟨x0, x1⟩ | ⟨x0, x1⟩ | ⟨x0, x1⟩
  · exact full_0 B s b i m cap X w hm hi hs hT hS hX x0 x1
  · exact full_1 B s b i m cap X w hm hi hs hT hS hX x0 x1
  · exact full_2 B s b i m cap X w hm hi hs hT hS hX x0 x1
  · exact full_3 B s b i m cap X w hm hi hs hT hS hX x0 x1
  · exact full_4 B s b i m cap X w hm hi hs hT hS hX x0 x1
  · exact full_5 B s b i m cap X w hm hi hs hT hS hX x0 x1
  · exact full_6 B s b i m cap X w hm hi hs hT hS hX x0 x1
  · exact full_7 B s b i m cap X w hm hi hs hT hS hX x0 x1
  · exact full_8 B s b i m cap X w hm hi hs hT hS hX x0 x1
  · exact full_9 B s b i m cap X w hm hi hs hT hS hX x0 x1
end Go.Proofs.YtokhmhbjbclcoaaDoor

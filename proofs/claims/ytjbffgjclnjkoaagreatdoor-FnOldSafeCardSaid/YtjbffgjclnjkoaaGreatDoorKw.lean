/- Joined texts: Wd, Ty, Kp. -/
import Derived.Test.YtjbffgjclnjkoaaGreatDoorR1
import Derived.Test.YtjbffgjclnjkoaaGreatDoorUt
import Derived.Test.YtjbffgjclnjkoaaGreatDoorNd
import Derived.Test.YtjbffgjclnjkoaaGreatDoorBw
import Derived.Test.YtjbffgjclnjkoaaGreatDoorCb
import Derived.Test.YtjbffgjclnjkoaaGreatDoorSb
import Derived.Deep.RegionWith
import Derived.BigQuiet
import Derived.Deep.QuietTactic
import Derived.Deep.LoopGhost
import Derived.Deep.DeepCutAuto
namespace Go.Proofs.YtjbffgjclnjkoaaGreatDoor
set_option linter.unusedVariables false
set_option linter.unusedSimpArgs false
section
/- (Wd) The width of a character by the reference: the reader's word and the walk of spec.Width. -/
open Go.RowKit

theorem uwOk_3' (s : ByteArray) (i : Nat) (x y : Int) (h : 128 ≤ x) : uwOk s i 3 x y = (decide (i + 1 < s.size ∧ x ≤ bAt s (i + 1) ∧ bAt s (i + 1) ≤ y) && decide (i + 2 < s.size ∧ 128 ≤ bAt s (i + 2) ∧ bAt s (i + 2) ≤ 191)) := by
  unfold uwOk
  rw [show (3 : Nat) - 2 = 1 from rfl, contN, contN, cont]
  rw [Bool.eq_iff_iff]
  simp only [Bool.and_eq_true, decide_eq_true_eq, Bool.and_true]
  omega
theorem uwOk_2' (s : ByteArray) (i : Nat) (x y : Int) (h : 128 ≤ x) : uwOk s i 2 x y = decide (i + 1 < s.size ∧ x ≤ bAt s (i + 1) ∧ bAt s (i + 1) ≤ y) := by
  unfold uwOk
  rw [show (2 : Nat) - 2 = 0 from rfl, contN]
  rw [Bool.eq_iff_iff]
  simp only [Bool.and_eq_true, decide_eq_true_eq, Bool.and_true]
  omega
theorem uwOk_4' (s : ByteArray) (i : Nat) (x y : Int) (h : 128 ≤ x) : uwOk s i 4 x y = (decide (i + 1 < s.size ∧ x ≤ bAt s (i + 1) ∧ bAt s (i + 1) ≤ y) && (decide (i + 2 < s.size ∧ 128 ≤ bAt s (i + 2) ∧ bAt s (i + 2) ≤ 191) && decide (i + 3 < s.size ∧ 128 ≤ bAt s (i + 3) ∧ bAt s (i + 3) ≤ 191))) := by
  unfold uwOk
  rw [show (4 : Nat) - 2 = 2 from rfl, contN, contN, contN, cont, cont, show i + 3 = i + 2 + 1 from rfl]
  rw [Bool.eq_iff_iff]
  simp only [Bool.and_eq_true, decide_eq_true_eq, Bool.and_true]
  omega
/-- A byte that is needed. -/
theorem need_eq (s : ByteArray) (σ : St) (x y : Int) : St.need s σ x y = if decide (σ.at_ < s.size ∧ x ≤ bAt s σ.at_ ∧ bAt s σ.at_ ≤ y) then (true, { σ with at_ := σ.at_ + 1 }) else (false, σ.fail 4) := by
  unfold St.need
  by_cases h : σ.at_ < s.size ∧ x ≤ bAt s σ.at_ ∧ bAt s σ.at_ ≤ y
  · rw [if_pos h, if_pos (by simpa using h)]
  · rw [if_neg h, if_neg (by simpa using h)]

/-- The reader's rune goes by the width of the character. -/
theorem rune_uw (s : ByteArray) (σ : St) (hk : σ.at_ < s.size) (h128 : 128 ≤ bAt s σ.at_) :
    (uw s σ.at_ ≠ 0 → St.rune s σ = (true, { σ with at_ := σ.at_ + uw s σ.at_ })) ∧ (uw s σ.at_ = 0 → (St.rune s σ).1 = false) := by
  obtain ⟨i, f, o⟩ := σ
  dsimp only at hk h128 ⊢
  generalize hc : bAt s i = c at *
  have hu : uw s i = if uLen c = 0 then 0 else if uwOk s i (uLen c) (uLo c) (uHi c) then uLen c else 0 := by
    unfold uw; rw [if_pos hk, hc, if_neg (by omega)]
  unfold St.rune
  dsimp only
  rw [hc]
  by_cases h2 : 194 ≤ c ∧ c ≤ 223
  · have hl : uLen c = 2 := by unfold uLen; rw [if_pos h2]
    have hlo : uLo c = 128 := by unfold uLo; rw [if_neg (by omega), if_neg (by omega)]
    have hhi : uHi c = 191 := by unfold uHi; rw [if_neg (by omega), if_neg (by omega)]
    rw [hl, if_neg (by omega), hlo, hhi, uwOk_2' _ _ _ _ (by omega)] at hu
    rw [if_pos h2, need_eq]
    dsimp only
    cases hd : decide (i + 1 < s.size ∧ 128 ≤ bAt s (i + 1) ∧ bAt s (i + 1) ≤ 191)
    · rw [hd] at hu; simp at hu ⊢; omega
    · rw [hd] at hu; simp at hu ⊢; rw [hu]; simp
  · rw [if_neg h2]
    by_cases h3 : 224 ≤ c ∧ c ≤ 239
    · have hl : uLen c = 3 := by unfold uLen; rw [if_neg h2, if_pos h3]
      have hlo : uLo c = if c = 224 then 160 else 128 := by unfold uLo; split; rfl; rw [if_neg (by omega)]
      have hhi : uHi c = if c = 237 then 159 else 191 := by unfold uHi; split; rfl; rw [if_neg (by omega)]
      rw [hl, if_neg (by omega), hlo, hhi, uwOk_3' _ _ _ _ (by split <;> omega)] at hu
      rw [if_pos h3, need_eq]
      dsimp only
      generalize hX : (if c = 224 then (160 : Int) else 128) = X at *
      generalize hY : (if c = 237 then (159 : Int) else 191) = Y at *
      cases hd : decide (i + 1 < s.size ∧ X ≤ bAt s (i + 1) ∧ bAt s (i + 1) ≤ Y)
      · rw [hd] at hu; simp at hu; simp [St.andThen, hu]
      · rw [hd] at hu
        simp only [if_true, St.andThen]
        rw [need_eq]
        dsimp only
        cases hd2 : decide (i + 1 + 1 < s.size ∧ 128 ≤ bAt s (i + 1 + 1) ∧ bAt s (i + 1 + 1) ≤ 191)
        · rw [show i + 2 = i + 1 + 1 from rfl, hd2] at hu; simp at hu; simp [hu]
        · rw [show i + 2 = i + 1 + 1 from rfl, hd2] at hu; simp at hu; simp [hu]
    · rw [if_neg h3]
      by_cases h4 : 240 ≤ c ∧ c ≤ 244
      · have hl : uLen c = 4 := by unfold uLen; rw [if_neg h2, if_neg h3, if_pos h4]
        have hlo : uLo c = if c = 240 then 144 else 128 := by unfold uLo; rw [if_neg (by omega)]
        have hhi : uHi c = if c = 244 then 143 else 191 := by unfold uHi; rw [if_neg (by omega)]
        rw [hl, if_neg (by omega), hlo, hhi, uwOk_4' _ _ _ _ (by split <;> omega)] at hu
        rw [if_pos h4, need_eq]
        dsimp only
        generalize hX : (if c = 240 then (144 : Int) else 128) = X at *
        generalize hY : (if c = 244 then (143 : Int) else 191) = Y at *
        cases hd : decide (i + 1 < s.size ∧ X ≤ bAt s (i + 1) ∧ bAt s (i + 1) ≤ Y)
        · rw [hd] at hu; simp at hu; simp [St.andThen, hu]
        · rw [hd] at hu
          simp only [if_true, St.andThen]
          rw [need_eq]
          dsimp only
          cases hd2 : decide (i + 1 + 1 < s.size ∧ 128 ≤ bAt s (i + 1 + 1) ∧ bAt s (i + 1 + 1) ≤ 191)
          · rw [show i + 2 = i + 1 + 1 from rfl, hd2] at hu; simp at hu; simp [hu]
          · rw [show i + 2 = i + 1 + 1 from rfl, hd2] at hu
            simp only [if_true]
            rw [need_eq]
            dsimp only
            cases hd3 : decide (i + 1 + 1 + 1 < s.size ∧ 128 ≤ bAt s (i + 1 + 1 + 1) ∧ bAt s (i + 1 + 1 + 1) ≤ 191)
            · rw [show i + 3 = i + 1 + 1 + 1 from rfl, hd3] at hu; simp at hu; simp [hu]
            · rw [show i + 3 = i + 1 + 1 + 1 from rfl, hd3] at hu; simp at hu; simp [hu]
      · rw [if_neg h4]
        have hl : uLen c = 0 := by unfold uLen; rw [if_neg h2, if_neg h3, if_neg h4]
        rw [hl, if_pos rfl] at hu
        exact ⟨fun h => absurd hu h, fun _ => rfl⟩

theorem newRat (w : World) (s : ByteArray) (i : Nat) (tw lo : Bool) (T : TypeId) :
    IsR (w.alloc (.cells #[.string s, .int .i64 i, .bool tw, .bool lo, .int .i64 0, .bool false] T)) w.heap.size s tw lo ⟨i, 0, false⟩ := ⟨T, heap_alloc_new w _⟩
set_option maxRecDepth 100000 in
theorem width_any (s : ByteArray) (i : Nat) (w : World) (hs : s.size ≤ maxLen) (hi : i < s.size) :
    Calls Tryz.prog 42 #[.string s, .int .i64 i] w fun e w' => e = .returned (.int .i64 (uw s i)) ∧ Below w.heap.size w w' := by
  have hs' := hs
  unfold maxLen at hs'
  have hb := bAt_lt hi
  by_cases h128 : bAt s i < 128
  · have HU : Hid (uw s i = 1) := Lib.hid (by unfold uw; rw [if_pos hi, if_pos h128])
    rw [HU.out]
    rw [hb] at h128
    clear hb
    go_enter Tryz.func42, Tryz.ntmps42
    go_wp2
    go_ret
    exact ⟨rfl, Below.refl _ _⟩
  · have R := rune_uw s ⟨i, 0, false⟩ hi (by dsimp only; omega)
    dsimp only at R
    rw [hb] at h128
    have h0 := newRat w s i false false 47
    by_cases hu : uw s i = 0
    · obtain ⟨σ', H⟩ : ∃ σ', Hid (St.rune s ⟨i, 0, false⟩ = (false, σ')) := ⟨(St.rune s ⟨i, 0, false⟩).2, Lib.hid (Prod.ext (R.2 hu) rfl)⟩
      have hr := rune_is w.heap.size s false false _ _ _ _ H h0 hs (by dsimp only; omega)
      rw [hu]
      clear hb R hu
      go_enter Tryz.func42, Tryz.ntmps42
      go_wp2_with (go_at_call 66; refine hr.mono ?_; rintro e w1 ⟨rfl, hR1, hM1⟩)
      go_ret
      exact ⟨rfl, ((Below.refl _ _).alloc (Nat.le_refl _) _).trans (hM1.below (Nat.le_refl _) (by simp))⟩
    · have hf := uw_fit s i hu
      have H := Lib.hid (R.1 hu)
      have hr := rune_is w.heap.size s false false _ _ _ _ H h0 hs (by dsimp only; omega)
      obtain ⟨n, hn⟩ : ∃ n, uw s i = n := ⟨_, rfl⟩
      rw [hn] at hr hf ⊢
      have hsub : (((i + n : Nat) : Int)) - (i : Int) = (n : Int) := by omega
      clear hb R hu hn H
      go_enter Tryz.func42, Tryz.ntmps42
      go_wp2_with (go_at_call 66; refine hr.mono ?_; rintro e w1 ⟨rfl, hR1, hM1⟩; obtain ⟨c0, c1, c2, c3, c4, c5, f1, f4, f5⟩ := hR1.cells; dsimp only at c1)
      go_ret
      exact ⟨ret_int (by omega), ((Below.refl _ _).alloc (Nat.le_refl _) _).trans (hM1.below (Nat.le_refl _) (by simp))⟩
end
section
/- (Ty) The style of encoding/json without white space, and the small functions of the writer. -/
open Go.RowKit

/-- The style. -/
def tightV : Value := .agg #[.bool false, .bool false, .bool false, .bool false, .bool true, .bool false, .bool false, .bool false, .bool false, .bool false, .bool false, .string ⟨#[]⟩, .string ⟨#[]⟩]
/-- The block b holds the style. -/
def TyB (w : World) (b : Nat) : Prop := w.heap[b]? = some (.cells #[.bool false, .bool false, .bool false, .bool false, .bool true, .bool false, .bool false, .bool false, .bool false, .bool false, .bool false, .string ⟨#[]⟩, .string ⟨#[]⟩] 41 (0, 0))
theorem TyB.new (w : World) : TyB (w.alloc (.cells #[.bool false, .bool false, .bool false, .bool false, .bool true, .bool false, .bool false, .bool false, .bool false, .bool false, .bool false, .string ⟨#[]⟩, .string ⟨#[]⟩] 41)) w.heap.size := heap_alloc_new w _
theorem TyB.below {w w' : World} {b : Nat} (h : TyB w b) (k : Below w.heap.size w w') : TyB w' b := (k.block b (lt_of_block h)).trans h
theorem TyB.drewN {w : World} {b : Nat} (h : TyB w b) (n : Nat) : TyB (w.drewN n) b := h
theorem TyB.alloc {w : World} {b : Nat} (h : TyB w b) (o : Obj) : TyB (w.alloc o) b := (Below.heap_alloc _ _ _ (lt_of_block h)).trans h
theorem TyB.cells {w : World} {b : Nat} (h : TyB w b) : w.cell? ⟨b, 0, none⟩ = some (.bool false) ∧ w.cell? ⟨b, 1, none⟩ = some (.bool false) ∧ w.cell? ⟨b, 2, none⟩ = some (.bool false) ∧ w.cell? ⟨b, 3, none⟩ = some (.bool false) ∧ w.cell? ⟨b, 4, none⟩ = some (.bool true) ∧ w.cell? ⟨b, 5, none⟩ = some (.bool false) ∧ w.cell? ⟨b, 6, none⟩ = some (.bool false) ∧ w.cell? ⟨b, 7, none⟩ = some (.bool false) ∧ w.cell? ⟨b, 8, none⟩ = some (.bool false) ∧ w.cell? ⟨b, 9, none⟩ = some (.bool false) ∧ w.cell? ⟨b, 10, none⟩ = some (.bool false) ∧ w.cell? ⟨b, 11, none⟩ = some (.string ⟨#[]⟩) ∧ w.cell? ⟨b, 12, none⟩ = some (.string ⟨#[]⟩) := by
  unfold TyB at h
  refine ⟨?_, ?_, ?_, ?_, ?_, ?_, ?_, ?_, ?_, ?_, ?_, ?_, ?_⟩ <;> (simp only [World.cell?, h]; rfl)
theorem gap_any (s : ByteArray) (w : World) : Calls Tryz.prog 48 #[.string s, .bool false] w fun e w' => e = .returned (.string s) ∧ w' = w := by
  go_enter Tryz.func48, Tryz.ntmps48
  go_wp2_with fail
  all_goals go_ret
  exact ⟨rfl, rfl⟩
theorem bwY (w : World) (o : Obj) : Below w.heap.size w (w.alloc o) := (Below.refl _ _).alloc (Nat.le_refl _) _
set_option maxRecDepth 100000 in
set_option maxHeartbeats 1000000 in
theorem line_any (d : Int) (w : World) : Calls Tryz.prog 72 #[tightV, .int .i64 d] w fun e w' => e = .returned (.string ⟨#[]⟩) ∧ Below w.heap.size w w' := by
  unfold tightV
  go_enter Tryz.func72, Tryz.ntmps72
  go_wp2_with fail
  all_goals go_ret
  exact ⟨rfl, bwY _ _⟩
set_option maxRecDepth 100000 in
set_option maxHeartbeats 1000000 in
theorem tight_any (w : World) : Calls Tryz.prog 12 #[] w fun e w' => e = .returned tightV ∧ Below w.heap.size w w' := by
  go_enter Tryz.func12, Tryz.ntmps12
  go_wp2_with fail
  have h := heap_alloc_new w (.cells #[.bool false, .bool false, .bool false, .bool false, .bool true, .bool false, .bool false, .bool false, .bool false, .bool false, .bool false, .string ⟨#[]⟩, .string ⟨#[]⟩] 41)
  have hb := bwY w (.cells #[.bool false, .bool false, .bool false, .bool false, .bool true, .bool false, .bool false, .bool false, .bool false, .bool false, .bool false, .string ⟨#[]⟩, .string ⟨#[]⟩] 41)
  revert h hb
  generalize w.alloc (.cells #[.bool false, .bool false, .bool false, .bool false, .bool true, .bool false, .bool false, .bool false, .bool false, .bool false, .bool false, .string ⟨#[]⟩, .string ⟨#[]⟩] 41) = w1
  intro h hb
  have c0 : w1.cell? ⟨w.heap.size, 0, none⟩ = some (.bool false) := by simp only [World.cell?, h]; rfl
  have c1 : w1.cell? ⟨w.heap.size, 1, none⟩ = some (.bool false) := by simp only [World.cell?, h]; rfl
  have c2 : w1.cell? ⟨w.heap.size, 2, none⟩ = some (.bool false) := by simp only [World.cell?, h]; rfl
  have c3 : w1.cell? ⟨w.heap.size, 3, none⟩ = some (.bool false) := by simp only [World.cell?, h]; rfl
  have c4 : w1.cell? ⟨w.heap.size, 4, none⟩ = some (.bool true) := by simp only [World.cell?, h]; rfl
  have c5 : w1.cell? ⟨w.heap.size, 5, none⟩ = some (.bool false) := by simp only [World.cell?, h]; rfl
  have c6 : w1.cell? ⟨w.heap.size, 6, none⟩ = some (.bool false) := by simp only [World.cell?, h]; rfl
  have c7 : w1.cell? ⟨w.heap.size, 7, none⟩ = some (.bool false) := by simp only [World.cell?, h]; rfl
  have c8 : w1.cell? ⟨w.heap.size, 8, none⟩ = some (.bool false) := by simp only [World.cell?, h]; rfl
  have c9 : w1.cell? ⟨w.heap.size, 9, none⟩ = some (.bool false) := by simp only [World.cell?, h]; rfl
  have c10 : w1.cell? ⟨w.heap.size, 10, none⟩ = some (.bool false) := by simp only [World.cell?, h]; rfl
  have c11 : w1.cell? ⟨w.heap.size, 11, none⟩ = some (.string ⟨#[]⟩) := by simp only [World.cell?, h]; rfl
  have c12 : w1.cell? ⟨w.heap.size, 12, none⟩ = some (.string ⟨#[]⟩) := by simp only [World.cell?, h]; rfl
  clear h
  refine bodyPost_ret (v := tightV) (by simp [results, Tryz.results12, go_sem, c0, c1, c2, c3, c4, c5, c6, c7, c8, c9, c10, c11, c12, tightV]; try rfl) rfl ?_
  exact ⟨rfl, hb⟩
set_option maxRecDepth 100000 in
set_option maxHeartbeats 1000000 in
theorem whole_any (s : ByteArray) (hs : s.size ≤ 9000000000) (w : World) : Calls Tryz.prog 73 #[.string s] w fun e w' => ∃ b, e = .returned (.bool b) ∧ Below w.heap.size w w' := by
  have hsI : (s.size : Int) ≤ 9000000000 := by omega
  go_enter Tryz.func73, Tryz.ntmps73
  go_wp2_with fail
  go_loopg [3, 6] s.size (fun g u i wr => ∃ k : Nat, i = .int .i64 k ∧ k ≤ s.size ∧ s.size - k ≤ g ∧ Below w.heap.size w wr)
  case atStart => exact ⟨0, rfl, Nat.zero_le _, by omega, Below.refl _ _⟩
  case round =>
    obtain ⟨k, rfl, hk, hg, hb⟩ := hrel
    by_cases hlt : k < s.size
    case neg =>
      obtain rfl : k = s.size := by omega
      go_wp2_with fail
      all_goals go_ret
      exact ⟨_, rfl, hb⟩
    have hkI : (k : Int) < (s.size : Int) := by omega
    obtain ⟨c, hc⟩ : ∃ c, (s[k].toNat : Int) = c := ⟨_, rfl⟩
    by_cases h46 : c = 46
    · subst h46
      go_wp2_with fail
      all_goals go_ret
      exact ⟨_, rfl, hb⟩
    by_cases h101 : c = 101
    · subst h101
      go_wp2_with fail
      all_goals go_ret
      exact ⟨_, rfl, hb⟩
    by_cases h69 : c = 69
    · subst h69
      go_wp2_with fail
      all_goals go_ret
      exact ⟨_, rfl, hb⟩
    have d46 : (c == 46) = false := by simpa using h46
    have d101 : (c == 101) = false := by simpa using h101
    have d69 : (c == 69) = false := by simpa using h69
    clear h46 h101 h69
    go_wp2_with fail
    go_roundg (gk - 1)
    case measure => omega
    case rel => exact ⟨k + 1, by go_num, by omega, by omega, hb⟩
theorem bwY2 {w a b : World} (h : Below w.heap.size w a) (k : Below a.heap.size a b) : Below w.heap.size w b := Below.trans h (Below.mono k h.size)
set_option maxRecDepth 100000 in
set_option maxHeartbeats 1000000 in
theorem numText_any (s : ByteArray) (hs : s.size ≤ 9000000000) (w : World) : Calls Tryz.prog 50 #[tightV, .string s] w fun e w' => e = .returned (.string s) ∧ Below w.heap.size w w' := by
  have hw := fun w' => whole_any s hs w'
  have hw2 := fun w' => whole_any s hs w'
  unfold tightV
  go_enter Tryz.func50, Tryz.ntmps50
  have T0 := TyB.new w
  have B0 := bwY w (.cells #[.bool false, .bool false, .bool false, .bool false, .bool true, .bool false, .bool false, .bool false, .bool false, .bool false, .bool false, .string ⟨#[]⟩, .string ⟨#[]⟩] 41)
  go_upto_region 1 with fail
  revert T0 B0
  generalize w.alloc (.cells #[.bool false, .bool false, .bool false, .bool false, .bool true, .bool false, .bool false, .bool false, .bool false, .bool false, .bool false, .string ⟨#[]⟩, .string ⟨#[]⟩] 41) = w1
  intro T0 B0
  go_wp2_with (first
    | (go_at_call 73; refine (hw _).mono ?_; clear hw; rintro e w2 ⟨b2, rfl, hb2⟩; have T2 := T0.below hb2; have B2 := bwY2 B0 hb2; obtain ⟨c0, c1, c2, c3, c4, c5, c6, c7, c8, c9, c10, c11, c12⟩ := T2.cells; clear c0 c1 c2 c3 c4 c7 c8 c9 c10 c11 c12)
    | (go_at_call 73; refine (hw2 _).mono ?_; clear hw2; rintro e w3 ⟨b3, rfl, hb3⟩; have T3 := T2.below hb3; have B3 := bwY2 B2 hb3; obtain ⟨e0, e1, e2, e3, e4, e5, e6, e7, e8, e9, e10, e11, e12⟩ := T3.cells; clear e0 e1 e2 e3 e4 e7 e8 e9 e10 e11 e12))
  all_goals go_ret
  all_goals first | exact ⟨rfl, B3⟩ | exact ⟨rfl, B2⟩
end
section
/- (Kp) Strings as the writer of encoding/json's style puts them: as they stand. -/
open Go.RowKit

theorem bs_zero (w : World) : Bs (w.alloc (.cells #[] 5)) w.heap.size (.slice (some ⟨w.heap.size, 0, none⟩) 0 0) [] := by
  refine ⟨By8.nil, _, _, rfl, Nat.le_refl _, Nat.zero_le _, .inr ⟨w.heap.size, 0, #[], (0, 0), rfl, Nat.le_refl _, heap_alloc_new w _, by simp, .inl rfl, ?_⟩⟩
  simp [bv]
set_option maxRecDepth 100000 in
set_option maxHeartbeats 1000000 in
theorem marked_any (s : ByteArray) (w : World) : Calls Tryz.prog 91 #[.string s, .agg #[.bool false, .bool false]] w fun e w' => e = .returned (.string ⟨#[]⟩) ∧ Below w.heap.size w w' := by
  go_enter Tryz.func91, Tryz.ntmps91
  go_wp2_with fail
  all_goals go_ret
  exact ⟨rfl, bwY _ _⟩
set_option maxRecDepth 100000 in
set_option maxHeartbeats 4000000 in
theorem kept_any (s : ByteArray) (hs : s.size ≤ 2500000000) (w : World) : Calls Tryz.prog 70 #[.string s, .agg #[.bool false, .bool false]] w fun e w' => e = .returned (.string s) ∧ Below w.heap.size w w' := by
  obtain ⟨i0, hi, hz0, hz1, hz2⟩ := info_parts Tryz.infoU8
  have hsI : (s.size : Int) ≤ 2500000000 := by omega
  have hsm : s.size ≤ maxLen := by unfold maxLen; omega
  have hend : txt (sub s 0 s.size) = s := by rw [sub_all, txt_bl]
  have HE := Lib.hid hend
  clear hend
  go_enter Tryz.func70, Tryz.ntmps70
  go_wp2_with fail
  have M0 : ((w.alloc (.cells #[.bool false, .bool false] 39)).alloc (.cells #[] 5)).heap[w.heap.size]? = some (.cells #[.bool false, .bool false] 39 (0, 0)) := (Below.heap_alloc _ _ _ (by simp)).trans (heap_alloc_new w _)
  have B0 : Below w.heap.size w ((w.alloc (.cells #[.bool false, .bool false] 39)).alloc (.cells #[] 5)) := (bwY w _).alloc (by simp) _
  have S0 := bs_zero (w.alloc (.cells #[.bool false, .bool false] 39))
  have hz : (w.alloc (.cells #[.bool false, .bool false] 39)).heap.size = w.heap.size + 1 := by simp
  rw [hz] at S0
  have S0B : w.heap.size + 1 ≤ ((w.alloc (.cells #[.bool false, .bool false] 39)).alloc (.cells #[] 5)).heap.size := by simp
  revert M0 B0 S0 S0B
  generalize ((w.alloc (.cells #[.bool false, .bool false] 39)).alloc (.cells #[] 5)) = w1
  intro M0 B0 S0 S0B
  clear hz
  obtain ⟨B, hBw⟩ : ∃ B, B = w.heap.size + 1 := ⟨_, rfl⟩
  replace S0 := S0.mono (Nat.le_of_eq hBw)
  rw [← hBw] at S0B
  have hBl : w.heap.size < B := by omega
  clear hBw
  go_loopg [5, 6] s.size (fun g v i wr => ∃ (k : Nat) (v' : Value), i = .int .i64 k ∧ v = v' ∧ k ≤ s.size ∧ s.size - k ≤ g ∧ Bs wr B v' (sub s 0 k) ∧ Below w.heap.size w wr ∧ wr.heap[w.heap.size]? = some (.cells #[.bool false, .bool false] 39 (0, 0)) ∧ B ≤ wr.heap.size)
  case atStart => exact ⟨0, _, rfl, rfl, Nat.zero_le _, by omega, by rw [sub_self]; exact S0, B0, M0, S0B⟩
  case round =>
    clear M0 B0 S0
    obtain ⟨k, v', rfl, hv', hk, hg, hbs, hbel, hM, hBr⟩ := hrel
    obtain rfl := hv'.symm
    have hm0 : wr.cell? ⟨w.heap.size, 0, none⟩ = some (.bool false) := by simp [World.cell?, hM]
    have hm1 : wr.cell? ⟨w.heap.size, 1, none⟩ = some (.bool false) := by simp [World.cell?, hM]
    by_cases hlt : k < s.size
    case neg =>
      obtain rfl : k = s.size := by omega
      have hcv := bs_str hbs
      rw [HE.out] at hcv
      go_wp2_with fail
      all_goals go_ret
      exact ⟨rfl, hbel⟩
    have hkI : (k : Int) < (s.size : Int) := by omega
    have hW := fun w' => width_any s k w' hsm hlt
    obtain ⟨d, hd0, hd1, hd2⟩ : ∃ d : Nat, 0 < d ∧ k + d ≤ s.size ∧ ((uw s k = 0 ∧ d = 1) ∨ (uw s k = d)) := by
      by_cases hu : uw s k = 0
      · exact ⟨1, by omega, by omega, .inl ⟨hu, rfl⟩⟩
      · exact ⟨uw s k, by omega, uw_fit s k hu, .inr rfl⟩
    have hbl : bl (s.extract k (k + d)) = sub s k (k + d) := bl_sub s k (k + d) hd1 (by omega)
    have HB := Lib.hid hbl
    have hx : (bl (s.extract k (k + d))).length = d := by rw [hbl, sub_len]; omega
    have hln : (sub s 0 k).length + (bl (s.extract k (k + d))).length ≤ 140737488355328 := by rw [hx, sub_len]; omega
    have hdI : (k : Int) + (d : Int) ≤ (s.size : Int) := by omega
    have hd0I : (0 : Int) < (d : Int) := by omega
    have hd1I : (1 : Int) ≤ (d : Int) := by omega
    have hlw := lt_of_block hM
    clear hbl hx
    have hfin : ∀ (w2 : World) (v3 : Value) (w3 : World) (w4 : World), Below wr.heap.size wr w2 → Below w2.heap.size w2 w3 → Bs w4 B v3 (sub s 0 k ++ bl (s.extract k (k + d))) → Ap v' w3 v3 w4 →
        Bs w4 B v3 (sub s 0 (k + d)) ∧ Below w.heap.size w w4 ∧ w4.heap[w.heap.size]? = some (.cells #[.bool false, .bool false] 39 (0, 0)) := fun w2 v3 w3 w4 b2 b3 h3 a3 => by
      have hb3 := (hbs.below b2).below b3
      have hsz3 := Nat.le_trans hBr (Nat.le_trans b2.size b3.size)
      have hb4 := a3.below hb3 hsz3
      refine ⟨?_, ?_, ?_⟩
      · rw [HB.out, sub_app s (Nat.zero_le _) (by omega)] at h3; exact h3
      · exact hbel.trans ((b2.mono hbel.size).trans ((b3.mono (Nat.le_trans hbel.size b2.size)).trans (hb4.mono (Nat.le_of_lt hBl))))
      · exact (hb4.block _ (by omega)).trans ((b3.block _ (Nat.lt_of_lt_of_le hlw b2.size)).trans ((b2.block _ hlw).trans hM))
    have HF := Lib.hid hfin
    clear hfin
    rcases hd2 with ⟨hu, rfl⟩ | hu
    · rw [hu] at hW
      clear hu
      go_wp2_with (first
        | (go_at_call 42; refine (hW _).mono ?_; rintro e w2 ⟨rfl, hb2⟩; have q0 := (World.cell?_of_block (a := ⟨w.heap.size, 0, none⟩) (hb2.block _ hlw)).trans hm0; have q1 := (World.cell?_of_block (a := ⟨w.heap.size, 1, none⟩) (hb2.block _ hlw)).trans hm1)
        | (go_at_call 91; refine (marked_any _ _).mono ?_; rintro e w3 ⟨rfl, hb3⟩; have hbs3 := (hbs.below hb2).below hb3; have hB3 : B ≤ w3.heap.size := Nat.le_trans hBr (Nat.le_trans hb2.size hb3.size))
        | (at_builtin; refine wpList_append_bs _ rfl (.tmp 31) (.tmp 32) 54 9 (by rfl) B i0 Tryz.underlying54 hi hz0 hz1 hz2 _ _ rfl hbs3 _ (bl (s.extract k (k + 1))) rfl (bl_by8 _) (src_str Tryz.underlying9 (s.extract k (k + 1)) _ _ hz1) (by exact hln) (by first | assumption | omega | (simp; omega)) ?_; intro v3 w4 hb4 ha4))
      obtain ⟨f1, f2, f3⟩ := HF.out w2 v3 w3 w4 hb2 hb3 hb4 ha4
      go_roundg (gk - 1)
      case measure => omega
      case rel => exact ⟨k + 1, v3, by go_num, rfl, hd1, by omega, f1, f2, f3, Nat.le_trans hB3 ha4.size⟩
    · rw [hu] at hW
      clear hu
      have hmax : max (d : Int) 1 = d := by omega
      go_wp2_with (first
        | (go_at_call 42; refine (hW _).mono ?_; rintro e w2 ⟨rfl, hb2⟩; have q0 := (World.cell?_of_block (a := ⟨w.heap.size, 0, none⟩) (hb2.block _ hlw)).trans hm0; have q1 := (World.cell?_of_block (a := ⟨w.heap.size, 1, none⟩) (hb2.block _ hlw)).trans hm1)
        | (go_at_call 91; refine (marked_any _ _).mono ?_; rintro e w3 ⟨rfl, hb3⟩; have hbs3 := (hbs.below hb2).below hb3; have hB3 : B ≤ w3.heap.size := Nat.le_trans hBr (Nat.le_trans hb2.size hb3.size))
        | (at_builtin; refine wpList_append_bs _ rfl (.tmp 31) (.tmp 32) 54 9 (by rfl) B i0 Tryz.underlying54 hi hz0 hz1 hz2 _ _ rfl hbs3 _ (bl (s.extract k (k + d))) rfl (bl_by8 _) (src_str Tryz.underlying9 (s.extract k (k + d)) _ _ hz1) (by exact hln) (by first | assumption | omega | (simp; omega)) ?_; intro v3 w4 hb4 ha4))
      obtain ⟨f1, f2, f3⟩ := HF.out w2 v3 w3 w4 hb2 hb3 hb4 ha4
      go_roundg (gk - 1)
      case measure => omega
      case rel => exact ⟨k + d, v3, by go_num, rfl, hd1, by omega, f1, f2, f3, Nat.le_trans hB3 ha4.size⟩
set_option maxRecDepth 100000 in
set_option maxHeartbeats 4000000 in
theorem strText_any (s : ByteArray) (hs : s.size ≤ 2500000000) (w : World) : Calls Tryz.prog 47 #[tightV, .string s] w fun e w' => e = .returned (.string s) ∧ Below w.heap.size w w' := by
  have hk := fun w' => kept_any s hs w'
  unfold tightV
  go_enter Tryz.func47, Tryz.ntmps47
  go_wp2_with (go_at_call 70; refine (hk _).mono ?_; rintro e w2 ⟨rfl, hb2⟩; have hb3 := bwY2 (bwY _ _) hb2)
  all_goals go_ret
  exact ⟨rfl, hb3⟩
end
end Go.Proofs.YtjbffgjclnjkoaaGreatDoor

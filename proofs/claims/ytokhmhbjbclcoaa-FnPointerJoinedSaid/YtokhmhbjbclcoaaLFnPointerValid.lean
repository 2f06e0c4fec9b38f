/- Whether a text is a pointer: the walk of the library's own check, and of the law FnPointerValid. -/
import Derived.Test.YtokhmhbjbclcoaaPv
namespace Go.Proofs.Ytokhmhbjbclcoaa
set_option linter.unusedVariables false
set_option linter.unusedSimpArgs false
open Go.RowKit

theorem iter_below (w : World) (p : ByteArray) (k : Nat) : Below w.heap.size w (w.iter p k) := (Below.refl _ _).alloc (Nat.le_refl _) _

set_option maxRecDepth 100000 in
set_option maxHeartbeats 2000000 in
theorem isValid_any (p : ByteArray) (w : World) (hs : p.size ≤ maxLen) :
    Calls Try.prog 6 #[.string p] w fun e w' => e = .returned (.bool (pvB p)) ∧ Below w.heap.size w w' := by
  have hs' := hs
  unfold maxLen at hs'
  obtain ⟨R, HR⟩ : ∃ R, Hid (ivF p p.size 0 = R) := ⟨_, Lib.hid rfl⟩
  have A0 : Aside (ivF p p.size 0 = R) := HR.out
  have E0 : Hid (pvB p = ((decide (p.size = 0) || decide (bAt p 0 = 47)) && R)) := Lib.hid (by
    have h := iv_eq p p.size 0 (Nat.zero_le _) (by omega)
    rw [HR.out, Nat.sub_zero] at h
    unfold pvB
    rw [← h]
    cases textF p p.size 0 <;> cases tildeOk p p.size 0 <;> simp)
  clear HR
  go_enter Try.func6, Try.ntmps6
  go_wp2
  go_loopg [] p.size (fun g wr => ∃ k : Nat, k ≤ p.size ∧ p.size - k ≤ g ∧ wr = w.iter p k ∧ Aside (ivF p g k = R))
  case atStart => exact ⟨0, Nat.zero_le _, by omega, rfl, A0⟩
  case round =>
    clear A0
    obtain ⟨k, hk, hg, rfl, A⟩ := hrel
    by_cases hlt : k < p.size
    · have hnx := fun ty => run_next_any (P := Try.prog) w p k hlt ty
      have hbk := bAt_lt hlt
      have hbn := bN_eq p k
      have hbt : ∀ b, badT p k = b → b = true ∨ b = false := fun b _ => by cases b <;> simp
      obtain ⟨r, hr⟩ : ∃ r, Hid (runeN p k = r) := ⟨_, Lib.hid rfl⟩
      obtain ⟨d, hd⟩ : ∃ d, Hid (stepN p k = d) := ⟨_, Lib.hid rfl⟩
      rw [hr.out, hd.out] at hnx
      by_cases h126 : bAt p k = 126
      · have hu1 : uw p k = 1 := uw_1 hlt (by omega)
        have hr126 : r = 126 := by rw [← hr.out]; unfold runeN; rw [if_pos hu1]; omega
        have hd1 : d = 1 := by rw [← hd.out]; unfold stepN; rw [hu1]; rfl
        subst hr126 hd1
        by_cases hk1 : k + 1 < p.size
        · have hb1 := bAt_lt hk1
          have he1 : ((k : Int) + 1 == (p.size : Int)) = false := by simp; omega
          by_cases h48 : bAt p (k + 1) = 48
          · have A2 := iv_go A hlt hg (by unfold badT; simp [h48, hk1]) (by omega)
            rw [hu1] at A2
            obtain ⟨a1, a2, a3, a4⟩ := A2
            have hd1 : ((p[k + 1].toNat : Int) != 48) = false := by rw [← hb1, h48]; rfl
            clear A hbk hbn hbt h126 hb1 h48 hu1 hr hd
            go_wp2
            go_roundg (gk - 1)
            case measure => exact a3
            case rel => exact ⟨k + 1, a1, a2, rfl, a4⟩
          · have hd1 : ((p[k + 1].toNat : Int) != 48) = true := by rw [← hb1]; simpa using h48
            by_cases h49 : bAt p (k + 1) = 49
            · have A2 := iv_go A hlt hg (by unfold badT; simp [h49, hk1]) (by omega)
              rw [hu1] at A2
              obtain ⟨a1, a2, a3, a4⟩ := A2
              have hd2 : ((p[k + 1].toNat : Int) != 49) = false := by rw [← hb1, h49]; rfl
              clear A hbk hbn hbt h126 hb1 h48 h49 hu1 hr hd
              go_wp2
              go_roundg (gk - 1)
              case measure => exact a3
              case rel => exact ⟨k + 1, a1, a2, rfl, a4⟩
            · have E2 := Lib.hid (iv_bad A hlt hg (by unfold badT; simp [h126, h48, h49]))
              have hd2 : ((p[k + 1].toNat : Int) != 49) = true := by rw [← hb1]; simpa using h49
              clear A hbk hbn hbt h126 hb1 h48 h49 hu1 hr hd
              go_wp2
              all_goals go_ret
              exact ⟨by rw [E0.out, E2.out, Bool.and_false]; first | done | rfl, iter_below _ _ _⟩
        · have E2 := Lib.hid (iv_bad A hlt hg (by unfold badT; simp [h126, hk1]))
          have he1 : ((k : Int) + 1 == (p.size : Int)) = true := by simp; omega
          clear A hbk hbn hbt h126 hu1 hr hd
          go_wp2
          all_goals go_ret
          exact ⟨by rw [E0.out, E2.out, Bool.and_false]; first | done | rfl, iter_below _ _ _⟩
      · have hbad : badT p k = false := by unfold badT; simp [h126]
        have hr126 : r ≠ 126 := by
          rw [← hr.out]
          by_cases h128 : bN p k < 128
          · unfold runeN; rw [if_pos (uw_1 hlt h128)]; omega
          · have := runeN_ge p k hlt h128; omega
        have hr1 : ((r : Int) == 126) = false := by simp; omega
        by_cases hr2 : r = 65533
        · have hr2' : ((r : Int) == 65533) = true := by simp [hr2]
          have hsz := size_from p k
          have B := brk_uw p k hlt (hr.out.trans hr2)
          obtain ⟨t, ht⟩ : ∃ t, Hid (p.extract k p.size = t) := ⟨_, Lib.hid rfl⟩
          rw [ht.out] at B hsz
          have hts : t.size ≤ maxLen := by rw [hsz]; unfold maxLen; omega
          by_cases hu : uw p k = 0
          · have HB := Lib.hid (B.1 hu)
            have E2 := Lib.hid (iv_no A hlt hg hbad hu)
            clear A hbk hbn hbt h126 hbad hr126 hr2 B hu hsz hr hd
            go_wp2_with fail
            rw [ht.out]
            refine (hasBrk t false _ hts HB).mono ?_
            rintro e w1 ⟨rfl, rfl⟩
            go_wp2
            all_goals go_ret
            exact ⟨by rw [E0.out, E2.out, Bool.and_false]; first | done | rfl, iter_below _ _ _⟩
          · have HB := Lib.hid (B.2 hu)
            have A2 := iv_go A hlt hg hbad hu
            have hdu : d = uw p k := by rw [← hd.out]; unfold stepN; rw [if_neg hu]
            rw [← hdu] at A2
            obtain ⟨a1, a2, a3, a4⟩ := A2
            clear A hbk hbn hbt h126 hbad hr126 hr2 B hu hsz hr hd hdu
            go_wp2_with fail
            rw [ht.out]
            refine (hasBrk t true _ hts HB).mono ?_
            rintro e w1 ⟨rfl, rfl⟩
            go_wp2
            go_roundg (gk - 1)
            case measure => exact a3
            case rel => exact ⟨k + d, a1, a2, rfl, a4⟩
        · have hr2' : ((r : Int) == 65533) = false := by simp; omega
          have hu : uw p k ≠ 0 := by
            intro hu
            apply hr2
            rw [← hr.out]; unfold runeN; rw [if_neg (by omega), if_neg (by omega), if_neg (by omega), if_neg (by omega)]
          have A2 := iv_go A hlt hg hbad hu
          have hdu : d = uw p k := by rw [← hd.out]; unfold stepN; rw [if_neg hu]
          rw [← hdu] at A2
          obtain ⟨a1, a2, a3, a4⟩ := A2
          clear A hbk hbn hbt h126 hbad hr126 hr2 hu hr hd hdu
          go_wp2
          go_roundg (gk - 1)
          case measure => exact a3
          case rel => exact ⟨k + d, a1, a2, rfl, a4⟩
    · have hnx := fun ty => run_next_end (P := Try.prog) w p k ty hlt
      have E2 := Lib.hid (iv_end A hlt)
      clear A
      by_cases h0 : p.size = 0
      · have hz : ((p.size : Int) == 0) = true := by simp [h0]
        have E3 : Hid (pvB p = true) := Lib.hid (by rw [E0.out, E2.out, h0]; rfl)
        clear h0 E0
        go_wp2
        all_goals go_ret
        exact ⟨by rw [E3.out]; first | done | rfl, iter_below _ _ _⟩
      · have hz : ((p.size : Int) == 0) = false := by rw [beq_eq_false_iff_ne]; omega
        have hp : 0 < p.size := by omega
        have hb0 := bAt_lt hp
        have E3 : Hid (pvB p = ((p[0].toNat : Int) == 47)) := Lib.hid (by
          rw [E0.out, E2.out, Bool.and_true, decide_eq_false h0, Bool.false_or, hb0, Bool.eq_iff_iff]; simp)
        clear h0 E0 hb0
        go_wp2
        all_goals go_ret
        exact ⟨by rw [E3.out]; first | done | rfl, iter_below _ _ _⟩

end Go.Proofs.Ytokhmhbjbclcoaa

/- Taking a string off: the walk; the head of a string; the law FnWireTrimString. -/
import Derived.Test.YtbjgbaffaognhaaTs
import Derived.Test.YtbjgbaffaognhaaUb
import Derived.Test.YtbjgbaffaognhaaShd
import Derived.Test.YtbjgbaffaognhaaUt
namespace Go.Proofs.Ytbjgbaffaognhaa
open Go.RowKit
set_option linter.unusedVariables false

theorem ts_step {s : ByteArray} {k R : Nat} (A : Aside (tsLoop s (k + 2) = R)) (h : ¬ (bAt s (k + 1) = 34 ∧ bAt s k ≠ 92)) : Aside (tsLoop s (k + 1) = R) := by
  have A' : tsLoop s (k + 2) = R := A
  rw [tsLoop, if_neg h] at A'; exact A'
theorem ts_stop {s : ByteArray} {k R : Nat} (A : Aside (tsLoop s (k + 2) = R)) (h : bAt s (k + 1) = 34 ∧ bAt s k ≠ 92) : k + 2 = R := by
  have A' : tsLoop s (k + 2) = R := A
  rw [tsLoop, if_pos h] at A'; exact A'
theorem ts_small {s : ByteArray} {k R : Nat} (A : Aside (tsLoop s k = R)) (h : k < 2) : k = R := by
  have A' : tsLoop s k = R := A
  match k, h with
  | 0, _ => exact A'
  | 1, _ => exact A'

set_option maxRecDepth 100000 in
set_option maxHeartbeats 2000000 in
/-- The loop and what stands behind it, from a length k on. -/
theorem trim_any (s : ByteArray) (b cap : Nat) (w : World) (hB : Lib.Bytes w b 0 s) (hs : s.size ≤ maxLen) (hcap : s.size ≤ cap) (hcap2 : cap ≤ maxLen) :
    Calls Try.prog 36 #[.slice (some ⟨b, 0, none⟩) s.size cap] w fun e w' => e = .returned (.slice (some ⟨b, 0, none⟩) (trimN s) cap) ∧ w' = w := by
  unfold maxLen at hs hcap2
  obtain ⟨R, HR⟩ : ∃ R, Hid (tsLoop s (tsHead s) = R) := ⟨_, Lib.hid rfl⟩
  have E0 : Hid (trimN s = tsTail s R) := Lib.hid (by unfold trimN; rw [HR.out])
  have A0 : Aside (tsLoop s (tsHead s) = R) := HR.out
  have key : ∀ (k : Nat), tsHead s = k → Aside (tsLoop s k = R) := by rintro k rfl; exact A0
  have hle : tsHead s ≤ s.size := by unfold tsHead; split <;> omega
  clear A0 HR
  rw [E0.out]
  by_cases h0 : s.size = 0
  · have HH : Hid (tsHead s = s.size) := Lib.hid (by unfold tsHead; rw [if_neg (by omega)])
    have hz : ¬ (0 : Int) < (s.size : Int) := by omega
    have HS := Lib.hid h0
    clear h0
    go_enter Try.func36, Try.ntmps36
    go_wp2
    go_loopg [0] s.size (fun g v wr => ∃ k : Nat, v = .slice (some ⟨b, 0, none⟩) k cap ∧ k ≤ g ∧ k ≤ s.size ∧ wr = w ∧ Aside (tsLoop s k = R))
    case atStart => exact ⟨_, rfl, by omega, by omega, rfl, key _ HH.out⟩
    case round =>
      clear key HH
      obtain ⟨k, rfl, hkg, hks, rfl, A⟩ := hrel
      cases k with
      | zero =>
        have E2 := Lib.hid (ts_small A (by omega))
        have E3 : Hid (tsTail s R = 0) := Lib.hid (by rw [← E2.out]; unfold tsTail; rw [if_neg (by omega)])
        clear A
        go_wp2
        all_goals go_ret
        exact ⟨by rw [E3.out]; first | done | rfl, rfl⟩
      | succ m => exact absurd hks (by have := HS.out; omega)
  · have hp : s.size - 1 < s.size := by omega
    have hcp := bcell0 hB hp
    have hbp := bAt_lt hp
    have hpos : (0 : Int) < (s.size : Int) := by omega
    have hix2 : (s.size : Int) - 1 = ((s.size - 1 : Nat) : Int) := by omega
    by_cases h34 : bAt s (s.size - 1) = 34
    · have HH : Hid (tsHead s = s.size - 1) := Lib.hid (by unfold tsHead; rw [if_pos ⟨by omega, h34⟩])
      have hd : ((s[s.size - 1].toNat : Int) == 34) = true := by rw [← hbp, h34]; rfl
      clear h0 hbp h34
      generalize hq : s.size - 1 = q at *
      clear hq
      go_enter Try.func36, Try.ntmps36
      go_wp2
      clear hcp hd hix2 hpos
      go_loopg [0] s.size (fun g v wr => ∃ k : Nat, v = .slice (some ⟨b, 0, none⟩) k cap ∧ k ≤ g ∧ k ≤ s.size ∧ wr = w ∧ Aside (tsLoop s k = R))
      case atStart => exact ⟨_, rfl, by omega, by omega, rfl, key _ HH.out⟩
      case round =>
        clear key HH
        obtain ⟨k, rfl, hkg, hks, rfl, A⟩ := hrel
        cases k with
        | zero =>
          have E2 := Lib.hid (ts_small A (by omega))
          have E3 : Hid (tsTail s R = 0) := Lib.hid (by rw [← E2.out]; unfold tsTail; rw [if_neg (by omega)])
          clear A
          go_wp2
          all_goals go_ret
          exact ⟨by rw [E3.out]; first | done | rfl, rfl⟩
        | succ m =>
          have hm : m < s.size := by omega
          have hcm := bcell0 hB hm
          have hbm := bAt_lt hm
          have tail34 : m + 1 = R → bAt s m = 34 → tsTail s R = m := by
            rintro rfl h; unfold tsTail; rw [Nat.add_sub_cancel, if_pos ⟨by omega, h⟩]
          have tailno : m + 1 = R → bAt s m ≠ 34 → tsTail s R = m + 1 := by
            rintro rfl h; unfold tsTail; rw [Nat.add_sub_cancel, if_neg (fun hh => h hh.2)]
          cases m with
          | zero =>
            have E2 := ts_small A (by omega)
            by_cases h34 : bAt s 0 = 34
            · have E3 := Lib.hid (tail34 E2 h34)
              have hd : ((s[0].toNat : Int) == 34) = true := by rw [← hbm, h34]; rfl
              clear A E2 tail34 tailno hbm h34
              go_wp2
              all_goals go_ret
              exact ⟨by rw [E3.out]; first | done | rfl, rfl⟩
            · have E3 := Lib.hid (tailno E2 h34)
              have hd : ((s[0].toNat : Int) == 34) = false := by rw [← hbm]; simpa using h34
              clear A E2 tail34 tailno hbm h34
              go_wp2
              all_goals go_ret
              exact ⟨by rw [E3.out]; first | done | rfl, rfl⟩
          | succ j =>
            have hj : j < s.size := by omega
            have hcj := bcell0 hB hj
            have hbj := bAt_lt hj
            by_cases h34 : bAt s (j + 1) = 34
            · have hd : ((s[j + 1].toNat : Int) == 34) = true := by rw [← hbm, h34]; rfl
              by_cases h92 : bAt s j = 92
              · have A2 := ts_step A (fun h => h.2 h92)
                have hd2 : ((s[j].toNat : Int) != 92) = false := by rw [← hbj, h92]; rfl
                clear A tail34 tailno hbm hbj h34 h92
                go_wp2
                go_roundg (j + 1)
                case measure => omega
                case rel => exact ⟨j + 1, rfl, Nat.le_refl _, by omega, rfl, A2⟩
              · have E2 := ts_stop A ⟨h34, h92⟩
                have E3 := Lib.hid (tail34 E2 h34)
                have hd2 : ((s[j].toNat : Int) != 92) = true := by rw [← hbj]; simpa using h92
                clear A E2 tail34 tailno hbm hbj h34 h92
                go_wp2
                all_goals go_ret
                exact ⟨by rw [E3.out]; first | done | rfl, rfl⟩
            · have A2 := ts_step A (fun h => h34 h.1)
              have hd : ((s[j + 1].toNat : Int) == 34) = false := by rw [← hbm]; simpa using h34
              clear A tail34 tailno hbm hbj h34
              go_wp2
              go_roundg (j + 1)
              case measure => omega
              case rel => exact ⟨j + 1, rfl, Nat.le_refl _, by omega, rfl, A2⟩
    · have HH : Hid (tsHead s = s.size) := Lib.hid (by unfold tsHead; rw [if_neg (fun h => h34 h.2)])
      have hd : ((s[s.size - 1].toNat : Int) == 34) = false := by rw [← hbp]; simpa using h34
      clear h0 hbp h34
      generalize hq : s.size - 1 = q at *
      clear hq
      go_enter Try.func36, Try.ntmps36
      go_wp2
      clear hcp hd hix2 hpos
      go_loopg [0] s.size (fun g v wr => ∃ k : Nat, v = .slice (some ⟨b, 0, none⟩) k cap ∧ k ≤ g ∧ k ≤ s.size ∧ wr = w ∧ Aside (tsLoop s k = R))
      case atStart => exact ⟨_, rfl, by omega, by omega, rfl, key _ HH.out⟩
      case round =>
        clear key HH
        obtain ⟨k, rfl, hkg, hks, rfl, A⟩ := hrel
        cases k with
        | zero =>
          have E2 := Lib.hid (ts_small A (by omega))
          have E3 : Hid (tsTail s R = 0) := Lib.hid (by rw [← E2.out]; unfold tsTail; rw [if_neg (by omega)])
          clear A
          go_wp2
          all_goals go_ret
          exact ⟨by rw [E3.out]; first | done | rfl, rfl⟩
        | succ m =>
          have hm : m < s.size := by omega
          have hcm := bcell0 hB hm
          have hbm := bAt_lt hm
          have tail34 : m + 1 = R → bAt s m = 34 → tsTail s R = m := by
            rintro rfl h; unfold tsTail; rw [Nat.add_sub_cancel, if_pos ⟨by omega, h⟩]
          have tailno : m + 1 = R → bAt s m ≠ 34 → tsTail s R = m + 1 := by
            rintro rfl h; unfold tsTail; rw [Nat.add_sub_cancel, if_neg (fun hh => h hh.2)]
          cases m with
          | zero =>
            have E2 := ts_small A (by omega)
            by_cases h34 : bAt s 0 = 34
            · have E3 := Lib.hid (tail34 E2 h34)
              have hd : ((s[0].toNat : Int) == 34) = true := by rw [← hbm, h34]; rfl
              clear A E2 tail34 tailno hbm h34
              go_wp2
              all_goals go_ret
              exact ⟨by rw [E3.out]; first | done | rfl, rfl⟩
            · have E3 := Lib.hid (tailno E2 h34)
              have hd : ((s[0].toNat : Int) == 34) = false := by rw [← hbm]; simpa using h34
              clear A E2 tail34 tailno hbm h34
              go_wp2
              all_goals go_ret
              exact ⟨by rw [E3.out]; first | done | rfl, rfl⟩
          | succ j =>
            have hj : j < s.size := by omega
            have hcj := bcell0 hB hj
            have hbj := bAt_lt hj
            by_cases h34 : bAt s (j + 1) = 34
            · have hd : ((s[j + 1].toNat : Int) == 34) = true := by rw [← hbm, h34]; rfl
              by_cases h92 : bAt s j = 92
              · have A2 := ts_step A (fun h => h.2 h92)
                have hd2 : ((s[j].toNat : Int) != 92) = false := by rw [← hbj, h92]; rfl
                clear A tail34 tailno hbm hbj h34 h92
                go_wp2
                go_roundg (j + 1)
                case measure => omega
                case rel => exact ⟨j + 1, rfl, Nat.le_refl _, by omega, rfl, A2⟩
              · have E2 := ts_stop A ⟨h34, h92⟩
                have E3 := Lib.hid (tail34 E2 h34)
                have hd2 : ((s[j].toNat : Int) != 92) = true := by rw [← hbj]; simpa using h92
                clear A E2 tail34 tailno hbm hbj h34 h92
                go_wp2
                all_goals go_ret
                exact ⟨by rw [E3.out]; first | done | rfl, rfl⟩
            · have A2 := ts_step A (fun h => h34 h.1)
              have hd : ((s[j + 1].toNat : Int) == 34) = false := by rw [← hbm]; simpa using h34
              clear A tail34 tailno hbm hbj h34
              go_wp2
              go_roundg (j + 1)
              case measure => omega
              case rel => exact ⟨j + 1, rfl, Nat.le_refl _, by omega, rfl, A2⟩

theorem trimN_le (s : ByteArray) : trimN s ≤ s.size := by
  have h1 : tsHead s ≤ s.size := by unfold tsHead; split <;> omega
  have h2 := tsLoop_le s (tsHead s)
  unfold trimN tsTail
  split <;> omega

theorem wireTrim_any (s : ByteArray) (w : World) (hs : s.size ≤ maxLen) :
    Calls Try.prog 16 #[.string s] w fun e w' => e = .returned (.string (s.extract 0 (trimN s))) ∧ Below w.heap.size w w' := by
  obtain ⟨cap, w1, hcv, C⟩ := convB s w
  have hb := C.below
  have hn := trimN_le s
  have hback := Lib.run_convert_window (P := Try.prog) w1 46 5 9 Try.underlying46 Try.underlying5 Try.underlying9 w.heap.size 0 s C.bytes 0 (trimN s) cap (by omega)
  rw [Nat.zero_add, Nat.zero_add] at hback
  go_enter Try.func16, Try.ntmps16
  go_wp2_with fail
  refine (trim_any s _ cap w1 C.bytes hs C.cap_ge (C.cap_le hs)).mono ?_
  rintro e w2 ⟨rfl, rfl⟩
  go_wp2_with fail
  all_goals go_ret
  exact ⟨rfl, hb⟩

theorem head_of (a t : ByteArray) : (a ++ t).extract 0 a.size = a := by
  apply ByteArray.ext
  apply Array.toList_inj.1
  simp
  exact List.take_of_length_le (by simp)

theorem last_ok (c : Int) (h : c = 123 ∨ c = 91 ∨ c = 44 ∨ c = 58 ∨ isSp c = true) : c ≠ 92 := by
  rintro rfl
  rcases h with h | h | h | h | h
  · omega
  · omega
  · omega
  · omega
  · exact absurd h (by decide)

set_option maxRecDepth 100000 in
set_option maxHeartbeats 1000000 in
/-- The law's end: what stands behind the checks. -/
theorem trim_core (a t : ByteArray) (w : World) (ha : a.size ≤ maxLen) (ht : t.size ≤ maxLen) (hz1 : ¬ 2147483647 < (a.size : Int)) (hz2 : ¬ 2147483647 < (t.size : Int)) :
    Calls Try.prog 4 #[.string a, .string t] w fun e w' => e = .returned (.bool true) ∧ Below w.heap.size w w' := by
  have ha' := ha
  have ht' := ht
  unfold maxLen at ha' ht'
  obtain ⟨n, hn⟩ : ∃ n, Hid (cameN t (shP t true) = n) := ⟨_, Lib.hid rfl⟩
  obtain ⟨how, hh⟩ : ∃ n, Hid (cameHow t (shP t true) = n) := ⟨_, Lib.hid rfl⟩
  obtain ⟨r, hr⟩ : ∃ r, Hid ((decide (a.size ≤ 4000) && decide (t.size ≤ 4000)) = r) := ⟨_, Lib.hid rfl⟩
  cases r
  · go_enter Try.func4, Try.ntmps4
    go_wp2_with fail
    refine (stringHead_any t true _ ht (by omega)).mono ?_
    rw [hn.out, hh.out]
    rintro e w1 ⟨rfl, hb1⟩
    go_wp2_with fail
    refine (short2 a t _ _ false hr (strs2 _ _ _ _) ha ht).mono ?_
    rintro e w2 ⟨rfl, rfl⟩
    go_wp2_with fail
    all_goals go_ret
    exact ⟨rfl, hb1.alloc hb1.size _⟩
  have h4 : a.size ≤ 4000 ∧ t.size ≤ 4000 := by have := hr.out; simpa using this
  obtain ⟨h4a, h4t⟩ := h4
  by_cases hw : how = 0
  · have hP : (shP t true).1 = true := by
      have h1 := hh.out
      rw [hw] at h1
      unfold cameHow at h1
      split at h1
      · assumption
      · split at h1 <;> omega
    by_cases hnn : n = (t.size : Int)
    · -- a string
      obtain ⟨q, σ, HQ⟩ := named (St.quoted t (!true) ⟨0, 0, false⟩)
      have hq1 : q = true := by have : (shP t true).1 = q := by unfold shP; rw [HQ.out]
                                rw [← this]; exact hP
      subst hq1
      have hat : σ.at_ + 1 = t.size := by
        have h1 := hn.out
        rw [hnn] at h1
        have h2 : shP t true = (true, { σ with at_ := σ.at_ + 1 }) := by unfold shP; rw [HQ.out]; simp
        rw [h2] at h1
        unfold cameN at h1
        simp at h1
        omega
      have J := fun hh => trim_join a t σ HQ.out hat hh
      have JJ := Lib.hid J
      clear J
      have hsz : (a ++ t).size ≤ maxLen := by rw [ByteArray.size_append]; unfold maxLen; omega
      have hw' : ((how != 0) : Bool) = false := by simp [hw]
      have hn' : ((n != (t.size : Int)) : Bool) = false := by simp [hnn]
      by_cases ha0 : a.size = 0
      · have E := Lib.hid (JJ.out (.inl ha0))
        have hk : (a.size : Int) - 1 < 0 := by omega
        have hk2 : ¬ (0 : Int) ≤ (a.size : Int) - 1 := by omega
        have hao : a.toList.isEmpty = true := empty_yes ha0
        have HA := Lib.hid ha0
        clear hw hnn ha0
        go_enter Try.func4, Try.ntmps4
        go_wp2_with fail
        refine (stringHead_any t true _ ht (by omega)).mono ?_
        rw [hn.out, hh.out]
        rintro e w1 ⟨rfl, hb1⟩
        go_wp2_with fail
        refine (short2 a t _ _ true hr (strs2 _ _ _ _) ha ht).mono ?_
        rintro e w2 ⟨rfl, rfl⟩
        go_wp2_with fail
        refine (wireTrim_any (a ++ t) _ hsz).mono ?_
        rw [E.out, head_of]
        rintro e w3 ⟨rfl, hb3⟩
        have hb : Below w.heap.size w w3 := (hb1.alloc hb1.size _).trans (hb3.mono (by have := hb1.size; simp; omega))
        go_wp2_with fail
        all_goals go_ret
        exact ⟨by simp, hb⟩
      · have hka : a.size - 1 < a.size := by omega
        have hbk := bAt_lt hka
        have hk0 : (0 : Int) ≤ (a.size : Int) - 1 := by omega
        have hix2 : (a.size : Int) - 1 = ((a.size - 1 : Nat) : Int) := by omega
        by_cases hgood : bAt a (a.size - 1) = 123 ∨ bAt a (a.size - 1) = 91 ∨ bAt a (a.size - 1) = 44 ∨ bAt a (a.size - 1) = 58 ∨ isSp (bAt a (a.size - 1)) = true
        · have E := Lib.hid (JJ.out (.inr ⟨last_ok _ hgood, by omega⟩))
          rw [hbk] at hgood
          clear hw hnn ha0 hbk
          generalize hq : a.size - 1 = q at *
          have HQ2 := Lib.hid hq
          clear hq
          have hcases : ((a[q].toNat : Int) != 123) = false ∨ (((a[q].toNat : Int) != 123) = true ∧ ((a[q].toNat : Int) != 91) = false) ∨ (((a[q].toNat : Int) != 123) = true ∧ ((a[q].toNat : Int) != 91) = true ∧ ((a[q].toNat : Int) != 44) = false) ∨ (((a[q].toNat : Int) != 123) = true ∧ ((a[q].toNat : Int) != 91) = true ∧ ((a[q].toNat : Int) != 44) = true ∧ ((a[q].toNat : Int) != 58) = false) ∨ (((a[q].toNat : Int) != 123) = true ∧ ((a[q].toNat : Int) != 91) = true ∧ ((a[q].toNat : Int) != 44) = true ∧ ((a[q].toNat : Int) != 58) = true ∧ isSp (a[q].toNat : Int) = true) := by
            simp only [bne_eq_false_iff_eq, bne_iff_ne, ne_eq]
            by_cases h1 : (a[q].toNat : Int) = 123
            · exact .inl h1
            by_cases h2 : (a[q].toNat : Int) = 91
            · exact .inr (.inl ⟨h1, h2⟩)
            by_cases h3 : (a[q].toNat : Int) = 44
            · exact .inr (.inr (.inl ⟨h1, h2, h3⟩))
            by_cases h5 : (a[q].toNat : Int) = 58
            · exact .inr (.inr (.inr (.inl ⟨h1, h2, h3, h5⟩)))
            · refine .inr (.inr (.inr (.inr ⟨h1, h2, h3, h5, ?_⟩)))
              rcases hgood with h | h | h | h | h
              · exact absurd h h1
              · exact absurd h h2
              · exact absurd h h3
              · exact absurd h h5
              · exact h
          clear hgood
          rcases hcases with g1 | ⟨g1, g2⟩ | ⟨g1, g2, g3⟩ | ⟨g1, g2, g3, g4⟩ | ⟨g1, g2, g3, g4, g5⟩
          all_goals
            go_enter Try.func4, Try.ntmps4
            go_wp2_with fail
            refine (stringHead_any t true _ ht (by omega)).mono ?_
            rw [hn.out, hh.out]
            rintro e w1 ⟨rfl, hb1⟩
            go_wp2_with fail
            refine (short2 a t _ _ true hr (strs2 _ _ _ _) ha ht).mono ?_
            rintro e w2 ⟨rfl, rfl⟩
            go_wp2_with (first | (go_at_call 15; refine (isSpace _ _).mono ?_; rintro e w9 ⟨rfl, rfl⟩) | fail)
            refine (wireTrim_any (a ++ t) _ hsz).mono ?_
            rw [E.out, head_of]
            rintro e w3 ⟨rfl, hb3⟩
            have hb : Below w.heap.size w w3 := (hb1.alloc hb1.size _).trans (hb3.mono (by have := hb1.size; simp; omega))
            go_wp2_with fail
            all_goals go_ret
            exact ⟨by simp, hb⟩
        · have hno : ((a[a.size - 1].toNat : Int) != 123) = true ∧ ((a[a.size - 1].toNat : Int) != 91) = true ∧ ((a[a.size - 1].toNat : Int) != 44) = true ∧ ((a[a.size - 1].toNat : Int) != 58) = true ∧ isSp (a[a.size - 1].toNat : Int) = false := by
            rw [← hbk]
            simp only [bne_iff_ne, ne_eq]
            refine ⟨fun h => hgood (.inl h), fun h => hgood (.inr (.inl h)), fun h => hgood (.inr (.inr (.inl h))), fun h => hgood (.inr (.inr (.inr (.inl h)))), ?_⟩
            cases h : isSp (bAt a (a.size - 1))
            · rfl
            · exact absurd (.inr (.inr (.inr (.inr h)))) hgood
          clear hw hnn ha0 hbk hgood
          generalize hq : a.size - 1 = q at *
          clear hq
          obtain ⟨g1, g2, g3, g4, g5⟩ := hno
          go_enter Try.func4, Try.ntmps4
          go_wp2_with fail
          refine (stringHead_any t true _ ht (by omega)).mono ?_
          rw [hn.out, hh.out]
          rintro e w1 ⟨rfl, hb1⟩
          go_wp2_with fail
          refine (short2 a t _ _ true hr (strs2 _ _ _ _) ha ht).mono ?_
          rintro e w2 ⟨rfl, rfl⟩
          go_wp2_with (first | (go_at_call 15; refine (isSpace _ _).mono ?_; rintro e w9 ⟨rfl, rfl⟩) | fail)
          all_goals go_ret
          exact ⟨rfl, hb1.alloc hb1.size _⟩
    · have hw' : ((how != 0) : Bool) = false := by simp [hw]
      have hn' : ((n != (t.size : Int)) : Bool) = true := by simpa using hnn
      clear hw hnn
      go_enter Try.func4, Try.ntmps4
      go_wp2_with fail
      refine (stringHead_any t true _ ht (by omega)).mono ?_
      rw [hn.out, hh.out]
      rintro e w1 ⟨rfl, hb1⟩
      go_wp2_with fail
      refine (short2 a t _ _ true hr (strs2 _ _ _ _) ha ht).mono ?_
      rintro e w2 ⟨rfl, rfl⟩
      go_wp2_with fail
      all_goals go_ret
      exact ⟨rfl, hb1.alloc hb1.size _⟩
  · have hw' : ((how != 0) : Bool) = true := by simpa using hw
    clear hw
    go_enter Try.func4, Try.ntmps4
    go_wp2_with fail
    refine (stringHead_any t true _ ht (by omega)).mono ?_
    rw [hn.out, hh.out]
    rintro e w1 ⟨rfl, hb1⟩
    go_wp2_with fail
    refine (short2 a t _ _ true hr (strs2 _ _ _ _) ha ht).mono ?_
    rintro e w2 ⟨rfl, rfl⟩
    go_wp2_with fail
    all_goals go_ret
    exact ⟨rfl, hb1.alloc hb1.size _⟩

theorem walk_FnWireTrimString (a t : ByteArray) (ha : a.size ≤ maxLen) (ht : t.size ≤ maxLen) (w : World) :
    Calls Try.prog 4 #[.string a, .string t] w fun e w' => e = .returned (.bool true) ∧ Below w.heap.size w w' := by
  by_cases hz : 2147483647 < (a.size : Int) ∨ ¬ 2147483647 < (a.size : Int) ∧ 2147483647 < (t.size : Int)
  · have ha' := ha
    have ht' := ht
    unfold maxLen at ha' ht'
    rcases hz with hz | ⟨hz, hz2⟩
    all_goals
      go_enter Try.func4, Try.ntmps4
      go_wp2_with fail
      all_goals go_ret
      exact ⟨rfl, Below.refl _ _⟩
  · exact trim_core a t w ha ht (by omega) (by omega)
end Go.Proofs.Ytbjgbaffaognhaa

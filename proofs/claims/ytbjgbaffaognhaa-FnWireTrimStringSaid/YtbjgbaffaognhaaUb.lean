/- Whole numbers: the walks. -/
import Derived.Test.YtbjgbaffaognhaaUa
import Derived.Test.YtbjgbaffaognhaaLb
namespace Go.Proofs.Ytbjgbaffaognhaa
open Go.RowKit
set_option linter.unusedVariables false

theorem convBack (s : ByteArray) (b cap : Nat) (w : World) (hB : Lib.Bytes w b 0 s) :
    (convert 46 9 (.slice (some ⟨b, 0, none⟩) s.size cap)).run Try.prog w = .ok (.string s) w :=
  Lib.run_convert_whole w 46 5 9 Try.underlying46 Try.underlying5 Try.underlying9 b 0 s hB cap

/-- What is known where the loop over the digits has ended. -/
theorem dg_step {s : ByteArray} {k D : Nat} (A : Aside (dgEnd s (s.size - k) k = D)) (hlt : k < s.size) (h : isDg (bAt s k) = true) : Aside (dgEnd s (s.size - (k + 1)) (k + 1) = D) := by
  have A0 : dgEnd s (s.size - k) k = D := A
  rw [show s.size - k = (s.size - (k + 1)) + 1 by omega, dgEnd, if_pos ⟨hlt, h⟩] at A0
  exact A0
theorem dg_stop {s : ByteArray} {k D : Nat} (A : Aside (dgEnd s (s.size - k) k = D)) (h : ¬ (k < s.size ∧ isDg (bAt s k) = true)) : k = D := by
  have A0 : dgEnd s (s.size - k) k = D := A
  cases hn : s.size - k with
  | zero => rw [hn] at A0; exact A0
  | succ n => rw [hn, dgEnd, if_neg h] at A0; exact A0

set_option maxHeartbeats 1000000 in
theorem parseUint_any (s : ByteArray) (b cap : Nat) (w : World) (hB : Lib.Bytes w b 0 s) (hs : s.size ≤ maxLen) :
    Calls Try.prog 37 #[.slice (some ⟨b, 0, none⟩) s.size cap] w fun e w' => e = .returned (.tuple #[.int .u64 (uintN s), .bool (uintB s)]) ∧ w' = w := by
  unfold maxLen at hs
  have hcv := convBack s b cap w hB
  obtain ⟨D, HD⟩ : ∃ D, Hid (dgEnd s s.size 0 = D) := ⟨_, Lib.hid rfl⟩
  have A0 : Aside (dgEnd s (s.size - 0) 0 = D) := HD.out
  go_enter Try.func37, Try.ntmps37
  go_wp2
  go_loop [2, 4] (fun v n => ∃ k : Nat, k ≤ s.size ∧ n = .int .i64 k ∧ v = .int .u64 (m64 (valN s k)) ∧ Aside (dgEnd s (s.size - k) k = D)) (fun v n => s.size - (intOf n).toNat)
  case atStart => exact ⟨0, Nat.zero_le _, rfl, rfl, A0⟩
  case round =>
    obtain ⟨k, hk, rfl, rfl, A⟩ := hrel
    have hm := m64_bd (valN s k)
    obtain ⟨v, HV⟩ : ∃ v, Hid (m64 (valN s k) = v) := ⟨_, Lib.hid rfl⟩
    rw [HV.out] at hm ⊢
    by_cases hlt : k < s.size
    · have hc := bcell0 hB hlt
      have hb := bAt_lt hlt
      by_cases h1 : 48 ≤ (s[k].toNat : Int) ∧ (s[k].toNat : Int) ≤ 57
      · have A' := dg_step A hlt (by rw [hb]; simp [isDg]; omega)
        have E : Hid (m64 (valN s (k + 1)) = IntKind.u64.wrap (IntKind.u64.wrap (10 * v) + ((s[k].toNat : Int) - 48))) := Lib.hid (by
          rw [valN, hb, ← m64_step, HV.out]
          congr 2
          omega)
        obtain ⟨h1, h2⟩ := h1
        clear A hb
        go_wp2
        go_round
        case rel => exact ⟨k + 1, by omega, by go_num, by rw [E.out], A'⟩
        case measure => simp [intOf]; omega
      · have E := dg_stop A (fun h => h1 (by have := h.2; rw [hb] at this; simp [isDg] at this; omega))
        have HN : Hid (uintN s = 0 ∧ uintB s = false) := Lib.hid (by unfold uintN uintB; rw [HD.out, ← E]; simp [hlt])
        have hne : ((s.size : Int) == (k : Int)) = false := by simp; omega
        have h1' : (decide (48 ≤ (s[k].toNat : Int)) = false) ∨ (decide (48 ≤ (s[k].toNat : Int)) = true ∧ decide ((s[k].toNat : Int) ≤ 57) = false) := by
          by_cases h : 48 ≤ (s[k].toNat : Int)
          · exact .inr ⟨by simpa using h, by simp; omega⟩
          · exact .inl (by simpa using h)
        clear A hb h1 hcv HV hm E
        by_cases hk0 : k = 0
        · have hk0' : ((k : Int) == 0) = true := by simp [hk0]
          clear hk0
          rcases h1' with h | ⟨h, h'⟩
          all_goals
            go_wp2
            all_goals go_ret2
            exact ⟨by rw [HN.out.1, HN.out.2]; first | done | rfl, rfl⟩
        · have hk0' : ((k : Int) == 0) = false := by simp; omega
          rcases h1' with h | ⟨h, h'⟩
          all_goals
            go_wp2
            all_goals go_ret2
            exact ⟨by rw [HN.out.1, HN.out.2]; first | done | rfl, rfl⟩
    · have E := dg_stop A (fun h => hlt h.1)
      have hks : k = s.size := by omega
      by_cases hk0 : k = 0
      · have HN : Hid (uintN s = 0 ∧ uintB s = false) := Lib.hid (by unfold uintN uintB; rw [HD.out, ← E]; simp [hk0])
        have hk0' : ((k : Int) == 0) = true := by simp [hk0]
        have hge : s.size ≤ k := by omega
        clear A E hk0 hks hcv HV hm
        go_wp2
        all_goals go_ret2
        exact ⟨by rw [HN.out.1, HN.out.2]; first | done | rfl, rfl⟩
      · have hk0' : ((k : Int) == 0) = false := by simp; omega
        have hks' : ((s.size : Int) == (k : Int)) = true := by simp; omega
        have hge : s.size ≤ k := by omega
        have hp : 0 < s.size := by omega
        have hc := bcell0 hB hp
        have hb := bAt_lt hp
        have HK := Lib.hid hks
        have HKD := Lib.hid E
        have Hd : Hid (∀ j, j < k → isDg (bAt s j) = true) := Lib.hid (fun j hj => dgEnd_dg s s.size 0 j (Nat.zero_le _) (by rw [HD.out, ← E]; exact hj))
        clear A E hks
        by_cases h48 : (s[0].toNat : Int) = 48
        · have h48' : ((s[0].toNat : Int) == 48) = true := by simp [h48]
          by_cases hk1 : 1 < k
          · have HN : Hid (uintN s = 0 ∧ uintB s = false) := Lib.hid (by unfold uintN uintB; rw [HD.out, ← HKD.out]; simp [hb, h48, hk1])
            have hne : (s.toList == [48]) = false := by
              rw [beq_eq_false_iff_ne]; intro e
              rw [ByteArray.toList_eq] at e
              have := congrArg List.length e
              have hsz : s.data.toList.length = s.size := by simp
              rw [hsz, ← HK.out] at this
              simp at this
              omega
            clear hb h48 HV hm
            go_wp2
            all_goals go_ret2
            exact ⟨by rw [HN.out.1, HN.out.2]; first | done | rfl, rfl⟩
          · have hk1' : k = 1 := by omega
            have hv : valN s k = 0 := by rw [hk1']; simp [valN, hb, h48]
            have HN : Hid (uintN s = v ∧ uintB s = true) := Lib.hid (by
              unfold uintN uintB; rw [HD.out, ← HKD.out, ← HK.out]
              rw [← HV.out, hv]; simp [hk1']; decide)
            have heq : (s.toList == [48]) = true := by
              rw [ByteArray.toList_eq, beq_iff_eq]
              have hsz : s.data.toList.length = s.size := by simp
              have h1 : s.data.toList.length = 1 := by rw [hsz, ← HK.out, hk1']
              have h0 : s.data.toList[0]'(by omega) = 48 := by
                have : s[0] = 48 := by apply UInt8.toNat_inj.1; show s[0].toNat = 48; omega
                exact this
              match hl : s.data.toList, h1 with
              | [x], _ => simp only [hl] at h0; rw [show x = 48 from h0]
            have h20 : decide ((20 : Int) ≤ (k : Int)) = false := by simp; omega
            clear hb h48 HV hm hv hk1'
            go_wp2
            all_goals go_ret2
            exact ⟨by rw [HN.out.1, HN.out.2]; first | done | rfl, rfl⟩
        · have h48' : ((s[0].toNat : Int) == 48) = false := by simp; omega
          have O := over_iff s k HK.out (by omega) Hd.out (fun h => h48 (by rw [← hb]; exact h.2))
          have HN0 : uintN s = (if valN s k ≤ mx64 then (valN s k : Int) else (mx64 : Int)) ∧ uintB s = decide (valN s k ≤ mx64) := by
            have hno : ¬ (k = 0 ∨ k < k ∨ (1 < k ∧ bAt s 0 = 48)) := by
              rintro (h | h | h)
              · omega
              · omega
              · exact h48 (by rw [← hb]; exact h.2)
            unfold uintN uintB
            rw [HD.out, ← HKD.out, ← HK.out]
            rw [if_neg hno, if_neg hno]
            exact ⟨rfl, rfl⟩
          rw [HV.out] at O
          by_cases hle : valN s k ≤ mx64
          · have HN : Hid (uintN s = v ∧ uintB s = true) := Lib.hid (by rw [HN0.1, HN0.2, if_pos hle, ← O.2.2.2.2 hle]; simp [hle])
            by_cases h20 : k < 20
            · have h20' : decide ((20 : Int) ≤ (k : Int)) = false := by simp; omega
              clear hb h48 HV hm O HN0
              go_wp2
              all_goals go_ret2
              exact ⟨by rw [HN.out.1, HN.out.2]; first | done | rfl, rfl⟩
            · have hk20 : k = 20 := by
                rcases Nat.lt_or_ge 20 k with h | h
                · exact absurd hle (O.2.2.2.1 h)
                · omega
              have h49 : bAt s 0 = 49 := by
                by_cases h : bAt s 0 = 49
                · exact h
                · exact absurd hle (O.2.2.1 hk20 h)
              have hv := (O.2.1 hk20 h49).2 hle
              have h49' : ((s[0].toNat : Int) == 49) = true := by rw [← hb]; simp [h49]
              have h49'' : ((s[0].toNat : Int) != 49) = false := by rw [← hb]; simp [h49]
              have h20' : decide ((20 : Int) ≤ (k : Int)) = true := by simp; omega
              have h20'' : decide ((20 : Int) < (k : Int)) = false := by simp; omega
              have hv' : decide (v < 10000000000000000000) = false := by simpa using hv
              clear hb h48 HV hm O HN0 hv h49 hk20
              go_wp2
              all_goals go_ret2
              exact ⟨by rw [HN.out.1, HN.out.2]; first | done | rfl, rfl⟩
          · have HN : Hid (uintN s = (mx64 : Int) ∧ uintB s = false) := Lib.hid (by rw [HN0.1, HN0.2, if_neg hle]; simp [hle])
            have h20 : 20 ≤ k := by
              rcases Nat.lt_or_ge k 20 with h | h
              · exact absurd (O.1 h).1 hle
              · exact h
            have h20' : decide ((20 : Int) ≤ (k : Int)) = true := by simp; omega
            have h3 : ((s[0].toNat : Int) != 49) = true ∨ (((s[0].toNat : Int) != 49) = false ∧ ((s[0].toNat : Int) == 49) = true ∧ decide (v < 10000000000000000000) = true) ∨ (((s[0].toNat : Int) != 49) = false ∧ ((s[0].toNat : Int) == 49) = true ∧ decide (v < 10000000000000000000) = false ∧ decide ((20 : Int) < (k : Int)) = true) := by
              by_cases h49 : bAt s 0 = 49
              · have a1 : ((s[0].toNat : Int) != 49) = false := by rw [← hb]; simp [h49]
                have a2 : ((s[0].toNat : Int) == 49) = true := by rw [← hb]; simp [h49]
                by_cases hv : v < 10000000000000000000
                · exact .inr (.inl ⟨a1, a2, by simpa using hv⟩)
                · refine .inr (.inr ⟨a1, a2, by simpa using hv, ?_⟩)
                  have : k ≠ 20 := fun h => hle ((O.2.1 h h49).1 (by omega))
                  simp; omega
              · exact .inl (by rw [← hb]; simpa using h49)
            have HM : Hid ((mx64 : Int) = 18446744073709551615) := Lib.hid rfl
            clear hb h48 HV hm O HN0 hle
            rcases h3 with h | ⟨h, h', h5⟩ | ⟨h, h', h5, h6⟩
            all_goals
              go_wp2
              all_goals go_ret2
              exact ⟨by rw [HN.out.1, HN.out.2, HM.out]; first | done | rfl, rfl⟩

/-- The digits at the beginning. -/
theorem digits_any (s : ByteArray) (w : World) (hs : s.size ≤ maxLen) :
    Calls Try.prog 38 #[.string s] w fun e w' => e = .returned (.int .i64 (dgEnd s s.size 0)) ∧ w' = w := by
  unfold maxLen at hs
  obtain ⟨D, HD⟩ : ∃ D, Hid (dgEnd s s.size 0 = D) := ⟨_, Lib.hid rfl⟩
  have A0 : Aside (dgEnd s (s.size - 0) 0 = D) := HD.out
  rw [HD.out]
  go_enter Try.func38, Try.ntmps38
  go_wp2
  go_loop [3] (fun n => ∃ k : Nat, k ≤ s.size ∧ n = .int .i64 k ∧ Aside (dgEnd s (s.size - k) k = D)) (fun n => s.size - (intOf n).toNat)
  case atStart => exact ⟨0, Nat.zero_le _, rfl, A0⟩
  case round =>
    obtain ⟨k, hk, rfl, A⟩ := hrel
    by_cases hlt : k < s.size
    · have hb := bAt_lt hlt
      by_cases h1 : 48 ≤ (s[k].toNat : Int) ∧ (s[k].toNat : Int) ≤ 57
      · have A' := dg_step A hlt (by rw [hb]; simp [isDg]; omega)
        obtain ⟨h1, h2⟩ := h1
        clear A hb
        go_wp2
        go_round
        case rel => exact ⟨k + 1, by omega, by go_num, A'⟩
        case measure => simp [intOf]; omega
      · have E := Lib.hid (dg_stop A (fun h => h1 (by have := h.2; rw [hb] at this; simp [isDg] at this; omega)))
        have h1' : (decide (48 ≤ (s[k].toNat : Int)) = false) ∨ (decide (48 ≤ (s[k].toNat : Int)) = true ∧ decide ((s[k].toNat : Int) ≤ 57) = false) := by
          by_cases h : 48 ≤ (s[k].toNat : Int)
          · exact .inr ⟨by simpa using h, by simp; omega⟩
          · exact .inl (by simpa using h)
        clear A hb h1
        rcases h1' with h | ⟨h, h'⟩
        all_goals
          go_wp2
          all_goals go_ret
          exact ⟨ret_int (by rw [E.out]), rfl⟩
    · have E := Lib.hid (dg_stop A (fun h => hlt h.1))
      clear A
      go_wp2
      all_goals go_ret
      exact ⟨ret_int (by rw [E.out]), rfl⟩
end Go.Proofs.Ytbjgbaffaognhaa

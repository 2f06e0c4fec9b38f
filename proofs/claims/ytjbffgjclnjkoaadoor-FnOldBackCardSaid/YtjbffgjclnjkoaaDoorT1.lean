/- Joined texts: Tr, Ss, Tg, Te. -/
import Derived.Test.YtjbffgjclnjkoaaDoorSa
import Derived.Test.YtjbffgjclnjkoaaDoorCb
import Derived.Test.YtjbffgjclnjkoaaDoorAc
import Derived.Test.YtjbffgjclnjkoaaDoorFd
import Derived.Test.YtjbffgjclnjkoaaDoorK1
namespace Go.Proofs.YtjbffgjclnjkoaaDoor
set_option linter.unusedVariables false
set_option linter.unusedSimpArgs false
section
/- (Tr) spec.IsSpace. -/
open Go.RowKit

set_option maxRecDepth 100000 in
set_option maxHeartbeats 1000000 in
theorem isSp_any (x : Int) (w : World) : Calls Tryd.prog 11 #[.int .u8 x] w fun e w' => e = .returned (.bool (isW x)) ∧ w' = w := by
  go_enter Tryd.func11, Tryd.ntmps11
  by_cases h1 : x = 32
  · subst h1
    go_wp2_with fail
    all_goals go_ret
    exact ⟨rfl, rfl⟩
  by_cases h2 : x = 9
  · subst h2
    go_wp2_with fail
    all_goals go_ret
    exact ⟨rfl, rfl⟩
  by_cases h3 : x = 10
  · subst h3
    go_wp2_with fail
    all_goals go_ret
    exact ⟨rfl, rfl⟩
  by_cases h4 : x = 13
  · subst h4
    go_wp2_with fail
    all_goals go_ret
    exact ⟨rfl, rfl⟩
  have hw : isW x = false := by simp [isW, h1, h2, h3, h4]
  rw [hw]
  have e1 : (x == 32) = false := by simpa using h1
  have e2 : (x == 9) = false := by simpa using h2
  have e3 : (x == 10) = false := by simpa using h3
  have e4 : (x == 13) = false := by simpa using h4
  clear h1 h2 h3 h4 hw
  go_wp2_with fail
  all_goals go_ret
  exact ⟨rfl, rfl⟩
end
section
/- (Ss) laws.spaces8: a text of white space alone. -/
open Go.RowKit Go.Shelf

set_option maxRecDepth 100000 in
set_option maxHeartbeats 4000000 in
theorem spaces8_any (s : ByteArray) (hs : s.size ≤ 9000) (w : World) :
    Calls Tryd.prog 5 #[.string s] w fun e w' => e = .returned (.bool ((bl s).all isW)) ∧ Below w.heap.size w w' := by
  obtain ⟨R, hR⟩ : ∃ R, ((bl s).all isW) = R := ⟨_, rfl⟩
  rw [hR]
  have hsI : (s.size : Int) ≤ 9000 := by omega
  have A0 : Aside ((((bl s).drop 0).all isW) = R) := hR
  clear hR
  go_enter Tryd.func5, Tryd.ntmps5
  go_wp2_with fail
  go_loopg [3, 6] s.size (fun g u i wr => ∃ k : Nat, i = .int .i64 k ∧ k ≤ s.size ∧ s.size - k ≤ g ∧ Below w.heap.size w wr ∧ Aside ((((bl s).drop k).all isW) = R))
  case atStart => exact ⟨0, rfl, Nat.zero_le _, by omega, Below.refl _ _, A0⟩
  case round =>
    clear A0
    obtain ⟨k, rfl, hk, hg, hb, A⟩ := hrel
    unfold Aside at A
    by_cases hlt : k < s.size
    case neg =>
      obtain rfl : k = s.size := by omega
      rw [List.drop_of_length_le (by rw [bl_len]; exact Nat.le_refl _)] at A
      obtain rfl : true = R := by rw [← A]; rfl
      clear A
      go_wp2_with fail
      all_goals go_ret
      exact ⟨rfl, hb⟩
    have hkI : (k : Int) < (s.size : Int) := by omega
    rw [bl_drop hlt, List.all_cons] at A
    obtain ⟨c, hc⟩ : ∃ c, (s[k].toNat : Int) = c := ⟨_, rfl⟩
    rw [hc] at A
    have hsp := isSp_any c
    obtain ⟨F, hF⟩ : ∃ F, isW c = F := ⟨_, rfl⟩
    rw [hF] at A hsp
    clear hF
    cases F with
    | false =>
      obtain rfl : false = R := by rw [← A]; rfl
      clear A
      go_wp2_with (go_at_call 11; refine (hsp _).mono ?_; rintro e w1 ⟨rfl, rfl⟩)
      all_goals go_ret
      exact ⟨rfl, hb⟩
    | true =>
      rw [Bool.true_and] at A
      have A1 : Aside ((((bl s).drop (k + 1)).all isW) = R) := A
      clear A
      go_wp2_with (go_at_call 11; refine (hsp _).mono ?_; rintro e w1 ⟨rfl, rfl⟩)
      go_roundg (gk - 1)
      case measure => omega
      case rel => exact ⟨k + 1, by go_num, by omega, by omega, hb, A1⟩
end
section
/- (Tg) spec.Trailing: the white space at a text's end. -/
open Go.RowKit Go.Shelf

set_option maxRecDepth 100000 in
set_option maxHeartbeats 4000000 in
theorem trail_any (s : ByteArray) (hs : s.size ≤ 100000000000) (w : World) :
    Calls Tryd.prog 10 #[.string s] w fun e w' => ∃ k, k ≤ s.size ∧ e = .returned (.string (s.extract k s.size)) ∧ (∀ x ∈ (bl s).drop k, isW x = true) ∧ (∀ h : 0 < k, ∀ h2 : k - 1 < s.size, isW (s[k - 1].toNat : Int) = false) ∧ Below w.heap.size w w' := by
  have hsI : (s.size : Int) ≤ 100000000000 := by omega
  go_enter Tryd.func10, Tryd.ntmps10
  go_wp2_with fail
  go_loopg [3] s.size (fun g i wr => ∃ k : Nat, i = .int .i64 k ∧ k ≤ s.size ∧ k ≤ g ∧ Below w.heap.size w wr ∧ ∀ x ∈ (bl s).drop k, isW x = true)
  case atStart => exact ⟨s.size, rfl, Nat.le_refl _, Nat.le_refl _, Below.refl _ _, fun x hx => by rw [List.drop_of_length_le (by rw [bl_len]; exact Nat.le_refl _)] at hx; cases hx⟩
  case round =>
    obtain ⟨k, rfl, hk, hg, hb, A⟩ := hrel
    rcases Nat.eq_zero_or_pos k with h0 | h0
    · subst h0
      go_wp2_with fail
      all_goals go_ret
      exact ⟨0, Nat.zero_le _, by simp, A, fun h => absurd h (by decide), hb⟩
    · obtain ⟨j, rfl⟩ : ∃ j, k = j + 1 := ⟨k - 1, by omega⟩
      have hj : j < s.size := by omega
      have hjI : (j : Int) < (s.size : Int) := by omega
      have e1 : ((j : Int) + 1) - 1 = j := by omega
      have e2 : (0 : Int) < (j : Int) + 1 := by omega
      obtain ⟨c, hc⟩ : ∃ c, (s[j].toNat : Int) = c := ⟨_, rfl⟩
      have hsp := isSp_any c
      have hd : (bl s).drop j = c :: (bl s).drop (j + 1) := by rw [bl_drop hj, hc]
      have A1 : isW c = true → ∀ x ∈ (bl s).drop j, isW x = true := fun h x hx => by
        rw [hd] at hx
        rcases List.mem_cons.1 hx with rfl | hx
        · exact h
        · exact A x hx
      have A2 : isW c = false → ∀ h : 0 < j + 1, ∀ h2 : j + 1 - 1 < s.size, isW (s[j + 1 - 1].toNat : Int) = false := fun h _ _ => by simpa [hc] using h
      have hA : Hid (∀ x ∈ (bl s).drop (j + 1), isW x = true) := Lib.hid A
      clear A hd
      obtain ⟨F, hF⟩ : ∃ F, isW c = F := ⟨_, rfl⟩
      rw [hF] at A1 A2 hsp
      clear hF
      cases F with
      | false =>
        have A3 := Lib.hid (A2 rfl)
        clear A1 A2
        go_wp2_with (go_at_call 11; refine (hsp _).mono ?_; rintro e w1 ⟨rfl, rfl⟩)
        all_goals go_ret
        exact ⟨j + 1, hk, by simp, hA.out, A3.out, hb⟩
      | true =>
        have A3 := Lib.hid (A1 rfl)
        clear A1 A2
        go_wp2_with (go_at_call 11; refine (hsp _).mono ?_; rintro e w1 ⟨rfl, rfl⟩)
        go_roundg (gk - 1)
        case measure => omega
        case rel => exact ⟨j, by go_num, by omega, by omega, hb, A3.out⟩
end
section
/- (Te) The white space at a text's end is what is left of its layout; texts of lists. Plain. -/
open Go.RowKit Go.Shelf

theorem trail_eq {s : ByteArray} {k : Nat} (hv : VQ sc0 (bl s)) (hk : k ≤ s.size) (h1 : ∀ x ∈ (bl s).drop k, isW x = true) (h2 : ∀ h : 0 < k, ∀ h2 : k - 1 < s.size, isW (s[k - 1].toNat : Int) = false) : (bl s).drop k = trQ sc0 (bl s) := by
  obtain ⟨l0, e, t1, t2, -⟩ := tr_spec (bl s) sc0 wl0 hv
  have hdn : (bl s).drop l0.length = trQ sc0 (bl s) := by
    conv => lhs; rw [e]
    exact List.drop_left
  rcases Nat.lt_trichotomy k l0.length with h | h | h
  · exfalso
    rcases t2 with rfl | ⟨a, b, rfl, hb⟩
    · simp at h
    · have hd : (bl s).drop a.length = b :: trQ sc0 (bl s) := by
        conv => lhs; rw [e, List.append_assoc]
        exact List.drop_left
      have hk2 : k ≤ a.length := by simp at h; omega
      have hm : b ∈ (bl s).drop k := by
        have : ((bl s).drop k).drop (a.length - k) = b :: trQ sc0 (bl s) := by rw [List.drop_drop, Nat.add_sub_cancel' hk2]; exact hd
        exact List.mem_of_mem_drop (this ▸ List.mem_cons_self)
      rw [h1 b hm] at hb
      cases hb
  · rw [h]; exact hdn
  · exfalso
    have hlt : k - 1 < s.size := by omega
    have h3 := h2 (by omega) hlt
    have hd : (bl s).drop (k - 1) = (s[k - 1].toNat : Int) :: (bl s).drop (k - 1 + 1) := bl_drop hlt
    have hm : (s[k - 1].toNat : Int) ∈ (bl s).drop l0.length := by
      have : ((bl s).drop l0.length).drop (k - 1 - l0.length) = (s[k - 1].toNat : Int) :: (bl s).drop (k - 1 + 1) := by rw [List.drop_drop, Nat.add_sub_cancel' (by omega)]; exact hd
      exact List.mem_of_mem_drop (this ▸ List.mem_cons_self)
    rw [hdn] at hm
    rw [t1 _ hm] at h3
    cases h3
theorem bl_ext {s : ByteArray} {k : Nat} (hk : k ≤ s.size) : bl (s.extract k s.size) = (bl s).drop k := by
  unfold bl
  rw [ByteArray.data_extract, Array.toList_extract, ← List.map_drop]
  congr 1
  have : s.data.toList.length = s.size := Array.length_toList
  rw [List.extract_eq_take_drop, List.take_of_length_le (by rw [List.length_drop, this]; omega)]
theorem txt_app (a b : List Int) : txt (a ++ b) = txt a ++ txt b := by
  unfold txt
  rw [List.map_append]
  apply ByteArray.ext
  simp [ByteArray.data_append]
theorem txt_ext {s : ByteArray} {k : Nat} {a R : List Int} (hk : k ≤ s.size) (hR : (bl s).drop k = R) : txt a ++ s.extract k s.size = txt (a ++ R) := by
  rw [txt_app, ← hR, ← bl_ext hk, txt_bl]
end
end Go.Proofs.YtjbffgjclnjkoaaDoor

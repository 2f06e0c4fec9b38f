/- The scanner's codes and those of the reference: the walk of the law. -/
import Derived.Test.YtjbffgjclnjkoaaRc
import Derived.Test.YtjbffgjclnjkoaaSt
namespace Go.Proofs.Ytjbffgjclnjkoaa
set_option linter.unusedVariables false
set_option linter.unusedSimpArgs false
open Go.RowKit Go.Shelf

set_option maxRecDepth 100000 in
set_option maxHeartbeats 2000000 in
theorem walk_FnOldScan (a0 : ByteArray) (w0 : a0.size ≤ maxLen) (w : World) :
    Calls Try.prog 3 #[.string a0] w fun e w' => e = .returned (.bool true) ∧ Below w.heap.size w w' := by
  have hs := w0
  unfold maxLen at hs
  by_cases hz : 2147483647 < (a0.size : Int)
  · go_enter Try.func3, Try.ntmps3
    go_wp2_with fail
    all_goals go_ret
    exact ⟨rfl, Below.refl _ _⟩
  · obtain ⟨r, hr⟩ : ∃ r, Hid (decide (a0.size ≤ 1000) = r) := ⟨_, Lib.hid rfl⟩
    go_enter Try.func3, Try.ntmps3
    go_wp2_with fail
    refine (f8one a0 _ _ r hr (strs1 _ _ _) w0).mono ?_
    rintro e w1 ⟨rfl, hw1⟩
    have hb1 : Below w.heap.size w w1 := by rw [hw1]; exact (Below.refl _ _).alloc (Nat.le_refl _) _
    clear hw1
    cases r
    · go_wp2_with fail
      all_goals go_ret
      exact ⟨rfl, hb1⟩
    · have hsz : a0.size ≤ 1000 := by have := hr.out; simpa using this
      have h1 := oldScan_any a0 (by omega) w1
      have h2 := fun w' => codes_any a0 (by omega) w'
      have hln := codes_len (bl a0) sc0
      rw [bl_len] at hln
      obtain ⟨L, hL⟩ : ∃ L, (codesQ sc0 (bl a0)).1 = L := ⟨_, rfl⟩
      obtain ⟨F, hF⟩ : ∃ F, (codesQ sc0 (bl a0)).2 = F := ⟨_, rfl⟩
      rw [hL] at hln
      rw [hL, hF] at h1
      rw [hL, hF] at h2
      clear hL hF hz
      cases F
      all_goals
        go_upto_region 7 with (first
          | (go_at_call 7; refine h1.mono ?_; rintro e w2 ⟨cv1, rfl, hR1⟩; obtain ⟨a1, c1, rfl, hc1, hm1, hcl1⟩ := own_ints hR1.row rfl)
          | (go_at_call 8; refine (h2 _).mono ?_; rintro e w3 ⟨cv2, rfl, hR2⟩; obtain ⟨a2, c2, rfl, hc2, hm2, hcl2⟩ := own_ints hR2.row rfl))
        have hb3 : Below w.heap.size w w3 := (hb1.trans (hR1.below.mono hb1.size)).trans (hR2.below.mono (Nat.le_trans hb1.size hR1.below.size))
        have hk1 : ∀ k, k < L.length → ∃ g, a1 = some ⟨g, 0, none⟩ ∧ w3.cell? ⟨g, k, none⟩ = some (.int .i64 (L.getD k 0)) := fun k hk => by
          obtain ⟨g, e1, e2⟩ := hcl1 k hk
          refine ⟨g, e1, (World.cell?_of_block (hR2.below.block g ?_)).trans e2⟩
          exact (hR1.row.lt g (by rw [e1]; rfl)).2
        obtain ⟨n, hn⟩ : ∃ n, L.length = n := ⟨_, rfl⟩
        rw [hn] at hln hc1 hc2 hk1 hcl2 ⊢
        have hnI : (n : Int) ≤ 1001 := by omega
        clear hcl1 hR1 hR2 hb1 h1 h2 hn
        go_wp2_with fail
        go_loopg [38] n (fun g i wr => ∃ (k : Nat), i = .int .i64 k ∧ k ≤ n ∧ n - k ≤ g ∧ wr = w3)
        case atStart => exact ⟨0, rfl, Nat.zero_le _, by omega, rfl⟩
        case round =>
          obtain ⟨k, rfl, hk, hg, hwr⟩ := hrel
          subst hwr
          by_cases hlt : k < n
          case neg =>
            obtain rfl : k = n := by omega
            go_wp2_with fail
            all_goals go_ret
            exact ⟨rfl, hb3⟩
          have hkI : (k : Int) < (n : Int) := by omega
          obtain ⟨g1, rfl, d1⟩ := hk1 k hlt
          obtain ⟨g2, rfl, d2⟩ := hcl2 k hlt
          generalize L.getD k 0 = x at d1 d2
          have hxx : (x != x) = false := by simp
          clear hk1 hcl2
          go_wp2_with fail
          go_roundg (gk - 1)
          case measure => omega
          case rel => exact ⟨k + 1, by go_num, by omega, by omega, rfl⟩
end Go.Proofs.Ytjbffgjclnjkoaa

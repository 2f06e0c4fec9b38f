/- impl.OldTight and impl.OldSafe over plain bytes. -/
import Derived.Test.YtjbffgjclnjkoaaAe
import Derived.Test.YtjbffgjclnjkoaaSt
import Derived.Deep.RegionWith
namespace Go.Proofs.Ytjbffgjclnjkoaa
set_option linter.unusedVariables false
set_option linter.unusedSimpArgs false
open Go.RowKit Go.Shelf

theorem bwT {w a b : World} (h : Below w.heap.size w a) (k : Below a.heap.size a b) : Below w.heap.size w b := Below.trans h (Below.mono k h.size)
theorem heS_by : ∀ (l : List Int) (n : Nat), By8 l → By8 (heS n l)
  | [], n, _ => by intro x hx; simp [heS] at hx
  | a :: t, n + 1, h => by rw [heS]; exact heS_by t n (fun x hx => h x (.tail _ hx))
  | a :: t, 0, h => by
    have ha := h a (.head _)
    have ht : By8 t := fun x hx => h x (.tail _ hx)
    have h0 := heS_by t 0 ht
    have h2 := heS_by t 2 ht
    rw [heS]
    split
    · refine By8.app ?_ h0
      have a1 := hxD_by (n := a / 16) (by omega) (by omega)
      have a2 := hxD_by (n := a % 16) (by omega) (by omega)
      intro x hx; simp at hx; omega
    · split
      · refine By8.app ?_ h2
        have a2 := hxD_by (n := t.getD 1 0 % 16) (by omega) (by omega)
        intro x hx; simp only [List.mem_cons, List.not_mem_nil, or_false] at hx
        omega
      · intro x hx
        rcases List.mem_cons.1 hx with rfl | hx
        · exact ha
        · exact h0 x hx
theorem heL_by {l : List Int} (h : By8 l) : By8 (heL l) := heS_by l 0 h
theorem cmp_mem : ∀ (l : List Int) (σ : Sc) (x : Int), x ∈ cmpQ σ l → x ∈ l
  | [], σ, x, h => by simp [cmpQ, K] at h
  | c :: l, σ, x, h => by
    by_cases h9 : (stepQ σ c).1 < 9
    · rw [cmp_lt h9] at h
      rcases List.mem_cons.1 h with rfl | h
      · exact .head _
      · exact .tail _ (cmp_mem l _ x h)
    · rw [cmp_ge (by omega)] at h
      exact .tail _ (cmp_mem l _ x h)
theorem cmp_by {l : List Int} (h : By8 l) (σ : Sc) : By8 (cmpQ σ l) := fun x hx => h x (cmp_mem l σ x hx)
theorem cmp_len : ∀ (l : List Int) (σ : Sc), (cmpQ σ l).length ≤ l.length
  | [], σ => by simp [cmpQ, K]
  | c :: l, σ => by
    have := cmp_len l (stepQ σ c).2
    by_cases h9 : (stepQ σ c).1 < 9
    · rw [cmp_lt h9]; simpa using this
    · rw [cmp_ge (by omega)]; simp; omega
set_option maxRecDepth 100000 in
set_option maxHeartbeats 1000000 in
theorem offset_nil (w : World) : Calls Try.prog 23 #[.nilIface] w fun e w' => e = .returned (.int .i64 (-1)) ∧ w' = w := by
  go_enter Try.func23, Try.ntmps23
  go_wp2_with (go_at_call 37; go_in)
  all_goals go_ret
  exact ⟨rfl, rfl⟩
set_option maxRecDepth 100000 in
set_option maxHeartbeats 4000000 in
theorem oldSafe_any (a s : ByteArray) (w : World) (ha : a.size ≤ 100000000000) (hs : s.size ≤ 100000000000) :
    Calls Try.prog 16 #[.string a, .string s] w fun e w' => e = .returned (.string (txt (bl a ++ heL (bl s)))) ∧ Below w.heap.size w w' := by
  obtain ⟨c1, w1, hc1, C1⟩ := cnvB a (by unfold maxLen; omega) w
  obtain ⟨c2, w2, hc2, C2⟩ := cnvB s (by unfold maxLen; omega) w1
  have hbs : Bs w2 w.heap.size _ (bl a) := C1.bs.below C2.below
  have hsz := Nat.le_trans C1.below.size C2.below.size
  have hO := htmlW w.heap.size _ (bl a) s w1.heap.size c2 w2 hbs hsz hs (by rw [bl_len]; omega) C2.cap_ge C2.cap_le C2.bytes (by
    intro e
    have e2 : w.heap.size = w1.heap.size := Option.some.inj e
    have := C1.size
    omega) (by have := C2.size; omega)
  have hb1 := bwT C1.below C2.below
  obtain ⟨m, hm⟩ : ∃ m, a.size = m := ⟨_, rfl⟩
  rw [hm] at hc1 hO hbs
  generalize bl a ++ heL (bl s) = R at hO ⊢
  clear C1 C2 hm ha hs
  go_enter Try.func16, Try.ntmps16
  go_wp2_with (first | (go_at_call 38; refine hO.mono ?_; rintro e w3 ⟨v3, rfl, hb3, hA3⟩; have hcv := bs_str hb3) | (go_at_call 24; go_in))
  all_goals go_ret
  exact ⟨rfl, hb1.trans (hA3.below hbs hsz)⟩
set_option maxRecDepth 100000 in
set_option maxHeartbeats 4000000 in
theorem oldTight_any (a s : ByteArray) (esc : Bool) (w : World) (ha : a.size ≤ 100000000000) (hs : s.size ≤ 8999) (hv : validQ sc0 (bl s) = true) :
    Calls Try.prog 15 #[.string a, .string s, .bool esc] w fun e w' => (∃ n, e = .returned (.tuple #[.string (txt (bl a ++ if esc = true then heL (cmpQ sc0 (bl s)) else cmpQ sc0 (bl s))), .bool true, .int .i64 n])) ∧ Below w.heap.size w w' := by
  obtain ⟨c1, w1, hc1, C1⟩ := cnvB a (by unfold maxLen; omega) w
  obtain ⟨c2, w2, hc2, C2⟩ := cnvB s (by unfold maxLen; omega) w1
  have hbs : Bs w2 w.heap.size _ (bl a) := C1.bs.below C2.below
  have hsz := Nat.le_trans C1.below.size C2.below.size
  have hd : DepQ 9000 sc0 (bl s) := dep_len 9000 (bl s) sc0 inv0 (by rw [bl_len]; show 0 + s.size ≤ 9000; omega)
  have hne : (Value.slice (some ⟨w.heap.size, 0, none⟩) a.size c1).ownBlock ≠ some w1.heap.size := by
    intro e
    have e2 : w.heap.size = w1.heap.size := Option.some.inj e
    have := C1.size
    omega
  have hO : Calls Try.prog 36 #[.slice (some ⟨w.heap.size, 0, none⟩) a.size c1, .slice (some ⟨w1.heap.size, 0, none⟩) s.size c2, .bool esc] w2 (CompR w.heap.size (.slice (some ⟨w.heap.size, 0, none⟩) a.size c1) w2 (bl a) (if esc = true then heL (cmpQ sc0 (bl s)) else cmpQ sc0 (bl s)) true) := by
    cases esc
    · have := compF w.heap.size _ (bl a) s w1.heap.size c2 w2 hbs hsz (by omega) (by rw [bl_len]; omega) C2.cap_ge C2.cap_le C2.bytes hne (by have := C2.size; omega) hd
      rw [hv] at this
      exact this
    · have := compT w.heap.size _ (bl a) s w1.heap.size c2 w2 hbs hsz (by omega) (by rw [bl_len]; omega) C2.cap_ge C2.cap_le C2.bytes hne (by have := C2.size; omega) hd
      rw [hv] at this
      exact this
  have hb1 := bwT C1.below C2.below
  generalize (if esc = true then heL (cmpQ sc0 (bl s)) else cmpQ sc0 (bl s)) = R at hO ⊢
  obtain ⟨m, hm⟩ : ∃ m, a.size = m := ⟨_, rfl⟩
  rw [hm] at hc1 hO hbs
  clear C1 C2 hm ha hs hd hv hne
  go_enter Try.func15, Try.ntmps15
  go_upto_region 2 with (first
    | (go_at_call 36; refine hO.mono ?_; rintro e w3 ⟨v3, u3, rfl, hA3, hgood, _⟩; obtain ⟨rfl, hb3⟩ := hgood rfl)
    | (go_at_call 22; go_in))
  have hcv : ∀ nq, (convert 42 9 v3).run Try.prog (w3.drewN nq) = .ok (.string (txt (bl a ++ R))) (w3.drewN nq) := fun nq => bs_str (hb3.drewN nq)
  have hoff := fun nq => offset_nil (w3.drewN nq)
  have hf := hb1.trans (hA3.below hbs hsz)
  clear hO hA3 hgood hb3
  go_quiet ((go_at_call 23; exact Calls.quiet_of_same (offset_nil _)))
  go_wp2_with fail
  all_goals go_ret3
  have hR : Below w.heap.size w (w3.drewN nq) := ⟨hf.os, hf.tape, hf.output, hf.size, hf.block⟩
  first | exact ⟨⟨_, rfl⟩, hR⟩ | exact ⟨_, hR⟩ | exact hR
end Go.Proofs.Ytjbffgjclnjkoaa

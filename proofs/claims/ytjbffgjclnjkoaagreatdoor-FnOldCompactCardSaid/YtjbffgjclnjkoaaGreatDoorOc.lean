/- impl.OldCompact and impl.OldIndent. Printed by genoc.py. -/
import Derived.Test.YtjbffgjclnjkoaaGreatDoorB1
namespace Go.Proofs.YtjbffgjclnjkoaaGreatDoor
set_option linter.unusedVariables false
set_option linter.unusedSimpArgs false
open Go.RowKit Go.Shelf

theorem bwO {w a b : World} (h : Below w.heap.size w a) (k : Below a.heap.size a b) : Below w.heap.size w b := Below.trans h (Below.mono k h.size)
theorem bufS_below {w w' : World} {b B : Nat} {v : Value} {l : List Int} (h : BufS w b B v l) (k : Below w.heap.size w w') : BufS w' b B v l := by
  obtain ⟨lr, hc⟩ := h.cell
  exact ⟨h.hB, ⟨lr, (k.block b (lt_of_block hc)).trans hc⟩, h.bs.below k⟩
theorem cmpO_len : ∀ (l : List Int) (σ : Sc), (cmpQ σ l).length ≤ l.length
  | [], σ => by simp [cmpQ, K]
  | c :: l, σ => by
    have := cmpO_len l (stepQ σ c).2
    by_cases h9 : (stepQ σ c).1 < 9
    · rw [cmp_lt h9]; simpa using this
    · rw [cmp_ge (by omega)]; simp; omega
/-- What the buffer comes to, seen from the world ahead of it. -/
theorem CompO.fin {w w2 w3 : World} {m cap : Nat} {l T : List Int} {V : Bool} {u : Value} (h : CompO (w.heap.size + 1) w.heap.size m l T V (.slice (some ⟨w.heap.size, 0, none⟩) m cap) w2 u w3) (hb : Below w.heap.size w w2) :
    Below w.heap.size w w3 ∧ (V = true → u = .nilIface ∧ ∃ g o m cap, BufS w3 (w.heap.size + 1) w.heap.size (.slice (some ⟨g, o, none⟩) m cap) (l ++ T)) ∧
      (V = false → ∃ (p : Nat) (es : ByteArray) (n : Int), u = .iface 103 (.pointer (some ⟨p, 0, none⟩)) ∧ w3.heap[p]? = some (.cells #[.string es, .int .i64 n] 107 (0, 0)) ∧ ∃ g o m cap, BufS w3 (w.heap.size + 1) w.heap.size (.slice (some ⟨g, o, none⟩) m cap) l) := by
  obtain ⟨g, o, cp, R, k1, k2, h1, h2⟩ := h
  refine ⟨Below.trans hb ⟨k2.os, k2.tape, k2.output, k2.size, fun k hk => k2.block k (Nat.lt_of_lt_of_le hk hb.size) (by omega) ?_⟩, fun hV => ?_, fun hV => ?_⟩
  · intro e
    have : w.heap.size = k := by simpa [Value.ownBlock] using e
    omega
  · obtain ⟨rfl, rfl⟩ := h1 hV
    exact ⟨rfl, g, o, _, cp, k1⟩
  · obtain ⟨rfl, p, es, n, rfl, hp⟩ := h2 hV
    exact ⟨p, es, n, rfl, hp, g, o, _, cp, by rw [List.append_nil] at k1; exact k1⟩
set_option maxRecDepth 100000 in
set_option maxHeartbeats 4000000 in
theorem oldCompact_ok (a s : ByteArray) (w : World) (ha : a.size ≤ 100000000000) (hs : s.size ≤ 100000000000) (hd : DepQ 9000 sc0 (bl s)) (hs0 : 0 < s.size ∨ a.size = 0) (hv : validQ sc0 (bl s) = true) :
    Calls Tryz.prog 13 #[.string a, .string s] w fun e w' => (∃ n, e = .returned (.tuple #[.string (txt (bl a ++ cmpQ sc0 (bl s))), .bool true, .int .i64 n])) ∧ Below w.heap.size w w' := by
  have hnb := newBuf_any a (by unfold maxLen; omega) w
  have hcc : ∀ (w1 : World) (cap : Nat), BufS w1 (w.heap.size + 1) w.heap.size (.slice (some ⟨w.heap.size, 0, none⟩) a.size cap) (bl a) → Below w.heap.size w w1 → ∃ c2 w2, (convert 9 54 (.string s)).run Tryz.prog w1 = .ok (.slice (some ⟨w1.heap.size, 0, none⟩) s.size c2) w2 ∧
      Calls Tryz.prog 27 #[.pointer (some ⟨w.heap.size + 1, 0, none⟩), .slice (some ⟨w1.heap.size, 0, none⟩) s.size c2] w2 fun e w3 => e = .returned .nilIface ∧ Below w.heap.size w w3 ∧ ∃ g o m cap, BufS w3 (w.heap.size + 1) w.heap.size (.slice (some ⟨g, o, none⟩) m cap) (bl a ++ cmpQ sc0 (bl s)) := by
    intro w1 cap hb1 hbel
    obtain ⟨c2, w2, hc2, C2⟩ := cnvB s (by unfold maxLen; omega) w1
    have hb2 := bufS_below hb1 C2.below
    have hg1 : w.heap.size < w1.heap.size := by obtain ⟨_, _, _, _, _, _, hg, _⟩ := bs_room hb1.bs; exact lt_of_block hg
    have hbb := hb1.lt
    have hbel2 := bwO hbel C2.below
    refine ⟨c2, w2, hc2, (compact_any (w.heap.size + 1) w.heap.size w.heap.size 0 a.size cap (bl a) s w1.heap.size c2 w2 hb2 (Nat.le_trans hbel.size C2.below.size) hs0 hs (by omega) C2.cap_ge C2.cap_le C2.bytes (by omega) (by omega) (by have := C2.size; omega) hd (by rw [← bl_len]; exact cmpO_len _ _)).mono ?_⟩
    rintro e w3 ⟨u, rfl, hO⟩
    obtain ⟨f1, f2, -⟩ := hO.fin hbel2
    obtain ⟨rfl, f3⟩ := f2 hv
    exact ⟨rfl, f1, f3⟩
  generalize bl a ++ cmpQ sc0 (bl s) = T at hcc ⊢
  obtain ⟨m, hm⟩ : ∃ m, a.size = m := ⟨_, rfl⟩
  rw [hm] at hcc hnb
  clear ha hs hs0 hv hm hd
  go_enter Tryz.func13, Tryz.ntmps13
  go_upto_region 3 with (first
    | (go_at_call 17; refine hnb.mono ?_; rintro e w1 ⟨cap, rfl, hb1, hbel⟩; obtain ⟨c2, w2, hc2, hC⟩ := hcc w1 cap hb1 hbel)
    | (go_at_call 27; refine hC.mono ?_; rintro e w3 ⟨rfl, hbw, g, o, m3, cap3, hb3⟩))
  have hst := fun nq => bufStr_any (w.heap.size + 1) w.heap.size g o m3 cap3 T (w3.drewN nq) ⟨hb3.hB, hb3.cell, hb3.bs.drewN nq⟩
  have hbq : ∀ nq, Below w.heap.size w (w3.drewN nq) := fun nq => ⟨hbw.os, hbw.tape, hbw.output, hbw.size, hbw.block⟩
  clear hnb hcc hC hc2 hb1 hbel
  go_region_with (first
    | (go_at_call 19; refine (hst _).mono ?_; rintro e w4 ⟨rfl, nq, rfl⟩)
    | (go_at_call 28; refine (offset_nil _).mono ?_; rintro e w5 ⟨rfl, rfl⟩))
  all_goals go_wp2_with fail
  all_goals go_ret3
  all_goals first | exact ⟨⟨_, rfl⟩, hbq _⟩ | exact hbq _ | exact ⟨rfl, hbq _⟩
set_option maxRecDepth 100000 in
set_option maxHeartbeats 4000000 in
theorem oldCompact_bad (a s : ByteArray) (w : World) (ha : a.size ≤ 100000000000) (hs : s.size ≤ 100000000000) (hd : DepQ 9000 sc0 (bl s)) (hs0 : 0 < s.size ∨ a.size = 0) (hv : validQ sc0 (bl s) = false) :
    Calls Tryz.prog 13 #[.string a, .string s] w fun e w' => (∃ n, e = .returned (.tuple #[.string (txt (bl a)), .bool false, .int .i64 n])) ∧ Below w.heap.size w w' := by
  have hnb := newBuf_any a (by unfold maxLen; omega) w
  have hcc : ∀ (w1 : World) (cap : Nat), BufS w1 (w.heap.size + 1) w.heap.size (.slice (some ⟨w.heap.size, 0, none⟩) a.size cap) (bl a) → Below w.heap.size w w1 → ∃ c2 w2, (convert 9 54 (.string s)).run Tryz.prog w1 = .ok (.slice (some ⟨w1.heap.size, 0, none⟩) s.size c2) w2 ∧
      Calls Tryz.prog 27 #[.pointer (some ⟨w.heap.size + 1, 0, none⟩), .slice (some ⟨w1.heap.size, 0, none⟩) s.size c2] w2 fun e w3 => ∃ (p : Nat) (es : ByteArray) (n : Int), e = .returned (.iface 103 (.pointer (some ⟨p, 0, none⟩))) ∧ Below w.heap.size w w3 ∧ w3.heap[p]? = some (.cells #[.string es, .int .i64 n] 107 (0, 0)) ∧ ∃ g o m cap, BufS w3 (w.heap.size + 1) w.heap.size (.slice (some ⟨g, o, none⟩) m cap) (bl a) := by
    intro w1 cap hb1 hbel
    obtain ⟨c2, w2, hc2, C2⟩ := cnvB s (by unfold maxLen; omega) w1
    have hb2 := bufS_below hb1 C2.below
    have hg1 : w.heap.size < w1.heap.size := by obtain ⟨_, _, _, _, _, _, hg, _⟩ := bs_room hb1.bs; exact lt_of_block hg
    have hbb := hb1.lt
    have hbel2 := bwO hbel C2.below
    refine ⟨c2, w2, hc2, (compact_any (w.heap.size + 1) w.heap.size w.heap.size 0 a.size cap (bl a) s w1.heap.size c2 w2 hb2 (Nat.le_trans hbel.size C2.below.size) hs0 hs (by omega) C2.cap_ge C2.cap_le C2.bytes (by omega) (by omega) (by have := C2.size; omega) hd (by rw [← bl_len]; exact cmpO_len _ _)).mono ?_⟩
    rintro e w3 ⟨u, rfl, hO⟩
    obtain ⟨f1, -, f2⟩ := hO.fin hbel2
    obtain ⟨p, es, n, rfl, f3, f4⟩ := f2 hv
    exact ⟨p, es, n, rfl, f1, f3, f4⟩
  generalize hT : bl a = T at hnb hcc ⊢
  obtain ⟨m, hm⟩ : ∃ m, a.size = m := ⟨_, rfl⟩
  rw [hm] at hcc hnb
  clear ha hs hs0 hv hm hT hd
  go_enter Tryz.func13, Tryz.ntmps13
  go_upto_region 3 with (first
    | (go_at_call 17; refine hnb.mono ?_; rintro e w1 ⟨cap, rfl, hb1, hbel⟩; obtain ⟨c2, w2, hc2, hC⟩ := hcc w1 cap hb1 hbel)
    | (go_at_call 27; refine hC.mono ?_; rintro e w3 ⟨p, es, n, rfl, hbw, hpc, g, o, m3, cap3, hb3⟩))
  have hst : ∀ w4 : World, Below w3.heap.size w3 w4 → Calls Tryz.prog 19 #[.pointer (some ⟨w.heap.size + 1, 0, none⟩)] w4 fun e w' => e = .returned (.string (txt T)) ∧ Below w3.heap.size w3 w' := fun w4 h4 =>
    (bufStr_any (w.heap.size + 1) w.heap.size g o m3 cap3 T w4 (bufS_below hb3 h4)).mono fun e w' ⟨h1, nq, h2⟩ => ⟨h1, by subst h2; exact ⟨h4.os, h4.tape, h4.output, h4.size, h4.block⟩⟩
  have hof : ∀ w4 : World, Below w3.heap.size w3 w4 → Calls Tryz.prog 28 #[.iface 103 (.pointer (some ⟨p, 0, none⟩))] w4 fun e w' => e = .returned (.int .i64 n) ∧ Below w3.heap.size w3 w' := fun w4 h4 =>
    (offset_err p es n w4 ((h4.block p (lt_of_block hpc)).trans hpc)).mono fun e w' ⟨h1, h2⟩ => ⟨h1, bwO h4 h2⟩
  have h0 : Below w3.heap.size w3 w3.drew := ⟨rfl, rfl, rfl, Nat.le_refl _, fun _ _ => rfl⟩
  have hbq : ∀ w', Below w3.heap.size w3 w' → Below w.heap.size w w' := fun w' h => bwO hbw h
  clear hnb hcc hC hc2 hb1 hbel hpc hb3 hbw
  go_region_with (first
    | (go_at_call 19; refine (hst _ (by assumption)).mono ?_; rintro e w4 ⟨rfl, hb4⟩)
    | (go_at_call 28; refine (hof _ (by assumption)).mono ?_; rintro e w5 ⟨rfl, hb5⟩))
  all_goals go_wp2_with fail
  all_goals go_ret3
  all_goals first | exact ⟨⟨_, rfl⟩, hbq _ (by assumption)⟩ | exact hbq _ (by assumption) | exact ⟨rfl, hbq _ (by assumption)⟩
end Go.Proofs.YtjbffgjclnjkoaaGreatDoor

/- The reference's scanner in memory; its functions comma and inner. -/
import Derived.Test.YtjbffgjclnjkoaaBl
namespace Go.Proofs.Ytjbffgjclnjkoaa
set_option linter.unusedVariables false
set_option linter.unusedSimpArgs false
open Go.RowKit Go.Shelf

/-- The reference's scanner lies in block b, what is open is the slice v. -/
structure IsP (w : World) (b B : Nat) (p : Sp) (v : Value) : Prop where
  hB : B ≤ b
  cell : w.heap[b]? = some (.cells #[v, .int .i64 p.st, .bool p.bg] 51 (0, 0))
  row : Bs w B v p.opn.reverse
theorem IsP.lt {w : World} {b B : Nat} {p : Sp} {v : Value} (h : IsP w b B p v) : b < w.heap.size := lt_of_block h.cell
theorem IsP.own_ne {w : World} {b B : Nat} {p : Sp} {v : Value} (h : IsP w b B p v) : v.ownBlock ≠ some b := fun e => by
  obtain ⟨_, ao, cap, hv, _, _, h3⟩ := h.row
  rcases h3 with ⟨rfl, _⟩ | ⟨g, cur, fr, rfl, _, hg, _⟩
  · rw [hv] at e; cases e
  · rw [hv] at e
    obtain rfl : g = b := by simpa [Value.ownBlock] using e
    rw [h.cell] at hg
    injection hg with hg
    injection hg with _ h3
    revert h3; decide
theorem IsP.cells {w : World} {b B : Nat} {p : Sp} {v : Value} (h : IsP w b B p v) : w.cell? ⟨b, 0, none⟩ = some v ∧ w.cell? ⟨b, 1, none⟩ = some (.int .i64 p.st) ∧ w.cell? ⟨b, 2, none⟩ = some (.bool p.bg) ∧ ∀ o, w.frozen? ⟨b, o, none⟩ = false := by
  refine ⟨?_, ?_, ?_, fun o => by simp [World.frozen?, h.cell]⟩
  all_goals simp [World.cell?, h.cell]
theorem IsP.setSt {w : World} {b B : Nat} {p : Sp} {v : Value} (h : IsP w b B p v) (t : Int) : IsP (w.setCell ⟨b, 1, none⟩ (.int .i64 t)) b B { p with st := t } v :=
  ⟨h.hB, heap_setCell_same h.cell _, h.row.same fun g hg => Below.heap_setCell _ _ _ _ (by intro e; exact h.own_ne (by rw [hg]; simpa using e))⟩
theorem IsP.setBg {w : World} {b B : Nat} {p : Sp} {v : Value} (h : IsP w b B p v) (t : Bool) : IsP (w.setCell ⟨b, 2, none⟩ (.bool t)) b B { p with bg := t } v :=
  ⟨h.hB, heap_setCell_same h.cell _, h.row.same fun g hg => Below.heap_setCell _ _ _ _ (by intro e; exact h.own_ne (by rw [hg]; simpa using e))⟩
theorem IsP.newOpen {w w1 : World} {b B : Nat} {p : Sp} {v v' : Value} {l : List Int} (h : IsP w b B p v) (hb : w1.heap[b]? = w.heap[b]?) (hr : Bs w1 B v' l.reverse) (hne : v'.ownBlock ≠ some b) : IsP (w1.setCell ⟨b, 0, none⟩ v') b B { p with opn := l } v' :=
  ⟨h.hB, heap_setCell_same (hb.trans h.cell) _, hr.same fun g hg => Below.heap_setCell _ _ _ _ (by intro e; exact hne (by rw [hg]; simpa using e))⟩
/-- The slice of what is open, where it is not empty. -/
theorem Bs.form1 {w : World} {B : Nat} {v : Value} {l : List Int} {x : Int} (h : Bs w B v (l ++ [x])) : ∃ g cap, v = .slice (some ⟨g, 0, none⟩) (l.length + 1) cap ∧ l.length + 1 ≤ cap ∧ cap ≤ maxLen ∧ w.cell? ⟨g, l.length, none⟩ = some (.int .u8 x) ∧ Bs w B (.slice (some ⟨g, 0, none⟩) l.length cap) l := by
  obtain ⟨h8, ao, cap, hv, h1, h2, h3⟩ := h
  rw [List.length_append, List.length_singleton] at hv h1 h3
  rcases h3 with ⟨rfl, rfl⟩ | ⟨g, cur, fr, rfl, hB, hg, k1, k2, k3⟩
  · omega
  · refine ⟨g, cap, hv, h1, h2, ?_, fun y hy => h8 y (List.mem_append_left _ hy), some ⟨g, 0, none⟩, cap, rfl, by omega, h2, .inr ⟨g, cur, fr, rfl, hB, hg, k1, k2, ?_⟩⟩
    · have : cur.toList[l.length]? = some (.int .u8 x) := by
        have e : (cur.toList.take (l.length + 1))[l.length]? = cur.toList[l.length]? := by rw [List.getElem?_take, if_pos (by omega)]
        rw [← e, k3, bv_app, List.getElem?_append_right (by rw [bv_len]; exact Nat.le_refl _), bv_len, Nat.sub_self]
        rfl
      unfold World.cell?
      dsimp only
      rw [hg]
      simpa using this
    · have e : cur.toList.take l.length = (cur.toList.take (l.length + 1)).take l.length := by rw [List.take_take, Nat.min_eq_left (by omega)]
      rw [e, k3, bv_app, ← bv_len l, List.take_left]
theorem IsP.form {w : World} {b B : Nat} {p : Sp} {v : Value} {x : Int} {r : List Int} (h : IsP w b B p v) (hs : p.opn = x :: r) : ∃ g cap, v = .slice (some ⟨g, 0, none⟩) (r.length + 1) cap ∧ r.length + 1 ≤ cap ∧ cap ≤ maxLen ∧ w.cell? ⟨g, r.length, none⟩ = some (.int .u8 x) ∧ Bs w B (.slice (some ⟨g, 0, none⟩) r.length cap) r.reverse := by
  have hr := h.row
  rw [hs, List.reverse_cons] at hr
  obtain ⟨g, cap, h1, h2, h3, h4, h5⟩ := hr.form1
  rw [List.length_reverse] at h1 h2 h4 h5
  exact ⟨g, cap, h1, h2, h3, h4, h5⟩
set_option maxRecDepth 100000 in
set_option maxHeartbeats 1000000 in
theorem comma_any (b B : Nat) (p : Sp) (v : Value) (w : World) (h : IsP w b B p v) (hne : p.opn ≠ []) :
    Calls Try.prog 32 #[.pointer (some ⟨b, 0, none⟩)] w fun e w' => e = .returned (.int .i64 (if p.opn.head? = some 123 then 4 else 7)) ∧ ∃ n, w' = w.drewN n := by
  obtain ⟨x, r, hs⟩ : ∃ x r, p.opn = x :: r := by cases e : p.opn with | nil => exact absurd e hne | cons x r => exact ⟨x, r, rfl⟩
  obtain ⟨g, cap, rfl, hc1, hc2, cg, _⟩ := h.form hs
  obtain ⟨c0, _, _, _⟩ := h.cells
  have e : (if p.opn.head? = some 123 then (4 : Int) else 7) = if x = 123 then 4 else 7 := by rw [hs]; simp
  rw [e]
  clear e hs h hne
  obtain ⟨n, hn⟩ : ∃ n, r.length = n := ⟨_, rfl⟩
  rw [hn] at c0 cg hc1
  clear hn
  have hnI : (n : Int) + 1 ≤ 9223372036854775807 := by unfold maxLen at hc2; omega
  have hcI : (n : Int) + 1 ≤ (cap : Int) := by omega
  have q0 : ∀ nq, (w.drewN nq).cell? ⟨b, 0, none⟩ = some (.slice (some ⟨g, 0, none⟩) (n + 1) cap) := fun _ => c0
  have q1 : ∀ nq, (w.drewN nq).cell? ⟨g, n, none⟩ = some (.int .u8 x) := fun _ => cg
  by_cases hx : x = 123
  · subst hx
    rw [if_pos rfl]
    go_enter Try.func32, Try.ntmps32
    go_upto_region 1 with fail
    go_quiet (fail)
    go_wp2_with fail
    all_goals go_ret
    first | exact ⟨rfl, _, rfl⟩ | exact ⟨_, rfl⟩
  · have hx' : (x == 123) = false := by simpa using hx
    rw [if_neg hx]
    go_enter Try.func32, Try.ntmps32
    go_upto_region 1 with fail
    go_quiet (fail)
    go_wp2_with fail
    all_goals go_ret
    first | exact ⟨rfl, _, rfl⟩ | exact ⟨_, rfl⟩
set_option maxRecDepth 100000 in
set_option maxHeartbeats 1000000 in
theorem inner_any (b B : Nat) (p : Sp) (v : Value) (c : Int) (w : World) (h : IsP w b B p v) :
    Calls Try.prog 30 #[.pointer (some ⟨b, 0, none⟩), .int .u8 c] w fun e w' => e = .returned (.bool (innS p c).1) ∧ IsP w' b B (innS p c).2 v ∧ Stp b v w v w' := by
  obtain ⟨c0, c1, c2, f0⟩ := h.cells
  have f1 := f0 1
  have hset := fun t => h.setSt t
  have hstp := fun t => Stp.set b v w 1 (.int .i64 t)
  obtain ⟨t, ht⟩ : ∃ t, p.st = t := ⟨_, rfl⟩
  by_cases h3 : t = 3
  · subst h3
    have e : innS p c = (true, { p with st := 2 }) := by unfold innS; rw [if_pos ht]
    rw [e]
    rw [ht] at c1
    clear e h c0 c2 f0
    go_enter Try.func30, Try.ntmps30
    go_wp2_with fail
    all_goals go_ret
    exact ⟨rfl, hset 2, hstp 2⟩
  by_cases h2 : t = 2
  · subst h2
    have e : innS p c = (true, { p with st := if c = 34 then 0 else if c = 92 then 3 else 2 }) := by unfold innS; rw [if_neg (by omega), if_pos ht]
    rw [e]
    rw [ht] at c1
    have h0 := h
    have hp : ({ p with st := 2 } : Sp) = p := by obtain ⟨a, b, d⟩ := p; dsimp only at ht; subst ht; rfl
    clear e h c0 c2 f0
    by_cases h34 : c = 34
    · subst h34
      go_enter Try.func30, Try.ntmps30
      go_wp2_with fail
      all_goals go_ret
      exact ⟨rfl, hset 0, hstp 0⟩
    have h34' : (c == 34) = false := by simpa using h34
    rw [if_neg h34]
    by_cases h92 : c = 92
    · subst h92
      go_enter Try.func30, Try.ntmps30
      go_wp2_with fail
      all_goals go_ret
      exact ⟨rfl, hset 3, hstp 3⟩
    have h92' : (c == 92) = false := by simpa using h92
    rw [if_neg h92, hp]
    clear h34 h92
    go_enter Try.func30, Try.ntmps30
    go_wp2_with fail
    all_goals go_ret
    exact ⟨rfl, h0, Stp.refl _ _ _⟩
  have h3' : (t == 3) = false := by simpa using h3
  have h2' : (t == 2) = false := by simpa using h2
  by_cases h1 : t = 1
  · subst h1
    rw [ht] at c1
    by_cases hb : belB c = true
    · have e : innS p c = (true, p) := inn_in ht hb
      rw [e]
      have h0 := h
      have hbl := belongs_any c w
      rw [hb] at hbl
      clear e h c0 c2 f0
      go_enter Try.func30, Try.ntmps30
      go_wp2_with (first | (go_at_call 44; refine hbl.mono ?_; rintro e w2 ⟨rfl, hw⟩; obtain rfl := hw.symm))
      all_goals go_ret
      exact ⟨rfl, h0, Stp.refl _ _ _⟩
    · have hb' : belB c = false := by simpa using hb
      have e : innS p c = (false, { p with st := 0 }) := inn_out (.inr ⟨ht, hb'⟩)
      rw [e]
      have hbl := belongs_any c w
      rw [hb'] at hbl
      clear e h c0 c2 f0
      go_enter Try.func30, Try.ntmps30
      go_wp2_with (first | (go_at_call 44; refine hbl.mono ?_; rintro e w2 ⟨rfl, hw⟩; obtain rfl := hw.symm))
      all_goals go_ret
      exact ⟨rfl, hset 0, hstp 0⟩
  · have h1' : (t == 1) = false := by simpa using h1
    have e : innS p c = (false, { p with st := 0 }) := by unfold innS; rw [if_neg (by omega), if_neg (by omega), if_neg (by omega)]
    rw [e]
    rw [ht] at c1
    clear e h c0 c2 f0 h1 h2 h3
    go_enter Try.func30, Try.ntmps30
    go_wp2_with fail
    all_goals go_ret
    exact ⟨rfl, hset 0, hstp 0⟩
end Go.Proofs.Ytjbffgjclnjkoaa

/- The walk of the law FnFlagsBack. -/
import Derived.Test.YtbjgbaffaognhaaFm
namespace Go.Proofs.Ytbjgbaffaognhaa
open Go.RowKit
set_option linter.unusedVariables false

theorem bit_facts (n : Nat) (h1 : 1 ≤ n) (h2 : n ≤ 63) : clr (1#64 <<< n) = 1#64 <<< n ∧ (1#64 <<< n) &&& 1#64 = 0#64 ∧ clr ((1#64 <<< n) ||| 1#64) = 1#64 <<< n ∧ ((1#64 <<< n) ||| 1#64) &&& 1#64 = 1#64 ∧ 1#64 <<< n ≠ 0#64 := by
  have hl : ∀ i, i < 64 → (1#64 <<< n).getLsbD i = decide (i = n) := by
    intro i hi
    rw [BitVec.getLsbD_shiftLeft, BitVec.getLsbD_one]
    by_cases e : i = n
    · subst e; simp [hi]
    · by_cases hn : i < n
      · simp [hn, e]
      · have : i - n ≠ 0 := by omega
        simp [hn, e, this]
  have one : ∀ i, i < 64 → (1#64).getLsbD i = decide (i = 0) := by
    intro i hi; rw [BitVec.getLsbD_one]; simp
  refine ⟨?_, ?_, ?_, ?_, ?_⟩
  · apply BitVec.eq_of_getLsbD_eq; intro i hi
    unfold clr
    simp only [BitVec.getLsbD_and, BitVec.getLsbD_not, hl i hi, one i hi]
    by_cases e : i = 0
    · subst e; simp; omega
    · simp [hi, e]
  · apply BitVec.eq_of_getLsbD_eq; intro i hi
    simp only [BitVec.getLsbD_and, hl i hi, one i hi, BitVec.getLsbD_zero]
    by_cases e : i = 0
    · subst e; simp; omega
    · simp [e]
  · apply BitVec.eq_of_getLsbD_eq; intro i hi
    unfold clr
    simp only [BitVec.getLsbD_and, BitVec.getLsbD_or, BitVec.getLsbD_not, hl i hi, one i hi]
    by_cases e : i = 0
    · subst e; simp; omega
    · simp [hi, e]
  · apply BitVec.eq_of_getLsbD_eq; intro i hi
    simp only [BitVec.getLsbD_and, BitVec.getLsbD_or, hl i hi, one i hi]
    by_cases e : i = 0
    · subst e; simp
    · simp [e]
  · intro h
    have := congrArg (fun x => BitVec.getLsbD x n) h
    simp only [hl n (by omega), BitVec.getLsbD_zero] at this
    simp at this

/-- The answers of the law's six questions. -/
theorem back_facts (g t b : BitVec 64) (hb : b ≠ 0#64) :
    decide (0 < N ((g ||| b) &&& b)) = true ∧ decide (0 < N (((t &&& ~~~b) ||| b) &&& b)) = true ∧ decide (0 < N ((t &&& ~~~b) &&& b)) = false ∧
    decide (0 < N (((g ||| b) &&& ~~~b) &&& b)) = false ∧ decide (0 < N ((((t &&& ~~~b) ||| b) &&& ~~~b) &&& b)) = false ∧ decide (0 < N (((t &&& ~~~b) &&& ~~~b) &&& b)) = false := by
  have p : ∀ x : BitVec 64, x = b → decide (0 < N x) = true := by
    rintro x rfl
    have : N x ≠ 0 := fun h => hb (N_inj.1 (show N x = N 0#64 from h))
    have := N_bd x
    simp; omega
  have z : ∀ x : BitVec 64, x = 0#64 → decide (0 < N x) = false := by rintro x rfl; rfl
  refine ⟨p _ ?_, p _ ?_, z _ ?_, z _ ?_, z _ ?_, z _ ?_⟩
  all_goals
    apply BitVec.eq_of_getLsbD_eq; intro i hi
    simp only [BitVec.getLsbD_and, BitVec.getLsbD_or, BitVec.getLsbD_not, BitVec.getLsbD_zero, hi, decide_true, Bool.true_and]
    cases g.getLsbD i <;> cases t.getLsbD i <;> cases b.getLsbD i <;> rfl

theorem wrap_pow (n : Nat) (h : n ≤ 63) : IntKind.u64.wrap ((2:Int)^n) = N (1#64 <<< n) := by
  unfold N
  rw [IntKind.wrap_u64, BitVec.toNat_shiftLeft, Nat.shiftLeft_eq]
  simp

/-- One of two flags is none. -/
def JF (x1 x2 y1 y2 z1 z2 : Int) : Prop := ∃ g t : BitVec 64, (x1 = N g ∧ x2 = N t ∧ y1 = 0 ∧ y2 = 0 ∧ z1 = N g ∧ z2 = N t) ∨ (x1 = 0 ∧ x2 = 0 ∧ y1 = N g ∧ y2 = N t ∧ z1 = N g ∧ z2 = N t)
theorem join_both (x1 x2 y1 y2 z1 z2 : Int) (h : JF x1 x2 y1 y2 z1 z2) (w : World) :
    Calls Try.prog 31 #[.agg #[.int .u64 x1, .int .u64 x2], .agg #[.int .u64 y1, .int .u64 y2]] w fun e w' =>
      e = .returned (.agg #[.int .u64 z1, .int .u64 z2]) ∧ Nw w w' := by
  obtain ⟨g, t, ⟨rfl, rfl, rfl, rfl, rfl, rfl⟩ | ⟨rfl, rfl, rfl, rfl, rfl, rfl⟩⟩ := h
  · exact join_l g t w
  · exact join_r g t w
/-- What is asked, and the answer. -/
def AF (x y : Int) (r : Bool) : Prop := ∃ g b : BitVec 64, x = N g ∧ y = N b ∧ decide (0 < N (g &&& b)) = r
theorem given_af (x y b : Int) (r : Bool) (h : AF x b r) (hy : ∃ t, y = N t) (w : World) :
    Calls Try.prog 29 #[.agg #[.int .u64 x, .int .u64 y], .int .u64 b] w fun e w' => e = .returned (.bool r) ∧ Nw w w' := by
  obtain ⟨g, b, rfl, rfl, h⟩ := h
  obtain ⟨t, rfl⟩ := hy
  exact given_any g t b r h w
theorem true_af (x y b : Int) (r : Bool) (h : AF y b r) (hx : ∃ t, x = N t) (w : World) :
    Calls Try.prog 30 #[.agg #[.int .u64 x, .int .u64 y], .int .u64 b] w fun e w' => e = .returned (.bool r) ∧ Nw w w' := by
  obtain ⟨t, b, rfl, rfl, h⟩ := h
  obtain ⟨g, rfl⟩ := hx
  exact true_any g t b r h w

theorem held6 {w a b : World} {x1 x2 x3 x4 x5 x6 : Addr} {u1 u2 u3 u4 u5 u6 : Value} (h : a.cell? x1 = some u1 ∧ a.cell? x2 = some u2 ∧ a.cell? x3 = some u3 ∧ a.cell? x4 = some u4 ∧ a.cell? x5 = some u5 ∧ a.cell? x6 = some u6 ∧ Nw w a) (hn : Nw a b) :
    b.cell? x1 = some u1 ∧ b.cell? x2 = some u2 ∧ b.cell? x3 = some u3 ∧ b.cell? x4 = some u4 ∧ b.cell? x5 = some u5 ∧ b.cell? x6 = some u6 ∧ Nw w b :=
  ⟨hn.cell h.1, hn.cell h.2.1, hn.cell h.2.2.1, hn.cell h.2.2.2.1, hn.cell h.2.2.2.2.1, hn.cell h.2.2.2.2.2.1, h.2.2.2.2.2.2.trans hn⟩

set_option maxHeartbeats 4000000 in
theorem flags_true (g t B : BitVec 64) (n : Nat) (hw : IntKind.u64.wrap ((2:Int)^n) = N B) (h1 : 1 ≤ n) (h2 : n ≤ 63) (hB0 : B ≠ 0#64) (hB3 : clr (B ||| 1#64) = B) (hB4 : (B ||| 1#64) &&& 1#64 = 1#64) (w : World) (hok : okB g t = true) :
    Calls Try.prog 10 #[.agg #[.int .u64 (N g), .int .u64 (N t)], .int .i64 (n : Int), .bool true] w fun e w' => e = .returned (.bool true) ∧ Nw w w' := by
  have k1 : (1 : Int) ≤ (n : Int) := by omega
  have k2 : (n : Int) ≤ 63 := by omega
  have k3 : bits .or .u64 (N B) 1 = N (B ||| 1#64) := N_or B 1#64
  have hset := fun w => set_one g t (B ||| 1#64) hB4 w
  rw [hB3] at hset
  obtain ⟨a1, a2, _, a4, a5, _⟩ := back_facts g t B hB0
  obtain ⟨G, hG⟩ : ∃ G, g ||| B = G := ⟨_, rfl⟩
  obtain ⟨T, hT⟩ : ∃ T, (t &&& ~~~B) ||| B = T := ⟨_, rfl⟩
  simp only [hG, hT] at hset a1 a2 a4 a5
  have hclr := fun w => clear_any G T B w
  obtain ⟨G', hG'⟩ : ∃ G', G &&& ~~~B = G' := ⟨_, rfl⟩
  obtain ⟨T', hT'⟩ : ∃ T', T &&& ~~~B = T' := ⟨_, rfl⟩
  simp only [hG', hT'] at hclr a4 a5
  have q1 : AF (N G) (N B) true := ⟨_, _, rfl, rfl, a1⟩
  have q2 : AF (N T) (N B) true := ⟨_, _, rfl, rfl, a2⟩
  have q3 : AF (N G') (N B) false := ⟨_, _, rfl, rfl, a4⟩
  have q4 : AF (N T') (N B) false := ⟨_, _, rfl, rfl, a5⟩
  have j1 : JF (N g) (N t) 0 0 (N g) (N t) := ⟨g, t, Or.inl ⟨rfl, rfl, rfl, rfl, rfl, rfl⟩⟩
  have j2 : JF 0 0 (N g) (N t) (N g) (N t) := ⟨g, t, Or.inr ⟨rfl, rfl, rfl, rfl, rfl, rfl⟩⟩
  clear a1 a2 a4 a5 hG hT hG' hT' hB3 hB4 hB0
  go_enter Try.func10, Try.ntmps10
  go_wp2_with fail
  refine (flagsOk_any g t _).mono ?_
  rw [hok]
  rintro e w1 ⟨rfl, rfl⟩
  clear hok
  go_wp2_with fail
  refine (hset _).mono ?_
  rintro e w2 ⟨rfl, hn2⟩
  go_wp2_with fail
  refine (hclr _).mono ?_
  rintro e w3 ⟨rfl, hn3⟩
  go_wp2_with fail
  have n1 : Nw w ((w.alloc (Obj.cells #[Value.int IntKind.u64 (N g), Value.int IntKind.u64 (N t)] 38)).alloc (Obj.cells #[Value.int IntKind.u64 (N g), Value.int IntKind.u64 (N t)] 38)) := ((Nw.refl _).alloc _).alloc _
  have n2 : Nw w (w2.alloc (Obj.cells #[Value.int IntKind.u64 (N G), Value.int IntKind.u64 (N T)] 38)) := (n1.trans hn2).alloc _
  have n3 : Nw w (w3.alloc (Obj.cells #[Value.int IntKind.u64 (N G'), Value.int IntKind.u64 (N T')] 38)) := (n2.trans hn3).alloc _
  have t1 := (((((Two.new w (N g) (N t) 38).alloc (Obj.cells #[Value.int IntKind.u64 (N g), Value.int IntKind.u64 (N t)] 38)).nw hn2).alloc (Obj.cells #[Value.int IntKind.u64 (N G), Value.int IntKind.u64 (N T)] 38)).nw hn3).alloc (Obj.cells #[Value.int IntKind.u64 (N G'), Value.int IntKind.u64 (N T')] 38)
  have t2 := ((Two.new w2 (N G) (N T) 38).nw hn3).alloc (Obj.cells #[Value.int IntKind.u64 (N G'), Value.int IntKind.u64 (N T')] 38)
  have t3 := Two.new w3 (N G') (N T') 38
  have hs0 := And.intro t1.cells.1 (And.intro t1.cells.2.1 (And.intro t2.cells.1 (And.intro t2.cells.2.1 (And.intro t3.cells.1 (And.intro t3.cells.2.1 n3)))))
  have hq := fun x y => eq_flags x y
  have hqg := guard_flags
  clear hn2 hn3 n1 n2 n3 t1 t2 t3
  go_region_held3 (fun w' => w'.cell? ⟨w.heap.size, 0, none⟩ = some (.int .u64 (N g)) ∧ w'.cell? ⟨w.heap.size, 1, none⟩ = some (.int .u64 (N t)) ∧ w'.cell? ⟨w2.heap.size, 0, none⟩ = some (.int .u64 (N G)) ∧ w'.cell? ⟨w2.heap.size, 1, none⟩ = some (.int .u64 (N T)) ∧ w'.cell? ⟨w3.heap.size, 0, none⟩ = some (.int .u64 (N G')) ∧ w'.cell? ⟨w3.heap.size, 1, none⟩ = some (.int .u64 (N T')) ∧ Nw w w')
    (first | exact ⟨hs0.1, hs0.2.1, hs0.2.2.1, hs0.2.2.2.1, hs0.2.2.2.2.1, hs0.2.2.2.2.2.1, hs0.2.2.2.2.2.2.drew⟩ | assumption)
    (first
      | (go_at_call 29; refine (given_af _ _ _ _ (by assumption) ⟨_, rfl⟩ _).mono ?_; rintro e wz ⟨rfl, hn⟩; have qz := held6 (by assumption) hn)
      | (go_at_call 30; refine (true_af _ _ _ _ (by assumption) ⟨_, rfl⟩ _).mono ?_; rintro e wz ⟨rfl, hn⟩; have qz := held6 (by assumption) hn)
      | (go_at_call 31; refine (join_both _ _ _ _ _ _ (by assumption) _).mono ?_; rintro e wz ⟨rfl, hn⟩; have qz := held6 (by assumption) hn))
  rename_i hq
  go_wp2_with fail
  all_goals go_ret
  exact ⟨rfl, hq.2.2.2.2.2.2⟩

set_option maxHeartbeats 4000000 in
theorem flags_false (g t B : BitVec 64) (n : Nat) (hw : IntKind.u64.wrap ((2:Int)^n) = N B) (h1 : 1 ≤ n) (h2 : n ≤ 63) (hB0 : B ≠ 0#64) (hB3 : clr B = B) (hB4 : B &&& 1#64 = 0#64) (w : World) (hok : okB g t = true) :
    Calls Try.prog 10 #[.agg #[.int .u64 (N g), .int .u64 (N t)], .int .i64 (n : Int), .bool false] w fun e w' => e = .returned (.bool true) ∧ Nw w w' := by
  have k1 : (1 : Int) ≤ (n : Int) := by omega
  have k2 : (n : Int) ≤ 63 := by omega
  have hset := fun w => set_zero g t B hB4 w
  rw [hB3] at hset
  obtain ⟨a1, _, a2, a4, _, a5⟩ := back_facts g t B hB0
  obtain ⟨G, hG⟩ : ∃ G, g ||| B = G := ⟨_, rfl⟩
  obtain ⟨T, hT⟩ : ∃ T, t &&& ~~~B = T := ⟨_, rfl⟩
  simp only [hG, hT] at hset a1 a2 a4 a5
  have hclr := fun w => clear_any G T B w
  obtain ⟨G', hG'⟩ : ∃ G', G &&& ~~~B = G' := ⟨_, rfl⟩
  obtain ⟨T', hT'⟩ : ∃ T', T &&& ~~~B = T' := ⟨_, rfl⟩
  simp only [hG', hT'] at hclr a4 a5
  have q1 : AF (N G) (N B) true := ⟨_, _, rfl, rfl, a1⟩
  have q2 : AF (N T) (N B) false := ⟨_, _, rfl, rfl, a2⟩
  have q3 : AF (N G') (N B) false := ⟨_, _, rfl, rfl, a4⟩
  have q4 : AF (N T') (N B) false := ⟨_, _, rfl, rfl, a5⟩
  have j1 : JF (N g) (N t) 0 0 (N g) (N t) := ⟨g, t, Or.inl ⟨rfl, rfl, rfl, rfl, rfl, rfl⟩⟩
  have j2 : JF 0 0 (N g) (N t) (N g) (N t) := ⟨g, t, Or.inr ⟨rfl, rfl, rfl, rfl, rfl, rfl⟩⟩
  clear a1 a2 a4 a5 hG hT hG' hT' hB3 hB4 hB0
  go_enter Try.func10, Try.ntmps10
  go_wp2_with fail
  refine (flagsOk_any g t _).mono ?_
  rw [hok]
  rintro e w1 ⟨rfl, rfl⟩
  clear hok
  go_wp2_with fail
  refine (hset _).mono ?_
  rintro e w2 ⟨rfl, hn2⟩
  go_wp2_with fail
  refine (hclr _).mono ?_
  rintro e w3 ⟨rfl, hn3⟩
  go_wp2_with fail
  have n1 : Nw w ((w.alloc (Obj.cells #[Value.int IntKind.u64 (N g), Value.int IntKind.u64 (N t)] 38)).alloc (Obj.cells #[Value.int IntKind.u64 (N g), Value.int IntKind.u64 (N t)] 38)) := ((Nw.refl _).alloc _).alloc _
  have n2 : Nw w (w2.alloc (Obj.cells #[Value.int IntKind.u64 (N G), Value.int IntKind.u64 (N T)] 38)) := (n1.trans hn2).alloc _
  have n3 : Nw w (w3.alloc (Obj.cells #[Value.int IntKind.u64 (N G'), Value.int IntKind.u64 (N T')] 38)) := (n2.trans hn3).alloc _
  have t1 := (((((Two.new w (N g) (N t) 38).alloc (Obj.cells #[Value.int IntKind.u64 (N g), Value.int IntKind.u64 (N t)] 38)).nw hn2).alloc (Obj.cells #[Value.int IntKind.u64 (N G), Value.int IntKind.u64 (N T)] 38)).nw hn3).alloc (Obj.cells #[Value.int IntKind.u64 (N G'), Value.int IntKind.u64 (N T')] 38)
  have t2 := ((Two.new w2 (N G) (N T) 38).nw hn3).alloc (Obj.cells #[Value.int IntKind.u64 (N G'), Value.int IntKind.u64 (N T')] 38)
  have t3 := Two.new w3 (N G') (N T') 38
  have hs0 := And.intro t1.cells.1 (And.intro t1.cells.2.1 (And.intro t2.cells.1 (And.intro t2.cells.2.1 (And.intro t3.cells.1 (And.intro t3.cells.2.1 n3)))))
  have hq := fun x y => eq_flags x y
  have hqg := guard_flags
  clear hn2 hn3 n1 n2 n3 t1 t2 t3
  go_region_held3 (fun w' => w'.cell? ⟨w.heap.size, 0, none⟩ = some (.int .u64 (N g)) ∧ w'.cell? ⟨w.heap.size, 1, none⟩ = some (.int .u64 (N t)) ∧ w'.cell? ⟨w2.heap.size, 0, none⟩ = some (.int .u64 (N G)) ∧ w'.cell? ⟨w2.heap.size, 1, none⟩ = some (.int .u64 (N T)) ∧ w'.cell? ⟨w3.heap.size, 0, none⟩ = some (.int .u64 (N G')) ∧ w'.cell? ⟨w3.heap.size, 1, none⟩ = some (.int .u64 (N T')) ∧ Nw w w')
    (first | exact ⟨hs0.1, hs0.2.1, hs0.2.2.1, hs0.2.2.2.1, hs0.2.2.2.2.1, hs0.2.2.2.2.2.1, hs0.2.2.2.2.2.2.drew⟩ | assumption)
    (first
      | (go_at_call 29; refine (given_af _ _ _ _ (by assumption) ⟨_, rfl⟩ _).mono ?_; rintro e wz ⟨rfl, hn⟩; have qz := held6 (by assumption) hn)
      | (go_at_call 30; refine (true_af _ _ _ _ (by assumption) ⟨_, rfl⟩ _).mono ?_; rintro e wz ⟨rfl, hn⟩; have qz := held6 (by assumption) hn)
      | (go_at_call 31; refine (join_both _ _ _ _ _ _ (by assumption) _).mono ?_; rintro e wz ⟨rfl, hn⟩; have qz := held6 (by assumption) hn))
  rename_i hq
  go_wp2_with fail
  all_goals go_ret
  exact ⟨rfl, hq.2.2.2.2.2.2⟩

theorem walk_FnFlagsBack (g t : BitVec 64) (a : Int) (yes : Bool) (w1 : (Lit.int .i64 a).wf = true) (w : World) :
    Calls Try.prog 10 #[.agg #[.int .u64 (N g), .int .u64 (N t)], .int .i64 a, .bool yes] w fun e w' => e = .returned (.bool true) ∧ Nw w w' := by
  cases hok : okB g t
  · go_enter Try.func10, Try.ntmps10
    go_wp2_with fail
    refine (flagsOk_any g t _).mono ?_
    rw [hok]
    rintro e w1 ⟨rfl, rfl⟩
    go_wp2_with fail
    all_goals go_ret
    all_goals exact ⟨rfl, ((Nw.refl _).alloc _).alloc _⟩
  · by_cases h1 : a < 1
    · go_enter Try.func10, Try.ntmps10
      go_wp2_with fail
      refine (flagsOk_any g t _).mono ?_
      rw [hok]
      rintro e w1 ⟨rfl, rfl⟩
      clear hok
      go_wp2_with fail
      all_goals go_ret
      all_goals exact ⟨rfl, ((Nw.refl _).alloc _).alloc _⟩
    · by_cases h2 : 63 < a
      · have h1' : 1 ≤ a := by omega
        go_enter Try.func10, Try.ntmps10
        go_wp2_with fail
        refine (flagsOk_any g t _).mono ?_
        rw [hok]
        rintro e w1 ⟨rfl, rfl⟩
        clear hok
        go_wp2_with fail
        all_goals go_ret
        all_goals exact ⟨rfl, ((Nw.refl _).alloc _).alloc _⟩
      · obtain ⟨n, rfl⟩ : ∃ n : Nat, a = n := ⟨a.toNat, by omega⟩
        obtain ⟨b1, b2, b3, b4, b5⟩ := bit_facts n (by omega) (by omega)
        cases yes
        · exact flags_false g t _ n (wrap_pow n (by omega)) (by omega) (by omega) b5 b1 b2 w hok
        · exact flags_true g t _ n (wrap_pow n (by omega)) (by omega) (by omega) b5 b3 b4 w hok
end Go.Proofs.Ytbjgbaffaognhaa

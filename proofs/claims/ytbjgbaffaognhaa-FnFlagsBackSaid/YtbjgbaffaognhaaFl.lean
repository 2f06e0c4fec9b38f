/- Flags: contracts of the small functions, by their bits. -/
import Derived.Test.YtbjgbaffaognhaaPl
import Derived.Test.YtbjgbaffaognhaaRows
import Derived.WalkKit
import Derived.WalkLawsBesides
import Derived.WalkSpells
import Derived.Lib.Hide
import Derived.Handy
import Derived.Deep.RegionHeld3
namespace Go.Proofs.Ytbjgbaffaognhaa
open Go.RowKit
set_option linter.unusedVariables false

/-- A number of 64 bits as the model has it. -/
def N (x : BitVec 64) : Int := (x.toNat : Int)
theorem ofInt_N (x : BitVec 64) : BitVec.ofInt 64 (N x) = x := by
  unfold N; rw [BitVec.ofInt_natCast, BitVec.ofNat_toNat]; simp
theorem wrap_N (x : BitVec 64) : IntKind.u64.wrap (N x) = N x := by
  have := x.isLt
  unfold N
  rw [IntKind.wrap_u64]
  omega
theorem N_and (x y : BitVec 64) : bits .and .u64 (N x) (N y) = N (x &&& y) := by
  show IntKind.u64.wrap ((BitVec.ofInt 64 (N x) &&& BitVec.ofInt 64 (N y)).toNat : Int) = _
  rw [ofInt_N, ofInt_N]; exact wrap_N _
theorem N_or (x y : BitVec 64) : bits .or .u64 (N x) (N y) = N (x ||| y) := by
  show IntKind.u64.wrap ((BitVec.ofInt 64 (N x) ||| BitVec.ofInt 64 (N y)).toNat : Int) = _
  rw [ofInt_N, ofInt_N]; exact wrap_N _
theorem N_xor (x y : BitVec 64) : bits .xor .u64 (N x) (N y) = N (x ^^^ y) := by
  show IntKind.u64.wrap ((BitVec.ofInt 64 (N x) ^^^ BitVec.ofInt 64 (N y)).toNat : Int) = _
  rw [ofInt_N, ofInt_N]; exact wrap_N _
theorem N_andNot (x y : BitVec 64) : bits .andNot .u64 (N x) (N y) = N (x &&& ~~~y) := by
  show IntKind.u64.wrap ((BitVec.ofInt 64 (N x) &&& ~~~BitVec.ofInt 64 (N y)).toNat : Int) = _
  rw [ofInt_N, ofInt_N]; exact wrap_N _
theorem N_max : IntKind.u64.max = N (BitVec.allOnes 64) := rfl
theorem N_1 : (1 : Int) = N 1#64 := rfl
theorem N_inj {x y : BitVec 64} : N x = N y ↔ x = y := by
  unfold N
  constructor
  · intro h; exact BitVec.eq_of_toNat_eq (by omega)
  · rintro rfl; rfl
theorem N_bd (x : BitVec 64) : 0 ≤ N x := by unfold N; omega
theorem N_not (x : BitVec 64) : bits .xor .u64 IntKind.u64.max (N x) = N (~~~x) := by
  rw [N_max, N_xor]; congr 1
theorem N_and1 (x : BitVec 64) : bits .and .u64 (N x) 1 = N (x &&& 1#64) := N_and x 1#64
/-- The bits but the lowest one. -/
def clr (x : BitVec 64) : BitVec 64 := x &&& ~~~1#64
theorem N_andNot1 (x : BitVec 64) : bits .andNot .u64 (N x) 1 = N (clr x) := N_andNot x 1#64
theorem N_eq0 (x : BitVec 64) : (N x == 0) = (x == 0#64) := by
  have : N 0#64 = 0 := rfl
  rw [← this, Bool.eq_iff_iff, beq_iff_eq, beq_iff_eq, N_inj]

/-- What is true is given, and the lowest bit stands for none. -/
def okB (g t : BitVec 64) : Bool := (t &&& ~~~g) == 0#64 && (g &&& 1#64) == 0#64

theorem flagsOk_any (g t : BitVec 64) (w : World) :
    Calls Try.prog 23 #[.agg #[.int .u64 (N g), .int .u64 (N t)]] w fun e w' => e = .returned (.bool (okB g t)) ∧ w' = w.alloc (.cells #[.int .u64 (N g), .int .u64 (N t)] 38) := by
  have e1 := N_andNot t g
  have e2 := N_and1 g
  by_cases h1 : ((t &&& ~~~g) == 0#64) = true
  · have HE : Hid (okB g t = ((g &&& 1#64) == 0#64)) := Lib.hid (by unfold okB; rw [h1]; rfl)
    have h1' : (N (t &&& ~~~g) == 0) = true := by rw [N_eq0]; exact h1
    have HX := Lib.hid (N_eq0 (g &&& 1#64))
    clear h1
    go_enter Try.func23, Try.ntmps23
    go_wp2
    all_goals go_returns
    exact ⟨by rw [HE.out, ← HX.out]; first | done | rfl, rfl⟩
  · have h1b : ((t &&& ~~~g) == 0#64) = false := by simpa using h1
    have HE : Hid (okB g t = false) := Lib.hid (by unfold okB; rw [h1b]; rfl)
    have h1' : (N (t &&& ~~~g) == 0) = false := by rw [N_eq0]; exact h1b
    clear h1 h1b
    go_enter Try.func23, Try.ntmps23
    go_wp2
    all_goals go_returns
    exact ⟨by rw [HE.out]; first | done | rfl, rfl⟩

/-- The world has new blocks alone. -/
def Nw (w w' : World) : Prop := Below w.heap.size w w'
theorem Nw.refl (w : World) : Nw w w := Below.refl _ _
theorem Nw.trans {a b c : World} (h : Nw a b) (k : Nw b c) : Nw a c := Below.trans h (Below.mono k h.size)
theorem Nw.alloc {a b : World} (h : Nw a b) (o : Obj) : Nw a (b.alloc o) := Below.alloc h h.size o
theorem Nw.drew {a b : World} (h : Nw a b) : Nw a b.drew := Below.drew h
theorem Nw.cell {a b : World} (h : Nw a b) {x : Addr} {v : Value} (hv : a.cell? x = some v) : b.cell? x = some v :=
  (Below.cell h (World.block_lt_of_cell? a x hv)).trans hv

theorem clear_any (g t b : BitVec 64) (w : World) :
    Calls Try.prog 24 #[.agg #[.int .u64 (N g), .int .u64 (N t)], .int .u64 (N b)] w fun e w' =>
      e = .returned (.agg #[.int .u64 (N (g &&& ~~~b)), .int .u64 (N (t &&& ~~~b))]) ∧ Nw w w' := by
  have e1 := N_not b
  have e2 := N_and g (~~~b)
  have e3 := N_and t (~~~b)
  go_enter Try.func24, Try.ntmps24
  go_wp2
  all_goals go_returns
  all_goals refine ⟨by simp [*], ?_⟩
  all_goals repeat (first | exact Nw.refl _ | refine Nw.alloc ?_ _ | refine Nw.drew ?_)

theorem clear_law (g t b : BitVec 64) (h : okB g t = true) : g &&& ~~~b = g &&& ~~~(clr b) ∧ t &&& ~~~b = t &&& ~~~(clr b) := by
  unfold clr
  unfold okB at h
  rw [Bool.and_eq_true, beq_iff_eq, beq_iff_eq] at h
  obtain ⟨h1, h2⟩ := h
  have one : ∀ i, i < 64 → (1#64).getLsbD i = decide (i = 0) := by
    intro i hi; rw [BitVec.getLsbD_one]; simp
  have hg : g.getLsbD 0 = false := by
    have := congrArg (fun x => BitVec.getLsbD x 0) h2
    simp only [BitVec.getLsbD_and, one 0 (by omega), BitVec.getLsbD_zero] at this
    simpa using this
  have ht : t.getLsbD 0 = false := by
    have := congrArg (fun x => BitVec.getLsbD x 0) h1
    simp only [BitVec.getLsbD_and, BitVec.getLsbD_not, hg, BitVec.getLsbD_zero] at this
    simpa using this
  constructor
  · apply BitVec.eq_of_getLsbD_eq
    intro i hi
    simp only [BitVec.getLsbD_and, BitVec.getLsbD_not, one i hi]
    by_cases e : i = 0
    · subst e; simp only [hg]; rfl
    · simp [hi, e]
  · apply BitVec.eq_of_getLsbD_eq
    intro i hi
    simp only [BitVec.getLsbD_and, BitVec.getLsbD_not, one i hi]
    by_cases e : i = 0
    · subst e; simp only [ht]; rfl
    · simp [hi, e]

theorem eq_flags (x y : Int) (w : World) : (binOp .eql 38 (.agg #[.int .u64 x, .int .u64 y]) (.agg #[.int .u64 x, .int .u64 y])).run Try.prog w = .ok (.bool true) w := by
  simp [go_sem, Try.underlying38, Try.underlying31]
theorem guard_flags : Try.prog.eqGuardType Try.prog.depth 38 = false := by kernel_rfl

theorem held2 {w a b : World} {x y : Addr} {u v : Value} (h : a.cell? x = some u ∧ a.cell? y = some v ∧ Nw w a) (hn : Nw a b) : b.cell? x = some u ∧ b.cell? y = some v ∧ Nw w b :=
  ⟨hn.cell h.1, hn.cell h.2.1, h.2.2.trans hn⟩

theorem walk_FnClearFlags (g t b : BitVec 64) (w : World) :
    Calls Try.prog 7 #[.agg #[.int .u64 (N g), .int .u64 (N t)], .int .u64 (N b)] w fun e w' => e = .returned (.bool true) ∧ Nw w w' := by
  have e1 := N_andNot1 b
  have e2 := N_andNot g (clr b)
  have e3 := N_andNot t (clr b)
  cases hok : okB g t
  · go_enter Try.func7, Try.ntmps7
    go_wp2_with fail
    refine (flagsOk_any g t _).mono ?_
    rw [hok]
    rintro e w1 ⟨rfl, rfl⟩
    go_wp2_with fail
    all_goals go_ret
    exact ⟨rfl, ((Nw.refl _).alloc _).alloc _⟩
  · obtain ⟨l1, l2⟩ := clear_law g t b hok
    rw [← l1] at e2
    rw [← l2] at e3
    clear l1 l2
    go_enter Try.func7, Try.ntmps7
    go_wp2_with fail
    refine (flagsOk_any g t _).mono ?_
    rw [hok]
    rintro e w1 ⟨rfl, rfl⟩
    go_wp2_with fail
    clear hok
    have hq := fun x y => eq_flags x y
    have hqg := guard_flags
    have hb0 : Nw w ((w.alloc (Obj.cells #[Value.int IntKind.u64 (N g), Value.int IntKind.u64 (N t)] 38)).alloc (Obj.cells #[Value.int IntKind.u64 (N g), Value.int IntKind.u64 (N t)] 38)) := ((Nw.refl _).alloc _).alloc _
    go_region_held3 (fun w' => w'.cell? ⟨w.heap.size, 0, none⟩ = some (.int .u64 (N g)) ∧ w'.cell? ⟨w.heap.size, 1, none⟩ = some (.int .u64 (N t)) ∧ Nw w w')
      (first | exact ⟨by simp, by simp, hb0.drew⟩ | assumption | go_keep)
      (first | (go_at_call 24; refine (clear_any g t b _).mono ?_; rintro e w2 ⟨rfl, hn⟩; have q1 := held2 (by assumption) hn))
    rename_i hq
    go_wp2_with fail
    all_goals go_ret
    exact ⟨rfl, hq.2.2⟩
end Go.Proofs.Ytbjgbaffaognhaa

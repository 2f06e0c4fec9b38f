/- errors.Is between two sentinels of one type. -/
import Derived.Test.YtokhmhbjbclcoaaDoorEo
namespace Go.Proofs.YtokhmhbjbclcoaaDoor
set_option linter.unusedVariables false
set_option linter.unusedSimpArgs false
open Go.RowKit Go.Extern.Stop Go.Stop Go.Extern

/-- A sentinel among the listed variables, with its row of cells. -/
theorem sentinel_mem2 {P : Program} {nm : String} {text : List UInt8} {W : World} {g : Nat} {ti tp te ts : TypeId} {ms : Array (String × TypeId)} {f : Field} {n : String}
    (hg : P.globalNamed n = some g) (ht : (P.globals[g]?).map (·.type) = some ti) (hi : P.underlying ti = some (.interface ms)) (hrow : ∀ u, P.typeName? 3 u = some nm → u = tp)
    (hp : P.underlying tp = some (.pointer te)) (he : P.underlying te = some (.struct #[f])) (hft : f.type = ts) (hfo : f.offset = 0) (hs : P.underlying ts = some .string) (hc : P.cellsOf te = 1) (hcs : P.cellsOf ts = 1) :
    ∀ (l : List (String × DataW Unit)), laidMet P l W → (n, .iface nm (.ptr (.agg [.lit (.string text)]))) ∈ l → ∃ (a : Addr) (c : Array Value) (t : TypeId), W.cell? ⟨g, 0, none⟩ = some (.iface tp (.pointer (some a))) ∧ W.heap[a.block]? = some (.cells c t (0, 0))
  | [], _, hm => by cases hm
  | x :: r, h, hm => by
    rcases List.mem_cons.1 hm with e | e
    · subst e
      obtain ⟨ps, ⟨g0, t0, cs0, f0, p0, q0, hg0, ht0, hv0, hd0, _, e0⟩, _, hrows⟩ := h
      obtain rfl := Option.some.inj (hg.symm.trans hg0)
      obtain rfl := Option.some.inj (ht.symm.trans ht0)
      subst e0
      obtain ⟨l0⟩ := cs0
      have ok0 : ∀ u v, l0 = [.iface u v] → Value.okWide P W .any 0 u v := fun u v e => by
        subst e
        exact (hrows g 0 (by simp [MemPlace.row])).2 u v (by simpa using World.var?_cell hg0 hv0 0)
      obtain ⟨a0, s0, rfl, hc0, hs0, hz0, rfl⟩ := errorString_of_trod hi hrow hp he hft hfo hs hc hcs hd0 ok0
      obtain ⟨c0, t0, hb0⟩ := (hrows a0.block a0.off (by simp [MemPlace.row])).1
      exact ⟨a0, c0, t0, by rw [World.var?_cell hg hv0 0]; rfl, hb0⟩
    · exact sentinel_mem2 hg ht hi hrow hp he hft hfo hs hc hcs r (laidMet.tail h) e
/-- The two sentinels, with the rows behind them. -/
def TwoB (B : Nat) (w : World) : Prop := (0 < B ∧ 1 < B) ∧ ∃ (a b : Addr) (ca cb : Array Value) (ta tb : TypeId),
  w.cell? ⟨0, 0, none⟩ = some (.iface 153 (.pointer (some a))) ∧ w.cell? ⟨1, 0, none⟩ = some (.iface 153 (.pointer (some b))) ∧
  w.heap[a.block]? = some (.cells ca ta (0, 0)) ∧ w.heap[b.block]? = some (.cells cb tb (0, 0)) ∧ a.block < B ∧ b.block < B
theorem TwoB.below {B : Nat} {w w' : World} (h : TwoB B w) (hb : Below B w w') : TwoB B w' := by
  obtain ⟨⟨h1, h2⟩, a, b, ca, cb, ta, tb, e1, e2, e3, e4, e5, e6⟩ := h
  exact ⟨⟨h1, h2⟩, a, b, ca, cb, ta, tb, (hb.cell (p := ⟨_, _, none⟩) h1).trans e1, (hb.cell (p := ⟨_, _, none⟩) h2).trans e2, (hb.block _ e5).trans e3, (hb.block _ e6).trans e4, e5, e6⟩
theorem TwoB.eof {B : Nat} {w : World} (h : TwoB B w) : EofB B w := by
  obtain ⟨⟨h1, h2⟩, a, b, ca, cb, ta, tb, e1, e2, e3, e4, e5, e6⟩ := h
  exact ⟨h1, a, e1⟩
theorem TwoB.inv {B : Nat} {w : World} (h : TwoB B w) : InvB B w := by
  obtain ⟨⟨h1, h2⟩, a, b, ca, cb, ta, tb, e1, e2, e3, e4, e5, e6⟩ := h
  exact ⟨h2, _, b, e2⟩
theorem twoB_of {laid : List (String × DataW Unit)} {w : World} {n m : String} (h : laidMet Tryd.prog laid w) (hm : (n, Rows.laid_io_ErrUnexpectedEOF) ∈ laid) (hn : Tryd.prog.globalNamed n = some 0)
    (hm2 : (m, Rows.laid_loop_example_pub_g01450_pub_jsontext_internal_jsonwire_ErrInvalidUTF8) ∈ laid) (hn2 : Tryd.prog.globalNamed m = some 1) : TwoB w.heap.size w := by
  obtain ⟨a, ca, ta, e1, e3⟩ := sentinel_mem2 (P := Tryd.prog) (ti := 43) (tp := 153) (te := 180) (ts := 9) hn (by kernel_rfl) Tryd.underlying43 rowE Tryd.underlying153 Tryd.underlying180 rfl rfl Tryd.underlying9 (by kernel_rfl) (by kernel_rfl) laid h hm
  obtain ⟨b, cb, tb, e2, e4⟩ := sentinel_mem2 (P := Tryd.prog) (ti := 43) (tp := 153) (te := 180) (ts := 9) hn2 (by kernel_rfl) Tryd.underlying43 rowE Tryd.underlying153 Tryd.underlying180 rfl rfl Tryd.underlying9 (by kernel_rfl) (by kernel_rfl) laid h hm2
  exact ⟨⟨World.block_lt_of_cell? w ⟨_, 0, none⟩ e1, World.block_lt_of_cell? w ⟨_, 0, none⟩ e2⟩, a, b, ca, cb, ta, tb, e1, e2, e3, e4, lt_of_block e3, lt_of_block e4⟩
theorem noIsS (v : Value) (xT : TypeId) (w : World) : (Instr.typeAssert (.iface 153 v) xT 133 true).run Tryd.prog w = .ok (.tuple #[.nilIface, .bool false]) w := run_typeAssert_lacksB Tryd.underlying133 (by kernel_rfl) (by kernel_rfl) v xT w
theorem noUnwrapS (v : Value) (xT : TypeId) (w : World) : (Instr.typeAssert (.iface 153 v) xT 136 true).run Tryd.prog w = .ok (.tuple #[.nilIface, .bool false]) w := run_typeAssert_lacksB Tryd.underlying136 (by kernel_rfl) (by kernel_rfl) v xT w
theorem noUnwrapsS (v : Value) (xT : TypeId) (w : World) : (Instr.typeAssert (.iface 153 v) xT 138 true).run Tryd.prog w = .ok (.tuple #[.nilIface, .bool false]) w := run_typeAssert_lacksB Tryd.underlying138 (by kernel_rfl) (by kernel_rfl) v xT w
set_option maxRecDepth 100000 in
/-- errors.Is of one sentinel and another, which may be the same. -/
theorem is_two (a b : Addr) (ca cb : Array Value) (ta tb : TypeId) (w : World) (ha : w.heap[a.block]? = some (.cells ca ta (0, 0))) (hb : w.heap[b.block]? = some (.cells cb tb (0, 0))) :
    Calls Tryd.prog 35 #[.iface 153 (.pointer (some b)), .iface 153 (.pointer (some a))] w fun e w' => (∃ r, e = .returned (.bool r)) ∧ w' = w := by
  by_cases hab : b = a
  · subst hab
    exact (is_same b w).mono fun e w' h => ⟨⟨_, h.1⟩, h.2⟩
  obtain ⟨i, hi, hcmp⟩ := Option.map_eq_some_iff.1 isComp
  obtain ⟨j, hj, hjs⟩ := Option.map_eq_some_iff.1 isSize
  have h8 := @run_callFunc_extern Tryd.prog 51 _ Extern.ReflectliteType.typeOf Tryd.func51 (by kernel_rfl) (by kernel_rfl) (by kernel_rfl) (by kernel_rfl)
  have tT := isTypeOf
  have cT := isComparable
  have mR := isMethodComparable
  have nE := noIsS
  have uE := noUnwrapS
  have vE := noUnwrapsS
  have heq := run_eql_iface_ptr_other (P := Tryd.prog) (w := w) Tryd.underlying43 Tryd.underlying153 hi hcmp hj (by omega) hab hb ha
  clear ha hb
  go_enter Tryd.func35, Tryd.ntmps35
  go_wp2
  refine wp_loop_rounds 1 ?_
  rw [rounds_succ]
  go_wp2
  go_ret
  exact ⟨⟨_, rfl⟩, rfl⟩
end Go.Proofs.YtokhmhbjbclcoaaDoor

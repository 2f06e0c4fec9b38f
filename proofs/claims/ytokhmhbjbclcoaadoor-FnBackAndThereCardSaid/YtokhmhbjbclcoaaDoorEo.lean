/- The end of a text that ends too early, as an error; errors.Is against it. -/
import Derived.Test.YtokhmhbjbclcoaaDoorGl
import Derived.LaidEql
import Derived.Stop.Asserts
import Derived.RowKitTokens
import Derived.WalkKit
namespace Go.Proofs.YtokhmhbjbclcoaaDoor
set_option linter.unusedVariables false
set_option linter.unusedSimpArgs false
open Go.RowKit Go.Extern.Stop Go.Stop Go.Extern

/-- The sentinel of io. -/
def EofB (B : Nat) (w : World) : Prop := 0 < B ∧ ∃ p, w.cell? ⟨0, 0, none⟩ = some (.iface 153 (.pointer (some p)))
theorem EofB.below {B : Nat} {w w' : World} (h : EofB B w) (hb : Below B w w') : EofB B w' := ⟨h.1, by obtain ⟨p, h2⟩ := h.2; exact ⟨p, (hb.cell (p := ⟨_, _, none⟩) h.1).trans h2⟩⟩
theorem eofB_of {laid : List (String × DataW Unit)} {w : World} {n : String} (h : laidMet Tryd.prog laid w) (hm : (n, Rows.laid_io_ErrUnexpectedEOF) ∈ laid) (hn : Tryd.prog.globalNamed n = some 0) : EofB w.heap.size w := by
  obtain ⟨a, ha⟩ := sentinel_mem (P := Tryd.prog) (ti := 43) (tp := 153) (te := 180) (ts := 9) hn (by kernel_rfl) Tryd.underlying43 rowE Tryd.underlying153 Tryd.underlying180 rfl rfl Tryd.underlying9 (by kernel_rfl) (by kernel_rfl) laid h hm
  exact ⟨World.block_lt_of_cell? w ⟨_, 0, none⟩ ha, _, ha⟩
theorem isTypeOf (v : Value) (w : World) : (Extern.ReflectliteType.typeOf #[.iface 153 v]).run Tryd.prog w = .ok (.iface 131 (.agg #[.pointer (some ⟨5, 153, none⟩)])) w := by kernel_rfl
theorem isComparable (w : World) : (callFunc 112 #[.agg #[.pointer (some ⟨5, 153, none⟩)]]).run Tryd.prog w = .ok (.value (.bool true)) w := by
  rw [@run_callFunc_extern Tryd.prog 112 _ (Extern.ReflectliteType.method fun t => do Go.Extern.Rtype.noPackHeld "Comparable" t; pure (.bool (← typeInfo t).comparable)) Tryd.func112 (by kernel_rfl) (by kernel_rfl) (by kernel_rfl) (by kernel_rfl)]
  kernel_rfl
theorem isMethodComparable (v : Value) (w : World) : (Go.method 292 131 v "Comparable").run Tryd.prog w = .ok (112, v) w := by kernel_rfl
theorem isComp : (Tryd.prog.info? 153).map (·.comparable) = some true := by kernel_rfl
theorem isSize : (Tryd.prog.info? 180).map (·.size) = some 1 := by kernel_rfl
theorem noIsE (v : Value) (xT : TypeId) (w : World) : (Instr.typeAssert (.iface 127 v) xT 133 true).run Tryd.prog w = .ok (.tuple #[.nilIface, .bool false]) w := run_typeAssert_lacksB Tryd.underlying133 (by kernel_rfl) (by kernel_rfl) v xT w
theorem noUnwrapE (v : Value) (xT : TypeId) (w : World) : (Instr.typeAssert (.iface 127 v) xT 136 true).run Tryd.prog w = .ok (.tuple #[.nilIface, .bool false]) w := run_typeAssert_lacksB Tryd.underlying136 (by kernel_rfl) (by kernel_rfl) v xT w
theorem noUnwrapsE (v : Value) (xT : TypeId) (w : World) : (Instr.typeAssert (.iface 127 v) xT 138 true).run Tryd.prog w = .ok (.tuple #[.nilIface, .bool false]) w := run_typeAssert_lacksB Tryd.underlying138 (by kernel_rfl) (by kernel_rfl) v xT w
set_option maxRecDepth 100000 in
/-- errors.Is of the sentinel and itself. -/
theorem is_same (a : Addr) (w : World) :
    Calls Tryd.prog 35 #[.iface 153 (.pointer (some a)), .iface 153 (.pointer (some a))] w fun e w' => e = .returned (.bool true) ∧ w' = w := by
  obtain ⟨i, hi, hcmp⟩ := Option.map_eq_some_iff.1 isComp
  obtain ⟨j, hj, hjs⟩ := Option.map_eq_some_iff.1 isSize
  have h8 := @run_callFunc_extern Tryd.prog 51 _ Extern.ReflectliteType.typeOf Tryd.func51 (by kernel_rfl) (by kernel_rfl) (by kernel_rfl) (by kernel_rfl)
  have tT := isTypeOf
  have cT := isComparable
  have mR := isMethodComparable
  have heq := run_eql_iface_ptr_same (P := Tryd.prog) w a Tryd.underlying43 Tryd.underlying153 hi hcmp hj
  go_enter Tryd.func35, Tryd.ntmps35
  go_wp2
  refine wp_loop_rounds 1 ?_
  rw [rounds_succ]
  go_wp2
  go_ret
  exact ⟨rfl, rfl⟩
set_option maxRecDepth 100000 in
/-- errors.Is of an error of syntax and the sentinel. -/
theorem is_other (v : Value) (b : Addr) (w : World) :
    Calls Tryd.prog 35 #[.iface 127 v, .iface 153 (.pointer (some b))] w fun e w' => e = .returned (.bool false) ∧ w' = w := by
  obtain ⟨i, hi, hcmp⟩ := Option.map_eq_some_iff.1 isComp
  obtain ⟨j, hj, hjs⟩ := Option.map_eq_some_iff.1 isSize
  have h8 := @run_callFunc_extern Tryd.prog 51 _ Extern.ReflectliteType.typeOf Tryd.func51 (by kernel_rfl) (by kernel_rfl) (by kernel_rfl) (by kernel_rfl)
  have tT := isTypeOf
  have cT := isComparable
  have mR := isMethodComparable
  have nE := noIsE
  have uE := noUnwrapE
  have vE := noUnwrapsE
  have hty := run_eql_iface_types (P := Tryd.prog) 127 153 v (.pointer (some b)) Tryd.underlying43 (by decide) w
  go_enter Tryd.func35, Tryd.ntmps35
  go_wp2
  refine wp_loop_rounds 1 ?_
  rw [rounds_succ]
  go_wp2
  go_ret
  exact ⟨rfl, rfl⟩

/-- How reading a part came out, as a value: nothing wrong, the text's end, or an error of syntax. -/
def ErrIs (w : World) (er : Value) (how : Int) : Prop :=
  (er = .nilIface ∧ how = 0) ∨ (w.cell? ⟨0, 0, none⟩ = some er ∧ how = 1) ∨ ((∃ p, er = .iface 127 (.pointer (some p))) ∧ how = 2)
theorem wireFault_any (w : World) (er : Value) (how : Int) (B : Nat) (hU : EofB B w) (h : ErrIs w er how) :
    Calls Tryd.prog 23 #[er] w fun e w' => e = .returned (.int .i64 how) ∧ w' = w := by
  obtain ⟨_, a, ha⟩ := hU
  rcases h with ⟨rfl, rfl⟩ | ⟨h, rfl⟩ | ⟨⟨p, rfl⟩, rfl⟩
  · go_enter Tryd.func23, Tryd.ntmps23
    go_wp2_with fail
    all_goals go_ret
    exact ⟨rfl, rfl⟩
  · obtain rfl : er = _ := Option.some.inj (h.symm.trans ha)
    clear h
    go_enter Tryd.func23, Tryd.ntmps23
    go_wp2_with (go_at_call 35; refine (is_same a _).mono ?_; rintro e w' ⟨rfl, rfl⟩)
    all_goals go_ret
    exact ⟨rfl, rfl⟩
  · go_enter Tryd.func23, Tryd.ntmps23
    go_wp2_with (go_at_call 35; refine (is_other _ a _).mono ?_; rintro e w' ⟨rfl, rfl⟩)
    all_goals go_ret
    exact ⟨rfl, rfl⟩
end Go.Proofs.YtokhmhbjbclcoaaDoor

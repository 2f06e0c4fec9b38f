/- The tables of encoding/json's quoting. -/
import Derived.Test.YtbnnjjilkpdanaaDoorGl
namespace Go.Proofs.YtbnnjjilkpdanaaDoor
open Go.RowKit
set_option linter.unusedVariables false

/-- Is a plain character left as it stands? -/
def safeO (html : Bool) (c : Int) : Bool := decide (32 ≤ c) && decide (c ≠ 34) && decide (c ≠ 92) && (!html || (decide (c ≠ 38) && decide (c ≠ 60) && decide (c ≠ 62)))
def SafeB (B : Nat) (w : World) : Prop := (3 < B ∧ 2 < B) ∧ ∀ c : Nat, c < 128 → w.cell? ⟨3, c, none⟩ = some (.bool (safeO false c)) ∧ w.cell? ⟨2, c, none⟩ = some (.bool (safeO true c))
theorem SafeB.below {B : Nat} {w w' : World} (h : SafeB B w) (hb : Below B w w') : SafeB B w' :=
  ⟨h.1, fun c hc => ⟨(hb.cell (p := ⟨_, _, none⟩) h.1.1).trans (h.2 c hc).1, (hb.cell (p := ⟨_, _, none⟩) h.1.2).trans (h.2 c hc).2⟩⟩
theorem SafeB.at {B : Nat} {w : World} (h : SafeB B w) {X : Int} (h0 : 0 ≤ X) (h1 : X < 128) :
    w.cell? ⟨3, X.toNat, none⟩ = some (.bool (safeO false X)) ∧ w.cell? ⟨2, X.toNat, none⟩ = some (.bool (safeO true X)) := by
  have := h.2 X.toNat (by omega)
  rwa [Int.toNat_of_nonneg h0] at this
theorem safeTab : (Rows.laid_loop_example_pub_g01450_pub_jsonscan_safeSet : DataW Unit) = .agg (((List.range 128).map fun (c : Nat) => safeO false (c : Int)).map fun z => .lit (.bool z)) := by kernel_rfl
theorem htmlTab : (Rows.laid_loop_example_pub_g01450_pub_jsonscan_htmlSafeSet : DataW Unit) = .agg (((List.range 128).map fun (c : Nat) => safeO true (c : Int)).map fun z => .lit (.bool z)) := by kernel_rfl
theorem safeB_of {laid : List (String × DataW Unit)} {w : World} {n m : String} (h : laidMet Tryd.prog laid w) (h1 : (n, Rows.laid_loop_example_pub_g01450_pub_jsonscan_safeSet) ∈ laid) (hn : Tryd.prog.globalNamed n = some 3)
    (h2 : (m, Rows.laid_loop_example_pub_g01450_pub_jsonscan_htmlSafeSet) ∈ laid) (hm : Tryd.prog.globalNamed m = some 2) : SafeB w.heap.size w := by
  have hr : Lib.VarReads Tryd.prog w n (.agg (((List.range 128).map fun (c : Nat) => safeO false (c : Int)).map fun z => .lit (.bool z))) := safeTab ▸ Lib.laidMet.reads h h1
  have hi := reads_bools (t := 116) (e := 4) (k := 128) hr hn (by kernel_rfl) Tryd.underlying116 Tryd.underlying4 (by kernel_rfl)
  have hr' : Lib.VarReads Tryd.prog w m (.agg (((List.range 128).map fun (c : Nat) => safeO true (c : Int)).map fun z => .lit (.bool z))) := htmlTab ▸ Lib.laidMet.reads h h2
  have hi' := reads_bools (t := 116) (e := 4) (k := 128) hr' hm (by kernel_rfl) Tryd.underlying116 Tryd.underlying4 (by kernel_rfl)
  refine ⟨⟨World.block_lt_of_cell? w ⟨_, 0, none⟩ (hi 0 (by omega)), World.block_lt_of_cell? w ⟨_, 0, none⟩ (hi' 0 (by omega))⟩, fun c hc => ⟨?_, ?_⟩⟩
  · rw [hi c hc]; simp [List.getD, hc]
  · rw [hi' c hc]; simp [List.getD, hc]
end Go.Proofs.YtbnnjjilkpdanaaDoor

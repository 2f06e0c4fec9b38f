/- The law laws.FnFlagsBack holds: for every input it returns true and the input reads as it did. No condition. -/
import Derived.Test.YtbjgbaffaognhaaRows
import Derived.WalkKit
import Derived.ProofKit
import Derived.OpenShut
import Derived.ShutString
import Derived.Below
import Derived.Lib.SmallJoins
import Derived.Test.YtbjgbaffaognhaaLFnFlagsBack
namespace Go.Proofs.Ytbjgbaffaognhaa.fnFlagsBack
open Go.ChangeShapes Go.WideShapes Go.ChangeAt Go.RowKit Go.Joins
open Go.ChangeMaps (open_string shut_string)
set_option linter.unusedVariables false

theorem own : ownKnob Try.prog.godebug = none := by kernel_rfl
theorem cellsF : Try.prog.cellsOf 38 = 2 := by kernel_rfl

theorem is_bv (a : Int) (w : (Lit.int .u64 a).wf = true) : ∃ x : BitVec 64, a = N x := by
  have hx : 0 ≤ a ∧ a ≤ 18446744073709551615 := by simpa [Lit.wf, IntKind.min, IntKind.max, IntKind.signed, IntKind.bits] using w
  refine ⟨BitVec.ofNat 64 a.toNat, ?_⟩
  unfold N
  rw [BitVec.toNat_ofNat]
  omega

theorem walk (g t a1 : Int) (yes : Bool) (wg : (Lit.int .u64 g).wf = true) (wt : (Lit.int .u64 t).wf = true) (w1 : (Lit.int .i64 a1).wf = true) (w : World) :
    Calls Try.prog 10 #[.agg #[.int .u64 g, .int .u64 t], .int .i64 a1, .bool yes] w fun e w' => e = .returned (.bool true) ∧ Below w.heap.size w w' := by
  obtain ⟨x, rfl⟩ := is_bv g wg
  obtain ⟨y, rfl⟩ := is_bv t wt
  exact walk_FnFlagsBack x y a1 yes w1 w

set_option maxRecDepth 100000 in
theorem lifted (os : Os) (started : os.Started) (H : Type) (enc : TypeId × Value → H) :
    ReturnsInHanded {} Try.checked os 10 .any (Rows.fnFlagsBackSpec.pre6 enc Try.prog Try.f10 Rows.fnFlagsBackRow.domain false) (Rows.fnFlagsBackSpec.post enc Try.prog Try.f10 false true false false) := by
  refine returnsInHanded_of_change (C := Try.checked) own started (by kernel_rfl) Try.func10
    (ChangeSpec.witness6 (enc := enc) (C := Try.checked) false ⟨#[], #[.agg #[.int .u64 0, .int .u64 0], .int .i64 0, .bool false], []⟩ 8 (by kernel_rfl) (by kernel_rfl) (by kernel_rfl) (by kernel_rfl)) ?_
  intro W base args ds gs before hval0 hW hcnd _
  have hval : ∀ (j : Nat) t v, Try.f10.params[j]? = some t → args[j]? = some v → Value.okWide Try.prog W .any base t v := hval0
  have hW' := hW
  obtain ⟨p, q, hA0, hV, rfl, hfz, hnd⟩ := hW
  have hA : DataW.TrodAll enc Try.prog W 0 (fun _ => true) true Try.f10.params.toList args.toList ds p := hA0
  rw [Try.params10] at hA hval
  obtain ⟨v0, vs0, d0, ds0, p0, q0, hargs, rfl, rfl, h0, r0⟩ := trodAll_cons hA
  obtain ⟨v1, vs1, d1, ds1, p1, q1, rfl, rfl, rfl, h1, r1⟩ := trodAll_cons r0
  obtain ⟨v2, vs2, d2, ds2, p2, q2, rfl, rfl, rfl, h2, r2⟩ := trodAll_cons r1
  obtain ⟨rfl, rfl, rfl⟩ := trodAll_nil r2
  obtain rfl : args = #[v0, v1, v2] := by cases args; simp_all
  obtain ⟨rfl, rfl⟩ := trodVars_none hV
  obtain ⟨c0, c1, y0, y1, m, rfl, rfl, rfl, hy0, hy1⟩ := open_agg2 Try.underlying38 (by kernel_rfl) cellsF (hval 0 38 v0 rfl rfl) h0
  obtain ⟨a, e0, rfl, wa⟩ := DataW.trod_int Try.underlying31 hy0
  obtain ⟨b, e1, rfl, wb⟩ := DataW.trod_int Try.underlying31 hy1
  simp at e0 e1
  subst e0 e1
  obtain ⟨a1, rfl, rfl, rfl, w1⟩ := open_int Try.underlying3 (hval 1 3 v1 rfl rfl) h1
  obtain ⟨yes, rfl, rfl, rfl⟩ := open_bool Try.underlying4 (hval 2 4 v2 rfl rfl) h2
  clear hA0 hval0
  simp only [List.append_nil] at hW'
  have structReads : ∀ (W' : World) (sp : Nat → Bool), DataW.Trod enc Try.prog W' 0 sp true 38 (.agg #[.int .u64 a, .int .u64 b]) (.agg [.lit (.int .u64 a), .lit (.int .u64 b)]) [] := fun W' sp =>
    shut_agg2 (y0 := (.lit (.int .u64 a), [])) (y1 := (.lit (.int .u64 b), [])) Try.underlying38 (by kernel_rfl) cellsF ⟨1, by simp [DataW.trod, Try.underlying31, wa]⟩ ⟨1, by simp [DataW.trod, Try.underlying31, wb]⟩
  refine (walk a b a1 yes wa wb w1 W).mono fun e W' ⟨he, hg⟩ => ?_
  subst he
  exact ⟨_, rfl, _, _, _, [], [], [], hW', (trodAll_cons_mk (shut_bool Try.underlying4 _) trodAll_mk0), (trodAll_cons_mk (structReads _ _) (trodAll_cons_mk (shut_int Try.underlying3 w1) (trodAll_cons_mk (shut_bool Try.underlying4 _) trodAll_mk0))), rfl, hg.frame _, fun h => by cases h⟩

theorem over : Rows.fnFlagsBackRow.holds Try.pinned (OpenSpec.ofChange Rows.fnFlagsBackSpec) :=
  OpenClaim.holds_of_wide 10 Try.f10 rfl rfl rfl rfl rfl rfl rfl ⟨rfl, rfl, rfl, rfl, rfl⟩ rfl rfl rfl rfl rfl (by kernel_rfl) Try.func10 (by kernel_rfl)
    (of_decide_eq_true (by kernel_rfl)) (by unfold Func.isWrapper; first | (rw [if_pos (by decide +kernel)]; kernel_rfl) | (rw [if_neg (by decide +kernel)]; exact ⟨rfl, rfl⟩))
    (fun os started H enc _ => lifted os started H enc)

theorem proved : Rows.FnFlagsBackSaid :=
  over
#print axioms proved
end Go.Proofs.Ytbjgbaffaognhaa.fnFlagsBack

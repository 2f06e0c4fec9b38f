/- The card of laws.FnBackAndThere: for every input it returns true and the input reads as it did. -/
import Derived.Test.YtokhmhbjbclcoaaDoorCards
import Derived.Test.YtokhmhbjbclcoaaDoorTie
import Derived.OpenShut
import Derived.ShutString
import Derived.Below
import Derived.Test.YtokhmhbjbclcoaaDoorLBt
namespace Go.Proofs.YtokhmhbjbclcoaaDoor.fnBackAndThere
set_option linter.unusedVariables false
set_option linter.unusedSimpArgs false
open Go.ChangeShapes Go.WideShapes Go.ChangeAt Go.RowKit Go.Shelf Go.Lib
open Go.ChangeMaps (open_string shut_string)
theorem own : ownKnob Tryd.prog.godebug = none := by kernel_rfl
set_option maxRecDepth 100000 in
theorem lifted (os : Os) (started : os.Started) (H : Type) (enc : TypeId × Value → H) :
    ReturnsInHanded {} Tryd.checked os 8 .any (fun w args => (Rows.fnBackAndThereSpec.pre enc Tryd.prog Tryd.f8 [] false w args ∧ laidMetH Tryd.prog Rows.fnBackAndThereRow.laid w) ∧ sizedMet enc Tryd.prog Tryd.f8 (OpenSpec.ofChange Rows.fnBackAndThereSpec) false w args)
      (Rows.fnBackAndThereSpec.post enc Tryd.prog Tryd.f8 false true false false) := by
  refine returnsInHanded_of_change_and (C := Tryd.checked) (X := fun w _ => laidMetH Tryd.prog Rows.fnBackAndThereRow.laid w) (fun _ _ _ hh h => h.of_heap hh) own started (by kernel_rfl) Tryd.func8
    (ChangeSpec.witness_shaped (enc := enc) (C := Tryd.checked) (os := os) (X := fun w _ => laidMetH Tryd.prog Rows.fnBackAndThereRow.laid w) false (World.laidAll Tryd.prog os Rows.fnBackAndThereRow.laid) #[.string ⟨#[]⟩] 8 (World.laidAll_os _ _ _)
      (World.shaped_of_ZipB (by kernel_rfl) (by kernel_rfl)) (by kernel_rfl) (by kernel_rfl) (by kernel_rfl)
      (by rw [MakeChecks.laidMetH_plain _ _ _ (by kernel_rfl)]; exact laidMet_laidAll _ (by kernel_rfl) (by kernel_rfl))) ?_
  intro W base args ds gs before hval0 hW _ _ hL _
  have hval : ∀ (j : Nat) t v, Tryd.f8.params[j]? = some t → args[j]? = some v → Value.okWide Tryd.prog W .any base t v := hval0
  have hW' := hW
  obtain ⟨p, q, hA0, hV, rfl, _, _⟩ := hW
  have hA : DataW.TrodAll enc Tryd.prog W 0 (fun _ => true) true Tryd.f8.params.toList args.toList ds p := hA0
  rw [Tryd.params8] at hA hval
  obtain ⟨v0, vs0, d0, ds0, p0, q0, hargs, rfl, rfl, h0, r0⟩ := trodAll_cons hA
  obtain ⟨rfl, rfl, rfl⟩ := trodAll_nil r0
  obtain rfl : args = #[v0] := by cases args; simp_all
  have hV0 := hV
  obtain ⟨g0, gs0, rfl⟩ : ∃ g r, gs = g :: r := by cases gs with | nil => simp [Rows.fnBackAndThereSpec, DataW.TrodVars] at hV0 | cons g r => exact ⟨g, r, rfl⟩
  obtain ⟨_, _, _, _, _, _, _, _, _, _, hV0, _⟩ := hV0
  obtain ⟨g1, gs1, rfl⟩ : ∃ g r, gs0 = g :: r := by cases gs0 with | nil => simp [Rows.fnBackAndThereSpec, DataW.TrodVars] at hV0 | cons g r => exact ⟨g, r, rfl⟩
  obtain ⟨_, _, _, _, _, _, _, _, _, _, hV0, _⟩ := hV0
  obtain rfl : gs1 = [] := by cases gs1 with | nil => rfl | cons g r => simp [DataW.TrodVars] at hV0
  obtain ⟨a0, rfl, rfl, rfl, w0⟩ := open_string Tryd.underlying9 (hval 0 9 v0 rfl rfl) h0
  clear hA0
  have hWl := hW'
  simp only [List.append_nil] at hW'
  rw [MakeChecks.laidMetH_plain _ _ _ (by kernel_rfl)] at hL
  have hT : TabsB W.heap.size W := TabsB.of (tabs_of hL (.tail _ (.tail _ (.tail _ (.tail _ (.head _))))) (.head _))
  have hU : EofB W.heap.size W := eofB_of hL (.tail _ (.head _)) (by kernel_rfl)
  have hE : EscB W.heap.size W := escB_of hL (.tail _ (.tail _ (.head _))) (by kernel_rfl)
  have hI : InvB W.heap.size W := invB_of hL (.tail _ (.tail _ (.tail _ (.head _)))) (by kernel_rfl)
  refine (walk_FnBackAndThere a0 w0 W hT hU hE hI).mono fun e W' ⟨he, hb⟩ => ?_
  subst he
  have hlt : ∀ x ∈ q, x.block < W.heap.size := fun x hx => hWl.lt x (by simp [hx])
  have hV2 : DataW.TrodVars enc Tryd.prog W' (fun b => decide (b < W.heap.size)) Rows.fnBackAndThereSpec.vars _ q := trodVars_below (by kernel_rfl) hb (fun n hn => by
      rcases List.mem_cons.1 hn with rfl | hn
      · exact ⟨1, _, by kernel_rfl, rfl, by kernel_rfl, of_decide_eq_true (by kernel_rfl)⟩
      rcases List.mem_cons.1 hn with rfl | hn
      · exact ⟨2, _, by kernel_rfl, rfl, by kernel_rfl, of_decide_eq_true (by kernel_rfl)⟩
      cases hn) hlt hV
  exact ⟨_, rfl, _, _, _, [], [], q, hWl, trodAll_mk1 (shut_bool Tryd.underlying4 _), (trodAll_cons_mk (shut_string Tryd.underlying9 w0) trodAll_mk0), hV2, hb.frame _, fun h => by cases h⟩

theorem said : Rows.FnBackAndThereSaid :=
  OpenClaim.holds_of_wide 8 Tryd.f8 rfl rfl rfl rfl rfl rfl rfl ⟨rfl, rfl, rfl, rfl, rfl⟩ rfl rfl rfl rfl rfl (by kernel_rfl) Tryd.func8 (by kernel_rfl)
    (of_decide_eq_true (by kernel_rfl)) (by unfold Func.isWrapper; first | (rw [if_pos (by decide +kernel)]; kernel_rfl) | (rw [if_neg (by decide +kernel)]; exact ⟨rfl, rfl⟩))
    (fun os started H enc _ => lifted os started H enc)
theorem plain (f : FuncId) (fn : Func) (hf : Tryd.pinned.checked.prog.funcNamed "loop.example/pub-g01450/laws.FnBackAndThere" = some f) (hfn : Tryd.pinned.checked.prog.funcs[f]? = some fn) :
    true = Tryd.pinned.checked.prog.looks [] ∧ ∀ (j : Nat) t, fn.params[j]? = some t → Tryd.pinned.checked.prog.wantsStandIn t = false := by
  obtain rfl : f = 8 := Option.some.inj ((show Tryd.prog.funcNamed "loop.example/pub-g01450/laws.FnBackAndThere" = some 8 by kernel_rfl).symm.trans hf) |>.symm
  obtain rfl : fn = Tryd.f8 := (Option.some.inj (Tryd.func8.symm.trans hfn)).symm
  refine ⟨by kernel_rfl, fun j t ht => ?_⟩
  rw [Tryd.params8] at ht
  have hm : t ∈ [9] := by simpa using Array.mem_of_getElem? ht
  have hall : ([9].all fun u => !Tryd.prog.wantsStandIn u) = true := by kernel_rfl
  exact (show Tryd.prog.wantsStandIn t = false by simpa using List.all_eq_true.1 hall t hm)
theorem proved : Rows.FnBackAndThereCardSaid :=
  Claim7.holds_tied_plain_at .later [] _ _ _ _ said (fun _ h => by cases h) (by kernel_rfl) (fun _ h => by cases h) fnBackAndThere_row_tie rfl ⟨rfl, rfl⟩ (by kernel_rfl) rfl plain (by kernel_rfl)
#print axioms proved
end Go.Proofs.YtokhmhbjbclcoaaDoor.fnBackAndThere

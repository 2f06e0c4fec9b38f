/- The law of the parent: what it needs of the plain mathematics, and its walk. -/
import Derived.Test.YtbnnjjilkpdanaaPp
import Derived.Deep.RegionWith
import Derived.Deep.Cut
namespace Go.Proofs.Ytbnnjjilkpdanaa
open Go.RowKit
set_option linter.unusedVariables false

theorem tilde_at (p : ByteArray) : ∀ (n i j : Nat), tildeOk p n i = true → i ≤ j → j < i + n → bAt p j = 126 → j + 1 < p.size ∧ (bAt p (j + 1) = 48 ∨ bAt p (j + 1) = 49)
  | 0, i, j, _, h1, h2, _ => by omega
  | n + 1, i, j, h, h1, h2, h3 => by
    rw [tildeOk] at h
    split at h
    · cases h
    · rename_i hn
      by_cases e : j = i
      · subst e
        exact Classical.byContradiction fun hc => hn ⟨h3, hc⟩
      · exact tilde_at p n (i + 1) j h (by omega) (by omega) h3
theorem ptr_ok {p : ByteArray} (h : pvB p = true) : PtrOk p := by
  unfold pvB at h
  simp only [Bool.and_eq_true, Bool.or_eq_true, decide_eq_true_eq] at h
  exact ⟨h.1.2, fun i hi h126 => tilde_at p p.size 0 i h.2 (Nat.zero_le _) (by omega) h126⟩

theorem tks_form {w : World} {B : Nat} {v : Value} {acc : List (List Int)} (h : Tks w B v acc) :
    ∃ ao cap, v = .slice ao acc.length cap ∧ acc.length ≤ cap ∧ cap ≤ maxLen ∧ (∀ i t, acc[i]? = some t → ∃ g, ao = some ⟨g, 0, none⟩ ∧ w.cell? ⟨g, i, none⟩ = some (.string (txt t))) := by
  have h' := h
  obtain ⟨hl, h2⟩ := h
  rcases h2 with ⟨rfl, h0⟩ | ⟨g, cap, cur, rfl, hB, hg, hn, hcm, hcs, htk⟩
  · refine ⟨none, 0, by rw [h0], by omega, Nat.zero_le _, fun i x hx => ?_⟩
    have : acc = [] := List.eq_nil_of_length_eq_zero h0
    subst this
    cases hx
  · refine ⟨_, cap, rfl, hn, hcm, fun i x hx => ⟨g, rfl, ?_⟩⟩
    have hi : i < acc.length := by
      by_cases h : i < acc.length
      · exact h
      · rw [List.getElem?_eq_none (by omega)] at hx; cases hx
    rw [World.ownsRow.cellAt h' i (by omega)]
    unfold tv
    rw [List.getElem?_map, hx]
    rfl

set_option maxRecDepth 100000 in
set_option maxHeartbeats 4000000 in
theorem parent_core (p : ByteArray) (w : World) (hs : p.size ≤ 4000) (ok : PtrOk p)
    (h10 : Calls Try.prog 6 #[.slice (some ⟨w.heap.size, 0, none⟩) 1 1] (w.alloc (.cells #[.string p] 9)) fun e w' => e = .returned (.bool true) ∧ w' = w.alloc (.cells #[.string p] 9)) :
    Calls Try.prog 3 #[.string p] w fun e w' => e = .returned (.bool true) ∧ Below w.heap.size w w' := by
  have hsm : p.size ≤ maxLen := by unfold maxLen; omega
  have hz0 : ¬ 2147483647 < (p.size : Int) := by omega
  have I := toks_ok ok
  have hT := fun w => tokens_any p w (by omega) ok
  have hle := lastSl_le p p.size
  have hpar := I.par
  have hnum := I.num
  have h8 : ∀ t ∈ (toks p).dropLast, By8 t := fun t ht => I.by8 t ((List.dropLast_sublist _).subset ht)
  have hln : ∀ t ∈ (toks p).dropLast, t.length ≤ 10000000000 := fun t ht => by have := I.len t ((List.dropLast_sublist _).subset ht); omega
  have hpl : (ptrOf (toks p).dropLast).length ≤ 10000000000 := by rw [hpar, sub_len]; omega
  have hPS : txt (ptrOf (toks p).dropLast) = p.extract 0 (lastSl p p.size) := by
    rw [hpar]; apply bl_inj; rw [bl_sub p 0 _ hle (Nat.zero_le _), bl_txt (sub_by p 0 _)]
  have hpa := fun w => parent_any p w hsm
  have hpo := fun ao cap w hc => ptrOf_any (toks p).dropLast ao cap w hc h8 hln hpl (by rw [List.length_dropLast]; omega)
  rw [hPS] at hpo
  have hdl : (toks p).dropLast.length = (toks p).length - 1 := List.length_dropLast
  have hdg : ∀ i t, (toks p).dropLast[i]? = some t → (toks p)[i]? = some t := fun i t h => by
    rw [List.getElem?_dropLast] at h
    split at h
    · exact h
    · cases h
  generalize p.extract 0 (lastSl p p.size) = S at hpa hpo
  rw [hdl] at hpo
  clear I hpar h8 hln hpl hPS ok hle hs
  generalize (toks p).dropLast = D at hpo hdg hdl
  generalize toks p = T at *
  go_enter Try.func3, Try.ntmps3
  go_wp2_with fail
  refine h10.mono ?_
  rintro e wa ⟨rfl, hwa⟩
  obtain rfl := hwa.symm
  go_wp2_with fail
  refine (hT _).mono ?_
  rintro e w1 ⟨v, rfl, O, hb1⟩
  obtain ⟨ao, cap, rfl, hnc, hcm, hcell⟩ := tks_form O
  have hb : Below w.heap.size w w1 := ((Below.refl _ _).alloc (Nat.le_refl _) _).trans (hb1.mono (by simp))
  have hcD : ∀ i t, D[i]? = some t → ∃ g, ao = some ⟨g, 0, none⟩ ∧ w1.cell? ⟨g, i, none⟩ = some (.string (txt t)) := fun i t h => hcell i t (hdg i t h)
  obtain ⟨n, hn⟩ : ∃ n, T.length = n := ⟨_, rfl⟩
  rw [hn] at hpo hnc hdl hnum
  have hmax : max (IntKind.i64.wrap ((n : Int) - 1)) 0 = ((n - 1 : Nat) : Int) := by rw [IntKind.wrap_i64]; omega
  rw [hn]
  clear hcell hT O hb1 hdg h10
  have hc1 : (0 : Int) ≤ ((n - 1 : Nat) : Int) := by omega
  have hc2 : ((n - 1 : Nat) : Int) ≤ (cap : Int) := by omega
  have hc3 : (((n - 1 : Nat) : Int)).toNat = n - 1 := by omega
  go_upto_region 6 with fail
  go_region_with (first
    | (go_at_call 8; refine (hpa _).mono ?_; rintro e w8 ⟨rfl, rfl⟩)
    | (go_at_call 9; refine (hpo _ _ _ ?_).mono ?_; (exact hcD); rintro e w9 ⟨rfl, h9⟩))
  all_goals
    have hf : Below w.heap.size w w9 := hb.drew.trans (h9.mono hb.drew.size)
    go_wp2_with fail
    go_ret
    exact ⟨by first | rfl | simp, hf⟩
end Go.Proofs.Ytbnnjjilkpdanaa

/- The pointer of some tokens by the reference: the walk. -/
import Derived.Test.YtokhmhbjbclcoaaTw
namespace Go.Proofs.Ytokhmhbjbclcoaa
set_option linter.unusedVariables false
set_option linter.unusedSimpArgs false
open Go.RowKit

theorem bs_lit (w : World) (l : List Int) (h8 : By8 l) (cs : Array Value) (hcs : cs = (bv l).toArray) (n : Nat) (hn : n = l.length) (hm : n ≤ maxLen) :
    Bs (w.alloc (.cells cs 5)) w.heap.size (.slice (some ⟨w.heap.size, 0, none⟩) n n) l := by
  subst hcs hn
  refine ⟨h8, _, _, rfl, Nat.le_refl _, hm, .inr ⟨w.heap.size, _, (0, 0), rfl, Nat.le_refl _, heap_alloc_new w _, by simp [bv_len], .inl rfl, ?_⟩⟩
  rw [List.toList_toArray, List.take_of_length_le (by rw [bv_len]; exact Nat.le_refl _)]
theorem ptrOf_cons (t : List Int) (r : List (List Int)) : ptrOf (t :: r) = 47 :: (t.flatMap escP ++ ptrOf r) := by simp [ptrOf]
theorem esc_step {m t rest R : List Int} {j : Nat} (A : Aside (m ++ (t.drop j).flatMap escP ++ rest = R)) (hj : j < t.length) : Aside (m ++ escP t[j] ++ (t.drop (j + 1)).flatMap escP ++ rest = R) := by
  have A' : m ++ (t.drop j).flatMap escP ++ rest = R := A
  rw [List.drop_eq_getElem_cons hj, List.flatMap_cons] at A'
  show m ++ escP t[j] ++ (t.drop (j + 1)).flatMap escP ++ rest = R
  rw [← A']; simp
theorem txt_at {t : List Int} (h : By8 t) (j : Nat) (hj : j < t.length) (hz : j < (txt t).size) : ((txt t)[j].toNat : Int) = t[j] := by
  rw [← bAt_lt hz]
  exact bAt_bl (bl_txt h) j hj

end Go.Proofs.Ytokhmhbjbclcoaa

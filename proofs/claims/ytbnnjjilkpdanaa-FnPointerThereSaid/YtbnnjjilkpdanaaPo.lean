/- The pointer of some tokens by the reference: the walk. -/
import Derived.Test.YtbnnjjilkpdanaaTw
namespace Go.Proofs.Ytbnnjjilkpdanaa
open Go.RowKit
set_option linter.unusedVariables false

theorem bs_lit (w : World) (l : List Int) (h8 : By8 l) (cs : Array Value) (hcs : cs = (bv l).toArray) (n : Nat) (hn : n = l.length) (hm : n ≤ maxLen) :
    Bs (w.alloc (.cells cs 5)) w.heap.size (.slice (some ⟨w.heap.size, 0, none⟩) n n) l := by
  subst hcs hn
  refine ⟨h8, _, _, rfl, Nat.le_refl _, hm, .inr ⟨w.heap.size, _, (0, 0), rfl, Nat.le_refl _, heap_alloc_new w _, by simp [bv_len], .inl rfl, ?_⟩⟩
  rw [List.toList_toArray, List.take_of_length_le (by rw [bv_len]; exact Nat.le_refl _)]
theorem ptrOf_cons (t : List Int) (r : List (List Int)) : ptrOf (t :: r) = 47 :: (t.flatMap escP ++ ptrOf r) := by simp [ptrOf]
theorem esc_step {m t rest R : List Int} {j : Nat} (A : Aside (m ++ (t.drop j).flatMap escP ++ rest = R)) (hj : j < t.length) : Aside (m ++ escP t[j] ++ (t.drop (j + 1)).flatMap escP ++ rest = R) := by
  have A' : m ++ (t.drop j).flatMap escP ++ rest = R := A
  rw [List.drop_eq_getElem_cons hj, List.flatMap_cons] at A'
  show m ++ escP t[j] ++ (t.drop (j + 1)).flatMap escP ++ rest = R
  rw [← A']; simp
theorem txt_at {t : List Int} (h : By8 t) (j : Nat) (hj : j < t.length) (hz : j < (txt t).size) : ((txt t)[j].toNat : Int) = t[j] := by
  rw [← bAt_lt hz]
  exact bAt_bl (bl_txt h) j hj

set_option maxRecDepth 100000 in
set_option maxHeartbeats 4000000 in
theorem ptrOf_any (T : List (List Int)) (ao : Option Addr) (cap : Nat) (w : World) (hc : ∀ i t, T[i]? = some t → ∃ g, ao = some ⟨g, 0, none⟩ ∧ w.cell? ⟨g, i, none⟩ = some (.string (txt t))) (h8 : ∀ t ∈ T, By8 t) (hl : ∀ t ∈ T, t.length ≤ 10000000000)
    (hlen : (ptrOf T).length ≤ 10000000000) (hn : T.length ≤ 10000000000) :
    Calls Try.prog 9 #[.slice ao T.length cap] w fun e w' => e = .returned (.string (txt (ptrOf T))) ∧ Below w.heap.size w w' := by
  obtain ⟨i0, hi, hz0, hz1, hz2⟩ := info_parts Try.infoU8
  obtain ⟨B, HB⟩ : ∃ B, Hid (w.heap.size = B) := ⟨_, Lib.hid rfl⟩
  have h0 : Bs (w.alloc (.cells #[] 5)) B (.slice (some ⟨w.heap.size, 0, none⟩) 0 0) [] := by rw [← HB.out]; exact bs_lit w [] By8.nil #[] rfl 0 rfl (Nat.zero_le _)
  have ha0 : Below B w (w.alloc (.cells #[] 5)) := (Below.refl _ _).alloc (by rw [HB.out]; exact Nat.le_refl _) _
  obtain ⟨R, HR⟩ : ∃ R, Hid (ptrOf T = R) := ⟨_, Lib.hid rfl⟩
  rw [HR.out] at hlen ⊢
  have A0 : Aside ([] ++ ptrOf (T.drop 0) = R) := HR.out
  go_enter Try.func9, Try.ntmps9
  go_wp2
  go_loopg [3, 10] T.length (fun g o i wr => ∃ (k : Nat) (l : List Int), i = .int .i64 k ∧ k ≤ T.length ∧ T.length - k ≤ g ∧ Bs wr B o l ∧ Below B w wr ∧ Aside (l ++ ptrOf (T.drop k) = R))
  case atStart => exact ⟨0, [], rfl, by omega, by omega, h0, ha0, A0⟩
  case round =>
    clear h0 ha0 A0
    obtain ⟨k, l, rfl, hks, hg, hb, hbel, A⟩ := hrel
    have hBr : B ≤ wr.heap.size := by have := hbel.size; have := HB.out; omega
    have A' : l ++ ptrOf (T.drop k) = R := A
    have hll : l.length ≤ R.length := by rw [← A', List.length_append]; omega
    by_cases hk : k < T.length
    · obtain ⟨g1, rfl, hc1⟩ := hc k _ (List.getElem?_eq_getElem hk)
      have h8t := h8 _ (List.getElem_mem hk)
      obtain ⟨rest, hrest⟩ : ∃ r, ptrOf (T.drop (k + 1)) = r := ⟨_, rfl⟩
      rw [List.drop_eq_getElem_cons hk, ptrOf_cons, hrest] at A'
      have A2 : Aside (l ++ [47] ++ (T[k].drop 0).flatMap escP ++ rest = R) := by
        show l ++ [47] ++ (T[k].drop 0).flatMap escP ++ rest = R
        rw [← A']
        simp
      have HREST := Lib.hid hrest
      have hcr := (hbel.cell (by rw [← HB.out]; exact World.block_lt_of_cell? w _ hc1)).trans hc1
      have hlt := hl _ (List.getElem_mem hk)
      generalize T[k] = t at hc1 hcr h8t A2 hlt
      have hkT : (k : Int) < (T.length : Int) := by omega
      obtain ⟨G, rfl⟩ : ∃ G, gk = G + 1 := ⟨gk - 1, by omega⟩
      have hsz : (txt t).size = t.length := txt_size t
      clear A A' hrest hc1
      go_wp2_with (first | (at_builtin; refine wpList_append_bs _ rfl (.tmp 14) (.tmp 15) 31 31 (by rfl) B i0 Try.underlying31 hi hz0 hz1 hz2 _ _ rfl (Bs.alloc hb _) _ [47] rfl (by intro x hx; simp at hx; omega) (src_lit Try.underlying31 _ [47] 1 rfl _ _ hz1 _ rfl) (by first | omega | (simp; omega) | (simp only [List.length_append, sub_len, bl_len, List.length_cons, List.length_nil]; omega)) (by first | assumption | omega | (simp; omega)) ?_; intro v1 w1 hb1 ha1))
      have hbel1 : Below B w w1 := (hbel.alloc hBr _).trans (ha1.below (Bs.alloc hb _) (by simp; omega))
      clear hbel hb ha1 hcr
      go_loopg [3, 19] t.length (fun g o i wx => ∃ (j : Nat) (m : List Int), i = .int .i64 j ∧ j ≤ t.length ∧ t.length - j ≤ g ∧ Bs wx B o m ∧ Below B w wx ∧ Aside (m ++ (t.drop j).flatMap escP ++ rest = R))
      case atStart => exact ⟨0, _, rfl, by omega, by omega, hb1, hbel1, A2⟩
      case round =>
        clear hb1 hbel1 A2
        obtain ⟨j, m, rfl, hjs, hjg, hb, hbel, A⟩ := hrel
        have hBx : B ≤ wr.heap.size := by have := hbel.size; have := HB.out; omega
        have A' : m ++ (t.drop j).flatMap escP ++ rest = R := A
        have hml : m.length ≤ R.length := by rw [← A', List.append_assoc, List.length_append]; omega
        by_cases hj : j < t.length
        · have A3 := esc_step A hj
          have htx := txt_at h8t j hj (by rw [hsz]; exact hj)
          have hc0 := h8t _ (List.getElem_mem hj)
          have hjz : (j : Int) < ((txt t).size : Int) := by omega
          have hjz' : j < (txt t).size := by omega
          have hjw : IntKind.i64.wrap ((j : Int) + 1) = (j : Int) + 1 := by rw [IntKind.wrap_i64]; omega
          generalize t[j] = c at htx hc0 A3
          clear A A'
          by_cases h126 : c = 126
          · subst h126
            go_wp2_with (first | (at_builtin; refine wpList_append_bs _ rfl (.tmp 33) (.tmp 34) 31 31 (by rfl) B i0 Try.underlying31 hi hz0 hz1 hz2 _ _ rfl (Bs.alloc hb _) _ [126, 48] rfl (by intro x hx; simp at hx; omega) (src_lit Try.underlying31 _ [126, 48] 2 rfl _ _ hz1 _ rfl) (by first | omega | (simp; omega) | (simp only [List.length_append, sub_len, bl_len, List.length_cons, List.length_nil]; omega)) (by first | assumption | omega | (simp; omega)) ?_; intro v1 w1 hb1 ha1))
            have hbel1 : Below B w w1 := (hbel.alloc hBx _).trans (ha1.below (Bs.alloc hb _) (by simp; omega))
            go_roundg (gk - 1)
            case measure => go_light; omega
            case rel =>
              go_light
              exact ⟨j + 1, _, by go_num, by omega, by omega, hb1, hbel1, A3⟩
          · by_cases h47 : c = 47
            · subst h47
              go_wp2_with (first | (at_builtin; refine wpList_append_bs _ rfl (.tmp 38) (.tmp 39) 31 31 (by rfl) B i0 Try.underlying31 hi hz0 hz1 hz2 _ _ rfl (Bs.alloc hb _) _ [126, 49] rfl (by intro x hx; simp at hx; omega) (src_lit Try.underlying31 _ [126, 49] 2 rfl _ _ hz1 _ rfl) (by first | omega | (simp; omega) | (simp only [List.length_append, sub_len, bl_len, List.length_cons, List.length_nil]; omega)) (by first | assumption | omega | (simp; omega)) ?_; intro v1 w1 hb1 ha1))
              have hbel1 : Below B w w1 := (hbel.alloc hBx _).trans (ha1.below (Bs.alloc hb _) (by simp; omega))
              go_roundg (gk - 1)
              case measure => go_light; omega
              case rel =>
                go_light
                exact ⟨j + 1, _, by go_num, by omega, by omega, hb1, hbel1, A3⟩
            · have d1 : (c == 126) = false := by simpa using h126
              have d2 : (c == 47) = false := by simpa using h47
              have he : escP c = [c] := by unfold escP; rw [if_neg h126, if_neg h47]
              rw [he] at A3
              go_wp2_with (first | (at_builtin; refine wpList_append_bs _ rfl (.tmp 25) (.tmp 29) 31 31 (by rfl) B i0 Try.underlying31 hi hz0 hz1 hz2 _ _ rfl (Bs.alloc hb _) _ [c] rfl (by intro x hx; simp at hx; omega) (src_lit Try.underlying31 _ [c] 1 rfl _ _ hz1 _ rfl) (by first | omega | (simp; omega) | (simp only [List.length_append, sub_len, bl_len, List.length_cons, List.length_nil]; omega)) (by first | assumption | omega | (simp; omega)) ?_; intro v1 w1 hb1 ha1))
              have hbel1 : Below B w w1 := (hbel.alloc hBx _).trans (ha1.below (Bs.alloc hb _) (by simp; omega))
              go_roundg (gk - 1)
              case measure => go_light; omega
              case rel =>
                go_light
                exact ⟨j + 1, _, by go_num, by omega, by omega, hb1, hbel1, A3⟩
        · have hjt : j = t.length := by omega
          subst hjt
          have A3 : Aside (m ++ ptrOf (T.drop (k + 1)) = R) := by
            show m ++ ptrOf (T.drop (k + 1)) = R
            rw [← A', HREST.out]; simp
          go_wp2_with fail
          go_roundg G
          case measure => go_light; omega
          case rel =>
            go_light
            exact ⟨k + 1, m, by go_num, by omega, by omega, hb, hbel, A3⟩
    · have hkt : T.drop k = [] := List.drop_eq_nil_of_le (by omega)
      rw [hkt] at A'
      have hR : l = R := by rw [← A']; simp [ptrOf]
      subst hR
      have hcv := bs_str hb
      go_wp2_with fail
      go_ret
      exact ⟨rfl, by rw [HB.out]; exact hbel⟩
end Go.Proofs.Ytbnnjjilkpdanaa

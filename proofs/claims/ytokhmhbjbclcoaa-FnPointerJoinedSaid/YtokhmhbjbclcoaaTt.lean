/- The tokens of a pointer as the library tells them: the plain mathematics; the search for the next slash. -/
import Derived.Test.YtokhmhbjbclcoaaUe
import Derived.Lib.Bytealg
namespace Go.Proofs.Ytokhmhbjbclcoaa
set_option linter.unusedVariables false
set_option linter.unusedSimpArgs false
open Go.RowKit

/-- The next slash from a place on, or the end. -/
def nx (p : ByteArray) : Nat → Nat → Nat
  | 0, k => k
  | g + 1, k => if k < p.size ∧ bAt p k ≠ 47 then nx p g (k + 1) else k
theorem nx_spec (p : ByteArray) : ∀ (g k : Nat), k ≤ p.size → p.size - k ≤ g → k ≤ nx p g k ∧ nx p g k ≤ p.size ∧ (nx p g k < p.size → bAt p (nx p g k) = 47) ∧ ∀ j, k ≤ j → j < nx p g k → bAt p j ≠ 47
  | 0, k, h1, h2 => by
    unfold nx
    exact ⟨Nat.le_refl _, h1, fun h => by omega, fun j h3 h4 => by omega⟩
  | g + 1, k, h1, h2 => by
    unfold nx
    split
    · rename_i h
      obtain ⟨a, b, c, d⟩ := nx_spec p g (k + 1) (by omega) (by omega)
      refine ⟨by omega, b, c, fun j h3 h4 => ?_⟩
      by_cases e : j = k
      · subst e; exact h.2
      · exact d j (by omega) h4
    · rename_i h
      refine ⟨Nat.le_refl _, h1, fun hl => ?_, fun j h3 h4 => by omega⟩
      by_cases e : bAt p k = 47
      · exact e
      · exact absurd ⟨hl, e⟩ h
theorem nx_uniq {p : ByteArray} {g k m : Nat} (h1 : k ≤ p.size) (h2 : p.size - k ≤ g) (hk : k ≤ m) (hm : m ≤ p.size) (h3 : m < p.size → bAt p m = 47) (h4 : ∀ j, k ≤ j → j < m → bAt p j ≠ 47) : nx p g k = m := by
  obtain ⟨a, b, c, d⟩ := nx_spec p g k h1 h2
  rcases Nat.lt_trichotomy (nx p g k) m with h | h | h
  · exact absurd (c (by omega)) (h4 _ a h)
  · exact h
  · exact absurd (h3 (by omega)) (d _ hk h)
/-- A token without its escapes. -/
def un (l : List Int) : List Int := repP 48 126 (repP 49 47 l)
/-- The tokens from a place on, at which a slash stands. -/
def tkP (p : ByteArray) : Nat → Nat → List (List Int)
  | 0, _ => []
  | g + 1, k => if k < p.size then un (sub p (k + 1) (nx p p.size (k + 1))) :: tkP p g (nx p p.size (k + 1)) else []
theorem tkP_fuel (p : ByteArray) : ∀ (g h k : Nat), p.size - k ≤ g → p.size - k ≤ h → tkP p g k = tkP p h k
  | 0, h, k, h1, h2 => by
    have hk : ¬ k < p.size := by omega
    cases h with
    | zero => rfl
    | succ h => rw [tkP, tkP, if_neg hk]
  | g + 1, 0, k, h1, h2 => by
    have hk : ¬ k < p.size := by omega
    rw [tkP, tkP, if_neg hk]
  | g + 1, h + 1, k, h1, h2 => by
    rw [tkP, tkP]
    split
    · have := (nx_spec p p.size (k + 1) (by omega) (by omega)).1
      rw [tkP_fuel p g h _ (by omega) (by omega)]
    · rfl
theorem tkP_len (p : ByteArray) : ∀ (g k : Nat), k ≤ p.size → (tkP p g k).length ≤ p.size - k
  | 0, k, _ => by simp [tkP]
  | g + 1, k, hk => by
    rw [tkP]
    split
    · obtain ⟨a, b, _, _⟩ := nx_spec p p.size (k + 1) (by omega) (by omega)
      have := tkP_len p g (nx p p.size (k + 1)) b
      simp only [List.length_cons]
      omega
    · simp
/-- All tokens. -/
def tkl (p : ByteArray) : List (List Int) := tkP p p.size 0
theorem un_by {l : List Int} (h : By8 l) : By8 (un l) := repP_by (by decide) _ (repP_by (by decide) _ h)
theorem un_len (l : List Int) : (un l).length ≤ l.length := by
  have h1 := repP_len 48 126 (repP 49 47 l)
  have h2 := repP_len 49 47 l
  unfold un
  omega
/-- One step of the iterator. -/
theorem tk_step {p : ByteArray} {k : Nat} (hk : k < p.size) {pre T : List (List Int)} (h : pre ++ tkP p (p.size - k) k = T) :
    pre ++ [un (sub p (k + 1) (nx p p.size (k + 1)))] ++ tkP p (p.size - nx p p.size (k + 1)) (nx p p.size (k + 1)) = T := by
  obtain ⟨g, hg⟩ : ∃ g, p.size - k = g + 1 := ⟨p.size - k - 1, by omega⟩
  rw [hg, tkP, if_pos hk] at h
  have := (nx_spec p p.size (k + 1) (by omega) (by omega)).1
  rw [tkP_fuel p (p.size - nx p p.size (k + 1)) g _ (Nat.le_refl _) (by omega), ← h]
  simp
theorem tk_end {p : ByteArray} {k : Nat} (hk : ¬ k < p.size) {pre T : List (List Int)} (h : pre ++ tkP p (p.size - k) k = T) : pre = T := by
  rw [show p.size - k = 0 by omega, tkP, List.append_nil] at h
  exact h

theorem bAt_app_l {p q : ByteArray} {i : Nat} (h : i < p.size) : bAt (p ++ q) i = bAt p i := by
  have e : bl (p ++ q) = bl p ++ bl q := bl_append p q
  rw [bAt_bl e i (by rw [List.length_append, bl_len]; omega), bAt_bl (rfl : bl p = bl p) i (by rw [bl_len]; exact h)]
  exact List.getElem_append_left (by rw [bl_len]; exact h)
theorem bAt_app_r {p q : ByteArray} (i : Nat) : bAt (p ++ q) (p.size + i) = bAt q i := by
  have e : bl (p ++ q) = bl p ++ bl q := bl_append p q
  by_cases h : i < q.size
  · rw [bAt_bl e (p.size + i) (by rw [List.length_append, bl_len, bl_len]; omega), bAt_bl (rfl : bl q = bl q) i (by rw [bl_len]; exact h)]
    rw [List.getElem_append_right (by rw [bl_len]; omega)]
    congr 1
    rw [bl_len]; omega
  · rw [bAt_ge h, bAt_ge (by rw [ByteArray.size_append]; omega)]
theorem sub_app_l {p q : ByteArray} {a b : Nat} (hb : b ≤ p.size) : sub (p ++ q) a b = sub p a b := by
  unfold sub
  apply List.map_congr_left
  intro i hi
  have := List.mem_range.1 hi
  exact bAt_app_l (by omega)
theorem sub_app_r {p q : ByteArray} (a b : Nat) : sub (p ++ q) (p.size + a) (p.size + b) = sub q a b := by
  unfold sub
  rw [show p.size + b - (p.size + a) = b - a by omega]
  apply List.map_congr_left
  intro i hi
  rw [Nat.add_assoc]
  exact bAt_app_r (a + i)
/-- The tokens of two pointers, one behind the other, are those of both. -/
theorem tkl_app {p q : ByteArray} (hq : q.size = 0 ∨ bAt q 0 = 47) : tkl (p ++ q) = tkl p ++ tkl q := by
  have hz : (p ++ q).size = p.size + q.size := ByteArray.size_append
  have right : ∀ (g k : Nat), k ≤ q.size → tkP (p ++ q) g (p.size + k) = tkP q g k := by
    intro g
    induction g with
    | zero => intro k _; rfl
    | succ g ih =>
      intro k hk
      rw [tkP, tkP]
      by_cases h : k < q.size
      · obtain ⟨a, b, c, d⟩ := nx_spec q q.size (k + 1) (by omega) (by omega)
        have e : nx (p ++ q) (p ++ q).size (p.size + k + 1) = p.size + nx q q.size (k + 1) := by
          refine nx_uniq (by omega) (by omega) (by omega) (by omega) (fun h => ?_) (fun j h1 h2 => ?_)
          · rw [bAt_app_r]; exact c (by omega)
          · obtain ⟨i, rfl⟩ : ∃ i, j = p.size + i := ⟨j - p.size, by omega⟩
            rw [bAt_app_r]; exact d i (by omega) (by omega)
        rw [if_pos (by omega), if_pos h, e, ih _ b, show p.size + k + 1 = p.size + (k + 1) by omega, sub_app_r]
      · rw [if_neg (by omega), if_neg h]
  have left : ∀ (g k : Nat), k ≤ p.size → p.size - k ≤ g → ∀ h, p.size + q.size - k ≤ h → tkP (p ++ q) h k = tkP p g k ++ tkl q := by
    intro g
    induction g with
    | zero =>
      intro k h1 h2 h h3
      obtain rfl : k = p.size := by omega
      have := right h 0 (Nat.zero_le _)
      rw [Nat.add_zero] at this
      rw [this]
      unfold tkl
      rw [tkP, List.nil_append]
      exact tkP_fuel q _ _ 0 (by omega) (by omega)
    | succ g ih =>
      intro k h1 h2 h h3
      by_cases hk : k < p.size
      · obtain ⟨h', rfl⟩ : ∃ h', h = h' + 1 := ⟨h - 1, by omega⟩
        obtain ⟨a, b, c, d⟩ := nx_spec p p.size (k + 1) (by omega) (by omega)
        have e : nx (p ++ q) (p ++ q).size (k + 1) = nx p p.size (k + 1) := by
          refine nx_uniq (by omega) (by omega) a (by omega) (fun h => ?_) (fun j h1 h2 => ?_)
          · by_cases hl : nx p p.size (k + 1) < p.size
            · rw [bAt_app_l hl]; exact c hl
            · have hE : nx p p.size (k + 1) = p.size := by omega
              have := bAt_app_r (p := p) (q := q) 0
              rw [Nat.add_zero] at this
              rw [hE, this]
              rcases hq with h0 | h0
              · omega
              · exact h0
          · rw [bAt_app_l (by omega)]; exact d j h1 h2
        rw [tkP, tkP, if_pos (by omega), if_pos hk, e, sub_app_l b, ih _ b (by omega) h' (by omega)]
        rfl
      · obtain rfl : k = p.size := by omega
        have := right h 0 (Nat.zero_le _)
        rw [Nat.add_zero] at this
        rw [this, tkP, if_neg hk, List.nil_append]
        exact tkP_fuel q _ _ 0 (by omega) (by omega)
  unfold tkl
  exact left p.size 0 (Nat.zero_le _) (by omega) _ (by omega)

theorem toNat47 (b : UInt8) : (b == (47 : Int).toNat.toUInt8) = decide ((b.toNat : Int) = 47) := by
  rw [Bool.eq_iff_iff, beq_iff_eq, decide_eq_true_eq]
  have e : ((47 : Int).toNat.toUInt8).toNat = 47 := by decide
  constructor
  · intro h; rw [h, e]; rfl
  · intro h; apply UInt8.toNat_inj.1; rw [e]; omega
theorem list_from (p : ByteArray) (a : Nat) : (p.extract a p.size).data.toList = p.data.toList.drop a := by
  rw [ByteArray.data_extract, Array.toList_extract]
  unfold List.extract
  rw [List.take_of_length_le]
  rw [List.length_drop]
  exact Nat.le_refl _
/-- What the search for a slash says. -/
theorem idx_nx (p : ByteArray) : ∀ (g a : Nat), a ≤ p.size → p.size - a ≤ g → Lib.indexByte (p.data.toList.drop a) (47 : Int).toNat.toUInt8 = if nx p g a < p.size then ((nx p g a - a : Nat) : Int) else -1
  | 0, a, h1, h2 => by
    have : p.data.toList.drop a = [] := List.drop_eq_nil_of_le (by rw [Array.length_toList]; show p.size ≤ a; omega)
    rw [this, nx, if_neg (by omega)]
    rfl
  | g + 1, a, h1, h2 => by
    by_cases hl : a < p.size
    · have hd : p.data.toList.drop a = p[a] :: p.data.toList.drop (a + 1) := by
        rw [List.drop_eq_getElem_cons (by rw [Array.length_toList]; exact hl)]
        rfl
      have hb := bAt_lt hl
      rw [hd, Lib.indexByte, toNat47, ← hb]
      by_cases h47 : bAt p a = 47
      · have e1 : nx p (g + 1) a = a := by rw [nx, if_neg (fun h => h.2 h47)]
        rw [if_pos (by simpa using h47), e1, if_pos hl]
        simp
      · have e1 : nx p (g + 1) a = nx p g (a + 1) := by rw [nx, if_pos ⟨hl, h47⟩]
        rw [if_neg (by simpa using h47), e1, idx_nx p g (a + 1) (by omega) (by omega)]
        have hs := nx_spec p g (a + 1) (by omega) (by omega)
        by_cases h : nx p g (a + 1) < p.size
        · rw [if_pos h, if_pos h, if_neg (by simp)]
          omega
        · rw [if_neg h, if_neg h]
          first | done | rfl
    · have : p.data.toList.drop a = [] := List.drop_eq_nil_of_le (by rw [Array.length_toList]; show p.size ≤ a; omega)
      have e1 : nx p (g + 1) a = a := by rw [nx, if_neg (fun h => hl h.1)]
      rw [this, e1, if_neg hl]
      rfl

set_option maxRecDepth 100000 in
set_option maxHeartbeats 1000000 in
theorem indexByte_any (s : ByteArray) (c : Int) (w : World) :
    Calls Try.prog 16 #[.string s, .int .u8 c] w fun e w' => e = .returned (.int .i64 (Lib.indexByte s.data.toList c.toNat.toUInt8)) ∧ w' = w := by
  have h1 : ∀ w : World, Calls Try.prog 22 #[.string s, .int .u8 c] w fun e w' => e = .returned (.int .i64 (Lib.indexByte s.data.toList c.toNat.toUInt8)) ∧ w' = w := fun w => by
    go_enter Try.func22, Try.ntmps22
    go_wp2
    rw [run_callFunc_extern Try.func27 (by kernel_rfl) (by kernel_rfl) (by kernel_rfl) (e := Extern.BytealgIndexByte.indexByte) (by kernel_rfl), Lib.run_indexByteString]
    simp only [Result.andThen]
    rw [Oper.upon_value]
    go_wp2
    go_ret
    exact ⟨rfl, rfl⟩
  go_enter Try.func16, Try.ntmps16
  go_wp2_with (go_at_call 22; refine (h1 _).mono ?_; rintro e w2 ⟨rfl, rfl⟩)
  go_ret
  exact ⟨rfl, rfl⟩
end Go.Proofs.Ytokhmhbjbclcoaa

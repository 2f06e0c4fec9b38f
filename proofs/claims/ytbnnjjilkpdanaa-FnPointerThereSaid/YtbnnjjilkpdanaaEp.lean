/- The escape of a token behind a row of bytes: the walk. -/
import Derived.Test.YtbnnjjilkpdanaaAr
import Derived.Test.YtbnnjjilkpdanaaUq
import Derived.Laws.RangeString
namespace Go.Proofs.Ytbnnjjilkpdanaa
open Go.RowKit
set_option linter.unusedVariables false

def setO (w : World) (b : Nat) (o : Obj) : World := { w with heap := w.heap.setIfInBounds b o }
theorem setO_same {w : World} {b : Nat} (o : Obj) (h : b < w.heap.size) : (setO w b o).heap[b]? = some o := by simp [setO, h]
theorem setO_other {w : World} {b k : Nat} (o : Obj) (h : k ≠ b) : (setO w b o).heap[k]? = w.heap[k]? := by
  simp [setO, Array.getElem?_setIfInBounds, Ne.symm h]
theorem setO_below {B : Nat} {w : World} {b : Nat} (o : Obj) (h : B ≤ b) : Below B w (setO w b o) :=
  ⟨rfl, rfl, rfl, by simp [setO], fun k hk => setO_other o (by omega)⟩
theorem run_next_in {P : Program} (w : World) (b : Nat) (s : ByteArray) (pos : Nat) (h : pos < s.size) (hb : w.heap[b]? = some (.stringIter s pos)) (ty : TypeId) :
    (Instr.next (.pointer (some ⟨b, 0, none⟩)) true ty).run P w = .ok (.tuple #[.bool true, .int .i64 pos, .int .i32 (runeN s pos)]) (setO w b (.stringIter s (pos + stepN s pos))) := by
  simp only [Instr.next, getObj, setObj, Sem.run_bind, Sem.run, hb, Result.andThen, h, if_true, decode_uw s pos h]
  simp [goInt, Sem.run, setO, hb]
theorem run_end_in {P : Program} (w : World) (b : Nat) (s : ByteArray) (pos : Nat) (ty : TypeId) (h : ¬ pos < s.size) (hb : w.heap[b]? = some (.stringIter s pos)) :
    (Instr.next (.pointer (some ⟨b, 0, none⟩)) true ty).run P w = .ok (.tuple #[.bool false]) w := by
  simp [Instr.next, getObj, Sem.run, hb, h]
theorem bs_iter {w : World} {B ib : Nat} {v : Value} {l : List Int} {s : ByteArray} {k : Nat} (h : Bs w B v l) (hi : w.heap[ib]? = some (.stringIter s k)) : v.ownBlock ≠ some ib := by
  obtain ⟨h8, ao, cap, rfl, h1, h2, h3⟩ := h
  rcases h3 with ⟨rfl, _⟩ | ⟨g, cur, fr, rfl, hB, hg, r⟩
  · intro e; cases e
  · intro e
    have e2 : g = ib := by simpa [Value.ownBlock] using e
    subst e2
    rw [hg] at hi
    cases hi

/-- The parts of a character. -/
theorem rune_parts {s : ByteArray} {k : Nat} (hu : uw s k ≠ 0) :
    (uw s k = 1 ∧ bAt s k < 128 ∧ (runeN s k : Int) = bAt s k) ∨
    (uw s k = 2 ∧ 194 ≤ bAt s k ∧ bAt s k ≤ 223 ∧ 128 ≤ bAt s (k + 1) ∧ bAt s (k + 1) ≤ 191 ∧ (runeN s k : Int) = (bAt s k - 192) * 64 + (bAt s (k + 1) - 128)) ∨
    (uw s k = 3 ∧ 224 ≤ bAt s k ∧ bAt s k ≤ 239 ∧ 128 ≤ bAt s (k + 1) ∧ bAt s (k + 1) ≤ 191 ∧ (bAt s k = 224 → 160 ≤ bAt s (k + 1)) ∧ (bAt s k = 237 → bAt s (k + 1) ≤ 159) ∧ 128 ≤ bAt s (k + 2) ∧ bAt s (k + 2) ≤ 191 ∧
      (runeN s k : Int) = (bAt s k - 224) * 4096 + (bAt s (k + 1) - 128) * 64 + (bAt s (k + 2) - 128)) ∨
    (uw s k = 4 ∧ 240 ≤ bAt s k ∧ bAt s k ≤ 244 ∧ 128 ≤ bAt s (k + 1) ∧ bAt s (k + 1) ≤ 191 ∧ (bAt s k = 240 → 144 ≤ bAt s (k + 1)) ∧ (bAt s k = 244 → bAt s (k + 1) ≤ 143) ∧ 128 ≤ bAt s (k + 2) ∧ bAt s (k + 2) ≤ 191 ∧ 128 ≤ bAt s (k + 3) ∧ bAt s (k + 3) ≤ 191 ∧
      (runeN s k : Int) = (bAt s k - 240) * 262144 + (bAt s (k + 1) - 128) * 4096 + (bAt s (k + 2) - 128) * 64 + (bAt s (k + 3) - 128)) := by
  have hk : k < s.size := by
    by_cases h : k < s.size
    · exact h
    · exact absurd (by unfold uw; rw [if_neg h]) hu
  have n0 := bN_eq s k
  have n1 := bN_eq s (k + 1)
  have n2 := bN_eq s (k + 2)
  have n3 := bN_eq s (k + 3)
  by_cases h1 : bAt s k < 128
  · have e : uw s k = 1 := uw_1 hk (by omega)
    exact Or.inl ⟨e, h1, by unfold runeN; rw [if_pos e]; exact n0⟩
  · refine Or.inr ?_
    obtain ⟨e1, e2, e3⟩ : uw s k = uLen (bAt s k) ∧ uwOk s k (uLen (bAt s k)) (uLo (bAt s k)) (uHi (bAt s k)) = true ∧ uLen (bAt s k) ≠ 0 := by
      unfold uw at hu ⊢
      rw [if_pos hk, if_neg h1] at hu ⊢
      by_cases h0 : uLen (bAt s k) = 0
      · rw [if_pos h0] at hu; exact absurd rfl hu
      · rw [if_neg h0] at hu ⊢
        by_cases ho : uwOk s k (uLen (bAt s k)) (uLo (bAt s k)) (uHi (bAt s k)) = true
        · rw [if_pos ho]; exact ⟨rfl, ho, h0⟩
        · rw [if_neg ho] at hu; exact absurd rfl hu
    have hlo : 128 ≤ uLo (bAt s k) ∧ (bAt s k = 224 → uLo (bAt s k) = 160) ∧ (bAt s k = 240 → uLo (bAt s k) = 144) := by
      unfold uLo; split
      · omega
      · split <;> omega
    have hhi : uHi (bAt s k) ≤ 191 ∧ (bAt s k = 237 → uHi (bAt s k) = 159) ∧ (bAt s k = 244 → uHi (bAt s k) = 143) := by
      unfold uHi; split
      · omega
      · split <;> omega
    have hl : (uLen (bAt s k) = 2 → 194 ≤ bAt s k ∧ bAt s k ≤ 223) ∧ (uLen (bAt s k) = 3 → 224 ≤ bAt s k ∧ bAt s k ≤ 239) ∧ (uLen (bAt s k) = 4 → 240 ≤ bAt s k ∧ bAt s k ≤ 244) := by
      unfold uLen; split
      · omega
      · split
        · omega
        · split <;> omega
    rcases uLen_cases (bAt s k) with h | h | h | h
    · exact absurd h e3
    · rw [h] at e1 e2
      have hb := hl.1 h
      unfold uwOk at e2
      simp [contN] at e2
      have hr : runeN s k = bN s k % 32 * 64 + bN s (k + 1) % 64 := by unfold runeN; rw [if_neg (by omega), if_pos e1]
      rw [hr, e1]
      left; omega
    · rw [h] at e1 e2
      have hb := hl.2.1 h
      unfold uwOk at e2
      simp [contN, cont] at e2
      have hr : runeN s k = bN s k % 16 * 4096 + bN s (k + 1) % 64 * 64 + bN s (k + 2) % 64 := by unfold runeN; rw [if_neg (by omega), if_neg (by omega), if_pos e1]
      rw [hr, e1]
      right; left; omega
    · rw [h] at e1 e2
      have hb := hl.2.2 h
      unfold uwOk at e2
      simp [contN, cont, show k + 2 + 1 = k + 3 from rfl] at e2
      have hr : runeN s k = bN s k % 8 * 262144 + bN s (k + 1) % 64 * 4096 + bN s (k + 2) % 64 * 64 + bN s (k + 3) % 64 := by unfold runeN; rw [if_neg (by omega), if_neg (by omega), if_neg (by omega), if_pos e1]
      rw [hr, e1]
      right; right; omega
/-- A character is put together of the bytes that it was read from. -/
theorem enc_sub {s : ByteArray} {k : Nat} (hu : uw s k ≠ 0) : encU (runeN s k) = sub s k (k + uw s k) := by
  rcases rune_parts hu with ⟨e, h1, h2⟩ | ⟨e, h⟩ | ⟨e, h⟩ | ⟨e, h⟩
  · rw [e, h2, sub_one]
    unfold encU; rw [if_pos h1]
  · have hs : sub s k (k + 2) = [bAt s k, bAt s (k + 1)] := by simp [sub, List.range_succ]
    rw [e, hs]
    unfold encU
    rw [if_neg (by omega), if_pos (by omega)]
    simp only [List.cons.injEq, and_true]
    omega
  · have hs : sub s k (k + 3) = [bAt s k, bAt s (k + 1), bAt s (k + 2)] := by simp [sub, List.range_succ]
    rw [e, hs]
    unfold encU
    rw [if_neg (by omega), if_neg (by omega), if_neg (by omega), if_pos (by omega)]
    simp only [List.cons.injEq, and_true]
    omega
  · have hs : sub s k (k + 4) = [bAt s k, bAt s (k + 1), bAt s (k + 2), bAt s (k + 3)] := by simp [sub, List.range_succ]
    rw [e, hs]
    unfold encU
    rw [if_neg (by omega), if_neg (by omega), if_neg (by omega), if_neg (by omega)]
    simp only [List.cons.injEq, and_true]
    omega
/-- What is put for a character of a token. -/
theorem esc_chunk {s : ByteArray} {k : Nat} (hu : uw s k ≠ 0) :
    (sub s k (k + uw s k)).flatMap escP = if (runeN s k : Int) = 126 then [126, 48] else if (runeN s k : Int) = 47 then [126, 49] else encU (runeN s k) := by
  by_cases h1 : uw s k = 1
  · have hr : (runeN s k : Int) = bAt s k := by rcases rune_parts hu with h | h | h | h <;> omega
    have hlt : bAt s k < 128 := by rcases rune_parts hu with h | h | h | h <;> omega
    rw [h1, sub_one, hr, List.flatMap_cons, List.flatMap_nil, List.append_nil]
    unfold escP encU
    rw [if_pos hlt]
  · have hr : 128 ≤ (runeN s k : Int) := by rcases rune_parts hu with h | h | h | h <;> omega
    rw [if_neg (by omega), if_neg (by omega), enc_sub hu]
    have hall : ∀ x ∈ sub s k (k + uw s k), 128 ≤ x := by
      rw [← enc_sub hu]
      intro x hx
      unfold encU at hx
      rw [if_neg (by omega)] at hx
      repeat' split at hx
      all_goals simp at hx; omega
    generalize sub s k (k + uw s k) = l at hall ⊢
    induction l with
    | nil => rfl
    | cons x l ih =>
      have hx := hall x (.head _)
      rw [List.flatMap_cons, ih (fun y hy => hall y (.tail _ hy))]
      unfold escP
      rw [if_neg (by omega), if_neg (by omega)]
      rfl
theorem esc_len (l : List Int) : (l.flatMap escP).length ≤ 2 * l.length := by
  induction l with
  | nil => simp
  | cons x l ih =>
    rw [List.flatMap_cons, List.length_append, List.length_cons]
    have : (escP x).length ≤ 2 := by unfold escP; repeat' split
                                     all_goals simp
    omega

set_option maxRecDepth 100000 in
set_option maxHeartbeats 4000000 in
theorem escName_any (s : ByteArray) (B nb cap : Nat) (v : Value) (l : List Int) (w : World) (hv : Bs w B v l) (hl : l.length ≤ 1000000000) (hB : B ≤ w.heap.size) (hN : Lib.Bytes w nb 0 s) (hs : s.size ≤ 1000000000) (ht : textF s s.size 0 = true) :
    Calls Try.prog 33 #[v, .slice (some ⟨nb, 0, none⟩) s.size cap] w fun e w' => ∃ v', e = .returned v' ∧ Bs w' B v' (l ++ (bl s).flatMap escP) ∧ Below B w w' := by
  obtain ⟨i0, hi, hz0, hz1, hz2⟩ := info_parts Try.infoU8
  have hcv := Lib.run_convert_whole (P := Try.prog) w 31 5 9 Try.underlying31 Try.underlying5 Try.underlying9 nb 0 s hN cap
  have h0 : Bs (w.iter s 0) B v l := Bs.alloc hv _
  have hi0 : (w.iter s 0).heap[w.heap.size]? = some (.stringIter s 0) := World.iter_heap w s 0
  have hb0 : Below B w (w.iter s 0) := (Below.refl _ _).alloc hB _
  obtain ⟨R, HR⟩ : ∃ R, Hid (l ++ (bl s).flatMap escP = R) := ⟨_, Lib.hid rfl⟩
  rw [HR.out]
  have A0 : Aside (l ++ (sub s 0 s.size).flatMap escP = R) := by
    show _ = R
    rw [← HR.out, ← bl_sub s 0 s.size (Nat.le_refl _) (Nat.zero_le _)]
    simp
  have HTX := Lib.hid ht
  clear ht hv
  go_enter Try.func33, Try.ntmps33
  go_wp2
  go_loopg [0] s.size (fun g a wr => ∃ (k : Nat) (m : List Int), k ≤ s.size ∧ s.size - k ≤ g ∧ textF s (s.size - k) k = true ∧ wr.heap[w.heap.size]? = some (.stringIter s k) ∧ Bs wr B a m ∧ m.length ≤ 1000000000 + 4 * k ∧ Below B w wr ∧ Aside (m ++ (sub s k s.size).flatMap escP = R))
  case atStart => exact ⟨0, l, by omega, by omega, by rw [Nat.sub_zero]; exact HTX.out, hi0, h0, by omega, hb0, A0⟩
  case round =>
    clear h0 hi0 hb0 A0 hcv
    obtain ⟨k, m, hks, hg, ht, hit, hb, hml, hbel, A⟩ := hrel
    have A' : m ++ (sub s k s.size).flatMap escP = R := A
    by_cases hk : k < s.size
    · obtain ⟨hu, hf, ht2⟩ := text_at' ht hk
      have hnx := fun ty => run_next_in (P := Try.prog) wr w.heap.size s k hk hit ty
      have hst : stepN s k = uw s k := by unfold stepN; rw [if_neg hu]
      rw [hst] at hnx
      have hch := esc_chunk hu
      have hr1 : (runeN s k : Int) ≤ 1114111 := by rcases rune_chr hu with h | h <;> omega
      rw [← sub_app s (j := k) (m := k + uw s k) (k := s.size) (by omega) hf, List.flatMap_append, hch, ← List.append_assoc] at A'
      have hil : w.heap.size < wr.heap.size := lt_of_block hit
      have hne := bs_iter hb hit
      have hit2 := setO_same (w := wr) (.stringIter s (k + uw s k)) hil
      have hb2 : Bs (setO wr w.heap.size (.stringIter s (k + uw s k))) B u0 m := hb.same (fun g hg => setO_other _ (fun e => hne (by rw [hg, e])))
      have hbel2 := hbel.trans (setO_below (w := wr) (.stringIter s (k + uw s k)) hB)
      have hzi : (setO wr w.heap.size (.stringIter s (k + uw s k))).heap.size = wr.heap.size := by simp [setO]
      have hu4 : uw s k ≤ 4 := by rcases uw_four s k hu with h | h | h | h <;> omega
      have hu1 : 1 ≤ uw s k := by omega
      have hr0 : (0 : Int) ≤ (runeN s k : Int) := by omega
      generalize setO wr w.heap.size (.stringIter s (k + uw s k)) = wi at *
      generalize uw s k = u at *
      generalize (runeN s k : Int) = r at *
      have hBi : B ≤ wi.heap.size := by omega
      have hil2 : w.heap.size < wi.heap.size := by omega
      have hne2 := bs_iter hb2 hit2
      have HT2 := Lib.hid ht2
      have HA := Lib.hid A'
      obtain ⟨G, rfl⟩ : ∃ G, gk = G + 1 := ⟨gk - 1, by omega⟩
      have hlm : m.length ≤ 100000000000 := by omega
      clear A A' ht ht2 hu hch hst hit hb
      by_cases h126 : r = 126
      · rw [if_pos h126] at HA
        subst h126
        go_wp2_with (first | (at_builtin; refine wpList_append_bs _ rfl (.tmp 19) (.const (.string ⟨#[126, 48]⟩)) 31 9 (by rfl) B i0 Try.underlying31 hi hz0 hz1 hz2 _ _ rfl hb2 _ [126, 48] rfl (by intro x hx; simp at hx; omega) (src_strL Try.underlying9 ⟨#[126, 48]⟩ [126, 48] rfl _ _ hz1) (by first | omega | (simp; omega) | (simp only [List.length_append, sub_len, bl_len, List.length_cons, List.length_nil]; omega)) (by first | assumption | omega | (simp; omega)) ?_; intro v1 w1 hb1 ha1))
        have hbel3 : Below B w w1 := hbel2.trans (ha1.below hb2 hBi)
        have hit3 := (ha1.block hil2 hne2).trans hit2
        go_roundg G
        case measure => go_light; omega
        case rel =>
          go_light
          exact ⟨k + u, _, hf, by omega, HT2.out, hit3, hb1, by simp; omega, hbel3, HA.out⟩
      · rw [if_neg h126] at HA
        have d1 : (r == 126) = false := by simpa using h126
        by_cases h47 : r = 47
        · rw [if_pos h47] at HA
          subst h47
          go_wp2_with (first | (at_builtin; refine wpList_append_bs _ rfl (.tmp 23) (.const (.string ⟨#[126, 49]⟩)) 31 9 (by rfl) B i0 Try.underlying31 hi hz0 hz1 hz2 _ _ rfl hb2 _ [126, 49] rfl (by intro x hx; simp at hx; omega) (src_strL Try.underlying9 ⟨#[126, 49]⟩ [126, 49] rfl _ _ hz1) (by first | omega | (simp; omega) | (simp only [List.length_append, sub_len, bl_len, List.length_cons, List.length_nil]; omega)) (by first | assumption | omega | (simp; omega)) ?_; intro v1 w1 hb1 ha1))
          have hbel3 : Below B w w1 := hbel2.trans (ha1.below hb2 hBi)
          have hit3 := (ha1.block hil2 hne2).trans hit2
          go_roundg G
          case measure => go_light; omega
          case rel =>
            go_light
            exact ⟨k + u, _, hf, by omega, HT2.out, hit3, hb1, by simp; omega, hbel3, HA.out⟩
        · rw [if_neg h47] at HA
          have d2 : (r == 47) = false := by simpa using h47
          have har := fun w' hb hB => ar_any r hr0 hr1 B u0 m w' hb hlm hB
          have hel := encU_len r
          go_wp2_with (first | (go_at_call 41; refine (har _ hb2 hBi).mono ?_; rintro e w1 ⟨v1, rfl, hb1, ha1⟩))
          have hbel3 : Below B w w1 := hbel2.trans (ha1.below hb2 hBi)
          have hit3 := (ha1.block hil2 hne2).trans hit2
          go_roundg G
          case measure => go_light; omega
          case rel =>
            go_light
            exact ⟨k + u, _, hf, by omega, HT2.out, hit3, hb1, by rw [List.length_append]; omega, hbel3, HA.out⟩
    · have hks2 : k = s.size := by omega
      subst hks2
      rw [sub_self, List.flatMap_nil, List.append_nil] at A'
      subst A'
      have hnx := fun ty => run_end_in (P := Try.prog) wr w.heap.size s s.size ty hk hit
      go_wp2_with fail
      go_ret
      exact ⟨_, rfl, hb, hbel⟩
end Go.Proofs.Ytbnnjjilkpdanaa

/- Unquoting by the elder package: rows of bytes that the call lays itself; the characters that it writes there. -/
import Derived.Test.YtokhmhbjbclcoaaDoorCu
import Derived.Test.YtokhmhbjbclcoaaDoorCb
import Derived.Test.YtokhmhbjbclcoaaDoorGl
import Derived.Test.YtokhmhbjbclcoaaDoorUs
import Derived.Laws.CopyOwn
import Derived.Deep.OwnRows
import Derived.Shelf.Spec.EncodeRune
import Derived.Deep.LoopGhost
namespace Go.Proofs.YtokhmhbjbclcoaaDoor
set_option linter.unusedVariables false
set_option linter.unusedSimpArgs false
open Go.RowKit Go.Shelf

/-- A row of L bytes that the call itself has laid. -/
def Row8 (w : World) (B g L : Nat) : Prop := B ≤ g ∧ ∃ cur : Array Value, w.heap[g]? = some (.cells cur 5 (0, 0)) ∧ cur.size = L ∧ ∀ i, i < L → ∃ x : Int, cur[i]? = some (.int .u8 x) ∧ 0 ≤ x ∧ x < 256
theorem Row8.cell {w : World} {B g L : Nat} (h : Row8 w B g L) (i : Nat) (hi : i < L) : ∃ x : Int, w.cell? ⟨g, i, none⟩ = some (.int .u8 x) ∧ 0 ≤ x ∧ x < 256 := by
  obtain ⟨_, cur, h1, h2, h3⟩ := h
  obtain ⟨x, hx, h4⟩ := h3 i hi
  exact ⟨x, by simp [World.cell?, h1, hx], h4⟩
theorem Row8.free {w : World} {B g L : Nat} (h : Row8 w B g L) (i : Nat) : w.frozen? ⟨g, i, none⟩ = false := by
  obtain ⟨_, cur, h1, _, _⟩ := h
  simp [World.frozen?, h1]
theorem Row8.setCell {w : World} {B g L : Nat} (h : Row8 w B g L) (o : Nat) {x : Int} (h0 : 0 ≤ x) (h1 : x < 256) : Row8 (w.setCell ⟨g, o, none⟩ (.int .u8 x)) B g L := by
  obtain ⟨hB, cur, k1, k2, k3⟩ := h
  refine ⟨hB, _, heap_setCell_same k1 _, by simpa using k2, fun i hi => ?_⟩
  by_cases e : o = i
  · subst e
    exact ⟨x, by rw [Array.getElem?_setIfInBounds]; simp [k2, hi], h0, h1⟩
  · obtain ⟨y, hy⟩ := k3 i hi
    exact ⟨y, by rw [Array.getElem?_setIfInBounds, if_neg e]; exact hy.1, hy.2⟩
theorem Row8.setCells {B g L : Nat} : ∀ (vs : List Value) (o : Nat) (w : World), Row8 w B g L → (∀ v ∈ vs, ∃ x : Int, v = .int .u8 x ∧ 0 ≤ x ∧ x < 256) → Row8 (w.setCells g o vs) B g L ∧ Below B w (w.setCells g o vs)
  | [], o, w, h, _ => ⟨h, Below.refl _ _⟩
  | v :: r, o, w, h, hv => by
    obtain ⟨x, rfl, h0, h1⟩ := hv v (by simp)
    obtain ⟨a1, a2⟩ := Row8.setCells r (o + 1) _ (h.setCell o h0 h1) (fun u hu => hv u (by simp [hu]))
    exact ⟨a1, ((Below.refl B w).setCell (p := ⟨g, o, none⟩) h.1 _).trans a2⟩
theorem Row8.same {w w' : World} {B g L : Nat} (h : Row8 w B g L) (he : w'.heap[g]? = w.heap[g]?) : Row8 w' B g L := by
  obtain ⟨hB, cur, k1, k2⟩ := h
  exact ⟨hB, cur, he.trans k1, k2⟩
theorem Row8.lt {w : World} {B g L : Nat} (h : Row8 w B g L) : g < w.heap.size := by
  obtain ⟨_, cur, k1, _⟩ := h
  exact lt_of_block k1
theorem Row8.below {w w' : World} {B g L : Nat} (h : Row8 w B g L) (hb : Below w.heap.size w w') : Row8 w' B g L := h.same (hb.block g h.lt)
theorem Row8.drewN {w : World} {B g L : Nat} (h : Row8 w B g L) (n : Nat) : Row8 (w.drewN n) B g L := h
theorem Row8.alloc {w : World} {B g L : Nat} (h : Row8 w B g L) (o : Obj) : Row8 (w.alloc o) B g L := h.same (Below.heap_alloc _ _ _ h.lt)
theorem Row8.made {w : World} {B : Nat} (n : Nat) (hB : B ≤ w.heap.size) : Row8 (w.alloc (.cells (madeCells #[.int .u8 0] n) 5)) B w.heap.size n := by
  refine ⟨hB, _, heap_alloc_new w _, size_madeCells _ _, fun i hi => ⟨0, ?_, by omega, by omega⟩⟩
  unfold madeCells
  simp [hi, Nat.mod_one]
/-- Such a row as a list of bytes, to its place k. -/
theorem Row8.bytes {w : World} {B g L : Nat} (h : Row8 w B g L) (k : Nat) (hk : k ≤ L) : ∃ t : ByteArray, t.size = k ∧ Lib.Bytes w g 0 t := by
  obtain ⟨_, cur, k1, k2, k3⟩ := h
  have f : ∀ i : Nat, ∃ x : Int, i < L → cur[i]? = some (.int .u8 x) ∧ 0 ≤ x ∧ x < 256 := fun i => by
    by_cases hi : i < L
    · obtain ⟨x, hx⟩ := k3 i hi; exact ⟨x, fun _ => hx⟩
    · exact ⟨0, fun h => absurd h hi⟩
  refine ⟨txt ((List.range k).map fun i => (f i).choose), by rw [txt_size]; simp, fun i hi => ?_⟩
  rw [txt_size] at hi
  have hi' : i < k := by simpa using hi
  have hx := (f i).choose_spec (by omega)
  rw [Nat.zero_add]
  simp only [World.cell?, k1]
  rw [hx.1]
  have e : ((txt ((List.range k).map fun i => (f i).choose))[i]'(by rw [txt_size]; exact hi)).toNat = ((f i).choose).toNat := by
    show ((txt _).data[i]'_).toNat = _
    unfold txt; simp
    omega
  rw [e, Int.toNat_of_nonneg hx.2.1]
  simp

theorem wpList_copy8 {w : World} {ops : Array Oper} {rest : List Oper} {o : Oper} {a : Act} {Q : Exit → Act → World → Prop} (hgd : o.guard = none) (d s : Operand)
    (ho : o.op = .call { callee := .builtin .copy, args := #[d, s], argTypes := #[46, 46] })
    (B g L dLen dCap sLen sCap : Nat) (sp : Option Addr) (hd : a.eval d = .slice (some ⟨g, 0, none⟩) dLen dCap) (hs : a.eval s = .slice sp sLen sCap)
    (hR : Row8 w B g L) (hL : dLen = L) (hle : sLen ≤ L)
    (hsrc : 0 < sLen → ∃ ad, sp = some ad ∧ ∀ j, j < sLen → ∃ x : Int, w.cell? (ad.add j) = some (.int .u8 x) ∧ 0 ≤ x ∧ x < 256)
    (h : ∀ w', Row8 w' B g L → Below B w w' → wpList Tryd.prog ops Q rest (a.put o.dst (goInt sLen)) w') : wpList Tryd.prog ops Q (o :: rest) a w := by
  subst hL
  have hR0 := hR
  obtain ⟨hB, cur, k1, k2, k3⟩ := hR
  have hsz : (Tryd.prog.info? 5).map (·.size) = some 1 := by kernel_rfl
  obtain ⟨cs, hcl, hcb, hcp⟩ : ∃ cs : List Value, cs.length = sLen ∧ (∀ v ∈ cs, ∃ x : Int, v = .int .u8 x ∧ 0 ≤ x ∧ x < 256) ∧ (0 < cs.length → (some ⟨g, 0, none⟩ : Option Addr) = some ⟨g, 0, none⟩ ∧ ∃ ad, sp = some ad ∧ ∀ j v, cs[j]? = some v → w.cell? (ad.add j) = some v) := by
    by_cases h0 : 0 < sLen
    · obtain ⟨ad, rfl, hc⟩ := hsrc h0
      have f : ∀ i : Nat, ∃ x : Int, i < sLen → w.cell? (ad.add i) = some (.int .u8 x) ∧ 0 ≤ x ∧ x < 256 := fun i => by
        by_cases hi : i < sLen
        · obtain ⟨x, hx⟩ := hc i hi; exact ⟨x, fun _ => hx⟩
        · exact ⟨0, fun h => absurd h hi⟩
      refine ⟨(List.range sLen).map fun i => .int .u8 (f i).choose, by simp, fun v hv => ?_, fun _ => ⟨rfl, ad, rfl, fun j v hj => ?_⟩⟩
      · obtain ⟨i, hi, rfl⟩ := List.mem_map.1 hv
        exact ⟨_, rfl, ((f i).choose_spec (by simpa using hi)).2⟩
      · have hjl : j < sLen := by
          have := (List.getElem?_eq_some_iff.1 hj).1
          simpa using this
        rw [List.getElem?_map, List.getElem?_range hjl] at hj
        cases hj
        exact ((f j).choose_spec hjl).1
    · exact ⟨[], (by simp; omega), (fun v hv => (by cases hv)), fun h => (by simp at h)⟩
  refine wpList_copy_splice hgd d s 46 46 ho 5 Tryd.underlying46 hsz _ sp dLen dCap sLen sCap hd hs g 0 cur.toList 5 (by simpa using k1) cs (by rw [hcl]; exact (Nat.min_eq_left hle).symm) hcp (by simp [k2]; omega) (fun v hv => by obtain ⟨x, rfl, _⟩ := hcb v hv; rfl) B w (Below.refl _ _) hB ?_
  intro w' hG hb
  have e := hG.out
  rw [hcl]
  refine h w' ⟨hB, _, e, ?_, fun i hi => ?_⟩ hb
  · rw [List.size_toArray, length_splice _ _ _ (by simp [k2]; omega)]
    simpa using k2
  · rw [List.getElem?_toArray]
    unfold splice
    rw [List.take_zero, List.nil_append, Nat.zero_add]
    by_cases hic : i < cs.length
    · rw [List.getElem?_append_left hic, List.getElem?_eq_getElem hic]
      obtain ⟨x, hx, hb⟩ := hcb cs[i] (List.getElem_mem hic)
      exact ⟨x, by rw [hx], hb⟩
    · rw [List.getElem?_append_right (by omega), List.getElem?_drop]
      obtain ⟨x, hx, hb⟩ := k3 i hi
      exact ⟨x, by rw [show cs.length + (i - cs.length) = i by omega]; simpa using hx, hb⟩

def eren : Ren := ⟨fun | 30 => 79 | 47 => 86 | n => n,
  fun | 30 => 46 | 21 => 21 | 3 => 3 | 0 => 0 | 5 => 5 | 4 => 4 | 25 => 65 | 27 => 143 | n => n, fun n => n⟩
theorem lays30 : Lays7.n30 Tryd.prog eren := {
  mixed := (by kernel_rfl), f30 := Tryd.func79.trans (congrArg some (by kernel_rfl)), f47 := Tryd.func86.trans (congrArg some (by kernel_rfl)),
  t0 := Tryd.underlying0, a0 := Tryd.isAgg0, z0 := Tryd.sizeOf0, v0 := Tryd.zeroValue0, i0 := (by kernel_rfl),
  t3 := Tryd.underlying3, a3 := Tryd.isAgg3, z3 := Tryd.sizeOf3, v3 := Tryd.zeroValue3, i3 := (by kernel_rfl),
  t4 := Tryd.underlying4, a4 := Tryd.isAgg4, z4 := Tryd.sizeOf4, v4 := Tryd.zeroValue4, i4 := (by kernel_rfl),
  t5 := Tryd.underlying5, a5 := Tryd.isAgg5, z5 := Tryd.sizeOf5, v5 := Tryd.zeroValue5, i5 := (by kernel_rfl),
  t21 := Tryd.underlying21, a21 := Tryd.isAgg21, z21 := Tryd.sizeOf21, v21 := Tryd.zeroValue21, i21 := (by kernel_rfl),
  t25 := Tryd.underlying65, a25 := Tryd.isAgg65, z25 := Tryd.sizeOf65, v25 := Tryd.zeroValue65, i25 := (by kernel_rfl),
  t27 := Tryd.underlying143, a27 := Tryd.isAgg143, z27 := Tryd.sizeOf143, v27 := Tryd.zeroValue143, i27 := (by kernel_rfl),
  t30 := Tryd.underlying46, a30 := Tryd.isAgg46, z30 := Tryd.sizeOf46, v30 := Tryd.zeroValue46, i30 := (by kernel_rfl) }
/-- A character into such a row, where four bytes are left. -/
theorem enc8_any (B g L k m cap : Nat) (r : Int) (w : World) (hR : Row8 w B g L) (hk : k + 4 ≤ L) (hm : 4 ≤ m) (h0 : -2147483648 ≤ r) (h1 : r ≤ 2147483647) :
    Calls Tryd.prog 79 #[.slice (some ⟨g, k, none⟩) m cap, .int .i32 r] w fun e w' => ∃ n : Nat, e = .returned (.int .i64 n) ∧ 1 ≤ n ∧ n ≤ 4 ∧ Row8 w' B g L ∧ Below B w w' := by
  have hl := Lib.runeCells_le r
  refine (Any7.utf8_EncodeRune lays30 g k m cap r h0 h1 w (by omega) (fun j hj => ?_) (fun j hj => hR.free _)).mono ?_
  · obtain ⟨x, hx, _⟩ := hR.cell (k + j) (by omega)
    rw [hx]; rfl
  · rintro e w' ⟨rfl, rfl⟩
    obtain ⟨a1, a2⟩ := Row8.setCells (Lib.runeCells r) k w hR (fun v hv => by
      unfold Lib.runeCells at hv
      obtain ⟨x, hx, rfl⟩ := List.mem_map.1 hv
      exact ⟨x, rfl, Lib.encodeRuneZ_byte r x hx⟩)
    exact ⟨_, rfl, hl.1, hl.2, a1, a2⟩

/-- A character of a text that lies in a row from some place on. -/
theorem decode_off (a : ByteArray) (i o off b m cap : Nat) (w : World) (hi : i < a.size) (hT : Tabs w) (hB : Lib.Bytes w b o a) (hoff : off = o + i) (hm : m = a.size - i) :
    Calls Tryd.prog 60 #[.slice (some ⟨b, off, none⟩) m cap] w fun e w' => e = .returned (.tuple #[.int .i32 (runeN a i), .int .i64 (stepN a i)]) ∧ Below w.heap.size w w' := by
  subst hoff
  subst hm
  have hg : ∀ j, (a.extract i a.size).get! j = a.get! (i + j) := by
    intro j
    have h1 := get_bN (a.extract i a.size) j
    have h2 := get_bN a (i + j)
    apply UInt8.toNat_inj.1
    rw [h1, h2]
    unfold bN bAt
    by_cases h : i + j < a.size
    · rw [dif_pos h, dif_pos (by rw [ByteArray.size_extract]; omega), ByteArray.getElem_extract]
    · rw [dif_neg h, dif_neg (by rw [ByteArray.size_extract]; omega)]
  have hz : (a.extract i a.size).size = a.size - i := by rw [ByteArray.size_extract]; omega
  have h := decode_any (a.extract i a.size) b (o + i) cap w hT (fun j hj => by
    rw [hg]
    rw [hz] at hj
    have := hB (i + j) (by omega)
    rw [← Nat.add_assoc] at this
    rw [this, get_bN, bN_eq]
    unfold bAt
    rw [dif_pos (by omega)])
  have e : Lib.decodeGo (a.extract i a.size) = (runeN a i, stepN a i) := by
    unfold Lib.decodeGo
    rw [if_neg (by omega), Lib.decode_at, hz, hg, hg, hg, hg, ← decode_uw a i hi, Lib.decode_at]
    rfl
  rw [e, hz] at h
  exact h
end Go.Proofs.YtokhmhbjbclcoaaDoor

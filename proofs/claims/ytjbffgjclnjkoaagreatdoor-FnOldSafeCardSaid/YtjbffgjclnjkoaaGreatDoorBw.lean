/- Slices of bytes that the call itself has made: what they hold, and one law for each append to them. No function of the program in sight. -/
import Derived.Test.YtjbffgjclnjkoaaGreatDoorRows
import Derived.WalkKit
import Derived.Deep.AppendSrc
import Derived.Deep.Upon
import Derived.Deep.RegionLaw
import Derived.Lib.SlBytesRow
import Derived.Lib.ConvBytes
import Derived.Lib.Hide
import Derived.Deep.Quiet
import Derived.Below
import Derived.Maps.AppendAt
import Derived.StillTail
import Derived.OneCell
namespace Go.Proofs.YtjbffgjclnjkoaaGreatDoor
set_option linter.unusedVariables false
set_option linter.unusedSimpArgs false
open Go.RowKit

/-- The cells of bytes. -/
def bv (l : List Int) : List Value := l.map (Value.int .u8)
/-- Each is a byte. -/
def By8 (l : List Int) : Prop := ∀ x ∈ l, 0 ≤ x ∧ x < 256

theorem bv_app (l m : List Int) : bv (l ++ m) = bv l ++ bv m := by simp [bv]
theorem bv_len (l : List Int) : (bv l).length = l.length := by simp [bv]
theorem By8.app {l m : List Int} (h : By8 l) (k : By8 m) : By8 (l ++ m) := by
  intro x hx; rcases List.mem_append.1 hx with h' | h'; exact h x h'; exact k x h'
theorem By8.nil : By8 [] := fun x hx => by cases hx

/-- The slice v, made by the call (its block lies from B on), holds the bytes l. -/
def Bs (w : World) (B : Nat) (v : Value) (l : List Int) : Prop :=
  By8 l ∧ ∃ ao cap, v = .slice ao l.length cap ∧ l.length ≤ cap ∧ cap ≤ maxLen ∧
    ((ao = none ∧ cap = 0) ∨ ∃ g o cur fr, ao = some ⟨g, o, none⟩ ∧ B ≤ g ∧ w.heap[g]? = some (.cells cur 5 fr) ∧ o + cap ≤ cur.size ∧ (fr.1 = fr.2 ∨ o + cap ≤ fr.1) ∧ (cur.toList.drop o).take l.length = bv l)

/-- 'w' is w but for new blocks and for the block of v. -/
abbrev Wr (v : Value) (w w' : World) : Prop := w.grownBy w' v.ownBlock

theorem Bs.by8 {w B v l} (h : Bs w B v l) : By8 l := h.1
theorem Bs.same {w w' : World} {B v l} (h : Bs w B v l) (hs : ∀ g, v.ownBlock = some g → w'.heap[g]? = w.heap[g]?) : Bs w' B v l := by
  obtain ⟨h8, ao, cap, hv, h1, h2, h3⟩ := h
  refine ⟨h8, ao, cap, hv, h1, h2, ?_⟩
  rcases h3 with h3 | ⟨g, o, cur, fr, ha, hB, hg, k1, k2, k3⟩
  · exact .inl h3
  · exact .inr ⟨g, o, cur, fr, ha, hB, (hs g (by rw [hv, ha]; rfl)).trans hg, k1, k2, k3⟩
theorem Bs.lt {w B v l} (h : Bs w B v l) {g : Nat} (hg : v.ownBlock = some g) : B ≤ g ∧ g < w.heap.size := by
  obtain ⟨h8, ao, cap, hv, h1, h2, h3⟩ := h
  rcases h3 with ⟨rfl, _⟩ | ⟨g', o, cur, fr, rfl, hB, hg', k1, k2, k3⟩
  · rw [hv] at hg; cases hg
  · rw [hv] at hg; obtain rfl : g' = g := by simpa [Value.ownBlock] using hg
    exact ⟨hB, lt_of_block hg'⟩
theorem Bs.drewN {w B v l} (h : Bs w B v l) (n : Nat) : Bs (w.drewN n) B v l := h
theorem Bs.alloc {w B v l} (h : Bs w B v l) (o : Obj) : Bs (w.alloc o) B v l :=
  h.same fun g hg => Below.heap_alloc _ _ _ (h.lt hg).2
theorem Bs.kept {w w' : World} {B v l} {row : Option Nat} (h : Bs w B v l) (hg : w.grownBy w' row) (hne : v.ownBlock = none ∨ v.ownBlock ≠ row) : Bs w' B v l :=
  h.same fun g e => hg.block g (h.lt e).2 (fun e2 => by rcases hne with k | k; rw [k] at e; cases e; exact k (e.trans e2))
theorem Bs.below {w w' : World} {B v l} (h : Bs w B v l) (hb : Below w.heap.size w w') : Bs w' B v l :=
  h.same fun g e => hb.block g (h.lt e).2
theorem Bs.nil (w : World) (B : Nat) : Bs w B (.slice none 0 0) [] := ⟨By8.nil, none, 0, rfl, Nat.le_refl _, Nat.zero_le _, .inl ⟨rfl, rfl⟩⟩
theorem Bs.mono {w : World} {B C : Nat} {v l} (h : Bs w B v l) (hC : C ≤ B) : Bs w C v l := by
  obtain ⟨h8, ao, cap, hv, h1, h2, h3⟩ := h
  refine ⟨h8, ao, cap, hv, h1, h2, ?_⟩
  rcases h3 with h3 | ⟨g, o, cur, fr, ha, hB, r⟩
  · exact .inl h3
  · exact .inr ⟨g, o, cur, fr, ha, by omega, r⟩
theorem Bs.form {w B v l} (h : Bs w B v l) : ∃ ao cap, v = .slice ao l.length cap ∧ l.length ≤ cap ∧ cap ≤ maxLen := by
  obtain ⟨h8, ao, cap, hv, h1, h2, _⟩ := h; exact ⟨ao, cap, hv, h1, h2⟩

theorem Wr.below {B : Nat} {v : Value} {w w' : World} {l : List Int} (h : Wr v w w') (hb : Bs w B v l) (hB : B ≤ w.heap.size) : Below B w w' :=
  ⟨h.os, h.tape, h.output, h.size, fun k hk => h.block k (by omega) (fun e => by have := (hb.lt e.symm).1; omega)⟩

theorem grownBy_setCell (w : World) (g o : Nat) (v : Value) : w.grownBy (w.setCell ⟨g, o, none⟩ v) (some g) :=
  ⟨rfl, rfl, rfl, by simp [World.setCell], fun k _ hb => Below.heap_setCell _ _ _ _ (by simpa using hb)⟩
theorem heap_setCell_same {w : World} {b o : Nat} {c : Array Value} {T : TypeId} {fr : Nat × Nat} (h : w.heap[b]? = some (.cells c T fr)) (v : Value) :
    (w.setCell ⟨b, o, none⟩ v).heap[b]? = some (.cells (c.setIfInBounds o v) T fr) := by
  have hlt := lt_of_block h
  have h' : w.heap[b] = .cells c T fr := by simpa [Array.getElem?_eq_getElem hlt] using h
  show (w.heap.modify b _)[b]? = _
  rw [Array.getElem?_eq_getElem (by simpa using hlt), Array.getElem_modify_self, h']
  rfl
theorem setCells_row (g : Nat) (T : TypeId) (fr : Nat × Nat) : ∀ (vs : List Value) (o : Nat) (w : World) (cur : Array Value), w.heap[g]? = some (.cells cur T fr) → o + vs.length ≤ cur.size →
    w.grownBy (w.setCells g o vs) (some g) ∧ ∃ cur' : Array Value, (w.setCells g o vs).heap[g]? = some (.cells cur' T fr) ∧ cur'.size = cur.size ∧ cur'.toList.take (o + vs.length) = cur.toList.take o ++ vs
  | [], o, w, cur, h, _ => ⟨World.grownBy.refl _ _, cur, h, rfl, by simp⟩
  | v :: r, o, w, cur, h, hle => by
    have hle' : o + 1 + r.length ≤ (cur.setIfInBounds o v).size := by simp at hle ⊢; omega
    obtain ⟨hg, cur', h1, h2, h3⟩ := setCells_row g T fr r (o + 1) (w.setCell ⟨g, o, none⟩ v) (cur.setIfInBounds o v) (heap_setCell_same h v) hle'
    refine ⟨(grownBy_setCell w g o v).trans hg, cur', h1, by simpa using h2, ?_⟩
    have e : o + (v :: r).length = o + 1 + r.length := by simp; omega
    rw [e, h3]
    have ho : o < cur.size := by simp at hle; omega
    have : (cur.setIfInBounds o v).toList.take (o + 1) = cur.toList.take o ++ [v] := by
      rw [Array.toList_setIfInBounds, List.take_succ_eq_append_getElem (by simpa using ho), List.getElem_set_self, List.take_set_of_le (Nat.le_refl _)]
    rw [this]; simp

/-- Where a slice begins. -/
def orgA : Value → Option Addr
  | .slice ao _ _ => ao
  | _ => none
theorem orgA_own {v : Value} {g o : Nat} (h : orgA v = some ⟨g, o, none⟩) : v.ownBlock = some g := by
  cases v with
  | slice ao n c => cases (show ao = some ⟨g, o, none⟩ from h); rfl
  | _ => cases h
/-- What appending to v leaves: new blocks, and writes to the block of v alone; the new value lies there, or in a new block. -/
structure Ap (v : Value) (w : World) (v' : Value) (w' : World) : Prop where
  gr : w.grownBy w' v.ownBlock
  blk : v'.ownBlock = v.ownBlock ∨ ∃ g, v'.ownBlock = some g ∧ w.heap.size ≤ g
  org : orgA v' = orgA v ∨ ∃ g, v'.ownBlock = some g ∧ w.heap.size ≤ g
  pre : ∀ g o cur fr, orgA v = some ⟨g, o, none⟩ → w.heap[g]? = some (.cells cur 5 fr) → ∃ cur' : Array Value, w'.heap[g]? = some (.cells cur' 5 fr) ∧ cur'.size = cur.size ∧ ∀ i, i < o → cur'[i]? = cur[i]?

theorem Ap.refl (v : Value) (w : World) : Ap v w v w := ⟨World.grownBy.refl _ _, .inl rfl, .inl rfl, fun _ _ cur _ _ h => ⟨cur, h, rfl, fun _ _ => rfl⟩⟩
theorem Ap.trans {v v1 v2 : Value} {w w1 w2 : World} (h : Ap v w v1 w1) (k : Ap v1 w1 v2 w2) : Ap v w v2 w2 := by
  refine ⟨⟨k.gr.os.trans h.gr.os, k.gr.tape.trans h.gr.tape, k.gr.output.trans h.gr.output, Nat.le_trans h.gr.size k.gr.size, fun i hi hne => ?_⟩, ?_, ?_, fun g o cur fr hv hg => ?_⟩
  · refine (k.gr.block i (Nat.lt_of_lt_of_le hi h.gr.size) ?_).trans (h.gr.block i hi hne)
    rcases h.blk with e | ⟨g, e, hg⟩
    · rw [e]; exact hne
    · rw [e]; intro e2; have := Option.some.inj e2; omega
  · rcases k.blk with e | ⟨g, e, hg⟩
    · rw [e]; exact h.blk
    · exact .inr ⟨g, e, Nat.le_trans h.gr.size hg⟩
  · rcases k.org with e | ⟨g, e, hg⟩
    · rw [e]
      rcases h.org with e2 | ⟨g, e2, hg⟩
      · exact .inl e2
      · rcases k.blk with e3 | ⟨g3, e3, hg3⟩
        · exact .inr ⟨g, e3.trans e2, hg⟩
        · exact .inr ⟨g3, e3, Nat.le_trans h.gr.size hg3⟩
    · exact .inr ⟨g, e, Nat.le_trans h.gr.size hg⟩
  · obtain ⟨c1, h1, h2, h3⟩ := h.pre g o cur fr hv hg
    rcases h.org with e | ⟨g1, e, hg1⟩
    · obtain ⟨c2, k1, k2, k3⟩ := k.pre g o c1 fr (e.trans hv) h1
      exact ⟨c2, k1, k2.trans h2, fun i hi => (k3 i hi).trans (h3 i hi)⟩
    · have hlt := lt_of_block hg
      have hb : w2.heap[g]? = w1.heap[g]? := k.gr.block g (Nat.lt_of_lt_of_le hlt h.gr.size) (by rw [e]; intro e2; have := Option.some.inj e2; omega)
      exact ⟨c1, hb.trans h1, h2, h3⟩
theorem Ap.drewN (v : Value) (w : World) (n : Nat) : Ap v w v (w.drewN n) := ⟨⟨rfl, rfl, rfl, Nat.le_refl _, fun _ _ _ => rfl⟩, .inl rfl, .inl rfl, fun _ _ cur _ _ h => ⟨cur, h, rfl, fun _ _ => rfl⟩⟩
theorem Ap.alloc (v : Value) (w : World) (o : Obj) : Ap v w v (w.alloc o) := ⟨⟨rfl, rfl, rfl, by simp, fun k hk _ => Below.heap_alloc _ _ _ hk⟩, .inl rfl, .inl rfl, fun g _ cur _ _ h => ⟨cur, (Below.heap_alloc _ _ _ (lt_of_block h)).trans h, rfl, fun _ _ => rfl⟩⟩
theorem Ap.of_below (v : Value) {w w' : World} (h : Below w.heap.size w w') : Ap v w v w' := ⟨⟨h.os, h.tape, h.output, h.size, fun k hk _ => h.block k hk⟩, .inl rfl, .inl rfl, fun g _ cur _ _ hg => ⟨cur, (h.block g (lt_of_block hg)).trans hg, rfl, fun _ _ => rfl⟩⟩
theorem Ap.below {B : Nat} {v v' : Value} {w w' : World} {l : List Int} (h : Ap v w v' w') (hb : Bs w B v l) (hB : B ≤ w.heap.size) : Below B w w' := Wr.below h.gr hb hB
/-- A block that is not the one of v stays. -/
theorem Ap.block {v v' : Value} {w w' : World} (h : Ap v w v' w') {b : Nat} (hb : b < w.heap.size) (hne : v.ownBlock ≠ some b) : w'.heap[b]? = w.heap[b]? := h.gr.block b hb (fun e => hne e.symm)
theorem Ap.ne {v v' : Value} {w w' : World} (h : Ap v w v' w') {b : Nat} (hb : b < w.heap.size) (hne : v.ownBlock ≠ some b) : v'.ownBlock ≠ some b := by
  rcases h.blk with e | ⟨g, e, hg⟩
  · rw [e]; exact hne
  · rw [e]; intro e2; have := Option.some.inj e2; omega
theorem Ap.size {v v' : Value} {w w' : World} (h : Ap v w v' w') : w.heap.size ≤ w'.heap.size := h.gr.size
theorem bytes_block {w w' : World} {b o : Nat} {s : ByteArray} (h : Lib.Bytes w b o s) (hb : w'.heap[b]? = w.heap[b]?) : Lib.Bytes w' b o s := fun i hi =>
  (World.cell?_of_block (a := ⟨b, o + i, none⟩) hb).trans (h i hi)

/-- What an append to such a slice makes of it. -/
theorem append_run {P : Program} (w : World) (B : Nat) (t tx ty : TypeId) (i : TypeInfo) (ht : P.underlying t = some (.slice 5)) (hi : P.info? 5 = some i) (hz : i.zero = some (.int .u8 0)) (hs1 : i.size = 1) (hb1 : i.bytes = 1)
    (v : Value) (l : List Int) (hv : Bs w B v l) (x : Value) (news : List Int) (h8 : By8 news) (hs : Src P i.size tx x news.length (bv news) w) (hfit : l.length + news.length ≤ 140737488355328) (hB : B ≤ w.heap.size) :
    ∃ v' w', (Builtin.append_ #[t, tx] ty #[v, x]).run P w = .ok v' w' ∧ Bs w' B v' (l ++ news) ∧ Ap v w v' w' := by
  obtain ⟨h8l, ao, cap, rfl, h1, h2, h3⟩ := hv
  have hlen : (l ++ news).length = l.length + news.length := List.length_append
  have hby : By8 (l ++ news) := h8l.app h8
  by_cases hroom : l.length + news.length ≤ cap
  · rcases h3 with ⟨rfl, rfl⟩ | ⟨g, o, cur, fr, rfl, hBg, hg, hcs, hfr, htk⟩
    · have hl : l = [] := List.eq_nil_of_length_eq_zero (by omega)
      have hn : news = [] := List.eq_nil_of_length_eq_zero (by omega)
      subst hl hn
      refine ⟨.slice none 0 0, w, ?_, Bs.nil w B, Ap.refl _ _⟩
      exact run_append_nothing w t tx ty 5 i ht hi none 0 0 (by omega) x (by simpa [bv] using hs)
    · have hc : ∀ j, j < (bv news).length → (w.cell? ⟨g, o + l.length * i.size + j, none⟩).isSome = true := by
        intro j hj
        rw [bv_len] at hj
        have : o + l.length + j < cur.size := by omega
        simp [World.cell?, hg, hs1, this]
      have hf : ∀ j, j < (bv news).length → w.frozen? ⟨g, o + l.length * i.size + j, none⟩ = false := by
        intro j hj
        rw [bv_len] at hj
        obtain ⟨lo, hi'⟩ := fr
        simp only [World.frozen?, hg, hs1]
        dsimp only at hfr
        simp
        omega
      have hr := run_append_room_src w t tx ty 5 i ht hi g o l.length cap x news.length (bv news) hs hroom hc hf
      have hl0 : o + l.length * i.size = o + l.length := by rw [hs1]; omega
      rw [hl0] at hr
      obtain ⟨hgr, cur', g1, g2, g3⟩ := setCells_row g 5 fr (bv news) (o + l.length) w cur hg (by rw [bv_len]; omega)
      rw [bv_len] at g3
      have hcl : cur.toList.length = cur.size := Array.length_toList
      refine ⟨_, _, hr, ⟨hby, _, cap, by rw [hlen], by omega, h2, .inr ⟨g, o, cur', fr, rfl, hBg, g1, by omega, hfr, ?_⟩⟩, ⟨hgr, .inl rfl, .inl rfl, fun g2 o2 cur2 fr2 hv hg2 => ?_⟩⟩
      · have e1 : (cur'.toList.drop o).take (l.length + news.length) = (cur'.toList.take (o + l.length + news.length)).drop o := by
          rw [List.drop_take]; congr 1; omega
        have e2 : (cur.toList.take (o + l.length)).drop o = (cur.toList.drop o).take l.length := by
          rw [List.drop_take]; congr 1; omega
        rw [hlen, bv_app, e1, g3, List.drop_append_of_le_length (by rw [List.length_take, hcl]; omega), e2, htk]
      · cases (show some (⟨g, o, none⟩ : Addr) = some ⟨g2, o2, none⟩ from hv)
        rw [hg] at hg2
        cases hg2
        refine ⟨cur', g1, g2, fun j hj => ?_⟩
        have hj1 : cur'.toList[j]? = cur.toList[j]? := by
          have e1 : (cur'.toList.take (o + l.length + news.length))[j]? = cur'.toList[j]? := by rw [List.getElem?_take, if_pos (by omega)]
          have e2 : (cur.toList.take (o + l.length))[j]? = cur.toList[j]? := by rw [List.getElem?_take, if_pos (by omega)]
          rw [← e1, g3, List.getElem?_append_left (by rw [List.length_take, hcl]; omega), e2]
        simpa using hj1
  · have h63 : ((l.length + news.length : Nat) : Int) ≤ 9223372036854775807 := by omega
    have hold : (Builtin.firstCells i.size l.length (.slice ao l.length cap)).run P w.drew = .ok (bv l).toArray w.drew := by
      rcases h3 with ⟨rfl, rfl⟩ | ⟨g, o, cur, fr, rfl, hBg, hg, hcs, hfr, htk⟩
      · have hl : l = [] := List.eq_nil_of_length_eq_zero (by omega)
        subst hl
        exact run_firstCells_none w.drew i.size 0 0 0
      · refine run_firstCells_some w.drew i.size l.length ⟨g, o, none⟩ l.length cap (bv l) (by rw [bv_len, hs1]; omega) ?_
        intro j u hj
        have hjl : j < l.length := by have := (List.getElem?_eq_some_iff.1 hj).1; rwa [bv_len] at this
        have : (bv l)[j]? = cur.toList[o + j]? := by rw [← htk, List.getElem?_take, if_pos hjl, List.getElem?_drop]
        rw [this] at hj
        have hg' : w.drew.heap[g]? = some (.cells cur 5 fr) := hg
        rw [Addr.add_lit]
        simp only [World.cell?, hg']
        simpa using hj
    have hr := run_append_grow_src w t tx ty 5 i (.int .u8 0) ht hi hz ao l.length cap (bv l) hold x news.length (bv news) hs (by omega) h63 (growslice_fits (by omega) (by rw [hb1]; omega))
    have hge := grownCap_ge w (l.length + news.length) cap 5
    have hcm := grownCap_le_maxLen w (l.length + news.length) cap 5 (by unfold maxLen; omega)
    refine ⟨_, _, hr, ⟨hby, _, _, by rw [hlen], by omega, hcm, .inr ⟨w.heap.size, 0, _, (0, 0), rfl, hB, heap_alloc_new w.drew _, ?_, .inl rfl, ?_⟩⟩, ⟨⟨rfl, rfl, rfl, by simp, fun k hk _ => heap_alloc_old w.drew _ hk⟩, .inr ⟨_, rfl, Nat.le_refl _⟩, .inr ⟨_, rfl, Nat.le_refl _⟩, fun g2 _ cur2 _ _ hg2 => ⟨cur2, (heap_alloc_old w.drew _ (lt_of_block hg2)).trans hg2, rfl, fun _ _ => rfl⟩⟩⟩
    · simp only [Array.size_append, List.size_toArray, size_zeroCells, List.length_append, bv_len]
      simp [Value.cells]
      omega
    · rw [List.drop_zero, ← bv_app, hlen, Array.toList_append, List.toList_toArray]
      have : (bv (l ++ news)).length = l.length + news.length := by rw [bv_len, hlen]
      rw [← this]; exact List.take_left

/-- The bytes of a text. -/
def bl (s : ByteArray) : List Int := s.data.toList.map fun b => (b.toNat : Int)
theorem bl_len (s : ByteArray) : (bl s).length = s.size := by unfold bl; rw [List.length_map]; exact Array.length_toList
theorem bl_by8 (s : ByteArray) : By8 (bl s) := by
  intro x hx
  obtain ⟨b, _, rfl⟩ := List.mem_map.1 hx
  have := b.toNat_lt
  omega
theorem bl_cells (s : ByteArray) : byteCells s = bv (bl s) := by unfold byteCells bv bl; rw [List.map_map]; rfl
/-- A text of a list of bytes. -/
def txt (l : List Int) : ByteArray := ⟨(l.map fun x => UInt8.ofNat x.toNat).toArray⟩
theorem txt_size (l : List Int) : (txt l).size = l.length := by unfold txt; simp [ByteArray.size]
theorem bl_txt {l : List Int} (h : By8 l) : bl (txt l) = l := by
  unfold bl txt
  simp only [List.map_map]
  conv => rhs; rw [← List.map_id l]
  apply List.map_congr_left
  intro x hx
  have := h x hx
  simp only [Function.comp, id]
  rw [UInt8.toNat_ofNat']
  omega
theorem txt_bl (s : ByteArray) : txt (bl s) = s := by
  unfold txt bl
  rw [List.map_map]
  have : (fun x : Int => UInt8.ofNat x.toNat) ∘ (fun b : UInt8 => (b.toNat : Int)) = id := by
    funext b
    simp
  rw [this, List.map_id]
theorem bl_inj {s t : ByteArray} (h : bl s = bl t) : s = t := by rw [← txt_bl s, ← txt_bl t, h]
theorem txt_toList (l : List Int) : (txt l).toList = l.map fun x => UInt8.ofNat x.toNat := by
  rw [ByteArray.toList_eq]; rfl
theorem bl_append (s t : ByteArray) : bl (s ++ t) = bl s ++ bl t := by
  unfold bl; rw [ByteArray.data_append, Array.toList_append, List.map_append]

section Laws
variable {P : Program}

theorem src_str {tx : TypeId} (hk : P.underlying tx = some .string) (s : ByteArray) (w : World) (n : Nat) (hn : n = 1) : Src P n tx (.string s) (bl s).length (bv (bl s)) w := by
  subst hn
  have := Src.ofString (P := P) (tx := tx) w hk s
  rw [bl_cells, ← bl_len] at this
  exact this
theorem src_strL {tx : TypeId} (hk : P.underlying tx = some .string) (s : ByteArray) (news : List Int) (hn : bl s = news) (w : World) (n : Nat) (h1 : n = 1) : Src P n tx (.string s) news.length (bv news) w := by
  subst hn; exact src_str hk s w n h1
/-- What is appended is a slice whose cells hold the bytes. -/
theorem src_cells {tx e' : TypeId} (hk : P.underlying tx = some (.slice e')) (ao : Option Addr) (m c : Nat) (news : List Int) (hm : news.length = m) (w : World) (n : Nat) (hn : n = 1)
    (hc : m = 0 ∨ ∃ b o, ao = some ⟨b, o, none⟩ ∧ ∀ j u, (bv news)[j]? = some u → w.cell? ⟨b, o + j, none⟩ = some u) : Src P n tx (.slice ao m c) news.length (bv news) w := by
  subst hn hm
  have h1 : ∀ u ∈ bv news, u.oneCell' = true := by
    intro u hu
    obtain ⟨x, _, rfl⟩ := List.mem_map.1 hu
    rfl
  cases ao with
  | none =>
    have h0 : news = [] := by
      rcases hc with h | ⟨b, o, h, _⟩
      · exact List.eq_nil_of_length_eq_zero h
      · cases h
    subst h0
    exact ⟨.inl ⟨e', hk⟩, fun _ => rfl, run_firstCells_none w 1 0 0 c, run_firstCells_none w.drew 1 0 0 c, by simp [bv], fun _ h => by cases h⟩
  | some a =>
    refine Src.ofSlice (P := P) w hk a _ _ _ (by rw [bv_len, Nat.mul_one]) ?_ h1
    intro j u hj
    rcases hc with h | ⟨b, o, h, hh⟩
    · have : news = [] := List.eq_nil_of_length_eq_zero h
      subst this; cases hj
    · cases h
      rw [Addr.add_lit]
      exact hh j u hj
/-- A literal that has just been laid. -/
theorem src_lit {tx e' : TypeId} (hk : P.underlying tx = some (.slice e')) (w0 : World) (news : List Int) (m : Nat) (hm : news.length = m) (T : TypeId) (n : Nat) (hn : n = 1) (cs : Array Value) (hcs : cs = (bv news).toArray) :
    Src P n tx (.slice (some ⟨w0.heap.size, 0, none⟩) m m) news.length (bv news) (w0.alloc (.cells cs T)) :=
  src_cells hk _ _ _ news hm _ n hn (.inr ⟨_, _, rfl, fun j u hj => by
    have hh := heap_alloc_new w0 (.cells cs T)
    rw [Nat.zero_add]
    unfold World.cell?
    dsimp only
    rw [hh, hcs]
    simpa using hj⟩)

/-- The law of an append, in a region that runs in the order of the text. -/
theorem wpList_append_bs (w : World) {ops : Array Oper} {rest : List Oper} {o : Oper} {a : Act} {Q : Exit → Act → World → Prop} (hgd : o.guard = none) (s x : Operand) (t tx : TypeId)
    (ho : o.op = .call { callee := .builtin .append, args := #[s, x], argTypes := #[t, tx] })
    (B : Nat) (i : TypeInfo) (ht : P.underlying t = some (.slice 5)) (hi : P.info? 5 = some i) (hz : i.zero = some (.int .u8 0)) (hs1 : i.size = 1) (hb1 : i.bytes = 1)
    (v : Value) (l : List Int) (he : a.eval s = v) (hv : Bs w B v l) (y : Value) (news : List Int) (hx : a.eval x = y) (h8 : By8 news) (hs : Src P i.size tx y news.length (bv news) w) (hfit : l.length + news.length ≤ 140737488355328) (hB : B ≤ w.heap.size)
    (h : ∀ v' w', Bs w' B v' (l ++ news) → Ap v w v' w' → wpList P ops Q rest (a.put o.dst v') w') : wpList P ops Q (o :: rest) a w := by
  refine wpList_plain hgd fun _ hK => ?_
  obtain ⟨v', w', hr, h2, h3⟩ := append_run (P := P) w B t tx o.type i ht hi hz hs1 hb1 v l hv y news h8 hs hfit hB
  unfold Oper.wp execOp
  simp only [ho, resolve, invoke, builtin, Sem.run_bind, Sem.run_pure, Result.andThen_ok, List.map_toArray, List.map_cons, List.map_nil, he, hx, hr]
  exact hK _ _ (h v' w' h2 h3)

/-- The same as one step of a region that draws its order. -/
theorem step_append_bs {ops : Array Oper} {o : Oper} {a : Act} {w : World} {K : Act → World → Prop} {Q : Exit → Act → World → Prop} {E : Prop}
    (hgd : o.guard = none) (s x : Operand) (t tx : TypeId) (ho : o.op = .call { callee := .builtin .append, args := #[s, x], argTypes := #[t, tx] })
    (B : Nat) (i : TypeInfo) (ht : P.underlying t = some (.slice 5)) (hi : P.info? 5 = some i) (hz : i.zero = some (.int .u8 0)) (hs1 : i.size = 1) (hb1 : i.bytes = 1)
    (v : Value) (l : List Int) (he : a.eval s = v) (hv : Bs w B v l) (y : Value) (news : List Int) (hx : a.eval x = y) (h8 : By8 news) (hs : Src P i.size tx y news.length (bv news) w) (hfit : l.length + news.length ≤ 140737488355328) (hB : B ≤ w.heap.size)
    (hK : ∀ v' w', Bs w' B v' (l ++ news) → Ap v w v' w' → K (a.put o.dst v') w') :
    if Region.wanted o (yielded ops a.tmps) = true then Oper.wp P o a w K Q else E := by
  have hw : Region.wanted o (yielded ops a.tmps) = true := by simp [Region.wanted, hgd]
  rw [if_pos hw]
  obtain ⟨v', w', hr, h2, h3⟩ := append_run (P := P) w B t tx o.type i ht hi hz hs1 hb1 v l hv y news h8 hs hfit hB
  unfold Oper.wp execOp
  simp only [ho, resolve, invoke, builtin, Sem.run_bind, Sem.run_pure, Result.andThen_ok, List.map_toArray, List.map_cons, List.map_nil, he, hx, hr]
  exact hK v' w' h2 h3
/-- A function that has appended: the new value, what it holds, what became of the memory. -/
def Gives (B : Nat) (v : Value) (w : World) (l : List Int) (e : Ending) (w' : World) : Prop := ∃ v', e = .returned v' ∧ Bs w' B v' l ∧ Ap v w v' w'
/-- What is left of a region comes in one order only: it is walked in the order of the text. -/
theorem wpAny_rest {md : Region.Mode} {Q : Exit → Act → World → Prop} {L : List Oper} (k : Nat) {listed : Array Bool} {a : Act} {w : World} (hB : Region.seqB md L.toArray (L.drop k).length k listed = true)
    (h : wpList P L.toArray Q (L.drop k) a w) : wpAny P md L.toArray Q (L.drop k).length listed a w :=
  wpAny_of_seq (L.drop k) k listed a w (fun j => by rw [List.getElem?_drop]; simp) hB h
end Laws
theorem Tryz.infoU8 : (Tryz.prog.info? 5).map (fun i => (i.zero, i.size, i.bytes)) = some (some (.int .u8 0), 1, 1) := by kernel_rfl
end Go.Proofs.YtjbffgjclnjkoaaGreatDoor

/- bytes.Buffer: what it holds, how it grows. -/
import Derived.Test.YtjbffgjclnjkoaaGreatDoorAc
import Derived.Lib.AppendZeros
import Derived.Laws.CopyRow
import Derived.Laws.IdiomCopy
import Derived.Recover
import Derived.BigQuiet
import Derived.Deep.QuietTactic
import Derived.Deep.RegionWith
import Derived.Lib.BufferMore
namespace Go.Proofs.YtjbffgjclnjkoaaGreatDoor
set_option linter.unusedVariables false
set_option linter.unusedSimpArgs false
open Go.RowKit Go.Shelf

section Laws
variable {P : Program}
/-- A copy into a row of the call's own, from wherever. -/
theorem copy_run (w : World) (dT sT ty elem : TypeId) (hu : P.underlying dT = some (.slice elem)) (hs : (P.info? elem).map (·.size) = some 1) (g o dLen dCap : Nat) (sp : Option Addr) (n sCap : Nat) (cs : List Value) (hcs : cs.length = n) (hn : n ≤ dLen)
    (hsrc : n = 0 ∨ ∃ a, sp = some a ∧ ∀ j v, cs[j]? = some v → w.cell? (a.add j) = some v) (hc : ∀ j, j < cs.length → (w.cell? ⟨g, o + 0 + j, none⟩).isSome = true) (hf : ∀ j, j < cs.length → w.frozen? ⟨g, o + 0 + j, none⟩ = false) (h1 : ∀ v ∈ cs, v.oneCell' = true) :
    (Builtin.copy_ #[dT, sT] ty #[.slice (some ⟨g, o, none⟩) dLen dCap, .slice sp n sCap]).run P w = .ok (goInt n) (w.setCells g o cs) := by
  have hst := run_storeCells_cells (P := P) g o cs 0 w hc hf h1
  rw [Nat.add_zero] at hst
  have hmin : Nat.min n dLen = n := Nat.min_eq_left hn
  cases hq : P.info? elem with
  | none => simp [hq] at hs
  | some i =>
    have hi : i.size = 1 := by simpa [hq] using hs
    rcases hsrc with h0 | ⟨a, rfl, hsrc⟩
    · subst h0
      obtain rfl : cs = [] := List.eq_nil_of_length_eq_zero hcs
      cases sp with
      | none => simp [Builtin.copy_, run_underlying hu, Builtin.lenOf, Builtin.firstCells, sizeOf, typeInfo, hq, hi, storeCells, World.setCells]
      | some a => simp [Builtin.copy_, run_underlying hu, Builtin.lenOf, Builtin.firstCells, sizeOf, typeInfo, hq, hi, storeCells, World.setCells, loadCells, loadCellsFrom]
    · have hl := run_loadCells_list (P := P) w a cs hsrc
      rw [hcs] at hl
      simp [Builtin.copy_, run_underlying hu, Builtin.lenOf, Builtin.firstCells, sizeOf, typeInfo, hq, hi, hmin, hl, hst]
theorem wpList_copy_any {w : World} {ops : Array Oper} {rest : List Oper} {o : Oper} {a : Act} {Q : Exit → Act → World → Prop} (hgd : o.guard = none) (d s : Operand) (dT sT : TypeId)
    (ho : o.op = .call { callee := .builtin .copy, args := #[d, s], argTypes := #[dT, sT] }) (elem : TypeId) (hu : P.underlying dT = some (.slice elem)) (hsz : (P.info? elem).map (·.size) = some 1)
    (g off dLen dCap : Nat) (sp : Option Addr) (n sCap : Nat) (hd : a.eval d = .slice (some ⟨g, off, none⟩) dLen dCap) (hs : a.eval s = .slice sp n sCap) (cs : List Value) (hcs : cs.length = n) (hn : n ≤ dLen)
    (hsrc : n = 0 ∨ ∃ a, sp = some a ∧ ∀ j v, cs[j]? = some v → w.cell? (a.add j) = some v) (hc : ∀ j, j < cs.length → (w.cell? ⟨g, off + 0 + j, none⟩).isSome = true) (hf : ∀ j, j < cs.length → w.frozen? ⟨g, off + 0 + j, none⟩ = false) (h1 : ∀ v ∈ cs, v.oneCell' = true)
    (h : wpList P ops Q rest (a.put o.dst (goInt n)) (w.setCells g off cs)) : wpList P ops Q (o :: rest) a w := by
  refine wpList_plain hgd fun K hK => ?_
  have hrun := copy_run (P := P) w dT sT o.type elem hu hsz g off dLen dCap sp n sCap cs hcs hn hsrc hc hf h1
  unfold Oper.wp
  simp [execOp, ho, resolve, invoke, builtin, hd, hs, hrun, Result.andThen]
  exact hK _ _ h
end Laws
theorem Tryz.infoU8s : (Tryz.prog.info? 5).map (·.size) = some 1 := by kernel_rfl
/-- The buffer lies in block b; it holds the bytes l. -/
structure BufS (w : World) (b B : Nat) (v : Value) (l : List Int) : Prop where
  hB : B ≤ b
  cell : ∃ lr, w.heap[b]? = some (.cells #[v, .int .i64 0, .int .i8 lr] 74 (0, 0))
  bs : Bs w B v l
theorem BufS.lt {w : World} {b B : Nat} {v : Value} {l : List Int} (h : BufS w b B v l) : b < w.heap.size := by obtain ⟨lr, hc⟩ := h.cell; exact lt_of_block hc
theorem BufS.own_ne {w : World} {b B : Nat} {v : Value} {l : List Int} (h : BufS w b B v l) : v.ownBlock ≠ some b := by obtain ⟨lr, hc⟩ := h.cell; exact bs_ne h.bs hc (by decide)
theorem BufS.cells {w : World} {b B : Nat} {v : Value} {l : List Int} (h : BufS w b B v l) : ∃ lr, w.cell? ⟨b, 0, none⟩ = some v ∧ w.cell? ⟨b, 1, none⟩ = some (.int .i64 0) ∧ w.cell? ⟨b, 2, none⟩ = some (.int .i8 lr) ∧ ∀ o, w.frozen? ⟨b, o, none⟩ = false := by
  obtain ⟨lr, hc⟩ := h.cell
  refine ⟨lr, ?_, ?_, ?_, fun o => by simp [World.frozen?, hc]⟩
  all_goals simp [World.cell?, hc]
/-- What is left of a buffer's slice. -/
theorem bs_room {w : World} {B g o m cap : Nat} {l : List Int} (h : Bs w B (.slice (some ⟨g, o, none⟩) m cap) l) : m = l.length ∧ m ≤ cap ∧ cap ≤ maxLen ∧ B ≤ g ∧ ∃ cur fr, w.heap[g]? = some (.cells cur 5 fr) ∧ o + cap ≤ cur.size ∧ (fr.1 = fr.2 ∨ o + cap ≤ fr.1) ∧ (cur.toList.drop o).take m = bv l := by
  obtain ⟨h8, ao, cp, hv, h1, h2, h3⟩ := h
  rcases h3 with ⟨rfl, _⟩ | ⟨g', o', cur, fr, rfl, hB, hg, k1, k2, k3⟩
  · cases hv
  · simp only [Value.slice.injEq, Option.some.injEq, Addr.mk.injEq, and_true] at hv
    obtain ⟨⟨rfl, rfl⟩, rfl, rfl⟩ := hv
    exact ⟨rfl, h1, h2, hB, cur, fr, hg, k1, k2, k3⟩
theorem bs_make {w : World} {B g o cap : Nat} {l : List Int} (h8 : By8 l) (h1 : l.length ≤ cap) (h2 : cap ≤ maxLen) (hB : B ≤ g) {cur : Array Value} {fr : Nat × Nat} (hg : w.heap[g]? = some (.cells cur 5 fr)) (k1 : o + cap ≤ cur.size) (k2 : fr.1 = fr.2 ∨ o + cap ≤ fr.1) (k3 : (cur.toList.drop o).take l.length = bv l) :
    Bs w B (.slice (some ⟨g, o, none⟩) l.length cap) l := ⟨h8, _, _, rfl, h1, h2, .inr ⟨g, o, cur, fr, rfl, hB, hg, k1, k2, k3⟩⟩
set_option maxRecDepth 100000 in
set_option maxHeartbeats 1000000 in
theorem newBuf_any (s : ByteArray) (hs : s.size ≤ maxLen) (w : World) : Calls Tryz.prog 17 #[.string s] w fun e w' => ∃ cap, e = .returned (.pointer (some ⟨w.heap.size + 1, 0, none⟩)) ∧ BufS w' (w.heap.size + 1) w.heap.size (.slice (some ⟨w.heap.size, 0, none⟩) s.size cap) (bl s) ∧ Below w.heap.size w w' := by
  obtain ⟨cap, w1, hc, C⟩ := cnvB s hs w
  have hb1 := C.below
  have hbs := C.bs
  have hsz := C.size
  go_enter Tryz.func17, Tryz.ntmps17
  go_wp2_with fail
  all_goals go_ret
  have hnew := heap_alloc_new w1 (.cells #[.slice (some ⟨w.heap.size, 0, none⟩) s.size cap, .int .i64 0, .int .i8 0] 74)
  rw [hsz] at hnew
  exact ⟨cap, rfl, ⟨by omega, ⟨0, hnew⟩, hbs.alloc _⟩, hb1.alloc (by omega) _⟩
set_option maxRecDepth 100000 in
set_option maxHeartbeats 1000000 in
theorem tryRoom (b g o m cap n : Nat) (w : World) (c0 : w.cell? ⟨b, 0, none⟩ = some (.slice (some ⟨g, o, none⟩) m cap)) (f0 : w.frozen? ⟨b, 0, none⟩ = false) (h : m + n ≤ cap) (hc : cap ≤ maxLen) :
    Calls Tryz.prog 59 #[.pointer (some ⟨b, 0, none⟩), .int .i64 n] w fun e w' => e = .returned (.tuple #[.int .i64 m, .bool true]) ∧ w' = w.setCell ⟨b, 0, none⟩ (.slice (some ⟨g, o, none⟩) (m + n) cap) := by
  unfold maxLen at hc
  have h1 : (n : Int) ≤ (cap : Int) - (m : Int) := by omega
  have h2 : (m : Int) + (n : Int) ≤ (cap : Int) := by omega
  have h3 : (cap : Int) ≤ 9223372036854775807 := by omega
  have h4 : (0 : Int) ≤ (m : Int) + (n : Int) := by omega
  clear h hc
  go_enter Tryz.func59, Tryz.ntmps59
  go_wp2_with fail
  all_goals go_ret2
  exact ⟨rfl, rfl⟩
set_option maxRecDepth 100000 in
set_option maxHeartbeats 1000000 in
theorem tryNone (b g o m cap n : Nat) (w : World) (c0 : w.cell? ⟨b, 0, none⟩ = some (.slice (some ⟨g, o, none⟩) m cap)) (h : cap < m + n) (hm : m ≤ cap) (hc : cap ≤ maxLen) :
    Calls Tryz.prog 59 #[.pointer (some ⟨b, 0, none⟩), .int .i64 n] w fun e w' => e = .returned (.tuple #[.int .i64 0, .bool false]) ∧ w' = w := by
  unfold maxLen at hc
  have h1 : (cap : Int) - (m : Int) < (n : Int) := by omega
  have h3 : (cap : Int) ≤ 9223372036854775807 := by omega
  have h4 : (m : Int) ≤ (cap : Int) := by omega
  clear h hc hm
  go_enter Tryz.func59, Tryz.ntmps59
  go_wp2_with fail
  all_goals go_ret2
  exact ⟨rfl, rfl⟩
theorem catch_idle (w : World) : CallsD Tryz.prog 96 #[] .returning w fun e u' w' => e = .returned (.tuple #[]) ∧ u' = .returning ∧ w' = w := by
  refine callsD_of_wpS Tryz.func96 rfl fun c₀ cs hu => ?_
  apply wpS_seq
  apply wpS_region
  simp [wpOpsS, go_sem, recoverD, hu, Tryz.ntmps96, Exit.thenS]
  refine wpS_cond (t := false) (by simp [Act.eval, Array.replicate]) ?_
  simp only [Bool.false_eq_true, if_false]
  refine wpS_of_wp (wp_skip ?_)
  cases c₀
  simp_all [bodyPostS, results, Tryz.results96]
/-- What growSlice gives. -/
def GrowR (B m n : Nat) (l : List Int) (w : World) (e : Ending) (w' : World) : Prop :=
  ∃ cap2, e = .returned (.slice (some ⟨w.heap.size, 0, none⟩) m cap2) ∧ Bs w' B (.slice (some ⟨w.heap.size, 0, none⟩) m cap2) l ∧ m + n ≤ cap2 ∧ cap2 ≤ maxLen ∧ Below w.heap.size w w'
theorem growR_of {B m n C cap2 : Nat} {l : List Int} {w : World} {Z : Array Value} (hm : l.length = m) (h8 : By8 l) (hB : B ≤ w.heap.size) (hC : m + n ≤ C) (hcapge : C ≤ cap2) (hcaple : cap2 ≤ maxLen) (hZs : Z.size = cap2) :
    GrowR B m n l w (.returned (.slice (some ⟨w.heap.size, 0, none⟩) m cap2)) ((w.alloc (.cells Z 5)).drew.setCells w.heap.size 0 (bv l)) := by
  obtain ⟨hgr, cur', g1, g2, g3⟩ := setCells_row w.heap.size 5 (0, 0) (bv l) 0 (w.alloc (.cells Z 5)).drew Z (heap_alloc_new w _) (by rw [bv_len]; omega)
  rw [Nat.zero_add, List.take_zero, List.nil_append, bv_len] at g3
  refine ⟨cap2, rfl, ?_, by omega, hcaple, ⟨hgr.os, hgr.tape, hgr.output, ?_, fun k hk => ?_⟩⟩
  · have := bs_make (w := (w.alloc (.cells Z 5)).drew.setCells w.heap.size 0 (bv l)) (B := B) (g := w.heap.size) (o := 0) (cap := cap2) h8 (by omega) hcaple hB g1 (by omega) (.inl rfl) (by rw [List.drop_zero]; exact g3)
    rw [hm] at this
    exact this
  · have h1 : (w.alloc (.cells Z 5)).heap.size ≤ ((w.alloc (.cells Z 5)).drew.setCells w.heap.size 0 (bv l)).heap.size := hgr.size
    simp at h1
    omega
  · rw [hgr.block k (by show k < (w.alloc (.cells Z 5)).heap.size; simp; omega) (by simp; omega)]
    exact Below.heap_alloc w _ k hk
set_option maxRecDepth 100000 in
set_option maxHeartbeats 4000000 in
theorem growSl (B g o m c n : Nat) (l : List Int) (w : World) (hv : Bs w B (.slice (some ⟨g, o, none⟩) m c) l) (hB : B ≤ w.heap.size) (hn : 1 ≤ n) (hlim : m + n ≤ 100000000000000) (hc2 : c < m + n) :
    Calls Tryz.prog 81 #[.slice (some ⟨g, o, none⟩) m c, .int .i64 n] w (GrowR B m n l w) := by
  obtain ⟨i0, hi, hz0, hz1, hz2⟩ := info_parts Tryz.infoU8
  obtain ⟨hml, hmc, _, hBg, cur, fr, hg, k1, k2, k3⟩ := bs_room hv
  have h8 := hv.by8
  have hgl := lt_of_block hg
  have one : ∀ v ∈ bv l, v.oneCell' = true := by intro u hu; obtain ⟨x, _, rfl⟩ := List.mem_map.1 hu; rfl
  have hmI : (0 : Int) ≤ (m : Int) := by omega
  have src : ∀ (w' : World), w'.heap[g]? = w.heap[g]? → ∀ j v, (bv l)[j]? = some v → w'.cell? ((⟨g, o, none⟩ : Addr).add j) = some v := fun w' hw' j v hj => by
    have hjl : j < m := by have := (List.getElem?_eq_some_iff.1 hj).1; rw [bv_len] at this; omega
    have : (bv l)[j]? = cur.toList[o + j]? := by rw [← k3, List.getElem?_take, if_pos hjl, List.getElem?_drop]
    rw [this] at hj
    rw [Addr.add_lit]
    simp only [World.cell?, hw', hg]
    simpa using hj
  clear k1 k2 k3
  by_cases hC : m + n < 2 * c
  · have happ := Lib.run_append_nil_zeros (P := Tryz.prog) w 54 3 54 5 i0 (.int .u8 0) .i64 .i64 Tryz.underlying54 Tryz.underlying3 hi hz0 (2 * c) (by omega) (by omega) (by omega) (by rw [hz2]; omega)
    rw [show (((2 * c : Nat)) : Int) = 2 * (c : Int) by omega] at happ
    generalize hcap : grownCap w (2 * c) 0 5 = cap2 at happ
    have hcapge : 2 * c ≤ cap2 := by rw [← hcap]; exact grownCap_ge w _ 0 5
    have hcaple : cap2 ≤ maxLen := by rw [← hcap]; exact grownCap_le_maxLen w _ 0 5 (by unfold maxLen; omega)
    generalize hZ : (Builtin.zeroCells (Value.int .u8 0).cells (2 * c) ++ Builtin.zeroCells (Value.int .u8 0).cells (cap2 - (2 * c))) = Z at happ
    have hZs : Z.size = cap2 := by rw [← hZ]; simp [size_zeroCells, Value.cells]; omega
    clear hcap hZ
    have hfin := growR_of (w := w) (n := n) hml.symm h8 hB (Nat.le_of_lt hC) hcapge hcaple hZs
    have hcI : (cap2 : Int) ≤ 9223372036854775807 := by unfold maxLen at hcaple; omega
    have e1 : (m : Int) + (n : Int) < 2 * (c : Int) := by omega
    have e2 : (m : Int) ≤ (cap2 : Int) := by omega
    have hnz := heap_alloc_new w (.cells Z 5)
    have hcs : ∀ j, j < (bv l).length → ((w.alloc (.cells Z 5)).drew.cell? ⟨w.heap.size, 0 + 0 + j, none⟩).isSome = true := fun j hj => by
      have : j < Z.size := by rw [bv_len] at hj; omega
      have hh : (w.alloc (.cells Z 5)).drew.heap[w.heap.size]? = some (.cells Z 5 (0, 0)) := hnz
      unfold World.cell?
      dsimp only
      rw [hh]
      simp [this]
    have hfz : ∀ j, j < (bv l).length → (w.alloc (.cells Z 5)).drew.frozen? ⟨w.heap.size, 0 + 0 + j, none⟩ = false := fun j hj => by
      have hh : (w.alloc (.cells Z 5)).drew.heap[w.heap.size]? = some (.cells Z 5 (0, 0)) := hnz
      unfold World.frozen?
      dsimp only
      rw [hh]
      simp
    have hsr := src (w.alloc (.cells Z 5)).drew (Below.heap_alloc _ _ _ hgl)
    have hbl := bv_len l
    rw [← hml] at hbl
    have z1 : (m : Int) + (n : Int) ≤ 100000000000000 := by omega
    have z2 : (0 : Int) ≤ (m : Int) + (n : Int) := by omega
    have z3 : (2 : Int) * (c : Int) ≤ 200000000000000 := by omega
    have z4 : (0 : Int) ≤ (2 : Int) * (c : Int) := by omega
    have z5 : m ≤ 2 * c := by omega
    have hcopy := copy_run (P := Tryz.prog) (w.alloc (.cells Z 5)).drew 54 54 3 5 Tryz.underlying54 Tryz.infoU8s w.heap.size 0 (2 * c) cap2 (some ⟨g, o, none⟩) m c (bv l) hbl z5 (.inr ⟨_, rfl, hsr⟩) hcs hfz one
    revert hfin hcopy
    generalize (w.alloc (.cells Z 5)).drew.setCells w.heap.size 0 (bv l) = w2
    intro hfin hcopy
    clear hnz src hC hc2 hlim hcapge hcaple hZs hml hv hg hi hz0 hz1 hz2 hcs hfz hsr
    go_enter_defers Tryz.func81, Tryz.ntmps81
    go_wp2_with (first
      | (at_builtin; refine Lib.wpList_append_run _ rfl _ _ _ _ rfl _ _ rfl rfl _ _ happ ?_))
    refine leaves_cons (f := 96) (args := #[]) (by simp) (by simp [go_sem]) ?_
    refine (catch_idle _).mono ?_
    rintro e u' w'' ⟨rfl, rfl, rfl⟩
    refine ⟨_, results_tmp rfl _ _ _, ?_⟩
    exact hfin
  · have happ := Lib.run_append_nil_zeros (P := Tryz.prog) w 54 3 54 5 i0 (.int .u8 0) .i64 .i64 Tryz.underlying54 Tryz.underlying3 hi hz0 (m + n) (by omega) (by omega) (by omega) (by rw [hz2]; omega)
    rw [show (((m + n : Nat)) : Int) = (m : Int) + (n : Int) by omega] at happ
    generalize hcap : grownCap w (m + n) 0 5 = cap2 at happ
    have hcapge : m + n ≤ cap2 := by rw [← hcap]; exact grownCap_ge w _ 0 5
    have hcaple : cap2 ≤ maxLen := by rw [← hcap]; exact grownCap_le_maxLen w _ 0 5 (by unfold maxLen; omega)
    generalize hZ : (Builtin.zeroCells (Value.int .u8 0).cells (m + n) ++ Builtin.zeroCells (Value.int .u8 0).cells (cap2 - (m + n))) = Z at happ
    have hZs : Z.size = cap2 := by rw [← hZ]; simp [size_zeroCells, Value.cells]; omega
    clear hcap hZ
    have hfin := growR_of (w := w) (n := n) hml.symm h8 hB (Nat.le_refl _) hcapge hcaple hZs
    have hcI : (cap2 : Int) ≤ 9223372036854775807 := by unfold maxLen at hcaple; omega
    have e1 : 2 * (c : Int) ≤ (m : Int) + (n : Int) := by omega
    have e2 : (m : Int) ≤ (cap2 : Int) := by omega
    have hnz := heap_alloc_new w (.cells Z 5)
    have hcs : ∀ j, j < (bv l).length → ((w.alloc (.cells Z 5)).drew.cell? ⟨w.heap.size, 0 + 0 + j, none⟩).isSome = true := fun j hj => by
      have : j < Z.size := by rw [bv_len] at hj; omega
      have hh : (w.alloc (.cells Z 5)).drew.heap[w.heap.size]? = some (.cells Z 5 (0, 0)) := hnz
      unfold World.cell?
      dsimp only
      rw [hh]
      simp [this]
    have hfz : ∀ j, j < (bv l).length → (w.alloc (.cells Z 5)).drew.frozen? ⟨w.heap.size, 0 + 0 + j, none⟩ = false := fun j hj => by
      have hh : (w.alloc (.cells Z 5)).drew.heap[w.heap.size]? = some (.cells Z 5 (0, 0)) := hnz
      unfold World.frozen?
      dsimp only
      rw [hh]
      simp
    have hsr := src (w.alloc (.cells Z 5)).drew (Below.heap_alloc _ _ _ hgl)
    have hbl := bv_len l
    rw [← hml] at hbl
    have z1 : (m : Int) + (n : Int) ≤ 100000000000000 := by omega
    have z2 : (0 : Int) ≤ (m : Int) + (n : Int) := by omega
    have z3 : (2 : Int) * (c : Int) ≤ 200000000000000 := by omega
    have z4 : (0 : Int) ≤ (2 : Int) * (c : Int) := by omega
    have z5 : m ≤ m + n := by omega
    have hcopy := copy_run (P := Tryz.prog) (w.alloc (.cells Z 5)).drew 54 54 3 5 Tryz.underlying54 Tryz.infoU8s w.heap.size 0 (m + n) cap2 (some ⟨g, o, none⟩) m c (bv l) hbl z5 (.inr ⟨_, rfl, hsr⟩) hcs hfz one
    revert hfin hcopy
    generalize (w.alloc (.cells Z 5)).drew.setCells w.heap.size 0 (bv l) = w2
    intro hfin hcopy
    clear hnz src hC hc2 hlim hcapge hcaple hZs hml hv hg hi hz0 hz1 hz2 hcs hfz hsr
    go_enter_defers Tryz.func81, Tryz.ntmps81
    go_wp2_with (first
      | (at_builtin; refine Lib.wpList_append_run _ rfl _ _ _ _ rfl _ _ rfl rfl _ _ happ ?_))
    refine leaves_cons (f := 96) (args := #[]) (by simp) (by simp [go_sem]) ?_
    refine (catch_idle _).mono ?_
    rintro e u' w'' ⟨rfl, rfl, rfl⟩
    refine ⟨_, results_tmp rfl _ _ _, ?_⟩
    exact hfin
/-- The buffer's block alone. -/
def BufC (w : World) (b : Nat) (v : Value) : Prop := ∃ lr, w.heap[b]? = some (.cells #[v, .int .i64 0, .int .i8 lr] 74 (0, 0))
/-- What grow gives: room for n bytes more behind those that are there. -/
def GrowB (b B m n : Nat) (l : List Int) (v : Value) (w : World) (e : Ending) (w' : World) : Prop :=
  e = .returned (.int .i64 m) ∧ ∃ g o cap, m + n ≤ cap ∧ Bs w' B (.slice (some ⟨g, o, none⟩) m cap) l ∧ BufC w' b (.slice (some ⟨g, o, none⟩) (m + n) cap) ∧ Stp b v w (.slice (some ⟨g, o, none⟩) (m + n) cap) w'
theorem setv2 {b : Nat} {v v' : Value} {w : World} (hv : v'.ownBlock = v.ownBlock) (p : Nat) (x : Value) : Stp b v w v' (w.setCell ⟨b, p, none⟩ x) :=
  ⟨rfl, rfl, rfl, by simp [World.setCell], fun k _ hne _ => Below.heap_setCell _ _ _ _ (by simpa using hne), fun k _ h e => h (hv ▸ e)⟩
/-- What grow gives where there is no room: a new block; the old one stays as it was. -/
def GrowN (b B m n : Nat) (l : List Int) (w : World) (e : Ending) (w' : World) : Prop :=
  e = .returned (.int .i64 m) ∧ ∃ cap, m + n ≤ cap ∧ Bs w' B (.slice (some ⟨w.heap.size, 0, none⟩) m cap) l ∧ BufC w' b (.slice (some ⟨w.heap.size, 0, none⟩) (m + n) cap) ∧ w'.os = w.os ∧ w'.tape = w.tape ∧ w'.output = w.output ∧ w.heap.size ≤ w'.heap.size ∧ ∀ k, k < w.heap.size → k ≠ b → w'.heap[k]? = w.heap[k]?
theorem GrowN.toB {b B m n : Nat} {l : List Int} {w w' : World} {e : Ending} (h : GrowN b B m n l w e w') (v : Value) : GrowB b B m n l v w e w' := by
  obtain ⟨h1, cap, h2, h3, h4, h5, h6, h7, h8, h9⟩ := h
  refine ⟨h1, w.heap.size, 0, cap, h2, h3, h4, h5, h6, h7, h8, fun k hk hne _ => h9 k hk hne, fun k hk _ e => ?_⟩
  have : w.heap.size = k := by simpa [Value.ownBlock] using e
  omega
theorem grow_end {b B m n cap2 : Nat} {l : List Int} {v : Value} {w w2 : World} {lr : Int} (hb : b < w.heap.size) (hbel : Below w.heap.size w w2) (hN : Bs w2 B (.slice (some ⟨w.heap.size, 0, none⟩) m cap2) l) (hc : m + n ≤ cap2)
    (hbk : w2.heap[b]? = some (.cells #[v, .int .i64 0, .int .i8 lr] 74 (0, 0))) (X : Value) :
    GrowN b B m n l w (.returned (.int .i64 m)) (((w2.setCell ⟨b, 0, none⟩ X).setCell ⟨b, 1, none⟩ (.int .i64 0)).setCell ⟨b, 0, none⟩ (.slice (some ⟨w.heap.size, 0, none⟩) (m + n) cap2)) := by
  have other : ∀ k, k ≠ b → (((w2.setCell ⟨b, 0, none⟩ X).setCell ⟨b, 1, none⟩ (.int .i64 0)).setCell ⟨b, 0, none⟩ (.slice (some ⟨w.heap.size, 0, none⟩) (m + n) cap2)).heap[k]? = w2.heap[k]? := fun k hk =>
    (Below.heap_setCell _ _ _ _ (by simpa using hk)).trans ((Below.heap_setCell _ _ _ _ (by simpa using hk)).trans (Below.heap_setCell _ _ _ _ (by simpa using hk)))
  refine ⟨rfl, cap2, hc, hN.same fun g' hg' => other g' ?_, ⟨lr, heap_setCell_same (heap_setCell_same (heap_setCell_same hbk X) (.int .i64 0)) _⟩, hbel.os, hbel.tape, hbel.output, ?_, fun k hk hne => (other k hne).trans (hbel.block k hk)⟩
  · intro e
    have : w.heap.size = g' := by simpa [Value.ownBlock] using hg'
    omega
  · have := hbel.size
    simpa [World.setCell] using this
set_option maxRecDepth 100000 in
set_option maxHeartbeats 4000000 in
theorem len_any (b : Nat) (g o m cap : Nat) (w : World) (c0 : w.cell? ⟨b, 0, none⟩ = some (.slice (some ⟨g, o, none⟩) m cap)) (c1 : w.cell? ⟨b, 1, none⟩ = some (.int .i64 0)) (hm : m ≤ 9223372036854775807) :
    Calls Tryz.prog 79 #[.pointer (some ⟨b, 0, none⟩)] w fun e w' => e = .returned (.int .i64 m) ∧ ∃ n, w' = w.drewN n := by
  have q0 : ∀ nq, (w.drewN nq).cell? ⟨b, 0, none⟩ = some (.slice (some ⟨g, o, none⟩) m cap) := fun _ => c0
  have q1 : ∀ nq, (w.drewN nq).cell? ⟨b, 1, none⟩ = some (.int .i64 0) := fun _ => c1
  have hmI : (m : Int) ≤ 9223372036854775807 := by omega
  have hm0 : (0 : Int) ≤ (m : Int) := by omega
  clear hm c0 c1
  go_enter Tryz.func79, Tryz.ntmps79
  go_upto_region 1 with fail
  go_quiet (fail)
  go_wp2_with fail
  all_goals go_ret
  first | exact ⟨rfl, _, rfl⟩ | exact ⟨_, rfl⟩
set_option maxRecDepth 100000 in
set_option maxHeartbeats 4000000 in
theorem grow_none (b B g o m cap n : Nat) (l : List Int) (w : World) (h : BufS w b B (.slice (some ⟨g, o, none⟩) m cap) l) (hB : B ≤ w.heap.size) (hlim : m + n ≤ 100000000000000) (hroom : ¬ m + n ≤ cap) :
    Calls Tryz.prog 58 #[.pointer (some ⟨b, 0, none⟩), .int .i64 n] w (GrowN b B m n l w) := by
  obtain ⟨hml, hmc, hcm, hBg, cur, fr, hg, k1, k2, k3⟩ := bs_room h.bs
  obtain ⟨lr, c0, c1, c2, f⟩ := h.cells
  have f0 := f 0
  have f1 := f 1
  obtain ⟨lr2, hcell⟩ := h.cell
  have hne := h.own_ne
  have hlen := len_any b g o m cap w c0 c1 (by omega)
  have hm0 : (0 : Int) ≤ (m : Int) := by omega
  have q1 : ∀ nq, (w.drewN nq).cell? ⟨b, 1, none⟩ = some (.int .i64 0) := fun _ => c1
  have hn1 : 1 ≤ n := by omega
  have ht := fun k => tryNone b g o m cap n (w.drewN k) c0 (by omega) hmc hcm
  have q0 : ∀ nq, (w.drewN nq).cell? ⟨b, 0, none⟩ = some (.slice (some ⟨g, o, none⟩) m cap) := fun _ => c0
  have hgs : ∀ W : World, W.heap = w.heap → Calls Tryz.prog 81 #[.slice (some ⟨g, o, none⟩) m cap, .int .i64 n] W (GrowR B m n l W) := fun W hW => growSl B g o m cap n l W (h.bs.same fun _ _ => by rw [hW]) (by rw [hW]; exact hB) hn1 hlim (by omega)
  have hnil : ∀ W, (binOp .eql 54 (.slice (some ⟨g, o, none⟩) m cap) (.slice none 0 0)).run Tryz.prog W = .ok (.bool false) W := fun W => Lib.run_eql_slice_some_nil W _ _ _ Tryz.underlying54
  have e1 : (cap : Int) ≤ 100000000000000 := by omega
  have e2 : (n : Int) ≤ 100000000000000 := by omega
  have e3 : (cap : Int) < (m : Int) + (n : Int) := by omega
  have e4 : (m : Int) ≤ (cap : Int) := by omega
  have e5 : (1 : Int) ≤ (n : Int) := by omega
  have e6 : (cap : Int).tdiv 2 - (m : Int) < (n : Int) := by rw [Int.tdiv_eq_ediv_of_nonneg (by omega)]; omega
  have e7 : (cap : Int) / 2 - (m : Int) < (n : Int) := by omega
  have e8 : (m : Int) + (n : Int) ≤ 100000000000000 := by omega
  have hwn : IntKind.i64.wrap (n : Int) = n := by rw [IntKind.wrap_i64]; omega
  have hbl := h.lt
  clear k3 c2 f hlim hroom hcm hmc hg hml
  go_enter Tryz.func58, Tryz.ntmps58
  by_cases hz : m = 0
  · subst hz
    go_upto_region 15 with (first
      | (go_at_call 79; refine hlen.mono ?_; rintro e w1 ⟨rfl, k1, rfl⟩)
      | (go_at_call 59; refine (ht _).mono ?_; rintro e w2 ⟨rfl, rfl⟩))
    have p0 : (w.drewN k1).drew.cell? ⟨b, 0, none⟩ = some (.slice (some ⟨g, o, none⟩) 0 cap) := c0
    have p1 : (w.drewN k1).drew.cell? ⟨b, 1, none⟩ = some (.int .i64 0) := c1
    have p2 : (w.drewN k1).drew.frozen? ⟨b, 0, none⟩ = false := f0
    have p3 : (w.drewN k1).drew.frozen? ⟨b, 1, none⟩ = false := f1
    go_region_with (first
      | (go_at_call 81; refine (hgs _ ?_).mono ?_; (rfl); rintro e w2 ⟨cap2, rfl, hN, hc2, hm2, hbel⟩; have hbk2 := (hbel.block b hbl).trans hcell; have d0 : w2.cell? ⟨b, 0, none⟩ = some (.slice (some ⟨g, o, none⟩) 0 cap) := (by simp [World.cell?, hbk2]); have d1 : w2.cell? ⟨b, 1, none⟩ = some (.int .i64 0) := (by simp [World.cell?, hbk2]); have d2 : w2.frozen? ⟨b, 0, none⟩ = false := (by simp [World.frozen?, hbk2]); have d3 : w2.frozen? ⟨b, 1, none⟩ = false := (by simp [World.frozen?, hbk2])))
    all_goals
      go_wp2_with fail
      go_ret
      have hE := grow_end (n := n) hbl ⟨hbel.os, hbel.tape, hbel.output, hbel.size, hbel.block⟩ hN hc2 hbk2 (.slice (some ⟨w.heap.size, 0, none⟩) 0 cap2)
      rw [Nat.zero_add] at hE
      exact hE
  · have hz' : ((m : Int) == 0) = false := by simp; omega
    go_upto_region 15 with (first
      | (go_at_call 79; refine hlen.mono ?_; rintro e w1 ⟨rfl, k1, rfl⟩)
      | (go_at_call 59; refine (ht _).mono ?_; rintro e w2 ⟨rfl, rfl⟩))
    have p0 : (w.drewN k1).drew.cell? ⟨b, 0, none⟩ = some (.slice (some ⟨g, o, none⟩) m cap) := c0
    have p1 : (w.drewN k1).drew.cell? ⟨b, 1, none⟩ = some (.int .i64 0) := c1
    have p2 : (w.drewN k1).drew.frozen? ⟨b, 0, none⟩ = false := f0
    have p3 : (w.drewN k1).drew.frozen? ⟨b, 1, none⟩ = false := f1
    go_region_with (first
      | (go_at_call 81; refine (hgs _ ?_).mono ?_; (rfl); rintro e w2 ⟨cap2, rfl, hN, hc2, hm2, hbel⟩; have hbk2 := (hbel.block b hbl).trans hcell; have d0 : w2.cell? ⟨b, 0, none⟩ = some (.slice (some ⟨g, o, none⟩) m cap) := (by simp [World.cell?, hbk2]); have d1 : w2.cell? ⟨b, 1, none⟩ = some (.int .i64 0) := (by simp [World.cell?, hbk2]); have d2 : w2.frozen? ⟨b, 0, none⟩ = false := (by simp [World.frozen?, hbk2]); have d3 : w2.frozen? ⟨b, 1, none⟩ = false := (by simp [World.frozen?, hbk2])))
    all_goals
      go_wp2_with fail
      go_ret
      exact grow_end hbl ⟨hbel.os, hbel.tape, hbel.output, hbel.size, hbel.block⟩ hN hc2 hbk2 _
set_option maxRecDepth 100000 in
set_option maxHeartbeats 4000000 in
theorem grow_any (b B g o m cap n : Nat) (l : List Int) (w : World) (h : BufS w b B (.slice (some ⟨g, o, none⟩) m cap) l) (hB : B ≤ w.heap.size) (hlim : m + n ≤ 100000000000000) :
    Calls Tryz.prog 58 #[.pointer (some ⟨b, 0, none⟩), .int .i64 n] w (GrowB b B m n l (.slice (some ⟨g, o, none⟩) m cap) w) := by
  obtain ⟨hml, hmc, hcm, hBg, cur, fr, hg, k1, k2, k3⟩ := bs_room h.bs
  obtain ⟨lr, c0, c1, c2, f⟩ := h.cells
  have f0 := f 0
  have f1 := f 1
  obtain ⟨lr2, hcell⟩ := h.cell
  have hne := h.own_ne
  have hlen := len_any b g o m cap w c0 c1 (by omega)
  have hm0 : (0 : Int) ≤ (m : Int) := by omega
  have q1 : ∀ nq, (w.drewN nq).cell? ⟨b, 1, none⟩ = some (.int .i64 0) := fun _ => c1
  by_cases hroom : m + n ≤ cap
  · have hfin : ∀ k, GrowB b B m n l (.slice (some ⟨g, o, none⟩) m cap) w (.returned (.int .i64 m)) ((w.drewN k).setCell ⟨b, 0, none⟩ (.slice (some ⟨g, o, none⟩) (m + n) cap)) := fun k =>
      ⟨rfl, g, o, cap, hroom, (h.bs.drewN k).same fun g' hg' => Below.heap_setCell _ _ _ _ (by intro e; apply hne; rw [hg']; simpa using e), ⟨lr2, heap_setCell_same (w := w.drewN k) hcell _⟩, (Stp.drew b _ w k).trans (setv2 (v := .slice (some ⟨g, o, none⟩) m cap) (v' := .slice (some ⟨g, o, none⟩) (m + n) cap) rfl 0 _)⟩
    have ht := fun k => tryRoom b g o m cap n (w.drewN k) c0 f0 hroom hcm
    clear hcell hne hg k3 h c0 c1 c2 f f0 f1 hml hlim hroom hcm hmc
    go_enter Tryz.func58, Tryz.ntmps58
    by_cases hz : m = 0
    · subst hz
      go_wp2_with (first
        | (go_at_call 79; refine hlen.mono ?_; rintro e w1 ⟨rfl, k1, rfl⟩)
        | (go_at_call 59; refine (ht _).mono ?_; rintro e w2 ⟨rfl, rfl⟩))
      all_goals go_ret
      have := hfin k1
      rw [Nat.zero_add] at this
      exact this
    · have hz' : ((m : Int) == 0) = false := by simp; omega
      go_wp2_with (first
        | (go_at_call 79; refine hlen.mono ?_; rintro e w1 ⟨rfl, k1, rfl⟩)
        | (go_at_call 59; refine (ht _).mono ?_; rintro e w2 ⟨rfl, rfl⟩))
      all_goals go_ret
      exact hfin _
  · exact (grow_none b B g o m cap n l w h hB hlim hroom).mono fun e w' hh => hh.toB _
end Go.Proofs.YtjbffgjclnjkoaaGreatDoor

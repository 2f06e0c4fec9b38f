/- The reader of the reference at a text that begins with a quotation mark: Parse, Taken. -/
import Derived.Test.YtjbffgjclnjkoaaGreatDoorVq
import Derived.Test.YtjbffgjclnjkoaaGreatDoorNu
import Derived.RegionTactic
import Derived.BigRegion
import Derived.ChangeAlike
namespace Go.Proofs.YtjbffgjclnjkoaaGreatDoor
set_option linter.unusedVariables false
set_option linter.unusedSimpArgs false
open Go.RowKit

/-- An outcome's block. -/
def OutB (w : World) (n : Nat) (f a : Int) (o : Bool) : Prop := ∃ T, w.heap[n]? = some (.cells #[.int .i64 f, .int .i64 a, .bool o] T (0, 0))
theorem OutB.cells {w : World} {n : Nat} {f a : Int} {o : Bool} (h : OutB w n f a o) :
    w.cell? ⟨n, 0, none⟩ = some (.int .i64 f) ∧ w.cell? ⟨n, 1, none⟩ = some (.int .i64 a) ∧ w.cell? ⟨n, 2, none⟩ = some (.bool o) ∧
    w.frozen? ⟨n, 0, none⟩ = false ∧ w.frozen? ⟨n, 1, none⟩ = false ∧ w.frozen? ⟨n, 2, none⟩ = false := by
  obtain ⟨T, h⟩ := h
  simp [World.cell?, World.frozen?, h]
theorem OutB.lt {w : World} {n : Nat} {f a : Int} {o : Bool} (h : OutB w n f a o) : n < w.heap.size := by obtain ⟨T, h⟩ := h; exact lt_of_block h
theorem OutB.other {w w' : World} {n : Nat} {f a : Int} {o : Bool} (h : OutB w n f a o) (hb : w'.heap[n]? = w.heap[n]?) : OutB w' n f a o := by obtain ⟨T, h⟩ := h; exact ⟨T, hb.trans h⟩
theorem NodeB.other {w w' : World} {n : Nat} {k : Int} {t : ByteArray} {names kids : Value} (h : NodeB w n k t names kids) (hb : w'.heap[n]? = w.heap[n]?) : NodeB w' n k t names kids := by obtain ⟨T, h⟩ := h; exact ⟨T, hb.trans h⟩
theorem OutB.fourCells {w : World} {n m : Nat} {f a : Int} {o : Bool} (h : OutB w n f a o) (hne : n ≠ m) (x0 x1 x2 x3 : Value) :
    OutB ((((w.setCell ⟨m, 0, none⟩ x0).setCell ⟨m, 1, none⟩ x1).setCell ⟨m, 2, none⟩ x2).setCell ⟨m, 3, none⟩ x3) n f a o := by
  have k : ∀ {v : World} (j : Nat) (x : Value), OutB v n f a o → OutB (v.setCell ⟨m, j, none⟩ x) n f a o := fun j x hv => hv.other (Below.heap_setCell _ _ _ _ (by simpa using hne))
  exact k 3 _ (k 2 _ (k 1 _ (k 0 _ h)))
theorem Below.fourCells {B n : Nat} {w v : World} (h : Below B w v) (hn : B ≤ n) (x0 x1 x2 x3 : Value) :
    Below B w ((((v.setCell ⟨n, 0, none⟩ x0).setCell ⟨n, 1, none⟩ x1).setCell ⟨n, 2, none⟩ x2).setCell ⟨n, 3, none⟩ x3) := (((h.setCell hn _).setCell hn _).setCell hn _).setCell hn _
theorem OutB.put {w w0 : World} {n m B : Nat} {f a : Int} {o : Bool} {k : Int} {t : ByteArray} {names kids : Value} (h : OutB w n f a o) (hN : NodeB w m k t names kids) (hne : m ≠ n) (hB : Below B w0 w) (hn : B ≤ n) (f' a' : Int) (o' : Bool) :
    OutB (((w.setCell ⟨n, 0, none⟩ (.int .i64 f')).setCell ⟨n, 1, none⟩ (.int .i64 a')).setCell ⟨n, 2, none⟩ (.bool o')) n f' a' o' ∧
    NodeB (((w.setCell ⟨n, 0, none⟩ (.int .i64 f')).setCell ⟨n, 1, none⟩ (.int .i64 a')).setCell ⟨n, 2, none⟩ (.bool o')) m k t names kids ∧
    Below B w0 (((w.setCell ⟨n, 0, none⟩ (.int .i64 f')).setCell ⟨n, 1, none⟩ (.int .i64 a')).setCell ⟨n, 2, none⟩ (.bool o')) := by
  have q : ∀ {v : World} (j : Nat) (x : Value), NodeB v m k t names kids → NodeB (v.setCell ⟨n, j, none⟩ x) m k t names kids := fun j x hv => hv.other (Below.heap_setCell _ _ _ _ (by simpa using hne))
  refine ⟨?_, q 2 _ (q 1 _ (q 0 _ hN)), ((hB.setCell hn _).setCell hn _).setCell hn _⟩
  obtain ⟨T, h⟩ := h
  exact ⟨T, by rw [heap_setCell (heap_setCell (heap_setCell h _) _) _]; rfl⟩
/-- What reading a whole text that begins with a quotation mark leaves of the reader. -/
def psQ (s : ByteArray) (lo : Bool) : St :=
  let p := scQ s lo ⟨0, 0, false⟩
  if p.1 then (let τ := St.space s (s.size - p.2.at_) p.2; if τ.at_ < s.size then τ.fail 4 else τ) else p.2

set_option maxRecDepth 100000 in
set_option maxHeartbeats 4000000 in
theorem parse_q (s : ByteArray) (tw lo : Bool) (w : World) (hs : s.size ≤ maxLen) (hq : bAt s 0 = 34) :
    Calls Tryz.prog 5 #[.string s, .agg #[.bool tw, .bool lo]] w fun e w' => (∃ t1 : ByteArray, e = .returned (.tuple #[.agg #[.int .u8 34, .string t1, .slice none 0 0, .slice none 0 0], .agg #[.int .i64 (psQ s lo).fault, .int .i64 (psQ s lo).at_, .bool (psQ s lo).opn]])) ∧ Below w.heap.size w w' := by
  obtain ⟨r, σ1, H1⟩ := named (scQ s lo ⟨0, 0, false⟩)
  go_enter Tryz.func5, Tryz.ntmps5
  go_upto_region 2 with fail
  have hWB : Below w.heap.size w _ := (((((Below.refl _ w).alloc (Nat.le_refl _) (.cells #[.bool tw, .bool lo] 31)).alloc (by simp) (.cells #[.int .u8 0, .string ⟨#[]⟩, .slice none 0 0, .slice none 0 0] 25)).alloc (by simp; omega) (.cells #[.int .i64 0, .int .i64 0, .bool false] 27)).alloc (by simp; omega) (.cells #[.string s, .int .i64 0, .bool tw, .bool lo, .int .i64 0, .bool false] 47))
  have hR0 := newR (((w.alloc (.cells #[.bool tw, .bool lo] 31)).alloc (.cells #[.int .u8 0, .string ⟨#[]⟩, .slice none 0 0, .slice none 0 0] 25)).alloc (.cells #[.int .i64 0, .int .i64 0, .bool false] 27)) s tw lo 47
  have hN0 : NodeB ((((w.alloc (.cells #[.bool tw, .bool lo] 31)).alloc (.cells #[.int .u8 0, .string ⟨#[]⟩, .slice none 0 0, .slice none 0 0] 25)).alloc (.cells #[.int .i64 0, .int .i64 0, .bool false] 27)).alloc (.cells #[.string s, .int .i64 0, .bool tw, .bool lo, .int .i64 0, .bool false] 47)) (w.heap.size + 1) 0 ⟨#[]⟩ (.slice none 0 0) (.slice none 0 0) := by
    refine ⟨25, (Below.heap_alloc _ _ _ (by simp)).trans ((Below.heap_alloc _ _ _ (by simp)).trans ?_)⟩
    have := heap_alloc_new (w.alloc (.cells #[.bool tw, .bool lo] 31)) (.cells #[.int .u8 0, .string ⟨#[]⟩, .slice none 0 0, .slice none 0 0] 25)
    simpa using this
  have hO0 : OutB ((((w.alloc (.cells #[.bool tw, .bool lo] 31)).alloc (.cells #[.int .u8 0, .string ⟨#[]⟩, .slice none 0 0, .slice none 0 0] 25)).alloc (.cells #[.int .i64 0, .int .i64 0, .bool false] 27)).alloc (.cells #[.string s, .int .i64 0, .bool tw, .bool lo, .int .i64 0, .bool false] 47)) (w.heap.size + 1 + 1) 0 0 false := by
    refine ⟨27, (Below.heap_alloc _ _ _ (by simp)).trans ?_⟩
    have := heap_alloc_new ((w.alloc (.cells #[.bool tw, .bool lo] 31)).alloc (.cells #[.int .u8 0, .string ⟨#[]⟩, .slice none 0 0, .slice none 0 0] 25)) (.cells #[.int .i64 0, .int .i64 0, .bool false] 27)
    simpa using this
  revert hWB hR0 hN0 hO0
  simp only [World.size_alloc]
  generalize ((((w.alloc (.cells #[.bool tw, .bool lo] 31)).alloc (.cells #[.int .u8 0, .string ⟨#[]⟩, .slice none 0 0, .slice none 0 0] 25)).alloc (.cells #[.int .i64 0, .int .i64 0, .bool false] 27)).alloc (.cells #[.string s, .int .i64 0, .bool tw, .bool lo, .int .i64 0, .bool false] 47)) = w0
  intro hWB hR0 hN0 hO0
  have hlt0 := hR0.lt
  have hv := fun w' (h : IsR w' (w.heap.size + 1 + 1 + 1) s tw lo ⟨0, 0, false⟩) => value_q (w.heap.size + 1 + 1 + 1) s tw lo ⟨0, 0, false⟩ w' r σ1 H1 h hs (Nat.zero_le _) (Lib.hid hq)
  have hle1 : σ1.at_ ≤ s.size := by
    have h1 := St.quoted_le (s := s) lo (σ := ⟨0, 0, false⟩) (Nat.zero_le _)
    have := H1.out
    unfold scQ at this
    have h2 := St.then_le (s := s) (p := St.quoted s lo ⟨0, 0, false⟩) (f := fun τ => St.need s τ 34 34) h1.2 (St.need_adv h1.2 34 34).2.1
    rw [this] at h2
    exact h2
  go_upto_if 16 with (first
    | (go_at_call 14; refine (hv _ hR0).mono ?_; rintro e w1 ⟨⟨t1, rfl⟩, hR1, hM1⟩))
  have hs1 := hM1.size
  have hRA : IsR (w1.alloc (.cells #[.int .u8 34, .string t1, .slice none 0 0, .slice none 0 0] 25)) (w.heap.size + 1 + 1 + 1) s tw lo σ1 := hR1.other (Below.heap_alloc _ _ _ hR1.lt)
  have hnA : NodeB (w1.alloc (.cells #[.int .u8 34, .string t1, .slice none 0 0, .slice none 0 0] 25)) w1.heap.size 34 t1 (.slice none 0 0) (.slice none 0 0) := ⟨_, heap_alloc_new _ _⟩
  have hl1 := hN0.lt
  have hl2 := hO0.lt
  have hNA := (hN0.mv hM1 (by omega)).other (Below.heap_alloc w1 (.cells #[.int .u8 34, .string t1, .slice none 0 0, .slice none 0 0] 25) (w.heap.size + 1) (by omega))
  have hOA := (hO0.other (hM1.block _ hl2 (by simp))).other (Below.heap_alloc w1 (.cells #[.int .u8 34, .string t1, .slice none 0 0, .slice none 0 0] 25) (w.heap.size + 1 + 1) (by omega))
  have hBA := (hWB.trans (hM1.below (B := w.heap.size) (by omega) (by omega))).alloc (by have := hWB.size; omega) (.cells #[.int .u8 34, .string t1, .slice none 0 0, .slice none 0 0] 25)
  have hne1 : w.heap.size + 1 + 1 + 1 < w1.heap.size := hR1.lt
  have keep : ∀ {u v : World}, Mv (w.heap.size + 1 + 1 + 1) u v → NodeB u (w.heap.size + 1) 0 ⟨#[]⟩ (.slice none 0 0) (.slice none 0 0) ∧ OutB u (w.heap.size + 1 + 1) 0 0 false ∧ NodeB u w1.heap.size 34 t1 (.slice none 0 0) (.slice none 0 0) ∧ Below w.heap.size w u →
      NodeB v (w.heap.size + 1) 0 ⟨#[]⟩ (.slice none 0 0) (.slice none 0 0) ∧ OutB v (w.heap.size + 1 + 1) 0 0 false ∧ NodeB v w1.heap.size 34 t1 (.slice none 0 0) (.slice none 0 0) ∧ Below w.heap.size w v := fun hm ⟨k1, k2, k3, k4⟩ =>
    ⟨k1.mv hm (by omega), k2.other (hm.block _ k2.lt (by simp)), k3.mv hm (by omega), k4.trans (hm.below (by omega) k4.size)⟩
  have hAll := And.intro hNA (And.intro hOA (And.intro hnA hBA))
  revert hRA hAll
  generalize (w1.alloc (.cells #[.int .u8 34, .string t1, .slice none 0 0, .slice none 0 0] 25)) = wA
  intro hRA hAll
  clear hNA hOA hnA hBA hv hN0 hO0 hR0 hWB hM1 hR1
  obtain ⟨σF, HF⟩ : ∃ σF, Hid (psQ s lo = σF) := ⟨_, Lib.hid rfl⟩
  go_cut [] (fun wx => IsR wx (w.heap.size + 1 + 1 + 1) s tw lo σF ∧ NodeB wx (w.heap.size + 1) 0 ⟨#[]⟩ (.slice none 0 0) (.slice none 0 0) ∧ OutB wx (w.heap.size + 1 + 1) 0 0 false ∧ NodeB wx w1.heap.size 34 t1 (.slice none 0 0) (.slice none 0 0) ∧ Below w.heap.size w wx)
  case first =>
    cases r
    · have E : Hid (σ1 = σF) := Lib.hid (by rw [← HF.out]; unfold psQ; rw [H1.out]; rfl)
      go_wp2_with fail
      go_meet
      exact ⟨E.out ▸ hRA, hAll⟩
    · obtain ⟨τ, HT⟩ : ∃ τ, Hid (St.space s (s.size - σ1.at_) σ1 = τ) := ⟨_, Lib.hid rfl⟩
      have hle2 : τ.at_ ≤ s.size := by rw [← HT.out, space_eq]; exact (spEnd_le s _ _ hle1).2
      have hsp : ∀ w', IsR w' (w.heap.size + 1 + 1 + 1) s tw lo σ1 → Calls Tryz.prog 15 #[.pointer (some ⟨w.heap.size + 1 + 1 + 1, 0, none⟩)] w' fun e w'' => e = .returned (.tuple #[]) ∧ IsR w'' (w.heap.size + 1 + 1 + 1) s tw lo τ ∧ Mv (w.heap.size + 1 + 1 + 1) w' w'' := fun w' h => by
        have := rspace_any _ s tw lo σ1 w' h hs hle1
        rwa [HT.out] at this
      by_cases hlt : τ.at_ < s.size
      · have E : Hid (τ.fail 4 = σF) := Lib.hid (by rw [← HF.out]; unfold psQ; rw [H1.out]; dsimp only; rw [if_pos rfl, HT.out, if_pos hlt])
        have hltI : (τ.at_ : Int) < (s.size : Int) := by omega
        clear hlt
        go_wp2_with (first
          | (go_at_call 15; refine (hsp _ hRA).mono ?_; rintro e w2 ⟨rfl, hR2, hM2⟩; obtain ⟨c0, c1, c2, c3, c4, c5, f1, f4, f5⟩ := hR2.cells)
          | (go_at_call 16; refine (fail_any _ s tw lo τ _ _ hR2).mono ?_; rintro e w3 ⟨rfl, hR3, hM3⟩))
        go_meet
        exact ⟨E.out ▸ hR3, keep (hM2.trans hM3) hAll⟩
      · have E : Hid (τ = σF) := Lib.hid (by rw [← HF.out]; unfold psQ; rw [H1.out]; dsimp only; rw [if_pos rfl, HT.out, if_neg hlt])
        have hltI : (s.size : Int) ≤ (τ.at_ : Int) := by omega
        clear hlt
        go_wp2_with (first
          | (go_at_call 15; refine (hsp _ hRA).mono ?_; rintro e w2 ⟨rfl, hR2, hM2⟩; obtain ⟨c0, c1, c2, c3, c4, c5, f1, f4, f5⟩ := hR2.cells))
        go_meet
        exact ⟨E.out ▸ hR2, keep hM2 hAll⟩
  case rest =>
    obtain ⟨hRc, hNc, hOc, hnc, hBc⟩ := hcut
    obtain ⟨c0, c1, c2, c3, c4, c5, f1, f4, f5⟩ := hRc.cells
    obtain ⟨m0, m1, m2, m3, fm0, fm1, fm2, fm3⟩ := hNc.cells
    obtain ⟨o0, o1, o2, fo0, fo1, fo2⟩ := hOc.cells
    obtain ⟨k0, k1, k2, k3, fk0, fk1, fk2, fk3⟩ := hnc.cells
    go_wp2_with fail
    go_region
    go_wp2_with fail
    have hNf := hNc.putNode 34 t1 (.slice none 0 0) (.slice none 0 0)
    have hBf := Below.fourCells hBc (n := w.heap.size + 1) (by omega) (.int .u8 34) (.string t1) (.slice none 0 0) (.slice none 0 0)
    have hOf := hOc.fourCells (m := w.heap.size + 1) (by omega) (.int .u8 34) (.string t1) (.slice none 0 0) (.slice none 0 0)
    clear c0 c1 c2 c3 c4 c5 f1 f4 f5 m0 m1 m2 m3 fm0 fm1 fm2 fm3 o0 o1 o2 fo0 fo1 fo2 k0 k1 k2 k3 fk0 fk1 fk2 fk3 hRc hNc hOc hnc hBc
    revert hNf hBf hOf
    generalize ((((wc.setCell ⟨w.heap.size + 1, 0, none⟩ (.int .u8 34)).setCell ⟨w.heap.size + 1, 1, none⟩ (.string t1)).setCell ⟨w.heap.size + 1, 2, none⟩ (.slice none 0 0)).setCell ⟨w.heap.size + 1, 3, none⟩ (.slice none 0 0)) = w5
    intro hNf hBf hOf
    obtain ⟨hOg, hNg, hBg⟩ := hOf.put hNf (by omega) hBf (by omega) σF.fault σF.at_ σF.opn
    revert hOg hNg hBg
    generalize (((w5.setCell ⟨w.heap.size + 1 + 1, 0, none⟩ (.int .i64 σF.fault)).setCell ⟨w.heap.size + 1 + 1, 1, none⟩ (.int .i64 σF.at_)).setCell ⟨w.heap.size + 1 + 1, 2, none⟩ (.bool σF.opn)) = w6
    intro hOg hNg hBg
    have hOd : OutB w6.drew (w.heap.size + 1 + 1) σF.fault σF.at_ σF.opn := hOg
    have hNd : NodeB w6.drew (w.heap.size + 1) 34 t1 (.slice none 0 0) (.slice none 0 0) := hNg
    have hBd : Below w.heap.size w w6.drew := ⟨hBg.os, hBg.tape, hBg.output, hBg.size, hBg.block⟩
    revert hOd hNd hBd
    generalize w6.drew = w7
    intro hOd hNd hBd
    obtain ⟨q0, q1, q2, q3, _, _, _, _⟩ := hNd.cells
    obtain ⟨p0, p1, p2, _, _, _⟩ := hOd.cells
    refine bodyPost_ret (v := .tuple #[.agg #[.int .u8 34, .string t1, .slice none 0 0, .slice none 0 0], .agg #[.int .i64 σF.fault, .int .i64 σF.at_, .bool σF.opn]]) (by simp [results, Tryz.results5, go_sem, q0, q1, q2, q3, p0, p1, p2]; try rfl) rfl ?_
    exact ⟨⟨_, by rw [HF.out]⟩, hBd⟩

end Go.Proofs.YtjbffgjclnjkoaaGreatDoor

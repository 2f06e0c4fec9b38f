/- The law of the strings at a text's beginning: the walk. -/
import Derived.Test.YtokhmhbjbclcoaaDoorCw
import Derived.Test.YtokhmhbjbclcoaaDoorEs
import Derived.Test.YtokhmhbjbclcoaaDoorSt
import Derived.Test.YtokhmhbjbclcoaaDoorShd
import Derived.Test.YtokhmhbjbclcoaaDoorCb
namespace Go.Proofs.YtokhmhbjbclcoaaDoor
set_option linter.unusedVariables false
set_option linter.unusedSimpArgs false
open Go.RowKit

theorem wireFaultS_any (w : World) (er : Value) (c : Nat) (B : Nat) (hP : TwoB B w) (hc : c ≤ 3) (h : ErrK w er c) :
    Calls Tryd.prog 23 #[er] w fun e w' => (∃ how : Int, e = .returned (.int .i64 how) ∧ (c = 0 → how = 0) ∧ (c = 1 → how = 1) ∧ (c ≠ 0 → how = 1 ∨ how = 2)) ∧ w' = w := by
  obtain ⟨h0, h1, h2, h3⟩ := h
  have hU := hP.eof
  by_cases c0 : c = 0
  · subst c0
    exact (wireFault_any w er 0 B hU (.inl ⟨h0 rfl, rfl⟩)).mono fun e w' h => ⟨⟨0, h.1, fun _ => rfl, (fun h => by cases h), fun h => absurd rfl h⟩, h.2⟩
  by_cases c1 : c = 1
  · subst c1
    exact (wireFault_any w er 1 B hU (.inr (.inl ⟨h1 rfl, rfl⟩))).mono fun e w' h => ⟨⟨1, h.1, (fun h => by cases h), (fun _ => rfl), fun _ => .inl rfl⟩, h.2⟩
  by_cases c2 : c = 2
  · subst c2
    exact (wireFault_any w er 2 B hU (.inr (.inr ⟨h2 rfl, rfl⟩))).mono fun e w' h => ⟨⟨2, h.1, (fun h => by cases h), (fun h => by cases h), fun _ => .inr rfl⟩, h.2⟩
  obtain rfl : c = 3 := by omega
  have h3 := h3 rfl
  clear h0 h1 h2 c0 c1 c2 hU hc
  obtain ⟨_, a, b, ca, cb, ta, tb, e1, e2, e3, e4, _, _⟩ := hP
  obtain rfl : er = _ := Option.some.inj (h3.symm.trans e2)
  have h := is_two a b ca cb ta tb w e3 e4
  clear h3 e2 e3 e4
  have key : Calls Tryd.prog 23 #[.iface 153 (.pointer (some b))] w fun e w' => (∃ r : Bool, e = .returned (.int .i64 (if r then 1 else 2))) ∧ w' = w := by
    go_enter Tryd.func23, Tryd.ntmps23
    go_wp2_with (go_at_call 35; refine h.mono ?_; rintro e w' ⟨⟨r, rfl⟩, rfl⟩)
    all_goals go_ret
    all_goals first
      | exact ⟨⟨true, rfl⟩, rfl⟩
      | exact ⟨⟨false, rfl⟩, rfl⟩
  exact key.mono fun e w' h => by
    obtain ⟨⟨r, h⟩, hw⟩ := h
    refine ⟨?_, hw⟩
    cases r
    · exact ⟨2, h, (fun h => by cases h), (fun h => by cases h), fun _ => .inr rfl⟩
    · exact ⟨1, h, (fun h => by cases h), (fun h => by cases h), fun _ => .inl rfl⟩

theorem wire10s_any (n how due came : Int) (w : World) (h0 : came = 0 → how = 0 ∧ n = due) (h1 : came = 1 → how = 1) (h2 : came = 2 → how = 1 ∨ how = 2) (h3 : came = 0 ∨ came = 1 ∨ came = 2) :
    Calls Tryd.prog 12 #[.int .i64 n, .int .i64 how, .int .i64 due, .int .i64 came] w fun e w' => e = .returned (.bool true) ∧ w' = w := by
  rcases h3 with rfl | rfl | rfl
  · obtain ⟨rfl, rfl⟩ := h0 rfl
    clear h0 h1 h2
    go_enter Tryd.func12, Tryd.ntmps12
    go_wp2_with fail
    all_goals go_ret
    exact ⟨rfl, rfl⟩
  · obtain rfl := h1 rfl
    clear h0 h1 h2
    go_enter Tryd.func12, Tryd.ntmps12
    go_wp2_with fail
    all_goals go_ret
    exact ⟨rfl, rfl⟩
  · rcases h2 rfl with rfl | rfl
    · clear h0 h1 h2
      go_enter Tryd.func12, Tryd.ntmps12
      go_wp2_with fail
      all_goals go_ret
      exact ⟨rfl, rfl⟩
    · clear h0 h1 h2
      go_enter Tryd.func12, Tryd.ntmps12
      go_wp2_with fail
      all_goals go_ret
      exact ⟨rfl, rfl⟩
/-- What the two readers say of one text. -/
theorem string_law (s : ByteArray) (strict : Bool) :
    (cameHow s (shP s strict) = 0 → (cq strict s).2 = 0 ∧ cameN s (shP s strict) = ((cq strict s).1 : Nat)) ∧ (cameHow s (shP s strict) = 1 → (cq strict s).2 = 1) ∧ (cameHow s (shP s strict) = 2 → (cq strict s).2 ≠ 0) ∧
      (cameHow s (shP s strict) = 0 ∨ cameHow s (shP s strict) = 1 ∨ cameHow s (shP s strict) = 2) := by
  obtain ⟨h1, h2⟩ := shP_cq s strict
  unfold cameHow cameN
  cases hp : (shP s strict).1
  · obtain ⟨a, b⟩ := h2 hp
    by_cases hz : (shP s strict).2.at_ = s.size
    · simp [hz]; exact b hz
    · simp [hz]; exact a
  · have := h1 hp
    simp [this]
theorem cq_le (s : ByteArray) (strict : Bool) : (cq strict s).2 ≤ 3 := by
  have hE : ∀ n, (cE strict s n).2 ≤ 2 := fun n => by
    unfold cE
    repeat' split
    all_goals simp
    all_goals (try split)
    all_goals omega
  have hS : ∀ n, (cS strict s n).2 ≤ 3 := fun n => by
    unfold cS
    have := hE n
    repeat' split
    all_goals (first | omega | simp)
  have hO : ∀ g n, (cO strict s g n).2 ≤ 3 := fun g => by
    induction g with
    | zero => intro n; simp [YtokhmhbjbclcoaaDoor.cO]
    | succ g ih =>
      intro n
      unfold YtokhmhbjbclcoaaDoor.cO
      have := hS n
      repeat' split
      all_goals (first | exact ih _ | exact this | simp)
  unfold cq
  repeat' split
  all_goals (first | exact hO _ _ | simp)

set_option maxRecDepth 100000 in
theorem wireString_any (s : ByteArray) (strict : Bool) (w : World) (B : Nat) (hB : B ≤ w.heap.size) (hs : s.size ≤ 1000000000) (hT : TabsB B w) (hP : TwoB B w) :
    Calls Tryd.prog 19 #[.string s, .bool strict] w fun e w' => ∃ n how : Int, e = .returned (.tuple #[.int .i64 n, .int .i64 how]) ∧ ((cq strict s).2 = 0 → how = 0 ∧ n = ((cq strict s).1 : Nat)) ∧ ((cq strict s).2 = 1 → how = 1) ∧ ((cq strict s).2 ≠ 0 → how = 1 ∨ how = 2) ∧ Below w.heap.size w w' := by
  have hle := cq_le s strict
  obtain ⟨T, hT0⟩ : ∃ T, cq strict s = T := ⟨_, rfl⟩
  rw [hT0] at hle ⊢
  have hf0 : (w.alloc (.cells #[.int .u64 0] 66)).heap.size = w.heap.size + 1 := by simp
  obtain ⟨cap, w2, hc, C⟩ := cnvB s (by unfold maxLen; omega) (w.alloc (.cells #[.int .u64 0] 66))
  have hb2 : Below (w.heap.size + 1) (w.alloc (.cells #[.int .u64 0] 66)) w2 := hf0 ▸ C.below
  have hby : Lib.Bytes w2 (w.heap.size + 1) 0 s := hf0 ▸ C.bytes
  have hsz : w2.heap.size = w.heap.size + 1 + 1 := hf0 ▸ C.size
  have hba : Below w.heap.size w w2 := ((Below.refl _ _).alloc (Nat.le_refl _) _).trans (hb2.mono (by omega))
  have hbB : Below B w w2 := hba.mono hB
  have hKS : KS w.heap.size (w.heap.size + 1) s w2 w2 := ⟨Mv.refl _ _, ⟨0, _, (hb2.block w.heap.size (by omega)).trans (heap_alloc_new w _)⟩, hby, by omega, by omega⟩
  have h := consW B w.heap.size (w.heap.size + 1) cap s strict w2 hs C.cap_ge C.cap_le hKS (by omega) hB (hT.below hbB) (hP.eof.below hbB) (hP.inv.below hbB)
  rw [hT0] at h
  clear hT0 hT
  have hcv : (convert 9 46 (.string s)).run Tryd.prog (w.alloc (.cells #[.int .u64 0] 66)) = .ok (.slice (some ⟨w.heap.size + 1, 0, none⟩) s.size cap) w2 := hf0 ▸ hc
  have g1 : Calls Tryd.prog 31 #[.pointer (some ⟨w.heap.size, 0, none⟩), .slice (some ⟨w.heap.size + 1, 0, none⟩) s.size cap, .bool strict] w2 (CEnd w.heap.size (w.heap.size + 1) s w2 T) := by
    clear hc hcv C hb2 hby hsz
    go_enter Tryd.func31, Tryd.ntmps31
    go_wp2_with (go_at_call 46; refine h.mono ?_; rintro e w3 ⟨n, er, rfl, hK3, hn, hE⟩)
    all_goals go_ret2
    exact ⟨n, er, rfl, hK3, hn, hE⟩
  have HSZ := Lib.hid hsz
  clear h hc C hb2 hby hsz hf0
  go_enter Tryd.func19, Tryd.ntmps19
  go_wp2_with (first
    | (go_at_call 31; refine g1.mono ?_; rintro e w3 ⟨n, er, rfl, hK3, hn, hE⟩; have hP3 := hP.below (hbB.trans (hK3.base hB (by have := HSZ.out; omega))); have hbb : Below w.heap.size w w3 := hba.trans (hK3.base (Nat.le_refl _) (by have := HSZ.out; omega)))
    | (go_at_call 23; refine (wireFaultS_any _ er T.2 B hP3 hle hE).mono ?_; rintro e w4 ⟨⟨how, rfl, h0, h1, h2⟩, rfl⟩))
  all_goals go_ret2
  exact ⟨n, how, rfl, fun h => ⟨h0 h, hn h⟩, h1, h2, hbb⟩
set_option maxRecDepth 100000 in
theorem walk_FnWireString (a0 : ByteArray) (w0 : a0.size ≤ maxLen) (a1 : Bool) (w : World) (hT : TabsB w.heap.size w) (hP : TwoB w.heap.size w) :
    Calls Tryd.prog 7 #[.string a0, .bool a1] w fun e w' => e = .returned (.bool true) ∧ Below w.heap.size w w' := by
  have hs := w0
  unfold maxLen at hs
  by_cases hz : 2147483647 < (a0.size : Int)
  · go_enter Tryd.func7, Tryd.ntmps7
    go_wp2_with fail
    all_goals go_ret
    exact ⟨rfl, Below.refl _ _⟩
  · obtain ⟨r, hr⟩ : ∃ r, Hid (decide (a0.size ≤ 4000) = r) := ⟨_, Lib.hid rfl⟩
    cases r
    · go_enter Tryd.func7, Tryd.ntmps7
      go_wp2_with fail
      refine (short1 a0 _ _ _ hr (strs1 _ _ _) w0).mono ?_
      rintro e w1 ⟨rfl, rfl⟩
      go_wp2_with fail
      all_goals go_ret
      exact ⟨rfl, (Below.refl _ _).alloc (Nat.le_refl _) _⟩
    · have hsz : a0.size ≤ 4000 := by simpa using hr.out
      have hba : Below w.heap.size w (w.alloc (.cells #[.string a0] 9)) := (Below.refl _ _).alloc (Nat.le_refl _) _
      have hn := wireString_any a0 a1 (w.alloc (.cells #[.string a0] 9)) w.heap.size (by simp) (by omega) (hT.below hba) (hP.below hba)
      obtain ⟨l0, l1, l2, l3⟩ := string_law a0 a1
      have hd := fun w' => stringHead_any a0 a1 w' w0 (by omega)
      obtain ⟨H, hH⟩ : ∃ H, cameHow a0 (shP a0 a1) = H := ⟨_, rfl⟩
      obtain ⟨N, hN⟩ : ∃ N, cameN a0 (shP a0 a1) = N := ⟨_, rfl⟩
      obtain ⟨T, hTT⟩ : ∃ T, cq a1 a0 = T := ⟨_, rfl⟩
      rw [hH] at l0 l1 l2 l3
      rw [hN] at l0
      rw [hTT] at l0 l1 l2 hn
      have hd2 : ∀ w' : World, Calls Tryd.prog 20 #[.string a0, .bool a1] w' fun e w'' => e = .returned (.tuple #[.int .i64 N, .int .i64 H]) ∧ Below w'.heap.size w' w'' := fun w' => by
        have := hd w'
        rwa [hH, hN] at this
      clear hd hH hN hTT
      go_enter Tryd.func7, Tryd.ntmps7
      go_wp2_with (first
        | (go_at_call 9; refine (short1 a0 _ _ _ hr (strs1 _ _ _) w0).mono ?_; rintro e w1 ⟨rfl, rfl⟩)
        | (go_at_call 19; refine hn.mono ?_; rintro e w2 ⟨n, how, rfl, g0, g1, g2, hb2⟩; have hb3 := hba.trans (hb2.mono hba.size))
        | (go_at_call 20; refine (hd2 _).mono ?_; rintro e w4 ⟨rfl, hb4⟩; have hb5 := hb3.trans (hb4.mono hb3.size))
        | (go_at_call 12; refine (wire10s_any _ _ _ _ _ (fun h => ⟨(g0 (l0 h).1).1, (g0 (l0 h).1).2.trans (l0 h).2.symm⟩) (fun h => g1 (l1 h)) (fun h => g2 (l2 h)) l3).mono ?_; rintro e w6 ⟨rfl, rfl⟩))
      all_goals go_ret
      exact ⟨rfl, hb5⟩
end Go.Proofs.YtokhmhbjbclcoaaDoor

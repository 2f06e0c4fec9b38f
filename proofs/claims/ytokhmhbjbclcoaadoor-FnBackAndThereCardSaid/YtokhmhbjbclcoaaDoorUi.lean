/- jsontext.AppendUnquote of a string, and the thin package's Unquote. -/
import Derived.Test.YtokhmhbjbclcoaaDoorUr
import Derived.Test.YtokhmhbjbclcoaaDoorCb
namespace Go.Proofs.YtokhmhbjbclcoaaDoor
set_option linter.unusedVariables false
set_option linter.unusedSimpArgs false
open Go.RowKit

set_option maxRecDepth 100000 in
set_option maxHeartbeats 1000000 in
theorem unqS (B : Nat) (v : Value) (l : List Int) (s : ByteArray) (w : World) (hv : Bs w B v l) (hB : B ≤ w.heap.size) (hs : s.size ≤ 1000000000) (hl : l.length ≤ 10000000000)
    (hT : TabsB B w) (hU : EofB B w) (hI : InvB B w) :
    Calls Tryd.prog 28 #[v, .string s] w (QEnd B v w (l ++ (uq s).1) (uq s).2) := by
  obtain ⟨cap, w1, hc, C⟩ := cnvB s (by unfold maxLen; omega) w
  have hb1 := C.below
  have hB1 := Below.mono hb1 hB
  have hv1 := hv.below hb1
  have hsz := C.size
  have hlt : ∀ g, v.ownBlock = some g → g < w.heap.size := fun g e => (hv.lt e).2
  obtain ⟨T, HT⟩ : ∃ T, Hid (l ++ (uq s).1 = T) := ⟨_, Lib.hid rfl⟩
  obtain ⟨TI, HTI⟩ : ∃ TI, Hid ((uq s).2 = TI) := ⟨_, Lib.hid rfl⟩
  have hq := unqW B v l s w.heap.size cap w1 hv1 (by omega) hs hl C.cap_ge C.cap_le C.bytes (fun e => by have := hlt _ e; omega) (by omega) (hT.below hB1) (hU.below hB1) (hI.below hB1)
  rw [HT.out, HTI.out]
  rw [HT.out, HTI.out] at hq
  have ha1 : Ap v w v w1 := Ap.of_below v hb1
  have HSZ := Lib.hid hsz
  clear C hB1 hv1 hlt hsz
  cases TI
  · go_enter Tryd.func28, Tryd.ntmps28
    go_wp2_with (go_at_call 42; refine hq.mono ?_; rintro e w3 ⟨v3, er, rfl, hb3, ha3, h0, h1⟩; obtain rfl := h0 rfl; clear h0 h1)
    all_goals go_ret2
    exact ⟨_, _, rfl, hb3, ha1.trans ha3, (fun _ => rfl), (fun h => by cases h)⟩
  · go_enter Tryd.func28, Tryd.ntmps28
    go_wp2_with (go_at_call 42; refine hq.mono ?_; rintro e w3 ⟨v3, er, rfl, hb3, ha3, h0, h1⟩; obtain ⟨Te, pe, rfl⟩ := h1 rfl; clear h0)
    all_goals go_ret2
    exact ⟨_, _, rfl, hb3.alloc _, (ha1.trans ha3).trans (Ap.alloc _ _ _), (fun h => by cases h), (fun _ => ⟨_, _, rfl⟩)⟩

/-- What unquoting makes of a text that stands behind another one. -/
def unquoted (tx s : ByteArray) : ByteArray := txt (bl tx ++ (uq s).1)
set_option maxRecDepth 100000 in
set_option maxHeartbeats 1000000 in
theorem implUnquote (tx s : ByteArray) (w : World) (B : Nat) (hBw : B ≤ w.heap.size) (ht : tx.size ≤ 10000000000) (hs : s.size ≤ 1000000000) (hT : TabsB B w) (hU : EofB B w) (hI : InvB B w) :
    Calls Tryd.prog 17 #[.string tx, .string s] w fun e w' => e = .returned (.tuple #[.string (unquoted tx s), .bool (!(uq s).2)]) ∧ Below w.heap.size w w' := by
  have up : ∀ {x : World}, TabsB B x → TabsB w.heap.size x := fun h => ⟨h.1, by have := h.2; omega⟩
  have hT := up hT
  have hU : EofB w.heap.size w := ⟨by have := hU.1; omega, hU.2⟩
  have hI : InvB w.heap.size w := ⟨by have := hI.1; omega, hI.2⟩
  obtain ⟨cap, w1, hc, C⟩ := cnvB tx (by unfold maxLen; omega) w
  have hq := unqS w.heap.size _ _ s w1 C.bs (by have := C.size; omega) hs (by rw [bl_len]; exact ht) (hT.below C.below) (hU.below C.below) (hI.below C.below)
  have hqt : unquoted tx s = txt (bl tx ++ (uq s).1) := rfl
  obtain ⟨T, HT⟩ : ∃ T, Hid (bl tx ++ (uq s).1 = T) := ⟨_, Lib.hid rfl⟩
  obtain ⟨TI, HTI⟩ : ∃ TI, Hid ((uq s).2 = TI) := ⟨_, Lib.hid rfl⟩
  rw [hqt, HT.out, HTI.out]
  rw [HT.out, HTI.out] at hq
  have hbel : ∀ {v' w'}, Ap (.slice (some ⟨w.heap.size, 0, none⟩) tx.size cap) w1 v' w' → Below w.heap.size w w' := fun h => C.below.trans (h.below C.bs (by have := C.size; omega))
  clear hqt C
  cases TI
  · go_enter Tryd.func17, Tryd.ntmps17
    go_wp2_with (go_at_call 28; refine hq.mono ?_; rintro e w3 ⟨v3, er, rfl, hb3, ha3, h0, h1⟩; obtain rfl := h0 rfl; clear h0 h1)
    have hcv := fun n => bs_str (hb3.drewN n)
    have hbf := hbel ha3
    go_quiet (fail)
    go_wp2
    all_goals go_ret2
    exact ⟨rfl, bdN hbf _⟩
  · go_enter Tryd.func17, Tryd.ntmps17
    go_wp2_with (go_at_call 28; refine hq.mono ?_; rintro e w3 ⟨v3, er, rfl, hb3, ha3, h0, h1⟩; obtain ⟨Te, pe, rfl⟩ := h1 rfl; clear h0)
    have hcv := fun n => bs_str (hb3.drewN n)
    have hbf := hbel ha3
    go_quiet (fail)
    go_wp2
    all_goals go_ret2
    exact ⟨rfl, bdN hbf _⟩
end Go.Proofs.YtokhmhbjbclcoaaDoor

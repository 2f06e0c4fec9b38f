/- jsontext.AppendQuote of a string, and the thin package's Quote. -/
import Derived.Test.YtokhmhbjbclcoaaDoorQw
import Derived.Test.YtokhmhbjbclcoaaDoorCb
namespace Go.Proofs.YtokhmhbjbclcoaaDoor
set_option linter.unusedVariables false
set_option linter.unusedSimpArgs false
open Go.RowKit

set_option maxRecDepth 100000 in
set_option maxHeartbeats 1000000 in
theorem quoteS (B : Nat) (v : Value) (l : List Int) (s : ByteArray) (w : World) (hv : Bs w B v l) (hB : B ≤ w.heap.size) (hs : s.size ≤ 100000000000) (hl : l.length ≤ 100000000000)
    (hT : TabsB B w) (hE : EscB B w) (hI : InvB B w) :
    Calls Tryd.prog 33 #[v, .string s] w (QEnd B v w (l ++ [34] ++ qO s s.size 0 ++ [34]) (qI s s.size 0)) := by
  obtain ⟨cap, w1, hc, C⟩ := cnvB s (by unfold maxLen; omega) w
  have hb1 := C.below
  have hB1 := Below.mono hb1 hB
  have hv1 := hv.below hb1
  have hsz := C.size
  have hlt : ∀ g, v.ownBlock = some g → g < w.heap.size := fun g e => (hv.lt e).2
  obtain ⟨T, HT⟩ : ∃ T, Hid (l ++ [34] ++ qO s s.size 0 ++ [34] = T) := ⟨_, Lib.hid rfl⟩
  obtain ⟨TI, HTI⟩ : ∃ TI, Hid (qI s s.size 0 = TI) := ⟨_, Lib.hid rfl⟩
  obtain ⟨Tf, hTf⟩ : ∃ Tf, Tf = 96 := ⟨_, rfl⟩
  have hq := quoteW B v l s w.heap.size cap w1.heap.size 96 (w1.alloc (.cells #[.int .u64 0, .int .u64 0] 96)) (hv1.alloc _) (by simp; omega) hs hl C.cap_ge C.cap_le
    (bytes_block C.bytes (Below.heap_alloc _ _ _ (by omega))) (fun e => by have := hlt _ e; omega) (by simp; omega) (heap_alloc_new _ _) (fun e => by have := hlt _ e; omega)
    (hT.below (hB1.alloc (by omega) _)) (hE.below (hB1.alloc (by omega) _)) (hI.below (hB1.alloc (by omega) _))
  rw [HT.out, HTI.out]
  rw [HT.out, HTI.out] at hq
  have ha1 : Ap v w v (w1.alloc (.cells #[.int .u64 0, .int .u64 0] 96)) := (Ap.of_below v hb1).trans (Ap.alloc _ _ _)
  have HSZ := Lib.hid hsz
  clear hTf C hB1 hv1 hlt hsz
  cases TI
  · go_enter Tryd.func33, Tryd.ntmps33
    go_wp2_with (go_at_call 49; refine hq.mono ?_; rintro e w3 ⟨v3, er, rfl, hb3, ha3, h0, h1⟩; obtain rfl := h0 rfl; clear h0 h1)
    all_goals go_ret2
    exact ⟨_, _, rfl, hb3, ha1.trans ha3, (fun _ => rfl), (fun h => by cases h)⟩
  · go_enter Tryd.func33, Tryd.ntmps33
    go_wp2_with (go_at_call 49; refine hq.mono ?_; rintro e w3 ⟨v3, er, rfl, hb3, ha3, h0, h1⟩; obtain ⟨Te, pe, rfl⟩ := h1 rfl; clear h0)
    all_goals go_ret2
    exact ⟨_, _, rfl, hb3.alloc _, (ha1.trans ha3).trans (Ap.alloc _ _ _), (fun h => by cases h), (fun _ => ⟨_, _, rfl⟩)⟩

/-- What quoting makes of a text that stands behind another one. -/
def quoted (to s : ByteArray) : ByteArray := txt (bl to ++ [34] ++ qO s s.size 0 ++ [34])
set_option maxRecDepth 100000 in
set_option maxHeartbeats 1000000 in
theorem implQuote (to s : ByteArray) (w : World) (ht : to.size ≤ 100000000000) (hs : s.size ≤ 100000000000) (hT : TabsB w.heap.size w) (hE : EscB w.heap.size w) (hI : InvB w.heap.size w) :
    Calls Tryd.prog 21 #[.string to, .string s] w fun e w' => e = .returned (.tuple #[.string (quoted to s), .bool (!qI s s.size 0)]) ∧ Below w.heap.size w w' := by
  obtain ⟨cap, w1, hc, C⟩ := cnvB to (by unfold maxLen; omega) w
  have hq := quoteS w.heap.size _ _ s w1 C.bs (by have := C.size; omega) hs (by rw [bl_len]; exact ht) (hT.below C.below) (hE.below C.below) (hI.below C.below)
  have hqt : quoted to s = txt (bl to ++ [34] ++ qO s s.size 0 ++ [34]) := rfl
  obtain ⟨T, HT⟩ : ∃ T, Hid (bl to ++ [34] ++ qO s s.size 0 ++ [34] = T) := ⟨_, Lib.hid rfl⟩
  obtain ⟨TI, HTI⟩ : ∃ TI, Hid (qI s s.size 0 = TI) := ⟨_, Lib.hid rfl⟩
  rw [hqt, HT.out, HTI.out]
  rw [HT.out, HTI.out] at hq
  have hbel : ∀ {v' w'}, Ap (.slice (some ⟨w.heap.size, 0, none⟩) to.size cap) w1 v' w' → Below w.heap.size w w' := fun h => C.below.trans (h.below C.bs (by have := C.size; omega))
  clear hqt C
  cases TI
  · go_enter Tryd.func21, Tryd.ntmps21
    go_wp2_with (go_at_call 33; refine hq.mono ?_; rintro e w3 ⟨v3, er, rfl, hb3, ha3, h0, h1⟩; obtain rfl := h0 rfl; clear h0 h1)
    have hcv := fun n => bs_str (hb3.drewN n)
    have hbf := hbel ha3
    go_quiet (fail)
    go_wp2
    all_goals go_ret2
    exact ⟨rfl, bdN hbf _⟩
  · go_enter Tryd.func21, Tryd.ntmps21
    go_wp2_with (go_at_call 33; refine hq.mono ?_; rintro e w3 ⟨v3, er, rfl, hb3, ha3, h0, h1⟩; obtain ⟨Te, pe, rfl⟩ := h1 rfl; clear h0)
    have hcv := fun n => bs_str (hb3.drewN n)
    have hbf := hbel ha3
    go_quiet (fail)
    go_wp2
    all_goals go_ret2
    exact ⟨rfl, bdN hbf _⟩
end Go.Proofs.YtokhmhbjbclcoaaDoor

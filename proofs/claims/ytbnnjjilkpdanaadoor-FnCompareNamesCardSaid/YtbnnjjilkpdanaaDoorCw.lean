/- Comparing two names: the conversions and the call. -/
import Derived.Test.YtbnnjjilkpdanaaDoorCv
import Derived.Test.YtbnnjjilkpdanaaDoorCb
namespace Go.Proofs.YtbnnjjilkpdanaaDoor
open Go.RowKit
set_option linter.unusedVariables false

theorem names_any (a b : ByteArray) (w : World) (ha : a.size ≤ maxLen) (hb : b.size ≤ maxLen) (hT : Tabs w) :
    Calls Tryd.prog 17 #[.string a, .string b] w fun e w' => e = .returned (.int .i64 (cmpU a b (a.size + 1) 0 0)) ∧ Below w.heap.size w w' := by
  obtain ⟨ca, w1, h1, C1⟩ := cnvB a ha w
  obtain ⟨cb, w2, h2, C2⟩ := cnvB b hb w1
  have hT2 := (hT.below C1.below).below C2.below
  have hA2 := bytes_below C1.bytes C2.below
  have h := cmp_any a b w.heap.size w1.heap.size ca cb w2 C1.cap_ge C2.cap_ge C1.cap_le C2.cap_le hT2 hA2 C2.bytes
  have hb2 := bw C1.below C2.below
  clear C1 C2 hT2 hA2
  go_enter Tryd.func17, Tryd.ntmps17
  go_wp2_with fail
  refine h.mono ?_
  rintro e w3 ⟨rfl, hb3⟩
  go_wp2_with fail
  all_goals go_ret
  exact ⟨by first | done | rfl | simp [*], bw hb2 hb3⟩
end Go.Proofs.YtbnnjjilkpdanaaDoor

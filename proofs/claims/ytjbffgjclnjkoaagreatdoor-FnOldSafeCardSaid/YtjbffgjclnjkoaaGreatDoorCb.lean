/- Texts as bytes and bytes as texts: what a conversion lays. -/
import Derived.Test.YtjbffgjclnjkoaaGreatDoorBw
import Derived.Lib.ConvBytes
import Derived.Lib.SlBytesRow
namespace Go.Proofs.YtjbffgjclnjkoaaGreatDoor
set_option linter.unusedVariables false
set_option linter.unusedSimpArgs false
open Go.RowKit

/-- Behind '[]byte(s)': a new row that holds the bytes; all else as it was. -/
structure Cnv (w w1 : World) (s : ByteArray) (cap : Nat) : Prop where
  bytes : Lib.Bytes w1 w.heap.size 0 s
  below : Below w.heap.size w w1
  size : w1.heap.size = w.heap.size + 1
  cap_ge : s.size ≤ cap
  cap_le : cap ≤ maxLen
  bs : Bs w1 w.heap.size (.slice (some ⟨w.heap.size, 0, none⟩) s.size cap) (bl s)

theorem cnv_any {P : Program} (src dst : TypeId) (hs : P.underlying src = some .string) (hd : P.underlying dst = some (.slice 5)) (he : P.underlying 5 = some (.int .u8)) (s : ByteArray) (hsz : s.size ≤ maxLen) (w : World) :
    ∃ cap w1, (convert src dst (.string s)).run P w = .ok (.slice (some ⟨w.heap.size, 0, none⟩) s.size cap) w1 ∧ Cnv w w1 s cap := by
  have hbl : Below w.heap.size w (Lib.bytesWorld w 5 s) := by
    refine ⟨?_, ?_, ?_, ?_, fun k hk => Lib.bytesWorld_at_old _ _ _ _ hk⟩
    · unfold Lib.bytesWorld World.freeze; split <;> rfl
    · unfold Lib.bytesWorld World.freeze; split <;> rfl
    · unfold Lib.bytesWorld World.freeze; split <;> rfl
    · rw [Lib.bytesWorld_size]; omega
  have hsz2 : (Lib.bytesCells w 5 s).size = grownCap w s.size 0 5 := by
    unfold Lib.bytesCells
    have := grownCap_ge w s.size 0 5
    simp
    omega
  have hge := grownCap_ge w s.size 0 5
  have hle := grownCap_le_maxLen w s.size 0 5 hsz
  refine ⟨_, _, Lib.run_convert_string_bytes w src dst 5 s hs hd he, ⟨fun i hi => ?_, hbl, Lib.bytesWorld_size _ _ _, hge, hle, ⟨bl_by8 s, _, _, by rw [bl_len], by rw [bl_len]; exact hge, hle, .inr ⟨w.heap.size, 0, _, _, rfl, Nat.le_refl _, Lib.bytesWorld_at_new _ _ _, by rw [hsz2, Nat.zero_add]; exact Nat.le_refl _, .inr (by omega), ?_⟩⟩⟩⟩
  · rw [Nat.zero_add, Lib.bytesWorld_cell _ _ _ _ hi]
    have : s.data.toList.getD i 0 = s[i] := by
      rw [List.getD_eq_getElem?_getD, List.getElem?_eq_getElem (by simpa using hi)]
      rfl
    rw [this]
  · unfold Lib.bytesCells
    rw [List.drop_zero, Array.toList_append, List.take_append_of_le_length (by rw [bl_len]; simp), bl_len]
    rw [List.take_of_length_le (by simp)]
    rw [Array.toList_map, ← bl_cells]; rfl

theorem cnvB (s : ByteArray) (hs : s.size ≤ maxLen) (w : World) :
    ∃ cap w1, (convert 9 54 (.string s)).run Tryz.prog w = .ok (.slice (some ⟨w.heap.size, 0, none⟩) s.size cap) w1 ∧ Cnv w w1 s cap :=
  cnv_any 9 54 Tryz.underlying9 Tryz.underlying54 Tryz.underlying5 s hs w

/-- A slice of bytes, as a text. -/
theorem bs_str {w : World} {B : Nat} {v : Value} {l : List Int} (h : Bs w B v l) : (convert 54 9 v).run Tryz.prog w = .ok (.string (txt l)) w := by
  obtain ⟨h8, ao, cap, rfl, h1, h2, h3⟩ := h
  have hz : (txt l).size = l.length := txt_size l
  rcases h3 with ⟨rfl, rfl⟩ | ⟨g, o, cur, fr, rfl, hB, hg, k1, k2, k3⟩
  · have : l = [] := List.eq_nil_of_length_eq_zero (by omega)
    subst this
    simp [convert, run_underlying Tryz.underlying54, run_underlying Tryz.underlying9, run_underlying Tryz.underlying5, Conv.bytesToString, txt]
    rfl
  · have hB' : Lib.Bytes w g o (txt l) := by
      intro i hi
      rw [hz] at hi
      have hc : cur.toList[o + i]? = (bv l)[i]? := by rw [← k3, List.getElem?_take, if_pos hi, List.getElem?_drop]
      have hbt := bl_txt h8
      have e : ((txt l)[i]'(by rw [hz]; exact hi)).toNat = ((l[i]).toNat : Nat) := by
        have h0 := h8 l[i] (List.getElem_mem hi)
        show ((txt l).data[i]'_).toNat = _
        unfold txt; simp
        omega
      simp only [World.cell?, hg]
      have h0 := h8 l[i] (List.getElem_mem hi)
      have hci : cur[o + i]? = some (.int .u8 l[i]) := by
        rw [← Array.getElem?_toList, hc]
        simp [bv, hi]
      rw [e, Int.toNat_of_nonneg h0.1]
      simpa using hci
    have hr := Lib.run_convert_whole (P := Tryz.prog) w 54 5 9 Tryz.underlying54 Tryz.underlying5 Tryz.underlying9 g o (txt l) hB' cap
    rw [hz] at hr
    exact hr
end Go.Proofs.YtjbffgjclnjkoaaGreatDoor

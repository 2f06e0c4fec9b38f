/- The comparison of two texts by the units of UTF-16: the plain law. -/
import Derived.Test.YtbnnjjilkpdanaaDoorEc
import Derived.Test.YtbnnjjilkpdanaaDoorUq
namespace Go.Proofs.YtbnnjjilkpdanaaDoor
open Go.RowKit
set_option linter.unusedVariables false

theorem rxU_eq {c d : Int} (hc : Chr c) (hd : Chr d) : rxU c d = if d ≤ 65535 ∧ 65535 < c then 55296 + (c - 65536) / 1024 else c := by
  obtain ⟨c0, c1, c2⟩ := hc
  obtain ⟨d0, d1, d2⟩ := hd
  have sc : selfU c = decide (c ≤ 65535) := by unfold selfU; rw [Bool.eq_iff_iff]; simp; omega
  have sd : selfU d = decide (d ≤ 65535) := by unfold selfU; rw [Bool.eq_iff_iff]; simp; omega
  unfold rxU hiU; rw [sc, sd]
  by_cases h : d ≤ 65535 ∧ 65535 < c
  · rw [if_pos h, if_pos (by simp; omega), if_neg (by omega)]
  · rw [if_neg h, if_neg (by simp; omega)]
/-- The order of a comparison, both ways at once. -/
def Ord3 (x : Int) (p q : Bool) : Prop := (decide (x < 0) = p) ∧ (decide (0 < x) = q)
theorem ord_cmpB {x y : Int} {p q : Bool} (h1 : decide (x < y) = p) (h2 : decide (y < x) = q) : Ord3 (cmpB x y) p q := by
  subst h1 h2
  unfold cmpB Ord3
  by_cases h : x < y
  · rw [if_pos h]; simp [h]; omega
  · rw [if_neg h]
    by_cases k : y < x
    · rw [if_pos k]; simp [h, k]
    · rw [if_neg k]; simp [h, k]
theorem ord_heads {x y hx hy : Int} (r t : List Int) (hne : hx ≠ hy) (h : x < y ↔ hx < hy) (h' : y < x ↔ hy < hx) : Ord3 (cmpB x y) (lexB (hx :: r) (hy :: t)) (lexB (hy :: t) (hx :: r)) := by
  rw [lexB_ne hne, lexB_ne (Ne.symm hne)]
  exact ord_cmpB (by rw [decide_eq_decide]; exact h) (by rw [decide_eq_decide]; exact h')

theorem cmp_lex (a b : ByteArray) : ∀ (g i j G H : Nat), textF a (a.size - i) i = true → textF b (b.size - j) j = true → a.size - i < g → i ≤ a.size → j ≤ b.size → a.size - i ≤ G → b.size - j ≤ H →
    Ord3 (cmpU a b g i j) (lexB (unitsL a G i) (unitsL b H j)) (lexB (unitsL b H j) (unitsL a G i))
  | 0, i, j, G, H, _, _, hg, _, _, _, _ => by omega
  | g + 1, i, j, G, H, ta, tb, hg, hi, hj, hG, hH => by
    unfold cmpU
    by_cases hend : a.size ≤ i ∨ b.size ≤ j
    · rw [if_pos hend]
      by_cases ki : i < a.size
      · obtain ⟨G', rfl, eG⟩ := units_cons ki hG
        rw [units_nil (s := b) (by omega : ¬ j < b.size), lexB_nil, eG]
        exact ord_cmpB (by simp; omega) (by simp [uOf, lexB]; omega)
      · rw [units_nil ki, lexB_nil]
        by_cases kj : j < b.size
        · obtain ⟨H', rfl, eH⟩ := units_cons kj hH
          rw [eH]
          exact ord_cmpB (by simp [uOf, lexB]; omega) (by simp; omega)
        · rw [units_nil kj]
          exact ord_cmpB (by simp [lexB]; omega) (by simp; omega)
    · rw [if_neg hend]
      have ki : i < a.size := by omega
      have kj : j < b.size := by omega
      obtain ⟨G', rfl, eG⟩ := units_cons ki hG
      obtain ⟨H', rfl, eH⟩ := units_cons kj hH
      obtain ⟨ua, fa, ta'⟩ := text_at' ta ki
      obtain ⟨ub, fb, tb'⟩ := text_at' tb kj
      have sa : stepN a i = uw a i := by unfold stepN; rw [if_neg ua]
      have sb : stepN b j = uw b j := by unfold stepN; rw [if_neg ub]
      have ra := rune_chr ua
      have rb := rune_chr ub
      rw [eG, eH, sa, sb]
      obtain ⟨r, hr⟩ : ∃ r : Int, (runeN a i : Int) = r := ⟨_, rfl⟩
      obtain ⟨q, hq⟩ : ∃ q : Int, (runeN b j : Int) = q := ⟨_, rfl⟩
      rw [hr] at ra ⊢
      rw [hq] at rb ⊢
      have hrl : r < 65536 ∨ 65536 ≤ r := by omega
      have hql : q < 65536 ∨ 65536 ≤ q := by omega
      have IH := cmp_lex a b g (i + uw a i) (j + uw b j) G' H' ta' tb' (by omega) fa fb (by omega) (by omega)
      by_cases hasc : bAt a i < 128 ∨ bAt b j < 128
      · rw [if_pos hasc]
        by_cases he : bAt a i = bAt b j
        · rw [if_pos he]
          have e1 : uw a i = 1 := by omega
          have e2 : uw b j = 1 := by omega
          have e3 : r = q := by omega
          rw [e1, e2] at IH ⊢
          rw [e3, lexB_app, lexB_app]
          exact IH
        · rw [if_neg he]
          have hh : hdU r ≠ hdU q ∧ (bAt a i < bAt b j ↔ hdU r < hdU q) ∧ (bAt b j < bAt a i ↔ hdU q < hdU r) := by
            rcases ra with ⟨x1, x2, x3⟩ | ⟨x1, x2, x3, x4, x5, x6⟩
            · rcases rb with ⟨y1, y2, y3⟩ | ⟨y1, y2, y3, y4, y5, y6⟩
              · rw [(hdU_lo (by omega : r < 65536)).1, (hdU_lo (by omega : q < 65536)).1]; omega
              · rw [(hdU_lo (by omega : r < 65536)).1]
                rcases hql with h | h
                · rw [(hdU_lo h).1]; omega
                · rw [(hdU_hi h).1]; omega
            · rcases rb with ⟨y1, y2, y3⟩ | ⟨y1, y2, y3, y4, y5, y6⟩
              · rw [(hdU_lo (by omega : q < 65536)).1]
                rcases hrl with h | h
                · rw [(hdU_lo h).1]; omega
                · rw [(hdU_hi h).1]; omega
              · omega
          exact ord_heads _ _ hh.1 hh.2.1 hh.2.2
      · rw [if_neg hasc]
        obtain ⟨x2, x3, xc⟩ : 2 ≤ uw a i ∧ 128 ≤ r ∧ Chr r := by
          rcases ra with ⟨x1, _, _⟩ | ⟨_, x2, x3, xc⟩
          · omega
          · exact ⟨x2, x3, xc⟩
        obtain ⟨y2, y3, yc⟩ : 2 ≤ uw b j ∧ 128 ≤ q ∧ Chr q := by
          rcases rb with ⟨y1, _, _⟩ | ⟨_, y2, y3, yc⟩
          · omega
          · exact ⟨y2, y3, yc⟩
        have r1 := rxU_eq xc yc
        have r2 := rxU_eq yc xc
        obtain ⟨xa, xb, xd⟩ := xc
        obtain ⟨ya, yb, yd⟩ := yc
        obtain ⟨RX, hRX⟩ : ∃ x, rxU r q = x := ⟨_, rfl⟩
        obtain ⟨QX, hQX⟩ : ∃ x, rxU q r = x := ⟨_, rfl⟩
        rw [hRX] at r1
        rw [hQX] at r2
        rw [hRX, hQX]
        have f1 : (q ≤ 65535 ∧ 65535 < r ∧ RX = 55296 + (r - 65536) / 1024) ∨ (¬ (q ≤ 65535 ∧ 65535 < r) ∧ RX = r) := by
          by_cases h : q ≤ 65535 ∧ 65535 < r
          · rw [if_pos h] at r1; exact Or.inl ⟨h.1, h.2, r1⟩
          · rw [if_neg h] at r1; exact Or.inr ⟨h, r1⟩
        have f2 : (r ≤ 65535 ∧ 65535 < q ∧ QX = 55296 + (q - 65536) / 1024) ∨ (¬ (r ≤ 65535 ∧ 65535 < q) ∧ QX = q) := by
          by_cases h : r ≤ 65535 ∧ 65535 < q
          · rw [if_pos h] at r2; exact Or.inl ⟨h.1, h.2, r2⟩
          · rw [if_neg h] at r2; exact Or.inr ⟨h, r2⟩
        clear r1 r2 hRX hQX
        by_cases he : r = q
        · have hx : RX = QX := by omega
          have hi : ¬ ((invU RX (uw a i) || invU QX (uw b j)) = true ∧ bAt a i ≠ bAt b j) := by
            rintro ⟨h, _⟩
            unfold invU at h
            simp at h
            omega
          rw [if_neg (fun h => h hx), if_neg hi, he, lexB_app, lexB_app]
          exact IH
        · have hne : RX ≠ QX := by omega
          rw [if_pos hne]
          clear IH ra rb hi hj
          rcases hrl with h1 | h1 <;> rcases hql with h2 | h2
          · exact ord_heads _ _ (by rw [(hdU_lo h1).1, (hdU_lo h2).1]; exact he) (by rw [(hdU_lo h1).1, (hdU_lo h2).1]; omega) (by rw [(hdU_lo h1).1, (hdU_lo h2).1]; omega)
          · exact ord_heads _ _ (by rw [(hdU_lo h1).1, (hdU_hi h2).1]; omega) (by rw [(hdU_lo h1).1, (hdU_hi h2).1]; omega) (by rw [(hdU_lo h1).1, (hdU_hi h2).1]; omega)
          · exact ord_heads _ _ (by rw [(hdU_hi h1).1, (hdU_lo h2).1]; omega) (by rw [(hdU_hi h1).1, (hdU_lo h2).1]; omega) (by rw [(hdU_hi h1).1, (hdU_lo h2).1]; omega)
          · have e1 : RX = r := by omega
            have e2 : QX = q := by omega
            rw [e1, e2]
            unfold uOf
            rw [(hdU_hi h1).1, (hdU_hi h2).1, (hdU_hi h1).2, (hdU_hi h2).2]
            by_cases hq : (r - 65536) / 1024 = (q - 65536) / 1024
            · rw [hq]
              simp only [List.cons_append, List.nil_append]
              rw [lexB_same, lexB_same]
              exact ord_heads _ _ (by omega) (by omega) (by omega)
            · exact ord_heads _ _ (by omega) (by omega) (by omega)
theorem cmp_text (a b : ByteArray) (ta : textF a a.size 0 = true) (tb : textF b b.size 0 = true) :
    Ord3 (cmpU a b (a.size + 1) 0 0) (lexB (unitsL a a.size 0) (unitsL b b.size 0)) (lexB (unitsL b b.size 0) (unitsL a a.size 0)) :=
  cmp_lex a b (a.size + 1) 0 0 a.size b.size ta tb (by omega) (by omega) (by omega) (by omega) (by omega)
end Go.Proofs.YtbnnjjilkpdanaaDoor

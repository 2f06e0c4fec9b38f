/- The scanner of encoding/json as an automaton: the plain mathematics. -/
import Derived.Test.YtjbffgjclnjkoaaGreatDoorBw
namespace Go.Proofs.YtjbffgjclnjkoaaGreatDoor
set_option linter.unusedVariables false
set_option linter.unusedSimpArgs false
open Go.RowKit

/-- The states: beginning of a value (of one or of a closing bracket), of a name (or of a closing brace), end of a value, end of all, within a string, an escape, its digits, a number, a literal, error. -/
inductive Sq | bv | bvE | bsE | bs | ev | et | str | esc | u0 | u1 | u2 | u3 | neg | s1 | s0 | dot | dot0 | ee | esg | e0 | t1 | t2 | t3 | f1 | f2 | f3 | f4 | n1 | n2 | n3 | er
structure Sc where
  q : Sq
  top : Bool
  stk : List Int
  bad : Bool
def isW (c : Int) : Bool := c == 32 || c == 9 || c == 13 || c == 10
def digB (c : Int) : Bool := decide (48 ≤ c) && decide (c ≤ 57)
def hexB (c : Int) : Bool := digB c || (decide (97 ≤ c) && decide (c ≤ 102)) || (decide (65 ≤ c) && decide (c ≤ 70))
/-- A fault. -/
def Sc.err (σ : Sc) : Int × Sc := (11, { σ with q := .er, bad := true })
def Sc.to (σ : Sc) (k : Int) (q : Sq) : Int × Sc := (k, { σ with q := q })
def Sc.pushed (σ : Sc) (k : Int) : Sc := { σ with stk := k :: σ.stk }
/-- An object or an array has ended. -/
def Sc.pop (σ : Sc) : Sc := match σ.stk with
  | [] => σ
  | [_] => { σ with q := .et, top := true, stk := [] }
  | _ :: r => { σ with q := .ev, stk := r }
def topQ (σ : Sc) (c : Int) : Int × Sc := if isW c then (10, σ) else (10, σ.err.2)
def endQ (σ : Sc) (c : Int) : Int × Sc := match σ.stk with
  | [] => topQ { σ with q := .et, top := true } c
  | k :: r =>
    if isW c then σ.to 9 .ev
    else if k = 0 then (if c = 58 then (3, { σ with q := .bv, stk := 1 :: r }) else σ.err)
    else if k = 1 then (if c = 44 then (4, { σ with q := .bs, stk := 0 :: r }) else if c = 125 then (5, σ.pop) else σ.err)
    else if k = 2 then (if c = 44 then σ.to 7 .bv else if c = 93 then (8, σ.pop) else σ.err)
    else σ.err
def bvQ (σ : Sc) (c : Int) : Int × Sc :=
  if isW c then (9, σ)
  else if c = 123 then (2, { σ.pushed 0 with q := .bsE })
  else if c = 91 then (6, { σ.pushed 2 with q := .bvE })
  else if c = 34 then σ.to 1 .str
  else if c = 45 then σ.to 1 .neg
  else if c = 48 then σ.to 1 .s0
  else if c = 116 then σ.to 1 .t1
  else if c = 102 then σ.to 1 .f1
  else if c = 110 then σ.to 1 .n1
  else if decide (49 ≤ c) && decide (c ≤ 57) then σ.to 1 .s1
  else σ.err
def bsQ (σ : Sc) (c : Int) : Int × Sc := if isW c then (9, σ) else if c = 34 then σ.to 1 .str else σ.err
def s0Q (σ : Sc) (c : Int) : Int × Sc := if c = 46 then σ.to 0 .dot else if c = 101 ∨ c = 69 then σ.to 0 .ee else endQ σ c
def esgQ (σ : Sc) (c : Int) : Int × Sc := if digB c then σ.to 0 .e0 else σ.err
def litQ (σ : Sc) (c x : Int) (q : Sq) : Int × Sc := if c = x then σ.to 0 q else σ.err
def hexQ (σ : Sc) (c : Int) (q : Sq) : Int × Sc := if hexB c then σ.to 0 q else σ.err
def bvEQ (σ : Sc) (c : Int) : Int × Sc := if isW c then (9, σ) else if c = 93 then endQ σ c else bvQ σ c
def bsEQ (σ : Sc) (c : Int) : Int × Sc := if isW c then (9, σ) else if c = 125 then endQ { σ with stk := 1 :: σ.stk.tail } c else bsQ σ c
def strQ (σ : Sc) (c : Int) : Int × Sc := if c = 34 then σ.to 0 .ev else if c = 92 then σ.to 0 .esc else if c < 32 then σ.err else (0, σ)
def escQ (σ : Sc) (c : Int) : Int × Sc := if c = 98 ∨ c = 102 ∨ c = 110 ∨ c = 114 ∨ c = 116 ∨ c = 92 ∨ c = 47 ∨ c = 34 then σ.to 0 .str else if c = 117 then σ.to 0 .u0 else σ.err
def negQ (σ : Sc) (c : Int) : Int × Sc := if c = 48 then σ.to 0 .s0 else if decide (49 ≤ c) && decide (c ≤ 57) then σ.to 0 .s1 else σ.err
def s1Q (σ : Sc) (c : Int) : Int × Sc := if digB c then σ.to 0 .s1 else s0Q σ c
def dotQ (σ : Sc) (c : Int) : Int × Sc := if digB c then σ.to 0 .dot0 else σ.err
def dot0Q (σ : Sc) (c : Int) : Int × Sc := if digB c then (0, σ) else if c = 101 ∨ c = 69 then σ.to 0 .ee else endQ σ c
def eeQ (σ : Sc) (c : Int) : Int × Sc := if c = 43 ∨ c = 45 then σ.to 0 .esg else esgQ σ c
def e0Q (σ : Sc) (c : Int) : Int × Sc := if digB c then (0, σ) else endQ σ c
/-- One byte: its code, and the state behind it. -/
def stepQ (σ : Sc) (c : Int) : Int × Sc := match σ.q with
  | .bv => bvQ σ c | .bvE => bvEQ σ c | .bsE => bsEQ σ c | .bs => bsQ σ c | .ev => endQ σ c | .et => topQ σ c
  | .str => strQ σ c | .esc => escQ σ c | .u0 => hexQ σ c .u1 | .u1 => hexQ σ c .u2 | .u2 => hexQ σ c .u3 | .u3 => hexQ σ c .str
  | .neg => negQ σ c | .s1 => s1Q σ c | .s0 => s0Q σ c | .dot => dotQ σ c | .dot0 => dot0Q σ c | .ee => eeQ σ c | .esg => esgQ σ c | .e0 => e0Q σ c
  | .t1 => litQ σ c 114 .t2 | .t2 => litQ σ c 117 .t3 | .t3 => litQ σ c 101 .ev
  | .f1 => litQ σ c 97 .f2 | .f2 => litQ σ c 108 .f3 | .f3 => litQ σ c 115 .f4 | .f4 => litQ σ c 101 .ev
  | .n1 => litQ σ c 117 .n2 | .n2 => litQ σ c 108 .n3 | .n3 => litQ σ c 108 .ev
  | .er => (11, σ)
/-- What the end of the text is told to be. -/
def eofQ (σ : Sc) : Int × Sc :=
  if σ.bad then (11, σ) else if σ.top then (10, σ) else if (stepQ σ 32).2.top then (10, (stepQ σ 32).2) else (11, { (stepQ σ 32).2 with bad := true })
/-- The state at the beginning. -/
def sc0 : Sc := { q := .bv, top := false, stk := [], bad := false }
end Go.Proofs.YtjbffgjclnjkoaaGreatDoor

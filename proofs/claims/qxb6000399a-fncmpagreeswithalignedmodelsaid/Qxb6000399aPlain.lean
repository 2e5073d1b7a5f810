import Derived.RowKit
/-! The plain lists of decimals: digits as bytes. No Go in sight. -/
namespace Go.Proofs.Qxb6000399a
set_option linter.unusedVariables false
set_option linter.unusedSimpArgs false

def IsDig (c : UInt8) : Prop := 48 ≤ c.toNat ∧ c.toNat ≤ 57

/-- A decimal's documented shape. -/
structure Shape (l : List UInt8) (exp scale : Int) (neg : Bool) : Prop where
  scale0 : 0 ≤ scale
  shown : -exp ≤ scale
  zero : l = [] → neg = false ∧ exp = 0
  dig : ∀ c ∈ l, IsDig c
  first : l.head? ≠ some 48
  last : l.getLast? ≠ some 48
structure Bounded (l : List UInt8) (exp scale : Int) (neg : Bool) : Prop where
  shape : Shape l exp scale neg
  lo : -65536 ≤ exp
  hi : exp ≤ 65536
  sc : scale ≤ 65536
/-- How many digits stand ahead of the point. -/
def wholeOf (l : List UInt8) (exp : Int) : Int := if l = [] then 0 else (l.length : Int) + exp
def sgnL (neg : Bool) : List UInt8 := if neg then [45] else []
/-- The digits ahead of the point, given how many there are. -/
def intP (l : List UInt8) (wh : Int) : List UInt8 :=
  if wh ≤ 0 then [48] else if wh ≤ l.length then l.take wh.toNat else l ++ List.replicate (wh - l.length).toNat 48
/-- The digits behind it. -/
def fracP (l : List UInt8) (exp scale wh : Int) : List UInt8 :=
  if exp < 0 then (if wh < 0 then List.replicate (-wh).toNat 48 ++ l else l.drop wh.toNat) ++ List.replicate (scale + exp).toNat 48 else List.replicate scale.toNat 48
def tailP (scale : Int) (F : List UInt8) : List UInt8 := if scale = 0 then [] else 46 :: F
def textP (l : List UInt8) (exp scale : Int) (neg : Bool) : List UInt8 :=
  (sgnL neg ++ intP l (wholeOf l exp)) ++ tailP scale (fracP l exp scale (wholeOf l exp))
theorem sgnL_len (neg : Bool) : (sgnL neg).length ≤ 1 := by cases neg <;> simp [sgnL]
theorem intP_len (l : List UInt8) (wh : Int) (h : wh ≤ 200000) (hl : l.length ≤ 65536) : (intP l wh).length ≤ 200000 := by
  unfold intP
  split
  · simp
  · split
    · rw [List.length_take]; omega
    · rw [List.length_append, List.length_replicate]; omega
end Go.Proofs.Qxb6000399a

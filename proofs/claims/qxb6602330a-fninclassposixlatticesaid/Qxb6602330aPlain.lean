/-
  PLAIN: the twelve character classes. No Go here.
-/
namespace Go.Proofs.Qxb6602330a.Plain

def up (c : Int) : Bool := decide (65 ≤ c) && decide (c ≤ 90)
def lo (c : Int) : Bool := decide (97 ≤ c) && decide (c ≤ 122)
def dg (c : Int) : Bool := decide (48 ≤ c) && decide (c ≤ 57)
def gr (c : Int) : Bool := decide (33 ≤ c) && decide (c ≤ 126)

/-- which of the twelve names; 12: none -/
def kindOf (l : List UInt8) : Nat :=
  if (l == [97, 108, 110, 117, 109]) = true then 0
  else if (l == [97, 108, 112, 104, 97]) = true then 1
  else if (l == [98, 108, 97, 110, 107]) = true then 2
  else if (l == [99, 110, 116, 114, 108]) = true then 3
  else if (l == [100, 105, 103, 105, 116]) = true then 4
  else if (l == [103, 114, 97, 112, 104]) = true then 5
  else if (l == [108, 111, 119, 101, 114]) = true then 6
  else if (l == [112, 114, 105, 110, 116]) = true then 7
  else if (l == [112, 117, 110, 99, 116]) = true then 8
  else if (l == [115, 112, 97, 99, 101]) = true then 9
  else if (l == [117, 112, 112, 101, 114]) = true then 10
  else if (l == [120, 100, 105, 103, 105, 116]) = true then 11
  else 12

/-- is c of kind k? -/
def inK (k : Nat) (c : Int) : Bool :=
  if k = 0 then (up c || lo c) || dg c
  else if k = 1 then up c || lo c
  else if k = 2 then (c == 32) || (c == 9)
  else if k = 3 then decide (c < 32) || (c == 127)
  else if k = 4 then dg c
  else if k = 5 then gr c
  else if k = 6 then lo c
  else if k = 7 then gr c || (c == 32)
  else if k = 8 then ((gr c && !up c) && !lo c) && !dg c
  else if k = 9 then (c == 32) || (decide (9 ≤ c) && decide (c ≤ 13))
  else if k = 10 then up c
  else if k = 11 then (dg c || (decide (97 ≤ c) && decide (c ≤ 102))) || (decide (65 ≤ c) && decide (c ≤ 70))
  else false

theorem two {a b c : Int} (h1 : a ≤ c) (h2 : c ≤ b) : (decide (a ≤ c) && decide (c ≤ b)) = true := by simp [h1, h2]
theorem two_lo {a b c : Int} (h1 : ¬ a ≤ c) : (decide (a ≤ c) && decide (c ≤ b)) = false := by simp [h1]
theorem two_hi {a b c : Int} (h2 : ¬ c ≤ b) : (decide (a ≤ c) && decide (c ≤ b)) = false := by simp [h2]

end Go.Proofs.Qxb6602330a.Plain

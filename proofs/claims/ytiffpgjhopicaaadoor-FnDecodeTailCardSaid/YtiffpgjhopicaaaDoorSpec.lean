/-
  The plain functions that the reference comes to, without Go and memory: fields of a word, signed numbers, arguments as three numbers, and what is asked of them. Conditions: none.
-/
namespace Go.Proofs.YtiffpgjhopicaaaDoor
namespace Sp
/-- The bits of x from h down to l, as a number. -/
def field (x h l : Int) : Int := x / 2 ^ l.toNat % 2 ^ (h - l + 1).toNat
/-- A number of b bits with a sign. -/
def signed (n b : Int) : Int := if 2 ^ (b - 1).toNat ≤ n then n - 2 ^ b.toNat else n
def off16 (x : Int) : Int := signed (field x 25 10) 16
def off21 (x : Int) : Int := signed (field x 4 0 * 65536 + field x 25 10) 21
def off26 (x : Int) : Int := signed (field x 9 0 * 65536 + field x 25 10) 26
/-- An argument as plain data. -/
structure A where
  kind : Int
  reg : Int
  num : Int
def r (n : Int) : A := ⟨1, n, 0⟩
def f (n : Int) : A := ⟨1, 32 + n, 0⟩
def n (k : Int) : A := ⟨4, 0, k⟩
def number (a : A) : Bool := decide (4 ≤ a.kind) && decide (a.kind ≤ 8)
def eq (a b : A) : Bool := decide (a.kind = b.kind) && (decide (a.reg = b.reg) && decide (a.num = b.num))
def like (a b : A) : Bool := if number b then number a && decide (a.num = b.num) else eq a b
def far (a : A) (k : Int) : Bool := number a && (decide (a.num = k) || decide (a.num = 4 * k))
def register (x c : Int) : A × Bool :=
  if c = 68 then (r (field x 4 0), true) else
  if c = 74 then (r (field x 9 5), true) else
  if c = 75 then (r (field x 14 10), true) else
  if c = 69 then (f (field x 4 0), true) else
  if c = 71 then (f (field x 9 5), true) else
  if c = 76 then (f (field x 14 10), true) else
  if c = 77 then (f (field x 19 15), true) else
  if c = 110 then (⟨2, field x 2 0, 0⟩, true) else (⟨0, 0, 0⟩, false)
def numeral (x c : Int) : Int :=
  if c = 53 ∨ c = 98 then field x 14 10 else
  if c = 54 ∨ c = 100 then field x 15 10 else
  if c = 117 then field x 21 10 else
  if c = 115 then signed (field x 21 10) 12 else
  if c = 104 then signed (field x 25 10) 16 else
  if c = 119 then signed (field x 24 5) 20 else
  if c = 97 then field x 20 16 else
  if c = 99 then field x 21 16 else
  if c = 111 then off16 x else
  if c = 112 then off21 x else off26 x
def isOf (x c : Int) (a : A) : Bool :=
  if (register x c).2 then eq a (register x c).1 else
  if c = 111 ∨ c = 112 ∨ c = 113 then far a (numeral x c) else like a (n (numeral x c))
end Sp
namespace Sp
/-- A decoded argument: its type's number, its number, its width. -/
structure D where
  ty : Nat
  num : Int
  wide : Int
/-- The argument of kind c in the word x, of the operation op. -/
def darg (c : Nat) (x : Int) (op : Nat) : D :=
  match c with
  | 1 => ⟨65, 32 + field x 4 0, 0⟩
  | 2 => ⟨65, 32 + field x 9 5, 0⟩
  | 3 => ⟨65, 32 + field x 14 10, 0⟩
  | 4 => ⟨65, 32 + field x 19 15, 0⟩
  | 5 => ⟨65, field x 4 0, 0⟩
  | 6 => ⟨65, field x 9 5, 0⟩
  | 7 => ⟨65, field x 14 10, 0⟩
  | 8 => ⟨74, field x 4 0, 0⟩
  | 9 => ⟨67, field x 4 0, 0⟩
  | 10 => ⟨67, field x 9 5, 0⟩
  | 11 => ⟨74, field x 23 10, 0⟩
  | 12 => ⟨66, field x 2 0, 0⟩
  | 13 => ⟨66, field x 7 5, 0⟩
  | 14 => ⟨66, field x 17 15, 0⟩
  | 15 => ⟨77, field x 16 15 + (if op = 6 ∨ op = 7 ∨ op = 8 then 1 else 0), 0⟩
  | 16 => ⟨77, field x 17 15, 0⟩
  | 17 => ⟨76, field x 4 0, 0⟩
  | 18 => ⟨76, field x 14 0, 0⟩
  | 19 => ⟨74, field x 14 10, 0⟩
  | 20 => ⟨74, field x 15 10, 0⟩
  | 21 => ⟨74, field x 21 10, 0⟩
  | 22 => ⟨74, field x 14 10, 0⟩
  | 23 => ⟨74, field x 20 16, 0⟩
  | 24 => ⟨74, field x 15 10, 0⟩
  | 25 => ⟨74, field x 21 16, 0⟩
  | 26 => ⟨74, field x 4 0, 0⟩
  | 27 => ⟨74, field x 14 0, 0⟩
  | 28 => ⟨74, field x 14 0, 0⟩
  | 29 => ⟨74, field x 17 10, 0⟩
  | 30 => ⟨74, field x 17 10, 0⟩
  | 31 => ⟨70, signed (field x 21 10) 12, 12⟩
  | 32 => ⟨72, 4 * signed (field x 23 10) 14, 14⟩
  | 33 => ⟨72, signed (field x 25 10) 16, 16⟩
  | 34 => ⟨72, signed (field x 24 5) 20, 20⟩
  | 35 => ⟨75, 4 * off21 x, 21⟩
  | 36 => ⟨75, 4 * off26 x, 26⟩
  | 37 => ⟨75, 4 * off16 x, 16⟩
  | _ => ⟨0, 0, 0⟩
def dA (d : D) : A :=
  match d.ty with
  | 65 => ⟨1, d.num, 0⟩
  | 66 => ⟨2, d.num, 0⟩
  | 67 => ⟨3, d.num, 0⟩
  | 70 => ⟨4, 0, d.num⟩
  | 72 => ⟨4, 0, d.num⟩
  | 74 => ⟨5, 0, d.num⟩
  | 75 => ⟨6, 0, d.num⟩
  | 76 => ⟨7, 0, d.num⟩
  | 77 => ⟨8, 0, d.num⟩
  | _ => ⟨9, 0, 0⟩
end Sp
end Go.Proofs.YtiffpgjhopicaaaDoor

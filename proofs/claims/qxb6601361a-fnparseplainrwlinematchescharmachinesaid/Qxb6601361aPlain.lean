/-
  Seat b6601361a: plain mathematics, no Go in sight: a line 'r(K,V,S,T)' | 'w(K,V,S,T)', read field by field, and read by a machine byte by byte.
-/
namespace Go.Proofs.Qxb6601361a

/-- What a reading answers: the kind, the four fields, ok. -/
structure Ans where
  kind : Int
  fields : List Int
  ok : Bool

def fail (F : List Int) : Ans := ⟨0, F, false⟩
/-- Behind the last field. -/
def fin (kd : Int) (F : List Int) : Ans := if kd = 2 ∧ F.getD 1 0 = 0 then fail F else ⟨kd, F, true⟩

def isDig (c : UInt8) : Bool := decide (48 ≤ c.toNat ∧ c.toNat ≤ 57)
def dig (c : UInt8) : Int := (c.toNat : Int) - 48

/-- The digits at the start, m at most, onto v: the number, and how many. -/
def lead : Nat → Int → List UInt8 → Int × Nat
  | 0, v, _ => (v, 0)
  | _ + 1, v, [] => (v, 0)
  | m + 1, v, c :: l => if isDig c then ((lead m (v * 10 + dig c) l).1, (lead m (v * 10 + dig c) l).2 + 1) else (v, 0)

def minus1 (l : List UInt8) : Bool := l.take 3 == [45, 49, 41]

/-- Behind a field's digits. -/
def sepP (kd : Int) (next : List Int → List UInt8 → Ans) (last : Bool) (F : List Int) : List UInt8 → Ans
  | [] => fail F
  | c :: t => if c = 44 ∧ last = false then next F t else if c = 41 ∧ last = true then (if t = [] then fin kd F else fail F) else fail F

/-- Field by field: r fields are to come behind this one. -/
def parseF (kd : Int) : Nat → List Int → List UInt8 → Ans
  | 0, F, l =>
    if kd = 2 ∧ minus1 l = true then (if l.length = 3 then fin kd (F.set 3 (-1)) else fail (F.set 3 (-1)))
    else if (lead 18 0 l).2 = 0 then fail F
    else sepP kd (fun F _ => fail F) true (F.set 3 (lead 18 0 l).1) (l.drop (lead 18 0 l).2)
  | r + 1, F, l =>
    if (lead 18 0 l).2 = 0 then fail F
    else sepP kd (fun F l => parseF kd r F l) false (F.set (2 - r) (lead 18 0 l).1) (l.drop (lead 18 0 l).2)

/-- The machine: the field's number f, its digits so far d, minus, closed. -/
def model (kd : Int) : Nat → Nat → Nat → Bool → List Int → List UInt8 → Ans
  | _, _, _, cl, F, [] => if cl then fin kd F else fail F
  | f, d, mi, cl, F, c :: l =>
    if cl then fail F
    else if mi = 1 then (if c = 49 then model kd f d 2 false F l else fail F)
    else if mi = 2 then (if c = 41 then model kd f d 2 true (F.set 3 (-1)) l else fail F)
    else if isDig c then (if d = 18 then fail F else model kd f (d + 1) mi false (F.set f (F.getD f 0 * 10 + dig c)) l)
    else if c = 45 ∧ kd = 2 ∧ f = 3 ∧ d = 0 then model kd f d 1 false F l
    else if c = 44 ∧ f < 3 ∧ 0 < d then model kd (f + 1) 0 mi false F l
    else if c = 41 ∧ f = 3 ∧ 0 < d then model kd f d mi true F l
    else fail F

end Go.Proofs.Qxb6601361a

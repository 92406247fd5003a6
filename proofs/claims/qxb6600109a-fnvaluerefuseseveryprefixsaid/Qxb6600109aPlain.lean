/-
  PLAIN FUNCTIONS ON LISTS OF BYTES (a byte is an Int): what the scanner reads. No Go in sight. Each reader gives what is left behind what it read, or 'none' (a fault).
-/
namespace Go.Proofs.Qxb6600109a.Pl

def dig (c : Int) : Bool := decide (48 ≤ c) && decide (c ≤ 57)
def isWS (c : Int) : Bool := c == 32 || c == 9 || c == 10 || c == 13
def digits (l : List Int) : List Int := l.dropWhile dig
def ws (l : List Int) : List Int := l.dropWhile isWS

def minus : List Int → List Int
  | [] => []
  | c :: r => if c = 45 then r else c :: r
def intp : List Int → Option (List Int)
  | [] => none
  | c :: r => if c = 48 then some r else if 49 ≤ c ∧ c ≤ 57 then some (digits (c :: r)) else none
def some1 (l : List Int) : Option (List Int) := if (digits l).length = l.length then none else some (digits l)
def frac : List Int → Option (List Int)
  | [] => some []
  | c :: r => if c = 46 then some1 r else some (c :: r)
def sign : List Int → List Int
  | [] => []
  | c :: r => if c = 43 ∨ c = 45 then r else c :: r
def expo : List Int → Option (List Int)
  | [] => some []
  | c :: r => if c = 101 ∨ c = 69 then some1 (sign r) else some (c :: r)
def num (l : List Int) : Option (List Int) := ((intp (minus l)).bind frac).bind expo

def hex (c : Int) : Bool := (decide (48 ≤ c) && decide (c ≤ 57)) || (decide (97 ≤ c) && decide (c ≤ 102)) || (decide (65 ≤ c) && decide (c ≤ 70))
def escc (c : Int) : Bool := c == 34 || c == 92 || c == 47 || c == 98 || c == 102 || c == 110 || c == 114 || c == 116
def hex4 : List Int → Bool
  | a :: b :: c :: d :: _ => hex a && hex b && hex c && hex d
  | _ => false
/-- Is what stands behind a backslash one of JSON's escapes? -/
def esc : List Int → Bool
  | [] => false
  | c :: r => escc c || (c == 117 && hex4 r)

/-- A string's text behind its opening quote, up to and with the closing one. -/
def strB : List Int → Option (List Int)
  | [] => none
  | c :: r =>
    if c = 34 then some r
    else if c = 92 then
      match r with
      | [] => none
      | e :: r1 =>
        if escc e then strB r1
        else if e = 117 then
          match r1 with
          | a :: b :: c :: d :: r2 => if hex a && hex b && hex c && hex d then strB r2 else none
          | _ => none
        else none
    else if c < 32 then none
    else strB r

def strip (word l : List Int) : Option (List Int) := if l.take word.length = word then some (l.drop word.length) else none
/-- A number, true, false or null. -/
def lit : List Int → Option (List Int)
  | [] => none
  | c :: r =>
    if c = 116 then strip [116, 114, 117, 101] (c :: r)
    else if c = 102 then strip [102, 97, 108, 115, 101] (c :: r)
    else if c = 110 then strip [110, 117, 108, 108] (c :: r)
    else num (c :: r)

/-- The string at the next token. -/
def str (l : List Int) : Option (List Int) :=
  match ws l with
  | [] => none
  | c :: r => if c = 34 then strB r else none
def expect (x : Int) (l : List Int) : Option (List Int) :=
  match ws l with
  | [] => none
  | c :: r => if c = x then some r else none

/-- Ahead of the next element: the comma, where one is due. -/
def comma (first : Bool) (l : List Int) : Option (List Int) := if first then some l else expect 44 l

/-- VALUES (tag 0), the rest of an array (tag 1), the rest of an object (tag 2); 'first': no element has been read yet. -/
def val : Nat → Nat → Bool → Nat → List Int → Option (List Int)
  | 0, _, _, _, _ => none
  | f + 1, 0, _, dep, l =>
    match ws l with
    | [] => none
    | c :: r =>
      if c = 34 then strB r
      else if c = 123 then (if 10000 ≤ dep then none else val f 2 true (dep + 1) r)
      else if c = 91 then (if 10000 ≤ dep then none else val f 1 true (dep + 1) r)
      else lit (c :: r)
  | f + 1, 1, first, dep, l =>
    match ws l with
    | [] => none
    | c :: r =>
      if c = 93 then some r
      else ((comma first (c :: r)).bind fun l1 => val f 0 true dep l1).bind fun l2 => val f 1 false dep l2
  | f + 1, _, first, dep, l =>
    match ws l with
    | [] => none
    | c :: r =>
      if c = 125 then some r
      else ((((comma first (c :: r)).bind str).bind (expect 58)).bind fun l1 => val f 0 true dep l1).bind fun l2 => val f 2 false dep l2

end Go.Proofs.Qxb6600109a.Pl

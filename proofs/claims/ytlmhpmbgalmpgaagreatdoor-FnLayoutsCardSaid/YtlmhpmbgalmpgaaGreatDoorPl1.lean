/- The scanner of encoding/json as a plain machine on bytes, and the grammar of RFC 8259 as plain readers. No program in sight. -/
namespace Go.Proofs.YtlmhpmbgalmpgaaGreatDoor.Js

inductive St
  | bvoe | bv | bsoe | bs | ev | et | str | esc | u0 | u1 | u2 | u3 | neg | n1 | n0 | dot | dot0 | e | esign | e0
  | t | tr | tru | f | fa | fal | fals | n | nu | nul | err
deriving DecidableEq, Repr

inductive Ps | key | val | arr
deriving DecidableEq, Repr

structure M where
  st : St
  stk : List Ps
  top : Bool
  bad : Bool
deriving DecidableEq, Repr

def sp (c : Nat) : Bool := c == 32 || c == 9 || c == 13 || c == 10
def dig (c : Nat) : Bool := decide (48 ≤ c) && decide (c ≤ 57)
def hex (c : Nat) : Bool := decide (48 ≤ c) && decide (c ≤ 57) || decide (97 ≤ c) && decide (c ≤ 102) || decide (65 ≤ c) && decide (c ≤ 70)

def fail (m : M) : M × Nat := ({ m with st := .err, bad := true }, 11)

def push (m : M) (p : Ps) (st : St) (op : Nat) : M × Nat :=
  if m.stk.length < 10000 then ({ m with st := st, stk := p :: m.stk }, op) else fail { m with stk := p :: m.stk }

def pop (m : M) : M :=
  match m.stk with
  | [] => m
  | [_] => { m with st := .et, stk := [], top := true }
  | _ :: s => { m with st := .ev, stk := s }

def stEt (m : M) (c : Nat) : M × Nat := if sp c then (m, 10) else ((fail m).1, 10)

def stEv (m : M) (c : Nat) : M × Nat :=
  match m.stk with
  | [] => stEt { m with st := .et, top := true } c
  | p :: s =>
    if sp c then ({ m with st := .ev }, 9)
    else match p with
      | .key => if c == 58 then ({ m with st := .bv, stk := .val :: s }, 3) else fail m
      | .val => if c == 44 then ({ m with st := .bs, stk := .key :: s }, 4) else if c == 125 then (pop m, 5) else fail m
      | .arr => if c == 44 then ({ m with st := .bv }, 7) else if c == 93 then (pop m, 8) else fail m

def to (m : M) (st : St) (op : Nat) : M × Nat := ({ m with st := st }, op)

def stBv (m : M) (c : Nat) : M × Nat :=
  if sp c then (m, 9)
  else if c == 123 then push m .key .bsoe 2
  else if c == 91 then push m .arr .bvoe 6
  else if c == 34 then to m .str 1
  else if c == 45 then to m .neg 1
  else if c == 48 then to m .n0 1
  else if c == 116 then to m .t 1
  else if c == 102 then to m .f 1
  else if c == 110 then to m .n 1
  else if dig c then to m .n1 1
  else fail m

def stBs (m : M) (c : Nat) : M × Nat :=
  if sp c then (m, 9) else if c == 34 then to m .str 1 else fail m

def setVal (m : M) : M :=
  match m.stk with
  | [] => m
  | _ :: s => { m with stk := .val :: s }

def stN0 (m : M) (c : Nat) : M × Nat :=
  if c == 46 then to m .dot 0 else if c == 101 || c == 69 then to m .e 0 else stEv m c

def stESign (m : M) (c : Nat) : M × Nat := if dig c then to m .e0 0 else fail m

def is (m : M) (c d : Nat) (st : St) : M × Nat := if c == d then to m st 0 else fail m

/-- One byte. -/
def step (m : M) (c : Nat) : M × Nat :=
  match m.st with
  | .bvoe => if sp c then (m, 9) else if c == 93 then stEv m c else stBv m c
  | .bv => stBv m c
  | .bsoe => if sp c then (m, 9) else if c == 125 then stEv (setVal m) c else stBs m c
  | .bs => stBs m c
  | .ev => stEv m c
  | .et => stEt m c
  | .str => if c == 34 then to m .ev 0 else if c == 92 then to m .esc 0 else if c < 32 then fail m else (m, 0)
  | .esc => if c == 98 || c == 102 || c == 110 || c == 114 || c == 116 || c == 92 || c == 47 || c == 34 then to m .str 0 else if c == 117 then to m .u0 0 else fail m
  | .u0 => if hex c then to m .u1 0 else fail m
  | .u1 => if hex c then to m .u2 0 else fail m
  | .u2 => if hex c then to m .u3 0 else fail m
  | .u3 => if hex c then to m .str 0 else fail m
  | .neg => if c == 48 then to m .n0 0 else if dig c then to m .n1 0 else fail m
  | .n1 => if dig c then (m, 0) else stN0 m c
  | .n0 => stN0 m c
  | .dot => if dig c then to m .dot0 0 else fail m
  | .dot0 => if dig c then (m, 0) else if c == 101 || c == 69 then to m .e 0 else stEv m c
  | .e => if c == 43 || c == 45 then to m .esign 0 else stESign m c
  | .esign => stESign m c
  | .e0 => if dig c then (m, 0) else stEv m c
  | .t => is m c 114 .tr
  | .tr => is m c 117 .tru
  | .tru => is m c 101 .ev
  | .f => is m c 97 .fa
  | .fa => is m c 108 .fal
  | .fal => is m c 115 .fals
  | .fals => is m c 101 .ev
  | .n => is m c 117 .nu
  | .nu => is m c 108 .nul
  | .nul => is m c 108 .ev
  | .err => (m, 11)

def init : M := ⟨.bv, [], false, false⟩

/-- What eof says: is all well? -/
def eof (m : M) : Bool := if m.bad then false else if m.top then true else (step m 32).1.top

def run (m : M) (l : List UInt8) : M := l.foldl (fun m c => (step m c.toNat).1) m
def acc (m : M) (l : List UInt8) : Bool := eof (run m l)

/- The readers of the reference, on what is left of the text. -/

def skip : List UInt8 → List UInt8
  | [] => []
  | c :: l => if sp c.toNat then skip l else c :: l

/-- Behind the opening quotation mark. -/
def pStr : List UInt8 → Option (List UInt8)
  | [] => none
  | c :: l =>
    if c.toNat == 34 then some l
    else if c.toNat < 32 then none
    else if c.toNat == 92 then
      match l with
      | [] => none
      | d :: l' =>
        if d.toNat == 98 || d.toNat == 102 || d.toNat == 110 || d.toNat == 114 || d.toNat == 116 || d.toNat == 92 || d.toNat == 47 || d.toNat == 34 then pStr l'
        else if d.toNat == 117 then
          match l' with
          | a :: b :: c :: d :: l'' => if hex a.toNat && hex b.toNat && hex c.toNat && hex d.toNat then pStr l'' else none
          | _ => none
        else none
    else pStr l

def pDigs : List UInt8 → List UInt8
  | [] => []
  | c :: l => if dig c.toNat then pDigs l else c :: l

def pDigits : List UInt8 → Option (List UInt8)
  | [] => none
  | c :: l => if dig c.toNat then some (pDigs l) else none

def pSign : List UInt8 → List UInt8
  | [] => []
  | c :: l => if c.toNat == 43 || c.toNat == 45 then l else c :: l

def pExp : List UInt8 → Option (List UInt8)
  | [] => some []
  | c :: l => if c.toNat == 101 || c.toNat == 69 then pDigits (pSign l) else some (c :: l)

def pFrac : List UInt8 → Option (List UInt8)
  | [] => some []
  | c :: l => if c.toNat == 46 then (pDigits l).bind pExp else pExp (c :: l)

def pInt : List UInt8 → Option (List UInt8)
  | [] => none
  | c :: l => if c.toNat == 48 then some l else pDigits (c :: l)

def pNum : List UInt8 → Option (List UInt8)
  | [] => none
  | c :: l => if c.toNat == 45 then (pInt l).bind pFrac else (pInt (c :: l)).bind pFrac

def pWord : List Nat → List UInt8 → Option (List UInt8)
  | [], l => some l
  | _ :: _, [] => none
  | d :: w, c :: l => if c.toNat == d then pWord w l else none

mutual
/-- A value, within so many arrays and objects. -/
def pVal : Nat → Nat → List UInt8 → Option (List UInt8)
  | 0, _, _ => none
  | k + 1, deep, l =>
    match skip l with
    | [] => none
    | c :: l =>
      if c.toNat == 91 then (if deep < 10000 then (match skip l with | [] => pArr k (deep + 1) l | d :: l' => if d.toNat == 93 then some l' else pArr k (deep + 1) l) else none)
      else if c.toNat == 123 then (if deep < 10000 then (match skip l with | [] => pObj k (deep + 1) l | d :: l' => if d.toNat == 125 then some l' else pObj k (deep + 1) l) else none)
      else if c.toNat == 34 then pStr l
      else if c.toNat == 116 then pWord [114, 117, 101] l
      else if c.toNat == 102 then pWord [97, 108, 115, 101] l
      else if c.toNat == 110 then pWord [117, 108, 108] l
      else if c.toNat == 45 || dig c.toNat then pNum (c :: l)
      else none
/-- The elements of an array, and its end. -/
def pArr : Nat → Nat → List UInt8 → Option (List UInt8)
  | 0, _, _ => none
  | k + 1, deep, l =>
    match pVal k deep l with
    | none => none
    | some r =>
      match skip r with
      | [] => none
      | c :: r => if c.toNat == 93 then some r else if c.toNat == 44 then pArr k deep r else none
/-- The members of an object, and its end. -/
def pObj : Nat → Nat → List UInt8 → Option (List UInt8)
  | 0, _, _ => none
  | k + 1, deep, l =>
    match skip l with
    | [] => none
    | c :: l =>
      if c.toNat == 34 then
        match pStr l with
        | none => none
        | some r =>
          match skip r with
          | [] => none
          | c :: r =>
            if c.toNat == 58 then
              match pVal k deep r with
              | none => none
              | some r =>
                match skip r with
                | [] => none
                | c :: r => if c.toNat == 125 then some r else if c.toNat == 44 then pObj k deep r else none
            else none
      else none
end

/-- The whole text is one value. -/
def check (l : List UInt8) : Bool :=
  match pVal (2 * l.length + 2) 0 l with
  | none => false
  | some r => (skip r).isEmpty

end Go.Proofs.YtlmhpmbgalmpgaaGreatDoor.Js

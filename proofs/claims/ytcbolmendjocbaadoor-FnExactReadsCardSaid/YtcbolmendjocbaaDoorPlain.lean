/- The plain mathematics of the quoted-printable Writer and of tokens: lists of bytes alone, no program. -/
namespace Go.Proofs.YtcbolmendjocbaaDoor.Qp

abbrev B := List UInt8

/-- a blank -/
def isWs (b : UInt8) : Bool := b == 32 || b == 9
/-- a capital hexadecimal digit -/
def hexU (n : UInt8) : UInt8 := if n < 10 then 48 + n else 55 + n
/-- an escape -/
def escB (b : UInt8) : B := [61, hexU (b >>> 4), hexU (b &&& 15)]

/-- the Writer's state: what it has written, its line, and whether the last byte was CR -/
structure WS where
  out : B
  line : B
  cr : Bool

def WS.crlf (s : WS) : WS := { s with out := s.out ++ (s.line ++ [13, 10]), line := [] }
def WS.soft (s : WS) : WS := { s with out := s.out ++ (s.line ++ [61, 13, 10]), line := [] }
def WS.enc (s : WS) (b : UInt8) : WS :=
  if 72 < s.line.length then { s.soft with line := escB b } else { s with line := s.line ++ escB b }
def WS.last (s : WS) : WS :=
  match s.line.getLast? with
  | some b => if isWs b then ({ s with line := s.line.dropLast } : WS).enc b else s
  | none => s
def WS.wr (s : WS) (b : UInt8) : WS :=
  if b == 10 || b == 13 then
    if s.cr && b == 10 then { s with cr := false }
    else (({ s with cr := s.cr || b == 13 } : WS).last).crlf
  else
    if s.line.length == 75 then { s.soft with line := [b], cr := false } else { s with line := s.line ++ [b], cr := false }

/-- a byte that Write hands on in a batch -/
def simple (bin : Bool) (b : UInt8) : Bool := (33 ≤ b && b ≤ 126 && b != 61) || (isWs b || !bin && (b == 10 || b == 13))

def WS.step (bin : Bool) (s : WS) (b : UInt8) : WS := if simple bin b then s.wr b else s.enc b
def WS.fin (s : WS) : B := s.last.out ++ s.last.line
def WS.init : WS := ⟨[], [], false⟩
/-- what Encode returns -/
def encode (bin : Bool) (data : B) : B := (data.foldl (WS.step bin) WS.init).fin

/-! tokens -/

/-- the value of a capital hexadecimal digit, or none -/
def hexV (b : UInt8) : Option Nat :=
  if 48 ≤ b && b ≤ 57 then some (b.toNat - 48) else if 65 ≤ b && b ≤ 70 then some (b.toNat - 65 + 10) else none

structure Tok where
  kind : Nat
  text : B
  value : B
deriving DecidableEq

def Tok.none : Tok := ⟨0, [], []⟩

/-- the token with which a text begins -/
def next : B → Tok
  | [] => Tok.none
  | 13 :: 10 :: _ => ⟨5, [13, 10], [13, 10]⟩
  | 61 :: 13 :: 10 :: _ => ⟨4, [61, 13, 10], []⟩
  | b :: r =>
    if b == 32 || b == 9 then ⟨2, [b], [b]⟩
    else if b == 61 then
      match r with
      | x :: y :: _ =>
        match hexV x, hexV y with
        | some h, some l => ⟨3, [61, x, y], [UInt8.ofNat (h * 16 + l)]⟩
        | _, _ => Tok.none
      | _ => Tok.none
    else if 32 < b && b ≤ 126 then ⟨1, [b], [b]⟩
    else Tok.none

/-- how long a line is behind a token, ahead of the test -/
def Tok.adds (t : Tok) (line : Nat) : Nat := if t.kind = 4 then line + 1 else if t.kind = 5 then line else line + t.text.length
def Tok.leaves (t : Tok) (line : Nat) : Nat := if t.kind = 4 ∨ t.kind = 5 then 0 else t.adds line

def tokensGo : Nat → B → Nat → Option (List Tok)
  | 0, _, _ => some []
  | fuel + 1, src, line =>
    match src with
    | [] => some []
    | _ :: _ =>
      let t := next src
      if t.kind = 0 then none
      else if 76 < t.adds line then none
      else (tokensGo fuel (src.drop t.text.length) (t.leaves line)).map (t :: ·)

/-- the tokens of an encoded text -/
def tokens (src : B) : Option (List Tok) := tokensGo src.length src 0

def textOf (l : List Tok) : B := l.flatMap (·.text)

/-- what tokens stand for, with the blanks at the end, and how many these are -/
def valueStep (s : B × Nat) (t : Tok) : B × Nat :=
  if t.kind = 5 then (s.1.take (s.1.length - s.2) ++ t.value, 0)
  else if t.kind = 2 then (s.1 ++ t.value, s.2 + 1)
  else (s.1 ++ t.value, 0)
def valueGo (l : List Tok) : B × Nat := l.foldl valueStep ([], 0)
def value (l : List Tok) : B := (valueGo l).1.take ((valueGo l).1.length - (valueGo l).2)
def kept (l : List Tok) : B := (valueGo l).1

/-- data with CR LF in the place of each LF that has no CR ahead; none where a CR has no LF behind -/
def linesGo : Bool → B → Option B
  | cr, [] => if cr then none else some []
  | cr, b :: r =>
    if b == 10 then (linesGo false r).map (if cr then (10 :: ·) else (13 :: 10 :: ·))
    else if cr then none
    else if b == 13 then (linesGo true r).map (13 :: ·)
    else (linesGo false r).map (b :: ·)
def lines (data : B) : Option B := linesGo false data

end Go.Proofs.YtcbolmendjocbaaDoor.Qp

/- (*quotedprintable.Reader).Read: where the Reader stands, and its loop's body. -/
import Derived.Test.YtcbolmendjocbaaDoorRd9
namespace Go.Proofs.YtcbolmendjocbaaDoor
open Go.RowKit Qp

/-- an error's kind: 0 none, 1 io.EOF, 2 another -/
def ErrIs (ea : Addr) (c : Nat) (v : Value) : Prop := (c = 0 ∧ v = .nilIface) ∨ (c = 1 ∧ v = eofv ea) ∨ (c = 2 ∧ ∃ a, a ≠ ea ∧ v = eofv a)

/-- v is an error in a block of its own -/
def ErrW (w : World) (ea : Addr) (v : Value) : Prop := ∃ g s, v = eofv ⟨g, 0, none⟩ ∧ w.heap[g]? = some (.cells #[.string s] 86 (0, 0)) ∧ g ≠ ea.block
/-- the blocks of a Reader -/
structure Blocks (R Bu Bf s D P : Nat) : Prop where
  ap : Apart Bu Bf s D
  ru : R ≠ Bu
  rf : R ≠ Bf
  rs : R ≠ s
  rd : R ≠ D
  pr : P ≠ R
  pu : P ≠ Bu
  pf : P ≠ Bf
  ps : P ≠ s
  pd : P ≠ D
  zr : R ≠ 0
  zu : Bu ≠ 0
  zf : Bf ≠ 0
  zs : s ≠ 0
  zp : P ≠ 0

/-- the Reader stands at st -/
structure QAt (k : Bool) (ea : Addr) (R Bu Bf s D : Nat) (w : World) (st : RS) (ev lv : Value) (r n : Nat) (buf d : List UInt8) : Prop where
  rdr : RdrAt w R Bu ev lv
  bs : Bs w lv st.line
  own : st.line ≠ [] → lv.ownBlock = some Bf
  rs : RsAt k ea Bu Bf s D w w r n .nilIface buf d
  rest : (buf.take n).drop r ++ d = st.rest
  err : ErrIs ea st.rerr ev
  eof : EofAt w ea
  ebl : ea.block < w.heap.size

def fstLoop : Code → Option Code
  | .loop c => some c
  | .seq a b => match fstLoop a with
    | some c => some c
    | none => fstLoop b
  | .block _ c => fstLoop c
  | .scope c => fstLoop c
  | .cond _ a b => match fstLoop a with
    | some c => some c
    | none => fstLoop b
  | _ => none
noncomputable def rbody : Code := ((Tryd.f14.body.bind fstLoop).getD .skip)

/-- what a Read may turn -/
def Rmay (R Bu Bf s P : Nat) (b : Nat) : Prop := b = R ∨ b = Bu ∨ b = Bf ∨ b = s ∨ b = P

/-- where Read stands: so many bytes given, so many rounds to come at the most -/
def RdRel (k : Bool) (ea : Addr) (R Bu Bf s D P po m mc : Nat) (pb : List UInt8) (out : List UInt8) (code : Nat) (w : World) (gk : Nat) (pv nv : Value) (wr : World) : Prop :=
  ∃ i st ev lv r n buf d ap, nv = .int .i64 (i : Nat) ∧ pv = .slice ap (m - i) (mc - i) ∧ (i < m → ap = some ⟨P, po + i, none⟩) ∧ i ≤ m ∧ i ≤ out.length ∧
    QAt k ea R Bu Bf s D wr st ev lv r n buf d ∧ strm st = (out.drop i, code) ∧ RowB wr P (splice pb po (out.take i)) ∧ Keep (Rmay R Bu Bf s P) w wr ∧ gk = meas st

/-- what a Read leaves -/
def ReadPost (k : Bool) (ea : Addr) (R Bu Bf s D P po m : Nat) (pb : List UInt8) (out : List UInt8) (code : Nat) (w : World) (e : Ending) (w' : World) : Prop :=
  RowB w' P (splice pb po (out.take m)) ∧ Keep (Rmay R Bu Bf s P) w w' ∧
    ((m ≤ out.length ∧ e = .returned (.tuple #[.int .i64 m, .nilIface]) ∧ ∃ st ev lv r n buf d, QAt k ea R Bu Bf s D w' st ev lv r n buf d ∧ strm st = (out.drop m, code)) ∨
     (out.length < m ∧ ∃ v, (ErrIs ea code v ∨ code = 5 ∧ ErrW w' ea v) ∧ code ≠ 0 ∧ e = .returned (.tuple #[.int .i64 out.length, v])))

/-- the round goes on -/
def RdNext (k : Bool) (ea : Addr) (R Bu Bf s D P po m mc : Nat) (pb out : List UInt8) (code : Nat) (w : World) (gk : Nat) (pv nv : Value) (w' : World) : Prop :=
  ∃ gk', gk' < gk ∧ RdRel k ea R Bu Bf s D P po m mc pb out code w gk' pv nv w'
end Go.Proofs.YtcbolmendjocbaaDoor

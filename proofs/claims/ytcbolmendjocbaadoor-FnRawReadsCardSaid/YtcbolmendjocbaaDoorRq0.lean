/- (*quotedprintable.Reader).Read: where the Reader stands, and its loop's body. -/
import Derived.Test.YtcbolmendjocbaaDoorRd9
import Derived.Shelf.Unicode.DecodeSlow
namespace Go.Proofs.YtcbolmendjocbaaDoor
open Go.RowKit Qp

/-- an error's kind: 0 none, 1 io.EOF, 2 another -/
def ErrIs (ea : Addr) (c : Nat) (v : Value) : Prop := (c = 0 ∧ v = .nilIface) ∨ (c = 1 ∧ v = eofv ea) ∨ (c = 2 ∧ ∃ a, a ≠ ea ∧ v = eofv a)

/-- a block that lay there before the Reader was made -/
def Old (R Bu Bf s b : Nat) : Prop := b < R ∧ b < Bu ∧ b < Bf ∧ b < s
/-- at a lies an error other than io.EOF's: an old one, or one that errors.New has made -/
def ErrB (R Bu Bf s : Nat) (ea : Addr) (w : World) (a : Addr) : Prop := a ≠ ea ∧ ∃ cs t, w.heap[a.block]? = some (.cells cs t (0, 0)) ∧ (Old R Bu Bf s a.block ∨ t = 86)
/-- v is such an error -/
def ErrV (R Bu Bf s : Nat) (ea : Addr) (w : World) (v : Value) : Prop := ∃ a, v = eofv a ∧ ErrB R Bu Bf s ea w a
/-- v is an error that errors.New has made -/
def ErrF (ea : Addr) (w : World) (v : Value) : Prop := ∃ g s, v = eofv ⟨g, 0, none⟩ ∧ w.heap[g]? = some (.cells #[.string s] 86 (0, 0)) ∧ g ≠ ea.block
theorem ErrF.v {R Bu Bf s : Nat} {ea : Addr} {w : World} {v : Value} (h : ErrF ea w v) : ErrV R Bu Bf s ea w v :=
  let ⟨g, _, h1, h2, h3⟩ := h
  ⟨⟨g, 0, none⟩, h1, (fun e => h3 (congrArg Addr.block e)), _, _, h2, .inr rfl⟩
/-- what a step may turn, if errors are to last: old blocks never, others only if they hold no error -/
def Mild (R Bu Bf s : Nat) (w : World) (S : Nat → Prop) : Prop := ∀ b, S b → b < w.heap.size → ¬ Old R Bu Bf s b ∧ ∃ cs t f, w.heap[b]? = some (.cells cs t f) ∧ t ≠ 86
theorem ErrB.keep {S : Nat → Prop} {R Bu Bf s : Nat} {ea a : Addr} {w w' : World} (h : ErrB R Bu Bf s ea w a) (hk : Keep S w w') (hm : Mild R Bu Bf s w S) : ErrB R Bu Bf s ea w' a := by
  obtain ⟨h1, cs, t, h2, h3⟩ := h
  refine ⟨h1, cs, t, (hk.block a.block (Lib.lt_of_heap h2) fun e => ?_).trans h2, h3⟩
  obtain ⟨q1, cs', t', f', q2, q3⟩ := hm _ e (Lib.lt_of_heap h2)
  rcases h3 with h3 | h3
  · exact q1 h3
  · rw [h2] at q2
    injection q2 with q2
    injection q2 with _ q2
    exact q3 (q2.symm.trans h3)
theorem ErrV.keep {S : Nat → Prop} {R Bu Bf s : Nat} {ea : Addr} {v : Value} {w w' : World} (h : ErrV R Bu Bf s ea w v) (hk : Keep S w w') (hm : Mild R Bu Bf s w S) : ErrV R Bu Bf s ea w' v :=
  let ⟨a, h1, h2⟩ := h
  ⟨a, h1, h2.keep hk hm⟩
/-- what lay there before the Reader was made: errors, tables -/
structure Env (R Bu Bf s : Nat) (ea fa ua : Addr) (w : World) : Prop where
  full : w.cell? ⟨1, 0, none⟩ = some (eofv fa)
  unex : w.cell? ⟨2, 0, none⟩ = some (eofv ua)
  fb : ErrB R Bu Bf s ea w fa
  ub : ErrB R Bu Bf s ea w ua
  eac : ∃ x, w.cell? ea = some x
  tabs : Lib.Utf8Tabs 6 7 w
  eo : Old R Bu Bf s ea.block
  go1 : Old R Bu Bf s 1
  go2 : Old R Bu Bf s 2
  go3 : Old R Bu Bf s 6
  go4 : Old R Bu Bf s 7
theorem keep_old {S : Nat → Prop} {R Bu Bf s : Nat} {w w' : World} (hk : Keep S w w') (hm : Mild R Bu Bf s w S) {p : Addr} {x : Value} (ho : Old R Bu Bf s p.block) (hc : w.cell? p = some x) : w'.cell? p = some x :=
  hk.cell (fun e => (hm _ e (cell_lt hc)).1 ho) hc
theorem Env.keep {S : Nat → Prop} {R Bu Bf s : Nat} {ea fa ua : Addr} {w w' : World} (h : Env R Bu Bf s ea fa ua w) (hk : Keep S w w') (hm : Mild R Bu Bf s w S) : Env R Bu Bf s ea fa ua w' where
  full := keep_old hk hm h.go1 h.full
  unex := keep_old hk hm h.go2 h.unex
  fb := h.fb.keep hk hm
  ub := h.ub.keep hk hm
  eac := let ⟨x, hx⟩ := h.eac; ⟨x, keep_old hk hm h.eo hx⟩
  tabs := ⟨fun c hc => keep_old hk hm h.go3 (h.tabs.1 c hc), fun i hi => ⟨keep_old hk hm h.go4 (h.tabs.2 i hi).1, keep_old hk hm h.go4 (h.tabs.2 i hi).2⟩⟩
  eo := h.eo
  go1 := h.go1
  go2 := h.go2
  go3 := h.go3
  go4 := h.go4

/-- the blocks of a Reader -/
structure Blocks (R Bu Bf s D P : Nat) : Prop where
  ap : Apart Bu Bf s D
  ru : R ≠ Bu
  rf : R ≠ Bf
  rs : R ≠ s
  rd : R ≠ D
  pr : P ≠ R
  pu : P ≠ Bu
  pf : P ≠ Bf
  ps : P ≠ s
  pd : P ≠ D
  zr : R ≠ 0
  zu : Bu ≠ 0
  zf : Bf ≠ 0
  zs : s ≠ 0
  zp : P ≠ 0
  rp : R < P

/-- the Reader stands at st -/
structure QAt (k : Bool) (ea : Addr) (R Bu Bf s D : Nat) (w : World) (st : RS) (ev lv : Value) (r n : Nat) (buf d : List UInt8) : Prop where
  rdr : RdrAt w R Bu ev lv
  bs : Bs w lv st.line
  own : st.line ≠ [] → lv.ownBlock = some Bf
  rs : RsAt k ea Bu Bf s D w w r n .nilIface buf d
  rest : (buf.take n).drop r ++ d = st.rest
  err : ErrIs ea st.rerr ev
  eof : EofAt w ea
  ebl : ea.block < w.heap.size
  env : ∃ fa ua, Env R Bu Bf s ea fa ua w
  ew : st.rerr = 2 → ErrV R Bu Bf s ea w ev

theorem srcAt_type {k : Bool} {w : World} {s D : Nat} {d : List UInt8} (h : SrcAt k w s D d) : ∃ cs t f, w.heap[s]? = some (.cells cs t f) ∧ t ≠ 86 := by
  cases k with
  | false => obtain ⟨v, all, i, prev, h1, _⟩ := h; exact ⟨_, _, _, h1, by decide⟩
  | true => exact False.elim h
/-- the Reader's own blocks, and the buffer P, hold no error -/
theorem QAt.mild {k : Bool} {ea : Addr} {R Bu Bf s D P : Nat} {w : World} {st : RS} {ev lv : Value} {r n : Nat} {buf d pb : List UInt8} (h : QAt k ea R Bu Bf s D w st ev lv r n buf d) (hrow : RowB w P pb) (hP : R < P) {S : Nat → Prop} (hS : ∀ b, S b → b = R ∨ b = Bu ∨ b = Bf ∨ b = s ∨ b = P ∨ w.heap.size ≤ b) : Mild R Bu Bf s w S := by
  intro b hb hlt
  rcases hS b hb with e | e | e | e | e | e
  · subst e; exact ⟨fun o => Nat.lt_irrefl _ o.1, _, _, _, h.rdr, by decide⟩
  · subst e; obtain ⟨_, _, h1⟩ := h.rs.bu; exact ⟨fun o => Nat.lt_irrefl _ o.2.1, _, _, _, h1, by decide⟩
  · subst e; exact ⟨fun o => Nat.lt_irrefl _ o.2.2.1, _, _, _, h.rs.bf, by decide⟩
  · subst e; obtain ⟨cs, t, f, h1, h2⟩ := srcAt_type h.rs.src; exact ⟨fun o => Nat.lt_irrefl _ o.2.2.2, cs, t, f, h1, h2⟩
  · subst e; exact ⟨fun o => Nat.lt_asymm hP o.1, _, _, _, hrow, by decide⟩
  · omega

def fstLoop : Code → Option Code
  | .loop c => some c
  | .seq a b => match fstLoop a with
    | some c => some c
    | none => fstLoop b
  | .block _ c => fstLoop c
  | .scope c => fstLoop c
  | .cond _ a b => match fstLoop a with
    | some c => some c
    | none => fstLoop b
  | _ => none
noncomputable def rbody : Code := ((Tryd.f14.body.bind fstLoop).getD .skip)

/-- what a Read may turn -/
def Rmay (R Bu Bf s P : Nat) (b : Nat) : Prop := b = R ∨ b = Bu ∨ b = Bf ∨ b = s ∨ b = P

/-- where Read stands: so many bytes given, so many rounds to come at the most -/
def RdRel (k : Bool) (ea : Addr) (R Bu Bf s D P po m mc : Nat) (pb : List UInt8) (out : List UInt8) (code : Nat) (w : World) (gk : Nat) (pv nv : Value) (wr : World) : Prop :=
  ∃ i st ev lv r n buf d ap, nv = .int .i64 (i : Nat) ∧ pv = .slice ap (m - i) (mc - i) ∧ (i < m → ap = some ⟨P, po + i, none⟩) ∧ i ≤ m ∧ i ≤ out.length ∧
    QAt k ea R Bu Bf s D wr st ev lv r n buf d ∧ strm st = (out.drop i, code) ∧ RowB wr P (splice pb po (out.take i)) ∧ Keep (Rmay R Bu Bf s P) w wr ∧ gk = meas st

/-- what a Read leaves -/
def ReadPost (k : Bool) (ea : Addr) (R Bu Bf s D P po m : Nat) (pb : List UInt8) (out : List UInt8) (code : Nat) (w : World) (e : Ending) (w' : World) : Prop :=
  RowB w' P (splice pb po (out.take m)) ∧ Keep (Rmay R Bu Bf s P) w w' ∧
    ((m ≤ out.length ∧ e = .returned (.tuple #[.int .i64 m, .nilIface]) ∧ ∃ st ev lv r n buf d, QAt k ea R Bu Bf s D w' st ev lv r n buf d ∧ strm st = (out.drop m, code)) ∨
     (out.length < m ∧ ∃ v, (ErrIs ea code v ∧ (code = 2 → ErrV R Bu Bf s ea w' v)) ∧ code ≠ 0 ∧ e = .returned (.tuple #[.int .i64 out.length, v])))

/-- the round goes on -/
def RdNext (k : Bool) (ea : Addr) (R Bu Bf s D P po m mc : Nat) (pb out : List UInt8) (code : Nat) (w : World) (gk : Nat) (pv nv : Value) (w' : World) : Prop :=
  ∃ gk', gk' < gk ∧ RdRel k ea R Bu Bf s D P po m mc pb out code w gk' pv nv w'
end Go.Proofs.YtcbolmendjocbaaDoor

/- (*quotedprintable.Reader).Read: what a round that gives a byte leaves. -/
import Derived.Test.YtcbolmendjocbaaDoorRq0
namespace Go.Proofs.YtcbolmendjocbaaDoor
open Go.RowKit Qp

theorem RowB.set {w : World} {g : Nat} {l : List UInt8} (h : RowB w g l) (j : Nat) (v : UInt8) (x : Int) (hx : x = v.toNat) : RowB (w.setCell ⟨g, j, none⟩ (.int .u8 x)) g (l.set j v) := by
  subst hx
  unfold RowB
  rw [Lib.heap_setCell_same h]
  congr 2
  simp [Lib.byteCells, List.map_set]

theorem splice_set (pb out : List UInt8) (po i : Nat) (v : UInt8) (h : out[i]? = some v) (hf : po + i < pb.length) : (splice pb po (out.take i)).set (po + i) v = splice pb po (out.take (i + 1)) := by
  have hi : i < out.length := (List.getElem?_eq_some_iff.1 h).1
  have hl : (out.take i).length = i := by simp; omega
  have ht : out.take (i + 1) = out.take i ++ [v] := by rw [List.take_add_one, h]; rfl
  have hd : pb.drop (po + i) = pb[po + i] :: pb.drop (po + (i + 1)) := by rw [List.drop_eq_getElem_cons hf]; rfl
  unfold splice
  rw [ht, hl, List.length_append, hl]
  simp only [List.length_cons, List.length_nil, Nat.zero_add]
  rw [hd, List.set_append_right _ _ (by simp; omega), List.set_append_right _ _ (by simp; omega)]
  have e : po + i - (pb.take po).length - (out.take i).length = 0 := by simp; omega
  rw [e, List.set_cons_zero]
  simp

theorem RdrAt.keep {S : Nat → Prop} {w w' : World} {R Bu : Nat} {ev lv : Value} (h : RdrAt w R Bu ev lv) (hk : Keep S w w') (hs : ¬ S R) : RdrAt w' R Bu ev lv := (hk.block R (Lib.lt_of_heap h) hs).trans h
theorem RdrAt.line {w : World} {R Bu : Nat} {ev lv : Value} (h : RdrAt w R Bu ev lv) (lv' : Value) : RdrAt (w.setCell ⟨R, 2, none⟩ lv') R Bu ev lv' := by
  unfold RdrAt; rw [Lib.heap_setCell_same h]; rfl
theorem RdrAt.serr {w : World} {R Bu : Nat} {ev lv : Value} (h : RdrAt w R Bu ev lv) (ev' : Value) : RdrAt (w.setCell ⟨R, 1, none⟩ ev') R Bu ev' lv := by
  unfold RdrAt; rw [Lib.heap_setCell_same h]; rfl
theorem RsAt.here {k : Bool} {ea : Addr} {Bu Bf s D r n : Nat} {w wr w' : World} {ev : Value} {buf d : List UInt8} {S : Nat → Prop} (h : RsAt k ea Bu Bf s D w wr r n ev buf d) (hk : Keep S wr w') (h1 : ¬ S Bu) (h2 : ¬ S Bf) (h3 : ¬ S s) (h4 : ¬ S D) :
    RsAt k ea Bu Bf s D w' w' r n ev buf d := ⟨h.bu.keep hk h1, h.bf.keep hk h2, h.len, h.rn, h.n4, h.src.keep hk h3 h4, Keep.refl _ _⟩

theorem Bs.keepN {S : Nat → Prop} {w w' : World} {v : Value} {l : List UInt8} (h : Bs w v l) (hk : Keep S w w') (hv : l ≠ [] → ∀ g, v.ownBlock = some g → ¬ S g) : Bs w' v l :=
  let ⟨ao, cap, e, h2, h3, h4, h5⟩ := h
  ⟨ao, cap, e, h2, h3, h4, fun hl => let ⟨b, off, h6, h7⟩ := h5 hl; ⟨b, off, h6, fun k hk' => hk.cell (by subst e; subst h6; exact hv hl b rfl) (h7 k hk')⟩⟩

section
variable {k : Bool} {ea : Addr} {R Bu Bf s D P po m mc : Nat} {pb out : List UInt8} {code : Nat} {w wr W0 : World} {gk : Nat}

/-- A ROUND THAT GIVES A BYTE. -/
theorem emit_next {st : RS} {ev lv : Value} {r n i : Nat} {buf d : List UInt8} {b v : UInt8} {r' r'' : List UInt8} (hB : Blocks R Bu Bf s D P) (h : QAt k ea R Bu Bf s D wr st ev lv r n buf d) (hst : strm st = (out.drop i, code)) (hl : st.line = b :: r') (he : emit b r' = some (v, r''))
    (hi : i < m) (hpm : po + m ≤ pb.length) (hrow : RowB wr P (splice pb po (out.take i))) (hkeep : Keep (Rmay R Bu Bf s P) w wr) (hgk : gk = meas st)
    (hk0 : Keep (fun b => b = R) wr W0) (h0 : ∃ lvx, RdrAt W0 R Bu ev lvx) (lv' : Value) (hlv : Bs wr lv' r'') (hown : r'' ≠ [] → lv'.ownBlock = some Bf) (pv : Value) (ap' : Option Addr) (hpv : pv = .slice ap' (m - (i + 1)) (mc - (i + 1))) (hap : i + 1 < m → ap' = some ⟨P, po + (i + 1), none⟩) (q : Nat) (hq : q = po + i) (x : Int) (hx : x = v.toNat) :
    RdNext k ea R Bu Bf s D P po m mc pb out code w gk pv (.int .i64 ((i : Int) + 1)) ((W0.setCell ⟨P, q, none⟩ (.int .u8 x)).setCell ⟨R, 2, none⟩ lv') := by
  subst hq
  have hby := strm_byte (st := st) hl he
  rw [hst] at hby
  injection hby with hby1 hby2
  have hov : out[i]? = some v := by
    have := congrArg (fun l => l[0]?) hby1
    simpa [List.getElem?_drop] using this
  have hio1 : i + 1 ≤ out.length := by have := (List.getElem?_eq_some_iff.1 hov).1; omega
  have hnext : strm { st with line := r'' } = (out.drop (i + 1), code) := by
    have h1 : out.drop (i + 1) = (strm { st with line := r'' }).1 := by
      have := congrArg (fun l => l.drop 1) hby1
      simpa [List.drop_drop] using this
    rw [h1, hby2]
  have hlen := emit_len he
  -- what is kept
  have kp : Keep (fun b => b = R ∨ b = P) wr ((W0.setCell ⟨P, po + i, none⟩ (.int .u8 x)).setCell ⟨R, 2, none⟩ lv') := by
    have k1 := (hk0.mono (fun _ _ e => Or.inl e) : Keep (fun b => b = R ∨ b = P) wr W0)
    have k2 := k1.setCell ⟨P, po + i, none⟩ (.inr rfl) (.int .u8 x)
    exact k2.setCell ⟨R, 2, none⟩ (.inl rfl) lv'
  obtain ⟨lvx, h0⟩ := h0
  refine ⟨meas { st with line := r'' }, ?_, i + 1, { st with line := r'' }, ev, lv', r, n, buf, d, ap', by simp, hpv, hap, by omega, hio1, ?_, hnext, ?_, ?_, rfl⟩
  · rw [hgk]; unfold meas; rw [hl]; simp; omega
  · have hmild : Mild R Bu Bf s wr (fun b => b = R ∨ b = P) := h.mild hrow hB.rp (fun b e => e.elim .inl (fun e => .inr (.inr (.inr (.inr (.inl e))))))
    refine ⟨?_, hlv.keepN kp ?_, hown, h.rs.here kp ?_ ?_ ?_ ?_, h.rest, h.err, h.eof.keep kp ?_, ?_, let ⟨fa, ua, he⟩ := h.env; ⟨fa, ua, he.keep kp hmild⟩, fun e => (h.ew e).keep kp hmild⟩
    · have h1 : RdrAt (W0.setCell ⟨P, po + i, none⟩ (.int .u8 x)) R Bu ev lvx := (Below.heap_setCell _ _ _ _ (Ne.symm hB.pr)).trans h0
      exact h1.line lv'
    · intro hr g hg
      rw [hown hr] at hg
      injection hg with hg
      subst hg
      rintro (e | e)
      · exact hB.rf e.symm
      · exact hB.pf e.symm
    · rintro (e | e)
      · exact hB.ru e.symm
      · exact hB.pu e.symm
    · rintro (e | e)
      · exact hB.rf e.symm
      · exact hB.pf e.symm
    · rintro (e | e)
      · exact hB.rs e.symm
      · exact hB.ps e.symm
    · rintro (e | e)
      · exact hB.rd e.symm
      · exact hB.pd e.symm
    · rintro (e | e)
      · exact hB.zr e.symm
      · exact hB.zp e.symm
    · exact Nat.lt_of_lt_of_le h.ebl kp.size
  · refine (Below.heap_setCell _ _ _ _ hB.pr).trans ?_
    have := (hrow.keep hk0 hB.pr).set (po + i) v x hx
    rw [splice_set pb out po i v hov (by omega)] at this
    exact this
  · refine hkeep.trans kp (fun b _ e => ?_)
    rcases e with e | e
    · exact .inl e
    · exact .inr (.inr (.inr (.inr e)))
end
end Go.Proofs.YtcbolmendjocbaaDoor

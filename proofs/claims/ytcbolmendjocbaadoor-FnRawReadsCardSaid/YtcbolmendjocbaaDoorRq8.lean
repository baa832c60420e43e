/- A round of Read that reads a line: what is left behind it. -/
import Derived.Test.YtcbolmendjocbaaDoorRq5
import Derived.Test.YtcbolmendjocbaaDoorRq4
namespace Go.Proofs.YtcbolmendjocbaaDoor
open Go.RowKit Qp

theorem Bs.notR {w w8 : World} {R Bu : Nat} {ev lv v : Value} {l : List UInt8} (h : Bs w v l) (hr : RdrAt w R Bu ev lv) (he : ∀ x, ev ≠ .int .u8 x) (hl : ∀ x, lv ≠ .int .u8 x) (hk : Keep (fun b => b = R) w w8) : Bs w8 v l := by
  obtain ⟨ao, cap, rfl, h2, h3, h4, h5⟩ := h
  refine ⟨ao, cap, rfl, h2, h3, h4, fun hne => ?_⟩
  obtain ⟨b, off, rfl, h7⟩ := h5 hne
  refine ⟨b, off, rfl, fun j hj => hk.cell (fun e => ?_) (h7 j hj)⟩
  have h8 := h7 j hj
  have e : b = R := e
  subst e
  rw [Lib.cell_of_heap hr] at h8
  generalize off + j = q at h8
  rcases q with _ | _ | _ | q
  · simp at h8
  · simp at h8; exact he _ h8
  · simp at h8; exact hl _ h8
  · simp at h8

theorem suf_iff (x l : B) : x.isSuffixOf l = true ↔ l.drop (l.length - x.length) = x := by
  rw [List.isSuffixOf_iff_suffix, List.suffix_iff_eq_drop]; exact eq_comm
theorem pre_iff (x l : B) : x.isPrefixOf l = true ↔ l.take x.length = x := by
  rw [List.isPrefixOf_iff_prefix, List.prefix_iff_eq_take]; exact eq_comm
theorem last_iff (t : B) : t.getLast? = some 61 ↔ ([61] : B).isSuffixOf t = true := by
  rw [List.isSuffixOf_iff_suffix]
  constructor
  · intro h
    obtain ⟨r, rfl⟩ := List.getLast?_eq_some_iff.1 h
    exact ⟨r, rfl⟩
  · rintro ⟨r, rfl⟩
    simp
theorem prep_no61 {whole : B} (e : Nat) (h : ([61] : B).isSuffixOf (rstrip isSp whole) = false) : prep whole e =
    if ([10] : B).isSuffixOf whole = true then if ([13, 10] : B).isSuffixOf whole = true then (rstrip isSp whole ++ [13, 10], e) else (rstrip isSp whole ++ [10], e) else (rstrip isSp whole, e) := by
  unfold prep
  simp only [last_iff, h, suf_iff, Bool.false_eq_true, if_false, List.length_cons, List.length_nil]
def behind (whole : B) : B := (whole.drop (rstrip isSp whole).length).dropWhile isWs
theorem prep_61 {whole : B} (e : Nat) (h : ([61] : B).isSuffixOf (rstrip isSp whole) = true) : prep whole e = ((rstrip isSp whole).dropLast,
    if ([10] : B).isPrefixOf (behind whole) = true ∨ ([13, 10] : B).isPrefixOf (behind whole) = true ∨ (behind whole = [] ∧ (rstrip isSp whole).dropLast ≠ [] ∧ e = 1) then e else 2) := by
  unfold prep behind
  simp only [last_iff, h, pre_iff, if_true, List.length_cons, List.length_nil]

theorem dropWhile_ne {p : UInt8 → Bool} {l : B} {b : UInt8} (hb : b ∈ l) (hp : p b = false) : l.dropWhile p ≠ [] := by
  induction l with
  | nil => cases hb
  | cons c r ih =>
    rw [List.dropWhile_cons]
    split
    · rename_i hc
      rcases List.mem_cons.1 hb with rfl | hb
      · rw [hp] at hc; cases hc
      · exact ih hb
    · simp
/-- the test on what stands behind the equals sign -/
theorem behind_nil {whole u : B} (h : whole = u ++ [10]) : behind whole ≠ [] := by
  unfold behind
  obtain ⟨w, hw, hp, hn⟩ := rstrip_split isSp whole
  have hd : whole.drop (rstrip isSp whole).length = w := by
    conv => lhs; arg 2; rw [hw]
    rw [List.drop_left' rfl]
  rw [hd]
  have hm : (10 : UInt8) ∈ w := by
    rcases List.eq_nil_or_concat w with rfl | ⟨q, b, rfl⟩
    · rw [List.append_nil] at hw
      have := hn u 10 (by rw [← hw, h])
      simp [isSp] at this
    · rw [List.concat_eq_append, ← List.append_assoc, h] at hw
      have := (List.append_inj' hw rfl).2
      simp at this
      simp [← this]
  exact dropWhile_ne hm rfl

theorem slice_lf0 {rest : B} (h : (slice rest).2.2 = 0) : ∃ u, (slice rest).1 = u ++ [10] := by
  unfold slice at h ⊢
  split
  · rename_i hc
    obtain ⟨h1, h2, h3⟩ := findIdx_split rest hc.1
    refine ⟨rest.take (rest.findIdx (· == 10)), ?_⟩
    have e : rest.take (rest.findIdx (· == 10) + 1) = rest.take (rest.findIdx (· == 10)) ++ [rest[rest.findIdx (· == 10)]] := by
      rw [List.take_add_one, List.getElem?_eq_getElem hc.1]; rfl
    simp only [e, h3]
  · rename_i hc; rw [if_neg hc] at h; split at h <;> simp at h

theorem splice_behind (l cs : B) (o q : Nat) (h : o + cs.length ≤ q) (hf : o + cs.length ≤ l.length) : (splice l o cs).drop q = l.drop q := by
  unfold splice
  have ho : (l.take o).length = o := by simp; omega
  rw [List.drop_append, List.drop_eq_nil_of_le (by rw [ho]; omega), List.nil_append, ho, List.drop_append, List.drop_eq_nil_of_le (by omega), List.nil_append, List.drop_drop]
  congr 1
  omega
theorem splice_at (l cs : B) (a t : Nat) (hf : a + t + cs.length ≤ l.length) : ((splice l (a + t) cs).drop a).take (t + cs.length) = (l.drop a).take t ++ cs := by
  unfold splice
  have ho : (l.take (a + t)).length = a + t := by simp; omega
  rw [List.drop_append, ho]
  have e0 : a - (a + t) = 0 := by omega
  have e1 : ((l.take (a + t)).drop a).length = t := by simp; omega
  rw [e0, List.drop_zero, List.take_append, e1, List.take_of_length_le (by omega), Nat.add_sub_cancel_left, List.take_left' rfl, List.drop_take, Nat.add_sub_cancel_left]

section
variable {k : Bool} {ea : Addr} {R Bu Bf s D P po m mc : Nat} {pb out : List UInt8} {code : Nat} {w wr : World} {gk : Nat}

/-- where ReadSlice leaves the line -/
def LinePost (k : Bool) (ea : Addr) (Bu Bf s D : Nat) (rest : List UInt8) (wr : World) (a cap : Nat) (w1 : World) : Prop :=
  ∃ lo r n buf d, RsAt k ea Bu Bf s D wr w1 r n .nilIface buf d ∧ (buf.take n).drop r ++ d = (slice rest).2.1 ∧ (slice rest).2.2 ≤ 2 ∧ lo + (slice rest).1.length = r ∧ (buf.drop lo).take (slice rest).1.length = (slice rest).1 ∧
    (slice rest).1.length ≤ cap ∧ cap ≤ 4096 ∧ ((slice rest).1 ≠ [] → a = lo ∧ cap = 4096 - lo) ∧ ((slice rest).2.2 = 1 → (slice rest).1.length < cap)

theorem readSlice_line {ev lv : Value} {fa ua : Addr} {st : RS} {r n : Nat} {buf d : List UInt8} (hB : Blocks R Bu Bf s D P) (h : QAt k ea R Bu Bf s D wr st ev lv r n buf d) (he : ev = .nilIface) (hen : Env R Bu Bf s ea fa ua wr) :
    Calls Tryd.prog 20 #[.pointer (some ⟨Bu, 0, none⟩), .int .u8 10] wr (LineIn R Bu Bf (slErr ea fa (slice st.rest).2.2) (slice st.rest).1 (LinePost k ea Bu Bf s D st.rest wr) wr) := by
  subst he
  refine (readSlice_any h.eof hB.ap ⟨hB.zu, hB.zf, hB.zs⟩ h.rs h.rest hen.full ⟨Nat.ne_of_gt hen.go1.2.1, Nat.ne_of_gt hen.go1.2.2.1, Nat.ne_of_gt hen.go1.2.2.2⟩).mono ?_
  rintro e w1 ⟨lo, r', n', buf', d', cap, a, rfl, h1, h2, h3, h4, h5, h6, h7, h8, h9⟩
  refine ⟨a, cap, rfl, ⟨lv, h.rdr.keep h1.kp ?_⟩, ?_, lo, r', n', buf', d', h1, h2, h3, h4, h5, h6, h7, h8, h9⟩
  · rintro (e | e | e)
    · exact hB.ru e
    · exact hB.rf e
    · exact hB.rs e
  · by_cases hw : (slice st.rest).1 = []
    · rw [hw]
      exact ⟨some ⟨Bf, a, none⟩, cap, rfl, Nat.zero_le _, by omega, (fun h => by cases h), fun h => absurd rfl h⟩
    · obtain ⟨rfl, hcap⟩ := h8 hw
      exact h1.bf.bs a _ cap _ rfl h5.symm h6 (by omega)

theorem slErr_is {ea fa : Addr} {c : Nat} (hne : fa ≠ ea) (hc : c ≤ 2) : ErrIs ea c (slErr ea fa c) := by
  unfold slErr
  by_cases h0 : c = 0
  · rw [if_pos h0]; exact .inl ⟨h0, rfl⟩
  · rw [if_neg h0]
    by_cases h1 : c = 1
    · rw [if_pos h1]; exact .inr (.inl ⟨h1, rfl⟩)
    · rw [if_neg h1]; exact .inr (.inr ⟨by omega, fa, hne, rfl⟩)
theorem slErr_or (ea fa : Addr) (c : Nat) : slErr ea fa c = .nilIface ∨ slErr ea fa c = .iface 84 (.pointer (some (if c = 1 then ea else fa))) := by
  unfold slErr eofv
  by_cases h0 : c = 0
  · rw [if_pos h0]; exact .inl rfl
  · rw [if_neg h0]
    by_cases h1 : c = 1
    · rw [if_pos h1, if_pos h1]; exact .inr rfl
    · rw [if_neg h1, if_neg h1]; exact .inr rfl
theorem line_all {w1 w9 : World} {r' n' : Nat} {buf' d' : List UInt8} (hG1 : RsAt k ea Bu Bf s D wr w1 r' n' .nilIface buf' d') (hk : Keep (fun b => b = R ∨ b = Bf) w1 w9) : Keep (Rmay R Bu Bf s P) wr w9 := by
  refine (hG1.kp.mono (fun b _ e => ?_)).trans (T := fun b => b = R ∨ b = Bf) hk (fun b _ e => ?_)
  · rcases e with e | e | e
    · exact .inr (.inl e)
    · exact .inr (.inr (.inl e))
    · exact .inr (.inr (.inr (.inl e)))
  · rcases e with e | e
    · exact .inl e
    · exact .inr (.inr (.inl e))
theorem QAt.mildR {st : RS} {ev lv : Value} {r n : Nat} {buf d pb' : List UInt8} (hB : Blocks R Bu Bf s D P) (h : QAt k ea R Bu Bf s D wr st ev lv r n buf d) (hrow : RowB wr P pb') : Mild R Bu Bf s wr (Rmay R Bu Bf s P) :=
  h.mild hrow hB.rp fun _ e => by
    rcases e with e | e | e | e | e
    · exact .inl e
    · exact .inr (.inl e)
    · exact .inr (.inr (.inl e))
    · exact .inr (.inr (.inr (.inl e)))
    · exact .inr (.inr (.inr (.inr (.inl e))))
theorem line_env {st : RS} {ev lv : Value} {fa ua : Addr} {r n : Nat} {buf d pb' : List UInt8} (hB : Blocks R Bu Bf s D P) (h : QAt k ea R Bu Bf s D wr st ev lv r n buf d) (hrow : RowB wr P pb') (hen : Env R Bu Bf s ea fa ua wr) {w1 w9 : World} {r' n' : Nat} {buf' d' : List UInt8} (hG1 : RsAt k ea Bu Bf s D wr w1 r' n' .nilIface buf' d') (hk : Keep (fun b => b = R ∨ b = Bf) w1 w9) : Env R Bu Bf s ea fa ua w9 :=
  hen.keep (line_all (P := P) hG1 hk) (h.mildR hB hrow)
theorem line_sv {st : RS} {ev lv : Value} {fa ua : Addr} {r n : Nat} {buf d pb' : List UInt8} (hB : Blocks R Bu Bf s D P) (h : QAt k ea R Bu Bf s D wr st ev lv r n buf d) (hrow : RowB wr P pb') (hen : Env R Bu Bf s ea fa ua wr) {w1 w9 : World} {r' n' : Nat} {buf' d' : List UInt8} (hG1 : RsAt k ea Bu Bf s D wr w1 r' n' .nilIface buf' d') (hk : Keep (fun b => b = R ∨ b = Bf) w1 w9) {c : Nat} (hc : c = 2) : ErrV R Bu Bf s ea w9 (slErr ea fa c) := by
  subst hc
  exact ⟨fa, rfl, (line_env hB h hrow hen hG1 hk).fb⟩

/-- A ROUND THAT HAS READ A LINE. -/
theorem line_next {st : RS} {ev lv : Value} {r n i μ κ : Nat} {buf d : List UInt8} {ap : Option Addr} (hB : Blocks R Bu Bf s D P) (h : QAt k ea R Bu Bf s D wr st ev lv r n buf d) (hl : st.line = []) (hr : st.rerr = 0) (hst : strm st = (out.drop i, code))
    (hi : i ≤ m) (hio : i ≤ out.length) (hμ : μ = m - i) (hκ : κ = mc - i) (hap : i < m → ap = some ⟨P, po + i, none⟩) (hrow : RowB wr P (splice pb po (out.take i))) (hkeep : Keep (Rmay R Bu Bf s P) w wr) (hgk : gk = meas st)
    {w1 w9 : World} {r' n' : Nat} {buf' buf9 d' : List UInt8} (hG1 : RsAt k ea Bu Bf s D wr w1 r' n' .nilIface buf' d') (hG2 : (buf'.take n').drop r' ++ d' = (slice st.rest).2.1)
    (hk : Keep (fun b => b = R ∨ b = Bf) w1 w9) (h9 : RowB w9 Bf buf9) (hl9 : buf9.length = 4096) (hd9 : buf9.drop r' = buf'.drop r')
    {er lv' : Value} (hrdr : RdrAt w9 R Bu er lv') (hbs : Bs w9 lv' (refill st.rest).line) (hown : (refill st.rest).line ≠ [] → lv'.ownBlock = some Bf) (herr : ErrIs ea (refill st.rest).rerr er) (hew : (refill st.rest).rerr = 2 → ErrV R Bu Bf s ea w9 er) :
    RdNext k ea R Bu Bf s D P po m mc pb out code w gk (.slice ap μ κ) (.int .i64 i) w9 := by
  have hfill := strm_fill hl hr
  have hm := meas_fill st.rest
  have hst0 : st = ⟨[], 0, st.rest⟩ := by obtain ⟨l, e, q⟩ := st; simp only at hl hr; subst hl; subst hr; rfl
  rw [← hst0] at hm
  have kall : Keep (Rmay R Bu Bf s P) wr w9 := line_all hG1 hk
  obtain ⟨fa, ua, hen⟩ := h.env
  refine ⟨meas (refill st.rest), by rw [hgk]; exact hm, i, refill st.rest, er, lv', r', n', buf9, d', ap, rfl, by rw [hμ, hκ], hap, hi, hio, ⟨hrdr, hbs, hown, ⟨?_, h9, hl9, hG1.rn, hG1.n4, ?_, Keep.refl _ _⟩, ?_, herr, ?_, ?_, ⟨fa, ua, line_env hB h hrow hen hG1 hk⟩, hew⟩, by rw [← hfill, hst], ?_, hkeep.trans kall (fun _ _ e => e), rfl⟩
  · refine hG1.bu.keep hk ?_
    rintro (e | e)
    · exact hB.ru e.symm
    · exact hB.ap.ub e
  · refine hG1.src.keep hk ?_ ?_
    · rintro (e | e)
      · exact hB.rs e.symm
      · exact hB.ap.bs e.symm
    · rintro (e | e)
      · exact hB.rd e.symm
      · exact hB.ap.bd e.symm
  · rw [List.drop_take, hd9, ← List.drop_take]; exact hG2
  · refine h.eof.keep kall ?_
    rintro (e | e | e | e | e)
    · exact hB.zr e.symm
    · exact hB.zu e.symm
    · exact hB.zf e.symm
    · exact hB.zs e.symm
    · exact hB.zp e.symm
  · exact Nat.lt_of_lt_of_le h.ebl kall.size
  · refine (hrow.keep hG1.kp ?_).keep hk ?_
    · rintro (e | e | e)
      · exact hB.pu e
      · exact hB.pf e
      · exact hB.ps e
    · rintro (e | e)
      · exact hB.pr e
      · exact hB.pf e
end
end Go.Proofs.YtcbolmendjocbaaDoor

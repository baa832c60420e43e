/- The walk of (*bufio.Reader).ReadSlice. -/
import Derived.Test.YtcbolmendjocbaaDoorRd7
import Derived.Deep.LoopGhost
import Derived.Test.YtcbolmendjocbaaDoorRsl
namespace Go.Proofs.YtcbolmendjocbaaDoor
open Go.RowKit Qp

/-- where the Reader's buffer stands: what is in it, what its reader has still to give -/
structure RsAt (k : Bool) (ea : Addr) (Bu Bf s D : Nat) (w wr : World) (r n : Nat) (ev : Value) (buf d : List UInt8) : Prop where
  bu : BuAt wr Bu Bf (rdv k s) r n ev
  bf : RowB wr Bf buf
  len : buf.length = 4096
  rn : r ≤ n
  n4 : n ≤ 4096
  src : SrcAt k wr s D d
  kp : Keep (fun b => b = Bu ∨ b = Bf ∨ b = s) w wr

def RsRel (k : Bool) (ea : Addr) (Bu Bf s D : Nat) (rest : List UInt8) (w : World) (gk : Nat) (sv : Value) (wr : World) : Prop :=
  ∃ r n q buf d ev, sv = .int .i64 (q : Nat) ∧ RsAt k ea Bu Bf s D w wr r n ev buf d ∧ (buf.take n).drop r ++ d = rest ∧ q ≤ n - r ∧ (∀ b ∈ rest.take q, b ≠ 10) ∧
    ((ev = .nilIface ∧ gk = d.length + 2 ∧ (q = 0 ∨ q < n - r)) ∨ (ev = eofv ea ∧ d = [] ∧ r = 0 ∧ q = n ∧ gk = 1 ∧ n < 4096))

/-- the error that ReadSlice gives: none, io.EOF, bufio.ErrBufferFull -/
def slErr (ea fa : Addr) (c : Nat) : Value := if c = 0 then .nilIface else if c = 1 then eofv ea else eofv fa
/-- what ReadSlice leaves -/
def RsPost (k : Bool) (ea fa : Addr) (Bu Bf s D : Nat) (rest : List UInt8) (w : World) (e : Ending) (w' : World) : Prop :=
  ∃ lo r n buf d cap a, e = .returned (.tuple #[.slice (some ⟨Bf, a, none⟩) (slice rest).1.length cap, slErr ea fa (slice rest).2.2]) ∧ RsAt k ea Bu Bf s D w w' r n .nilIface buf d ∧
    (buf.take n).drop r ++ d = (slice rest).2.1 ∧ (slice rest).2.2 ≤ 2 ∧ lo + (slice rest).1.length = r ∧ (buf.drop lo).take (slice rest).1.length = (slice rest).1 ∧ (slice rest).1.length ≤ cap ∧ cap ≤ 4096 ∧ ((slice rest).1 ≠ [] → a = lo ∧ cap = 4096 - lo) ∧ ((slice rest).2.2 = 1 → (slice rest).1.length < cap)

theorem BuAt.setrI {w : World} {Bu Bf : Nat} {rdv : Value} {r n r' : Nat} {ev : Value} (h : BuAt w Bu Bf rdv r n ev) (x : Int) (hx : x = (r' : Nat)) : BuAt (w.setCell ⟨Bu, 2, none⟩ (.int .i64 x)) Bu Bf rdv r' n ev := by
  subst hx; exact h.setr r'

theorem three_sets {w0 wr : World} {Bu Bf r n r' : Nat} {rd ev : Value} (hk : Keep (fun _ => False) wr w0) (hb : BuAt wr Bu Bf rd r n ev) (x y z : Int) (hx : x = (r' : Nat)) :
    Keep (fun b => b = Bu) wr (((w0.setCell ⟨Bu, 2, none⟩ (.int .i64 x)).setCell ⟨Bu, 5, none⟩ (.int .i64 y)).setCell ⟨Bu, 6, none⟩ (.int .i64 z)) ∧
    BuAt (((w0.setCell ⟨Bu, 2, none⟩ (.int .i64 x)).setCell ⟨Bu, 5, none⟩ (.int .i64 y)).setCell ⟨Bu, 6, none⟩ (.int .i64 z)) Bu Bf rd r' n ev := by
  have h0 : Keep (fun b => b = Bu) wr w0 := hk.mono (fun _ _ h => h.elim)
  have h1 := h0.setCell ⟨Bu, 2, none⟩ rfl (.int .i64 x)
  have h2 := h1.setCell ⟨Bu, 5, none⟩ rfl (.int .i64 y)
  have h3 := h2.setCell ⟨Bu, 6, none⟩ rfl (.int .i64 z)
  exact ⟨h3, ((hb.keep hk id).setrI x hx).set5 y |>.set6 z⟩

theorem eof_sets {w0 wr : World} {Bu Bf r n r' : Nat} {rd ev : Value} (hk : Keep (fun _ => False) wr w0) (hb : BuAt wr Bu Bf rd r n ev) (x : Int) (hx : x = (r' : Nat)) :
    Keep (fun b => b = Bu) wr ((w0.setCell ⟨Bu, 2, none⟩ (.int .i64 x)).setCell ⟨Bu, 4, none⟩ .nilIface) ∧ BuAt ((w0.setCell ⟨Bu, 2, none⟩ (.int .i64 x)).setCell ⟨Bu, 4, none⟩ .nilIface) Bu Bf rd r' n .nilIface := by
  have h0 : Keep (fun b => b = Bu) wr w0 := hk.mono (fun _ _ h => h.elim)
  have h1 := h0.setCell ⟨Bu, 2, none⟩ rfl (.int .i64 x)
  have h2 := h1.setCell ⟨Bu, 4, none⟩ rfl .nilIface
  exact ⟨h2, ((hb.keep hk id).setrI x hx).sete .nilIface⟩
theorem last_sets {w0 wr : World} {Bu Bf r n : Nat} {rd ev : Value} (hk : Keep (fun b => b = Bu) wr w0) (hb : BuAt w0 Bu Bf rd r n ev) (y z : Int) :
    Keep (fun b => b = Bu) wr ((w0.setCell ⟨Bu, 5, none⟩ (.int .i64 y)).setCell ⟨Bu, 6, none⟩ (.int .i64 z)) ∧ BuAt ((w0.setCell ⟨Bu, 5, none⟩ (.int .i64 y)).setCell ⟨Bu, 6, none⟩ (.int .i64 z)) Bu Bf rd r n ev := by
  have h1 := hk.setCell ⟨Bu, 5, none⟩ rfl (.int .i64 y)
  have h2 := h1.setCell ⟨Bu, 6, none⟩ rfl (.int .i64 z)
  exact ⟨h2, (hb.set5 y).set6 z⟩

/-- the last line, where the text has come to its end -/
theorem rs_end {k : Bool} {ea fa : Addr} {Bu Bf s D n : Nat} {buf rest : List UInt8} {ev : Value} {w wr w' : World} (ha : Apart Bu Bf s D) (hat : RsAt k ea Bu Bf s D w wr 0 n ev buf []) (hrest : (buf.take n).drop 0 ++ [] = rest) (hno : ∀ b ∈ (buf.take n).drop 0, b ≠ 10) (hn : n < 4096)
    (q1 : Keep (fun b => b = Bu) wr w') (q2 : BuAt w' Bu Bf (rdv k s) n n .nilIface) : RsPost k ea fa Bu Bf s D rest w (.returned (.tuple #[.slice (some ⟨Bf, 0, none⟩) n 4096, eofv ea])) w' := by
  rw [List.drop_zero] at hno hrest
  rw [List.append_nil] at hrest
  have hl := hat.len
  have hrl : rest.length = n := by rw [← hrest]; simp; omega
  have hsl : slice rest = (rest, [], 1) := slice_end rest (by rw [← hrest]; exact hno) (by omega)
  refine ⟨0, n, n, buf, [], 4096, 0, ?_, ⟨q2, hat.bf.keep q1 ha.ub.symm, hl, Nat.le_refl _, by omega, hat.src.keep q1 ha.us.symm ha.ud.symm, hat.kp.trans q1 (fun _ _ h => .inl h)⟩, ?_, ?_, ?_, ?_, ?_, by omega, fun _ => ⟨rfl, rfl⟩, ?_⟩
  · rw [hsl]; simp [slErr, hrl]
  · rw [hsl]; simp
  · rw [hsl]; simp
  · rw [hsl]; simp [hrl]
  · rw [hsl]; simp only [hrl, List.drop_zero]; exact hrest
  · rw [hsl]; simp only [hrl]; omega
  · intro _; rw [hsl]; simp only [hrl]; exact hn

/-- the next round, behind a fill -/
theorem rs_next {k : Bool} {ea : Addr} {Bu Bf s D r n n' gk : Nat} {buf buf' d d' rest : List UInt8} {ev' : Value} {w wr w' : World} (hat : RsAt k ea Bu Bf s D w wr r n .nilIface buf d) (hrest : (buf.take n).drop r ++ d = rest) (hno : ∀ b ∈ (buf.take n).drop r, b ≠ 10) (hk : gk = d.length + 2) (hroom : n - r < 4096)
    (q1 : BuAt w' Bu Bf (rdv k s) 0 n' ev') (q2 : RowB w' Bf buf') (q3 : buf'.length = 4096) (q4 : n' ≤ 4096) (q5 : SrcAt k w' s D d') (q6 : Keep (fun b => b = Bu ∨ b = Bf ∨ b = s) wr w')
    (q7 : (d = [] ∧ ev' = eofv ea ∧ d' = [] ∧ n' = n - r) ∨ (d ≠ [] ∧ ev' = .nilIface ∧ n - r < n' ∧ d' = d.drop (n' - (n - r)))) (q8 : buf'.take n' = (buf.take n).drop r ++ d.take (n' - (n - r))) (sv : Int) (hsv : sv = (n - r : Nat)) :
    ∃ gk', gk' < gk ∧ RsRel k ea Bu Bf s D rest w gk' (.int .i64 sv) w' := by
  have hln : ((buf.take n).drop r).length = n - r := by have := hat.len; have := hat.n4; simp; omega
  have hat' : RsAt k ea Bu Bf s D w w' 0 n' ev' buf' d' := ⟨q1, q2, q3, Nat.zero_le _, q4, q5, hat.kp.trans q6 (fun _ _ h => h)⟩
  have hno' : ∀ b ∈ rest.take (n - r), b ≠ 10 := by
    rw [← hrest, List.take_left' hln]; exact hno
  subst hsv
  rcases q7 with ⟨rfl, rfl, rfl, rfl⟩ | ⟨hd, rfl, hlt, rfl⟩
  · refine ⟨1, by omega, 0, n - r, n - r, buf', [], _, rfl, hat', ?_, by omega, hno', .inr ⟨rfl, rfl, rfl, rfl, rfl, hroom⟩⟩
    rw [List.drop_zero, q8, ← hrest]; simp
  · have hdl : n' - (n - r) ≤ d.length := by
      have := congrArg List.length q8
      rw [List.length_append, hln, List.length_take, List.length_take, q3] at this
      omega
    refine ⟨(d.drop (n' - (n - r))).length + 2, ?_, 0, n', n - r, buf', _, _, rfl, hat', ?_, by omega, hno', .inl ⟨rfl, rfl, .inr (by omega)⟩⟩
    · rw [List.length_drop]
      have := List.length_pos_iff.2 hd
      omega
    · rw [List.drop_zero, q8, List.append_assoc, List.take_append_drop, hrest]

set_option maxRecDepth 100000 in
set_option maxHeartbeats 6400000 in
theorem readSlice_any {k : Bool} {w : World} {ea fa : Addr} {Bu Bf s D r n : Nat} {buf d rest : List UInt8} (hE : EofAt w ea) (ha : Apart Bu Bf s D) (hz : Bu ≠ 0 ∧ Bf ≠ 0 ∧ s ≠ 0) (h : RsAt k ea Bu Bf s D w w r n .nilIface buf d) (hrest : (buf.take n).drop r ++ d = rest) (hF : w.cell? ⟨1, 0, none⟩ = some (eofv fa)) (hzF : Bu ≠ 1 ∧ Bf ≠ 1 ∧ s ≠ 1) :
    Calls Tryd.prog 20 #[.pointer (some ⟨Bu, 0, none⟩), .int .u8 10] w (RsPost k ea fa Bu Bf s D rest w) := by
  have hst : RsRel k ea Bu Bf s D rest w (d.length + 2) (.int .i64 (0 : Nat)) w := ⟨r, n, 0, buf, d, .nilIface, rfl, h, hrest, Nat.zero_le _, by simp, .inl ⟨rfl, rfl, .inl rfl⟩⟩
  have HST := Lib.hid hst
  have HE := Lib.hid hE
  have HA := Lib.hid ha
  have HZ := Lib.hid hz
  have HF0 := Lib.hid hF
  have HZF := Lib.hid hzF
  clear hst hE ha hz h hrest hF hzF
  go_enter Tryd.func20, Tryd.ntmps20
  go_wp2
  go_loopg [5, 6] (d.length + 2) (fun gk e5 sv wr => e5 = .nilIface ∧ RsRel k ea Bu Bf s D rest w gk sv wr)
  case atStart => exact ⟨rfl, HST.out⟩
  case round =>
    clear HST
    obtain ⟨rfl, r, n, q, buf, d, ev, rfl, hat, hrest, hq, hno, hev⟩ := hrel
    have hseg : (buf.take n).drop (r + q) = ((buf.take n).drop r).drop q := by rw [List.drop_drop]
    have hln : ((buf.take n).drop r).length = n - r := by have := hat.len; have := hat.n4; simp; omega
    obtain ⟨c0, c1, c2, c3, c4, ⟨v5, c5⟩, ⟨v6, c6⟩, ff⟩ := hat.bu.at
    have hn4 := hat.n4
    have hrn := hat.rn
    have hi4 : (r : Int) + q ≤ n := by omega
    have hi5 : (n : Int) ≤ 4096 := by omega
    have hi6 : r + q ≤ n := by omega
    by_cases hf : ((buf.take n).drop (r + q)).findIdx (· == 10) < ((buf.take n).drop (r + q)).length
    · -- found
      have hsl : ((buf.take n).drop (r + q)).length = n - (r + q) := by have := hat.len; simp; omega
      obtain ⟨i, hi⟩ : ∃ i, i = ((buf.take n).drop (r + q)).findIdx (· == 10) := ⟨_, rfl⟩
      have hin : i < n - (r + q) := by omega
      have hne : ¬ 4096 = r + q := by omega
      have hbs : Bs wr (.slice (some ⟨Bf, r + q, none⟩) (n - (r + q)) (4096 - (r + q))) ((buf.take n).drop (r + q)) :=
        hat.bf.bs (r + q) (n - (r + q)) (4096 - (r + q)) _ hsl.symm (by rw [List.drop_take]) (by omega) (by omega)
      have hidx : idxI ((buf.take n).drop (r + q)) 10 = (i : Int) := by unfold idxI; rw [if_pos hf, hi]
      have HI : Hid (∀ j, Calls Tryd.prog 29 #[.slice (some ⟨Bf, r + q, none⟩) (n - (r + q)) (4096 - (r + q)), .int .u8 10] (wr.drewN j) fun e w' => e = .returned (.int .i64 i) ∧ w' = wr.drewN j) := fun j => by
        have := indexByte_bs (w := wr.drewN j) 10 10 rfl (hbs.keepS ((Keep.refl (fun _ => False) wr).drewN j) (fun _ _ => id))
        rw [hidx] at this
        exact this.mono (fun e w' h => ⟨h.1, h.2.symm⟩)
      -- the line
      obtain ⟨hsl3, hlen3, h10⟩ := found_lists hat.len hrn hn4 hrest hq hno hi hin
      have hcell : wr.cell? ⟨Bf, r + (i + q), none⟩ = some (.int .u8 10) := by
        rw [hat.bf.cell (r + (i + q)) (by have := hat.len; omega), h10]; rfl
      have hend : ∀ w' L, L = i + q + 1 → Keep (fun b => b = Bu) wr w' → BuAt w' Bu Bf (rdv k s) (r + (i + q) + 1) n .nilIface → RsPost k ea fa Bu Bf s D rest w (.returned (.tuple #[.slice (some ⟨Bf, r, none⟩) L (4096 - r), .nilIface])) w' := by
        rintro w' L rfl q1 q2
        have hA := HA.out
        refine ⟨r, r + (i + q) + 1, n, buf, d, 4096 - r, r, ?_, ⟨q2, hat.bf.keep q1 hA.ub.symm, hat.len, by omega, hn4, hat.src.keep q1 hA.us.symm hA.ud.symm, hat.kp.trans q1 (fun _ _ h => .inl h)⟩, ?_, ?_, ?_, ?_, ?_, by omega, fun _ => ⟨rfl, rfl⟩, fun h => by rw [hsl3] at h; cases h⟩
        · rw [hsl3]; simp only [slErr, hlen3, if_true]
        · rw [hsl3]
        · rw [hsl3]; simp
        · rw [hsl3]; simp only [hlen3]; omega
        · rw [hsl3]; simp only [hlen3]
        · rw [hsl3]; simp only [hlen3]; omega
      have hev : ev = .nilIface := hev.elim (fun h => h.1) (fun h => absurd h.2.2.2.1 (by omega))
      have hbu0 : BuAt wr Bu Bf (rdv k s) r n .nilIface := by rw [← hev]; exact hat.bu
      have hend2 : ∀ w0 L, L = i + q + 1 → Keep (fun _ => False) wr w0 → RsPost k ea fa Bu Bf s D rest w (.returned (.tuple #[.slice (some ⟨Bf, r, none⟩) L (4096 - r), .nilIface]))
          (((w0.setCell ⟨Bu, 2, none⟩ (.int .i64 ((r : Int) + ((i : Int) + q + 1)))).setCell ⟨Bu, 5, none⟩ (.int .i64 10)).setCell ⟨Bu, 6, none⟩ (.int .i64 (-1))) := by
        intro w0 L hL hk
        have h3 := three_sets (r' := r + (i + q) + 1) hk hbu0 ((r : Int) + ((i : Int) + q + 1)) 10 (-1) (by omega)
        exact hend _ L hL h3.1 h3.2
      have HEND := Lib.hid hend2
      have f2 := ff 2
      have f5 := ff 5
      have f6 := ff 6
      have g1 : (i : Int) + q ≤ 4095 := by omega
      have g2 : (r : Int) + (i + q) ≤ 4095 := by omega
      have hW3 : IntKind.i64.wrap ((r : Int) + ((i : Int) + (q : Int))) = (r : Int) + ((i : Int) + (q : Int)) := by rw [IntKind.wrap_i64]; omega
      have hbu : ¬ Bu = Bf := HA.out.ub
      have hbu' : ¬ Bf = Bu := fun e => HA.out.ub e.symm
      clear hend hend2 hbu0 hsl3 hlen3 h10 hidx hbs hsl hi hf hev hat hseg hln hrest hno HA HZ HE HF0 HZF ff
      go_wp2
      go_quiet ((go_at_call 29; exact Calls.quiet_of_same (HI.out _)))
      clear HI
      go_wp2
      go_quiet (fail)
      generalize hL : r + (i + q) + 1 - r = L
      have hL1 : 1 ≤ L := by omega
      have hL2 : (1 : Int) ≤ L := by omega
      have hL3 : (L : Int) ≤ 4096 := by omega
      have hL4 : L ≤ 4096 := by omega
      have hcl : wr.cell? ⟨Bf, r + (L - 1), none⟩ = some (.int .u8 10) := by rw [show L - 1 = i + q by omega]; exact hcell
      have HL := Lib.hid (show L = i + q + 1 by omega)
      clear hL hcell
      go_wp2
      go_ret2
      exact HEND.out _ _ HL.out ((Keep.refl _ _).drewN _)
    · have hsl : ((buf.take n).drop (r + q)).length = n - (r + q) := by have := hat.len; simp; omega
      have hno2 : ∀ b ∈ (buf.take n).drop r, b ≠ 10 := none_lists hat.len hrn hn4 hrest hq hno (by rw [← hsl]; exact hf)
      rcases hev with ⟨rfl, hk, hq0⟩ | ⟨rfl, rfl, rfl, rfl, hk, hn5⟩
      · have HK := Lib.hid hk
        by_cases hroom : n - r < 4096
        case neg =>
          -- the buffer is full
          obtain rfl : r = 0 := by omega
          obtain rfl : n = 4096 := by omega
          have hqn : q < 4096 := by omega
          have hsl5 : slice rest = (buf.take 4096, d, 2) := by
            rw [List.drop_zero] at hrest hno2
            exact slice_full hrest hno2 (by have := hat.len; simp; omega)
          have hlb : (buf.take 4096).length = 4096 := by have := hat.len; simp; omega
          have hcF : wr.cell? ⟨1, 0, none⟩ = some (eofv fa) := hat.kp.cell (by rintro (h | h | h); exact HZF.out.1 h.symm; exact HZF.out.2.1 h.symm; exact HZF.out.2.2 h.symm) HF0.out
          have hbs : Bs wr (.slice (some ⟨Bf, 0 + q, none⟩) (4096 - (0 + q)) (4096 - (0 + q))) ((buf.take 4096).drop (0 + q)) :=
            hat.bf.bs (0 + q) (4096 - (0 + q)) (4096 - (0 + q)) _ hsl.symm (by rw [List.drop_take]) (by omega) (by omega)
          have HI : Hid (∀ j, Calls Tryd.prog 29 #[.slice (some ⟨Bf, q, none⟩) (4096 - q) (4096 - q), .int .u8 10] (wr.drewN j) fun e w' => e = .returned (.int .i64 (-1)) ∧ w' = wr.drewN j) := fun j => by
            have := indexByte_bs (w := wr.drewN j) 10 10 rfl (hbs.keepS ((Keep.refl (fun _ => False) wr).drewN j) (fun _ _ => id))
            rw [show idxI ((buf.take 4096).drop (0 + q)) 10 = -1 from by unfold idxI; rw [if_neg hf]] at this
            rw [Nat.zero_add] at this
            exact this.mono (fun e w' h => ⟨h.1, h.2.symm⟩)
          have HBF : Hid (∀ i j, Calls Tryd.prog 31 #[.pointer (some ⟨Bu, 0, none⟩)] (wr.drewN (i + j)) fun e w' => e = .returned (.int .i64 4096) ∧ ∃ m, w' = wr.drewN (i + m)) := fun i j => by
            refine (buffered_any (w := wr.drewN (i + j)) hat.bu hrn hn4).mono (fun e w' h => ⟨h.1, j + 1, h.2.symm⟩)
          have hcl : wr.cell? ⟨Bf, 4095, none⟩ = some (.int .u8 (buf.getD 4095 0).toNat) := hat.bf.cell 4095 (by have := hat.len; omega)
          have hx0 := (buf.getD 4095 0).toNat_lt
          obtain ⟨x, hx⟩ : ∃ x : Int, x = (buf.getD 4095 0).toNat := ⟨_, rfl⟩
          have hx1 : 0 ≤ x := by omega
          have hx2 : x ≤ 255 := by omega
          rw [← hx] at hcl
          have hend2 : ∀ w0 (y z : Int), Keep (fun _ => False) wr w0 → RsPost k ea fa Bu Bf s D rest w (.returned (.tuple #[.slice (some ⟨Bf, 0, none⟩) 4096 4096, eofv fa]))
              (((w0.setCell ⟨Bu, 2, none⟩ (.int .i64 4096)).setCell ⟨Bu, 5, none⟩ (.int .i64 y)).setCell ⟨Bu, 6, none⟩ (.int .i64 z)) := by
            intro w0 y z hk
            obtain ⟨q1, q2⟩ := three_sets (r' := 4096) hk hat.bu 4096 y z rfl
            have hA := HA.out
            refine ⟨0, 4096, 4096, buf, d, 4096, 0, ?_, ⟨q2, hat.bf.keep q1 hA.ub.symm, hat.len, Nat.le_refl _, Nat.le_refl _, hat.src.keep q1 hA.us.symm hA.ud.symm, hat.kp.trans q1 (fun _ _ h => .inl h)⟩, ?_, ?_, ?_, ?_, ?_, Nat.le_refl _, fun _ => ⟨rfl, rfl⟩, fun h => by rw [hsl5] at h; cases h⟩
            · rw [hsl5]; simp [slErr, hlb]
            · rw [hsl5]; have := hat.len; simp
            · rw [hsl5]; simp
            · rw [hsl5]; simp only [hlb]
            · rw [hsl5]; simp only [hlb, List.drop_zero]
            · rw [hsl5]; simp only [hlb]; omega
          have HEND := Lib.hid hend2
          have f2 := ff 2
          have f5 := ff 5
          have f6 := ff 6
          have hbu : ¬ Bu = Bf := HA.out.ub
          have hbu' : ¬ Bf = Bu := fun e => HA.out.ub e.symm
          have hnq : ¬ 4096 = q := by omega
          clear hend2 hsl5 hlb hbs hsl hno2 hroom hk HK hq0 hf hat hseg hln hrest hno HA HZ HE HF0 HZF ff hx hx0
          unfold eofv at hcF HEND
          go_wp2
          go_quiet ((go_at_call 29; exact Calls.quiet_of_same (HI.out _)))
          clear HI
          go_wp2
          go_quiet ((go_at_call 31; exact HBF.out _ _))
          clear HBF
          go_wp2
          go_ret2
          exact HEND.out _ _ _ ((Keep.refl _ _).drewN _)
        by_cases hne : 4096 = r + q
        · obtain rfl : q = 0 := by omega
          obtain rfl : r = 4096 := by omega
          obtain rfl : n = 4096 := by omega
          have hbs : Bs wr (.slice (some ⟨Bf, 0, none⟩) 0 0) [] := ⟨some ⟨Bf, 0, none⟩, 0, rfl, Nat.le_refl _, by omega, (fun h => by cases h), fun h => absurd rfl h⟩
          have HI : Hid (∀ j, Calls Tryd.prog 29 #[.slice (some ⟨Bf, 0, none⟩) 0 0, .int .u8 10] (wr.drewN j) fun e w' => e = .returned (.int .i64 (-1)) ∧ w' = wr.drewN j) := fun j => by
            have := indexByte_bs (w := wr.drewN j) 10 10 rfl (hbs.keepS ((Keep.refl (fun _ => False) wr).drewN j) (fun _ _ => id))
            rw [show idxI [] 10 = -1 from rfl] at this
            exact this.mono (fun e w' h => ⟨h.1, h.2.symm⟩)
          have HBF : Hid (∀ i j, Calls Tryd.prog 31 #[.pointer (some ⟨Bu, 0, none⟩)] (wr.drewN (i + j)) fun e w' => e = .returned (.int .i64 0) ∧ ∃ m, w' = wr.drewN (i + m)) := fun i j => by
            refine (buffered_any (w := wr.drewN (i + j)) hat.bu hrn hn4).mono (fun e w' h => ⟨h.1, j + 1, h.2.symm⟩)
          have HF : Hid (∀ j, Calls Tryd.prog 32 #[.pointer (some ⟨Bu, 0, none⟩)] (wr.drewN j) fun e w' => e = .returned (.tuple #[]) ∧ ∃ gk', gk' < gk ∧ RsRel k ea Bu Bf s D rest w gk' (.int .i64 0) w') := fun j => by
            refine (fill_any (w := wr.drewN j) (HE.out.keep ((hat.kp).drewN j) (by rintro (h | h | h); exact HZ.out.1 h.symm; exact HZ.out.2.1 h.symm; exact HZ.out.2.2 h.symm)) HA.out hat.bu hat.bf hat.len hrn hn4 hroom (hat.src.keep ((Keep.refl (fun _ => False) wr).drewN j) id id) HZ.out.1 HZ.out.2.1).mono ?_
            rintro e w' ⟨rfl, buf', n', d', ev', q1, q2, q3, q4, q5, q6, q7, q8⟩
            exact ⟨rfl, rs_next hat hrest hno2 (HK.out) hroom q1 q2 q3 q4 q5 (((Keep.refl _ _).drewN j).trans q6 (fun _ _ h => h)) q7 q8 _ (by first | rfl | omega)⟩
          clear hbs hsl hno2 hroom hk HK hq0 hf hat hseg hln hrest hno HA HZ HE HF0 HZF ff
          go_wp2
          go_quiet ((go_at_call 29; exact Calls.quiet_of_same (HI.out _)))
          clear HI
          go_wp2
          go_quiet ((go_at_call 31; exact HBF.out _ _))
          clear HBF
          go_wp2
          go_quiet (fail)
          go_wp2_with fail
          refine (HF.out _).mono ?_
          rintro e w' ⟨rfl, gk', hgk, hnext⟩
          have HN := Lib.hid hnext
          clear hnext HF
          go_wp2
          go_roundg gk'
          case measure => exact hgk
          case rel => exact ⟨rfl, HN.out⟩
        · skip
          have hbs : Bs wr (.slice (some ⟨Bf, r + q, none⟩) (n - (r + q)) (4096 - (r + q))) ((buf.take n).drop (r + q)) :=
            hat.bf.bs (r + q) (n - (r + q)) (4096 - (r + q)) _ hsl.symm (by rw [List.drop_take]) (by omega) (by omega)
          have HI : Hid (∀ j, Calls Tryd.prog 29 #[.slice (some ⟨Bf, r + q, none⟩) (n - (r + q)) (4096 - (r + q)), .int .u8 10] (wr.drewN j) fun e w' => e = .returned (.int .i64 (-1)) ∧ w' = wr.drewN j) := fun j => by
            have := indexByte_bs (w := wr.drewN j) 10 10 rfl (hbs.keepS ((Keep.refl (fun _ => False) wr).drewN j) (fun _ _ => id))
            rw [show idxI ((buf.take n).drop (r + q)) 10 = -1 from by unfold idxI; rw [if_neg hf]] at this
            exact this.mono (fun e w' h => ⟨h.1, h.2.symm⟩)
          have HBF : Hid (∀ i j, Calls Tryd.prog 31 #[.pointer (some ⟨Bu, 0, none⟩)] (wr.drewN (i + j)) fun e w' => e = .returned (.int .i64 ((n : Int) - r)) ∧ ∃ m, w' = wr.drewN (i + m)) := fun i j => by
            refine (buffered_any (w := wr.drewN (i + j)) hat.bu hrn hn4).mono (fun e w' h => ⟨h.1, j + 1, h.2.symm⟩)
          have HF : Hid (∀ j, Calls Tryd.prog 32 #[.pointer (some ⟨Bu, 0, none⟩)] (wr.drewN j) fun e w' => e = .returned (.tuple #[]) ∧ ∃ gk', gk' < gk ∧ RsRel k ea Bu Bf s D rest w gk' (.int .i64 ((n : Int) - r)) w') := fun j => by
            refine (fill_any (w := wr.drewN j) (HE.out.keep ((hat.kp).drewN j) (by rintro (h | h | h); exact HZ.out.1 h.symm; exact HZ.out.2.1 h.symm; exact HZ.out.2.2 h.symm)) HA.out hat.bu hat.bf hat.len hrn hn4 hroom (hat.src.keep ((Keep.refl (fun _ => False) wr).drewN j) id id) HZ.out.1 HZ.out.2.1).mono ?_
            rintro e w' ⟨rfl, buf', n', d', ev', q1, q2, q3, q4, q5, q6, q7, q8⟩
            exact ⟨rfl, rs_next hat hrest hno2 (HK.out) hroom q1 q2 q3 q4 q5 (((Keep.refl _ _).drewN j).trans q6 (fun _ _ h => h)) q7 q8 _ (by first | rfl | omega)⟩
          have g3 : (n : Int) - r < 4096 := by omega
          have g4 : (r : Int) ≤ n := by omega
          clear hbs hsl hno2 hroom hk HK hq0 hf hat hseg hln hrest hno HA HZ HE HF0 HZF ff
          go_wp2
          go_quiet ((go_at_call 29; exact Calls.quiet_of_same (HI.out _)))
          clear HI
          go_wp2
          go_quiet ((go_at_call 31; exact HBF.out _ _))
          clear HBF
          go_wp2
          go_quiet (fail)
          go_wp2_with fail
          refine (HF.out _).mono ?_
          rintro e w' ⟨rfl, gk', hgk, hnext⟩
          have HN := Lib.hid hnext
          clear hnext HF
          go_wp2
          go_roundg gk'
          case measure => exact hgk
          case rel => exact ⟨rfl, HN.out⟩
      · skip
        have hbs : Bs wr (.slice (some ⟨Bf, q, none⟩) 0 (4096 - q)) [] := ⟨some ⟨Bf, q, none⟩, 4096 - q, rfl, Nat.zero_le _, by omega, (fun h => by cases h), fun h => absurd rfl h⟩
        have HI : Hid (∀ j, Calls Tryd.prog 29 #[.slice (some ⟨Bf, q, none⟩) 0 (4096 - q), .int .u8 10] (wr.drewN j) fun e w' => e = .returned (.int .i64 (-1)) ∧ w' = wr.drewN j) := fun j => by
          have := indexByte_bs (w := wr.drewN j) 10 10 rfl (hbs.keepS ((Keep.refl (fun _ => False) wr).drewN j) (fun _ _ => id))
          rw [show idxI [] 10 = -1 from rfl] at this
          exact this.mono (fun e w' h => ⟨h.1, h.2.symm⟩)
        have HRE : Hid (∀ j, Calls Tryd.prog 30 #[.pointer (some ⟨Bu, 0, none⟩)] ((wr.drewN j).setCell ⟨Bu, 2, none⟩ (.int .i64 q)) fun e w' => e = .returned (eofv ea) ∧ ((wr.drewN j).setCell ⟨Bu, 2, none⟩ (.int .i64 q)).setCell ⟨Bu, 4, none⟩ .nilIface = w') := fun j =>
          readErr_any (BuAt.setr (w := wr.drewN j) hat.bu q)
        have h2 := fun j => eof_sets (w0 := wr.drewN j) (r' := q) ((Keep.refl (fun _ => False) wr).drewN j) hat.bu q rfl
        have hend0 : ∀ j, RsPost k ea fa Bu Bf s D rest w (.returned (.tuple #[.slice (some ⟨Bf, 0, none⟩) q 4096, eofv ea])) (((wr.drewN j).setCell ⟨Bu, 2, none⟩ (.int .i64 q)).setCell ⟨Bu, 4, none⟩ .nilIface) := fun j =>
          rs_end HA.out hat hrest hno2 hn5 (h2 j).1 (h2 j).2
        have hend1 : ∀ j y, RsPost k ea fa Bu Bf s D rest w (.returned (.tuple #[.slice (some ⟨Bf, 0, none⟩) q 4096, eofv ea])) (((((wr.drewN j).setCell ⟨Bu, 2, none⟩ (.int .i64 q)).setCell ⟨Bu, 4, none⟩ .nilIface).setCell ⟨Bu, 5, none⟩ (.int .i64 y)).setCell ⟨Bu, 6, none⟩ (.int .i64 (-1))) := fun j y =>
          let h3 := last_sets (h2 j).1 (h2 j).2 y (-1)
          rs_end HA.out hat hrest hno2 hn5 h3.1 h3.2
        have hcl : 0 < q → ∃ x : Int, 0 ≤ x ∧ x ≤ 255 ∧ wr.cell? ⟨Bf, q - 1, none⟩ = some (.int .u8 x) := by
          intro hp
          have := (buf.getD (q - 1) 0).toNat_lt
          exact ⟨_, by omega, by omega, hat.bf.cell (q - 1) (by have := hat.len; omega)⟩
        have hbu : ¬ Bu = Bf := HA.out.ub
        have hbu' : ¬ Bf = Bu := fun e => HA.out.ub e.symm
        have HE0 := Lib.hid hend0
        have HE1 := Lib.hid hend1
        have HCL := Lib.hid hcl
        have f2 := ff 2
        have f5 := ff 5
        have f6 := ff 6
        have hn0 : ¬ 4096 = q := by omega
        clear hbs h2 hend0 hend1 hcl hsl hno2 hk hf hat hseg hln hrest hno HA HZ HE HF0 HZF ff hi4 hi6 hq hrn
        unfold eofv at c4 HRE HE0 HE1
        go_wp2
        go_quiet ((go_at_call 29; exact Calls.quiet_of_same (HI.out _)))
        clear HI
        go_wp2
        go_quiet (fail)
        rcases Nat.eq_zero_or_pos q with hq0 | hq0
        · subst hq0
          go_wp2_with fail
          refine (HRE.out _).mono ?_
          rintro e w' ⟨rfl, rfl⟩
          go_wp2
          go_ret2
          exact HE0.out _
        · obtain ⟨x, hx0, hx1, hcx⟩ := HCL.out hq0
          have hq1 : (1 : Int) ≤ q := by omega
          have hq2 : 1 ≤ q := hq0
          go_wp2_with fail
          refine (HRE.out _).mono ?_
          rintro e w' ⟨rfl, rfl⟩
          go_wp2
          go_ret2
          exact HE1.out _ _
end Go.Proofs.YtcbolmendjocbaaDoor

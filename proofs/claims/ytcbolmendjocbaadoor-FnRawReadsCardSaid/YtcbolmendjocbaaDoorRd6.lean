/- The walk of (*bufio.Reader).fill. -/
import Derived.Test.YtcbolmendjocbaaDoorRd5
import Derived.LoopN
namespace Go.Proofs.YtcbolmendjocbaaDoor
open Go.RowKit Qp

def rdv (k : Bool) (s : Nat) : Value := .iface (rdT k) (.pointer (some ⟨s, 0, none⟩))

theorem src_read {k : Bool} {w : World} {ea : Addr} {s D Bf off m mc : Nat} {buf d : List UInt8} (hE : EofAt w ea) (h : SrcAt k w s D d) (hbf : RowB w Bf buf) (hm : 1 ≤ m) (hfit : off + m ≤ buf.length) (hmc : m ≤ mc) (hmm : mc ≤ 9223372036854775807)
    (n1 : Bf ≠ s) (n2 : Bf ≠ D) (n3 : s ≠ D) :
    Calls Tryd.prog (rdF k) #[.pointer (some ⟨s, 0, none⟩), .slice (some ⟨Bf, off, none⟩) m mc] w (SrcPost k ea s D Bf off m buf d w) := by
  by_cases hd : d = []
  · cases k with
    | false => exact bread_end hE h hd
    | true => exact False.elim h
  · cases k with
    | false => exact bread_more h hd hbf hm hfit hmc hmm n1 n2 n3
    | true => exact False.elim h

/-- blocks that are not the same -/
structure Apart (Bu Bf s D : Nat) : Prop where
  ub : Bu ≠ Bf
  us : Bu ≠ s
  ud : Bu ≠ D
  bs : Bf ≠ s
  bd : Bf ≠ D
  sd : s ≠ D

/-- what fill leaves -/
def FillPost (k : Bool) (ea : Addr) (Bu Bf s D r n : Nat) (buf d : List UInt8) (w : World) (e : Ending) (w' : World) : Prop :=
  e = .returned (.tuple #[]) ∧ ∃ buf' n' d' ev', BuAt w' Bu Bf (rdv k s) 0 n' ev' ∧ RowB w' Bf buf' ∧ buf'.length = 4096 ∧ n' ≤ 4096 ∧ SrcAt k w' s D d' ∧ Keep (fun b => b = Bu ∨ b = Bf ∨ b = s) w w' ∧
    ((d = [] ∧ ev' = eofv ea ∧ d' = [] ∧ n' = n - r) ∨ (d ≠ [] ∧ ev' = .nilIface ∧ n - r < n' ∧ d' = d.drop (n' - (n - r)))) ∧
    buf'.take n' = (buf.take n).drop r ++ d.take (n' - (n - r))

theorem splice_len (l : List UInt8) (off : Nat) (cs : List UInt8) (h : off + cs.length ≤ l.length) : (splice l off cs).length = l.length := length_splice l off cs h
theorem splice_take (l : List UInt8) (off : Nat) (cs : List UInt8) (h : off + cs.length ≤ l.length) : (splice l off cs).take (off + cs.length) = l.take off ++ cs := by
  unfold splice
  rw [← List.append_assoc, List.take_left' (by simp; omega)]

/-- the underlying reader has been read -/
def FillMid (k : Bool) (ea : Addr) (Bu Bf s D n : Nat) (buf d : List UInt8) (w : World) (e : Ending) (w1 : World) : Prop :=
  (e = .returned (.tuple #[.int .i64 0, eofv ea]) ∧ BuAt w1 Bu Bf (rdv k s) 0 n .nilIface ∧ FillPost k ea Bu Bf s D 0 n buf d w (.returned (.tuple #[])) ((w1.setCell ⟨Bu, 3, none⟩ (.int .i64 n)).setCell ⟨Bu, 4, none⟩ (eofv ea))) ∨
    ∃ j, 1 ≤ j ∧ n + j ≤ 4096 ∧ e = .returned (.tuple #[.int .i64 j, .nilIface]) ∧ BuAt w1 Bu Bf (rdv k s) 0 n .nilIface ∧ FillPost k ea Bu Bf s D 0 n buf d w (.returned (.tuple #[])) (w1.setCell ⟨Bu, 3, none⟩ (.int .i64 (n + j)))

theorem EofAt.keep {S : Nat → Prop} {w w' : World} {ea : Addr} (h : EofAt w ea) (hk : Keep S w w') (hz : ¬ S 0) : EofAt w' ea := hk.cell (p := ⟨0, 0, none⟩) hz h

theorem FillMid.one {k : Bool} {ea : Addr} {Bu Bf s D n : Nat} {buf d : List UInt8} {w w1 : World} {e : Ending} (h : FillMid k ea Bu Bf s D n buf d w e w1) :
    ∃ x v, e = .returned (.tuple #[.int .i64 x, v]) ∧ BuAt w1 Bu Bf (rdv k s) 0 n .nilIface ∧
      ((x = 0 ∧ v = eofv ea ∧ FillPost k ea Bu Bf s D 0 n buf d w (.returned (.tuple #[])) ((w1.setCell ⟨Bu, 3, none⟩ (.int .i64 n)).setCell ⟨Bu, 4, none⟩ (eofv ea))) ∨
        ∃ j : Nat, 1 ≤ j ∧ n + j ≤ 4096 ∧ x = j ∧ v = .nilIface ∧ FillPost k ea Bu Bf s D 0 n buf d w (.returned (.tuple #[])) (w1.setCell ⟨Bu, 3, none⟩ (.int .i64 (n + j)))) := by
  rcases h with ⟨rfl, h1, h2⟩ | ⟨j, h1, h2, rfl, h3, h4⟩
  · exact ⟨_, _, rfl, h1, .inl ⟨rfl, rfl, h2⟩⟩
  · exact ⟨_, _, rfl, h3, .inr ⟨j, h1, h2, rfl, rfl, h4⟩⟩

/-- fill, behind its slide -/
theorem fill_end {k : Bool} {ea : Addr} {Bu Bf s D n : Nat} {buf d : List UInt8} {w w0 w1 : World} {e : Ending} (ha : Apart Bu Bf s D) (hb : BuAt w0 Bu Bf (rdv k s) 0 n .nilIface) (hbf : RowB w0 Bf buf) (hl : buf.length = 4096) (hn : n < 4096)
    (hk0 : Keep (fun b => b = Bu ∨ b = Bf ∨ b = s) w w0) (hs : SrcPost k ea s D Bf n (4096 - n) buf d w0 e w1) : FillMid k ea Bu Bf s D n buf d w e w1 := by
  rcases hs with ⟨rfl, rfl, h1, h2⟩ | ⟨j, hd, hj1, hj2, hj3, rfl, h1, h2, h3⟩
  · left
    have hb1 := hb.keep h2 id
    refine ⟨rfl, hb1, rfl, buf, n, [], eofv ea, (hb1.setn n).sete _, ?_, hl, by omega, ?_, ?_, .inl ⟨rfl, rfl, rfl, rfl⟩, by simp⟩
    · refine (Below.heap_setCell _ _ _ _ ha.ub.symm).trans ((Below.heap_setCell _ _ _ _ ha.ub.symm).trans (hbf.keep h2 id))
    · have hk : Keep (fun b => b = Bu) w1 ((w1.setCell ⟨Bu, 3, none⟩ (.int .i64 n)).setCell ⟨Bu, 4, none⟩ (eofv ea)) := ((Keep.refl (fun b => b = Bu) w1).setCell _ rfl _).setCell _ rfl _
      exact h1.keep hk (Ne.symm ha.us) (Ne.symm ha.ud)
    · exact ((hk0.trans h2 (fun _ _ h => h.elim)).setCell _ (.inl rfl) _).setCell _ (.inl rfl) _
  · right
    have hb1 := hb.keep h3 (by rintro (h | h); exact ha.us h; exact ha.ub h)
    have hdl : (d.take j).length = j := by simp; omega
    refine ⟨j, hj1, by omega, rfl, hb1, rfl, splice buf n (d.take j), n + j, d.drop j, .nilIface, (by have := hb1.setn (n + j); simpa using this), ?_, ?_, by omega, ?_, ?_, .inr ⟨hd, rfl, by omega, by rw [show n + j - (n - 0) = j by omega]⟩, ?_⟩
    · exact (Below.heap_setCell _ _ _ _ ha.ub.symm).trans h1
    · rw [splice_len _ _ _ (by omega), hl]
    · have hk : Keep (fun b => b = Bu) w1 (w1.setCell ⟨Bu, 3, none⟩ (.int .i64 (n + j))) := (Keep.refl (fun b => b = Bu) w1).setCell _ rfl _
      exact h2.keep hk (Ne.symm ha.us) (Ne.symm ha.ud)
    · refine (hk0.trans h3 (fun _ _ h => ?_)).setCell _ (.inl rfl) _
      rcases h with h | h
      · exact .inr (.inr h)
      · exact .inr (.inl h)
    · have := splice_take buf n (d.take j) (by omega)
      rw [hdl] at this
      rw [this, show n + j - (n - 0) = j by omega]
      simp

set_option maxRecDepth 100000 in
set_option maxHeartbeats 3200000 in
theorem fill_r0_false {w : World} {ea : Addr} {Bu Bf s D n : Nat} {buf d : List UInt8} (hE : EofAt w ea) (ha : Apart Bu Bf s D) (hb : BuAt w Bu Bf (rdv false s) 0 n .nilIface) (hbf : RowB w Bf buf) (hl : buf.length = 4096) (hn : n < 4096) (hs : SrcAt false w s D d) :
    Calls Tryd.prog 32 #[.pointer (some ⟨Bu, 0, none⟩)] w (FillPost false ea Bu Bf s D 0 n buf d w) := by
  obtain ⟨c0, c1, c2, c3, c4, -, -, f⟩ := hb.at
  have f3 := f 3
  have hn0 : ¬ 4096 = n := by omega
  have g1 : (n : Int) < 4096 := by omega
  have hn4 : n ≤ 4096 := by omega
  have g2 : (n : Int) ≤ 4096 := by omega
  have g0 : (0 : Int) ≤ n := by omega
  have hcall : ∀ w0, Keep (fun _ => False) w w0 → Calls Tryd.prog 63 #[.pointer (some ⟨s, 0, none⟩), .slice (some ⟨Bf, n, none⟩) (4096 - n) (4096 - n)] w0 (FillMid false ea Bu Bf s D n buf d w) := fun w0 hk =>
    (src_read (hE.keep hk id) (hs.keep hk id id) (hbf.keep hk id) (by omega) (by omega) (Nat.le_refl _) (by omega) ha.bs ha.bd ha.sd).mono fun e w1 hp =>
      fill_end ha (hb.keep hk id) (hbf.keep hk id) hl hn (hk.mono (fun _ _ h => h.elim)) hp
  have HC := Lib.hid hcall
  clear f hE ha hb hbf hl hs hcall
  unfold rdv rdT at c1
  go_enter Tryd.func32, Tryd.ntmps32
  go_wp2
  go_region
  go_wp2
  refine wp_loop_rounds 1 ?_
  rw [rounds_succ]
  go_wp2
  go_region_held3 (fun w' => w'.cell? ⟨Bu, 1, none⟩ = some (.iface 43 (.pointer (some ⟨s, 0, none⟩))) ∧ w'.cell? ⟨Bu, 0, none⟩ = some (.slice (some ⟨Bf, 0, none⟩) 4096 4096) ∧ w'.cell? ⟨Bu, 3, none⟩ = some (.int .i64 n)) (first | exact ⟨d1, d0, d3⟩ | exact ⟨c1, c0, c3⟩ | go_keep)
    ((go_at_call 63
      refine (HC.out _ (by repeat (first | exact Keep.refl _ _ | apply Keep.drew))).mono ?_
      rintro e w2 hmid
      obtain ⟨x, v, rfl, hb2, hmid⟩ := hmid.one
      obtain ⟨d0, d1, d2, d3, d4, -, -, ff⟩ := hb2.at
      have HM := Lib.hid hmid
      have ff3 := ff 3
      have ff4 := ff 4
      unfold rdv rdT at d1
      clear ff hmid hb2))
  rcases HM.out with ⟨rfl, rfl, hf2⟩ | ⟨j, hj1, hj2, rfl, rfl, hf2⟩
  · have HF := Lib.hid hf2
    clear hf2 HM
    unfold eofv at HF ⊢
    go_wp2
    go_end0
    exact HF.out
  · have HF := Lib.hid hf2
    clear hf2 HM
    go_wp2
    go_end0
    exact HF.out

theorem fill_r0_true {w : World} {ea : Addr} {Bu Bf s D n : Nat} {buf d : List UInt8} (hE : EofAt w ea) (ha : Apart Bu Bf s D) (hb : BuAt w Bu Bf (rdv true s) 0 n .nilIface) (hbf : RowB w Bf buf) (hl : buf.length = 4096) (hn : n < 4096) (hs : SrcAt true w s D d) :
    Calls Tryd.prog 32 #[.pointer (some ⟨Bu, 0, none⟩)] w (FillPost true ea Bu Bf s D 0 n buf d w) := False.elim ((fun _ _ _ _ _ _ => hs) hE ha hb hbf hl hn)
end Go.Proofs.YtcbolmendjocbaaDoor

/- The walk of (*bufio.Reader).fill where it slides. -/
import Derived.Test.YtcbolmendjocbaaDoorRd6
import Derived.StillTailTactics
namespace Go.Proofs.YtcbolmendjocbaaDoor
open Go.RowKit Qp

/-- 'copy' into a block of bytes; the world behind it under a name of its own -/
theorem wpList_copy_row {P : Program} {ops : Array Oper} {rest : List Oper} {o : Oper} {a : Act} {w : World} {Q : Exit → Act → World → Prop} (hgd : o.guard = none) (d s : Operand) (dT sT : TypeId)
    (ho : o.op = .call { callee := .builtin .copy, args := #[d, s], argTypes := #[dT, sT] }) (elem : TypeId) (hu : P.underlying dT = some (.slice elem)) (hsz : (P.info? elem).map (·.size) = some 1)
    (g off dLen dCap : Nat) (ad : Addr) (sLen sCap : Nat) (hd : a.eval d = .slice (some ⟨g, off, none⟩) dLen dCap) (hs : a.eval s = .slice (some ad) sLen sCap)
    (cur : List Value) (t : TypeId) (hg : w.heap[g]? = some (.cells cur.toArray t (0, 0))) (cs : List Value) (n : Nat) (hn : cs.length = n) (hmin : n = Nat.min sLen dLen)
    (hsrc : ∀ j v, cs[j]? = some v → w.cell? (ad.add j) = some v)
    (hfit : off + n ≤ cur.length) (h1 : ∀ v ∈ cs, v.oneCell' = true)
    (h : ∀ w', w'.heap[g]? = some (.cells (splice cur off cs).toArray t (0, 0)) → Keep (fun k => k = g) w w' → wpList P ops Q rest (a.put o.dst (.int .i64 n)) w') :
    wpList P ops Q (o :: rest) a w := by
  subst hn
  refine wpList_copy_own hgd d s dT sT ho elem hu hsz g off dLen dCap ad sLen sCap hd hs cur.toArray t hg cs hmin hsrc (by simpa using hfit) h1 ?_
  exact h _ (show _ = _ by simpa [splice] using setRow_heap w g _ _ t _ hg) ((Keep.refl (fun k => k = g) w).row g (.inl rfl) _)

/-- fill behind its slide: what it leaves, of what was there ahead of the slide -/
theorem FillPost.slid {k : Bool} {ea : Addr} {Bu Bf s D r n m : Nat} {buf buf1 d : List UInt8} {w w0 w' : World} {e : Ending} (h : FillPost k ea Bu Bf s D 0 m buf1 d w0 e w') (hm : m = n - r) (hb : buf1.take m = (buf.take n).drop r)
    (hk : Keep (fun b => b = Bu ∨ b = Bf ∨ b = s) w w0) : FillPost k ea Bu Bf s D r n buf d w e w' := by
  subst hm
  obtain ⟨rfl, buf', n', d', ev', h1, h2, h3, h4, h5, h6, h7, h8⟩ := h
  refine ⟨rfl, buf', n', d', ev', h1, h2, h3, h4, h5, hk.trans h6 (fun _ _ h => h), by simpa using h7, ?_⟩
  rw [h8, List.drop_zero, hb, Nat.sub_zero]

set_option maxRecDepth 100000 in
set_option maxHeartbeats 6400000 in
theorem fill_full_false {w : World} {ea : Addr} {Bu Bf s D r n : Nat} {buf d : List UInt8} (hE : EofAt w ea) (ha : Apart Bu Bf s D) (hb : BuAt w Bu Bf (rdv false s) r n .nilIface) (hbf : RowB w Bf buf) (hl : buf.length = 4096) (hr : 0 < r) (hrn : r ≤ n) (hn : n ≤ 4096) (hs : SrcAt false w s D d)
    (hz1 : Bu ≠ 0) (hz2 : Bf ≠ 0) (hr4 : 4096 = r) :
    Calls Tryd.prog 32 #[.pointer (some ⟨Bu, 0, none⟩)] w (FillPost false ea Bu Bf s D r n buf d w) := by
  obtain rfl : n = 4096 := by omega
  subst hr4
  obtain ⟨c0, c1, c2, c3, c4, -, -, f⟩ := hb.at
  have f2 := f 2
  have f3 := f 3
  have hcsl : (Lib.byteCells ((buf.take 4096).drop 4096)).length = 4096 - 4096 := by simp [Lib.byteCells]; try omega
  have HK : Hid (4096 - 4096 = Nat.min (4096 - 4096) 4096) := by show _ = min _ _; omega
  have hsrc : ∀ j u, (Lib.byteCells ((buf.take 4096).drop 4096))[j]? = some u → w.cell? ((⟨Bf, 0, none⟩ : Addr).add j) = some u := by
    intro j u hj
    have hj' : j < 4096 - 4096 := by
      have := (List.getElem?_eq_some_iff.1 hj).1
      omega
    omega
  have HSRC := Lib.hid hsrc
  have HCSL := Lib.hid hcsl
  have hone : ∀ v ∈ Lib.byteCells ((buf.take 4096).drop 4096), v.oneCell' = true := Lib.byteCells_one _
  obtain ⟨cs, hcs⟩ : ∃ cs, cs = Lib.byteCells ((buf.take 4096).drop 4096) := ⟨_, rfl⟩
  rw [← hcs] at HSRC HCSL hone
  have HBF := Lib.hid hbf
  -- what stands behind the slide
  have hbuf1 : (splice buf 0 ((buf.take 4096).drop 4096)).length = 4096 ∧ (splice buf 0 ((buf.take 4096).drop 4096)).take (4096 - 4096) = (buf.take 4096).drop 4096 := by
    have h1 : ((buf.take 4096).drop 4096).length = 4096 - 4096 := by simp; try omega
    refine ⟨by rw [splice_len _ _ _ (by omega), hl], ?_⟩
    have := splice_take buf 0 ((buf.take 4096).drop 4096) (by omega)
    rw [h1, Nat.zero_add] at this
    rw [this]; rfl
  have hmid : ∀ w4 w5 : World, w4.heap[Bf]? = some (.cells (splice (Lib.byteCells buf) 0 cs).toArray 5 (0, 0)) → Keep (fun b => b = Bf) w w4 → w5 = ((w4.setCell ⟨Bu, 3, none⟩ (.int .i64 (((4096 : Nat) : Int) - ((4096 : Nat) : Int)))).setCell ⟨Bu, 2, none⟩ (.int .i64 0)).drew →
      BuAt w5 Bu Bf (rdv false s) 0 (4096 - 4096) .nilIface ∧ (∀ w0, Keep (fun _ => False) w5 w0 → Calls Tryd.prog 63 #[.pointer (some ⟨s, 0, none⟩), .slice (some ⟨Bf, 4096 - 4096, none⟩) (4096 - (4096 - 4096)) (4096 - (4096 - 4096))] w0 (FillMid false ea Bu Bf s D (4096 - 4096) (splice buf 0 ((buf.take 4096).drop 4096)) d w5)) ∧ Keep (fun b => b = Bu ∨ b = Bf ∨ b = s) w w5 := by
    intro w4 w5 q1 q2 q3
    have e : (((4096 : Nat) : Int) - ((4096 : Nat) : Int)) = ((4096 - 4096 : Nat) : Int) := by omega
    have b5 : BuAt w5 Bu Bf (rdv false s) 0 (4096 - 4096) .nilIface := by
      rw [q3, e]
      exact ((hb.keep q2 ha.ub).setn (4096 - 4096)).setr 0
    have k5 : Keep (fun b => b = Bu ∨ b = Bf) w w5 := by
      rw [q3]
      exact ((((q2.mono (fun _ _ h => .inr h)).setCell _ (.inl rfl) _)).setCell _ (.inl rfl) _).drew
    have r5 : RowB w5 Bf (splice buf 0 ((buf.take 4096).drop 4096)) := by
      rw [q3]
      refine (Below.heap_setCell _ _ _ _ ha.ub.symm).trans ((Below.heap_setCell _ _ _ _ ha.ub.symm).trans ?_)
      rw [q1, hcs, byteCells_splice]
    refine ⟨b5, fun w0 hk => (src_read ((hE.keep k5 (by rintro (h | h); exact hz1 h.symm; exact hz2 h.symm)).keep hk id) ((hs.keep k5 (by rintro (h | h); exact ha.us h.symm; exact ha.bs h.symm) (by rintro (h | h); exact ha.ud h.symm; exact ha.bd h.symm)).keep hk id id) (r5.keep hk id) (by omega) (by omega) (Nat.le_refl _) (by omega) ha.bs ha.bd ha.sd).mono fun e w1 hp =>
      fill_end ha (b5.keep hk id) (r5.keep hk id) hbuf1.1 (by omega) (hk.mono (fun _ _ h => h.elim)) hp, k5.mono (fun _ _ h => h.elim .inl (fun h => .inr (.inl h)))⟩
  have HMID := Lib.hid hmid
  have HB1 := Lib.hid hbuf1
  have hl1 : 0 + (4096 - 4096) ≤ (Lib.byteCells buf).length := by simp [Lib.byteCells, hl]; try omega
  have HBU := Lib.hid (fun (w4 : World) (q : Keep (fun b => b = Bf) w w4) => (hb.keep q ha.ub).at)
  clear f hE ha hb hbf hl hs hcs hcsl hsrc hmid hbuf1 hz1 hz2
  go_enter Tryd.func32, Tryd.ntmps32
  go_wp2
  go_still_tail 17, (by kernel_rfl)
  refine wpList_copy_row rfl (.tmp 13) (.tmp 26) 22 22 rfl 5 Tryd.underlying22 info5b Bf 0 4096 4096 ⟨Bf, 0, none⟩ 0 0 rfl rfl (Lib.byteCells buf) 5 HBF.out cs 0 HCSL.out HK.out HSRC.out hl1 hone ?_
  intro w4 hg4 hk4
  have hk4' : Keep (fun b => b = Bf) w w4 := ((Keep.refl (fun b => b = Bf) w).drew).trans hk4 (fun _ _ h => h)
  obtain ⟨d0, d1, d2, d3, -, -, -, ff⟩ := HBU.out w4 hk4'
  have ff2 := ff 2
  have ff3 := ff 3
  have HG4 := Lib.hid hg4
  have HK4 := Lib.hid hk4'
  clear ff hg4 hk4 hk4' c0 c1 c2 c3 c4 f2 f3
  go_wp2
  go_simp
  go_region
  go_wp2
  obtain ⟨w5, hw5⟩ : ∃ w5, w5 = ((w4.setCell ⟨Bu, 3, none⟩ (.int .i64 0)).setCell ⟨Bu, 2, none⟩ (.int .i64 0)).drew := ⟨_, rfl⟩
  rw [← hw5]
  obtain ⟨b5, h5, k5⟩ := HMID.out w4 w5 HG4.out HK4.out (by rw [hw5]; rfl)
  clear d0 d1 d2 d3 ff2 ff3 hw5 HBU
  obtain ⟨m, hm⟩ : ∃ m, m = 4096 - 4096 := ⟨_, rfl⟩
  have hb12 := HB1.out.2
  rw [← hm] at b5 h5 hb12
  have HB12 := Lib.hid hb12
  clear hb12
  have hm4 : m ≤ 4096 := by omega
  have q0 : (0 : Int) ≤ m := by omega
  have q1 : (m : Int) ≤ 4096 := by omega
  have q2 : (m : Int) < 4096 := by omega
  have q3 : m < 4096 := by omega
  have q4 : ¬ 4096 = m := by omega
  obtain ⟨c0, c1, c2, c3, c4, -, -, ff⟩ := b5.at
  have f3 := ff 3
  have HC := Lib.hid h5
  have HK5 := Lib.hid k5
  have HMR := Lib.hid hm
  clear ff b5 h5 k5 hm
  unfold rdv rdT at c1
  go_region
  go_wp2
  refine wp_loop_rounds 1 ?_
  rw [rounds_succ]
  go_wp2
  go_region_held3 (fun w' => w'.cell? ⟨Bu, 1, none⟩ = some (.iface 43 (.pointer (some ⟨s, 0, none⟩))) ∧ w'.cell? ⟨Bu, 0, none⟩ = some (.slice (some ⟨Bf, 0, none⟩) 4096 4096) ∧ w'.cell? ⟨Bu, 3, none⟩ = some (.int .i64 m)) (first | exact ⟨e1, e0, e3⟩ | exact ⟨c1, c0, c3⟩ | go_keep)
    ((go_at_call 63
      refine (HC.out _ (by repeat (first | exact Keep.refl _ _ | apply Keep.drew))).mono ?_
      rintro e w2 hmid
      obtain ⟨x, v, rfl, hb2, hmid⟩ := hmid.one
      obtain ⟨e0, e1, e2, e3, e4, -, -, ff⟩ := hb2.at
      have HM := Lib.hid hmid
      have ee3 := ff 3
      have ee4 := ff 4
      unfold rdv rdT at e1
      clear ff hmid hb2))
  rcases HM.out with ⟨rfl, rfl, hf2⟩ | ⟨j, hj1, hj2, rfl, rfl, hf2⟩
  · have HF := Lib.hid (hf2.slid HMR.out HB12.out HK5.out)
    clear hf2
    unfold eofv at HF ⊢
    go_wp2
    go_end0
    exact HF.out
  · have HF := Lib.hid (hf2.slid HMR.out HB12.out HK5.out)
    clear hf2
    go_wp2
    go_end0
    exact HF.out

set_option maxRecDepth 100000 in
set_option maxHeartbeats 6400000 in
theorem fill_part_false {w : World} {ea : Addr} {Bu Bf s D r n : Nat} {buf d : List UInt8} (hE : EofAt w ea) (ha : Apart Bu Bf s D) (hb : BuAt w Bu Bf (rdv false s) r n .nilIface) (hbf : RowB w Bf buf) (hl : buf.length = 4096) (hr : 0 < r) (hrn : r ≤ n) (hn : n ≤ 4096) (hs : SrcAt false w s D d)
    (hz1 : Bu ≠ 0) (hz2 : Bf ≠ 0) (hr4 : ¬ 4096 = r) :
    Calls Tryd.prog 32 #[.pointer (some ⟨Bu, 0, none⟩)] w (FillPost false ea Bu Bf s D r n buf d w) := by
  obtain ⟨c0, c1, c2, c3, c4, -, -, f⟩ := hb.at
  have f2 := f 2
  have f3 := f 3
  have hcsl : (Lib.byteCells ((buf.take n).drop r)).length = n - r := by simp [Lib.byteCells]; try omega
  have HK : Hid (n - r = Nat.min (n - r) 4096) := by show _ = min _ _; omega
  have hsrc : ∀ j u, (Lib.byteCells ((buf.take n).drop r))[j]? = some u → w.cell? ((⟨Bf, r, none⟩ : Addr).add j) = some u := by
    intro j u hj
    have hj' : j < n - r := by
      have := (List.getElem?_eq_some_iff.1 hj).1
      omega
    rw [Lib.addr_add]
    show w.cell? ⟨Bf, r + j, none⟩ = _
    rw [hbf.cell (r + j) (by omega), ← hj]
    simp [Lib.byteCells, show r + j < n by omega, show r + j < buf.length by omega]
  have HSRC := Lib.hid hsrc
  have HCSL := Lib.hid hcsl
  have hone : ∀ v ∈ Lib.byteCells ((buf.take n).drop r), v.oneCell' = true := Lib.byteCells_one _
  obtain ⟨cs, hcs⟩ : ∃ cs, cs = Lib.byteCells ((buf.take n).drop r) := ⟨_, rfl⟩
  rw [← hcs] at HSRC HCSL hone
  have HBF := Lib.hid hbf
  -- what stands behind the slide
  have hbuf1 : (splice buf 0 ((buf.take n).drop r)).length = 4096 ∧ (splice buf 0 ((buf.take n).drop r)).take (n - r) = (buf.take n).drop r := by
    have h1 : ((buf.take n).drop r).length = n - r := by simp; try omega
    refine ⟨by rw [splice_len _ _ _ (by omega), hl], ?_⟩
    have := splice_take buf 0 ((buf.take n).drop r) (by omega)
    rw [h1, Nat.zero_add] at this
    rw [this]; rfl
  have hmid : ∀ w4 w5 : World, w4.heap[Bf]? = some (.cells (splice (Lib.byteCells buf) 0 cs).toArray 5 (0, 0)) → Keep (fun b => b = Bf) w w4 → w5 = ((w4.setCell ⟨Bu, 3, none⟩ (.int .i64 (((n : Nat) : Int) - ((r : Nat) : Int)))).setCell ⟨Bu, 2, none⟩ (.int .i64 0)).drew →
      BuAt w5 Bu Bf (rdv false s) 0 (n - r) .nilIface ∧ (∀ w0, Keep (fun _ => False) w5 w0 → Calls Tryd.prog 63 #[.pointer (some ⟨s, 0, none⟩), .slice (some ⟨Bf, n - r, none⟩) (4096 - (n - r)) (4096 - (n - r))] w0 (FillMid false ea Bu Bf s D (n - r) (splice buf 0 ((buf.take n).drop r)) d w5)) ∧ Keep (fun b => b = Bu ∨ b = Bf ∨ b = s) w w5 := by
    intro w4 w5 q1 q2 q3
    have e : (((n : Nat) : Int) - ((r : Nat) : Int)) = ((n - r : Nat) : Int) := by omega
    have b5 : BuAt w5 Bu Bf (rdv false s) 0 (n - r) .nilIface := by
      rw [q3, e]
      exact ((hb.keep q2 ha.ub).setn (n - r)).setr 0
    have k5 : Keep (fun b => b = Bu ∨ b = Bf) w w5 := by
      rw [q3]
      exact ((((q2.mono (fun _ _ h => .inr h)).setCell _ (.inl rfl) _)).setCell _ (.inl rfl) _).drew
    have r5 : RowB w5 Bf (splice buf 0 ((buf.take n).drop r)) := by
      rw [q3]
      refine (Below.heap_setCell _ _ _ _ ha.ub.symm).trans ((Below.heap_setCell _ _ _ _ ha.ub.symm).trans ?_)
      rw [q1, hcs, byteCells_splice]
    refine ⟨b5, fun w0 hk => (src_read ((hE.keep k5 (by rintro (h | h); exact hz1 h.symm; exact hz2 h.symm)).keep hk id) ((hs.keep k5 (by rintro (h | h); exact ha.us h.symm; exact ha.bs h.symm) (by rintro (h | h); exact ha.ud h.symm; exact ha.bd h.symm)).keep hk id id) (r5.keep hk id) (by omega) (by omega) (Nat.le_refl _) (by omega) ha.bs ha.bd ha.sd).mono fun e w1 hp =>
      fill_end ha (b5.keep hk id) (r5.keep hk id) hbuf1.1 (by omega) (hk.mono (fun _ _ h => h.elim)) hp, k5.mono (fun _ _ h => h.elim .inl (fun h => .inr (.inl h)))⟩
  have HMID := Lib.hid hmid
  have HB1 := Lib.hid hbuf1
  have g0 : (0 : Int) < r := by omega
  have g1 : (r : Int) ≤ n := by omega
  have g2 : (n : Int) ≤ 4096 := by omega
  have hl1 : 0 + (n - r) ≤ (Lib.byteCells buf).length := by simp [Lib.byteCells, hl]; try omega
  have HBU := Lib.hid (fun (w4 : World) (q : Keep (fun b => b = Bf) w w4) => (hb.keep q ha.ub).at)
  clear f hE ha hb hbf hl hs hcs hcsl hsrc hmid hbuf1 hz1 hz2
  go_enter Tryd.func32, Tryd.ntmps32
  go_wp2
  go_still_tail 17, (by kernel_rfl)
  refine wpList_copy_row rfl (.tmp 13) (.tmp 26) 22 22 rfl 5 Tryd.underlying22 info5b Bf 0 4096 4096 ⟨Bf, r, none⟩ (n - r) (4096 - r) rfl rfl (Lib.byteCells buf) 5 HBF.out cs (n - r) HCSL.out HK.out HSRC.out hl1 hone ?_
  intro w4 hg4 hk4
  have hk4' : Keep (fun b => b = Bf) w w4 := ((Keep.refl (fun b => b = Bf) w).drew).trans hk4 (fun _ _ h => h)
  obtain ⟨d0, d1, d2, d3, -, -, -, ff⟩ := HBU.out w4 hk4'
  have ff2 := ff 2
  have ff3 := ff 3
  have HG4 := Lib.hid hg4
  have HK4 := Lib.hid hk4'
  clear ff hg4 hk4 hk4' c0 c1 c2 c3 c4 f2 f3
  go_wp2
  go_simp
  go_region
  go_wp2
  obtain ⟨w5, hw5⟩ : ∃ w5, w5 = ((w4.setCell ⟨Bu, 3, none⟩ (.int .i64 ((n : Int) - r))).setCell ⟨Bu, 2, none⟩ (.int .i64 0)).drew := ⟨_, rfl⟩
  rw [← hw5]
  obtain ⟨b5, h5, k5⟩ := HMID.out w4 w5 HG4.out HK4.out hw5
  clear d0 d1 d2 d3 ff2 ff3 hw5 HBU
  obtain ⟨m, hm⟩ : ∃ m, m = n - r := ⟨_, rfl⟩
  have hb12 := HB1.out.2
  rw [← hm] at b5 h5 hb12
  have HB12 := Lib.hid hb12
  clear hb12
  have hm4 : m ≤ 4096 := by omega
  have q0 : (0 : Int) ≤ m := by omega
  have q1 : (m : Int) ≤ 4096 := by omega
  have q2 : (m : Int) < 4096 := by omega
  have q3 : m < 4096 := by omega
  have q4 : ¬ 4096 = m := by omega
  obtain ⟨c0, c1, c2, c3, c4, -, -, ff⟩ := b5.at
  have f3 := ff 3
  have HC := Lib.hid h5
  have HK5 := Lib.hid k5
  have HMR := Lib.hid hm
  clear ff b5 h5 k5 hm
  unfold rdv rdT at c1
  go_region
  go_wp2
  refine wp_loop_rounds 1 ?_
  rw [rounds_succ]
  go_wp2
  go_region_held3 (fun w' => w'.cell? ⟨Bu, 1, none⟩ = some (.iface 43 (.pointer (some ⟨s, 0, none⟩))) ∧ w'.cell? ⟨Bu, 0, none⟩ = some (.slice (some ⟨Bf, 0, none⟩) 4096 4096) ∧ w'.cell? ⟨Bu, 3, none⟩ = some (.int .i64 m)) (first | exact ⟨e1, e0, e3⟩ | exact ⟨c1, c0, c3⟩ | go_keep)
    ((go_at_call 63
      refine (HC.out _ (by repeat (first | exact Keep.refl _ _ | apply Keep.drew))).mono ?_
      rintro e w2 hmid
      obtain ⟨x, v, rfl, hb2, hmid⟩ := hmid.one
      obtain ⟨e0, e1, e2, e3, e4, -, -, ff⟩ := hb2.at
      have HM := Lib.hid hmid
      have ee3 := ff 3
      have ee4 := ff 4
      unfold rdv rdT at e1
      clear ff hmid hb2))
  rcases HM.out with ⟨rfl, rfl, hf2⟩ | ⟨j, hj1, hj2, rfl, rfl, hf2⟩
  · have HF := Lib.hid (hf2.slid HMR.out HB12.out HK5.out)
    clear hf2
    unfold eofv at HF ⊢
    go_wp2
    go_end0
    exact HF.out
  · have HF := Lib.hid (hf2.slid HMR.out HB12.out HK5.out)
    clear hf2
    go_wp2
    go_end0
    exact HF.out

theorem fill_full_true {w : World} {ea : Addr} {Bu Bf s D r n : Nat} {buf d : List UInt8} (hE : EofAt w ea) (ha : Apart Bu Bf s D) (hb : BuAt w Bu Bf (rdv true s) r n .nilIface) (hbf : RowB w Bf buf) (hl : buf.length = 4096) (hr : 0 < r) (hrn : r ≤ n) (hn : n ≤ 4096) (hs : SrcAt true w s D d)
    (hz1 : Bu ≠ 0) (hz2 : Bf ≠ 0) (hr4 : 4096 = r) :
    Calls Tryd.prog 32 #[.pointer (some ⟨Bu, 0, none⟩)] w (FillPost true ea Bu Bf s D r n buf d w) := False.elim ((fun _ _ _ _ _ _ _ _ _ _ _ => hs) hE ha hb hbf hl hr hrn hn hz1 hz2 hr4)
theorem fill_part_true {w : World} {ea : Addr} {Bu Bf s D r n : Nat} {buf d : List UInt8} (hE : EofAt w ea) (ha : Apart Bu Bf s D) (hb : BuAt w Bu Bf (rdv true s) r n .nilIface) (hbf : RowB w Bf buf) (hl : buf.length = 4096) (hr : 0 < r) (hrn : r ≤ n) (hn : n ≤ 4096) (hs : SrcAt true w s D d)
    (hz1 : Bu ≠ 0) (hz2 : Bf ≠ 0) (hr4 : ¬ 4096 = r) :
    Calls Tryd.prog 32 #[.pointer (some ⟨Bu, 0, none⟩)] w (FillPost true ea Bu Bf s D r n buf d w) := False.elim ((fun _ _ _ _ _ _ _ _ _ _ _ => hs) hE ha hb hbf hl hr hrn hn hz1 hz2 hr4)
theorem fill_any {k : Bool} {w : World} {ea : Addr} {Bu Bf s D r n : Nat} {buf d : List UInt8} (hE : EofAt w ea) (ha : Apart Bu Bf s D) (hb : BuAt w Bu Bf (rdv k s) r n .nilIface) (hbf : RowB w Bf buf) (hl : buf.length = 4096) (hrn : r ≤ n) (hn : n ≤ 4096) (hroom : n - r < 4096) (hs : SrcAt k w s D d)
    (hz1 : Bu ≠ 0) (hz2 : Bf ≠ 0) :
    Calls Tryd.prog 32 #[.pointer (some ⟨Bu, 0, none⟩)] w (FillPost k ea Bu Bf s D r n buf d w) := by
  by_cases hr : r = 0
  · subst hr
    cases k with
    | false => exact fill_r0_false hE ha hb hbf hl (by omega) hs
    | true => exact fill_r0_true hE ha hb hbf hl (by omega) hs
  · by_cases hr4 : 4096 = r
    · cases k with
      | false => exact fill_full_false hE ha hb hbf hl (by omega) hrn hn hs hz1 hz2 hr4
      | true => exact fill_full_true hE ha hb hbf hl (by omega) hrn hn hs hz1 hz2 hr4
    · cases k with
      | false => exact fill_part_false hE ha hb hbf hl (by omega) hrn hn hs hz1 hz2 hr4
      | true => exact fill_part_true hE ha hb hbf hl (by omega) hrn hn hs hz1 hz2 hr4

end Go.Proofs.YtcbolmendjocbaaDoor

/- The walk of impl.Reads. -/
import Derived.Test.YtcbolmendjocbaaDoorRg
namespace Go.Proofs.YtcbolmendjocbaaDoor
open Go.RowKit Qp

/-- a read's size -/
def clampS (n : Int) : Nat := (max 0 (min n 65536)).toNat
/-- what reads of some sizes give of a text that gives out, with a code -/
def readsOf : List UInt8 → Nat → List Int → List (List UInt8 × Nat)
  | _, _, [] => []
  | out, code, n :: r => if clampS n ≤ out.length then (out.take (clampS n), 0) :: readsOf (out.drop (clampS n)) code r else [(out, if code = 1 then 1 else 2)]

/-- the slice v reads as the integers l -/
def Is (w : World) (v : Value) (l : List Int) : Prop :=
  ∃ ao cap, v = .slice ao l.length cap ∧ l.length ≤ cap ∧ cap ≤ 9223372036854775807 ∧ ∀ k (hk : k < l.length), ∃ b off, ao = some ⟨b, off, none⟩ ∧ w.cell? ⟨b, off + k, none⟩ = some (.int .i64 l[k])

theorem Is.below {w w' : World} {v : Value} {l : List Int} (h : Is w v l) (hb : Below w.heap.size w w') : Is w' v l := by
  obtain ⟨ao, cap, h1, h2, h3, h4⟩ := h
  refine ⟨ao, cap, h1, h2, h3, fun k hk => ?_⟩
  obtain ⟨b, off, e, hc⟩ := h4 k hk
  exact ⟨b, off, e, below_cell hb _ _ hc⟩
theorem Blocks.move {R Bu Bf s D P0 P : Nat} (h : Blocks R Bu Bf s D P0) (hl : R < P0 ∧ Bu < P0 ∧ Bf < P0 ∧ s < P0 ∧ D < P0 ∧ 0 < P0) (hP : P0 ≤ P) : Blocks R Bu Bf s D P :=
  ⟨h.ap, h.ru, h.rf, h.rs, h.rd, by omega, by omega, by omega, by omega, by omega, h.zr, h.zu, h.zf, h.zs, by omega, by omega⟩

/-- a Reader that has not been read -/
def RStart (ea : Addr) (w : World) (src : List UInt8) (w4 : World) (R : Nat) : Prop :=
  ∃ Bu Bf s D ev lv r n buf d, QAt false ea R Bu Bf s D w4 ⟨[], 0, src⟩ ev lv r n buf d ∧ Blocks R Bu Bf s D w4.heap.size ∧ (R < w4.heap.size ∧ Bu < w4.heap.size ∧ Bf < w4.heap.size ∧ s < w4.heap.size ∧ D < w4.heap.size ∧ 0 < w4.heap.size) ∧
    (w.heap.size ≤ R ∧ w.heap.size ≤ Bu ∧ w.heap.size ≤ Bf ∧ w.heap.size ≤ s) ∧ Below w.heap.size w w4
theorem reader_start {w w2 : World} {ea fa ua : Addr} {v : Value} {src : List UInt8} (hen : Env0 ea fa ua w) (h : Copied src w w2 v) (hE : EofAt w ea) (hea : ea.block < w.heap.size) :
    Calls Tryd.prog 12 #[.iface 43 (.pointer (some ⟨w2.heap.size, 0, none⟩))] (w2.alloc (.cells #[v, .int .i64 0, .int .i64 (-1)] 59)) fun e w4 => ∃ R, e = .returned (.pointer (some ⟨R, 0, none⟩)) ∧ RStart ea w src w4 R := by
  obtain ⟨g, cap, rfl, hg, hg2, hbs, hb⟩ := h
  obtain ⟨w3, hw3⟩ : ∃ w3, w3 = w2.alloc (.cells #[.slice (some ⟨g, 0, none⟩) src.length cap, .int .i64 0, .int .i64 (-1)] 59) := ⟨_, rfl⟩
  have hb2 : Below w2.heap.size w2 w3 := by rw [hw3]; exact (Below.refl _ _).alloc (Nat.le_refl _) _
  have hb3 := hb.trans (hb2.mono hb.size)
  have hsz3 : w3.heap.size = w2.heap.size + 1 := by rw [hw3, World.size_alloc]
  have hsrc : SrcAt false w3 w2.heap.size g src := ⟨_, src, 0, -1, by rw [hw3]; exact heap_alloc_new _ _, hbs.below hb2, rfl, Nat.zero_le _, rfl⟩
  have hE3 : EofAt w3 ea := hE.keep (Keep.new (S := fun _ => False) hb3) id
  have hz : 0 < w.heap.size := cell_lt hE
  have hsz := hb.size
  rw [← hw3]
  refine (newQ_any (k := false) (w := w3) w2.heap.size).mono ?_
  rintro e w4 ⟨R, h1, rfl, h2, h3, h4, h5, h6⟩
  have hsz4 := h6.size
  have hRl := Lib.lt_of_heap h3
  have kb : Keep (fun _ => False) w3 w4 := Keep.new h6
  refine ⟨R, rfl, w3.heap.size, w3.heap.size + 1, w2.heap.size, g, .nilIface, .slice none 0 0, 0, 0, List.replicate 4096 0, src, ⟨h3, ibs_nil w4, fun h => absurd rfl h, ⟨h4, h5, List.length_replicate, Nat.le_refl _, by omega, hsrc.keep kb id id, Keep.refl _ _⟩, rfl, .inl ⟨rfl, rfl⟩, hE3.keep kb id, by omega, ⟨fa, ua, hen.env (hb3.trans (h6.mono hb3.size)) (by omega) (by omega) (by omega) (by omega)⟩, (fun e => by cases e)⟩, ?_, ⟨by omega, by omega, by omega, by omega, by omega, by omega⟩, ⟨by omega, by omega, by omega, by omega⟩, hb3.trans (h6.mono hb3.size)⟩
  refine ⟨⟨?_, ?_, ?_, ?_, ?_, ?_⟩, ?_, ?_, ?_, ?_, ?_, ?_, ?_, ?_, ?_, ?_, ?_, ?_, ?_, ?_, ?_⟩ <;> omega

/-- what all reads may turn -/
def Rall (R Bu Bf s P0 : Nat) (b : Nat) : Prop := b = R ∨ b = Bu ∨ b = Bf ∨ b = s ∨ P0 ≤ b
/-- where Reads stands -/
def ReadsRel (ea : Addr) (R Bu Bf s D : Nat) (out : List UInt8) (code : Nat) (sizes : List Int) (w4 : World) (vo vi : Value) (wr : World) : Prop :=
  ∃ (i j : Nat) (st : RS) (ev lv : Value) (r n : Nat) (buf d : List UInt8) (gs : List (List UInt8 × Nat)), i ≤ sizes.length ∧ vi = .int .i64 i ∧ j ≤ out.length ∧ gs.length = i ∧ QAt false ea R Bu Bf s D wr st ev lv r n buf d ∧ strm st = (out.drop j, code) ∧
    Gr wr w4.heap.size vo gs ∧ Keep (Rall R Bu Bf s w4.heap.size) w4 wr ∧ readsOf out code sizes = gs ++ readsOf (out.drop j) code (sizes.drop i)

theorem readsOf_step {out : List UInt8} {code : Nat} {sizes : List Int} {i : Nat} (hi : i < sizes.length) : readsOf out code (sizes.drop i) =
    if clampS sizes[i] ≤ out.length then (out.take (clampS sizes[i]), 0) :: readsOf (out.drop (clampS sizes[i])) code (sizes.drop (i + 1)) else [(out, if code = 1 then 1 else 2)] := by
  rw [List.drop_eq_getElem_cons hi]; rfl

/-- a round's buffer, and what has been read into it -/
theorem round_read {R Bu Bf s P0 m : Nat} {wr w1 : World} {vo : Value} {gs : List (List UInt8 × Nat)} {x : List UInt8} (hl : R < P0 ∧ Bu < P0 ∧ Bf < P0 ∧ s < P0) (hP : P0 ≤ wr.heap.size) (hm : m ≤ 65536) (M : Array Value)
    (hg : Gr wr P0 vo gs) (hk : Keep (Rmay R Bu Bf s wr.heap.size) (wr.alloc (.cells M 5)) w1) (hrow : RowB w1 wr.heap.size (splice (List.replicate m 0) 0 (x.take m))) (k : Nat) (hkm : k = (x.take m).length) :
    Gr w1 P0 vo gs ∧ Bs w1 (.slice (some ⟨wr.heap.size, 0, none⟩) k m) (x.take m) ∧ (P0 ≤ wr.heap.size ∧ wr.heap.size < w1.heap.size ∧ vo.ownBlock ≠ some wr.heap.size) ∧ Keep (Rall R Bu Bf s P0) wr w1 := by
  have hsz := hk.size
  rw [World.size_alloc] at hsz
  have kall : Keep (fun b => b = R ∨ b = Bu ∨ b = Bf ∨ b = s ∨ wr.heap.size ≤ b) wr w1 := by
    refine ((Keep.refl (fun b => b = R ∨ b = Bu ∨ b = Bf ∨ b = s ∨ wr.heap.size ≤ b) wr).alloc (.cells M 5)).trans hk (fun b hb e => ?_)
    rcases e with e | e | e | e | e
    · exact .inl e
    · exact .inr (.inl e)
    · exact .inr (.inr (.inl e))
    · exact .inr (.inr (.inr (.inl e)))
    · exact .inr (.inr (.inr (.inr (by omega))))
  have hkl : (x.take m).length ≤ m := by rw [List.length_take]; omega
  refine ⟨hg.keep kall (fun g h1 h2 e => by rcases e with e | e | e | e | e <;> omega), ?_, ⟨hP, by omega, fun e => ?_⟩, kall.mono (fun b _ e => ?_)⟩
  · refine hrow.bs 0 k m (x.take m) hkm ?_ (by omega) ?_
    · rw [hkm]; unfold splice; simp
    · omega
  · obtain ⟨ts, -, hown, -, -⟩ := hg
    rcases hown.2 with ⟨rfl, _⟩ | ⟨g, cap, cur, rfl, _, hh, _⟩
    · cases e
    · injection e with e
      have e : g = wr.heap.size := e
      have := Lib.lt_of_heap hh
      omega
  · rcases e with e | e | e | e | e
    · exact .inl e
    · exact .inr (.inl e)
    · exact .inr (.inr (.inl e))
    · exact .inr (.inr (.inr (.inl e)))
    · exact .inr (.inr (.inr (.inr (by omega))))

/-- 'append([]byte{}, x...)' makes a copy -/
theorem wpList_copy {ops : Array Oper} {rest : List Oper} {o : Oper} {a : Act} {w : World} {Q : Exit → Act → World → Prop} (hgd : o.guard = none) (s x : Operand)
    (hop : o.op = Op.call { callee := Callee.builtin Builtin.append, args := #[s, x], argTypes := #[22, 22] }) (vx : Value) (hs : a.eval s = .slice (some ⟨w.heap.size, 0, none⟩) 0 0) (hx : a.eval x = vx) {p : List UInt8}
    (hp : Bs w vx p) (hlim : p.length ≤ 140737488355000) (hK : ∀ v' w2, Copied p w w2 v' → wpList Tryd.prog ops Q rest (a.put o.dst v') w2) : wpList Tryd.prog ops Q (o :: rest) a (w.alloc (.cells #[] 5)) := by
  obtain ⟨i0, hi, hz0, hz1, hz2⟩ := info_parts info5
  have hown : (w.alloc (.cells #[] 5)).ownsRow w.heap.size 5 1 (.slice (some ⟨w.heap.size, 0, none⟩) 0 0) 0 [] :=
    ⟨rfl, .inr ⟨w.heap.size, 0, #[], rfl, Nat.le_refl _, heap_alloc_new _ _, Nat.le_refl _, Nat.zero_le _, rfl, rfl⟩⟩
  rcases hp.src with ⟨rfl, rfl⟩ | ⟨ad, cap1, rfl, hpc, hpm, hnews⟩
  · refine wpList_step fun K hK' => ?_
    rw [if_pos (by simp [Region.wanted, hgd])]
    have hrun := run_append_owned_none (P := Tryd.prog) (w := w.alloc (.cells #[] 5)) w.heap.size 22 o.type 5 i0 1 Tryd.underlying22 hi (.slice (some ⟨w.heap.size, 0, none⟩) 0 0) 0 _ hown
    unfold Oper.wp
    simp [execOp, hop, resolve, invoke, builtin, hs, hx, hrun, Result.andThen]
    exact hK' _ _ (hK _ _ (copied_nil w))
  · have hn := fun j u (hj : (Lib.byteCells p)[j]? = some u) => below_cell (w := w) (w' := w.alloc (.cells #[] 5)) ((Below.refl _ _).alloc (Nat.le_refl _) _) _ _ (hnews j u hj)
    exact wpList_append_own _ hgd s x 22 hop w.heap.size 5 i0 (.int .u8 0) 1 1 Tryd.underlying22 hi hz0 hz1 hz2 rfl (by decide) _ _ _ hs hown ad p.length cap1 (Lib.byteCells p) hx (by simp [byteCells_length]) hn (Lib.byteCells_one _) (by unfold maxLen; omega) (by omega) (by rw [World.size_alloc]; omega)
      fun v' w2 hown' hgrow hnil => hK v' w2 (copied_own hown' hgrow (fun e => by have := (hnil.1 e).1; cases this))

theorem make_read (m : Nat) (hm : m ≤ 65536) (W : World) : (Instr.makeSlice 22 (.int .i64 m) (.int .i64 m)).run Tryd.prog W = .ok (.slice (some ⟨W.heap.size, 0, none⟩) m m) (W.alloc (.cells (Lib.byteCells (List.replicate m 0)).toArray 5)) := by
  obtain ⟨i0, hi, hz0, hz1, hz2⟩ := info_parts info5
  have h := run_makeSlice (P := Tryd.prog) W 22 5 i0 (.int .u8 0) Tryd.underlying22 hi hz0 .i64 .i64 m m (by omega) (by omega) (by rw [hz1]; simp; omega) (by rw [hz2]; omega) (by omega)
  rw [h, hz1, made_bytes]
  simp

/-- Reads, behind a read that gives its whole buffer -/
theorem reads_go {ea : Addr} {R Bu Bf s D : Nat} {out : List UInt8} {code : Nat} {sizes : List Int} {w4 wr w1 w2 : World} {v' : Value} {i j m : Nat} {st' : RS} {ev lv : Value} {r n : Nat} {buf d : List UInt8} {gs : List (List UInt8 × Nat)}
    (hl : R < w4.heap.size ∧ Bu < w4.heap.size ∧ Bf < w4.heap.size ∧ s < w4.heap.size ∧ D < w4.heap.size ∧ 0 < w4.heap.size)
    (hi : i < sizes.length) (hj : j ≤ out.length) (hgl : gs.length = i) (hm : m = clampS sizes[i]) (hle : m ≤ (out.drop j).length) (hq : QAt false ea R Bu Bf s D w1 st' ev lv r n buf d) (hst : strm st' = ((out.drop j).drop m, code))
    (hk0 : Keep (Rall R Bu Bf s w4.heap.size) w4 wr) (hk1 : Keep (Rall R Bu Bf s w4.heap.size) wr w1) {vo : Value} {l1 : List (List UInt8 × Nat)} (hg1 : Gr w1 w4.heap.size vo l1) (hk2 : Keep (fun g => vo.ownBlock = some g) w1 w2) (hg : Gr w2 w4.heap.size v' (gs ++ [((out.drop j).take m, 0)]))
    (hro : readsOf out code sizes = gs ++ readsOf (out.drop j) code (sizes.drop i)) : ReadsRel ea R Bu Bf s D out code sizes w4 v' (.int .i64 ((i : Int) + 1)) w2 := by
  rw [List.length_drop] at hle
  have h3 : ∀ b, b < w4.heap.size → ¬ vo.ownBlock = some b := fun b hb e => by have := hg1.ge e; omega
  have hm3 := hg1.mild (R := R) (Bu := Bu) (Bf := Bf) (s := s) (by omega)
  have hk3 := hk2
  replace hk2 : Keep (fun g => w4.heap.size ≤ g) w1 w2 := hk2.mono (fun g _ e => hg1.ge e)
  refine ⟨i + 1, j + m, st', ev, lv, r, n, buf, d, _, by omega, by go_num, by omega, by rw [List.length_append, hgl]; rfl, hq.keep hk3 (h3 _ hl.1) (h3 _ hl.2.1) (h3 _ hl.2.2.1) (h3 _ hl.2.2.2.1) (h3 _ hl.2.2.2.2.1) (h3 _ hl.2.2.2.2.2) hm3, by rw [hst, List.drop_drop], hg,
    (hk0.trans hk1 (fun _ _ e => e)).trans hk2 (fun b _ e => .inr (.inr (.inr (.inr e)))), ?_⟩
  rw [hro, readsOf_step hi, if_pos (by rw [← hm, List.length_drop]; exact hle), ← hm, List.drop_drop, List.append_assoc]
  rfl

set_option maxRecDepth 100000 in
set_option maxHeartbeats 6400000 in
theorem Reads_any {w : World} {ea fa ua : Addr} {v vs : Value} {src out : List UInt8} {code : Nat} {sizes : List Int} (hen : Env0 ea fa ua w) (h : Bs w v src) (hz : Is w vs sizes) (hE : EofAt w ea) (hea : ea.block < w.heap.size) (hdec : Qp.decode src = (out, code)) (hlim : src.length ≤ 140737488355000) (hzl : sizes.length ≤ 2147483647) :
    Calls Tryd.prog 7 #[v, vs] w fun e w' => ∃ v', e = .returned v' ∧ Gs w' v' (readsOf out code sizes) ∧ Below w.heap.size w w' := by
  have HC := Lib.hid (fun (w2 : World) (v : Value) (h : Copied src w w2 v) => reader_start hen h hE hea)
  have hcode := decode_code src
  rw [hdec] at hcode
  obtain ⟨σ, hσ⟩ : ∃ σ : Nat, σ = if code = 1 then 1 else 2 := ⟨_, rfl⟩
  have HSG := Lib.hid hσ
  have HCO := Lib.hid hcode
  obtain ⟨ao1, cap1, rfl, hzc, hzm, hzat⟩ := hz
  have HZ := Lib.hid hzat
  have H := Lib.hid h
  have HDEC := Lib.hid hdec
  obtain ⟨ao, cap, rfl⟩ := Bs.shape h
  clear hE hea hdec h hzat hen hcode hσ
  go_enter Tryd.func7, Tryd.ntmps7
  go_wp2_with (at_builtin; refine wpList_copy rfl (.tmp 12) (.tmp 13) rfl _ rfl rfl H.out hlim ?_; intro v' w2 hcp; obtain ⟨g, cap2, rfl, -⟩ := id hcp; have HCP := Lib.hid hcp; clear hcp)
  go_wp2_with fail
  refine newBytes_any.mono ?_
  rintro e w3 ⟨rfl, hw3⟩
  have HN3 := Lib.hid (HC.out _ _ HCP.out)
  rw [hw3] at HN3
  clear HC hw3 HCP
  go_wp2_with fail
  refine HN3.out.mono ?_
  rintro e w4 ⟨R, rfl, Bu, Bf, s, D, ev0, lv0, r0, n0, buf0, d0, hq0, hB, hl, hge, hbel4⟩
  have hst0 : ReadsRel ea R Bu Bf s D out code sizes w4 (.slice none 0 0) (.int .i64 0) w4 := ⟨0, 0, _, _, _, _, _, _, _, [], Nat.zero_le _, rfl, Nat.zero_le _, rfl, hq0, HDEC.out, Gr.nil _ _, Keep.refl _ _, rfl⟩
  have HST := Lib.hid hst0
  have HB := Lib.hid hB
  have HL := Lib.hid hl
  have HGE := Lib.hid hge
  have HB4 := Lib.hid hbel4
  clear hst0 hB hl hge hbel4 hq0 HN3 H HDEC
  go_wp2
  go_loopw [5, 20] (fun vo vi wr => ReadsRel ea R Bu Bf s D out code sizes w4 vo vi wr) (fun _ vi _ => sizes.length - (intOf vi).toNat)
  case atStart => exact HST.out
  case round =>
    obtain ⟨i, j, st, ev, lv, r, n, buf, d, gs, hi, rfl, hj, hgl, hq, hst, hg, hk, hro⟩ := hrel
    have hbr : Below w.heap.size w wr := by
      have := HGE.out
      have hs4 := HB4.out.size
      exact HB4.out.trans (hk.to_below hs4 (fun b hb e => by rcases e with e | e | e | e | e <;> omega))
    have hP : w4.heap.size ≤ wr.heap.size := hk.size
    by_cases hlt : i < sizes.length
    · obtain ⟨b0, off0, rfl, hcz⟩ := HZ.out i hlt
      have hcz := below_cell hbr _ _ hcz
      obtain ⟨z, hzz⟩ : ∃ z, z = sizes[i] := ⟨_, rfl⟩
      obtain ⟨m, hm⟩ : ∃ m, m = clampS sizes[i] := ⟨_, rfl⟩
      rw [← hzz] at hcz
      have hmz : max 0 (min z 65536) = (m : Int) := by rw [hm, ← hzz]; unfold clampS; omega
      have hm6 : m ≤ 65536 := by omega
      have hmk := make_read m hm6 wr
      have hal : Below wr.heap.size wr (wr.alloc (.cells (Lib.byteCells (List.replicate m 0)).toArray 5)) := (Below.refl _ _).alloc (Nat.le_refl _) _
      have hqa := hq.keep (Keep.new (S := fun _ => False) hal) id id id id id id (fun _ h => h.elim)
      have HR := Lib.hid (Read_any (mc := m) (m := m) (po := 0) (ap := some ⟨wr.heap.size, 0, none⟩) (pb := List.replicate m 0) (HB.out.move HL.out hP) hqa hst (Nat.le_refl _) (by omega) (by simp) (heap_alloc_new _ _) (fun _ => rfl))
      have hlo := HL.out
      have HRR := Lib.hid (fun (w1 : World) (k : Nat) (x : List UInt8) (hk1 : Keep (Rmay R Bu Bf s wr.heap.size) (wr.alloc (.cells (Lib.byteCells (List.replicate m 0)).toArray 5)) w1) (hrow : RowB w1 wr.heap.size (splice (List.replicate m 0) 0 (x.take m))) (hkm : k = (x.take m).length) => round_read (m := m) ⟨hlo.1, hlo.2.1, hlo.2.2.1, hlo.2.2.2.1⟩ hP hm6 _ hg hk1 hrow k hkm)
      have HGO := Lib.hid (fun (w1 w2 : World) (v' : Value) (st' : RS) (ev lv : Value) (r n : Nat) (buf d : List UInt8) (hle : m ≤ (out.drop j).length) (hq : QAt false ea R Bu Bf s D w1 st' ev lv r n buf d) (hst : strm st' = ((out.drop j).drop m, code)) (hk1 : Keep (Rall R Bu Bf s w4.heap.size) wr w1) (vo : Value) (hg1 : Gr w1 w4.heap.size vo gs) (hk2 : Keep (fun g => vo.ownBlock = some g) w1 w2) (hg : Gr w2 w4.heap.size v' (gs ++ [((out.drop j).take m, 0)])) => reads_go hlo hlt hj hgl hm hle hq hst hk hk1 hg1 hk2 hg hro)
      have HEND : Hid (∀ (w2 : World) (v' : Value), (out.drop j).length < m → Gr w2 w4.heap.size v' (gs ++ [(out.drop j, σ)]) → Gs w2 v' (readsOf out code sizes)) := fun w2 v' hlt' hg' => by
        rw [hro, readsOf_step hlt, if_neg (by rw [← hm]; omega), ← HSG.out]
        exact hg'.gs
      have HBR := Lib.hid hbr
      have HEOF := Lib.hid (hqa.eof)
      obtain ⟨fa, ua, hen⟩ := hqa.env
      have HENV := Lib.hid (fun (w1 : World) (hk : Keep (Rmay R Bu Bf s wr.heap.size) (wr.alloc (.cells (Lib.byteCells (List.replicate m 0)).toArray 5)) w1) => hen.keep hk (hqa.mildR (HB.out.move HL.out hP) (pb' := List.replicate m 0) (heap_alloc_new _ _)))
      clear hen
      have hgl2 : gs.length + 1 ≤ 1099511627776 := by omega
      clear hq hst hg hk hro hbr hzz hal hqa hm hlo
      have hszP : w4.heap.size ≤ wr.heap.size := hP
      go_wp2_with fail
      refine HR.out.mono ?_
      rintro e w1 ⟨hrow1, hk1, hcase⟩
      have hsz1 := hk1.size
      rw [World.size_alloc] at hsz1
      rcases hcase with ⟨hle, rfl, st', ev', lv', r', n', buf', d', hq', hst'⟩ | ⟨hlt', v1, hv, hc, rfl⟩
      · have hkm : m = ((out.drop j).take m).length := by rw [List.length_take]; omega
        obtain ⟨hg1, hd1, hdb, hkr⟩ := HRR.out w1 m (out.drop j) hk1 hrow1 hkm
        have HN := Lib.hid (fun (w2 : World) (v' : Value) (hk2 : Keep (fun g => u5.ownBlock = some g) w1 w2) (hg2 : Gr w2 w4.heap.size v' (gs ++ [((out.drop j).take m, 0)])) => HGO.out w1 w2 v' st' ev' lv' r' n' buf' d' hle hq' hst' hkr u5 hg1 hk2 hg2)
        have HG1 := Lib.hid hg1
        have HD1 := Lib.hid hd1
        have HDB := Lib.hid hdb
        clear hle hq' hst' hkr hg1 hd1 hdb hkm hrow1 hk1 HGO HRR HR HEND HEOF HENV
        dsimp only
        go_wp2
        refine wp_np ?_
        show Code.wp Tryd.prog reads_regionC _ _ _
        refine reads_region (b := wr.heap.size) (k := m) (m := m) (s := 0) (B := w4.heap.size) (fun _ _ _ _ h => h) rfl rfl rfl rfl rfl (Nat.le_refl _) (fun w2 _ => state_nil w2) HG1.out HD1.out HDB.out hgl2 (by omega) (fun y0 y1 y2 y3 y4 y5 y6 y7 y8 y9 w2 hg2 hk2 => ?_)
        rw [reads_put]
        have HNN := Lib.hid (HN.out w2 y9 hk2 hg2)
        clear hg2 hk2 HN HG1 HD1 HDB
        go_wp2
        go_roundw
        case rel => exact HNN.out
        case measure => simp [intOf]; omega
      · have hen1 := HENV.out w1 hk1
        have hE1 : EofAt w1 ea := by
          refine HEOF.out.keep hk1 ?_
          have := HL.out.2.2.2.2.2
          rintro (e | e | e | e | e)
          · exact HB.out.zr e.symm
          · exact HB.out.zu e.symm
          · exact HB.out.zf e.symm
          · exact HB.out.zs e.symm
          · omega
        obtain ⟨a, hve, hss⟩ : ∃ a, v1 = eofv a ∧ ∀ w2, Below w1.heap.size w1 w2 → Calls Tryd.prog 15 #[eofv a] w2 fun e w' => e = .returned (.int .i64 σ) ∧ w2 = w' := by
          rw [HSG.out]
          rcases HCO.out with e1 | e2
          · subst e1
            rcases hv.1 with ⟨e, _⟩ | ⟨_, e⟩ | ⟨e, _⟩
            · cases e
            · exact ⟨ea, e, fun w2 hb => state_eof (hE1.keep (Keep.new (S := fun _ => False) hb) id)⟩
            · cases e
          · subst e2
            obtain ⟨a, e, hb1⟩ := hv.2 rfl
            refine ⟨a, e, fun w2 hb => state_errB (hE1.keep (Keep.new (S := fun _ => False) hb) id) (hb1.keep (Keep.new (S := fun _ => False) hb) (fun _ h => h.elim)) ?_⟩
            obtain ⟨x, hx⟩ := hen1.eac
            exact ⟨x, below_cell hb _ _ hx⟩
        subst hve
        have HSS := Lib.hid hss
        clear hss hen1
        have htk : (out.drop j).take m = out.drop j := List.take_of_length_le (by omega)
        obtain ⟨q, hq⟩ : ∃ q, q = (out.drop j).length := ⟨_, rfl⟩
        obtain ⟨hg1, hd1, hdb, hkr⟩ := HRR.out w1 q (out.drop j) hk1 hrow1 (by rw [htk, hq])
        rw [htk] at hd1
        rw [← hq] at hlt' ⊢
        have hqm : q ≤ m := by omega
        have hfin : ∀ (w2 : World) (v' : Value), Keep (fun g => u5.ownBlock = some g) w1 w2 → Gr w2 w4.heap.size v' (gs ++ [(out.drop j, σ)]) → Gs w2 v' (readsOf out code sizes) ∧ Below w.heap.size w w2 := fun w2 v' hk2' hg2 => by
          have hk2 : Keep (fun g => w4.heap.size ≤ g) w1 w2 := hk2'.mono (fun g _ e => hg1.ge e)
          refine ⟨HEND.out w2 v' (by omega) hg2, HBR.out.trans ((hkr.trans hk2 (fun b _ e => .inr (.inr (.inr (.inr e))))).to_below (HBR.out.size) (fun b hb e => ?_))⟩
          have h1 := HGE.out
          have h2 := HB4.out.size
          rcases e with e | e | e | e | e <;> omega
        have HFIN := Lib.hid hfin
        have HG1 := Lib.hid hg1
        have HD1 := Lib.hid hd1
        have HDB := Lib.hid hdb
        clear hkr hg1 hd1 hdb hrow1 hk1 HGO HRR HR HEND HEOF HENV hv hc hE1 hfin htk hq
        unfold eofv
        dsimp only
        go_wp2
        refine wp_np ?_
        show Code.wp Tryd.prog reads_regionC _ _ _
        refine reads_region (b := wr.heap.size) (k := q) (m := m) (s := σ) (B := w4.heap.size) (fun _ _ _ _ h => h) rfl rfl rfl rfl rfl hqm (fun w2 hb => HSS.out w2 hb) HG1.out HD1.out HDB.out hgl2 (by omega) (fun y0 y1 y2 y3 y4 y5 y6 y7 y8 y9 w2 hg2 hk2 => ?_)
        rw [reads_put]
        have HNN := Lib.hid (HFIN.out w2 y9 hk2 hg2)
        clear hg2 hk2 HFIN HG1 HD1 HDB HSS
        go_wp2
        go_ret
        exact ⟨_, rfl, HNN.out.1, HNN.out.2⟩
    · have hie : i = sizes.length := by omega
      subst hie
      rw [List.drop_length] at hro
      have hgs := hg.gs
      rw [show gs = readsOf out code sizes by rw [hro, show readsOf (out.drop j) code [] = [] from rfl, List.append_nil]] at hgs
      have HG1 := Lib.hid hgs
      have HBR := Lib.hid hbr
      clear hq hst hg hk hro hgs hbr
      go_wp2
      go_ret
      exact ⟨_, rfl, HG1.out, HBR.out⟩
end Go.Proofs.YtcbolmendjocbaaDoor

/- Where a byte may not stand: impl.all and impl.Decode end with an error that is not io.EOF. -/
import Derived.Test.YthfkgancjpdodaaDoorRa1
namespace Go.Proofs.YthfkgancjpdodaaDoor
open Go.RowKit Qp

theorem sameAddr_far {P : Program} {w : World} {a b : Addr} {ca : Array Value} {ta : TypeId} {x : Value} (hne : a.block ≠ b.block) (ha : w.heap[a.block]? = some (.cells ca ta (0, 0))) (hb : w.cell? b = some x) : (sameAddr a b).run P w = .ok false w := by
  obtain ⟨cb, tb, fb, hcb⟩ : ∃ cb tb fb, w.heap[b.block]? = some (.cells cb tb fb) ∧ cb.size ≠ 0 := by
    unfold World.cell? at hb
    split at hb
    · rename_i cb tb fb e
      refine ⟨cb, tb, fb, e, fun h0 => ?_⟩
      split at hb
      · cases hb
      · rw [Array.getElem?_eq_none (by omega)] at hb; cases hb
    · cases hb
  obtain ⟨hcb, h0⟩ := hcb
  simp [sameAddr, hne, World.frozen?, ha, hcb, noView, viewAt, World.shape?, mayBeOne, stringish, h0]
theorem eof_other {ea : Addr} {ge : Nat} {s : ByteArray} (W : World) (h1 : W.heap[ge]? = some (.cells #[.string s] 133 (0, 0))) (h2 : ∃ x, W.cell? ea = some x) (hne : ge ≠ ea.block) :
    (binOp .eql 68 (eofv ⟨ge, 0, none⟩) (eofv ea)).run Tryd.prog W = .ok (.bool false) W := by
  obtain ⟨i, hi, hc⟩ := info96
  obtain ⟨j, hj⟩ := info133
  obtain ⟨x, hx⟩ := h2
  have hs := sameAddr_far (P := Tryd.prog) (w := W) (a := ⟨ge, 0, none⟩) (b := ea) hne h1 hx
  have hsz : j.size ≠ 0 := by
    have h : (Tryd.prog.info? 133).map (·.size) = some 1 := by kernel_rfl
    rw [hj] at h
    simp at h
    omega
  have hd : ∀ d : Nat, (Op.equalIn (d + 2) 68 (.iface 96 (.pointer (some ⟨ge, 0, none⟩))) (.iface 96 (.pointer (some ea)))).run Tryd.prog W = .ok false W := fun d => by
    simp [Op.equalIn, run_underlying (P := Tryd.prog) Tryd.underlying68, run_underlying (P := Tryd.prog) Tryd.underlying96, typeInfo, hi, hc, sizeOf, hj, hsz, hs]
  unfold eofv
  simp only [binOp]
  simp [Op.equal, Op.maxDepth, hd 9998]

set_option maxRecDepth 100000 in
set_option maxHeartbeats 3200000 in
theorem all_bad {k : Bool} {ea : Addr} {R Bu Bf s D : Nat} {out : List UInt8} {w : World} {st : RS} {ev lv : Value} {r n : Nat} {buf d : List UInt8} (hB : Blocks R Bu Bf s D w.heap.size) (h : QAt k ea R Bu Bf s D w st ev lv r n buf d) (hD : D < w.heap.size)
    (hst : strm st = (out, 5)) (hlim : out.length ≤ 140737488355000) (hec : ∃ x, w.cell? ea = some x) (hea : ¬ Amay R Bu Bf s w.heap.size ea.block) :
    Calls Tryd.prog 40 #[.iface 51 (.pointer (some ⟨R, 0, none⟩))] w fun e w' =>
      ∃ v, e = .returned (.tuple #[v, .bool false]) ∧ w'.ownsRow (w.heap.size + 1) 5 1 v out.length (Lib.byteCells out) ∧ Keep (Amay R Bu Bf s w.heap.size) w w' := by
  obtain ⟨i0, hi, hz0, hz1, hz2⟩ := info_parts info5
  obtain ⟨M, hM⟩ : ∃ M, M = madeCells (Value.int .u8 0).cells ((500 : Int).toNat * i0.size) := ⟨_, rfl⟩
  have hMs : M = (Lib.byteCells (List.replicate 500 0)).toArray := by rw [hM, hz1]; exact made_bytes 500
  have hmk : ∀ W : World, (Instr.makeSlice 24 (.int .i64 500) (.int .i64 500)).run Tryd.prog W = .ok (.slice (some ⟨W.heap.size, 0, none⟩) 500 500) (W.alloc (.cells M 5)) := fun W => by
    have h := run_makeSlice (P := Tryd.prog) W 24 5 i0 (.int .u8 0) Tryd.underlying24 hi hz0 .i64 .i64 500 500 (by omega) (by omega) (by rw [hz1]; decide) (by rw [hz2]; decide) (by decide)
    rw [← hM] at h
    simpa using h
  obtain ⟨P, hP⟩ : ∃ P, P = w.heap.size := ⟨_, rfl⟩
  rw [← hP] at hB hea ⊢
  have HEA := Lib.hid hea
  have HEC := Lib.hid hec
  clear hea hec
  have hR := Lib.lt_of_heap h.rdr
  have hBu := h.rs.bu.lt
  have hBf := h.rs.bf.lt
  have hs := h.rs.src.lt
  have hE : 0 < w.heap.size := cell_lt h.eof
  -- the first world
  have hst0 : AllRel k ea R Bu Bf s D P out 5 w out.length (.slice none 0 0) (w.alloc (.cells M 5)) := by
    have k0 : Keep (fun _ => False) w (w.alloc (.cells M 5)) := (Keep.refl _ w).alloc _
    refine ⟨0, st, ev, lv, r, n, buf, d, List.replicate 500 0, Nat.zero_le _, rfl, by simp, h.keep k0 id id id id id id, hst, ?_, World.ownsRow_nil _ _ _ _, k0.mono (fun _ _ e => e.elim)⟩
    rw [hMs, hP]
    exact heap_alloc_new w _
  have HST := Lib.hid hst0
  have HB := Lib.hid hB
  have HP := Lib.hid hP
  have HZ := Lib.hid (show R < P ∧ Bu < P ∧ Bf < P ∧ s < P ∧ D < P ∧ 0 < P by rw [hP]; exact ⟨hR, hBu, hBf, hs, hD, hE⟩)
  clear hst0 hB hM hMs h hst hR hBu hBf hs hE hD
  go_enter Tryd.func40, Tryd.ntmps40
  go_wp2
  rw [← hP]
  clear hP hmk
  go_loopg [4] (out.length) (fun gk v4 wr => AllRel k ea R Bu Bf s D P out 5 w gk v4 wr)
  case atStart => exact HST.out
  case round =>
    clear HST
    obtain ⟨j, st, ev, lv, r, n, buf, d, pb, hj, hgk, hpb, hq, hst, hrow, hown, hkeep⟩ := hrel
    have hZ := HZ.out
    have hlen : (out.drop j).length = out.length - j := List.length_drop
    have hPl := hrow.lt
    have HR := Lib.hid (Read_any (mc := 500) (m := 500) (po := 0) (ap := some ⟨P, 0, none⟩) (w := wr) HB.out hq hst (by omega) (Nat.le_refl _) (by omega) (by omega) hrow (fun _ => rfl))
    have HOWN := Lib.hid hown
    have HK := Lib.hid hkeep
    have HEOF := Lib.hid hq.eof
    have HGK := Lib.hid hgk
    have HPB := Lib.hid hpb
    clear hq hst hrow hown hkeep hZ hgk hpb
    go_wp2_with fail
    refine HR.out.mono ?_
    rintro e w1 ⟨hrow1, hk1, hcase⟩
    have hZ := HZ.out
    have hk1' : Keep (Amay R Bu Bf s P) wr w1 := hk1.mono (fun b _ e => by
      rcases e with e | e | e | e | e
      · exact .inl e
      · exact .inr (.inl e)
      · exact .inr (.inr (.inl e))
      · exact .inr (.inr (.inr (.inl e)))
      · exact .inr (.inr (.inr (.inr (by omega)))))
    have hown1 := own_keep HOWN.out hk1 (fun g hg => by
      rintro (e | e | e | e | e) <;> omega)
    have hP1 := hrow1.lt
    have HOWN1 := Lib.hid hown1
    have HK1 := Lib.hid (HK.out.trans hk1' (fun _ _ e => e))
    have hsz := hk1.size
    rcases hcase with ⟨hle, rfl, st', ev', lv', r', n', buf', d', hq', hst'⟩ | ⟨hlt, v, hv, hc, rfl⟩
    · obtain ⟨o1, o2, o3, o4⟩ := out_step out j hj hle
      obtain ⟨x, hx⟩ : ∃ x, x = (out.drop j).take 500 := ⟨_, rfl⟩
      rw [← hx] at o1 o2 hrow1
      obtain ⟨s1, s2⟩ := splice0 pb x HPB.out (by omega)
      have hbs : Bs w1 (.slice (some ⟨P, 0, none⟩) 500 500) x := hrow1.bs 0 500 500 x o2.symm (by rw [← o2]; exact s2.symm) (by omega) (by omega)
      have HN := Lib.hid (bs_src hbs)
      have hl1 : (Lib.byteCells x).length = 500 * 1 := by simp [byteCells_length, o2]
      have hacc : (out.take j).length = j := by simp; omega
      have HNEXT : Hid (∀ v4 : Value, (∀ r, v4.ownBlock = some r → P + 1 ≤ r) → ∀ v' w2, w2.ownsRow (P + 1) 5 1 v' ((out.take j).length + 500) (Lib.byteCells (out.take j) ++ Lib.byteCells x) → w1.grownBy w2 v4.ownBlock → AllRel k ea R Bu Bf s D P out 5 w (out.length - (j + 500)) v' w2) := fun v4 hv4 v' w2 ho hg => by
        have k2 : Keep (fun b => P + 1 ≤ b) w1 w2 := (Keep.refl (fun b => P + 1 ≤ b) w1).grown hg hv4
        refine ⟨j + 500, st', ev', lv', r', n', buf', d', _, o4, rfl, s1, hq'.keep k2 (by omega) (by omega) (by omega) (by omega) (by omega) (by omega), by rw [hst', o3], hrow1.keep k2 (by omega), ?_, HK1.out.trans k2 (fun b _ e => .inr (.inr (.inr (.inr (by omega)))))⟩
        rw [o1, List.length_append, Lib.byteCells_append, o2]
        exact ho
      have h4 : (out.take j).length + 500 ≤ 140737488355000 := by omega
      have HX := Lib.hid hx
      clear hq' hst' o1 o2 o3 s1 s2 hbs hrow1 hown1 hk1 hk1' HK HR HOWN hx hacc hZ hlen HEOF
      go_wp2_with (at_builtin; refine wpList_append_own _ rfl (.tmp 15) (.tmp 18) 24 rfl (P + 1) 5 i0 (.int .u8 0) 1 1 Tryd.underlying24 hi hz0 hz1 hz2 rfl (by decide) _ _ _ rfl HOWN1.out ⟨P, 0, none⟩ 500 500 (Lib.byteCells x) rfl hl1 HN.out (Lib.byteCells_one _) (by unfold maxLen; omega) (by omega) (by omega) ?_; intro v' w2 hown2 hgrow _)
      have HN2 := Lib.hid (HNEXT.out _ (own_ge HOWN1.out) v' w2 hown2 hgrow)
      clear hown2 hgrow
      go_roundg (out.length - (j + 500))
      case measure => rw [HGK.out]; omega
      case rel => exact HN2.out
    · obtain ⟨o1, o2⟩ := out_last out j hlt
      obtain ⟨ge, se, hve, hge, hgne⟩ : ErrW w1 ea v := by
        rcases hv with (⟨e, _⟩ | ⟨e, _⟩ | ⟨e, _⟩) | ⟨_, e⟩
        · cases e
        · cases e
        · cases e
        · exact e
      subst hve
      have hce1 : ∃ x, w1.cell? ea = some x := by
        obtain ⟨x, hx⟩ := HEC.out
        exact ⟨x, HK1.out.cell HEA.out hx⟩
      have HGE := Lib.hid hge
      have HCE := Lib.hid hce1
      have HGN := Lib.hid hgne
      clear hge hce1 hgne
      obtain ⟨x, hx⟩ : ∃ x, x = (out.drop j).take 500 := ⟨_, rfl⟩
      rw [← hx] at o1 o2 hrow1
      obtain ⟨q, hq⟩ : ∃ q, q = (out.drop j).length := ⟨_, rfl⟩
      rw [← hq] at o2 hlt ⊢
      obtain ⟨s1, s2⟩ := splice0 pb x HPB.out (by omega)
      have hbs : Bs w1 (.slice (some ⟨P, 0, none⟩) q 500) x := hrow1.bs 0 q 500 x o2.symm (by rw [← o2]; exact s2.symm) (by omega) (by omega)
      have HN := Lib.hid (bs_src hbs)
      have hl1 : (Lib.byteCells x).length = q * 1 := by simp [byteCells_length, o2]
      have hacc : (out.take j).length = j := by simp; omega
      have HEND : Hid (∀ v4 : Value, (∀ r, v4.ownBlock = some r → P + 1 ≤ r) → (∃ (n4 : Nat) (x4 : List Value), w1.ownsRow (P + 1) 5 1 v4 n4 x4) → ∀ v' w2, w2.ownsRow (P + 1) 5 1 v' ((out.take j).length + q) (Lib.byteCells (out.take j) ++ Lib.byteCells x) → w1.grownBy w2 v4.ownBlock → w2.ownsRow (P + 1) 5 1 v' out.length (Lib.byteCells out) ∧ Keep (Amay R Bu Bf s P) w w2 ∧ EofAt w2 ea ∧ w2.heap[ge]? = some (.cells #[.string se] 133 (0, 0)) ∧ ∃ x, w2.cell? ea = some x) := fun v4 hv4 hown4 v' w2 ho hg => by
        have k2 : Keep (fun b => P + 1 ≤ b) w1 w2 := (Keep.refl (fun b => P + 1 ≤ b) w1).grown hg hv4
        refine ⟨?_, HK1.out.trans k2 (fun b _ e => .inr (.inr (.inr (.inr (by omega))))), (HEOF.out.keep hk1 ?_).keep k2 (by omega), ?_, ?_⟩
        · rw [← Lib.byteCells_append, ← o2, ← List.length_append, ← o1] at ho
          exact ho
        · rintro (e | e | e | e | e)
          · exact HB.out.zr e.symm
          · exact HB.out.zu e.symm
          · exact HB.out.zf e.symm
          · exact HB.out.zs e.symm
          · exact HB.out.zp e.symm
        · rw [hg.block ge (Lib.lt_of_heap HGE.out) ?_]
          · exact HGE.out
          · intro e
            obtain ⟨n4, x4, -, h4⟩ := hown4
            rcases h4 with ⟨rfl, _⟩ | ⟨g', cap, cur, rfl, _, hh, _⟩
            · cases e
            · injection e with e
              have e : ge = g' := e
              subst e
              rw [HGE.out] at hh
              injection hh with hh
              injection hh with _ hh
              exact absurd hh (by decide)
        · obtain ⟨x, hx⟩ := HCE.out
          exact ⟨x, k2.cell (fun e => HEA.out (.inr (.inr (.inr (.inr (by omega)))))) hx⟩
      have h4 : (out.take j).length + q ≤ 140737488355000 := by omega
      have hq1 : (q : Int) ≤ 500 := by omega
      have hq2 : q ≤ 500 := by omega
      have HX := Lib.hid hx
      have HQ := Lib.hid hq
      have HEQ := Lib.hid (fun W h1 h2 => eof_other (ea := ea) (ge := ge) (s := se) W h1 h2 HGN.out)
      clear o1 o2 s1 s2 hbs hrow1 hown1 hk1 hk1' HK HR HOWN hx hq hacc hZ hlen HEOF hv hc
      unfold eofv
      dsimp only
      go_wp2_with (at_builtin; refine wpList_append_own _ rfl (.tmp 15) (.tmp 18) 24 rfl (P + 1) 5 i0 (.int .u8 0) 1 1 Tryd.underlying24 hi hz0 hz1 hz2 rfl (by decide) _ _ _ rfl HOWN1.out ⟨P, 0, none⟩ q 500 (Lib.byteCells x) rfl hl1 HN.out (Lib.byteCells_one _) (by unfold maxLen; omega) (by omega) (by omega) ?_; intro v' w2 hown2 hgrow _; obtain ⟨g1, g2, g3, g4, g5⟩ := HEND.out _ (own_ge HOWN1.out) ⟨_, _, HOWN1.out⟩ v' w2 hown2 hgrow; have heq := fun (jj : Nat) => HEQ.out (w2.drewN jj) g4 g5; have G1 := Lib.hid g1; have G2 := Lib.hid g2; clear g1 g2 g4 g5 hown2 hgrow; unfold EofAt eofv at g3; unfold eofv at heq)
      go_quiet (fail)
      go_wp2
      go_ret2
      exact ⟨_, rfl, own_keep G1.out ((Keep.refl (fun _ => False) _).drewN _) (fun _ _ => id), G2.out.drewN _⟩
/-- A NEW READER IS READ TO ITS END. -/
theorem all_start5 {k : Bool} {w3 w4 : World} {ea : Addr} {s D R : Nat} {src out : List UInt8} (hsrc : SrcAt k w3 s D src) (hD : D < w3.heap.size) (hsD : s ≠ D) (hE : EofAt w3 ea) (hs0 : s ≠ 0) (hea : ea.block < w3.heap.size)
    (hR1 : w3.heap.size + 1 < R) (hR2 : RdrAt w4 R w3.heap.size .nilIface (.slice none 0 0)) (hbu : BuAt w4 w3.heap.size (w3.heap.size + 1) (rdv k s) 0 0 .nilIface) (hbf : RowB w4 (w3.heap.size + 1) (List.replicate 4096 0)) (hb : Below w3.heap.size w3 w4)
    (hec : ∃ x, w3.cell? ea = some x) (hsea : s ≠ ea.block) (hdec : Qp.decode src = (out, 5)) (hlim : src.length ≤ 140737488355000) :
    Calls Tryd.prog 40 #[.iface 51 (.pointer (some ⟨R, 0, none⟩))] w4 fun e w' =>
      ∃ v, e = .returned (.tuple #[v, .bool false]) ∧ w'.ownsRow w4.heap.size 5 1 v out.length (Lib.byteCells out) ∧ Keep (fun b => b = s ∨ w3.heap.size ≤ b) w4 w' := by
  have hs := hsrc.lt
  have hz : 0 < w3.heap.size := cell_lt hE
  have hRl := Lib.lt_of_heap hR2
  have kb : Keep (fun _ => False) w3 w4 := Keep.new hb
  have hol : out.length ≤ src.length := by have := decode_size src; rw [hdec] at this; exact this
  have hB : Blocks R w3.heap.size (w3.heap.size + 1) s D w4.heap.size := by
    refine ⟨⟨?_, ?_, ?_, ?_, ?_, hsD⟩, ?_, ?_, ?_, ?_, ?_, ?_, ?_, ?_, ?_, ?_, ?_, ?_, hs0, ?_⟩ <;> omega
  have hq : QAt k ea R w3.heap.size (w3.heap.size + 1) s D w4 ⟨[], 0, src⟩ .nilIface (.slice none 0 0) 0 0 (List.replicate 4096 0) src :=
    ⟨hR2, ibs_nil w4, fun h => absurd rfl h, ⟨hbu, hbf, List.length_replicate, Nat.le_refl _, by omega, hsrc.keep kb id id, Keep.refl _ _⟩, rfl, .inl ⟨rfl, rfl⟩, hE.keep kb id, Nat.lt_of_lt_of_le hea hb.size⟩
  refine (all_bad hB hq (Nat.lt_of_lt_of_le hD hb.size) hdec (by omega) (by obtain ⟨x, hx⟩ := hec; exact ⟨x, below_cell hb _ _ hx⟩) (by
    have := hb.size
    rintro (e | e | e | e | e)
    · omega
    · omega
    · omega
    · exact hsea e.symm
    · omega)).mono ?_
  rintro e w' ⟨v, rfl, h1, h2⟩
  refine ⟨v, rfl, own_mono h1 (by omega), h2.mono (fun b _ e => ?_)⟩
  rcases e with e | e | e | e | e
  · exact .inr (by omega)
  · exact .inr (by omega)
  · exact .inr (by omega)
  · exact .inl e
  · exact .inr (by have := hb.size; omega)

/-- what Decode leaves -/
def DecBad (out : List UInt8) (w : World) (e : Ending) (w' : World) : Prop := ∃ v, e = .returned (.tuple #[v, .bool false]) ∧ w'.ownsRow w.heap.size 5 1 v out.length (Lib.byteCells out) ∧ Below w.heap.size w w'

/-- from the copy on -/
theorem dec_tail5 {k : Bool} {w w3 : World} {ea : Addr} {s D : Nat} {src out : List UInt8} (hsrc : SrcAt k w3 s D src) (hD : D < w3.heap.size) (hsD : s ≠ D) (hE : EofAt w ea) (hea : ea.block < w.heap.size)
    (hws : w.heap.size ≤ s) (hb3 : Below w.heap.size w w3) (hec : ∃ x, w.cell? ea = some x) (hdec : Qp.decode src = (out, 5)) (hlim : src.length ≤ 140737488355000) :
    Calls Tryd.prog 41 #[rdv k s] w3 fun e w4 => ∃ R, e = .returned (.pointer (some ⟨R, 0, none⟩)) ∧
      Calls Tryd.prog 40 #[.iface 51 (.pointer (some ⟨R, 0, none⟩))] w4 (DecBad out w) := by
  have hE3 : EofAt w3 ea := hE.keep (Keep.new (S := fun _ => False) hb3) id
  have hz : 0 < w.heap.size := cell_lt hE
  refine (newQ_any (k := k) (w := w3) s).mono ?_
  rintro e w4 ⟨R, _, rfl, h2, h3, h4, h5, h6⟩
  refine ⟨R, rfl, (all_start5 hsrc hD hsD hE3 (by omega) (Nat.lt_of_lt_of_le hea hb3.size) h2 h3 h4 h5 h6 (by obtain ⟨x, hx⟩ := hec; exact ⟨x, below_cell hb3 _ _ hx⟩) (by omega) hdec hlim).mono ?_⟩
  rintro e w5 ⟨v, rfl, h7, h8⟩
  refine ⟨v, rfl, own_mono h7 (Nat.le_trans hb3.size h6.size), (hb3.trans (h6.mono hb3.size)).trans (h8.to_below ?_ ?_)⟩
  · exact Nat.le_trans hb3.size h6.size
  · rintro b hb (e | e)
    · omega
    · have := hb3.size; omega

theorem copied_dec5 {w w2 : World} {ea : Addr} {v : Value} {src out : List UInt8} (h : Copied src w w2 v) (hE : EofAt w ea) (hea : ea.block < w.heap.size) (hec : ∃ x, w.cell? ea = some x) (hdec : Qp.decode src = (out, 5)) (hlim : src.length ≤ 140737488355000) :
    Calls Tryd.prog 41 #[.iface 53 (.pointer (some ⟨w2.heap.size, 0, none⟩))] (w2.alloc (.cells #[v, .int .i64 0, .int .i64 (-1)] 86)) fun e w4 => ∃ R, e = .returned (.pointer (some ⟨R, 0, none⟩)) ∧
      Calls Tryd.prog 40 #[.iface 51 (.pointer (some ⟨R, 0, none⟩))] w4 (DecBad out w) := by
  obtain ⟨g, cap, rfl, hg, hg2, hbs, hb⟩ := h
  have hb2 : Below w2.heap.size w2 (w2.alloc (.cells #[.slice (some ⟨g, 0, none⟩) src.length cap, .int .i64 0, .int .i64 (-1)] 86)) := (Below.refl _ _).alloc (Nat.le_refl _) _
  refine dec_tail5 (k := false) (s := w2.heap.size) (D := g) (src := src) ⟨_, src, 0, -1, heap_alloc_new _ _, hbs.below hb2, rfl, Nat.zero_le _, rfl⟩ (by rw [World.size_alloc]; omega) (by omega) hE hea hb.size (hb.trans (hb2.mono hb.size)) hec hdec hlim

set_option maxRecDepth 100000 in
set_option maxHeartbeats 1600000 in
theorem Decode_bad {w : World} {ea : Addr} {v : Value} {src out : List UInt8} (h : Bs w v src) (hE : EofAt w ea) (hea : ea.block < w.heap.size) (hec : ∃ x, w.cell? ea = some x) (hdec : Qp.decode src = (out, 5)) (hlim : src.length ≤ 140737488355000) :
    Calls Tryd.prog 21 #[v] w (DecBad out w) := by
  obtain ⟨i0, hi, hz0, hz1, hz2⟩ := info_parts info5
  have HC := Lib.hid (fun (w2 : World) (v : Value) (h : Copied src w w2 v) => copied_dec5 h hE hea hec hdec hlim)
  clear hE hea hec hdec
  rcases h.src with ⟨rfl, rfl⟩ | ⟨ad, cap1, rfl, hpc, hpm, hnews⟩
  · clear h
    go_enter Tryd.func21, Tryd.ntmps21
    go_wp2_with fail
    refine newBytes_any.mono ?_
    rintro e w3 ⟨rfl, hw3⟩
    have HN := Lib.hid (HC.out _ _ (copied_nil w))
    rw [hw3, World.size_alloc] at HN
    clear HC hw3
    go_wp2_with fail
    refine HN.out.mono ?_
    rintro e w4 ⟨R, rfl, hall⟩
    have HA := Lib.hid hall
    clear hall HN
    go_wp2_with fail
    refine HA.out.mono ?_
    rintro e w5 ⟨v5, rfl, h5, h6⟩
    have H5 := Lib.hid h5
    have H6 := Lib.hid h6
    clear h5 h6 HA
    go_wp2
    go_ret2
    exact ⟨v5, rfl, H5.out, H6.out⟩
  · clear h
    have hown : (w.alloc (.cells #[] 5)).ownsRow w.heap.size 5 1 (.slice (some ⟨w.heap.size, 0, none⟩) 0 0) 0 [] :=
      ⟨rfl, .inr ⟨w.heap.size, 0, #[], rfl, Nat.le_refl _, heap_alloc_new _ _, Nat.le_refl _, Nat.zero_le _, rfl, rfl⟩⟩
    have HN := Lib.hid (fun j u (hj : (Lib.byteCells src)[j]? = some u) => below_cell (w := w) (w' := w.alloc (.cells #[] 5)) ((Below.refl _ _).alloc (Nat.le_refl _) _) _ _ (hnews j u hj))
    have hl1 : (Lib.byteCells src).length = src.length * 1 := by simp [byteCells_length]
    have hsz : w.heap.size ≤ (w.alloc (.cells #[] 5)).heap.size := by rw [World.size_alloc]; omega
    clear hnews
    go_enter Tryd.func21, Tryd.ntmps21
    go_wp2_with (at_builtin; refine wpList_append_own _ rfl (.tmp 4) (.tmp 5) 24 rfl w.heap.size 5 i0 (.int .u8 0) 1 1 Tryd.underlying24 hi hz0 hz1 hz2 rfl (by decide) _ _ _ rfl hown ad src.length cap1 (Lib.byteCells src) rfl hl1 HN.out (Lib.byteCells_one _) (by unfold maxLen; omega) (by omega) hsz ?_; intro v' w2 hown' hgrow hnil; have hcp := copied_own hown' hgrow (fun e => by have := (hnil.1 e).1; cases this); obtain ⟨g, cap2, rfl, -⟩ := id hcp; have HCP := Lib.hid hcp; clear hown' hgrow hnil hcp)
    go_wp2_with fail
    refine newBytes_any.mono ?_
    rintro e w3 ⟨rfl, hw3⟩
    have HN3 := Lib.hid (HC.out _ _ HCP.out)
    rw [hw3] at HN3
    clear HC hw3 HCP
    go_wp2_with fail
    refine HN3.out.mono ?_
    rintro e w4 ⟨R, rfl, hall⟩
    have HA := Lib.hid hall
    clear hall HN3
    go_wp2_with fail
    refine HA.out.mono ?_
    rintro e w5 ⟨v5, rfl, h5, h6⟩
    have H5 := Lib.hid h5
    have H6 := Lib.hid h6
    clear h5 h6 HA
    go_wp2
    go_ret2
    exact ⟨v5, rfl, H5.out, H6.out⟩

end Go.Proofs.YthfkgancjpdodaaDoor

/- The walk of impl.all over the Reader. -/
import Derived.Test.YtcbolmendjocbaaDoorRr1
import Derived.Test.YtcbolmendjocbaaDoorR13
import Derived.Test.YtcbolmendjocbaaDoorR13c
namespace Go.Proofs.YtcbolmendjocbaaDoor
open Go.RowKit Qp

theorem Keep.grown {S : Nat → Prop} {a b c : World} {v : Value} (h : Keep S a b) (hg : b.grownBy c v.ownBlock) (hv : ∀ g, v.ownBlock = some g → S g) : Keep S a c :=
  ⟨hg.os.trans h.os, hg.tape.trans h.tape, hg.output.trans h.output, Nat.le_trans h.size hg.size, fun k hk hn => (hg.block k (Nat.lt_of_lt_of_le hk h.size) (fun e => hn (hv k e.symm))).trans (h.block k hk hn)⟩
theorem own_keep {S : Nat → Prop} {w w' : World} {B e s n : Nat} {v : Value} {xs : List Value} (h : w.ownsRow B e s v n xs) (hk : Keep S w w') (hS : ∀ g, B ≤ g → ¬ S g) : w'.ownsRow B e s v n xs := by
  refine ⟨h.1, ?_⟩
  rcases h.2 with h | ⟨g, cap, cur, h1, h2, h3, h4⟩
  · exact .inl h
  · exact .inr ⟨g, cap, cur, h1, h2, by rw [hk.block g (Lib.lt_of_heap h3) (hS g h2)]; exact h3, h4⟩

theorem QAt.keep {S : Nat → Prop} {k : Bool} {ea : Addr} {R Bu Bf s D : Nat} {w w' : World} {st : RS} {ev lv : Value} {r n : Nat} {buf d : List UInt8} (h : QAt k ea R Bu Bf s D w st ev lv r n buf d) (hk : Keep S w w')
    (h1 : ¬ S R) (h2 : ¬ S Bu) (h3 : ¬ S Bf) (h4 : ¬ S s) (h5 : ¬ S D) (h6 : ¬ S 0) (hm : Mild R Bu Bf s w S) : QAt k ea R Bu Bf s D w' st ev lv r n buf d := by
  refine ⟨h.rdr.keep hk h1, h.bs.keepN hk (fun hl g hg => ?_), h.own, h.rs.here hk h2 h3 h4 h5, h.rest, h.err, h.eof.keep hk h6, Nat.lt_of_lt_of_le h.ebl hk.size, (let ⟨fa, ua, he⟩ := h.env; ⟨fa, ua, he.keep hk hm⟩), fun e => (h.ew e).keep hk hm⟩
  rw [h.own hl] at hg
  injection hg with hg
  subst hg
  exact h3

theorem own_mild {R Bu Bf s : Nat} {w : World} {B e z n : Nat} {v : Value} {xs : List Value} (h : w.ownsRow B e z v n xs) (hR : R ≤ B) (he : e ≠ 86) : Mild R Bu Bf s w (fun b => v.ownBlock = some b) := by
  intro b hb _
  rcases h.2 with ⟨rfl, _⟩ | ⟨g, cap, cur, rfl, h2, h3, _⟩
  · cases hb
  · injection hb with hb
    have hb : g = b := hb
    subst hb
    exact ⟨fun o => by have := o.1; omega, _, _, _, h3, he⟩

/-- what all may turn -/
def Amay (R Bu Bf s P : Nat) (b : Nat) : Prop := b = R ∨ b = Bu ∨ b = Bf ∨ b = s ∨ P ≤ b

/-- where all stands -/
def AllRel (k : Bool) (ea : Addr) (R Bu Bf s D P : Nat) (out : List UInt8) (code : Nat) (w : World) (gk : Nat) (v4 : Value) (wr : World) : Prop :=
  ∃ j st ev lv r n buf d pb, j ≤ out.length ∧ gk = out.length - j ∧ pb.length = 500 ∧ QAt k ea R Bu Bf s D wr st ev lv r n buf d ∧ strm st = (out.drop j, code) ∧ RowB wr P pb ∧
    wr.ownsRow (P + 1) 5 1 v4 (out.take j).length (Lib.byteCells (out.take j)) ∧ Keep (Amay R Bu Bf s P) w wr

theorem out_step (out : List UInt8) (j : Nat) (hj : j ≤ out.length) (h : 500 ≤ (out.drop j).length) : out.take (j + 500) = out.take j ++ (out.drop j).take 500 ∧ ((out.drop j).take 500).length = 500 ∧ (out.drop j).drop 500 = out.drop (j + 500) ∧ j + 500 ≤ out.length := by
  rw [List.length_drop] at h
  refine ⟨?_, by simp; omega, by rw [List.drop_drop], by omega⟩
  rw [List.take_add]
theorem out_last (out : List UInt8) (j : Nat) (h : (out.drop j).length < 500) : out = out.take j ++ (out.drop j).take 500 ∧ ((out.drop j).take 500).length = (out.drop j).length := by
  have e : (out.drop j).take 500 = out.drop j := List.take_of_length_le (by omega)
  rw [e]
  exact ⟨(List.take_append_drop j out).symm, rfl⟩
theorem splice0 (pb l : List UInt8) (hp : pb.length = 500) (hl : l.length ≤ 500) : (splice pb 0 l).length = 500 ∧ ((splice pb 0 l).drop 0).take l.length = l := by
  unfold splice
  constructor
  · simp; omega
  · simp

set_option maxRecDepth 100000 in
set_option maxHeartbeats 3200000 in
theorem all_own {k : Bool} {ea : Addr} {R Bu Bf s D : Nat} {out : List UInt8} {w : World} {st : RS} {ev lv : Value} {r n : Nat} {buf d : List UInt8} (hB : Blocks R Bu Bf s D w.heap.size) (h : QAt k ea R Bu Bf s D w st ev lv r n buf d) (hD : D < w.heap.size)
    (hst : strm st = (out, 1)) (hlim : out.length ≤ 140737488355000) :
    Calls Tryd.prog 16 #[.iface 41 (.pointer (some ⟨R, 0, none⟩))] w fun e w' =>
      ∃ v, e = .returned (.tuple #[v, .bool true]) ∧ w'.ownsRow (w.heap.size + 1) 5 1 v out.length (Lib.byteCells out) ∧ Keep (Amay R Bu Bf s w.heap.size) w w' := by
  obtain ⟨i0, hi, hz0, hz1, hz2⟩ := info_parts info5
  obtain ⟨M, hM⟩ : ∃ M, M = madeCells (Value.int .u8 0).cells ((500 : Int).toNat * i0.size) := ⟨_, rfl⟩
  have hMs : M = (Lib.byteCells (List.replicate 500 0)).toArray := by rw [hM, hz1]; exact made_bytes 500
  have hmk : ∀ W : World, (Instr.makeSlice 22 (.int .i64 500) (.int .i64 500)).run Tryd.prog W = .ok (.slice (some ⟨W.heap.size, 0, none⟩) 500 500) (W.alloc (.cells M 5)) := fun W => by
    have h := run_makeSlice (P := Tryd.prog) W 22 5 i0 (.int .u8 0) Tryd.underlying22 hi hz0 .i64 .i64 500 500 (by omega) (by omega) (by rw [hz1]; decide) (by rw [hz2]; decide) (by decide)
    rw [← hM] at h
    simpa using h
  obtain ⟨P, hP⟩ : ∃ P, P = w.heap.size := ⟨_, rfl⟩
  rw [← hP] at hB ⊢
  have hR := Lib.lt_of_heap h.rdr
  have hBu := h.rs.bu.lt
  have hBf := h.rs.bf.lt
  have hs := h.rs.src.lt
  have hE : 0 < w.heap.size := cell_lt h.eof
  -- the first world
  have hst0 : AllRel k ea R Bu Bf s D P out 1 w out.length (.slice none 0 0) (w.alloc (.cells M 5)) := by
    have k0 : Keep (fun _ => False) w (w.alloc (.cells M 5)) := (Keep.refl _ w).alloc _
    refine ⟨0, st, ev, lv, r, n, buf, d, List.replicate 500 0, Nat.zero_le _, rfl, by simp, h.keep k0 id id id id id id (fun _ h => h.elim), hst, ?_, World.ownsRow_nil _ _ _ _, k0.mono (fun _ _ e => e.elim)⟩
    rw [hMs, hP]
    exact heap_alloc_new w _
  have HST := Lib.hid hst0
  have HB := Lib.hid hB
  have HP := Lib.hid hP
  have HZ := Lib.hid (show R < P ∧ Bu < P ∧ Bf < P ∧ s < P ∧ D < P ∧ 0 < P by rw [hP]; exact ⟨hR, hBu, hBf, hs, hD, hE⟩)
  clear hst0 hB hM hMs h hst hR hBu hBf hs hE hD
  go_enter Tryd.func16, Tryd.ntmps16
  go_wp2
  rw [← hP]
  clear hP hmk
  go_loopg [4] (out.length) (fun gk v4 wr => AllRel k ea R Bu Bf s D P out 1 w gk v4 wr)
  case atStart => exact HST.out
  case round =>
    clear HST
    obtain ⟨j, st, ev, lv, r, n, buf, d, pb, hj, hgk, hpb, hq, hst, hrow, hown, hkeep⟩ := hrel
    have hZ := HZ.out
    have hlen : (out.drop j).length = out.length - j := List.length_drop
    have hPl := hrow.lt
    have HR := Lib.hid (Read_any (mc := 500) (m := 500) (po := 0) (ap := some ⟨P, 0, none⟩) (w := wr) HB.out hq hst (Nat.le_refl _) (by omega) (by omega) hrow (fun _ => rfl))
    have HOWN := Lib.hid hown
    have HK := Lib.hid hkeep
    have HEOF := Lib.hid hq.eof
    have HGK := Lib.hid hgk
    have HPB := Lib.hid hpb
    clear hq hst hrow hown hkeep hZ hgk hpb
    go_wp2_with fail
    refine HR.out.mono ?_
    rintro e w1 ⟨hrow1, hk1, hcase⟩
    have hZ := HZ.out
    have hk1' : Keep (Amay R Bu Bf s P) wr w1 := hk1.mono (fun b _ e => by
      rcases e with e | e | e | e | e
      · exact .inl e
      · exact .inr (.inl e)
      · exact .inr (.inr (.inl e))
      · exact .inr (.inr (.inr (.inl e)))
      · exact .inr (.inr (.inr (.inr (by omega)))))
    have hown1 := own_keep HOWN.out hk1 (fun g hg => by
      rintro (e | e | e | e | e) <;> omega)
    have hP1 := hrow1.lt
    have HOWN1 := Lib.hid hown1
    have HK1 := Lib.hid (HK.out.trans hk1' (fun _ _ e => e))
    have hsz := hk1.size
    rcases hcase with ⟨hle, rfl, st', ev', lv', r', n', buf', d', hq', hst'⟩ | ⟨hlt, v, hv, hc, rfl⟩
    · obtain ⟨o1, o2, o3, o4⟩ := out_step out j hj hle
      obtain ⟨x, hx⟩ : ∃ x, x = (out.drop j).take 500 := ⟨_, rfl⟩
      rw [← hx] at o1 o2 hrow1
      obtain ⟨s1, s2⟩ := splice0 pb x HPB.out (by omega)
      have hbs : Bs w1 (.slice (some ⟨P, 0, none⟩) 500 500) x := hrow1.bs 0 500 500 x o2.symm (by rw [← o2]; exact s2.symm) (by omega) (by omega)
      have HN := Lib.hid (bs_src hbs)
      have hl1 : (Lib.byteCells x).length = 500 * 1 := by simp [byteCells_length, o2]
      have hacc : (out.take j).length = j := by simp; omega
      have HNEXT : Hid (∀ v4 : Value, (∀ r, v4.ownBlock = some r → P + 1 ≤ r) → Mild R Bu Bf s w1 (fun b => v4.ownBlock = some b) → ∀ v' w2, w2.ownsRow (P + 1) 5 1 v' ((out.take j).length + 500) (Lib.byteCells (out.take j) ++ Lib.byteCells x) → w1.grownBy w2 v4.ownBlock → AllRel k ea R Bu Bf s D P out 1 w (out.length - (j + 500)) v' w2) := fun v4 hv4 hm4 v' w2 ho hg => by
        have k2o : Keep (fun b => v4.ownBlock = some b) w1 w2 := (Keep.refl _ w1).grown hg (fun g e => e)
        have k2 : Keep (fun b => P + 1 ≤ b) w1 w2 := (Keep.refl (fun b => P + 1 ≤ b) w1).grown hg hv4
        refine ⟨j + 500, st', ev', lv', r', n', buf', d', _, o4, rfl, s1, hq'.keep k2o (fun e => by have := hv4 _ e; omega) (fun e => by have := hv4 _ e; omega) (fun e => by have := hv4 _ e; omega) (fun e => by have := hv4 _ e; omega) (fun e => by have := hv4 _ e; omega) (fun e => by have := hv4 _ e; omega) hm4, by rw [hst', o3], hrow1.keep k2 (by omega), ?_, HK1.out.trans k2 (fun b _ e => .inr (.inr (.inr (.inr (by omega)))))⟩
        rw [o1, List.length_append, Lib.byteCells_append, o2]
        exact ho
      have h4 : (out.take j).length + 500 ≤ 140737488355000 := by omega
      have HX := Lib.hid hx
      clear hq' hst' o1 o2 o3 s1 s2 hbs hrow1 hown1 hk1 hk1' HK HR HOWN hx hacc hZ hlen HEOF
      go_wp2_with (at_builtin; refine wpList_append_own _ rfl (.tmp 15) (.tmp 18) 22 rfl (P + 1) 5 i0 (.int .u8 0) 1 1 Tryd.underlying22 hi hz0 hz1 hz2 rfl (by decide) _ _ _ rfl HOWN1.out ⟨P, 0, none⟩ 500 500 (Lib.byteCells x) rfl hl1 HN.out (Lib.byteCells_one _) (by unfold maxLen; omega) (by omega) (by omega) ?_; intro v' w2 hown2 hgrow _)
      have HN2 := Lib.hid (HNEXT.out _ (own_ge HOWN1.out) (own_mild HOWN1.out (by have := HZ.out.1; omega) (by decide)) v' w2 hown2 hgrow)
      clear hown2 hgrow
      go_roundg (out.length - (j + 500))
      case measure => rw [HGK.out]; omega
      case rel => exact HN2.out
    · obtain ⟨o1, o2⟩ := out_last out j hlt
      have hve : v = eofv ea := by
        rcases hv.1 with ⟨e, _⟩ | ⟨_, e⟩ | ⟨e, _⟩
        · cases e
        · exact e
        · cases e
      subst hve
      obtain ⟨x, hx⟩ : ∃ x, x = (out.drop j).take 500 := ⟨_, rfl⟩
      rw [← hx] at o1 o2 hrow1
      obtain ⟨q, hq⟩ : ∃ q, q = (out.drop j).length := ⟨_, rfl⟩
      rw [← hq] at o2 hlt ⊢
      obtain ⟨s1, s2⟩ := splice0 pb x HPB.out (by omega)
      have hbs : Bs w1 (.slice (some ⟨P, 0, none⟩) q 500) x := hrow1.bs 0 q 500 x o2.symm (by rw [← o2]; exact s2.symm) (by omega) (by omega)
      have HN := Lib.hid (bs_src hbs)
      have hl1 : (Lib.byteCells x).length = q * 1 := by simp [byteCells_length, o2]
      have hacc : (out.take j).length = j := by simp; omega
      have HEND : Hid (∀ v4 : Value, (∀ r, v4.ownBlock = some r → P + 1 ≤ r) → ∀ v' w2, w2.ownsRow (P + 1) 5 1 v' ((out.take j).length + q) (Lib.byteCells (out.take j) ++ Lib.byteCells x) → w1.grownBy w2 v4.ownBlock → w2.ownsRow (P + 1) 5 1 v' out.length (Lib.byteCells out) ∧ Keep (Amay R Bu Bf s P) w w2 ∧ EofAt w2 ea) := fun v4 hv4 v' w2 ho hg => by
        have k2 : Keep (fun b => P + 1 ≤ b) w1 w2 := (Keep.refl (fun b => P + 1 ≤ b) w1).grown hg hv4
        refine ⟨?_, HK1.out.trans k2 (fun b _ e => .inr (.inr (.inr (.inr (by omega))))), (HEOF.out.keep hk1 ?_).keep k2 (by omega)⟩
        · rw [← Lib.byteCells_append, ← o2, ← List.length_append, ← o1] at ho
          exact ho
        · rintro (e | e | e | e | e)
          · exact HB.out.zr e.symm
          · exact HB.out.zu e.symm
          · exact HB.out.zf e.symm
          · exact HB.out.zs e.symm
          · exact HB.out.zp e.symm
      have h4 : (out.take j).length + q ≤ 140737488355000 := by omega
      have hq1 : (q : Int) ≤ 500 := by omega
      have hq2 : q ≤ 500 := by omega
      have HX := Lib.hid hx
      have HQ := Lib.hid hq
      have heq : ∀ W, (binOp .eql 46 (eofv ea) (eofv ea)).run Tryd.prog W = .ok (.bool true) W := fun W => eof_same ea W
      clear o1 o2 s1 s2 hbs hrow1 hown1 hk1 hk1' HK HR HOWN hx hq hacc hZ hlen HEOF hv hc
      unfold eofv at heq ⊢
      dsimp only
      go_wp2_with (at_builtin; refine wpList_append_own _ rfl (.tmp 15) (.tmp 18) 22 rfl (P + 1) 5 i0 (.int .u8 0) 1 1 Tryd.underlying22 hi hz0 hz1 hz2 rfl (by decide) _ _ _ rfl HOWN1.out ⟨P, 0, none⟩ q 500 (Lib.byteCells x) rfl hl1 HN.out (Lib.byteCells_one _) (by unfold maxLen; omega) (by omega) (by omega) ?_; intro v' w2 hown2 hgrow _; obtain ⟨g1, g2, g3⟩ := HEND.out _ (own_ge HOWN1.out) v' w2 hown2 hgrow; have G1 := Lib.hid g1; have G2 := Lib.hid g2; clear g1 g2 hown2 hgrow; unfold EofAt eofv at g3)
      go_quiet (fail)
      go_wp2
      go_ret2
      exact ⟨_, rfl, own_keep G1.out ((Keep.refl (fun _ => False) _).drewN _) (fun _ _ => id), G2.out.drewN _⟩

set_option maxRecDepth 100000 in
set_option maxHeartbeats 3200000 in
theorem all_bad {k : Bool} {ea : Addr} {R Bu Bf s D : Nat} {out : List UInt8} {w : World} {st : RS} {ev lv : Value} {r n : Nat} {buf d : List UInt8} (hB : Blocks R Bu Bf s D w.heap.size) (h : QAt k ea R Bu Bf s D w st ev lv r n buf d) (hD : D < w.heap.size)
    (hst : strm st = (out, 2)) (hlim : out.length ≤ 140737488355000) :
    Calls Tryd.prog 16 #[.iface 41 (.pointer (some ⟨R, 0, none⟩))] w fun e w' =>
      ∃ v, e = .returned (.tuple #[v, .bool false]) ∧ w'.ownsRow (w.heap.size + 1) 5 1 v out.length (Lib.byteCells out) ∧ Keep (Amay R Bu Bf s w.heap.size) w w' := by
  obtain ⟨i0, hi, hz0, hz1, hz2⟩ := info_parts info5
  obtain ⟨M, hM⟩ : ∃ M, M = madeCells (Value.int .u8 0).cells ((500 : Int).toNat * i0.size) := ⟨_, rfl⟩
  have hMs : M = (Lib.byteCells (List.replicate 500 0)).toArray := by rw [hM, hz1]; exact made_bytes 500
  have hmk : ∀ W : World, (Instr.makeSlice 22 (.int .i64 500) (.int .i64 500)).run Tryd.prog W = .ok (.slice (some ⟨W.heap.size, 0, none⟩) 500 500) (W.alloc (.cells M 5)) := fun W => by
    have h := run_makeSlice (P := Tryd.prog) W 22 5 i0 (.int .u8 0) Tryd.underlying22 hi hz0 .i64 .i64 500 500 (by omega) (by omega) (by rw [hz1]; decide) (by rw [hz2]; decide) (by decide)
    rw [← hM] at h
    simpa using h
  obtain ⟨P, hP⟩ : ∃ P, P = w.heap.size := ⟨_, rfl⟩
  rw [← hP] at hB ⊢
  have hR := Lib.lt_of_heap h.rdr
  have hBu := h.rs.bu.lt
  have hBf := h.rs.bf.lt
  have hs := h.rs.src.lt
  have hE : 0 < w.heap.size := cell_lt h.eof
  -- the first world
  have hst0 : AllRel k ea R Bu Bf s D P out 2 w out.length (.slice none 0 0) (w.alloc (.cells M 5)) := by
    have k0 : Keep (fun _ => False) w (w.alloc (.cells M 5)) := (Keep.refl _ w).alloc _
    refine ⟨0, st, ev, lv, r, n, buf, d, List.replicate 500 0, Nat.zero_le _, rfl, by simp, h.keep k0 id id id id id id (fun _ h => h.elim), hst, ?_, World.ownsRow_nil _ _ _ _, k0.mono (fun _ _ e => e.elim)⟩
    rw [hMs, hP]
    exact heap_alloc_new w _
  have HST := Lib.hid hst0
  have HB := Lib.hid hB
  have HP := Lib.hid hP
  have HZ := Lib.hid (show R < P ∧ Bu < P ∧ Bf < P ∧ s < P ∧ D < P ∧ 0 < P by rw [hP]; exact ⟨hR, hBu, hBf, hs, hD, hE⟩)
  clear hst0 hB hM hMs h hst hR hBu hBf hs hE hD
  go_enter Tryd.func16, Tryd.ntmps16
  go_wp2
  rw [← hP]
  clear hP hmk
  go_loopg [4] (out.length) (fun gk v4 wr => AllRel k ea R Bu Bf s D P out 2 w gk v4 wr)
  case atStart => exact HST.out
  case round =>
    clear HST
    obtain ⟨j, st, ev, lv, r, n, buf, d, pb, hj, hgk, hpb, hq, hst, hrow, hown, hkeep⟩ := hrel
    have hZ := HZ.out
    have hlen : (out.drop j).length = out.length - j := List.length_drop
    have hPl := hrow.lt
    have HR := Lib.hid (Read_any (mc := 500) (m := 500) (po := 0) (ap := some ⟨P, 0, none⟩) (w := wr) HB.out hq hst (Nat.le_refl _) (by omega) (by omega) hrow (fun _ => rfl))
    have HOWN := Lib.hid hown
    have HK := Lib.hid hkeep
    have HEOF := Lib.hid hq.eof
    obtain ⟨fa, ua, hen⟩ := hq.env
    have HENV := Lib.hid (fun (w1 : World) (hk : Keep (Rmay R Bu Bf s P) wr w1) => hen.keep hk (hq.mildR HB.out hrow))
    clear hen
    have HGK := Lib.hid hgk
    have HPB := Lib.hid hpb
    clear hq hst hrow hown hkeep hZ hgk hpb
    go_wp2_with fail
    refine HR.out.mono ?_
    rintro e w1 ⟨hrow1, hk1, hcase⟩
    have hZ := HZ.out
    have hk1' : Keep (Amay R Bu Bf s P) wr w1 := hk1.mono (fun b _ e => by
      rcases e with e | e | e | e | e
      · exact .inl e
      · exact .inr (.inl e)
      · exact .inr (.inr (.inl e))
      · exact .inr (.inr (.inr (.inl e)))
      · exact .inr (.inr (.inr (.inr (by omega)))))
    have hown1 := own_keep HOWN.out hk1 (fun g hg => by
      rintro (e | e | e | e | e) <;> omega)
    have hP1 := hrow1.lt
    have HOWN1 := Lib.hid hown1
    have HK1 := Lib.hid (HK.out.trans hk1' (fun _ _ e => e))
    have hsz := hk1.size
    rcases hcase with ⟨hle, rfl, st', ev', lv', r', n', buf', d', hq', hst'⟩ | ⟨hlt, v, hv, hc, rfl⟩
    · obtain ⟨o1, o2, o3, o4⟩ := out_step out j hj hle
      obtain ⟨x, hx⟩ : ∃ x, x = (out.drop j).take 500 := ⟨_, rfl⟩
      rw [← hx] at o1 o2 hrow1
      obtain ⟨s1, s2⟩ := splice0 pb x HPB.out (by omega)
      have hbs : Bs w1 (.slice (some ⟨P, 0, none⟩) 500 500) x := hrow1.bs 0 500 500 x o2.symm (by rw [← o2]; exact s2.symm) (by omega) (by omega)
      have HN := Lib.hid (bs_src hbs)
      have hl1 : (Lib.byteCells x).length = 500 * 1 := by simp [byteCells_length, o2]
      have hacc : (out.take j).length = j := by simp; omega
      have HNEXT : Hid (∀ v4 : Value, (∀ r, v4.ownBlock = some r → P + 1 ≤ r) → Mild R Bu Bf s w1 (fun b => v4.ownBlock = some b) → ∀ v' w2, w2.ownsRow (P + 1) 5 1 v' ((out.take j).length + 500) (Lib.byteCells (out.take j) ++ Lib.byteCells x) → w1.grownBy w2 v4.ownBlock → AllRel k ea R Bu Bf s D P out 2 w (out.length - (j + 500)) v' w2) := fun v4 hv4 hm4 v' w2 ho hg => by
        have k2o : Keep (fun b => v4.ownBlock = some b) w1 w2 := (Keep.refl _ w1).grown hg (fun g e => e)
        have k2 : Keep (fun b => P + 1 ≤ b) w1 w2 := (Keep.refl (fun b => P + 1 ≤ b) w1).grown hg hv4
        refine ⟨j + 500, st', ev', lv', r', n', buf', d', _, o4, rfl, s1, hq'.keep k2o (fun e => by have := hv4 _ e; omega) (fun e => by have := hv4 _ e; omega) (fun e => by have := hv4 _ e; omega) (fun e => by have := hv4 _ e; omega) (fun e => by have := hv4 _ e; omega) (fun e => by have := hv4 _ e; omega) hm4, by rw [hst', o3], hrow1.keep k2 (by omega), ?_, HK1.out.trans k2 (fun b _ e => .inr (.inr (.inr (.inr (by omega)))))⟩
        rw [o1, List.length_append, Lib.byteCells_append, o2]
        exact ho
      have h4 : (out.take j).length + 500 ≤ 140737488355000 := by omega
      have HX := Lib.hid hx
      clear hq' hst' o1 o2 o3 s1 s2 hbs hrow1 hown1 hk1 hk1' HK HR HOWN hx hacc hZ hlen HEOF HENV
      go_wp2_with (at_builtin; refine wpList_append_own _ rfl (.tmp 15) (.tmp 18) 22 rfl (P + 1) 5 i0 (.int .u8 0) 1 1 Tryd.underlying22 hi hz0 hz1 hz2 rfl (by decide) _ _ _ rfl HOWN1.out ⟨P, 0, none⟩ 500 500 (Lib.byteCells x) rfl hl1 HN.out (Lib.byteCells_one _) (by unfold maxLen; omega) (by omega) (by omega) ?_; intro v' w2 hown2 hgrow _)
      have HN2 := Lib.hid (HNEXT.out _ (own_ge HOWN1.out) (own_mild HOWN1.out (by have := HZ.out.1; omega) (by decide)) v' w2 hown2 hgrow)
      clear hown2 hgrow
      go_roundg (out.length - (j + 500))
      case measure => rw [HGK.out]; omega
      case rel => exact HN2.out
    · obtain ⟨o1, o2⟩ := out_last out j hlt
      obtain ⟨a, hve, hge⟩ := hv.2 rfl
      subst hve
      have HGE := Lib.hid hge
      have HEN1 := Lib.hid (HENV.out w1 hk1)
      clear hge
      obtain ⟨x, hx⟩ : ∃ x, x = (out.drop j).take 500 := ⟨_, rfl⟩
      rw [← hx] at o1 o2 hrow1
      obtain ⟨q, hq⟩ : ∃ q, q = (out.drop j).length := ⟨_, rfl⟩
      rw [← hq] at o2 hlt ⊢
      obtain ⟨s1, s2⟩ := splice0 pb x HPB.out (by omega)
      have hbs : Bs w1 (.slice (some ⟨P, 0, none⟩) q 500) x := hrow1.bs 0 q 500 x o2.symm (by rw [← o2]; exact s2.symm) (by omega) (by omega)
      have HN := Lib.hid (bs_src hbs)
      have hl1 : (Lib.byteCells x).length = q * 1 := by simp [byteCells_length, o2]
      have hacc : (out.take j).length = j := by simp; omega
      have HEND : Hid (∀ v4 : Value, (∀ r, v4.ownBlock = some r → P + 1 ≤ r) → Mild R Bu Bf s w1 (fun b => v4.ownBlock = some b) → ∀ v' w2, w2.ownsRow (P + 1) 5 1 v' ((out.take j).length + q) (Lib.byteCells (out.take j) ++ Lib.byteCells x) → w1.grownBy w2 v4.ownBlock → w2.ownsRow (P + 1) 5 1 v' out.length (Lib.byteCells out) ∧ Keep (Amay R Bu Bf s P) w w2 ∧ EofAt w2 ea ∧ ErrB R Bu Bf s ea w2 a ∧ ∃ x, w2.cell? ea = some x) := fun v4 hv4 hm4 v' w2 ho hg => by
        have k2o : Keep (fun b => v4.ownBlock = some b) w1 w2 := (Keep.refl _ w1).grown hg (fun g e => e)
        have k2 : Keep (fun b => P + 1 ≤ b) w1 w2 := (Keep.refl (fun b => P + 1 ≤ b) w1).grown hg hv4
        refine ⟨?_, HK1.out.trans k2 (fun b _ e => .inr (.inr (.inr (.inr (by omega))))), (HEOF.out.keep hk1 ?_).keep k2 (by omega), ?_, ?_⟩
        · rw [← Lib.byteCells_append, ← o2, ← List.length_append, ← o1] at ho
          exact ho
        · rintro (e | e | e | e | e)
          · exact HB.out.zr e.symm
          · exact HB.out.zu e.symm
          · exact HB.out.zf e.symm
          · exact HB.out.zs e.symm
          · exact HB.out.zp e.symm
        · exact HGE.out.keep k2o hm4
        · exact (HEN1.out.keep k2o hm4).eac
      have h4 : (out.take j).length + q ≤ 140737488355000 := by omega
      have hq1 : (q : Int) ≤ 500 := by omega
      have hq2 : q ≤ 500 := by omega
      have HX := Lib.hid hx
      have HQ := Lib.hid hq
      have HEQ := Lib.hid (fun W (h1 : ErrB R Bu Bf s ea W a) (h2 : ∃ x, W.cell? ea = some x) => let ⟨hne, _, _, hh, _⟩ := h1; eof_far W hh h2 hne)
      clear o1 o2 s1 s2 hbs hrow1 hown1 hk1 hk1' HK HR HOWN hx hq hacc hZ hlen HEOF HENV HGE HEN1 hv hc
      unfold eofv
      dsimp only
      go_wp2_with (at_builtin; refine wpList_append_own _ rfl (.tmp 15) (.tmp 18) 22 rfl (P + 1) 5 i0 (.int .u8 0) 1 1 Tryd.underlying22 hi hz0 hz1 hz2 rfl (by decide) _ _ _ rfl HOWN1.out ⟨P, 0, none⟩ q 500 (Lib.byteCells x) rfl hl1 HN.out (Lib.byteCells_one _) (by unfold maxLen; omega) (by omega) (by omega) ?_; intro v' w2 hown2 hgrow _; obtain ⟨g1, g2, g3, g4, g5⟩ := HEND.out _ (own_ge HOWN1.out) (own_mild HOWN1.out (by have := HZ.out.1; omega) (by decide)) v' w2 hown2 hgrow; have heq := fun (jj : Nat) => HEQ.out (w2.drewN jj) g4 g5; have G1 := Lib.hid g1; have G2 := Lib.hid g2; clear g1 g2 g4 g5 hown2 hgrow; unfold EofAt eofv at g3; unfold eofv at heq)
      go_quiet (fail)
      go_wp2
      go_ret2
      exact ⟨_, rfl, own_keep G1.out ((Keep.refl (fun _ => False) _).drewN _) (fun _ _ => id), G2.out.drewN _⟩

theorem all_any {k : Bool} {ea : Addr} {R Bu Bf s D : Nat} {out : List UInt8} {code : Nat} {w : World} {st : RS} {ev lv : Value} {r n : Nat} {buf d : List UInt8} (hB : Blocks R Bu Bf s D w.heap.size) (h : QAt k ea R Bu Bf s D w st ev lv r n buf d) (hD : D < w.heap.size)
    (hst : strm st = (out, code)) (hc : code = 1 ∨ code = 2) (hlim : out.length ≤ 140737488355000) :
    Calls Tryd.prog 16 #[.iface 41 (.pointer (some ⟨R, 0, none⟩))] w fun e w' =>
      ∃ v, e = .returned (.tuple #[v, .bool (code == 1)]) ∧ w'.ownsRow (w.heap.size + 1) 5 1 v out.length (Lib.byteCells out) ∧ Keep (Amay R Bu Bf s w.heap.size) w w' := by
  rcases hc with rfl | rfl
  · exact all_own hB h hD hst hlim
  · exact all_bad hB h hD hst hlim
end Go.Proofs.YtcbolmendjocbaaDoor

/- The drawn region of FnControl (printed by gen16.py). -/
import Derived.Test.YthfkgancjpdodaaDoorPd
namespace Go.Proofs.YthfkgancjpdodaaDoor
open Go.RowKit Qp

noncomputable def ctl_regionC : Code := ((Tryd.f6.body.bind (regAt16 6)).getD .skip)

set_option maxRecDepth 100000 in
set_option maxHeartbeats 6400000 in
theorem ctl_region {Q : Exit → Act → World → Prop} (hQ : ∀ c a a' w, Q (.panic c) a w → Q (.panic c) a' w) {res : List UInt8} {A0 : Act} {w : World} {ao : Option Addr} {n j cap : Nat} (b : UInt8) {l1 l3 : List UInt8} (hs : A0.tmps.size = 77) (h7 : A0.eval (.tmp 7) = .slice ao n cap) (h1 : A0.eval (.tmp 1) = .int .i64 j) (h2 : A0.eval (.tmp 2) = .int .u8 b.toNat)
    (hj : (j : Int) ≤ n) (hc : (j : Int) ≤ cap)
    (HC1 : ∀ w2, Below w.heap.size w w2 → Calls Tryd.prog 29 #[sliced ao 0 j cap 3] w2 fun e w' => ∃ v', e = .returned v' ∧ w'.ownsRow w2.heap.size 5 1 v' l1.length (Lib.byteCells l1) ∧ Below w2.heap.size w2 w')
    (HC3 : ∀ w2, Below w.heap.size w w2 → Calls Tryd.prog 29 #[sliced ao j n cap 3] w2 fun e w' => ∃ v', e = .returned v' ∧ w'.ownsRow w2.heap.size 5 1 v' l3.length (Lib.byteCells l3) ∧ Below w2.heap.size w2 w')
    (hl12 : l1.length + [b].length ≤ 140737488355328) (hl23 : (l1 ++ [b]).length + l3.length ≤ 140737488355328)
    (hdec : ∀ (w2 : World) (v : Value), Bs w2 v (l1 ++ [b] ++ l3) → Below w.heap.size w w2 → Calls Tryd.prog 21 #[v] w2 fun e w' => ∃ v', e = .returned (.tuple #[v', .bool false]) ∧ Bs w' v' res ∧ Below w2.heap.size w2 w') (hend : ∀ (y0 y1 y2 y3 y4 y5 y6 y7 y8 y9 y10 y11 y12 y13 y14 y15 y16 : Value) (w' : World), Bs w' y16 res → Below w.heap.size w w' → Q .normal ((((((((((((((((((A0.put (some 52) y0).put (some 53) y1).put (some 54) y2).put (some 55) y3).put (some 56) y4).put (some 57) y5).put (some 58) y6).put (some 59) y7).put (some 60) y8).put (some 61) y9).put (some 62) y10).put (some 63) y11).put (some 64) y12).put (some 51) y13).put (some 65) y14).put (some 66) y15).put (some 9) y16).put (some 10) (.bool false)) w') :
    Code.wp Tryd.prog ctl_regionC Q A0 w := by
  have hj0 : (0 : Int) ≤ j := by omega
  have HB : Below w.heap.size w w.drew := (Below.refl _ _).drew
  conv => arg 2; whnf
  refine wp_region_any (by kernel_rfl) ?_
  change wpAny _ _ _ _ 18 (Array.replicate 18 false) _ (World.drew _)
  obtain ⟨wd, hwd⟩ : ∃ wd, wd = w.drew := ⟨_, rfl⟩
  rw [← hwd] at HB ⊢
  clear hwd
  refine any_val (i := 0) (v := .slice ao n cap) rfl (by kernel_rfl) (by kernel_rfl) (by kernel_rfl) hQ (want_none rfl) (fun w => by simp [execOp, h7]) ?_
  refine any_val (i := 1) (v := .int .i64 j) rfl (by kernel_rfl) (by kernel_rfl) (by kernel_rfl) hQ (want_none rfl) (fun w => by simp [execOp, Act.eval_put_ne, h1]) ?_
  refine any_val (i := 2) (v := sliced ao 0 j cap 3) rfl (by kernel_rfl) (by kernel_rfl) (by kernel_rfl) hQ (want_none rfl) (fun w => by simp [go_sem, execOp, hs, hc, hj0]) ?_
  refine any_val (i := 4) (v := .int .u8 b.toNat) rfl (by kernel_rfl) (by kernel_rfl) (by kernel_rfl) hQ (want_none rfl) (fun w => by simp [execOp, Act.eval_put_ne, h2]) ?_
  refine any_val (i := 7) (v := .slice ao n cap) rfl (by kernel_rfl) (by kernel_rfl) (by kernel_rfl) hQ (want_none rfl) (fun w => by simp [execOp, Act.eval_put_ne, h7]) ?_
  refine any_val (i := 8) (v := .int .i64 j) rfl (by kernel_rfl) (by kernel_rfl) (by kernel_rfl) hQ (want_none rfl) (fun w => by simp [execOp, Act.eval_put_ne, h1]) ?_
  refine any_val (i := 9) (v := sliced ao j n cap 3) rfl (by kernel_rfl) (by kernel_rfl) (by kernel_rfl) hQ (want_none rfl) (fun w => by simp [go_sem, execOp, hs, hj, hj0]) ?_
  refine wpAny_ready (rs := [3, 5]) (by kernel_rfl) (by simp) (AllReady.cons rfl (fun K hK => ?_) (AllReady.cons rfl (fun K hK => ?_) AllReady.nil))
  · refine st_call (f := 29) (args := #[sliced ao 0 j cap 3]) (want_none rfl) (by simp [go_sem, execOp, resolve, invoke, hs]) (HC1 _ HB) ?_
    rintro e wn ⟨v1, rfl, ho, hb⟩
    refine ⟨_, rfl, hK _ _ ?_⟩
    have o1 := own_mono ho HB.size
    have HB := HB.trans (hb.mono HB.size)
    clear ho hb hK
    refine wpAny_ready (rs := [5]) (by kernel_rfl) (by simp) (AllReady.cons rfl (fun K hK => ?_) AllReady.nil)
    obtain ⟨vp, hvp⟩ : ∃ vp, vp = Value.slice (some ⟨wn.heap.size, 0, none⟩) 1 1 := ⟨_, rfl⟩
    obtain ⟨wb, hwb⟩ : ∃ wb, wb = wn.alloc (.cells #[.int .u8 b.toNat] 5) := ⟨_, rfl⟩
    have hbA : Below wn.heap.size wn wb := by rw [hwb]; exact (Below.refl _ _).alloc (Nat.le_refl _) _
    have hp : Bs wb vp [b] := by rw [hwb, hvp]; exact lit_bs wn [b] (0, 0) 1 rfl (by omega) #[.int .u8 b.toNat] rfl
    refine st_run (v := vp) (w' := wb) (want_none rfl) (by rw [hvp, hwb]; simp [go_sem, execOp, hs]) (hK _ _ ?_)
    have o1 := own_below o1 hbA
    have HB := HB.trans (hbA.mono HB.size)
    clear hbA hvp hwb hK
    refine wpAny_ready (rs := [6]) (by kernel_rfl) (by simp) (AllReady.cons rfl (fun K hK => ?_) AllReady.nil)
    refine step_append_bs rfl (.tmp 55) (.tmp 57) rfl w.heap.size v1 vp (by simp [Act.eval_put_same, Act.eval_put_ne, Act.size_put, hs]) (by simp [Act.eval_put_same, Act.size_put, hs]) o1 hp hl12 HB.size ?_
    intro v2 wn ho hk hk2
    refine hK _ _ ?_
    have o2 := ho
    have HB := below_keep HB hk (Nat.le_refl _)
    clear ho hk hk2 hK
    refine wpAny_ready (rs := [10]) (by kernel_rfl) (by simp) (AllReady.cons rfl (fun K hK => ?_) AllReady.nil)
    refine st_call (f := 29) (args := #[sliced ao j n cap 3]) (want_none rfl) (by simp [go_sem, execOp, resolve, invoke, hs]) (HC3 _ HB) ?_
    rintro e wn ⟨v3, rfl, ho, hb⟩
    refine ⟨_, rfl, hK _ _ ?_⟩
    have o3 := own_mono ho HB.size
    have o2 := own_below o2 hb
    have b3 := Bs.of_own ho
    have HB := HB.trans (hb.mono HB.size)
    clear ho hb hK
    refine wpAny_ready (rs := [11]) (by kernel_rfl) (by simp) (AllReady.cons rfl (fun K hK => ?_) AllReady.nil)
    refine step_append_bs rfl (.tmp 58) (.tmp 62) rfl w.heap.size v2 v3 (by simp [Act.eval_put_same, Act.eval_put_ne, Act.size_put, hs]) (by simp [Act.eval_put_same, Act.size_put, hs]) o2 b3 hl23 HB.size ?_
    intro v4 we ho hk hk2
    refine hK _ _ ?_
    have HB := below_keep HB hk (Nat.le_refl _)
    have bF := Bs.of_own ho
    clear ho hk hk2 hK
    refine wpAny_ready (rs := [12]) (by kernel_rfl) (by simp) (AllReady.cons rfl (fun K hK => ?_) AllReady.nil)
    refine st_call (f := 21) (args := #[v4]) (want_none rfl) (by simp [go_sem, execOp, resolve, invoke, hs]) (hdec _ _ bF HB) ?_
    rintro e wf ⟨r0, rfl, bR, hbR⟩
    refine ⟨_, rfl, hK _ _ ?_⟩
    have HB := HB.trans (hbR.mono HB.size)
    clear hK hbR
    refine any_val (i := 13) (v := .tuple #[r0, .bool false]) rfl (by kernel_rfl) (by kernel_rfl) (by kernel_rfl) hQ (want_none rfl) (fun w => by simp [execOp, Act.eval_put_same, Act.size_put, hs]) ?_
    refine any_val (i := 14) (v := r0) rfl (by kernel_rfl) (by kernel_rfl) (by kernel_rfl) hQ (want_none rfl) (fun w => by simp [go_sem, execOp, hs]) ?_
    refine any_val (i := 15) (v := .bool false) rfl (by kernel_rfl) (by kernel_rfl) (by kernel_rfl) hQ (want_none rfl) (fun w => by simp [go_sem, execOp, hs]) ?_
    refine any_val (i := 16) (v := r0) rfl (by kernel_rfl) (by kernel_rfl) (by kernel_rfl) hQ (want_none rfl) (fun w => by simp [execOp, Act.eval_put_same, Act.eval_put_ne, Act.size_put, hs]) ?_
    refine any_val (i := 17) (v := .bool false) rfl (by kernel_rfl) (by kernel_rfl) (by kernel_rfl) hQ (want_none rfl) (fun w => by simp [execOp, Act.eval_put_same, Act.eval_put_ne, Act.size_put, hs]) ?_
    refine any_done ((((((((((((((((((A0.put (some 52) (.slice ao n cap)).put (some 53) (.int .i64 j)).put (some 54) (sliced ao 0 j cap 3)).put (some 56) (.int .u8 b.toNat)).put (some 59) (.slice ao n cap)).put (some 60) (.int .i64 j)).put (some 61) (sliced ao j n cap 3)).put (some 55) v1).put (some 57) vp).put (some 58) v2).put (some 62) v3).put (some 63) v4).put (some 64) (.tuple #[r0, .bool false])).put (some 51) (.tuple #[r0, .bool false])).put (some 65) r0).put (some 66) (.bool false)).put (some 9) r0).put (some 10) (.bool false)) (by kernel_rfl) rfl ?_
    rw [Act.put_comm (x := some 61) (y := some 55) _ (sliced ao j n cap 3) (v1) (by simp)]
    rw [Act.put_comm (x := some 61) (y := some 57) _ (sliced ao j n cap 3) (vp) (by simp)]
    rw [Act.put_comm (x := some 61) (y := some 58) _ (sliced ao j n cap 3) (v2) (by simp)]
    rw [Act.put_comm (x := some 60) (y := some 55) _ (.int .i64 j) (v1) (by simp)]
    rw [Act.put_comm (x := some 60) (y := some 57) _ (.int .i64 j) (vp) (by simp)]
    rw [Act.put_comm (x := some 60) (y := some 58) _ (.int .i64 j) (v2) (by simp)]
    rw [Act.put_comm (x := some 59) (y := some 55) _ (.slice ao n cap) (v1) (by simp)]
    rw [Act.put_comm (x := some 59) (y := some 57) _ (.slice ao n cap) (vp) (by simp)]
    rw [Act.put_comm (x := some 59) (y := some 58) _ (.slice ao n cap) (v2) (by simp)]
    rw [Act.put_comm (x := some 56) (y := some 55) _ (.int .u8 b.toNat) (v1) (by simp)]
    exact hend _ _ _ _ _ _ _ _ _ _ _ _ _ _ _ _ _ _ bR HB
  · obtain ⟨vp, hvp⟩ : ∃ vp, vp = Value.slice (some ⟨wd.heap.size, 0, none⟩) 1 1 := ⟨_, rfl⟩
    obtain ⟨wb, hwb⟩ : ∃ wb, wb = wd.alloc (.cells #[.int .u8 b.toNat] 5) := ⟨_, rfl⟩
    have hbA : Below wd.heap.size wd wb := by rw [hwb]; exact (Below.refl _ _).alloc (Nat.le_refl _) _
    have hp : Bs wb vp [b] := by rw [hwb, hvp]; exact lit_bs wd [b] (0, 0) 1 rfl (by omega) #[.int .u8 b.toNat] rfl
    refine st_run (v := vp) (w' := wb) (want_none rfl) (by rw [hvp, hwb]; simp [go_sem, execOp, hs]) (hK _ _ ?_)
    have HB := HB.trans (hbA.mono HB.size)
    clear hbA hvp hwb hK
    refine wpAny_ready (rs := [3]) (by kernel_rfl) (by simp) (AllReady.cons rfl (fun K hK => ?_) AllReady.nil)
    refine st_call (f := 29) (args := #[sliced ao 0 j cap 3]) (want_none rfl) (by simp [go_sem, execOp, resolve, invoke, hs]) (HC1 _ HB) ?_
    rintro e wn ⟨v1, rfl, ho, hb⟩
    refine ⟨_, rfl, hK _ _ ?_⟩
    have o1 := own_mono ho HB.size
    have hp := hp.below hb
    have HB := HB.trans (hb.mono HB.size)
    clear ho hb hK
    refine wpAny_ready (rs := [6]) (by kernel_rfl) (by simp) (AllReady.cons rfl (fun K hK => ?_) AllReady.nil)
    refine step_append_bs rfl (.tmp 55) (.tmp 57) rfl w.heap.size v1 vp (by simp [Act.eval_put_same, Act.size_put, hs]) (by simp [Act.eval_put_same, Act.eval_put_ne, Act.size_put, hs]) o1 hp hl12 HB.size ?_
    intro v2 wn ho hk hk2
    refine hK _ _ ?_
    have o2 := ho
    have HB := below_keep HB hk (Nat.le_refl _)
    clear ho hk hk2 hK
    refine wpAny_ready (rs := [10]) (by kernel_rfl) (by simp) (AllReady.cons rfl (fun K hK => ?_) AllReady.nil)
    refine st_call (f := 29) (args := #[sliced ao j n cap 3]) (want_none rfl) (by simp [go_sem, execOp, resolve, invoke, hs]) (HC3 _ HB) ?_
    rintro e wn ⟨v3, rfl, ho, hb⟩
    refine ⟨_, rfl, hK _ _ ?_⟩
    have o3 := own_mono ho HB.size
    have o2 := own_below o2 hb
    have b3 := Bs.of_own ho
    have HB := HB.trans (hb.mono HB.size)
    clear ho hb hK
    refine wpAny_ready (rs := [11]) (by kernel_rfl) (by simp) (AllReady.cons rfl (fun K hK => ?_) AllReady.nil)
    refine step_append_bs rfl (.tmp 58) (.tmp 62) rfl w.heap.size v2 v3 (by simp [Act.eval_put_same, Act.eval_put_ne, Act.size_put, hs]) (by simp [Act.eval_put_same, Act.size_put, hs]) o2 b3 hl23 HB.size ?_
    intro v4 we ho hk hk2
    refine hK _ _ ?_
    have HB := below_keep HB hk (Nat.le_refl _)
    have bF := Bs.of_own ho
    clear ho hk hk2 hK
    refine wpAny_ready (rs := [12]) (by kernel_rfl) (by simp) (AllReady.cons rfl (fun K hK => ?_) AllReady.nil)
    refine st_call (f := 21) (args := #[v4]) (want_none rfl) (by simp [go_sem, execOp, resolve, invoke, hs]) (hdec _ _ bF HB) ?_
    rintro e wf ⟨r0, rfl, bR, hbR⟩
    refine ⟨_, rfl, hK _ _ ?_⟩
    have HB := HB.trans (hbR.mono HB.size)
    clear hK hbR
    refine any_val (i := 13) (v := .tuple #[r0, .bool false]) rfl (by kernel_rfl) (by kernel_rfl) (by kernel_rfl) hQ (want_none rfl) (fun w => by simp [execOp, Act.eval_put_same, Act.size_put, hs]) ?_
    refine any_val (i := 14) (v := r0) rfl (by kernel_rfl) (by kernel_rfl) (by kernel_rfl) hQ (want_none rfl) (fun w => by simp [go_sem, execOp, hs]) ?_
    refine any_val (i := 15) (v := .bool false) rfl (by kernel_rfl) (by kernel_rfl) (by kernel_rfl) hQ (want_none rfl) (fun w => by simp [go_sem, execOp, hs]) ?_
    refine any_val (i := 16) (v := r0) rfl (by kernel_rfl) (by kernel_rfl) (by kernel_rfl) hQ (want_none rfl) (fun w => by simp [execOp, Act.eval_put_same, Act.eval_put_ne, Act.size_put, hs]) ?_
    refine any_val (i := 17) (v := .bool false) rfl (by kernel_rfl) (by kernel_rfl) (by kernel_rfl) hQ (want_none rfl) (fun w => by simp [execOp, Act.eval_put_same, Act.eval_put_ne, Act.size_put, hs]) ?_
    refine any_done ((((((((((((((((((A0.put (some 52) (.slice ao n cap)).put (some 53) (.int .i64 j)).put (some 54) (sliced ao 0 j cap 3)).put (some 56) (.int .u8 b.toNat)).put (some 59) (.slice ao n cap)).put (some 60) (.int .i64 j)).put (some 61) (sliced ao j n cap 3)).put (some 57) vp).put (some 55) v1).put (some 58) v2).put (some 62) v3).put (some 63) v4).put (some 64) (.tuple #[r0, .bool false])).put (some 51) (.tuple #[r0, .bool false])).put (some 65) r0).put (some 66) (.bool false)).put (some 9) r0).put (some 10) (.bool false)) (by kernel_rfl) rfl ?_
    rw [Act.put_comm (x := some 61) (y := some 57) _ (sliced ao j n cap 3) (vp) (by simp)]
    rw [Act.put_comm (x := some 61) (y := some 55) _ (sliced ao j n cap 3) (v1) (by simp)]
    rw [Act.put_comm (x := some 61) (y := some 58) _ (sliced ao j n cap 3) (v2) (by simp)]
    rw [Act.put_comm (x := some 60) (y := some 57) _ (.int .i64 j) (vp) (by simp)]
    rw [Act.put_comm (x := some 60) (y := some 55) _ (.int .i64 j) (v1) (by simp)]
    rw [Act.put_comm (x := some 60) (y := some 58) _ (.int .i64 j) (v2) (by simp)]
    rw [Act.put_comm (x := some 59) (y := some 57) _ (.slice ao n cap) (vp) (by simp)]
    rw [Act.put_comm (x := some 59) (y := some 55) _ (.slice ao n cap) (v1) (by simp)]
    rw [Act.put_comm (x := some 59) (y := some 58) _ (.slice ao n cap) (v2) (by simp)]
    rw [Act.put_comm (x := some 57) (y := some 55) _ (vp) (v1) (by simp)]
    rw [Act.put_comm (x := some 56) (y := some 55) _ (.int .u8 b.toNat) (v1) (by simp)]
    exact hend _ _ _ _ _ _ _ _ _ _ _ _ _ _ _ _ _ _ bR HB
set_option maxRecDepth 100000 in
theorem ctl_put (u0 u1 u2 u3 u4 u5 u6 u7 u8 u9 u10 u11 u12 u13 u14 u15 u16 u17 u18 u19 u20 u21 u22 u23 u24 u25 u26 u27 u28 u29 u30 u31 u32 u33 u34 u35 u36 u37 u38 u39 u40 u41 u42 u43 u44 u45 u46 u47 u48 u49 u50 u51 u52 u53 u54 u55 u56 u57 u58 u59 u60 u61 u62 u63 u64 u65 u66 u67 u68 u69 u70 u71 u72 u73 u74 u75 u76 y0 y1 y2 y3 y4 y5 y6 y7 y8 y9 y10 y11 y12 y13 y14 y15 y16 y17 : Value) : (((((((((((((((((((⟨#[u0, u1, u2, u3, u4, u5, u6, u7, u8, u9, u10, u11, u12, u13, u14, u15, u16, u17, u18, u19, u20, u21, u22, u23, u24, u25, u26, u27, u28, u29, u30, u31, u32, u33, u34, u35, u36, u37, u38, u39, u40, u41, u42, u43, u44, u45, u46, u47, u48, u49, u50, u51, u52, u53, u54, u55, u56, u57, u58, u59, u60, u61, u62, u63, u64, u65, u66, u67, u68, u69, u70, u71, u72, u73, u74, u75, u76], []⟩ : Act).put (some 52) y0).put (some 53) y1).put (some 54) y2).put (some 55) y3).put (some 56) y4).put (some 57) y5).put (some 58) y6).put (some 59) y7).put (some 60) y8).put (some 61) y9).put (some 62) y10).put (some 63) y11).put (some 64) y12).put (some 51) y13).put (some 65) y14).put (some 66) y15).put (some 9) y16).put (some 10) y17) = ⟨#[u0, u1, u2, u3, u4, u5, u6, u7, u8, y16, y17, u11, u12, u13, u14, u15, u16, u17, u18, u19, u20, u21, u22, u23, u24, u25, u26, u27, u28, u29, u30, u31, u32, u33, u34, u35, u36, u37, u38, u39, u40, u41, u42, u43, u44, u45, u46, u47, u48, u49, u50, y13, y0, y1, y2, y3, y4, y5, y6, y7, y8, y9, y10, y11, y12, y14, y15, u67, u68, u69, u70, u71, u72, u73, u74, u75, u76], []⟩ := by kernel_rfl
end Go.Proofs.YthfkgancjpdodaaDoor

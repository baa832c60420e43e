/- The drawn region of FnPadding (printed by gen16.py). -/
import Derived.Test.YthfkgancjpdodaaDoorSp5
import Derived.Test.YthfkgancjpdodaaDoorAny
namespace Go.Proofs.YthfkgancjpdodaaDoor
open Go.RowKit Qp

def regAt16 (n : Nat) : Code → Option Code
  | .region i ops b => if i == n then some (.region i ops b) else none
  | .loop c => regAt16 n c
  | .seq a b => match regAt16 n a with
    | some c => some c
    | none => regAt16 n b
  | .block _ c => regAt16 n c
  | .scope c => regAt16 n c
  | .cond _ a b => match regAt16 n a with
    | some c => some c
    | none => regAt16 n b
  | _ => none
noncomputable def pad_regionC : Code := ((Tryd.f16.body.bind (regAt16 6)).getD .skip)

theorem cellsT : Tryd.prog.cellsOf 39 = 3 := by kernel_rfl
section
variable {P : Program} {ops : Array Oper} {Q : Exit → Act → World → Prop}
theorem st_call {o : Oper} {a : Act} {w : World} {K : Act → World → Prop} {E : Prop} {f : FuncId} {args : Array Value} {φ : Ending → World → Prop} (hw : Region.wanted o (yielded ops a.tmps) = true)
    (hv : (execOp a.eval o).run P w = .ok (.enter f args) w) (hc : Calls P f args w φ) (h : ∀ e w', φ e w' → ∃ v, e = .returned v ∧ K (a.put o.dst v) w') : if Region.wanted o (yielded ops a.tmps) = true then Oper.wp P o a w K Q else E := by
  rw [if_pos hw]
  unfold Oper.wp; rw [hv]
  refine Calls.mono hc fun e w' he => ?_
  obtain ⟨v, rfl, h'⟩ := h e w' he
  exact h'
theorem st_run {o : Oper} {a : Act} {w w' : World} {K : Act → World → Prop} {E : Prop} {v : Value} (hw : Region.wanted o (yielded ops a.tmps) = true)
    (hv : (execOp a.eval o).run P w = .ok (.value v) w') (h : K (a.put o.dst v) w') : if Region.wanted o (yielded ops a.tmps) = true then Oper.wp P o a w K Q else E := by
  rw [if_pos hw]
  unfold Oper.wp; rw [hv]
  exact h
end

set_option maxRecDepth 100000 in
set_option maxHeartbeats 6400000 in
theorem pad_region {Q : Exit → Act → World → Prop} (hQ : ∀ c a a' w, Q (.panic c) a w → Q (.panic c) a' w) {A0 : Act} {w : World} {ao : Option Addr} {n j cap : Nat} {vp : Value} {l1 l3 : List UInt8} {pd : List UInt8} (hp : Bs w vp pd) (hs : A0.tmps.size = 97) (h7 : A0.eval (.tmp 7) = .slice ao n cap) (h1 : A0.eval (.tmp 1) = .int .i64 j) (h2 : A0.eval (.tmp 2) = vp)
    (hj : (j : Int) ≤ n) (hc : (j : Int) ≤ cap)
    (HC1 : ∀ w2, Below w.heap.size w w2 → Calls Tryd.prog 29 #[sliced ao 0 j cap 3] w2 fun e w' => ∃ v', e = .returned v' ∧ w'.ownsRow w2.heap.size 5 1 v' l1.length (Lib.byteCells l1) ∧ Below w2.heap.size w2 w')
    (HC3 : ∀ w2, Below w.heap.size w w2 → Calls Tryd.prog 29 #[sliced ao j n cap 3] w2 fun e w' => ∃ v', e = .returned v' ∧ w'.ownsRow w2.heap.size 5 1 v' l3.length (Lib.byteCells l3) ∧ Below w2.heap.size w2 w')
    (hl12 : l1.length + pd.length ≤ 140737488355328) (hl23 : (l1 ++ pd).length + l3.length ≤ 140737488355328)
    (hend : ∀ (y0 y1 y2 y3 y4 y5 y6 y7 y8 y9 y10 y11 : Value) (w' : World), Bs w' y11 (l1 ++ pd ++ l3) → Below w.heap.size w w' → Q .normal ((((((((((((A0.put (some 55) y0).put (some 56) y1).put (some 57) y2).put (some 58) y3).put (some 59) y4).put (some 60) y5).put (some 61) y6).put (some 62) y7).put (some 63) y8).put (some 64) y9).put (some 65) y10).put (some 9) y11) w') :
    Code.wp Tryd.prog pad_regionC Q A0 w := by
  have hj0 : (0 : Int) ≤ j := by omega
  have HB : Below w.heap.size w w.drew := (Below.refl _ _).drew
  have hp := hp.below HB
  conv => arg 2; whnf
  refine wp_region_any (by kernel_rfl) ?_
  change wpAny _ _ _ _ 12 (Array.replicate 12 false) _ (World.drew _)
  obtain ⟨wd, hwd⟩ : ∃ wd, wd = w.drew := ⟨_, rfl⟩
  rw [← hwd] at HB ⊢
  rw [← hwd] at hp
  clear hwd
  refine any_val (i := 0) (v := .slice ao n cap) rfl (by kernel_rfl) (by kernel_rfl) (by kernel_rfl) hQ (want_none rfl) (fun w => by simp [execOp, h7]) ?_
  refine any_val (i := 1) (v := .int .i64 j) rfl (by kernel_rfl) (by kernel_rfl) (by kernel_rfl) hQ (want_none rfl) (fun w => by simp [execOp, Act.eval_put_ne, h1]) ?_
  refine any_val (i := 2) (v := sliced ao 0 j cap 3) rfl (by kernel_rfl) (by kernel_rfl) (by kernel_rfl) hQ (want_none rfl) (fun w => by simp [go_sem, execOp, hs, hc, hj0]) ?_
  refine any_val (i := 4) (v := vp) rfl (by kernel_rfl) (by kernel_rfl) (by kernel_rfl) hQ (want_none rfl) (fun w => by simp [execOp, Act.eval_put_ne, h2]) ?_
  refine any_val (i := 6) (v := .slice ao n cap) rfl (by kernel_rfl) (by kernel_rfl) (by kernel_rfl) hQ (want_none rfl) (fun w => by simp [execOp, Act.eval_put_ne, h7]) ?_
  refine any_val (i := 7) (v := .int .i64 j) rfl (by kernel_rfl) (by kernel_rfl) (by kernel_rfl) hQ (want_none rfl) (fun w => by simp [execOp, Act.eval_put_ne, h1]) ?_
  refine any_val (i := 8) (v := sliced ao j n cap 3) rfl (by kernel_rfl) (by kernel_rfl) (by kernel_rfl) hQ (want_none rfl) (fun w => by simp [go_sem, execOp, hs, hj, hj0]) ?_
  refine wpAny_ready (rs := [3]) (by kernel_rfl) (by simp) (AllReady.cons rfl (fun K hK => ?_) AllReady.nil)
  refine st_call (f := 29) (args := #[sliced ao 0 j cap 3]) (want_none rfl) (by simp [go_sem, execOp, resolve, invoke, hs]) (HC1 _ HB) ?_
  rintro e wn ⟨v1, rfl, ho, hb⟩
  refine ⟨_, rfl, hK _ _ ?_⟩
  have o1 := own_mono ho HB.size
  have hp := hp.below hb
  have HB := HB.trans (hb.mono HB.size)
  clear ho hb hK
  refine wpAny_ready (rs := [5]) (by kernel_rfl) (by simp) (AllReady.cons rfl (fun K hK => ?_) AllReady.nil)
  refine step_append_bs rfl (.tmp 58) (.tmp 59) rfl w.heap.size v1 vp (by simp [Act.eval_put_same, Act.size_put, hs]) (by simp [Act.eval_put_same, Act.eval_put_ne, Act.size_put, hs]) o1 hp hl12 HB.size ?_
  intro v2 wn ho hk hk2
  refine hK _ _ ?_
  have o2 := ho
  have HB := below_keep HB hk (Nat.le_refl _)
  clear ho hk hk2 hK
  refine wpAny_ready (rs := [9]) (by kernel_rfl) (by simp) (AllReady.cons rfl (fun K hK => ?_) AllReady.nil)
  refine st_call (f := 29) (args := #[sliced ao j n cap 3]) (want_none rfl) (by simp [go_sem, execOp, resolve, invoke, hs]) (HC3 _ HB) ?_
  rintro e wn ⟨v3, rfl, ho, hb⟩
  refine ⟨_, rfl, hK _ _ ?_⟩
  have o3 := own_mono ho HB.size
  have o2 := own_below o2 hb
  have b3 := Bs.of_own ho
  have HB := HB.trans (hb.mono HB.size)
  clear ho hb hK
  refine wpAny_ready (rs := [10]) (by kernel_rfl) (by simp) (AllReady.cons rfl (fun K hK => ?_) AllReady.nil)
  refine step_append_bs rfl (.tmp 60) (.tmp 64) rfl w.heap.size v2 v3 (by simp [Act.eval_put_same, Act.eval_put_ne, Act.size_put, hs]) (by simp [Act.eval_put_same, Act.size_put, hs]) o2 b3 hl23 HB.size ?_
  intro v4 we ho hk hk2
  refine hK _ _ ?_
  have HB := below_keep HB hk (Nat.le_refl _)
  have bF := Bs.of_own ho
  clear ho hk hk2 hK
  refine any_val (i := 11) (v := v4) rfl (by kernel_rfl) (by kernel_rfl) (by kernel_rfl) hQ (want_none rfl) (fun w => by simp [execOp, Act.eval_put_same, Act.size_put, hs]) ?_
  refine any_done ((((((((((((A0.put (some 55) (.slice ao n cap)).put (some 56) (.int .i64 j)).put (some 57) (sliced ao 0 j cap 3)).put (some 59) vp).put (some 61) (.slice ao n cap)).put (some 62) (.int .i64 j)).put (some 63) (sliced ao j n cap 3)).put (some 58) v1).put (some 60) v2).put (some 64) v3).put (some 65) v4).put (some 9) v4) (by kernel_rfl) rfl ?_
  rw [Act.put_comm (x := some 63) (y := some 58) _ (sliced ao j n cap 3) (v1) (by simp)]
  rw [Act.put_comm (x := some 63) (y := some 60) _ (sliced ao j n cap 3) (v2) (by simp)]
  rw [Act.put_comm (x := some 62) (y := some 58) _ (.int .i64 j) (v1) (by simp)]
  rw [Act.put_comm (x := some 62) (y := some 60) _ (.int .i64 j) (v2) (by simp)]
  rw [Act.put_comm (x := some 61) (y := some 58) _ (.slice ao n cap) (v1) (by simp)]
  rw [Act.put_comm (x := some 61) (y := some 60) _ (.slice ao n cap) (v2) (by simp)]
  rw [Act.put_comm (x := some 59) (y := some 58) _ (vp) (v1) (by simp)]
  exact hend _ _ _ _ _ _ _ _ _ _ _ _ _ bF HB

theorem ts_sliced {w : World} {ao : Option Addr} {n cap : Nat} {l : List Tok} (h : Ts w (.slice ao n cap) l) (lo hi : Nat) (h1 : lo ≤ hi) (h2 : hi ≤ l.length) : Ts w (sliced ao lo hi cap 3) ((l.drop lo).take (hi - lo)) := by
  have hcm : cap ≤ 9223372036854775807 := by
    obtain ⟨_, _, e, _, h5, _⟩ := h.at
    injection e with _ _ e
    subst e
    exact h5
  rcases ts_cut5 h lo (by omega) with ⟨rfl, rfl, rfl⟩ | ⟨ad, rfl, rfl⟩ | ⟨b, off, rfl, hc⟩
  · have e1 : hi = 0 := by simpa using h2
    have e2 : lo = 0 := by omega
    subst e1; subst e2
    exact Ts.none _ _ _ ⟨by omega, fun _ => rfl⟩
  · have e1 : hi = 0 := by simpa using h2
    have e2 : lo = 0 := by omega
    subst e1; subst e2
    unfold sliced
    simp only [List.drop_nil, List.take_nil]
    exact Ts.none _ _ _ ⟨by omega, fun h => by split at h <;> cases h⟩
  · have := Ts.take hc (hi - lo) (by rw [List.length_drop]; omega)
    unfold sliced
    simpa [Lib.addr_add] using this
set_option maxRecDepth 100000 in
theorem pad_put (u0 u1 u2 u3 u4 u5 u6 u7 u8 u9 u10 u11 u12 u13 u14 u15 u16 u17 u18 u19 u20 u21 u22 u23 u24 u25 u26 u27 u28 u29 u30 u31 u32 u33 u34 u35 u36 u37 u38 u39 u40 u41 u42 u43 u44 u45 u46 u47 u48 u49 u50 u51 u52 u53 u54 u55 u56 u57 u58 u59 u60 u61 u62 u63 u64 u65 u66 u67 u68 u69 u70 u71 u72 u73 u74 u75 u76 u77 u78 u79 u80 u81 u82 u83 u84 u85 u86 u87 u88 u89 u90 u91 u92 u93 u94 u95 u96 y0 y1 y2 y3 y4 y5 y6 y7 y8 y9 y10 y11 : Value) : (((((((((((((⟨#[u0, u1, u2, u3, u4, u5, u6, u7, u8, u9, u10, u11, u12, u13, u14, u15, u16, u17, u18, u19, u20, u21, u22, u23, u24, u25, u26, u27, u28, u29, u30, u31, u32, u33, u34, u35, u36, u37, u38, u39, u40, u41, u42, u43, u44, u45, u46, u47, u48, u49, u50, u51, u52, u53, u54, u55, u56, u57, u58, u59, u60, u61, u62, u63, u64, u65, u66, u67, u68, u69, u70, u71, u72, u73, u74, u75, u76, u77, u78, u79, u80, u81, u82, u83, u84, u85, u86, u87, u88, u89, u90, u91, u92, u93, u94, u95, u96], []⟩ : Act).put (some 55) y0).put (some 56) y1).put (some 57) y2).put (some 58) y3).put (some 59) y4).put (some 60) y5).put (some 61) y6).put (some 62) y7).put (some 63) y8).put (some 64) y9).put (some 65) y10).put (some 9) y11) = ⟨#[u0, u1, u2, u3, u4, u5, u6, u7, u8, y11, u10, u11, u12, u13, u14, u15, u16, u17, u18, u19, u20, u21, u22, u23, u24, u25, u26, u27, u28, u29, u30, u31, u32, u33, u34, u35, u36, u37, u38, u39, u40, u41, u42, u43, u44, u45, u46, u47, u48, u49, u50, u51, u52, u53, u54, y0, y1, y2, y3, y4, y5, y6, y7, y8, y9, y10, u66, u67, u68, u69, u70, u71, u72, u73, u74, u75, u76, u77, u78, u79, u80, u81, u82, u83, u84, u85, u86, u87, u88, u89, u90, u91, u92, u93, u94, u95, u96], []⟩ := by kernel_rfl
end Go.Proofs.YthfkgancjpdodaaDoor

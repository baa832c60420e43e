/- The drawn region of impl.Reads (printed by genrg.py). -/
import Derived.Test.YtcbolmendjocbaaDoorGr
import Derived.Test.YtcbolmendjocbaaDoorAny
namespace Go.Proofs.YtcbolmendjocbaaDoor
open Go.RowKit Qp

def regAtR (n : Nat) : Code → Option Code
  | .region i ops b => if i == n then some (.region i ops b) else none
  | .loop c => regAtR n c
  | .seq a b => match regAtR n a with
    | some c => some c
    | none => regAtR n b
  | .block _ c => regAtR n c
  | .scope c => regAtR n c
  | .cond _ a b => match regAtR n a with
    | some c => some c
    | none => regAtR n b
  | _ => none
noncomputable def reads_regionC : Code := ((Tryd.f7.body.bind (regAtR 8)).getD .skip)

section
variable {P : Program} {ops : Array Oper} {Q : Exit → Act → World → Prop}
theorem st_call {o : Oper} {a : Act} {w : World} {K : Act → World → Prop} {E : Prop} {f : FuncId} {args : Array Value} {φ : Ending → World → Prop} (hw : Region.wanted o (yielded ops a.tmps) = true)
    (hv : (execOp a.eval o).run P w = .ok (.enter f args) w) (hc : Calls P f args w φ) (h : ∀ e w', φ e w' → ∃ v, e = .returned v ∧ K (a.put o.dst v) w') : if Region.wanted o (yielded ops a.tmps) = true then Oper.wp P o a w K Q else E := by
  rw [if_pos hw]
  unfold Oper.wp; rw [hv]
  refine Calls.mono hc fun e w' he => ?_
  obtain ⟨v, rfl, h'⟩ := h e w' he
  exact h'
theorem st_run {o : Oper} {a : Act} {w w' : World} {K : Act → World → Prop} {E : Prop} {v : Value} (hw : Region.wanted o (yielded ops a.tmps) = true)
    (hv : (execOp a.eval o).run P w = .ok (.value v) w') (h : K (a.put o.dst v) w') : if Region.wanted o (yielded ops a.tmps) = true then Oper.wp P o a w K Q else E := by
  rw [if_pos hw]
  unfold Oper.wp; rw [hv]
  exact h
end

theorem cells5 : Tryd.prog.cellsOf 5 = 1 := by kernel_rfl
set_option maxRecDepth 100000 in
set_option maxHeartbeats 6400000 in
theorem reads_region {Q : Exit → Act → World → Prop} (hQ : ∀ c a a' w, Q (.panic c) a w → Q (.panic c) a' w) {A0 : Act} {w : World} {vo ve : Value} {B b k m s : Nat} {l : List (List UInt8 × Nat)} {d : List UInt8} (hs : A0.tmps.size = 47)
    (h5 : A0.eval (.tmp 5) = vo) (h9 : A0.eval (.tmp 9) = .slice (some ⟨b, 0, none⟩) m m) (h10 : A0.eval (.tmp 10) = .int .i64 k) (h11 : A0.eval (.tmp 11) = ve) (hkm : k ≤ m)
    (HS : ∀ w2, Below w.heap.size w w2 → Calls Tryd.prog 15 #[ve] w2 fun e w' => e = .returned (.int .i64 s) ∧ w2 = w')
    (hg : Gr w B vo l) (hd : Bs w (.slice (some ⟨b, 0, none⟩) k m) d) (hdb : B ≤ b ∧ b < w.heap.size ∧ vo.ownBlock ≠ some b) (hlim : l.length + 1 ≤ 1099511627776) (hB : B ≤ w.heap.size)
    (hend : ∀ (y0 y1 y2 y3 y4 y5 y6 y7 y8 y9 : Value) (w' : World), Gr w' B y9 (l ++ [(d, s)]) → Keep (fun g => vo.ownBlock = some g) w w' → Q .normal ((((((((((A0.put (some 34) y0).put (some 35) y1).put (some 36) y2).put (some 37) y3).put (some 38) y4).put (some 39) y5).put (some 40) y6).put (some 41) y7).put (some 42) y8).put (some 5) y9) w') :
    Code.wp Tryd.prog reads_regionC Q A0 w := by
  have HB : Below w.heap.size w w.drew := (Below.refl _ _).drew
  have hk0 : (0 : Int) ≤ k := by omega
  have hk1 : (k : Int) ≤ m := by omega
  conv => arg 2; whnf
  refine wp_region_any (by kernel_rfl) ?_
  change wpAny _ _ _ _ 10 (Array.replicate 10 false) _ (World.drew _)
  obtain ⟨wd, hwd⟩ : ∃ wd, wd = w.drew := ⟨_, rfl⟩
  rw [← hwd] at HB ⊢
  clear hwd
  have hg := hg.keep (Keep.new (S := fun _ => False) HB) (fun _ _ _ => id)
  have hd := hd.below HB
  have hsz := HB.size
  refine any_val (i := 0) (v := vo) rfl (by kernel_rfl) (by kernel_rfl) (by kernel_rfl) hQ (want_none rfl) (fun w => by simp [execOp, h5]) ?_
  refine any_val (i := 1) (v := .slice (some ⟨b, 0, none⟩) m m) rfl (by kernel_rfl) (by kernel_rfl) (by kernel_rfl) hQ (want_none rfl) (fun w => by simp [execOp, Act.eval_put_ne, h9]) ?_
  refine any_val (i := 2) (v := .int .i64 k) rfl (by kernel_rfl) (by kernel_rfl) (by kernel_rfl) hQ (want_none rfl) (fun w => by simp [execOp, Act.eval_put_ne, h10]) ?_
  refine any_val (i := 3) (v := .slice (some ⟨b, 0, none⟩) k m) rfl (by kernel_rfl) (by kernel_rfl) (by kernel_rfl) hQ (want_none rfl) (fun w => by simp [go_sem, execOp, hk0, hk1, hs]) ?_
  refine any_val (i := 4) (v := ve) rfl (by kernel_rfl) (by kernel_rfl) (by kernel_rfl) hQ (want_none rfl) (fun w => by simp [execOp, Act.eval_put_ne, h11]) ?_
  refine wpAny_ready (rs := [5]) (by kernel_rfl) (by simp) (AllReady.cons rfl (fun K hK => ?_) AllReady.nil)
  refine st_call (f := 15) (args := #[ve]) (want_none rfl) (by simp [go_sem, execOp, resolve, invoke, hs]) (HS _ HB) ?_
  rintro e wn ⟨rfl, rfl⟩
  refine ⟨_, rfl, hK _ _ ?_⟩
  clear hK
  refine any_val (i := 6) (v := .agg #[.slice (some ⟨b, 0, none⟩) k m, .int .i64 s]) rfl (by kernel_rfl) (by kernel_rfl) (by kernel_rfl) hQ (want_none rfl) (fun w => by simp [go_sem, execOp, hs]) ?_
  refine wpAny_ready (rs := [7]) (by kernel_rfl) (by simp) (AllReady.cons rfl (fun K hK => ?_) AllReady.nil)
  refine st_run (v := .slice (some ⟨wd.heap.size, 0, none⟩) 1 1) (w' := wd.alloc (.cells #[.slice (some ⟨b, 0, none⟩) k m, .int .i64 s] 31)) (want_none rfl) (by simp [go_sem, execOp, hs]) (hK _ _ ?_)
  clear hK
  obtain ⟨v', w', hr, hg', hk'⟩ := run_append_gr (s := s) 28 B hg hd (fun g e => by injection e with e; have e : b = g := e; subst e; exact ⟨hdb.1, Nat.lt_of_lt_of_le hdb.2.1 hsz, hdb.2.2⟩) hlim (Nat.le_trans hB hsz)
  refine wpAny_ready (rs := [8]) (by kernel_rfl) (by simp) (AllReady.cons rfl (fun K hK => ?_) AllReady.nil)
  refine st_run (v := v') (w' := w') (want_none rfl) (by
    unfold execOp
    simp only [resolve, invoke, builtin]
    simp [Act.eval_put_same, Act.eval_put_ne, Act.size_put, hs, hr]) (hK _ _ ?_)
  clear hK
  refine any_val (i := 9) (v := v') rfl (by kernel_rfl) (by kernel_rfl) (by kernel_rfl) hQ (want_none rfl) (fun w => by simp [execOp, Act.eval_put_same, Act.size_put, hs]) ?_
  refine any_done ((((((((((A0.put (some 34) vo).put (some 35) (.slice (some ⟨b, 0, none⟩) m m)).put (some 36) (.int .i64 k)).put (some 37) (.slice (some ⟨b, 0, none⟩) k m)).put (some 38) ve).put (some 39) (.int .i64 s)).put (some 40) (.agg #[.slice (some ⟨b, 0, none⟩) k m, .int .i64 s])).put (some 41) (.slice (some ⟨wd.heap.size, 0, none⟩) 1 1)).put (some 42) v').put (some 5) v') (by kernel_rfl) rfl ?_
  exact hend _ _ _ _ _ _ _ _ _ _ _ hg' ((Keep.new (S := fun g => vo.ownBlock = some g) HB).trans hk' (fun _ _ e => e))

set_option maxRecDepth 100000 in
theorem reads_put (u0 u1 u2 u3 u4 u5 u6 u7 u8 u9 u10 u11 u12 u13 u14 u15 u16 u17 u18 u19 u20 u21 u22 u23 u24 u25 u26 u27 u28 u29 u30 u31 u32 u33 u34 u35 u36 u37 u38 u39 u40 u41 u42 u43 u44 u45 u46 y0 y1 y2 y3 y4 y5 y6 y7 y8 y9 : Value) : (((((((((((⟨#[u0, u1, u2, u3, u4, u5, u6, u7, u8, u9, u10, u11, u12, u13, u14, u15, u16, u17, u18, u19, u20, u21, u22, u23, u24, u25, u26, u27, u28, u29, u30, u31, u32, u33, u34, u35, u36, u37, u38, u39, u40, u41, u42, u43, u44, u45, u46], []⟩ : Act).put (some 34) y0).put (some 35) y1).put (some 36) y2).put (some 37) y3).put (some 38) y4).put (some 39) y5).put (some 40) y6).put (some 41) y7).put (some 42) y8).put (some 5) y9) = ⟨#[u0, u1, u2, u3, u4, y9, u6, u7, u8, u9, u10, u11, u12, u13, u14, u15, u16, u17, u18, u19, u20, u21, u22, u23, u24, u25, u26, u27, u28, u29, u30, u31, u32, u33, y0, y1, y2, y3, y4, y5, y6, y7, y8, u43, u44, u45, u46], []⟩ := by kernel_rfl
end Go.Proofs.YtcbolmendjocbaaDoor

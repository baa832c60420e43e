/- The region behind a soft line break at a line longer than the buffer (printed by mkc2c.py); an error far from io.EOF's. -/
import Derived.Test.YtcbolmendjocbaaDoorR13
namespace Go.Proofs.YtcbolmendjocbaaDoor
open Go.RowKit Qp

theorem sameAddr_far {P : Program} {w : World} {a b : Addr} {ca : Array Value} {ta : TypeId} {x : Value} (hne : a ≠ b) (ha : w.heap[a.block]? = some (.cells ca ta (0, 0))) (hb : w.cell? b = some x) : (sameAddr a b).run P w = .ok false w := by
  obtain ⟨cb, tb, fb, hcb⟩ : ∃ cb tb fb, w.heap[b.block]? = some (.cells cb tb fb) ∧ cb.size ≠ 0 := by
    unfold World.cell? at hb
    split at hb
    · rename_i cb tb fb e
      refine ⟨cb, tb, fb, e, fun h0 => ?_⟩
      split at hb
      · cases hb
      · rw [Array.getElem?_eq_none (by omega)] at hb; cases hb
    · cases hb
  obtain ⟨hcb, h0⟩ := hcb
  by_cases hbl : a.block = b.block
  · simp [sameAddr, hbl, hne]
  simp [sameAddr, hbl, World.frozen?, ha, hcb, noView, viewAt, World.shape?, mayBeOne, stringish, h0]
/-- an error that lies in a block of its own is not io.EOF -/
theorem eof_far {ea a : Addr} {ca : Array Value} {ta : TypeId} (W : World) (h1 : W.heap[a.block]? = some (.cells ca ta (0, 0))) (h2 : ∃ x, W.cell? ea = some x) (hne : a ≠ ea) :
    (binOp .eql 46 (eofv a) (eofv ea)).run Tryd.prog W = .ok (.bool false) W := by
  obtain ⟨i, hi, hc⟩ := info96
  obtain ⟨j, hj⟩ := info133
  obtain ⟨x, hx⟩ := h2
  have hs := sameAddr_far (P := Tryd.prog) (w := W) (a := a) (b := ea) hne h1 hx
  have hsz : j.size ≠ 0 := by
    have h : (Tryd.prog.info? 86).map (·.size) = some 1 := by kernel_rfl
    rw [hj] at h
    simp at h
    omega
  have hd : ∀ d : Nat, (Op.equalIn (d + 2) 46 (.iface 84 (.pointer (some a))) (.iface 84 (.pointer (some ea)))).run Tryd.prog W = .ok false W := fun d => by
    simp [Op.equalIn, run_underlying (P := Tryd.prog) Tryd.underlying46, run_underlying (P := Tryd.prog) Tryd.underlying84, typeInfo, hi, hc, sizeOf, hj, hsz, hs]
  unfold eofv
  simp only [binOp]
  simp [Op.equal, Op.maxDepth, hd 9998]

set_option maxRecDepth 100000 in
set_option maxHeartbeats 6400000 in
theorem r13_c2c {Q : Exit → Act → World → Prop} (hQ : ∀ c a a' w, Q (.panic c) a w → Q (.panic c) a' w) {A0 : Act} {w : World} {av : Option Addr} {n cv R : Nat} {ea fa : Addr} {rs : List UInt8} (hs : A0.tmps.size = 247) (h0 : A0.eval (.tmp 0) = .pointer (some ⟨R, 0, none⟩)) (h9 : A0.eval (.tmp 9) = .slice av n cv)
    (hb : Bs w (.slice av n cv) rs) (hp1 : ([10] : List UInt8).isPrefixOf rs = false) (hp2 : ([13, 10] : List UInt8).isPrefixOf rs = false) (hl0 : ((n : Int) == 0) = true) (la : Option Addr) (tl lc : Nat) (c2 : w.cell? ⟨R, 2, none⟩ = some (.slice la tl lc)) (hgt : 0 < tl) (c1 : w.cell? ⟨R, 1, none⟩ = some (eofv fa)) (heof : EofAt w ea) (hfar : ∀ w', Keep (fun _ => False) w w' → (binOp .eql 46 (eofv fa) (eofv ea)).run Tryd.prog w' = .ok (.bool false) w')
    (hend : ∀ (y96 y97 y98 y99 y100 y101 y102 y103 y104 y105 y106 y107 y108 y109 y110 y111 y112 y113 y114 y115 y116 y117 y118 y119 y120 y121 y122 y123 y124 y125 y126 y127 y128 : Value) w', Keep (fun _ => False) w w' → Q .normal ((((((((((((((((((((((((((((((((((A0.put (some 96) y96).put (some 97) y97).put (some 98) y98).put (some 99) y99).put (some 100) y100).put (some 101) y101).put (some 102) y102).put (some 103) y103).put (some 104) y104).put (some 105) y105).put (some 106) y106).put (some 107) y107).put (some 108) y108).put (some 109) y109).put (some 110) y110).put (some 111) y111).put (some 112) y112).put (some 113) y113).put (some 114) y114).put (some 115) y115).put (some 116) y116).put (some 117) y117).put (some 118) y118).put (some 119) y119).put (some 120) y120).put (some 121) y121).put (some 122) y122).put (some 123) y123).put (some 124) y124).put (some 125) y125).put (some 126) y126).put (some 127) y127).put (some 128) y128).put (some 129) (.bool true)) w') :
    Code.wp Tryd.prog reg13 Q A0 w := by
  have _hu := h0
  have _he := ea
  unfold EofAt at heof
  have hend' := fun y96 y97 y98 y99 y100 y101 y102 y103 y104 y105 y106 y107 y108 y109 y110 y111 y112 y113 y114 y115 y116 y117 y118 y119 y120 y121 y122 y123 y124 y125 y126 y127 y128 w' (k : Keep (fun _ => False) w.drew w') => hend y96 y97 y98 y99 y100 y101 y102 y103 y104 y105 y106 y107 y108 y109 y110 y111 y112 y113 y114 y115 y116 y117 y118 y119 y120 y121 y122 y123 y124 y125 y126 y127 y128 w' (((Keep.refl (fun _ => False) w).drew).trans k (fun _ _ h => h))
  clear hend
  replace hb := hb.keepS ((Keep.refl (fun _ => False) w).drew) (fun _ _ => id)
  replace c2 := drew_cell c2
  replace c1 := drew_cell c1
  replace heof := drew_cell heof
  replace hfar := fun w' (h : Keep (fun _ => False) w.drew w') => hfar w' (((Keep.refl (fun _ => False) w).drew).trans h (fun _ _ h => h))
  conv => arg 2; whnf
  refine wp_region_any (by kernel_rfl) ?_
  change wpAny _ _ _ _ 34 (Array.replicate 34 false) _ (World.drew _)
  generalize w.drew = wd at *
  refine any_val (i := 0) (v := .slice av n cv) rfl (by kernel_rfl) (by kernel_rfl) (by kernel_rfl) hQ (want_none rfl) (fun w => by simp [execOp, h9]) ?_
  refine any_run (i := 1) (v := .slice (some ⟨wd.heap.size, 0, none⟩) 1 1) (w' := wd.alloc (.cells #[.int .u8 10] 5)) (by kernel_rfl) rfl (want_none rfl) (by simp [go_sem, execOp]) ?_
  refine any_run (i := 2) (v := .slice (some ⟨wd.heap.size, 0, none⟩) 1 1) (w' := wd.alloc (.cells #[.int .u8 10] 5 (1, 2))) (by kernel_rfl) rfl (want_none rfl) (by simp [go_sem, execOp, hs, kc1 wd]) ?_
  refine any_call (i := 3) (f := 17) (args := #[.slice av n cv, .slice (some ⟨wd.heap.size, 0, none⟩) 1 1]) (by kernel_rfl) rfl (want_none rfl) (by simp [go_sem, execOp, resolve, invoke, hs]) (one_call hb hp1) ?_
  rintro e w9 ⟨rfl, k9⟩
  refine ⟨_, rfl, ?_⟩
  refine any_val (i := 4) (v := .bool true) rfl (by kernel_rfl) (by kernel_rfl) (by kernel_rfl) hQ (want_none rfl) (fun w => by simp [go_sem, execOp, hs]) ?_
  refine any_val (i := 5) (v := .bool true) rfl (by kernel_rfl) (by kernel_rfl) (by kernel_rfl) hQ (want_none rfl) (fun w => by simp [go_sem, execOp, hs]) ?_
  refine any_val (i := 6) (v := .slice av n cv) rfl (by kernel_rfl) (by kernel_rfl) (by kernel_rfl) hQ (want_at (b := true) rfl rfl (by simp [Act.size_put, hs]) (by simp [Act.eval_put_same, Act.size_put, hs]) rfl) (fun w => by simp [execOp, Act.eval_put_ne, h9]) ?_
  refine any_run (i := 7) (v := .slice (some ⟨w9.heap.size, 0, none⟩) 2 2) (w' := w9.alloc (.cells #[.int .u8 13, .int .u8 10] 5)) (by kernel_rfl) rfl (want_at (b := true) rfl rfl (by simp [Act.size_put, hs]) (by simp [Act.eval_put_same, Act.eval_put_ne, Act.size_put, hs]) rfl) (by simp [go_sem, execOp]) ?_
  refine any_run (i := 8) (v := .slice (some ⟨w9.heap.size, 0, none⟩) 2 2) (w' := w9.alloc (.cells #[.int .u8 13, .int .u8 10] 5 (2, 3))) (by kernel_rfl) rfl (want_at (b := true) rfl rfl (by simp [Act.size_put, hs]) (by simp [Act.eval_put_same, Act.eval_put_ne, Act.size_put, hs]) rfl) (by simp [go_sem, execOp, hs, kc2 w9]) ?_
  refine any_call (i := 9) (f := 17) (args := #[.slice av n cv, .slice (some ⟨w9.heap.size, 0, none⟩) 2 2]) (by kernel_rfl) rfl (want_at (b := true) rfl rfl (by simp [Act.size_put, hs]) (by simp [Act.eval_put_same, Act.eval_put_ne, Act.size_put, hs]) rfl) (by simp [go_sem, execOp, resolve, invoke, hs]) (two_call (hb.keepS k9 (fun _ _ => id)) hp2) ?_
  rintro e w10 ⟨rfl, k10'⟩
  have k10 := k9.trans k10' (fun _ _ h => h)
  refine ⟨_, rfl, ?_⟩
  refine any_val (i := 10) (v := .bool true) rfl (by kernel_rfl) (by kernel_rfl) (by kernel_rfl) hQ (want_at (b := true) rfl rfl (by simp [Act.size_put, hs]) (by simp [Act.eval_put_same, Act.eval_put_ne, Act.size_put, hs]) rfl) (fun w => by simp [go_sem, execOp, hs]) ?_
  refine any_val (i := 11) (v := .bool true) rfl (by kernel_rfl) (by kernel_rfl) (by kernel_rfl) hQ (want_none rfl) (fun w => by simp [go_sem, execOp, hs]) ?_
  refine any_val (i := 12) (v := .bool true) rfl (by kernel_rfl) (by kernel_rfl) (by kernel_rfl) hQ (want_none rfl) (fun w => by simp [go_sem, execOp, hs]) ?_
  refine any_val (i := 13) (v := .slice av n cv) rfl (by kernel_rfl) (by kernel_rfl) (by kernel_rfl) hQ (want_at (b := true) rfl rfl (by simp [Act.size_put, hs]) (by simp [Act.eval_put_same, Act.size_put, hs]) rfl) (fun w => by simp [execOp, Act.eval_put_ne, h9]) ?_
  refine any_val (i := 14) (v := .int .i64 n) rfl (by kernel_rfl) (by kernel_rfl) (by kernel_rfl) hQ (want_at (b := true) rfl rfl (by simp [Act.size_put, hs]) (by simp [Act.eval_put_same, Act.eval_put_ne, Act.size_put, hs]) rfl) (fun w => by simp [go_sem, execOp, hs]) ?_
  refine any_val (i := 15) (v := .bool true) rfl (by kernel_rfl) (by kernel_rfl) (by kernel_rfl) hQ (want_at (b := true) rfl rfl (by simp [Act.size_put, hs]) (by simp [Act.eval_put_same, Act.eval_put_ne, Act.size_put, hs]) rfl) (fun w => by simp [go_sem, execOp, hs, hl0]) ?_
  refine any_val (i := 16) (v := .bool true) rfl (by kernel_rfl) (by kernel_rfl) (by kernel_rfl) hQ (want_at (b := true) rfl rfl (by simp [Act.size_put, hs]) (by simp [Act.eval_put_same, Act.eval_put_ne, Act.size_put, hs]) rfl) (fun w => by simp [go_sem, execOp, hs]) ?_
  refine any_val (i := 17) (v := .pointer (some ⟨R, 0, none⟩)) rfl (by kernel_rfl) (by kernel_rfl) (by kernel_rfl) hQ (want_at (b := true) rfl rfl (by simp [Act.size_put, hs]) (by simp [Act.eval_put_same, Act.size_put, hs]) rfl) (fun w => by simp [execOp, Act.eval_put_ne, h0]) ?_
  refine any_val (i := 18) (v := .pointer (some ⟨R, 0, none⟩)) rfl (by kernel_rfl) (by kernel_rfl) (by kernel_rfl) hQ (want_at (b := true) rfl rfl (by simp [Act.size_put, hs]) (by simp [Act.eval_put_same, Act.eval_put_ne, Act.size_put, hs]) rfl) (fun w => by simp [go_sem, execOp, hs]) ?_
  refine any_val (i := 19) (v := .pointer (some ⟨R, 2, none⟩)) rfl (by kernel_rfl) (by kernel_rfl) (by kernel_rfl) hQ (want_at (b := true) rfl rfl (by simp [Act.size_put, hs]) (by simp [Act.eval_put_same, Act.eval_put_ne, Act.size_put, hs]) rfl) (fun w => by simp [go_sem, execOp, hs]) ?_
  have d2 := k10.cell (p := ⟨R, 2, none⟩) id c2
  refine any_run (i := 20) (v := .slice la tl lc) (w' := w10) (by kernel_rfl) rfl (want_at (b := true) rfl rfl (by simp [Act.size_put, hs]) (by simp [Act.eval_put_same, Act.eval_put_ne, Act.size_put, hs]) rfl) (by simp [go_sem, execOp, hs, d2]) ?_
  refine any_val (i := 21) (v := .int .i64 tl) rfl (by kernel_rfl) (by kernel_rfl) (by kernel_rfl) hQ (want_at (b := true) rfl rfl (by simp [Act.size_put, hs]) (by simp [Act.eval_put_same, Act.eval_put_ne, Act.size_put, hs]) rfl) (fun w => by simp [go_sem, execOp, hs]) ?_
  refine any_val (i := 22) (v := .bool true) rfl (by kernel_rfl) (by kernel_rfl) (by kernel_rfl) hQ (want_at (b := true) rfl rfl (by simp [Act.size_put, hs]) (by simp [Act.eval_put_same, Act.eval_put_ne, Act.size_put, hs]) rfl) (fun w => by simp [go_sem, execOp, hs, hgt]) ?_
  refine any_val (i := 23) (v := .bool true) rfl (by kernel_rfl) (by kernel_rfl) (by kernel_rfl) hQ (want_at (b := true) rfl rfl (by simp [Act.size_put, hs]) (by simp [Act.eval_put_same, Act.eval_put_ne, Act.size_put, hs]) rfl) (fun w => by simp [go_sem, execOp, hs]) ?_
  refine any_val (i := 24) (v := .bool true) rfl (by kernel_rfl) (by kernel_rfl) (by kernel_rfl) hQ (want_at (b := true) rfl rfl (by simp [Act.size_put, hs]) (by simp [Act.eval_put_same, Act.eval_put_ne, Act.size_put, hs]) rfl) (fun w => by simp [go_sem, execOp, hs]) ?_
  refine any_val (i := 25) (v := .pointer (some ⟨R, 0, none⟩)) rfl (by kernel_rfl) (by kernel_rfl) (by kernel_rfl) hQ (want_at (b := true) rfl rfl (by simp [Act.size_put, hs]) (by simp [Act.eval_put_same, Act.size_put, hs]) rfl) (fun w => by simp [execOp, Act.eval_put_ne, h0]) ?_
  refine any_val (i := 26) (v := .pointer (some ⟨R, 0, none⟩)) rfl (by kernel_rfl) (by kernel_rfl) (by kernel_rfl) hQ (want_at (b := true) rfl rfl (by simp [Act.size_put, hs]) (by simp [Act.eval_put_same, Act.eval_put_ne, Act.size_put, hs]) rfl) (fun w => by simp [go_sem, execOp, hs]) ?_
  refine any_val (i := 27) (v := .pointer (some ⟨R, 1, none⟩)) rfl (by kernel_rfl) (by kernel_rfl) (by kernel_rfl) hQ (want_at (b := true) rfl rfl (by simp [Act.size_put, hs]) (by simp [Act.eval_put_same, Act.eval_put_ne, Act.size_put, hs]) rfl) (fun w => by simp [go_sem, execOp, hs]) ?_
  have d1 := k10.cell (p := ⟨R, 1, none⟩) id c1
  have d0 := k10.cell (p := ⟨0, 0, none⟩) id heof
  refine any_two (i := 28) (j := 29) (vi := eofv fa) (vj := eofv ea) rfl rfl (by kernel_rfl) (by kernel_rfl) (by kernel_rfl) (by kernel_rfl) (by kernel_rfl) (want_at (b := true) rfl rfl (by simp [Act.size_put, hs]) (by simp [Act.eval_put_same, Act.eval_put_ne, Act.size_put, hs]) rfl) (want_at (b := true) rfl rfl (by simp [Act.size_put, hs]) (by simp [Act.eval_put_same, Act.eval_put_ne, Act.size_put, hs]) rfl) (by simp [go_sem, execOp, hs, d1]) (by simp [go_sem, execOp, d0]) ?_
  have hfar' := hfar w10 k10
  refine any_run (i := 30) (v := .bool false) (w' := w10) (by kernel_rfl) rfl (want_at (b := true) rfl rfl (by simp [Act.size_put, hs]) (by simp [Act.eval_put_same, Act.eval_put_ne, Act.size_put, hs]) rfl) (by simp [go_sem, execOp, hs, hfar', eqg_eof]) ?_
  refine any_val (i := 31) (v := .bool false) rfl (by kernel_rfl) (by kernel_rfl) (by kernel_rfl) hQ (want_at (b := true) rfl rfl (by simp [Act.size_put, hs]) (by simp [Act.eval_put_same, Act.eval_put_ne, Act.size_put, hs]) rfl) (fun w => by simp [go_sem, execOp, hs]) ?_
  refine any_val (i := 32) (v := .bool true) rfl (by kernel_rfl) (by kernel_rfl) (by kernel_rfl) hQ (want_at (b := true) rfl rfl (by simp [Act.size_put, hs]) (by simp [Act.eval_put_same, Act.eval_put_ne, Act.size_put, hs]) rfl) (fun w => by simp [go_sem, execOp, hs]) ?_
  refine any_val (i := 33) (v := .bool true) rfl (by kernel_rfl) (by kernel_rfl) (by kernel_rfl) hQ (want_none rfl) (fun w => by simp [go_sem, execOp, hs]) ?_
  refine any_done _ (by kernel_rfl) rfl ?_
  exact hend' _ _ _ _ _ _ _ _ _ _ _ _ _ _ _ _ _ _ _ _ _ _ _ _ _ _ _ _ _ _ _ _ _ _ k10

end Go.Proofs.YtcbolmendjocbaaDoor

/- The Reader's test behind an equals sign at a line's end (region 13 of Read), in whatever order (printed by gen13.py). -/
import Derived.Test.YtcbolmendjocbaaDoorRq0
import Derived.Test.YtcbolmendjocbaaDoorAny
import Derived.LaidEql
namespace Go.Proofs.YtcbolmendjocbaaDoor
open Go.RowKit Qp

def regAt (n : Nat) : Code → Option Code
  | .region i ops b => if i == n then some (.region i ops b) else none
  | .loop c => regAt n c
  | .seq a b => match regAt n a with
    | some c => some c
    | none => regAt n b
  | .block _ c => regAt n c
  | .scope c => regAt n c
  | .cond _ a b => match regAt n a with
    | some c => some c
    | none => regAt n b
  | _ => none
noncomputable def reg13 : Code := (regAt 13 rbody).getD .skip

theorem one_call {w8 : World} {av : Option Addr} {n cv : Nat} {rs : List UInt8} {b : Bool} (h : Bs w8 (.slice av n cv) rs) (hp : ([10] : List UInt8).isPrefixOf rs = b) :
    Calls Tryd.prog 17 #[.slice av n cv, .slice (some ⟨w8.heap.size, 0, none⟩) 1 1] (w8.alloc (.cells #[.int .u8 10] 5 (1, 2))) fun e w' => e = .returned (.bool b) ∧ Keep (fun _ => False) w8 w' := by
  subst hp
  have k9 : Keep (fun _ => False) w8 (w8.alloc (.cells #[.int .u8 10] 5 (1, 2))) := (Keep.refl (fun _ => False) w8).alloc _
  refine (hasPrefix_bs (h.keepS k9 (fun _ _ => id)) (lit_bs w8 [10] (1, 2) 1 rfl (by omega) #[.int .u8 10] rfl)).mono ?_
  rintro e w' ⟨rfl, rfl⟩
  exact ⟨rfl, k9⟩
theorem two_call {w8 : World} {av : Option Addr} {n cv : Nat} {rs : List UInt8} {b : Bool} (h : Bs w8 (.slice av n cv) rs) (hp : ([13, 10] : List UInt8).isPrefixOf rs = b) :
    Calls Tryd.prog 17 #[.slice av n cv, .slice (some ⟨w8.heap.size, 0, none⟩) 2 2] (w8.alloc (.cells #[.int .u8 13, .int .u8 10] 5 (2, 3))) fun e w' => e = .returned (.bool b) ∧ Keep (fun _ => False) w8 w' := by
  subst hp
  have k9 : Keep (fun _ => False) w8 (w8.alloc (.cells #[.int .u8 13, .int .u8 10] 5 (2, 3))) := (Keep.refl (fun _ => False) w8).alloc _
  refine (hasPrefix_bs (h.keepS k9 (fun _ _ => id)) (lit_bs w8 [13, 10] (2, 3) 2 rfl (by omega) #[.int .u8 13, .int .u8 10] rfl)).mono ?_
  rintro e w' ⟨rfl, rfl⟩
  exact ⟨rfl, k9⟩
theorem kc1 (w8 : World) : (convert 22 22 (.slice (some ⟨w8.heap.size, 0, none⟩) 1 1)).run Tryd.prog (w8.alloc (.cells #[.int .u8 10] 5)) = .ok (.slice (some ⟨w8.heap.size, 0, none⟩) 1 1) (w8.alloc (.cells #[.int .u8 10] 5 (1, 2))) := kconst w8 w8.heap.size 1 1 2 rfl #[.int .u8 10] rfl rfl
theorem kc2 (w8 : World) : (convert 22 22 (.slice (some ⟨w8.heap.size, 0, none⟩) 2 2)).run Tryd.prog (w8.alloc (.cells #[.int .u8 13, .int .u8 10] 5)) = .ok (.slice (some ⟨w8.heap.size, 0, none⟩) 2 2) (w8.alloc (.cells #[.int .u8 13, .int .u8 10] 5 (2, 3))) := kconst w8 w8.heap.size 2 2 3 rfl #[.int .u8 13, .int .u8 10] rfl rfl
theorem info96 : ∃ i, Tryd.prog.info? 84 = some i ∧ i.comparable = true := by
  have h : (Tryd.prog.info? 84).map (·.comparable) = some true := by kernel_rfl
  exact Option.map_eq_some_iff.1 h
theorem info133 : ∃ i, Tryd.prog.info? 86 = some i := by
  have h : (Tryd.prog.info? 86).isSome = true := by kernel_rfl
  exact Option.isSome_iff_exists.1 h
theorem eof_same (ea : Addr) (w : World) : (binOp .eql 46 (eofv ea) (eofv ea)).run Tryd.prog w = .ok (.bool true) w := by
  obtain ⟨i, hi, hc⟩ := info96
  obtain ⟨j, hj⟩ := info133
  exact run_eql_iface_ptr_same w ea Tryd.underlying46 Tryd.underlying84 hi hc hj
theorem eqg_eof (t : TypeId) (x y : Operand) (a b : Addr) : eqGuard .eql t x y (eofv a) (eofv b) = pure () := rfl
theorem drew_cell {w : World} {p : Addr} {v : Value} (h : w.cell? p = some v) : w.drew.cell? p = some v := h

set_option maxRecDepth 100000 in
set_option maxHeartbeats 6400000 in
theorem r13_a {Q : Exit → Act → World → Prop} (hQ : ∀ c a a' w, Q (.panic c) a w → Q (.panic c) a' w) {A0 : Act} {w : World} {av : Option Addr} {n cv R : Nat} {ea : Addr} {rs : List UInt8} (hs : A0.tmps.size = 247) (h0 : A0.eval (.tmp 0) = .pointer (some ⟨R, 0, none⟩)) (h9 : A0.eval (.tmp 9) = .slice av n cv)
    (hb : Bs w (.slice av n cv) rs) (hp1 : ([10] : List UInt8).isPrefixOf rs = true)
    (hend : ∀ (y96 y97 y98 y99 y100 y101 y102 y103 y104 y105 y106 y107 y108 y109 y110 y111 y112 y113 y114 y115 y116 y117 y118 y119 y120 y121 y122 y123 y124 y125 y126 y127 y128 : Value) w', Keep (fun _ => False) w w' → Q .normal ((((((((((((((((((((((((((((((((((A0.put (some 96) y96).put (some 97) y97).put (some 98) y98).put (some 99) y99).put (some 100) y100).put (some 101) y101).put (some 102) y102).put (some 103) y103).put (some 104) y104).put (some 105) y105).put (some 106) y106).put (some 107) y107).put (some 108) y108).put (some 109) y109).put (some 110) y110).put (some 111) y111).put (some 112) y112).put (some 113) y113).put (some 114) y114).put (some 115) y115).put (some 116) y116).put (some 117) y117).put (some 118) y118).put (some 119) y119).put (some 120) y120).put (some 121) y121).put (some 122) y122).put (some 123) y123).put (some 124) y124).put (some 125) y125).put (some 126) y126).put (some 127) y127).put (some 128) y128).put (some 129) (.bool false)) w') :
    Code.wp Tryd.prog reg13 Q A0 w := by
  have _hu := h0
  have _he := ea
  have hend' := fun y96 y97 y98 y99 y100 y101 y102 y103 y104 y105 y106 y107 y108 y109 y110 y111 y112 y113 y114 y115 y116 y117 y118 y119 y120 y121 y122 y123 y124 y125 y126 y127 y128 w' (k : Keep (fun _ => False) w.drew w') => hend y96 y97 y98 y99 y100 y101 y102 y103 y104 y105 y106 y107 y108 y109 y110 y111 y112 y113 y114 y115 y116 y117 y118 y119 y120 y121 y122 y123 y124 y125 y126 y127 y128 w' (((Keep.refl (fun _ => False) w).drew).trans k (fun _ _ h => h))
  clear hend
  replace hb := hb.keepS ((Keep.refl (fun _ => False) w).drew) (fun _ _ => id)
  conv => arg 2; whnf
  refine wp_region_any (by kernel_rfl) ?_
  change wpAny _ _ _ _ 34 (Array.replicate 34 false) _ (World.drew _)
  generalize w.drew = wd at *
  refine any_val (i := 0) (v := .slice av n cv) rfl (by kernel_rfl) (by kernel_rfl) (by kernel_rfl) hQ (want_none rfl) (fun w => by simp [execOp, h9]) ?_
  refine any_run (i := 1) (v := .slice (some ⟨wd.heap.size, 0, none⟩) 1 1) (w' := wd.alloc (.cells #[.int .u8 10] 5)) (by kernel_rfl) rfl (want_none rfl) (by simp [go_sem, execOp]) ?_
  refine any_run (i := 2) (v := .slice (some ⟨wd.heap.size, 0, none⟩) 1 1) (w' := wd.alloc (.cells #[.int .u8 10] 5 (1, 2))) (by kernel_rfl) rfl (want_none rfl) (by simp [go_sem, execOp, hs, kc1 wd]) ?_
  refine any_call (i := 3) (f := 17) (args := #[.slice av n cv, .slice (some ⟨wd.heap.size, 0, none⟩) 1 1]) (by kernel_rfl) rfl (want_none rfl) (by simp [go_sem, execOp, resolve, invoke, hs]) (one_call hb hp1) ?_
  rintro e w9 ⟨rfl, k9⟩
  refine ⟨_, rfl, ?_⟩
  refine any_val (i := 4) (v := .bool false) rfl (by kernel_rfl) (by kernel_rfl) (by kernel_rfl) hQ (want_none rfl) (fun w => by simp [go_sem, execOp, hs]) ?_
  refine any_val (i := 5) (v := .bool false) rfl (by kernel_rfl) (by kernel_rfl) (by kernel_rfl) hQ (want_none rfl) (fun w => by simp [go_sem, execOp, hs]) ?_
  refine any_skip (i := 6) rfl (by kernel_rfl) (by kernel_rfl) (by kernel_rfl) hQ (want_at (b := false) rfl rfl (by simp [Act.size_put, hs]) (by simp [Act.eval_put_same, Act.size_put, hs]) rfl) ?_
  refine any_skip (i := 7) rfl (by kernel_rfl) (by kernel_rfl) (by kernel_rfl) hQ (want_at (b := false) rfl rfl (by simp [Act.size_put, hs]) (by simp [Act.eval_put_same, Act.eval_put_ne, Act.size_put, hs]) rfl) ?_
  refine any_skip (i := 8) rfl (by kernel_rfl) (by kernel_rfl) (by kernel_rfl) hQ (want_at (b := false) rfl rfl (by simp [Act.size_put, hs]) (by simp [Act.eval_put_same, Act.eval_put_ne, Act.size_put, hs]) rfl) ?_
  refine any_skip (i := 9) rfl (by kernel_rfl) (by kernel_rfl) (by kernel_rfl) hQ (want_at (b := false) rfl rfl (by simp [Act.size_put, hs]) (by simp [Act.eval_put_same, Act.eval_put_ne, Act.size_put, hs]) rfl) ?_
  refine any_skip (i := 10) rfl (by kernel_rfl) (by kernel_rfl) (by kernel_rfl) hQ (want_at (b := false) rfl rfl (by simp [Act.size_put, hs]) (by simp [Act.eval_put_same, Act.eval_put_ne, Act.size_put, hs]) rfl) ?_
  refine any_val (i := 11) (v := .bool false) rfl (by kernel_rfl) (by kernel_rfl) (by kernel_rfl) hQ (want_none rfl) (fun w => by simp [go_sem, execOp, hs]) ?_
  refine any_val (i := 12) (v := .bool false) rfl (by kernel_rfl) (by kernel_rfl) (by kernel_rfl) hQ (want_none rfl) (fun w => by simp [go_sem, execOp, hs]) ?_
  refine any_skip (i := 13) rfl (by kernel_rfl) (by kernel_rfl) (by kernel_rfl) hQ (want_at (b := false) rfl rfl (by simp [Act.size_put, hs]) (by simp [Act.eval_put_same, Act.size_put, hs]) rfl) ?_
  refine any_skip (i := 14) rfl (by kernel_rfl) (by kernel_rfl) (by kernel_rfl) hQ (want_at (b := false) rfl rfl (by simp [Act.size_put, hs]) (by simp [Act.eval_put_same, Act.eval_put_ne, Act.size_put, hs]) rfl) ?_
  refine any_skip (i := 15) rfl (by kernel_rfl) (by kernel_rfl) (by kernel_rfl) hQ (want_at (b := false) rfl rfl (by simp [Act.size_put, hs]) (by simp [Act.eval_put_same, Act.eval_put_ne, Act.size_put, hs]) rfl) ?_
  refine any_skip (i := 16) rfl (by kernel_rfl) (by kernel_rfl) (by kernel_rfl) hQ (want_at (b := false) rfl rfl (by simp [Act.size_put, hs]) (by simp [Act.eval_put_same, Act.eval_put_ne, Act.size_put, hs]) rfl) ?_
  refine any_skip (i := 17) rfl (by kernel_rfl) (by kernel_rfl) (by kernel_rfl) hQ (want_undef rfl rfl (by simp [Act.size_put, hs]) (by simp [Act.eval_put_same, Act.size_put, hs])) ?_
  refine any_skip (i := 18) rfl (by kernel_rfl) (by kernel_rfl) (by kernel_rfl) hQ (want_undef rfl rfl (by simp [Act.size_put, hs]) (by simp [Act.eval_put_same, Act.eval_put_ne, Act.size_put, hs])) ?_
  refine any_skip (i := 19) rfl (by kernel_rfl) (by kernel_rfl) (by kernel_rfl) hQ (want_undef rfl rfl (by simp [Act.size_put, hs]) (by simp [Act.eval_put_same, Act.eval_put_ne, Act.size_put, hs])) ?_
  refine any_skip (i := 20) rfl (by kernel_rfl) (by kernel_rfl) (by kernel_rfl) hQ (want_undef rfl rfl (by simp [Act.size_put, hs]) (by simp [Act.eval_put_same, Act.eval_put_ne, Act.size_put, hs])) ?_
  refine any_skip (i := 21) rfl (by kernel_rfl) (by kernel_rfl) (by kernel_rfl) hQ (want_undef rfl rfl (by simp [Act.size_put, hs]) (by simp [Act.eval_put_same, Act.eval_put_ne, Act.size_put, hs])) ?_
  refine any_skip (i := 22) rfl (by kernel_rfl) (by kernel_rfl) (by kernel_rfl) hQ (want_undef rfl rfl (by simp [Act.size_put, hs]) (by simp [Act.eval_put_same, Act.eval_put_ne, Act.size_put, hs])) ?_
  refine any_skip (i := 23) rfl (by kernel_rfl) (by kernel_rfl) (by kernel_rfl) hQ (want_at (b := false) rfl rfl (by simp [Act.size_put, hs]) (by simp [Act.eval_put_same, Act.eval_put_ne, Act.size_put, hs]) rfl) ?_
  refine any_skip (i := 24) rfl (by kernel_rfl) (by kernel_rfl) (by kernel_rfl) hQ (want_at (b := false) rfl rfl (by simp [Act.size_put, hs]) (by simp [Act.eval_put_same, Act.eval_put_ne, Act.size_put, hs]) rfl) ?_
  refine any_skip (i := 25) rfl (by kernel_rfl) (by kernel_rfl) (by kernel_rfl) hQ (want_undef rfl rfl (by simp [Act.size_put, hs]) (by simp [Act.eval_put_same, Act.size_put, hs])) ?_
  refine any_skip (i := 26) rfl (by kernel_rfl) (by kernel_rfl) (by kernel_rfl) hQ (want_undef rfl rfl (by simp [Act.size_put, hs]) (by simp [Act.eval_put_same, Act.eval_put_ne, Act.size_put, hs])) ?_
  refine any_skip (i := 27) rfl (by kernel_rfl) (by kernel_rfl) (by kernel_rfl) hQ (want_undef rfl rfl (by simp [Act.size_put, hs]) (by simp [Act.eval_put_same, Act.eval_put_ne, Act.size_put, hs])) ?_
  refine any_skip (i := 28) rfl (by kernel_rfl) (by kernel_rfl) (by kernel_rfl) hQ (want_undef rfl rfl (by simp [Act.size_put, hs]) (by simp [Act.eval_put_same, Act.eval_put_ne, Act.size_put, hs])) ?_
  refine any_skip (i := 29) rfl (by kernel_rfl) (by kernel_rfl) (by kernel_rfl) hQ (want_undef rfl rfl (by simp [Act.size_put, hs]) (by simp [Act.eval_put_same, Act.eval_put_ne, Act.size_put, hs])) ?_
  refine any_skip (i := 30) rfl (by kernel_rfl) (by kernel_rfl) (by kernel_rfl) hQ (want_undef rfl rfl (by simp [Act.size_put, hs]) (by simp [Act.eval_put_same, Act.eval_put_ne, Act.size_put, hs])) ?_
  refine any_skip (i := 31) rfl (by kernel_rfl) (by kernel_rfl) (by kernel_rfl) hQ (want_at (b := false) rfl rfl (by simp [Act.size_put, hs]) (by simp [Act.eval_put_same, Act.eval_put_ne, Act.size_put, hs]) rfl) ?_
  refine any_skip (i := 32) rfl (by kernel_rfl) (by kernel_rfl) (by kernel_rfl) hQ (want_at (b := false) rfl rfl (by simp [Act.size_put, hs]) (by simp [Act.eval_put_same, Act.eval_put_ne, Act.size_put, hs]) rfl) ?_
  refine any_val (i := 33) (v := .bool false) rfl (by kernel_rfl) (by kernel_rfl) (by kernel_rfl) hQ (want_none rfl) (fun w => by simp [go_sem, execOp, hs]) ?_
  refine any_done _ (by kernel_rfl) rfl ?_
  exact hend' _ _ _ _ _ _ _ _ _ _ _ _ _ _ _ _ _ _ _ _ _ _ _ _ _ _ _ _ _ _ _ _ _ _ k9

set_option maxRecDepth 100000 in
set_option maxHeartbeats 6400000 in
theorem r13_b {Q : Exit → Act → World → Prop} (hQ : ∀ c a a' w, Q (.panic c) a w → Q (.panic c) a' w) {A0 : Act} {w : World} {av : Option Addr} {n cv R : Nat} {ea : Addr} {rs : List UInt8} (hs : A0.tmps.size = 247) (h0 : A0.eval (.tmp 0) = .pointer (some ⟨R, 0, none⟩)) (h9 : A0.eval (.tmp 9) = .slice av n cv)
    (hb : Bs w (.slice av n cv) rs) (hp1 : ([10] : List UInt8).isPrefixOf rs = false) (hp2 : ([13, 10] : List UInt8).isPrefixOf rs = true)
    (hend : ∀ (y96 y97 y98 y99 y100 y101 y102 y103 y104 y105 y106 y107 y108 y109 y110 y111 y112 y113 y114 y115 y116 y117 y118 y119 y120 y121 y122 y123 y124 y125 y126 y127 y128 : Value) w', Keep (fun _ => False) w w' → Q .normal ((((((((((((((((((((((((((((((((((A0.put (some 96) y96).put (some 97) y97).put (some 98) y98).put (some 99) y99).put (some 100) y100).put (some 101) y101).put (some 102) y102).put (some 103) y103).put (some 104) y104).put (some 105) y105).put (some 106) y106).put (some 107) y107).put (some 108) y108).put (some 109) y109).put (some 110) y110).put (some 111) y111).put (some 112) y112).put (some 113) y113).put (some 114) y114).put (some 115) y115).put (some 116) y116).put (some 117) y117).put (some 118) y118).put (some 119) y119).put (some 120) y120).put (some 121) y121).put (some 122) y122).put (some 123) y123).put (some 124) y124).put (some 125) y125).put (some 126) y126).put (some 127) y127).put (some 128) y128).put (some 129) (.bool false)) w') :
    Code.wp Tryd.prog reg13 Q A0 w := by
  have _hu := h0
  have _he := ea
  have hend' := fun y96 y97 y98 y99 y100 y101 y102 y103 y104 y105 y106 y107 y108 y109 y110 y111 y112 y113 y114 y115 y116 y117 y118 y119 y120 y121 y122 y123 y124 y125 y126 y127 y128 w' (k : Keep (fun _ => False) w.drew w') => hend y96 y97 y98 y99 y100 y101 y102 y103 y104 y105 y106 y107 y108 y109 y110 y111 y112 y113 y114 y115 y116 y117 y118 y119 y120 y121 y122 y123 y124 y125 y126 y127 y128 w' (((Keep.refl (fun _ => False) w).drew).trans k (fun _ _ h => h))
  clear hend
  replace hb := hb.keepS ((Keep.refl (fun _ => False) w).drew) (fun _ _ => id)
  conv => arg 2; whnf
  refine wp_region_any (by kernel_rfl) ?_
  change wpAny _ _ _ _ 34 (Array.replicate 34 false) _ (World.drew _)
  generalize w.drew = wd at *
  refine any_val (i := 0) (v := .slice av n cv) rfl (by kernel_rfl) (by kernel_rfl) (by kernel_rfl) hQ (want_none rfl) (fun w => by simp [execOp, h9]) ?_
  refine any_run (i := 1) (v := .slice (some ⟨wd.heap.size, 0, none⟩) 1 1) (w' := wd.alloc (.cells #[.int .u8 10] 5)) (by kernel_rfl) rfl (want_none rfl) (by simp [go_sem, execOp]) ?_
  refine any_run (i := 2) (v := .slice (some ⟨wd.heap.size, 0, none⟩) 1 1) (w' := wd.alloc (.cells #[.int .u8 10] 5 (1, 2))) (by kernel_rfl) rfl (want_none rfl) (by simp [go_sem, execOp, hs, kc1 wd]) ?_
  refine any_call (i := 3) (f := 17) (args := #[.slice av n cv, .slice (some ⟨wd.heap.size, 0, none⟩) 1 1]) (by kernel_rfl) rfl (want_none rfl) (by simp [go_sem, execOp, resolve, invoke, hs]) (one_call hb hp1) ?_
  rintro e w9 ⟨rfl, k9⟩
  refine ⟨_, rfl, ?_⟩
  refine any_val (i := 4) (v := .bool true) rfl (by kernel_rfl) (by kernel_rfl) (by kernel_rfl) hQ (want_none rfl) (fun w => by simp [go_sem, execOp, hs]) ?_
  refine any_val (i := 5) (v := .bool true) rfl (by kernel_rfl) (by kernel_rfl) (by kernel_rfl) hQ (want_none rfl) (fun w => by simp [go_sem, execOp, hs]) ?_
  refine any_val (i := 6) (v := .slice av n cv) rfl (by kernel_rfl) (by kernel_rfl) (by kernel_rfl) hQ (want_at (b := true) rfl rfl (by simp [Act.size_put, hs]) (by simp [Act.eval_put_same, Act.size_put, hs]) rfl) (fun w => by simp [execOp, Act.eval_put_ne, h9]) ?_
  refine any_run (i := 7) (v := .slice (some ⟨w9.heap.size, 0, none⟩) 2 2) (w' := w9.alloc (.cells #[.int .u8 13, .int .u8 10] 5)) (by kernel_rfl) rfl (want_at (b := true) rfl rfl (by simp [Act.size_put, hs]) (by simp [Act.eval_put_same, Act.eval_put_ne, Act.size_put, hs]) rfl) (by simp [go_sem, execOp]) ?_
  refine any_run (i := 8) (v := .slice (some ⟨w9.heap.size, 0, none⟩) 2 2) (w' := w9.alloc (.cells #[.int .u8 13, .int .u8 10] 5 (2, 3))) (by kernel_rfl) rfl (want_at (b := true) rfl rfl (by simp [Act.size_put, hs]) (by simp [Act.eval_put_same, Act.eval_put_ne, Act.size_put, hs]) rfl) (by simp [go_sem, execOp, hs, kc2 w9]) ?_
  refine any_call (i := 9) (f := 17) (args := #[.slice av n cv, .slice (some ⟨w9.heap.size, 0, none⟩) 2 2]) (by kernel_rfl) rfl (want_at (b := true) rfl rfl (by simp [Act.size_put, hs]) (by simp [Act.eval_put_same, Act.eval_put_ne, Act.size_put, hs]) rfl) (by simp [go_sem, execOp, resolve, invoke, hs]) (two_call (hb.keepS k9 (fun _ _ => id)) hp2) ?_
  rintro e w10 ⟨rfl, k10'⟩
  have k10 := k9.trans k10' (fun _ _ h => h)
  refine ⟨_, rfl, ?_⟩
  refine any_val (i := 10) (v := .bool false) rfl (by kernel_rfl) (by kernel_rfl) (by kernel_rfl) hQ (want_at (b := true) rfl rfl (by simp [Act.size_put, hs]) (by simp [Act.eval_put_same, Act.eval_put_ne, Act.size_put, hs]) rfl) (fun w => by simp [go_sem, execOp, hs]) ?_
  refine any_val (i := 11) (v := .bool false) rfl (by kernel_rfl) (by kernel_rfl) (by kernel_rfl) hQ (want_none rfl) (fun w => by simp [go_sem, execOp, hs]) ?_
  refine any_val (i := 12) (v := .bool false) rfl (by kernel_rfl) (by kernel_rfl) (by kernel_rfl) hQ (want_none rfl) (fun w => by simp [go_sem, execOp, hs]) ?_
  refine any_skip (i := 13) rfl (by kernel_rfl) (by kernel_rfl) (by kernel_rfl) hQ (want_at (b := false) rfl rfl (by simp [Act.size_put, hs]) (by simp [Act.eval_put_same, Act.size_put, hs]) rfl) ?_
  refine any_skip (i := 14) rfl (by kernel_rfl) (by kernel_rfl) (by kernel_rfl) hQ (want_at (b := false) rfl rfl (by simp [Act.size_put, hs]) (by simp [Act.eval_put_same, Act.eval_put_ne, Act.size_put, hs]) rfl) ?_
  refine any_skip (i := 15) rfl (by kernel_rfl) (by kernel_rfl) (by kernel_rfl) hQ (want_at (b := false) rfl rfl (by simp [Act.size_put, hs]) (by simp [Act.eval_put_same, Act.eval_put_ne, Act.size_put, hs]) rfl) ?_
  refine any_skip (i := 16) rfl (by kernel_rfl) (by kernel_rfl) (by kernel_rfl) hQ (want_at (b := false) rfl rfl (by simp [Act.size_put, hs]) (by simp [Act.eval_put_same, Act.eval_put_ne, Act.size_put, hs]) rfl) ?_
  refine any_skip (i := 17) rfl (by kernel_rfl) (by kernel_rfl) (by kernel_rfl) hQ (want_undef rfl rfl (by simp [Act.size_put, hs]) (by simp [Act.eval_put_same, Act.size_put, hs])) ?_
  refine any_skip (i := 18) rfl (by kernel_rfl) (by kernel_rfl) (by kernel_rfl) hQ (want_undef rfl rfl (by simp [Act.size_put, hs]) (by simp [Act.eval_put_same, Act.eval_put_ne, Act.size_put, hs])) ?_
  refine any_skip (i := 19) rfl (by kernel_rfl) (by kernel_rfl) (by kernel_rfl) hQ (want_undef rfl rfl (by simp [Act.size_put, hs]) (by simp [Act.eval_put_same, Act.eval_put_ne, Act.size_put, hs])) ?_
  refine any_skip (i := 20) rfl (by kernel_rfl) (by kernel_rfl) (by kernel_rfl) hQ (want_undef rfl rfl (by simp [Act.size_put, hs]) (by simp [Act.eval_put_same, Act.eval_put_ne, Act.size_put, hs])) ?_
  refine any_skip (i := 21) rfl (by kernel_rfl) (by kernel_rfl) (by kernel_rfl) hQ (want_undef rfl rfl (by simp [Act.size_put, hs]) (by simp [Act.eval_put_same, Act.eval_put_ne, Act.size_put, hs])) ?_
  refine any_skip (i := 22) rfl (by kernel_rfl) (by kernel_rfl) (by kernel_rfl) hQ (want_undef rfl rfl (by simp [Act.size_put, hs]) (by simp [Act.eval_put_same, Act.eval_put_ne, Act.size_put, hs])) ?_
  refine any_skip (i := 23) rfl (by kernel_rfl) (by kernel_rfl) (by kernel_rfl) hQ (want_at (b := false) rfl rfl (by simp [Act.size_put, hs]) (by simp [Act.eval_put_same, Act.eval_put_ne, Act.size_put, hs]) rfl) ?_
  refine any_skip (i := 24) rfl (by kernel_rfl) (by kernel_rfl) (by kernel_rfl) hQ (want_at (b := false) rfl rfl (by simp [Act.size_put, hs]) (by simp [Act.eval_put_same, Act.eval_put_ne, Act.size_put, hs]) rfl) ?_
  refine any_skip (i := 25) rfl (by kernel_rfl) (by kernel_rfl) (by kernel_rfl) hQ (want_undef rfl rfl (by simp [Act.size_put, hs]) (by simp [Act.eval_put_same, Act.size_put, hs])) ?_
  refine any_skip (i := 26) rfl (by kernel_rfl) (by kernel_rfl) (by kernel_rfl) hQ (want_undef rfl rfl (by simp [Act.size_put, hs]) (by simp [Act.eval_put_same, Act.eval_put_ne, Act.size_put, hs])) ?_
  refine any_skip (i := 27) rfl (by kernel_rfl) (by kernel_rfl) (by kernel_rfl) hQ (want_undef rfl rfl (by simp [Act.size_put, hs]) (by simp [Act.eval_put_same, Act.eval_put_ne, Act.size_put, hs])) ?_
  refine any_skip (i := 28) rfl (by kernel_rfl) (by kernel_rfl) (by kernel_rfl) hQ (want_undef rfl rfl (by simp [Act.size_put, hs]) (by simp [Act.eval_put_same, Act.eval_put_ne, Act.size_put, hs])) ?_
  refine any_skip (i := 29) rfl (by kernel_rfl) (by kernel_rfl) (by kernel_rfl) hQ (want_undef rfl rfl (by simp [Act.size_put, hs]) (by simp [Act.eval_put_same, Act.eval_put_ne, Act.size_put, hs])) ?_
  refine any_skip (i := 30) rfl (by kernel_rfl) (by kernel_rfl) (by kernel_rfl) hQ (want_undef rfl rfl (by simp [Act.size_put, hs]) (by simp [Act.eval_put_same, Act.eval_put_ne, Act.size_put, hs])) ?_
  refine any_skip (i := 31) rfl (by kernel_rfl) (by kernel_rfl) (by kernel_rfl) hQ (want_at (b := false) rfl rfl (by simp [Act.size_put, hs]) (by simp [Act.eval_put_same, Act.eval_put_ne, Act.size_put, hs]) rfl) ?_
  refine any_skip (i := 32) rfl (by kernel_rfl) (by kernel_rfl) (by kernel_rfl) hQ (want_at (b := false) rfl rfl (by simp [Act.size_put, hs]) (by simp [Act.eval_put_same, Act.eval_put_ne, Act.size_put, hs]) rfl) ?_
  refine any_val (i := 33) (v := .bool false) rfl (by kernel_rfl) (by kernel_rfl) (by kernel_rfl) hQ (want_none rfl) (fun w => by simp [go_sem, execOp, hs]) ?_
  refine any_done _ (by kernel_rfl) rfl ?_
  exact hend' _ _ _ _ _ _ _ _ _ _ _ _ _ _ _ _ _ _ _ _ _ _ _ _ _ _ _ _ _ _ _ _ _ _ k10

set_option maxRecDepth 100000 in
set_option maxHeartbeats 6400000 in
theorem r13_c1 {Q : Exit → Act → World → Prop} (hQ : ∀ c a a' w, Q (.panic c) a w → Q (.panic c) a' w) {A0 : Act} {w : World} {av : Option Addr} {n cv R : Nat} {ea : Addr} {rs : List UInt8} (hs : A0.tmps.size = 247) (h0 : A0.eval (.tmp 0) = .pointer (some ⟨R, 0, none⟩)) (h9 : A0.eval (.tmp 9) = .slice av n cv)
    (hb : Bs w (.slice av n cv) rs) (hp1 : ([10] : List UInt8).isPrefixOf rs = false) (hp2 : ([13, 10] : List UInt8).isPrefixOf rs = false) (hl0 : ((n : Int) == 0) = false)
    (hend : ∀ (y96 y97 y98 y99 y100 y101 y102 y103 y104 y105 y106 y107 y108 y109 y110 y111 y112 y113 y114 y115 y116 y117 y118 y119 y120 y121 y122 y123 y124 y125 y126 y127 y128 : Value) w', Keep (fun _ => False) w w' → Q .normal ((((((((((((((((((((((((((((((((((A0.put (some 96) y96).put (some 97) y97).put (some 98) y98).put (some 99) y99).put (some 100) y100).put (some 101) y101).put (some 102) y102).put (some 103) y103).put (some 104) y104).put (some 105) y105).put (some 106) y106).put (some 107) y107).put (some 108) y108).put (some 109) y109).put (some 110) y110).put (some 111) y111).put (some 112) y112).put (some 113) y113).put (some 114) y114).put (some 115) y115).put (some 116) y116).put (some 117) y117).put (some 118) y118).put (some 119) y119).put (some 120) y120).put (some 121) y121).put (some 122) y122).put (some 123) y123).put (some 124) y124).put (some 125) y125).put (some 126) y126).put (some 127) y127).put (some 128) y128).put (some 129) (.bool true)) w') :
    Code.wp Tryd.prog reg13 Q A0 w := by
  have _hu := h0
  have _he := ea
  have hend' := fun y96 y97 y98 y99 y100 y101 y102 y103 y104 y105 y106 y107 y108 y109 y110 y111 y112 y113 y114 y115 y116 y117 y118 y119 y120 y121 y122 y123 y124 y125 y126 y127 y128 w' (k : Keep (fun _ => False) w.drew w') => hend y96 y97 y98 y99 y100 y101 y102 y103 y104 y105 y106 y107 y108 y109 y110 y111 y112 y113 y114 y115 y116 y117 y118 y119 y120 y121 y122 y123 y124 y125 y126 y127 y128 w' (((Keep.refl (fun _ => False) w).drew).trans k (fun _ _ h => h))
  clear hend
  replace hb := hb.keepS ((Keep.refl (fun _ => False) w).drew) (fun _ _ => id)
  conv => arg 2; whnf
  refine wp_region_any (by kernel_rfl) ?_
  change wpAny _ _ _ _ 34 (Array.replicate 34 false) _ (World.drew _)
  generalize w.drew = wd at *
  refine any_val (i := 0) (v := .slice av n cv) rfl (by kernel_rfl) (by kernel_rfl) (by kernel_rfl) hQ (want_none rfl) (fun w => by simp [execOp, h9]) ?_
  refine any_run (i := 1) (v := .slice (some ⟨wd.heap.size, 0, none⟩) 1 1) (w' := wd.alloc (.cells #[.int .u8 10] 5)) (by kernel_rfl) rfl (want_none rfl) (by simp [go_sem, execOp]) ?_
  refine any_run (i := 2) (v := .slice (some ⟨wd.heap.size, 0, none⟩) 1 1) (w' := wd.alloc (.cells #[.int .u8 10] 5 (1, 2))) (by kernel_rfl) rfl (want_none rfl) (by simp [go_sem, execOp, hs, kc1 wd]) ?_
  refine any_call (i := 3) (f := 17) (args := #[.slice av n cv, .slice (some ⟨wd.heap.size, 0, none⟩) 1 1]) (by kernel_rfl) rfl (want_none rfl) (by simp [go_sem, execOp, resolve, invoke, hs]) (one_call hb hp1) ?_
  rintro e w9 ⟨rfl, k9⟩
  refine ⟨_, rfl, ?_⟩
  refine any_val (i := 4) (v := .bool true) rfl (by kernel_rfl) (by kernel_rfl) (by kernel_rfl) hQ (want_none rfl) (fun w => by simp [go_sem, execOp, hs]) ?_
  refine any_val (i := 5) (v := .bool true) rfl (by kernel_rfl) (by kernel_rfl) (by kernel_rfl) hQ (want_none rfl) (fun w => by simp [go_sem, execOp, hs]) ?_
  refine any_val (i := 6) (v := .slice av n cv) rfl (by kernel_rfl) (by kernel_rfl) (by kernel_rfl) hQ (want_at (b := true) rfl rfl (by simp [Act.size_put, hs]) (by simp [Act.eval_put_same, Act.size_put, hs]) rfl) (fun w => by simp [execOp, Act.eval_put_ne, h9]) ?_
  refine any_run (i := 7) (v := .slice (some ⟨w9.heap.size, 0, none⟩) 2 2) (w' := w9.alloc (.cells #[.int .u8 13, .int .u8 10] 5)) (by kernel_rfl) rfl (want_at (b := true) rfl rfl (by simp [Act.size_put, hs]) (by simp [Act.eval_put_same, Act.eval_put_ne, Act.size_put, hs]) rfl) (by simp [go_sem, execOp]) ?_
  refine any_run (i := 8) (v := .slice (some ⟨w9.heap.size, 0, none⟩) 2 2) (w' := w9.alloc (.cells #[.int .u8 13, .int .u8 10] 5 (2, 3))) (by kernel_rfl) rfl (want_at (b := true) rfl rfl (by simp [Act.size_put, hs]) (by simp [Act.eval_put_same, Act.eval_put_ne, Act.size_put, hs]) rfl) (by simp [go_sem, execOp, hs, kc2 w9]) ?_
  refine any_call (i := 9) (f := 17) (args := #[.slice av n cv, .slice (some ⟨w9.heap.size, 0, none⟩) 2 2]) (by kernel_rfl) rfl (want_at (b := true) rfl rfl (by simp [Act.size_put, hs]) (by simp [Act.eval_put_same, Act.eval_put_ne, Act.size_put, hs]) rfl) (by simp [go_sem, execOp, resolve, invoke, hs]) (two_call (hb.keepS k9 (fun _ _ => id)) hp2) ?_
  rintro e w10 ⟨rfl, k10'⟩
  have k10 := k9.trans k10' (fun _ _ h => h)
  refine ⟨_, rfl, ?_⟩
  refine any_val (i := 10) (v := .bool true) rfl (by kernel_rfl) (by kernel_rfl) (by kernel_rfl) hQ (want_at (b := true) rfl rfl (by simp [Act.size_put, hs]) (by simp [Act.eval_put_same, Act.eval_put_ne, Act.size_put, hs]) rfl) (fun w => by simp [go_sem, execOp, hs]) ?_
  refine any_val (i := 11) (v := .bool true) rfl (by kernel_rfl) (by kernel_rfl) (by kernel_rfl) hQ (want_none rfl) (fun w => by simp [go_sem, execOp, hs]) ?_
  refine any_val (i := 12) (v := .bool true) rfl (by kernel_rfl) (by kernel_rfl) (by kernel_rfl) hQ (want_none rfl) (fun w => by simp [go_sem, execOp, hs]) ?_
  refine any_val (i := 13) (v := .slice av n cv) rfl (by kernel_rfl) (by kernel_rfl) (by kernel_rfl) hQ (want_at (b := true) rfl rfl (by simp [Act.size_put, hs]) (by simp [Act.eval_put_same, Act.size_put, hs]) rfl) (fun w => by simp [execOp, Act.eval_put_ne, h9]) ?_
  refine any_val (i := 14) (v := .int .i64 n) rfl (by kernel_rfl) (by kernel_rfl) (by kernel_rfl) hQ (want_at (b := true) rfl rfl (by simp [Act.size_put, hs]) (by simp [Act.eval_put_same, Act.eval_put_ne, Act.size_put, hs]) rfl) (fun w => by simp [go_sem, execOp, hs]) ?_
  refine any_val (i := 15) (v := .bool false) rfl (by kernel_rfl) (by kernel_rfl) (by kernel_rfl) hQ (want_at (b := true) rfl rfl (by simp [Act.size_put, hs]) (by simp [Act.eval_put_same, Act.eval_put_ne, Act.size_put, hs]) rfl) (fun w => by simp [go_sem, execOp, hs, hl0]) ?_
  refine any_val (i := 16) (v := .bool false) rfl (by kernel_rfl) (by kernel_rfl) (by kernel_rfl) hQ (want_at (b := true) rfl rfl (by simp [Act.size_put, hs]) (by simp [Act.eval_put_same, Act.eval_put_ne, Act.size_put, hs]) rfl) (fun w => by simp [go_sem, execOp, hs]) ?_
  refine any_skip (i := 17) rfl (by kernel_rfl) (by kernel_rfl) (by kernel_rfl) hQ (want_at (b := false) rfl rfl (by simp [Act.size_put, hs]) (by simp [Act.eval_put_same, Act.size_put, hs]) rfl) ?_
  refine any_skip (i := 18) rfl (by kernel_rfl) (by kernel_rfl) (by kernel_rfl) hQ (want_at (b := false) rfl rfl (by simp [Act.size_put, hs]) (by simp [Act.eval_put_same, Act.eval_put_ne, Act.size_put, hs]) rfl) ?_
  refine any_skip (i := 19) rfl (by kernel_rfl) (by kernel_rfl) (by kernel_rfl) hQ (want_at (b := false) rfl rfl (by simp [Act.size_put, hs]) (by simp [Act.eval_put_same, Act.eval_put_ne, Act.size_put, hs]) rfl) ?_
  refine any_skip (i := 20) rfl (by kernel_rfl) (by kernel_rfl) (by kernel_rfl) hQ (want_at (b := false) rfl rfl (by simp [Act.size_put, hs]) (by simp [Act.eval_put_same, Act.eval_put_ne, Act.size_put, hs]) rfl) ?_
  refine any_skip (i := 21) rfl (by kernel_rfl) (by kernel_rfl) (by kernel_rfl) hQ (want_at (b := false) rfl rfl (by simp [Act.size_put, hs]) (by simp [Act.eval_put_same, Act.eval_put_ne, Act.size_put, hs]) rfl) ?_
  refine any_skip (i := 22) rfl (by kernel_rfl) (by kernel_rfl) (by kernel_rfl) hQ (want_at (b := false) rfl rfl (by simp [Act.size_put, hs]) (by simp [Act.eval_put_same, Act.eval_put_ne, Act.size_put, hs]) rfl) ?_
  refine any_val (i := 23) (v := .bool false) rfl (by kernel_rfl) (by kernel_rfl) (by kernel_rfl) hQ (want_at (b := true) rfl rfl (by simp [Act.size_put, hs]) (by simp [Act.eval_put_same, Act.eval_put_ne, Act.size_put, hs]) rfl) (fun w => by simp [go_sem, execOp, hs]) ?_
  refine any_val (i := 24) (v := .bool false) rfl (by kernel_rfl) (by kernel_rfl) (by kernel_rfl) hQ (want_at (b := true) rfl rfl (by simp [Act.size_put, hs]) (by simp [Act.eval_put_same, Act.eval_put_ne, Act.size_put, hs]) rfl) (fun w => by simp [go_sem, execOp, hs]) ?_
  refine any_skip (i := 25) rfl (by kernel_rfl) (by kernel_rfl) (by kernel_rfl) hQ (want_at (b := false) rfl rfl (by simp [Act.size_put, hs]) (by simp [Act.eval_put_same, Act.size_put, hs]) rfl) ?_
  refine any_skip (i := 26) rfl (by kernel_rfl) (by kernel_rfl) (by kernel_rfl) hQ (want_at (b := false) rfl rfl (by simp [Act.size_put, hs]) (by simp [Act.eval_put_same, Act.eval_put_ne, Act.size_put, hs]) rfl) ?_
  refine any_skip (i := 27) rfl (by kernel_rfl) (by kernel_rfl) (by kernel_rfl) hQ (want_at (b := false) rfl rfl (by simp [Act.size_put, hs]) (by simp [Act.eval_put_same, Act.eval_put_ne, Act.size_put, hs]) rfl) ?_
  refine any_skip (i := 28) rfl (by kernel_rfl) (by kernel_rfl) (by kernel_rfl) hQ (want_at (b := false) rfl rfl (by simp [Act.size_put, hs]) (by simp [Act.eval_put_same, Act.eval_put_ne, Act.size_put, hs]) rfl) ?_
  refine any_skip (i := 29) rfl (by kernel_rfl) (by kernel_rfl) (by kernel_rfl) hQ (want_at (b := false) rfl rfl (by simp [Act.size_put, hs]) (by simp [Act.eval_put_same, Act.eval_put_ne, Act.size_put, hs]) rfl) ?_
  refine any_skip (i := 30) rfl (by kernel_rfl) (by kernel_rfl) (by kernel_rfl) hQ (want_at (b := false) rfl rfl (by simp [Act.size_put, hs]) (by simp [Act.eval_put_same, Act.eval_put_ne, Act.size_put, hs]) rfl) ?_
  refine any_val (i := 31) (v := .bool false) rfl (by kernel_rfl) (by kernel_rfl) (by kernel_rfl) hQ (want_at (b := true) rfl rfl (by simp [Act.size_put, hs]) (by simp [Act.eval_put_same, Act.eval_put_ne, Act.size_put, hs]) rfl) (fun w => by simp [go_sem, execOp, hs]) ?_
  refine any_val (i := 32) (v := .bool true) rfl (by kernel_rfl) (by kernel_rfl) (by kernel_rfl) hQ (want_at (b := true) rfl rfl (by simp [Act.size_put, hs]) (by simp [Act.eval_put_same, Act.eval_put_ne, Act.size_put, hs]) rfl) (fun w => by simp [go_sem, execOp, hs]) ?_
  refine any_val (i := 33) (v := .bool true) rfl (by kernel_rfl) (by kernel_rfl) (by kernel_rfl) hQ (want_none rfl) (fun w => by simp [go_sem, execOp, hs]) ?_
  refine any_done _ (by kernel_rfl) rfl ?_
  exact hend' _ _ _ _ _ _ _ _ _ _ _ _ _ _ _ _ _ _ _ _ _ _ _ _ _ _ _ _ _ _ _ _ _ _ k10

set_option maxRecDepth 100000 in
set_option maxHeartbeats 6400000 in
theorem r13_c2a {Q : Exit → Act → World → Prop} (hQ : ∀ c a a' w, Q (.panic c) a w → Q (.panic c) a' w) {A0 : Act} {w : World} {av : Option Addr} {n cv R : Nat} {ea : Addr} {rs : List UInt8} (hs : A0.tmps.size = 247) (h0 : A0.eval (.tmp 0) = .pointer (some ⟨R, 0, none⟩)) (h9 : A0.eval (.tmp 9) = .slice av n cv)
    (hb : Bs w (.slice av n cv) rs) (hp1 : ([10] : List UInt8).isPrefixOf rs = false) (hp2 : ([13, 10] : List UInt8).isPrefixOf rs = false) (hl0 : ((n : Int) == 0) = true) (la : Option Addr) (tl lc : Nat) (c2 : w.cell? ⟨R, 2, none⟩ = some (.slice la tl lc)) (hgt : tl = 0)
    (hend : ∀ (y96 y97 y98 y99 y100 y101 y102 y103 y104 y105 y106 y107 y108 y109 y110 y111 y112 y113 y114 y115 y116 y117 y118 y119 y120 y121 y122 y123 y124 y125 y126 y127 y128 : Value) w', Keep (fun _ => False) w w' → Q .normal ((((((((((((((((((((((((((((((((((A0.put (some 96) y96).put (some 97) y97).put (some 98) y98).put (some 99) y99).put (some 100) y100).put (some 101) y101).put (some 102) y102).put (some 103) y103).put (some 104) y104).put (some 105) y105).put (some 106) y106).put (some 107) y107).put (some 108) y108).put (some 109) y109).put (some 110) y110).put (some 111) y111).put (some 112) y112).put (some 113) y113).put (some 114) y114).put (some 115) y115).put (some 116) y116).put (some 117) y117).put (some 118) y118).put (some 119) y119).put (some 120) y120).put (some 121) y121).put (some 122) y122).put (some 123) y123).put (some 124) y124).put (some 125) y125).put (some 126) y126).put (some 127) y127).put (some 128) y128).put (some 129) (.bool true)) w') :
    Code.wp Tryd.prog reg13 Q A0 w := by
  have _hu := h0
  have _he := ea
  have hend' := fun y96 y97 y98 y99 y100 y101 y102 y103 y104 y105 y106 y107 y108 y109 y110 y111 y112 y113 y114 y115 y116 y117 y118 y119 y120 y121 y122 y123 y124 y125 y126 y127 y128 w' (k : Keep (fun _ => False) w.drew w') => hend y96 y97 y98 y99 y100 y101 y102 y103 y104 y105 y106 y107 y108 y109 y110 y111 y112 y113 y114 y115 y116 y117 y118 y119 y120 y121 y122 y123 y124 y125 y126 y127 y128 w' (((Keep.refl (fun _ => False) w).drew).trans k (fun _ _ h => h))
  clear hend
  replace hb := hb.keepS ((Keep.refl (fun _ => False) w).drew) (fun _ _ => id)
  replace c2 := drew_cell c2
  conv => arg 2; whnf
  refine wp_region_any (by kernel_rfl) ?_
  change wpAny _ _ _ _ 34 (Array.replicate 34 false) _ (World.drew _)
  generalize w.drew = wd at *
  refine any_val (i := 0) (v := .slice av n cv) rfl (by kernel_rfl) (by kernel_rfl) (by kernel_rfl) hQ (want_none rfl) (fun w => by simp [execOp, h9]) ?_
  refine any_run (i := 1) (v := .slice (some ⟨wd.heap.size, 0, none⟩) 1 1) (w' := wd.alloc (.cells #[.int .u8 10] 5)) (by kernel_rfl) rfl (want_none rfl) (by simp [go_sem, execOp]) ?_
  refine any_run (i := 2) (v := .slice (some ⟨wd.heap.size, 0, none⟩) 1 1) (w' := wd.alloc (.cells #[.int .u8 10] 5 (1, 2))) (by kernel_rfl) rfl (want_none rfl) (by simp [go_sem, execOp, hs, kc1 wd]) ?_
  refine any_call (i := 3) (f := 17) (args := #[.slice av n cv, .slice (some ⟨wd.heap.size, 0, none⟩) 1 1]) (by kernel_rfl) rfl (want_none rfl) (by simp [go_sem, execOp, resolve, invoke, hs]) (one_call hb hp1) ?_
  rintro e w9 ⟨rfl, k9⟩
  refine ⟨_, rfl, ?_⟩
  refine any_val (i := 4) (v := .bool true) rfl (by kernel_rfl) (by kernel_rfl) (by kernel_rfl) hQ (want_none rfl) (fun w => by simp [go_sem, execOp, hs]) ?_
  refine any_val (i := 5) (v := .bool true) rfl (by kernel_rfl) (by kernel_rfl) (by kernel_rfl) hQ (want_none rfl) (fun w => by simp [go_sem, execOp, hs]) ?_
  refine any_val (i := 6) (v := .slice av n cv) rfl (by kernel_rfl) (by kernel_rfl) (by kernel_rfl) hQ (want_at (b := true) rfl rfl (by simp [Act.size_put, hs]) (by simp [Act.eval_put_same, Act.size_put, hs]) rfl) (fun w => by simp [execOp, Act.eval_put_ne, h9]) ?_
  refine any_run (i := 7) (v := .slice (some ⟨w9.heap.size, 0, none⟩) 2 2) (w' := w9.alloc (.cells #[.int .u8 13, .int .u8 10] 5)) (by kernel_rfl) rfl (want_at (b := true) rfl rfl (by simp [Act.size_put, hs]) (by simp [Act.eval_put_same, Act.eval_put_ne, Act.size_put, hs]) rfl) (by simp [go_sem, execOp]) ?_
  refine any_run (i := 8) (v := .slice (some ⟨w9.heap.size, 0, none⟩) 2 2) (w' := w9.alloc (.cells #[.int .u8 13, .int .u8 10] 5 (2, 3))) (by kernel_rfl) rfl (want_at (b := true) rfl rfl (by simp [Act.size_put, hs]) (by simp [Act.eval_put_same, Act.eval_put_ne, Act.size_put, hs]) rfl) (by simp [go_sem, execOp, hs, kc2 w9]) ?_
  refine any_call (i := 9) (f := 17) (args := #[.slice av n cv, .slice (some ⟨w9.heap.size, 0, none⟩) 2 2]) (by kernel_rfl) rfl (want_at (b := true) rfl rfl (by simp [Act.size_put, hs]) (by simp [Act.eval_put_same, Act.eval_put_ne, Act.size_put, hs]) rfl) (by simp [go_sem, execOp, resolve, invoke, hs]) (two_call (hb.keepS k9 (fun _ _ => id)) hp2) ?_
  rintro e w10 ⟨rfl, k10'⟩
  have k10 := k9.trans k10' (fun _ _ h => h)
  refine ⟨_, rfl, ?_⟩
  refine any_val (i := 10) (v := .bool true) rfl (by kernel_rfl) (by kernel_rfl) (by kernel_rfl) hQ (want_at (b := true) rfl rfl (by simp [Act.size_put, hs]) (by simp [Act.eval_put_same, Act.eval_put_ne, Act.size_put, hs]) rfl) (fun w => by simp [go_sem, execOp, hs]) ?_
  refine any_val (i := 11) (v := .bool true) rfl (by kernel_rfl) (by kernel_rfl) (by kernel_rfl) hQ (want_none rfl) (fun w => by simp [go_sem, execOp, hs]) ?_
  refine any_val (i := 12) (v := .bool true) rfl (by kernel_rfl) (by kernel_rfl) (by kernel_rfl) hQ (want_none rfl) (fun w => by simp [go_sem, execOp, hs]) ?_
  refine any_val (i := 13) (v := .slice av n cv) rfl (by kernel_rfl) (by kernel_rfl) (by kernel_rfl) hQ (want_at (b := true) rfl rfl (by simp [Act.size_put, hs]) (by simp [Act.eval_put_same, Act.size_put, hs]) rfl) (fun w => by simp [execOp, Act.eval_put_ne, h9]) ?_
  refine any_val (i := 14) (v := .int .i64 n) rfl (by kernel_rfl) (by kernel_rfl) (by kernel_rfl) hQ (want_at (b := true) rfl rfl (by simp [Act.size_put, hs]) (by simp [Act.eval_put_same, Act.eval_put_ne, Act.size_put, hs]) rfl) (fun w => by simp [go_sem, execOp, hs]) ?_
  refine any_val (i := 15) (v := .bool true) rfl (by kernel_rfl) (by kernel_rfl) (by kernel_rfl) hQ (want_at (b := true) rfl rfl (by simp [Act.size_put, hs]) (by simp [Act.eval_put_same, Act.eval_put_ne, Act.size_put, hs]) rfl) (fun w => by simp [go_sem, execOp, hs, hl0]) ?_
  refine any_val (i := 16) (v := .bool true) rfl (by kernel_rfl) (by kernel_rfl) (by kernel_rfl) hQ (want_at (b := true) rfl rfl (by simp [Act.size_put, hs]) (by simp [Act.eval_put_same, Act.eval_put_ne, Act.size_put, hs]) rfl) (fun w => by simp [go_sem, execOp, hs]) ?_
  refine any_val (i := 17) (v := .pointer (some ⟨R, 0, none⟩)) rfl (by kernel_rfl) (by kernel_rfl) (by kernel_rfl) hQ (want_at (b := true) rfl rfl (by simp [Act.size_put, hs]) (by simp [Act.eval_put_same, Act.size_put, hs]) rfl) (fun w => by simp [execOp, Act.eval_put_ne, h0]) ?_
  refine any_val (i := 18) (v := .pointer (some ⟨R, 0, none⟩)) rfl (by kernel_rfl) (by kernel_rfl) (by kernel_rfl) hQ (want_at (b := true) rfl rfl (by simp [Act.size_put, hs]) (by simp [Act.eval_put_same, Act.eval_put_ne, Act.size_put, hs]) rfl) (fun w => by simp [go_sem, execOp, hs]) ?_
  refine any_val (i := 19) (v := .pointer (some ⟨R, 2, none⟩)) rfl (by kernel_rfl) (by kernel_rfl) (by kernel_rfl) hQ (want_at (b := true) rfl rfl (by simp [Act.size_put, hs]) (by simp [Act.eval_put_same, Act.eval_put_ne, Act.size_put, hs]) rfl) (fun w => by simp [go_sem, execOp, hs]) ?_
  have d2 := k10.cell (p := ⟨R, 2, none⟩) id c2
  refine any_run (i := 20) (v := .slice la tl lc) (w' := w10) (by kernel_rfl) rfl (want_at (b := true) rfl rfl (by simp [Act.size_put, hs]) (by simp [Act.eval_put_same, Act.eval_put_ne, Act.size_put, hs]) rfl) (by simp [go_sem, execOp, hs, d2]) ?_
  refine any_val (i := 21) (v := .int .i64 tl) rfl (by kernel_rfl) (by kernel_rfl) (by kernel_rfl) hQ (want_at (b := true) rfl rfl (by simp [Act.size_put, hs]) (by simp [Act.eval_put_same, Act.eval_put_ne, Act.size_put, hs]) rfl) (fun w => by simp [go_sem, execOp, hs]) ?_
  refine any_val (i := 22) (v := .bool false) rfl (by kernel_rfl) (by kernel_rfl) (by kernel_rfl) hQ (want_at (b := true) rfl rfl (by simp [Act.size_put, hs]) (by simp [Act.eval_put_same, Act.eval_put_ne, Act.size_put, hs]) rfl) (fun w => by simp [go_sem, execOp, hs, hgt]) ?_
  refine any_val (i := 23) (v := .bool false) rfl (by kernel_rfl) (by kernel_rfl) (by kernel_rfl) hQ (want_at (b := true) rfl rfl (by simp [Act.size_put, hs]) (by simp [Act.eval_put_same, Act.eval_put_ne, Act.size_put, hs]) rfl) (fun w => by simp [go_sem, execOp, hs]) ?_
  refine any_val (i := 24) (v := .bool false) rfl (by kernel_rfl) (by kernel_rfl) (by kernel_rfl) hQ (want_at (b := true) rfl rfl (by simp [Act.size_put, hs]) (by simp [Act.eval_put_same, Act.eval_put_ne, Act.size_put, hs]) rfl) (fun w => by simp [go_sem, execOp, hs]) ?_
  refine any_skip (i := 25) rfl (by kernel_rfl) (by kernel_rfl) (by kernel_rfl) hQ (want_at (b := false) rfl rfl (by simp [Act.size_put, hs]) (by simp [Act.eval_put_same, Act.size_put, hs]) rfl) ?_
  refine any_skip (i := 26) rfl (by kernel_rfl) (by kernel_rfl) (by kernel_rfl) hQ (want_at (b := false) rfl rfl (by simp [Act.size_put, hs]) (by simp [Act.eval_put_same, Act.eval_put_ne, Act.size_put, hs]) rfl) ?_
  refine any_skip (i := 27) rfl (by kernel_rfl) (by kernel_rfl) (by kernel_rfl) hQ (want_at (b := false) rfl rfl (by simp [Act.size_put, hs]) (by simp [Act.eval_put_same, Act.eval_put_ne, Act.size_put, hs]) rfl) ?_
  refine any_skip (i := 28) rfl (by kernel_rfl) (by kernel_rfl) (by kernel_rfl) hQ (want_at (b := false) rfl rfl (by simp [Act.size_put, hs]) (by simp [Act.eval_put_same, Act.eval_put_ne, Act.size_put, hs]) rfl) ?_
  refine any_skip (i := 29) rfl (by kernel_rfl) (by kernel_rfl) (by kernel_rfl) hQ (want_at (b := false) rfl rfl (by simp [Act.size_put, hs]) (by simp [Act.eval_put_same, Act.eval_put_ne, Act.size_put, hs]) rfl) ?_
  refine any_skip (i := 30) rfl (by kernel_rfl) (by kernel_rfl) (by kernel_rfl) hQ (want_at (b := false) rfl rfl (by simp [Act.size_put, hs]) (by simp [Act.eval_put_same, Act.eval_put_ne, Act.size_put, hs]) rfl) ?_
  refine any_val (i := 31) (v := .bool false) rfl (by kernel_rfl) (by kernel_rfl) (by kernel_rfl) hQ (want_at (b := true) rfl rfl (by simp [Act.size_put, hs]) (by simp [Act.eval_put_same, Act.eval_put_ne, Act.size_put, hs]) rfl) (fun w => by simp [go_sem, execOp, hs]) ?_
  refine any_val (i := 32) (v := .bool true) rfl (by kernel_rfl) (by kernel_rfl) (by kernel_rfl) hQ (want_at (b := true) rfl rfl (by simp [Act.size_put, hs]) (by simp [Act.eval_put_same, Act.eval_put_ne, Act.size_put, hs]) rfl) (fun w => by simp [go_sem, execOp, hs]) ?_
  refine any_val (i := 33) (v := .bool true) rfl (by kernel_rfl) (by kernel_rfl) (by kernel_rfl) hQ (want_none rfl) (fun w => by simp [go_sem, execOp, hs]) ?_
  refine any_done _ (by kernel_rfl) rfl ?_
  exact hend' _ _ _ _ _ _ _ _ _ _ _ _ _ _ _ _ _ _ _ _ _ _ _ _ _ _ _ _ _ _ _ _ _ _ k10

set_option maxRecDepth 100000 in
set_option maxHeartbeats 6400000 in
theorem r13_c2b {Q : Exit → Act → World → Prop} (hQ : ∀ c a a' w, Q (.panic c) a w → Q (.panic c) a' w) {A0 : Act} {w : World} {av : Option Addr} {n cv R : Nat} {ea : Addr} {rs : List UInt8} (hs : A0.tmps.size = 247) (h0 : A0.eval (.tmp 0) = .pointer (some ⟨R, 0, none⟩)) (h9 : A0.eval (.tmp 9) = .slice av n cv)
    (hb : Bs w (.slice av n cv) rs) (hp1 : ([10] : List UInt8).isPrefixOf rs = false) (hp2 : ([13, 10] : List UInt8).isPrefixOf rs = false) (hl0 : ((n : Int) == 0) = true) (la : Option Addr) (tl lc : Nat) (c2 : w.cell? ⟨R, 2, none⟩ = some (.slice la tl lc)) (hgt : 0 < tl) (c1 : w.cell? ⟨R, 1, none⟩ = some (eofv ea)) (heof : EofAt w ea)
    (hend : ∀ (y96 y97 y98 y99 y100 y101 y102 y103 y104 y105 y106 y107 y108 y109 y110 y111 y112 y113 y114 y115 y116 y117 y118 y119 y120 y121 y122 y123 y124 y125 y126 y127 y128 : Value) w', Keep (fun _ => False) w w' → Q .normal ((((((((((((((((((((((((((((((((((A0.put (some 96) y96).put (some 97) y97).put (some 98) y98).put (some 99) y99).put (some 100) y100).put (some 101) y101).put (some 102) y102).put (some 103) y103).put (some 104) y104).put (some 105) y105).put (some 106) y106).put (some 107) y107).put (some 108) y108).put (some 109) y109).put (some 110) y110).put (some 111) y111).put (some 112) y112).put (some 113) y113).put (some 114) y114).put (some 115) y115).put (some 116) y116).put (some 117) y117).put (some 118) y118).put (some 119) y119).put (some 120) y120).put (some 121) y121).put (some 122) y122).put (some 123) y123).put (some 124) y124).put (some 125) y125).put (some 126) y126).put (some 127) y127).put (some 128) y128).put (some 129) (.bool false)) w') :
    Code.wp Tryd.prog reg13 Q A0 w := by
  have _hu := h0
  have _he := ea
  unfold EofAt at heof
  have hend' := fun y96 y97 y98 y99 y100 y101 y102 y103 y104 y105 y106 y107 y108 y109 y110 y111 y112 y113 y114 y115 y116 y117 y118 y119 y120 y121 y122 y123 y124 y125 y126 y127 y128 w' (k : Keep (fun _ => False) w.drew w') => hend y96 y97 y98 y99 y100 y101 y102 y103 y104 y105 y106 y107 y108 y109 y110 y111 y112 y113 y114 y115 y116 y117 y118 y119 y120 y121 y122 y123 y124 y125 y126 y127 y128 w' (((Keep.refl (fun _ => False) w).drew).trans k (fun _ _ h => h))
  clear hend
  replace hb := hb.keepS ((Keep.refl (fun _ => False) w).drew) (fun _ _ => id)
  replace c2 := drew_cell c2
  replace c1 := drew_cell c1
  replace heof := drew_cell heof
  conv => arg 2; whnf
  refine wp_region_any (by kernel_rfl) ?_
  change wpAny _ _ _ _ 34 (Array.replicate 34 false) _ (World.drew _)
  generalize w.drew = wd at *
  refine any_val (i := 0) (v := .slice av n cv) rfl (by kernel_rfl) (by kernel_rfl) (by kernel_rfl) hQ (want_none rfl) (fun w => by simp [execOp, h9]) ?_
  refine any_run (i := 1) (v := .slice (some ⟨wd.heap.size, 0, none⟩) 1 1) (w' := wd.alloc (.cells #[.int .u8 10] 5)) (by kernel_rfl) rfl (want_none rfl) (by simp [go_sem, execOp]) ?_
  refine any_run (i := 2) (v := .slice (some ⟨wd.heap.size, 0, none⟩) 1 1) (w' := wd.alloc (.cells #[.int .u8 10] 5 (1, 2))) (by kernel_rfl) rfl (want_none rfl) (by simp [go_sem, execOp, hs, kc1 wd]) ?_
  refine any_call (i := 3) (f := 17) (args := #[.slice av n cv, .slice (some ⟨wd.heap.size, 0, none⟩) 1 1]) (by kernel_rfl) rfl (want_none rfl) (by simp [go_sem, execOp, resolve, invoke, hs]) (one_call hb hp1) ?_
  rintro e w9 ⟨rfl, k9⟩
  refine ⟨_, rfl, ?_⟩
  refine any_val (i := 4) (v := .bool true) rfl (by kernel_rfl) (by kernel_rfl) (by kernel_rfl) hQ (want_none rfl) (fun w => by simp [go_sem, execOp, hs]) ?_
  refine any_val (i := 5) (v := .bool true) rfl (by kernel_rfl) (by kernel_rfl) (by kernel_rfl) hQ (want_none rfl) (fun w => by simp [go_sem, execOp, hs]) ?_
  refine any_val (i := 6) (v := .slice av n cv) rfl (by kernel_rfl) (by kernel_rfl) (by kernel_rfl) hQ (want_at (b := true) rfl rfl (by simp [Act.size_put, hs]) (by simp [Act.eval_put_same, Act.size_put, hs]) rfl) (fun w => by simp [execOp, Act.eval_put_ne, h9]) ?_
  refine any_run (i := 7) (v := .slice (some ⟨w9.heap.size, 0, none⟩) 2 2) (w' := w9.alloc (.cells #[.int .u8 13, .int .u8 10] 5)) (by kernel_rfl) rfl (want_at (b := true) rfl rfl (by simp [Act.size_put, hs]) (by simp [Act.eval_put_same, Act.eval_put_ne, Act.size_put, hs]) rfl) (by simp [go_sem, execOp]) ?_
  refine any_run (i := 8) (v := .slice (some ⟨w9.heap.size, 0, none⟩) 2 2) (w' := w9.alloc (.cells #[.int .u8 13, .int .u8 10] 5 (2, 3))) (by kernel_rfl) rfl (want_at (b := true) rfl rfl (by simp [Act.size_put, hs]) (by simp [Act.eval_put_same, Act.eval_put_ne, Act.size_put, hs]) rfl) (by simp [go_sem, execOp, hs, kc2 w9]) ?_
  refine any_call (i := 9) (f := 17) (args := #[.slice av n cv, .slice (some ⟨w9.heap.size, 0, none⟩) 2 2]) (by kernel_rfl) rfl (want_at (b := true) rfl rfl (by simp [Act.size_put, hs]) (by simp [Act.eval_put_same, Act.eval_put_ne, Act.size_put, hs]) rfl) (by simp [go_sem, execOp, resolve, invoke, hs]) (two_call (hb.keepS k9 (fun _ _ => id)) hp2) ?_
  rintro e w10 ⟨rfl, k10'⟩
  have k10 := k9.trans k10' (fun _ _ h => h)
  refine ⟨_, rfl, ?_⟩
  refine any_val (i := 10) (v := .bool true) rfl (by kernel_rfl) (by kernel_rfl) (by kernel_rfl) hQ (want_at (b := true) rfl rfl (by simp [Act.size_put, hs]) (by simp [Act.eval_put_same, Act.eval_put_ne, Act.size_put, hs]) rfl) (fun w => by simp [go_sem, execOp, hs]) ?_
  refine any_val (i := 11) (v := .bool true) rfl (by kernel_rfl) (by kernel_rfl) (by kernel_rfl) hQ (want_none rfl) (fun w => by simp [go_sem, execOp, hs]) ?_
  refine any_val (i := 12) (v := .bool true) rfl (by kernel_rfl) (by kernel_rfl) (by kernel_rfl) hQ (want_none rfl) (fun w => by simp [go_sem, execOp, hs]) ?_
  refine any_val (i := 13) (v := .slice av n cv) rfl (by kernel_rfl) (by kernel_rfl) (by kernel_rfl) hQ (want_at (b := true) rfl rfl (by simp [Act.size_put, hs]) (by simp [Act.eval_put_same, Act.size_put, hs]) rfl) (fun w => by simp [execOp, Act.eval_put_ne, h9]) ?_
  refine any_val (i := 14) (v := .int .i64 n) rfl (by kernel_rfl) (by kernel_rfl) (by kernel_rfl) hQ (want_at (b := true) rfl rfl (by simp [Act.size_put, hs]) (by simp [Act.eval_put_same, Act.eval_put_ne, Act.size_put, hs]) rfl) (fun w => by simp [go_sem, execOp, hs]) ?_
  refine any_val (i := 15) (v := .bool true) rfl (by kernel_rfl) (by kernel_rfl) (by kernel_rfl) hQ (want_at (b := true) rfl rfl (by simp [Act.size_put, hs]) (by simp [Act.eval_put_same, Act.eval_put_ne, Act.size_put, hs]) rfl) (fun w => by simp [go_sem, execOp, hs, hl0]) ?_
  refine any_val (i := 16) (v := .bool true) rfl (by kernel_rfl) (by kernel_rfl) (by kernel_rfl) hQ (want_at (b := true) rfl rfl (by simp [Act.size_put, hs]) (by simp [Act.eval_put_same, Act.eval_put_ne, Act.size_put, hs]) rfl) (fun w => by simp [go_sem, execOp, hs]) ?_
  refine any_val (i := 17) (v := .pointer (some ⟨R, 0, none⟩)) rfl (by kernel_rfl) (by kernel_rfl) (by kernel_rfl) hQ (want_at (b := true) rfl rfl (by simp [Act.size_put, hs]) (by simp [Act.eval_put_same, Act.size_put, hs]) rfl) (fun w => by simp [execOp, Act.eval_put_ne, h0]) ?_
  refine any_val (i := 18) (v := .pointer (some ⟨R, 0, none⟩)) rfl (by kernel_rfl) (by kernel_rfl) (by kernel_rfl) hQ (want_at (b := true) rfl rfl (by simp [Act.size_put, hs]) (by simp [Act.eval_put_same, Act.eval_put_ne, Act.size_put, hs]) rfl) (fun w => by simp [go_sem, execOp, hs]) ?_
  refine any_val (i := 19) (v := .pointer (some ⟨R, 2, none⟩)) rfl (by kernel_rfl) (by kernel_rfl) (by kernel_rfl) hQ (want_at (b := true) rfl rfl (by simp [Act.size_put, hs]) (by simp [Act.eval_put_same, Act.eval_put_ne, Act.size_put, hs]) rfl) (fun w => by simp [go_sem, execOp, hs]) ?_
  have d2 := k10.cell (p := ⟨R, 2, none⟩) id c2
  refine any_run (i := 20) (v := .slice la tl lc) (w' := w10) (by kernel_rfl) rfl (want_at (b := true) rfl rfl (by simp [Act.size_put, hs]) (by simp [Act.eval_put_same, Act.eval_put_ne, Act.size_put, hs]) rfl) (by simp [go_sem, execOp, hs, d2]) ?_
  refine any_val (i := 21) (v := .int .i64 tl) rfl (by kernel_rfl) (by kernel_rfl) (by kernel_rfl) hQ (want_at (b := true) rfl rfl (by simp [Act.size_put, hs]) (by simp [Act.eval_put_same, Act.eval_put_ne, Act.size_put, hs]) rfl) (fun w => by simp [go_sem, execOp, hs]) ?_
  refine any_val (i := 22) (v := .bool true) rfl (by kernel_rfl) (by kernel_rfl) (by kernel_rfl) hQ (want_at (b := true) rfl rfl (by simp [Act.size_put, hs]) (by simp [Act.eval_put_same, Act.eval_put_ne, Act.size_put, hs]) rfl) (fun w => by simp [go_sem, execOp, hs, hgt]) ?_
  refine any_val (i := 23) (v := .bool true) rfl (by kernel_rfl) (by kernel_rfl) (by kernel_rfl) hQ (want_at (b := true) rfl rfl (by simp [Act.size_put, hs]) (by simp [Act.eval_put_same, Act.eval_put_ne, Act.size_put, hs]) rfl) (fun w => by simp [go_sem, execOp, hs]) ?_
  refine any_val (i := 24) (v := .bool true) rfl (by kernel_rfl) (by kernel_rfl) (by kernel_rfl) hQ (want_at (b := true) rfl rfl (by simp [Act.size_put, hs]) (by simp [Act.eval_put_same, Act.eval_put_ne, Act.size_put, hs]) rfl) (fun w => by simp [go_sem, execOp, hs]) ?_
  refine any_val (i := 25) (v := .pointer (some ⟨R, 0, none⟩)) rfl (by kernel_rfl) (by kernel_rfl) (by kernel_rfl) hQ (want_at (b := true) rfl rfl (by simp [Act.size_put, hs]) (by simp [Act.eval_put_same, Act.size_put, hs]) rfl) (fun w => by simp [execOp, Act.eval_put_ne, h0]) ?_
  refine any_val (i := 26) (v := .pointer (some ⟨R, 0, none⟩)) rfl (by kernel_rfl) (by kernel_rfl) (by kernel_rfl) hQ (want_at (b := true) rfl rfl (by simp [Act.size_put, hs]) (by simp [Act.eval_put_same, Act.eval_put_ne, Act.size_put, hs]) rfl) (fun w => by simp [go_sem, execOp, hs]) ?_
  refine any_val (i := 27) (v := .pointer (some ⟨R, 1, none⟩)) rfl (by kernel_rfl) (by kernel_rfl) (by kernel_rfl) hQ (want_at (b := true) rfl rfl (by simp [Act.size_put, hs]) (by simp [Act.eval_put_same, Act.eval_put_ne, Act.size_put, hs]) rfl) (fun w => by simp [go_sem, execOp, hs]) ?_
  have d1 := k10.cell (p := ⟨R, 1, none⟩) id c1
  have d0 := k10.cell (p := ⟨0, 0, none⟩) id heof
  refine any_two (i := 28) (j := 29) (vi := eofv ea) (vj := eofv ea) rfl rfl (by kernel_rfl) (by kernel_rfl) (by kernel_rfl) (by kernel_rfl) (by kernel_rfl) (want_at (b := true) rfl rfl (by simp [Act.size_put, hs]) (by simp [Act.eval_put_same, Act.eval_put_ne, Act.size_put, hs]) rfl) (want_at (b := true) rfl rfl (by simp [Act.size_put, hs]) (by simp [Act.eval_put_same, Act.eval_put_ne, Act.size_put, hs]) rfl) (by simp [go_sem, execOp, hs, d1]) (by simp [go_sem, execOp, d0]) ?_
  refine any_val (i := 30) (v := .bool true) rfl (by kernel_rfl) (by kernel_rfl) (by kernel_rfl) hQ (want_at (b := true) rfl rfl (by simp [Act.size_put, hs]) (by simp [Act.eval_put_same, Act.eval_put_ne, Act.size_put, hs]) rfl) (fun w => by simp [go_sem, execOp, hs, eof_same, eqg_eof]) ?_
  refine any_val (i := 31) (v := .bool true) rfl (by kernel_rfl) (by kernel_rfl) (by kernel_rfl) hQ (want_at (b := true) rfl rfl (by simp [Act.size_put, hs]) (by simp [Act.eval_put_same, Act.eval_put_ne, Act.size_put, hs]) rfl) (fun w => by simp [go_sem, execOp, hs]) ?_
  refine any_val (i := 32) (v := .bool false) rfl (by kernel_rfl) (by kernel_rfl) (by kernel_rfl) hQ (want_at (b := true) rfl rfl (by simp [Act.size_put, hs]) (by simp [Act.eval_put_same, Act.eval_put_ne, Act.size_put, hs]) rfl) (fun w => by simp [go_sem, execOp, hs]) ?_
  refine any_val (i := 33) (v := .bool false) rfl (by kernel_rfl) (by kernel_rfl) (by kernel_rfl) hQ (want_none rfl) (fun w => by simp [go_sem, execOp, hs]) ?_
  refine any_done _ (by kernel_rfl) rfl ?_
  exact hend' _ _ _ _ _ _ _ _ _ _ _ _ _ _ _ _ _ _ _ _ _ _ _ _ _ _ _ _ _ _ _ _ _ _ k10

end Go.Proofs.YtcbolmendjocbaaDoor

/- THE LAW FnControl: for all bytes, of whatever length, every place and every control byte other than TAB, CR and LF: an encoded text with it between tokens is refused, and what is ahead of it is given first. No condition. -/
import Derived.Test.YthfkgancjpdodaaDoorCm
import Derived.Test.YthfkgancjpdodaaDoorFacts
import Derived.Test.YthfkgancjpdodaaDoorPc
import Derived.Test.YthfkgancjpdodaaDoorRb
namespace Go.Proofs.YthfkgancjpdodaaDoor.fnControl
open Go.ChangeShapes Go.WideShapes Go.ChangeAt Go.RowKit Qp

set_option maxRecDepth 100000 in
set_option maxHeartbeats 3200000 in
theorem walkb {w : World} {ea : Addr} {v : Value} {l : List UInt8} (he : EofW w ea) (hec : ∃ x, w.cell? ea = some x) (h : Bs w v l) (n : Int) (hn : (Lit.int .i64 n).wf = true) (b : UInt8) :
    Calls Tryd.prog 6 #[v, .int .i64 n, .int .u8 b.toNat] w fun e w' => e = .returned (.bool true) ∧ Below w.heap.size w w' := by
  have hn' : -9223372036854775808 ≤ n ∧ n ≤ 9223372036854775807 := by simpa [Lit.wf, IntKind.min, IntKind.max, IntKind.signed, IntKind.bits] using hn
  clear hn
  have HEC := Lib.hid hec
  clear hec
  by_cases hbig : 2147483647 < l.length
  · obtain ⟨ao, cap, rfl⟩ := Bs.shape h
    clear h he
    go_enter Tryd.func6, Tryd.ntmps6
    go_wp2
    go_ret
    exact ⟨rfl, Below.refl _ _⟩
  have HT := Lib.hid (Tokens_any h (by omega))
  have H := Lib.hid h
  have HE := Lib.hid he
  obtain ⟨ao, cap, rfl⟩ := Bs.shape h
  clear h he
  go_enter Tryd.func6, Tryd.ntmps6
  go_wp2_with fail
  refine HT.out.mono ?_
  rintro e w1 ⟨hb1, hm⟩
  cases hto : tokens l with
  | none =>
    rw [hto] at hm
    subst hm
    have HB := Lib.hid hb1
    clear hb1 hto
    go_wp2
    go_ret
    exact ⟨rfl, HB.out⟩
  | some ts =>
    rw [hto] at hm
    obtain ⟨v1, rfl, h1⟩ := hm
    have hlen := tokens_len hto
    by_cases hneg : n < 0
    · obtain ⟨ao1, cap1, rfl⟩ := Ts.shape h1
      have HB := Lib.hid hb1
      clear h1 hb1 hto HT HE H hn'
      go_wp2
      go_ret
      exact ⟨rfl, HB.out⟩
    obtain ⟨j, rfl⟩ := Int.eq_ofNat_of_zero_le (show 0 ≤ n by omega)
    by_cases hgt : ts.length < j
    · obtain ⟨ao1, cap1, rfl⟩ := Ts.shape h1
      have HB := Lib.hid hb1
      clear h1 hb1 hto HT HE H hn'
      go_wp2
      go_ret
      exact ⟨rfl, HB.out⟩
    obtain ⟨ao1, cap1, hv1, hlc1, hcm1, -⟩ := id h1.at
    subst hv1
    obtain ⟨hx0, hx1⟩ := byteFacts b
    have t9 : b = 9 ↔ (b.toNat : Int) = 9 := u8_eq 9 (by omega)
    have t10 : b = 10 ↔ (b.toNat : Int) = 10 := u8_eq 10 (by omega)
    have t13 : b = 13 ↔ (b.toNat : Int) = 13 := u8_eq 13 (by omega)
    have t127 : b = 127 ↔ (b.toNat : Int) = 127 := u8_eq 127 (by omega)
    have t32 : b < 32 ↔ (b.toNat : Int) < 32 := by
      rw [UInt8.lt_iff_toNat_lt]
      simp <;> omega
    have hj1 : (j : Int) ≤ ts.length := by omega
    have hj2 : j ≤ ts.length := by omega
    have hj3 : j ≤ cap1 := by omega
    by_cases hbad : (b < 32 ∨ b = 127) ∧ b ≠ 9 ∧ b ≠ 10 ∧ b ≠ 13
    case neg =>
      obtain ⟨x, hx⟩ : ∃ x : Int, x = b.toNat := ⟨_, rfl⟩
      have hcase : (32 ≤ x ∧ ¬ x = 127) ∨ x = 9 ∨ x = 10 ∨ x = 13 := by
        simp only [ne_eq, t9, t10, t13, t127, t32] at hbad
        omega
      rw [← hx]
      have HB := Lib.hid hb1
      clear hb1 h1 hto HT HE H hn' hbad t9 t10 t13 t127 t32 hx hx0 hx1 HEC
      rcases hcase with ⟨k1, k2⟩ | rfl | rfl | rfl
      · have k3 : (x != 127) = true := by simpa using k2
        go_wp2
        go_ret
        exact ⟨rfl, HB.out⟩
      · go_wp2
        go_ret
        exact ⟨rfl, HB.out⟩
      · go_wp2
        go_ret
        exact ⟨rfl, HB.out⟩
      · go_wp2
        go_ret
        exact ⟨rfl, HB.out⟩
    have hsrc := (tokens_some hto).2.1
    have hle : (textOf (ts.take j)).length + (textOf (ts.drop j)).length = l.length := by
      rw [← List.length_append, ← textOf_append, List.take_append_drop, hsrc]
    have hok := (tokens_some hto).1
    have hdec := decode_control hto j b hbad
    have HC1 := Lib.hid (fun (w2 : World) (hb : Below w1.heap.size w1 w2) => Text_any (Ts.below (show Ts w1 (sliced ao1 0 j cap1 3) (ts.take j) by simpa using ts_sliced h1 0 j (Nat.zero_le _) (by omega)) hb) (by omega))
    have hsl := ts_sliced h1 j ts.length (by omega) (Nat.le_refl _)
    rw [List.take_of_length_le (by rw [List.length_drop]; omega)] at hsl
    have HC3 := Lib.hid (fun (w2 : World) (hb : Below w1.heap.size w1 w2) => Text_any (hsl.below hb) (by omega))
    have hkl : (ts.take j).length ≤ 1099511627776 := by rw [List.length_take]; omega
    have HKP := Lib.hid (fun (w2 : World) (hb : Below w1.heap.size w1 w2) => Kept_any ((Ts.take h1 j (by omega)).below hb) (okTok.lens (fun t ht => hok t (List.mem_of_mem_take ht))) hkl)
    have HDB : Hid (∀ (w2 : World) (v2 : Value), Bs w2 v2 (textOf (ts.take j) ++ [b] ++ textOf (ts.drop j)) → Below w1.heap.size w1 w2 → Calls Tryd.prog 21 #[v2] w2 fun e w' => ∃ v', e = .returned (.tuple #[v', .bool false]) ∧ Bs w' v' (kept (ts.take j)) ∧ Below w2.heap.size w2 w') := fun w2 v2 h2 hb =>
      (Decode_bad (w := w2) h2 (HE.out.below (hb1.trans (hb.mono hb1.size))).eof (HE.out.below (hb1.trans (hb.mono hb1.size))).lt (by obtain ⟨x, hx⟩ := HEC.out; exact ⟨x, below_cell (hb1.trans (hb.mono hb1.size)) _ _ hx⟩) (by rw [List.append_assoc, List.singleton_append]; exact hdec) (by simp; omega)).mono fun e w' ⟨v', e1, e2, e3⟩ => ⟨v', e1, Bs.of_own e2, e3⟩
    have hl12 : (textOf (ts.take j)).length + [b].length ≤ 140737488355328 := by simp; omega
    have hl23 : (textOf (ts.take j) ++ [b]).length + (textOf (ts.drop j)).length ≤ 140737488355328 := by simp; omega
    obtain ⟨x1, hx1⟩ : ∃ x1, x1 = textOf (ts.take j) := ⟨_, rfl⟩
    obtain ⟨x3, hx3⟩ : ∃ x3, x3 = textOf (ts.drop j) := ⟨_, rfl⟩
    obtain ⟨kp, hkp⟩ : ∃ kp, kp = kept (ts.take j) := ⟨_, rfl⟩
    rw [← hx1] at HC1 HDB hl12 hl23
    rw [← hx3] at HC3 HDB hl23
    rw [← hkp] at HKP HDB
    have HB1 := Lib.hid hb1
    -- the test
    obtain ⟨x, hx⟩ : ∃ x : Int, x = b.toNat := ⟨_, rfl⟩
    have hcase : (x < 32 ∨ x = 127) ∧ ¬ x = 9 ∧ ¬ x = 10 ∧ ¬ x = 13 := by
      simp only [ne_eq, t9, t10, t13, t127, t32] at hbad
      omega
    obtain ⟨hc0, hc9, hc10, hc13⟩ := hcase
    have j9 : (x == 9) = false := beq_eq_false_iff_ne.2 hc9
    have j10 : (x == 10) = false := beq_eq_false_iff_ne.2 hc10
    have j13 : (x == 13) = false := beq_eq_false_iff_ne.2 hc13
    have hxb : Value.int .u8 x = Value.int .u8 b.toNat := by rw [hx]
    have HXB := Lib.hid hxb
    rw [← hx]
    clear hb1 h1 hto HT HE H hn' hsrc hle hok hdec hsl hkl hx1 hx3 hkp hbad t9 t10 t13 t127 t32 hx hxb HEC hx0
    rcases hc0 with hlt | rfl
    all_goals
      go_wp2
      refine wp_np ?_
      show Code.wp Tryd.prog ctl_regionC _ _ _
      refine ctl_region (ao := ao1) (n := ts.length) (j := j) (cap := cap1) (l1 := x1) (l3 := x3) (res := kp) (b := b) (fun _ _ _ _ h => h) rfl rfl rfl HXB.out hj1 (by omega) HC1.out HC3.out hl12 hl23 (fun w2 v2 h2 hb => HDB.out w2 v2 h2 hb) (fun y0 y1 y2 y3 y4 y5 y6 y7 y8 y9 y10 y11 y12 y13 y14 y15 y16 we hF hB => ?_)
      rw [ctl_put]
      have SF := Lib.hid hF
      have SB := Lib.hid hB
      obtain ⟨ao5, cap5, hv5⟩ := Bs.shape hF
      subst hv5
      clear hF hB
      have HK2 := Lib.hid (HKP.out we SB.out)
      go_wp2_with fail
      refine HK2.out.mono ?_
      rintro e w6 ⟨v6, rfl, h6, hb6⟩
      have HB6 := Lib.hid ((HB1.out.trans (SB.out.mono HB1.out.size)).trans (hb6.mono (HB1.out.trans (SB.out.mono HB1.out.size)).size))
      have hs := same_any (SF.out.below hb6) h6
      rw [beq_self_eq_true] at hs
      obtain ⟨ao6, cap6, rfl⟩ := Bs.shape h6
      have HS := Lib.hid hs
      clear hs h6 hb6
      go_wp2_with (go_at_call 23; refine HS.out.mono ?_; rintro e w' ⟨rfl, rfl⟩)
      go_ret
      exact ⟨rfl, HB6.out⟩
theorem walk {w : World} {ea : Addr} {v : Value} {l : List UInt8} (he : EofW w ea) (hec : ∃ x, w.cell? ea = some x) (h : Bs w v l) (n : Int) (hn : (Lit.int .i64 n).wf = true) (x : Int) (hx : (Lit.int .u8 x).wf = true) :
    Calls Tryd.prog 6 #[v, .int .i64 n, .int .u8 x] w fun e w' => e = .returned (.bool true) ∧ Below w.heap.size w w' := by
  have hn' : 0 ≤ x ∧ x ≤ 255 := by simpa [Lit.wf, IntKind.min, IntKind.max, IntKind.signed, IntKind.bits] using hx
  have := walkb he hec h n hn (UInt8.ofNat x.toNat)
  rw [show ((UInt8.ofNat x.toNat).toNat : Int) = x by simp; omega] at this
  exact this

theorem eof_of_laid2 {W : World} (h : laidMetH Tryd.prog [("io.EOF", Rows.laid_io_EOF)] W) : ∃ ea, EofW W ea ∧ ∃ x, W.cell? ea = some x := by
  rw [MakeChecks.laidMetH_plain _ _ _ (by kernel_rfl)] at h
  obtain ⟨a0, s0, hv0, hc0, -, -⟩ := laid_sentinel h gE gEType Tryd.underlying68 rowE Tryd.underlying96 Tryd.underlying133 rfl rfl Tryd.underlying9 cellsE cellsS
  have hg : W.cell? ⟨0, 0, none⟩ = some (.iface 96 (.pointer (some a0))) := by simpa using World.var?_cell gE hv0 0
  exact ⟨a0, ⟨hg, cell_lt hc0⟩, _, hc0⟩

set_option maxRecDepth 100000 in
/-- THE LAW's CONTRACT. -/
theorem contract (H : Type) (enc : TypeId × Value → H) (W : World) (base : Nat) (args : Array Value) (ds gs : List (DataW H)) (before : List MemPlace)
    (hval : ∀ (j : Nat) t v, Tryd.f6.params[j]? = some t → args[j]? = some v → Value.okWide Tryd.prog W .any base t v)
    (hW : DataW.Whole enc Tryd.prog Tryd.f6.params.toList Rows.fnControlSpec.vars false W args.toList ds gs before) (hL : laidMetH Tryd.prog Rows.fnControlRow.laid W) :
    Calls Tryd.prog 6 args W fun e W' => ∃ v, e = .returned v ∧ Rows.fnControlSpec.post enc Tryd.prog Tryd.f6 false true false false W args v W' := by
  obtain ⟨ea, he, hec⟩ := eof_of_laid2 hL
  have hW' := hW
  obtain ⟨p, q, hA0, hV, rfl, hfz, hnd⟩ := hW
  have hA : DataW.TrodAll enc Tryd.prog W 0 (fun _ => true) true Tryd.f6.params.toList args.toList ds p := hA0
  rw [Tryd.params6] at hA hval
  obtain ⟨v0, vs0, d0, ds0, p0, q0, hargs0, rfl, rfl, h0, r0⟩ := trodAll_cons hA
  obtain ⟨v1, vs1, d1, ds1, p1, q1, hargs1, rfl, rfl, h1, r1⟩ := trodAll_cons r0
  obtain ⟨v2, vs2, d2, ds2, p2, q2, hargs2, rfl, rfl, h2, r2⟩ := trodAll_cons r1
  obtain ⟨rfl, rfl, rfl⟩ := trodAll_nil r2
  subst hargs2
  subst hargs1
  obtain rfl : args = #[v0, v1, v2] := by cases args; simp_all
  obtain ⟨rfl, rfl⟩ := trodVars_none hV
  obtain ⟨a0, len0, cap0, rfl⟩ := okWide_slice Tryd.underlying24 (hval 0 24 v0 rfl rfl)
  have k0 := h0
  have lt0 : ∀ x ∈ p0, x.block < W.heap.size := by obtain ⟨m, hm⟩ := k0; exact DataW.trod_lt m _ _ _ hm
  obtain ⟨l0, hl0, hbk0⟩ := open_bs h0
  obtain ⟨n1, rfl, rfl, rfl, w1⟩ := open_int Tryd.underlying3 (hval 1 3 v1 rfl rfl) h1
  obtain ⟨n2, rfl, rfl, rfl, w2⟩ := open_int Tryd.underlying5 (hval 2 5 v2 rfl rfl) h2
  clear hA0
  refine (walk he hec hl0 n1 w1 n2 w2).mono fun e W' ⟨he, bel⟩ => ?_
  subst he
  exact ⟨_, rfl, _, _, _, [], _, [], hW', trodAll_mk1 (shut_bool Tryd.underlying4 _), (trodAll_cons_mk (Below.trod laidOut (by kernel_rfl) (of_decide_eq_true (by kernel_rfl)) k0 bel lt0) (trodAll_cons_mk (shut_int Tryd.underlying3 w1) (trodAll_cons_mk (shut_int Tryd.underlying5 w2) trodAll_mk0))), rfl, bel.frame _, fun h => by cases h⟩

theorem reads (os : Os) {H : Type} (enc : TypeId × Value → H) : ∃ places, DataW.whole enc Tryd.prog ((laidWorld os).forCall (fun _ _ => 0) ⟨#[], #[.slice none 0 0, .int .i64 0, .int .u8 0], []⟩).memory Tryd.f6.params.toList Rows.fnControlSpec.vars false (#[.slice none 0 0, .int .i64 0, .int .u8 0] : Array Value).toList 8 = some ([.nil, .lit (.int .i64 0), .lit (.int .u8 0)], [], places) :=
  ⟨[], by kernel_rfl⟩

set_option maxRecDepth 100000 in
theorem lifted (os : Os) (started : os.Started) (H : Type) (enc : TypeId × Value → H) (F : Stop.Interp) :
    ReturnsInHanded {} Tryd.checked os 6 .any ((OpenSpec.ofChange Rows.fnControlSpec).preRow enc Tryd.prog Tryd.f6 Rows.fnControlRow.domain false Rows.fnControlRow.laid) (((OpenSpec.ofChange Rows.fnControlSpec).at F).post enc Tryd.prog Tryd.f6 false true false false) := by
  obtain ⟨places, hx⟩ := reads os enc
  refine returnsInHanded_of_row (C := Tryd.checked) (s := (OpenSpec.ofChange Rows.fnControlSpec)) own started (by kernel_rfl) Tryd.func6
    (witness_row_at (enc := enc) (C := Tryd.checked) false (laidWorld os) #[.slice none 0 0, .int .i64 0, .int .u8 0] rfl (by kernel_rfl) (by kernel_rfl) (by kernel_rfl)
      (OpenSpec.preRow_of_cond 8 hx (by kernel_rfl) (fun k hk => by cases hk) (by kernel_rfl) (laid_met os _))) ?_
  intro W base args ds gs before hval hW _ _ _ hL _ _
  exact contract H enc W base args ds gs before hval hW hL

set_option maxRecDepth 100000 in
theorem closed : joinedFacts Tryd.pinned.checked.prog 6 Tryd.f6 (OpenSpec.bare (OpenSpec.ofChange Rows.fnControlSpec)) Rows.fnControlRow = true := by
  unfold joinedFacts
  rw [mayEnter_fact, liftsFinal_fact, make_fact]
  kernel_rfl
set_option maxRecDepth 100000 in
theorem said : Rows.FnControlSaid :=
  OpenClaim.holds_of_cond 6 Tryd.f6 rfl rfl rfl rfl rfl rfl rfl ⟨rfl, rfl, rfl, rfl, rfl⟩ rfl rfl rfl rfl rfl (by as_aux_lemma => kernel_rfl) Tryd.func6 closed
    (of_decide_eq_true (by as_aux_lemma => kernel_rfl)) (by unfold Func.isWrapper; first | (rw [if_pos (by decide +kernel)]; kernel_rfl) | (rw [if_neg (by decide +kernel)]; exact ⟨rfl, rfl⟩))
    (fun os started H enc _ F => by rw [OpenClaim.pre_eq_preRow]; exact lifted os started H enc F)

theorem plain (f : FuncId) (fn : Func) (hf : Tryd.pinned.checked.prog.funcNamed Rows.fnControlRow.func = some f) (hfn : Tryd.pinned.checked.prog.funcs[f]? = some fn) :
    true = Tryd.pinned.checked.prog.looks [] ∧ ∀ (j : Nat) t, fn.params[j]? = some t → Tryd.pinned.checked.prog.wantsStandIn t = false := by
  obtain rfl : f = 6 := Option.some.inj ((show Tryd.prog.funcNamed Rows.fnControlRow.func = some 6 by kernel_rfl).symm.trans hf) |>.symm
  obtain rfl : fn = Tryd.f6 := (Option.some.inj (Tryd.func6.symm.trans hfn)).symm
  refine ⟨by kernel_rfl, fun j t ht => ?_⟩
  rw [Tryd.params6] at ht
  have hm := Array.mem_of_getElem? ht
  have hall : ([24, 3, 5].all fun u => !Tryd.prog.wantsStandIn u) = true := by kernel_rfl
  have hm' : t ∈ [24, 3, 5] := by simpa using hm
  exact (show Tryd.prog.wantsStandIn t = false by simpa using List.all_eq_true.1 hall t hm')

/-- THE CARD. -/
theorem card : Rows.FnControlCardSaid :=
  Claim7.holds_tied_plain_at .later [] _ _ _ _ said (fun _ h => by cases h) (by as_aux_lemma => kernel_rfl) (fun _ h => by cases h) fnControl_row_tie rfl ⟨rfl, rfl⟩ mainIs_fact rfl plain (by as_aux_lemma => kernel_rfl)
end Go.Proofs.YthfkgancjpdodaaDoor.fnControl

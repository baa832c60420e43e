/- THE LAW FnPrefix: for all bytes, of whatever length, and every place: the first tokens of an encoded text decode to a beginning of what it decodes to. No condition. -/
import Derived.Test.YthfkgancjpdodaaDoorCm
import Derived.Test.YthfkgancjpdodaaDoorFacts
import Derived.Test.YthfkgancjpdodaaDoorSp1
namespace Go.Proofs.YthfkgancjpdodaaDoor.fnPrefix
open Go.ChangeShapes Go.WideShapes Go.ChangeAt Go.RowKit Qp

set_option maxRecDepth 100000 in
set_option maxHeartbeats 3200000 in
theorem walk {w : World} {ea : Addr} {v : Value} {l : List UInt8} (he : EofW w ea) (h : Bs w v l) (n : Int) (hn : (Lit.int .i64 n).wf = true) :
    Calls Tryd.prog 18 #[v, .int .i64 n] w fun e w' => e = .returned (.bool true) ∧ Below w.heap.size w w' := by
  have hn' : -9223372036854775808 ≤ n ∧ n ≤ 9223372036854775807 := by simpa [Lit.wf, IntKind.min, IntKind.max, IntKind.signed, IntKind.bits] using hn
  clear hn
  by_cases hbig : 2147483647 < l.length
  · obtain ⟨ao, cap, rfl⟩ := Bs.shape h
    clear h he
    go_enter Tryd.func18, Tryd.ntmps18
    go_wp2
    go_ret
    exact ⟨rfl, Below.refl _ _⟩
  have HT := Lib.hid (Tokens_any h (by omega))
  have H := Lib.hid h
  have HE := Lib.hid he
  obtain ⟨ao, cap, rfl⟩ := Bs.shape h
  clear h he
  go_enter Tryd.func18, Tryd.ntmps18
  go_wp2_with fail
  refine HT.out.mono ?_
  rintro e w1 ⟨hb1, hm⟩
  cases hto : tokens l with
  | none =>
    rw [hto] at hm
    subst hm
    have HB := Lib.hid hb1
    clear hb1 hto
    go_wp2
    go_ret
    exact ⟨rfl, HB.out⟩
  | some ts =>
    rw [hto] at hm
    obtain ⟨v1, rfl, h1⟩ := hm
    have hlen := tokens_len hto
    by_cases hneg : n < 0
    · obtain ⟨ao1, cap1, rfl⟩ := Ts.shape h1
      have HB := Lib.hid hb1
      clear h1 hb1 hto HT HE H hn'
      go_wp2
      go_ret
      exact ⟨rfl, HB.out⟩
    obtain ⟨j, rfl⟩ := Int.eq_ofNat_of_zero_le (show 0 ≤ n by omega)
    by_cases hgt : ts.length < j
    · obtain ⟨ao1, cap1, rfl⟩ := Ts.shape h1
      have HB := Lib.hid hb1
      clear h1 hb1 hto HT HE H hn'
      go_wp2
      go_ret
      exact ⟨rfl, HB.out⟩
    obtain ⟨ao1, cap1, hv1, hc1, hc2, -⟩ := h1.at
    subst hv1
    have ht1 := Ts.take h1 j (by omega)
    have hsrc := (tokens_some hto).2.1
    have hle := textOf_take_le ts j
    rw [hsrc] at hle
    obtain ⟨hd1, hpx⟩ := law_prefix hto j
    have hd2 := decode_tokens hto
    have HTX := Lib.hid (Text_any ht1 (by omega))
    have HD1 := Lib.hid (fun (w2 : World) (v2 : Value) (hb : Below w.heap.size w w2) (h2 : Bs w2 v2 (textOf (ts.take j))) => Decode_any h2 (HE.out.below hb).eof (HE.out.below hb).lt hd1 (by omega))
    have HD2 := Lib.hid (fun (w2 : World) (hb : Below w.heap.size w w2) => Decode_any (H.out.below hb) (HE.out.below hb).eof (HE.out.below hb).lt hd2 (by omega))
    have hpl := hpx.length_le
    have hpt : (value ts).take (value (ts.take j)).length = value (ts.take j) := (List.prefix_iff_eq_take.1 hpx).symm
    obtain ⟨p, hp⟩ : ∃ p, p = value (ts.take j) := ⟨_, rfl⟩
    obtain ⟨q, hq⟩ : ∃ q, q = value ts := ⟨_, rfl⟩
    rw [← hp] at HD1 hpl hpt
    rw [← hq] at HD2 hpl hpt
    have HPT := Lib.hid hpt
    have HB1 := Lib.hid hb1
    have hj1 : (j : Int) ≤ ts.length := by omega
    have hj2 : j ≤ ts.length := by omega
    have hj3 : j ≤ cap1 := by omega
    clear h1 ht1 hd1 hd2 hpx hp hq hb1 hto hsrc hle hpt HT HE hn' hneg hgt
    go_wp2_with fail
    refine HTX.out.mono ?_
    rintro e w2 ⟨v2, rfl, ho2, hb2⟩
    have HB2 := Lib.hid (HB1.out.trans (hb2.mono HB1.out.size))
    have H2 := Lib.hid (Bs.of_own ho2)
    clear ho2 hb2 HTX
    go_wp2_with fail
    refine (HD1.out w2 v2 HB2.out H2.out).mono ?_
    rintro e w3 ⟨v3, rfl, h3, hb3⟩
    have HB3 := Lib.hid (HB2.out.trans (hb3.mono HB2.out.size))
    have H3 := Lib.hid h3
    obtain ⟨ao3, cap3, rfl⟩ := Bs.shape h3
    clear h3 hb3 H2 HD1
    go_wp2_with fail
    refine (HD2.out w3 HB3.out).mono ?_
    rintro e w4 ⟨v4, rfl, h4, hb4⟩
    have HB4 := Lib.hid (HB3.out.trans (hb4.mono HB3.out.size))
    obtain ⟨ao4, cap4, hv4, hq1, hq2, -⟩ := id h4
    subst hv4
    have hbt := Bs.take h4 p.length hpl
    rw [HPT.out] at hbt
    have hs := same_any (H3.out.below hb4) hbt
    rw [beq_self_eq_true] at hs
    have HS := Lib.hid hs
    obtain ⟨pl, hpl'⟩ : ∃ pl, pl = p.length := ⟨_, rfl⟩
    obtain ⟨ql, hql'⟩ : ∃ ql, ql = q.length := ⟨_, rfl⟩
    rw [← hpl'] at hpl HS ⊢
    rw [← hql'] at hpl hq1 ⊢
    have k1 : (pl : Int) ≤ ql := by omega
    have k2 : pl ≤ cap4 := by omega
    have k3 : decide (pl ≤ ql) = true := decide_eq_true hpl
    clear hs h4 hb4 hbt H3 hpl' hql' HPT
    go_wp2_with (go_at_call 23; refine HS.out.mono ?_; rintro e w' ⟨rfl, rfl⟩)
    go_ret
    exact ⟨rfl, HB4.out⟩

set_option maxRecDepth 100000 in
/-- THE LAW's CONTRACT. -/
theorem contract (H : Type) (enc : TypeId × Value → H) (W : World) (base : Nat) (args : Array Value) (ds gs : List (DataW H)) (before : List MemPlace)
    (hval : ∀ (j : Nat) t v, Tryd.f18.params[j]? = some t → args[j]? = some v → Value.okWide Tryd.prog W .any base t v)
    (hW : DataW.Whole enc Tryd.prog Tryd.f18.params.toList Rows.fnPrefixSpec.vars false W args.toList ds gs before) (hL : laidMetH Tryd.prog Rows.fnPrefixRow.laid W) :
    Calls Tryd.prog 18 args W fun e W' => ∃ v, e = .returned v ∧ Rows.fnPrefixSpec.post enc Tryd.prog Tryd.f18 false true false false W args v W' := by
  obtain ⟨ea, he⟩ := eof_of_laid hL
  have hW' := hW
  obtain ⟨p, q, hA0, hV, rfl, hfz, hnd⟩ := hW
  have hA : DataW.TrodAll enc Tryd.prog W 0 (fun _ => true) true Tryd.f18.params.toList args.toList ds p := hA0
  rw [Tryd.params18] at hA hval
  obtain ⟨v0, vs0, d0, ds0, p0, q0, hargs0, rfl, rfl, h0, r0⟩ := trodAll_cons hA
  obtain ⟨v1, vs1, d1, ds1, p1, q1, hargs1, rfl, rfl, h1, r1⟩ := trodAll_cons r0
  obtain ⟨rfl, rfl, rfl⟩ := trodAll_nil r1
  subst hargs1
  obtain rfl : args = #[v0, v1] := by cases args; simp_all
  obtain ⟨rfl, rfl⟩ := trodVars_none hV
  obtain ⟨a0, len0, cap0, rfl⟩ := okWide_slice Tryd.underlying24 (hval 0 24 v0 rfl rfl)
  have k0 := h0
  have lt0 : ∀ x ∈ p0, x.block < W.heap.size := by obtain ⟨m, hm⟩ := k0; exact DataW.trod_lt m _ _ _ hm
  obtain ⟨l0, hl0, hbk0⟩ := open_bs h0
  obtain ⟨n1, rfl, rfl, rfl, w1⟩ := open_int Tryd.underlying3 (hval 1 3 v1 rfl rfl) h1
  clear hA0
  refine (walk he hl0 n1 w1).mono fun e W' ⟨he, bel⟩ => ?_
  subst he
  exact ⟨_, rfl, _, _, _, [], _, [], hW', trodAll_mk1 (shut_bool Tryd.underlying4 _), (trodAll_cons_mk (Below.trod laidOut (by kernel_rfl) (of_decide_eq_true (by kernel_rfl)) k0 bel lt0) (trodAll_cons_mk (shut_int Tryd.underlying3 w1) trodAll_mk0)), rfl, bel.frame _, fun h => by cases h⟩

theorem reads (os : Os) {H : Type} (enc : TypeId × Value → H) : ∃ places, DataW.whole enc Tryd.prog ((laidWorld os).forCall (fun _ _ => 0) ⟨#[], #[.slice none 0 0, .int .i64 0], []⟩).memory Tryd.f18.params.toList Rows.fnPrefixSpec.vars false (#[.slice none 0 0, .int .i64 0] : Array Value).toList 8 = some ([.nil, .lit (.int .i64 0)], [], places) :=
  ⟨[], by kernel_rfl⟩

set_option maxRecDepth 100000 in
theorem lifted (os : Os) (started : os.Started) (H : Type) (enc : TypeId × Value → H) (F : Stop.Interp) :
    ReturnsInHanded {} Tryd.checked os 18 .any ((OpenSpec.ofChange Rows.fnPrefixSpec).preRow enc Tryd.prog Tryd.f18 Rows.fnPrefixRow.domain false Rows.fnPrefixRow.laid) (((OpenSpec.ofChange Rows.fnPrefixSpec).at F).post enc Tryd.prog Tryd.f18 false true false false) := by
  obtain ⟨places, hx⟩ := reads os enc
  refine returnsInHanded_of_row (C := Tryd.checked) (s := (OpenSpec.ofChange Rows.fnPrefixSpec)) own started (by kernel_rfl) Tryd.func18
    (witness_row_at (enc := enc) (C := Tryd.checked) false (laidWorld os) #[.slice none 0 0, .int .i64 0] rfl (by kernel_rfl) (by kernel_rfl) (by kernel_rfl)
      (OpenSpec.preRow_of_cond 8 hx (by kernel_rfl) (fun k hk => by cases hk) (by kernel_rfl) (laid_met os _))) ?_
  intro W base args ds gs before hval hW _ _ _ hL _ _
  exact contract H enc W base args ds gs before hval hW hL

set_option maxRecDepth 100000 in
theorem closed : joinedFacts Tryd.pinned.checked.prog 18 Tryd.f18 (OpenSpec.bare (OpenSpec.ofChange Rows.fnPrefixSpec)) Rows.fnPrefixRow = true := by
  unfold joinedFacts
  rw [mayEnter_fact, liftsFinal_fact, make_fact]
  kernel_rfl
set_option maxRecDepth 100000 in
theorem said : Rows.FnPrefixSaid :=
  OpenClaim.holds_of_cond 18 Tryd.f18 rfl rfl rfl rfl rfl rfl rfl ⟨rfl, rfl, rfl, rfl, rfl⟩ rfl rfl rfl rfl rfl (by as_aux_lemma => kernel_rfl) Tryd.func18 closed
    (of_decide_eq_true (by as_aux_lemma => kernel_rfl)) (by unfold Func.isWrapper; first | (rw [if_pos (by decide +kernel)]; kernel_rfl) | (rw [if_neg (by decide +kernel)]; exact ⟨rfl, rfl⟩))
    (fun os started H enc _ F => by rw [OpenClaim.pre_eq_preRow]; exact lifted os started H enc F)

theorem plain (f : FuncId) (fn : Func) (hf : Tryd.pinned.checked.prog.funcNamed Rows.fnPrefixRow.func = some f) (hfn : Tryd.pinned.checked.prog.funcs[f]? = some fn) :
    true = Tryd.pinned.checked.prog.looks [] ∧ ∀ (j : Nat) t, fn.params[j]? = some t → Tryd.pinned.checked.prog.wantsStandIn t = false := by
  obtain rfl : f = 18 := Option.some.inj ((show Tryd.prog.funcNamed Rows.fnPrefixRow.func = some 18 by kernel_rfl).symm.trans hf) |>.symm
  obtain rfl : fn = Tryd.f18 := (Option.some.inj (Tryd.func18.symm.trans hfn)).symm
  refine ⟨by kernel_rfl, fun j t ht => ?_⟩
  rw [Tryd.params18] at ht
  have hm := Array.mem_of_getElem? ht
  have hall : ([24, 3].all fun u => !Tryd.prog.wantsStandIn u) = true := by kernel_rfl
  have hm' : t ∈ [24, 3] := by simpa using hm
  exact (show Tryd.prog.wantsStandIn t = false by simpa using List.all_eq_true.1 hall t hm')

/-- THE CARD. -/
theorem card : Rows.FnPrefixCardSaid :=
  Claim7.holds_tied_plain_at .later [] _ _ _ _ said (fun _ h => by cases h) (by as_aux_lemma => kernel_rfl) (fun _ h => by cases h) fnPrefix_row_tie rfl ⟨rfl, rfl⟩ mainIs_fact rfl plain (by as_aux_lemma => kernel_rfl)
end Go.Proofs.YthfkgancjpdodaaDoor.fnPrefix

/- THE LAW FnLineFeed: for all bytes, of whatever length: an encoded text with LF in the place of each CR LF decodes to what these tokens stand for. No condition. -/
import Derived.Test.YthfkgancjpdodaaDoorCm
import Derived.Test.YthfkgancjpdodaaDoorFacts
import Derived.Test.YthfkgancjpdodaaDoorSp4
namespace Go.Proofs.YthfkgancjpdodaaDoor.fnLineFeed
open Go.ChangeShapes Go.WideShapes Go.ChangeAt Go.RowKit Qp

set_option maxRecDepth 100000 in
set_option maxHeartbeats 3200000 in
theorem walk {w : World} {ea : Addr} {v : Value} {l : List UInt8} (he : EofW w ea) (h : Bs w v l) :
    Calls Tryd.prog 14 #[v] w fun e w' => e = .returned (.bool true) ∧ Below w.heap.size w w' := by
  by_cases hbig : 2147483647 < l.length
  · obtain ⟨ao, cap, rfl⟩ := Bs.shape h
    clear h he
    go_enter Tryd.func14, Tryd.ntmps14
    go_wp2
    go_ret
    exact ⟨rfl, Below.refl _ _⟩
  have HT := Lib.hid (Tokens_any h (by omega))
  have H := Lib.hid h
  have HE := Lib.hid he
  obtain ⟨ao, cap, rfl⟩ := Bs.shape h
  clear h he
  go_enter Tryd.func14, Tryd.ntmps14
  go_wp2_with fail
  refine HT.out.mono ?_
  rintro e w1 ⟨hb1, hm⟩
  cases hto : tokens l with
  | none =>
    rw [hto] at hm
    subst hm
    have HB := Lib.hid hb1
    clear hb1 hto
    go_wp2
    go_ret
    exact ⟨rfl, HB.out⟩
  | some ts =>
    rw [hto] at hm
    obtain ⟨v1, rfl, h1⟩ := hm
    have hlen := tokens_len hto
    have hok := (tokens_some hto).1
    have hdec := law_feeds hto
    have hle := textOf_le3 (l := ts.map feed) (fun u hu => by
      obtain ⟨t, ht, rfl⟩ := List.mem_map.1 hu
      exact feed_le3 (hok t ht))
    rw [List.length_map] at hle
    have HF := Lib.hid (Feeds_any h1 (by omega))
    have HB1 := Lib.hid hb1
    have HL := Lib.hid (feed_lens hok)
    have hfl : (ts.map feed).length ≤ 1099511627776 := by rw [List.length_map]; omega
    have HD := Lib.hid (fun (w2 : World) (v2 : Value) (hb : Below w.heap.size w w2) (h2 : Bs w2 v2 (textOf (ts.map feed))) => Decode_any h2 (HE.out.below hb).eof (HE.out.below hb).lt hdec (by omega))
    have htl : (textOf (ts.map feed)).length ≤ 140737488355000 := by omega
    obtain ⟨fs, hfs⟩ : ∃ fs, fs = ts.map feed := ⟨_, rfl⟩
    rw [← hfs] at HF HL hfl HD htl
    obtain ⟨ao1, cap1, rfl⟩ := Ts.shape h1
    clear h1 hb1 hdec hle hok hto hfs HT
    go_wp2_with fail
    refine HF.out.mono ?_
    rintro e w2 ⟨v2, rfl, h2, hb2⟩
    have HB2 := Lib.hid (HB1.out.trans (hb2.mono HB1.out.size))
    have H2 := Lib.hid h2
    have HX := Lib.hid (Text_any h2 htl)
    obtain ⟨ao2, cap2, rfl⟩ := Ts.shape h2
    clear h2 hb2 HF
    go_wp2_with fail
    refine HX.out.mono ?_
    rintro e w3 ⟨v3, rfl, ho3, hb3⟩
    have HB3 := Lib.hid (HB2.out.trans (hb3.mono HB2.out.size))
    have H23 := Lib.hid (H2.out.below hb3)
    have H3 := Lib.hid (Bs.of_own ho3)
    clear ho3 hb3 HX H2
    go_wp2_with fail
    refine (HD.out w3 v3 HB3.out H3.out).mono ?_
    rintro e w4 ⟨v4, rfl, h4, hb4⟩
    have HB4 := Lib.hid (HB3.out.trans (hb4.mono HB3.out.size))
    have HV := Lib.hid (ValueFeeds_any (H23.out.below hb4) HL.out hfl)
    have H4 := Lib.hid h4
    obtain ⟨ao4, cap4, rfl⟩ := Bs.shape h4
    clear h4 hb4 HD H3 H23
    generalize hvl : (value fs).length = vl at *
    go_wp2_with fail
    refine HV.out.mono ?_
    rintro e w5 ⟨v5, rfl, h5, hb5⟩
    have HB5 := Lib.hid (HB4.out.trans (hb5.mono HB4.out.size))
    have hs := same_any (H4.out.below hb5) h5
    rw [beq_self_eq_true] at hs
    obtain ⟨ao5, cap5, rfl⟩ := Bs.shape h5
    rw [hvl] at hs ⊢
    have HS := Lib.hid hs
    clear hs h5 hb5 H4 HV hvl
    go_wp2_with (go_at_call 23; refine HS.out.mono ?_; rintro e w' ⟨rfl, rfl⟩)
    go_ret
    exact ⟨rfl, HB5.out⟩

set_option maxRecDepth 100000 in
/-- THE LAW's CONTRACT. -/
theorem contract (H : Type) (enc : TypeId × Value → H) (W : World) (base : Nat) (args : Array Value) (ds gs : List (DataW H)) (before : List MemPlace)
    (hval : ∀ (j : Nat) t v, Tryd.f14.params[j]? = some t → args[j]? = some v → Value.okWide Tryd.prog W .any base t v)
    (hW : DataW.Whole enc Tryd.prog Tryd.f14.params.toList Rows.fnLineFeedSpec.vars false W args.toList ds gs before) (hL : laidMetH Tryd.prog Rows.fnLineFeedRow.laid W) :
    Calls Tryd.prog 14 args W fun e W' => ∃ v, e = .returned v ∧ Rows.fnLineFeedSpec.post enc Tryd.prog Tryd.f14 false true false false W args v W' := by
  obtain ⟨ea, he⟩ := eof_of_laid hL
  have hW' := hW
  obtain ⟨p, q, hA0, hV, rfl, hfz, hnd⟩ := hW
  have hA : DataW.TrodAll enc Tryd.prog W 0 (fun _ => true) true Tryd.f14.params.toList args.toList ds p := hA0
  rw [Tryd.params14] at hA hval
  obtain ⟨v0, vs0, d0, ds0, p0, q0, hargs0, rfl, rfl, h0, r0⟩ := trodAll_cons hA
  obtain ⟨rfl, rfl, rfl⟩ := trodAll_nil r0
  obtain rfl : args = #[v0] := by cases args; simp_all
  obtain ⟨rfl, rfl⟩ := trodVars_none hV
  obtain ⟨a0, len0, cap0, rfl⟩ := okWide_slice Tryd.underlying24 (hval 0 24 v0 rfl rfl)
  have k0 := h0
  have lt0 : ∀ x ∈ p0, x.block < W.heap.size := by obtain ⟨m, hm⟩ := k0; exact DataW.trod_lt m _ _ _ hm
  obtain ⟨l0, hl0, hbk0⟩ := open_bs h0
  clear hA0
  refine (walk he hl0).mono fun e W' ⟨he, bel⟩ => ?_
  subst he
  exact ⟨_, rfl, _, _, _, [], _, [], hW', trodAll_mk1 (shut_bool Tryd.underlying4 _), (trodAll_cons_mk (Below.trod laidOut (by kernel_rfl) (of_decide_eq_true (by kernel_rfl)) k0 bel lt0) trodAll_mk0), rfl, bel.frame _, fun h => by cases h⟩

theorem reads (os : Os) {H : Type} (enc : TypeId × Value → H) : ∃ places, DataW.whole enc Tryd.prog ((laidWorld os).forCall (fun _ _ => 0) ⟨#[], #[.slice none 0 0], []⟩).memory Tryd.f14.params.toList Rows.fnLineFeedSpec.vars false (#[.slice none 0 0] : Array Value).toList 8 = some ([.nil], [], places) :=
  ⟨[], by kernel_rfl⟩

set_option maxRecDepth 100000 in
theorem lifted (os : Os) (started : os.Started) (H : Type) (enc : TypeId × Value → H) (F : Stop.Interp) :
    ReturnsInHanded {} Tryd.checked os 14 .any ((OpenSpec.ofChange Rows.fnLineFeedSpec).preRow enc Tryd.prog Tryd.f14 Rows.fnLineFeedRow.domain false Rows.fnLineFeedRow.laid) (((OpenSpec.ofChange Rows.fnLineFeedSpec).at F).post enc Tryd.prog Tryd.f14 false true false false) := by
  obtain ⟨places, hx⟩ := reads os enc
  refine returnsInHanded_of_row (C := Tryd.checked) (s := (OpenSpec.ofChange Rows.fnLineFeedSpec)) own started (by kernel_rfl) Tryd.func14
    (witness_row_at (enc := enc) (C := Tryd.checked) false (laidWorld os) #[.slice none 0 0] rfl (by kernel_rfl) (by kernel_rfl) (by kernel_rfl)
      (OpenSpec.preRow_of_cond 8 hx (by kernel_rfl) (fun k hk => by cases hk) (by kernel_rfl) (laid_met os _))) ?_
  intro W base args ds gs before hval hW _ _ _ hL _ _
  exact contract H enc W base args ds gs before hval hW hL

set_option maxRecDepth 100000 in
theorem closed : joinedFacts Tryd.pinned.checked.prog 14 Tryd.f14 (OpenSpec.bare (OpenSpec.ofChange Rows.fnLineFeedSpec)) Rows.fnLineFeedRow = true := by
  unfold joinedFacts
  rw [mayEnter_fact, liftsFinal_fact, make_fact]
  kernel_rfl
set_option maxRecDepth 100000 in
theorem said : Rows.FnLineFeedSaid :=
  OpenClaim.holds_of_cond 14 Tryd.f14 rfl rfl rfl rfl rfl rfl rfl ⟨rfl, rfl, rfl, rfl, rfl⟩ rfl rfl rfl rfl rfl (by as_aux_lemma => kernel_rfl) Tryd.func14 closed
    (of_decide_eq_true (by as_aux_lemma => kernel_rfl)) (by unfold Func.isWrapper; first | (rw [if_pos (by decide +kernel)]; kernel_rfl) | (rw [if_neg (by decide +kernel)]; exact ⟨rfl, rfl⟩))
    (fun os started H enc _ F => by rw [OpenClaim.pre_eq_preRow]; exact lifted os started H enc F)

theorem plain (f : FuncId) (fn : Func) (hf : Tryd.pinned.checked.prog.funcNamed Rows.fnLineFeedRow.func = some f) (hfn : Tryd.pinned.checked.prog.funcs[f]? = some fn) :
    true = Tryd.pinned.checked.prog.looks [] ∧ ∀ (j : Nat) t, fn.params[j]? = some t → Tryd.pinned.checked.prog.wantsStandIn t = false := by
  obtain rfl : f = 14 := Option.some.inj ((show Tryd.prog.funcNamed Rows.fnLineFeedRow.func = some 14 by kernel_rfl).symm.trans hf) |>.symm
  obtain rfl : fn = Tryd.f14 := (Option.some.inj (Tryd.func14.symm.trans hfn)).symm
  refine ⟨by kernel_rfl, fun j t ht => ?_⟩
  rw [Tryd.params14] at ht
  have hm := Array.mem_of_getElem? ht
  have hall : ([24].all fun u => !Tryd.prog.wantsStandIn u) = true := by kernel_rfl
  have hm' : t ∈ [24] := by simpa using hm
  exact (show Tryd.prog.wantsStandIn t = false by simpa using List.all_eq_true.1 hall t hm')

/-- THE CARD. -/
theorem card : Rows.FnLineFeedCardSaid :=
  Claim7.holds_tied_plain_at .later [] _ _ _ _ said (fun _ h => by cases h) (by as_aux_lemma => kernel_rfl) (fun _ h => by cases h) fnLineFeed_row_tie rfl ⟨rfl, rfl⟩ mainIs_fact rfl plain (by as_aux_lemma => kernel_rfl)
end Go.Proofs.YthfkgancjpdodaaDoor.fnLineFeed

/- THE LAW FnLower: for all bytes, of whatever length, and every place: an encoded text in which an escape has small letters decodes to the same. No condition. -/
import Derived.Test.YthfkgancjpdodaaDoorCm
import Derived.Test.YthfkgancjpdodaaDoorFacts
import Derived.Test.YthfkgancjpdodaaDoorSp4
namespace Go.Proofs.YthfkgancjpdodaaDoor.fnLower
open Go.ChangeShapes Go.WideShapes Go.ChangeAt Go.RowKit Qp

set_option maxRecDepth 100000 in
set_option maxHeartbeats 3200000 in
theorem walk {w : World} {ea : Addr} {v : Value} {l : List UInt8} (he : EofW w ea) (h : Bs w v l) (n : Int) (hn : (Lit.int .i64 n).wf = true) :
    Calls Tryd.prog 15 #[v, .int .i64 n] w fun e w' => e = .returned (.bool true) ∧ Below w.heap.size w w' := by
  have hn' : -9223372036854775808 ≤ n ∧ n ≤ 9223372036854775807 := by simpa [Lit.wf, IntKind.min, IntKind.max, IntKind.signed, IntKind.bits] using hn
  clear hn
  by_cases hbig : 2147483647 < l.length
  · obtain ⟨ao, cap, rfl⟩ := Bs.shape h
    clear h he
    go_enter Tryd.func15, Tryd.ntmps15
    go_wp2
    go_ret
    exact ⟨rfl, Below.refl _ _⟩
  have HT := Lib.hid (Tokens_any h (by omega))
  have H := Lib.hid h
  have HE := Lib.hid he
  obtain ⟨ao, cap, rfl⟩ := Bs.shape h
  clear h he
  go_enter Tryd.func15, Tryd.ntmps15
  go_wp2_with fail
  refine HT.out.mono ?_
  rintro e w1 ⟨hb1, hm⟩
  cases hto : tokens l with
  | none =>
    rw [hto] at hm
    subst hm
    have HB := Lib.hid hb1
    clear hb1 hto
    go_wp2
    go_ret
    exact ⟨rfl, HB.out⟩
  | some ts =>
    rw [hto] at hm
    obtain ⟨v1, rfl, h1⟩ := hm
    have hlen := tokens_len hto
    by_cases hneg : n < 0
    · obtain ⟨ao1, cap1, rfl⟩ := Ts.shape h1
      have HB := Lib.hid hb1
      clear h1 hb1 hto HT HE H hn'
      go_wp2
      go_ret
      exact ⟨rfl, HB.out⟩
    obtain ⟨j, rfl⟩ := Int.eq_ofNat_of_zero_le (show 0 ≤ n by omega)
    by_cases hgt : ts.length ≤ j
    · obtain ⟨ao1, cap1, rfl⟩ := Ts.shape h1
      have HB := Lib.hid hb1
      clear h1 hb1 hto HT HE H hn'
      go_wp2
      go_ret
      exact ⟨rfl, HB.out⟩
    obtain ⟨ao1, cap1, hv1, hlc1, hcm1, hat⟩ := id h1.at
    subst hv1
    have hjl : j < ts.length := by omega
    obtain ⟨b, off, a1, n1, c1, a2, n2, c2, hao, q0, q1, q2, t1, t2⟩ := hat j hjl
    subst hao
    have hget : ts[j]? = some ts[j] := List.getElem?_eq_getElem hjl
    have hokj := (tokens_some hto).1 _ (List.getElem_mem hjl)
    obtain ⟨t, ht⟩ : ∃ t, t = ts[j] := ⟨_, rfl⟩
    rw [← ht] at q0 t1 t2 hget hokj
    obtain ⟨kd, hkd⟩ : ∃ kd, kd = t.kind := ⟨_, rfl⟩
    rw [← hkd] at q0
    by_cases hk : kd = 3
    case neg =>
      have i1 : ((kd : Int) != 3) = true := by simpa using (show ¬ (kd : Int) = 3 by omega)
      have HB := Lib.hid hb1
      clear hb1 h1 hat hto hk HT HE H hn' t1 t2 hokj hget hkd ht
      go_wp2
      go_ret
      exact ⟨rfl, HB.out⟩
    subst hk
    obtain ⟨x, hx⟩ := kind1 hokj (.inr hkd.symm)
    rw [hx] at t2
    obtain ⟨ad2, cap2, hv2, -, hc2a, -, hcell⟩ := id t2
    injection hv2 with hv2a hv2b hv2c
    subst hv2a; subst hv2b; subst hv2c
    obtain ⟨b2, off2, hao2, hcl⟩ := hcell (by simp)
    subst hao2
    have hx0 : w1.cell? ⟨b2, off2, none⟩ = some (.int .u8 x.toNat) := by simpa using hcl 0 (by simp)
    have hn2 : 1 ≤ c2 := by
      obtain ⟨ad3, cap3, hv3, hc3, -⟩ := id t2
      injection hv3 with _ _ e
      subst e
      simpa using hc3
    have hall : ∀ u ∈ ts.set j (lowTok x), u.text.length ≤ 3 := fun u hu => by
      rcases List.mem_or_eq_of_mem_set hu with hu | rfl
      · exact okTok.le3 ((tokens_some hto).1 u hu)
      · simp [lowTok]
    have hle := textOf_le3 hall
    rw [List.length_set] at hle
    have hdec2 := decode_tokens hto
    have hdm := law_lower hto j hget hkd.symm x hx
    have HS0 := Lib.hid (fun (w2 : World) (tv vv : Value) (hb : Below w1.heap.size w1 w2) (e1 : Bs w2 tv (digTok lowerS x).text) (e2 : Bs w2 vv (digTok lowerS x).value) => Set_any (h1.below hb) (by omega) j hjl (digTok lowerS x) e1 e2)
    have HD2 := Lib.hid (fun (w2 : World) (hb : Below w.heap.size w w2) => Decode_any (H.out.below hb) (HE.out.below hb).eof (HE.out.below hb).lt hdec2 (by omega))
    have hml : (textOf (ts.set j (lowTok x))).length ≤ 140737488355000 := by omega
    have hml2 : (textOf (ts.set j (lowTok x))).length ≤ 1099511627776 := by omega
    have HX := Lib.hid (fun (w2 : World) (v2 : Value) (h2 : Ts w2 v2 (ts.set j (digTok lowerS x))) => Text_any h2 (by rw [digTok_lower]; omega))
    rw [digTok_lower] at HX HS0
    have HDM := Lib.hid hdm
    obtain ⟨more, hmore⟩ : ∃ more, more = textOf (ts.set j (lowTok x)) := ⟨_, rfl⟩
    obtain ⟨val, hval⟩ : ∃ val, val = value ts := ⟨_, rfl⟩
    rw [← hmore] at HDM hml HX
    rw [← hval] at HDM HD2
    have HB1 := Lib.hid hb1
    have hk1 : (j : Int) < ts.length := by omega
    clear hb1 h1 hat hto HT H hn' t1 t2 hokj hget hkd ht hx hcell hcl hall hle hdec2 hmore hval hml2 hdm
    go_wp2_with fail
    refine (Escaped_any x lowerS rfl).mono ?_
    rintro e w2 ⟨tv, vv, rfl, t1, t2, hb2, -, -⟩
    have HB2 := Lib.hid (HB1.out.trans (hb2.mono HB1.out.size))
    rw [digTok_lower] at t1 t2 ⊢
    have HSS := Lib.hid (HS0.out w2 tv vv hb2 t1 t2)
    clear t1 t2 hb2 HS0
    go_wp2_with fail
    refine HSS.out.mono ?_
    rintro e w3 ⟨v3, rfl, h3, hb3⟩
    have HB3 := Lib.hid (HB2.out.trans (hb3.mono HB2.out.size))
    have HXX := Lib.hid (HX.out w3 v3 h3)
    clear h3 hb3 HSS HX
    go_wp2_with fail
    refine HXX.out.mono ?_
    rintro e w5 ⟨v5, rfl, ho5, hb5⟩
    have HB5 := Lib.hid (HB3.out.trans (hb5.mono HB3.out.size))
    have H5 := Lib.hid (Bs.of_own ho5)
    clear ho5 hb5 HXX
    have HD1 := Lib.hid (Decode_any H5.out (HE.out.below HB5.out).eof (HE.out.below HB5.out).lt HDM.out hml)
    go_wp2_with fail
    refine HD1.out.mono ?_
    rintro e w7 ⟨v7, rfl, h7, hb7⟩
    have HB7 := Lib.hid (HB5.out.trans (hb7.mono HB5.out.size))
    have H7 := Lib.hid h7
    obtain ⟨ao7, cap7, rfl⟩ := Bs.shape h7
    clear h7 hb7 HD1
    go_wp2_with fail
    refine (HD2.out w7 HB7.out).mono ?_
    rintro e w8 ⟨v8, rfl, h8, hb8⟩
    have HB8 := Lib.hid (HB7.out.trans (hb8.mono HB7.out.size))
    have hs := same_any (H7.out.below hb8) h8
    rw [beq_self_eq_true] at hs
    obtain ⟨ao8, cap8, rfl⟩ := Bs.shape h8
    have HS := Lib.hid hs
    clear hs h8 hb8 H7
    go_wp2_with (go_at_call 23; refine HS.out.mono ?_; rintro e w' ⟨rfl, rfl⟩)
    go_ret
    exact ⟨rfl, HB8.out⟩

set_option maxRecDepth 100000 in
/-- THE LAW's CONTRACT. -/
theorem contract (H : Type) (enc : TypeId × Value → H) (W : World) (base : Nat) (args : Array Value) (ds gs : List (DataW H)) (before : List MemPlace)
    (hval : ∀ (j : Nat) t v, Tryd.f15.params[j]? = some t → args[j]? = some v → Value.okWide Tryd.prog W .any base t v)
    (hW : DataW.Whole enc Tryd.prog Tryd.f15.params.toList Rows.fnLowerSpec.vars false W args.toList ds gs before) (hL : laidMetH Tryd.prog Rows.fnLowerRow.laid W) :
    Calls Tryd.prog 15 args W fun e W' => ∃ v, e = .returned v ∧ Rows.fnLowerSpec.post enc Tryd.prog Tryd.f15 false true false false W args v W' := by
  obtain ⟨ea, he⟩ := eof_of_laid hL
  have hW' := hW
  obtain ⟨p, q, hA0, hV, rfl, hfz, hnd⟩ := hW
  have hA : DataW.TrodAll enc Tryd.prog W 0 (fun _ => true) true Tryd.f15.params.toList args.toList ds p := hA0
  rw [Tryd.params15] at hA hval
  obtain ⟨v0, vs0, d0, ds0, p0, q0, hargs0, rfl, rfl, h0, r0⟩ := trodAll_cons hA
  obtain ⟨v1, vs1, d1, ds1, p1, q1, hargs1, rfl, rfl, h1, r1⟩ := trodAll_cons r0
  obtain ⟨rfl, rfl, rfl⟩ := trodAll_nil r1
  subst hargs1
  obtain rfl : args = #[v0, v1] := by cases args; simp_all
  obtain ⟨rfl, rfl⟩ := trodVars_none hV
  obtain ⟨a0, len0, cap0, rfl⟩ := okWide_slice Tryd.underlying24 (hval 0 24 v0 rfl rfl)
  have k0 := h0
  have lt0 : ∀ x ∈ p0, x.block < W.heap.size := by obtain ⟨m, hm⟩ := k0; exact DataW.trod_lt m _ _ _ hm
  obtain ⟨l0, hl0, hbk0⟩ := open_bs h0
  obtain ⟨n1, rfl, rfl, rfl, w1⟩ := open_int Tryd.underlying3 (hval 1 3 v1 rfl rfl) h1
  clear hA0
  refine (walk he hl0 n1 w1).mono fun e W' ⟨he, bel⟩ => ?_
  subst he
  exact ⟨_, rfl, _, _, _, [], _, [], hW', trodAll_mk1 (shut_bool Tryd.underlying4 _), (trodAll_cons_mk (Below.trod laidOut (by kernel_rfl) (of_decide_eq_true (by kernel_rfl)) k0 bel lt0) (trodAll_cons_mk (shut_int Tryd.underlying3 w1) trodAll_mk0)), rfl, bel.frame _, fun h => by cases h⟩

theorem reads (os : Os) {H : Type} (enc : TypeId × Value → H) : ∃ places, DataW.whole enc Tryd.prog ((laidWorld os).forCall (fun _ _ => 0) ⟨#[], #[.slice none 0 0, .int .i64 0], []⟩).memory Tryd.f15.params.toList Rows.fnLowerSpec.vars false (#[.slice none 0 0, .int .i64 0] : Array Value).toList 8 = some ([.nil, .lit (.int .i64 0)], [], places) :=
  ⟨[], by kernel_rfl⟩

set_option maxRecDepth 100000 in
theorem lifted (os : Os) (started : os.Started) (H : Type) (enc : TypeId × Value → H) (F : Stop.Interp) :
    ReturnsInHanded {} Tryd.checked os 15 .any ((OpenSpec.ofChange Rows.fnLowerSpec).preRow enc Tryd.prog Tryd.f15 Rows.fnLowerRow.domain false Rows.fnLowerRow.laid) (((OpenSpec.ofChange Rows.fnLowerSpec).at F).post enc Tryd.prog Tryd.f15 false true false false) := by
  obtain ⟨places, hx⟩ := reads os enc
  refine returnsInHanded_of_row (C := Tryd.checked) (s := (OpenSpec.ofChange Rows.fnLowerSpec)) own started (by kernel_rfl) Tryd.func15
    (witness_row_at (enc := enc) (C := Tryd.checked) false (laidWorld os) #[.slice none 0 0, .int .i64 0] rfl (by kernel_rfl) (by kernel_rfl) (by kernel_rfl)
      (OpenSpec.preRow_of_cond 8 hx (by kernel_rfl) (fun k hk => by cases hk) (by kernel_rfl) (laid_met os _))) ?_
  intro W base args ds gs before hval hW _ _ _ hL _ _
  exact contract H enc W base args ds gs before hval hW hL

set_option maxRecDepth 100000 in
theorem closed : joinedFacts Tryd.pinned.checked.prog 15 Tryd.f15 (OpenSpec.bare (OpenSpec.ofChange Rows.fnLowerSpec)) Rows.fnLowerRow = true := by
  unfold joinedFacts
  rw [mayEnter_fact, liftsFinal_fact, make_fact]
  kernel_rfl
set_option maxRecDepth 100000 in
theorem said : Rows.FnLowerSaid :=
  OpenClaim.holds_of_cond 15 Tryd.f15 rfl rfl rfl rfl rfl rfl rfl ⟨rfl, rfl, rfl, rfl, rfl⟩ rfl rfl rfl rfl rfl (by as_aux_lemma => kernel_rfl) Tryd.func15 closed
    (of_decide_eq_true (by as_aux_lemma => kernel_rfl)) (by unfold Func.isWrapper; first | (rw [if_pos (by decide +kernel)]; kernel_rfl) | (rw [if_neg (by decide +kernel)]; exact ⟨rfl, rfl⟩))
    (fun os started H enc _ F => by rw [OpenClaim.pre_eq_preRow]; exact lifted os started H enc F)

theorem plain (f : FuncId) (fn : Func) (hf : Tryd.pinned.checked.prog.funcNamed Rows.fnLowerRow.func = some f) (hfn : Tryd.pinned.checked.prog.funcs[f]? = some fn) :
    true = Tryd.pinned.checked.prog.looks [] ∧ ∀ (j : Nat) t, fn.params[j]? = some t → Tryd.pinned.checked.prog.wantsStandIn t = false := by
  obtain rfl : f = 15 := Option.some.inj ((show Tryd.prog.funcNamed Rows.fnLowerRow.func = some 15 by kernel_rfl).symm.trans hf) |>.symm
  obtain rfl : fn = Tryd.f15 := (Option.some.inj (Tryd.func15.symm.trans hfn)).symm
  refine ⟨by kernel_rfl, fun j t ht => ?_⟩
  rw [Tryd.params15] at ht
  have hm := Array.mem_of_getElem? ht
  have hall : ([24, 3].all fun u => !Tryd.prog.wantsStandIn u) = true := by kernel_rfl
  have hm' : t ∈ [24, 3] := by simpa using hm
  exact (show Tryd.prog.wantsStandIn t = false by simpa using List.all_eq_true.1 hall t hm')

/-- THE CARD. -/
theorem card : Rows.FnLowerCardSaid :=
  Claim7.holds_tied_plain_at .later [] _ _ _ _ said (fun _ h => by cases h) (by as_aux_lemma => kernel_rfl) (fun _ h => by cases h) fnLower_row_tie rfl ⟨rfl, rfl⟩ mainIs_fact rfl plain (by as_aux_lemma => kernel_rfl)
end Go.Proofs.YthfkgancjpdodaaDoor.fnLower

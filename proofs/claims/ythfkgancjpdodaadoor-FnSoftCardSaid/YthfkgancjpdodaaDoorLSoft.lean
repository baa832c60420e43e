/- THE LAW FnSoft: for all bytes, of whatever length, and every place that is not behind a blank: an encoded text with a soft line break there, if it is still one, decodes to the same. No condition. -/
import Derived.Test.YthfkgancjpdodaaDoorCm
import Derived.Test.YthfkgancjpdodaaDoorFacts
import Derived.Test.YthfkgancjpdodaaDoorSp4
namespace Go.Proofs.YthfkgancjpdodaaDoor.fnSoft
open Go.ChangeShapes Go.WideShapes Go.ChangeAt Go.RowKit Qp

theorem tok_ts {w : World} {t : Qp.Tok} {tv vv : Value} (h1 : Bs w tv t.text) (h2 : Bs w vv t.value) (kd : Int) (hkd : kd = t.kind) : Ts (w.alloc (.cells #[.int .i64 kd, tv, vv] 39)) (.slice (some ⟨w.heap.size, 0, none⟩) 1 1) [t] := by
  subst hkd
  have hx : (⟨t, tv, vv⟩ : TV).lies (w.alloc (.cells #[.int .i64 t.kind, tv, vv] 39)) := TV.lies.below (x := ⟨t, tv, vv⟩) ⟨h1, h2⟩ ((Below.refl _ _).alloc (Nat.le_refl _) _)
  refine ⟨[⟨t, tv, vv⟩], _, 1, rfl, fun y hy => ?_, rfl, Nat.le_refl _, ⟨by omega, (fun h => by cases h)⟩, fun k hk => ⟨w.heap.size, 0, rfl, ?_⟩⟩
  · rw [List.mem_singleton] at hy; subst hy; exact hx
  · have hk0 : k = 0 := by simpa using hk
    subst hk0
    simp only [Lib.cell_of_heap (heap_alloc_new _ _)]
    exact ⟨rfl, rfl, rfl⟩

set_option maxRecDepth 100000 in
set_option maxHeartbeats 3200000 in
theorem walk {w : World} {ea : Addr} {v : Value} {l : List UInt8} (he : EofW w ea) (h : Bs w v l) (n : Int) (hn : (Lit.int .i64 n).wf = true) :
    Calls Tryd.prog 19 #[v, .int .i64 n] w fun e w' => e = .returned (.bool true) ∧ Below w.heap.size w w' := by
  have hn' : -9223372036854775808 ≤ n ∧ n ≤ 9223372036854775807 := by simpa [Lit.wf, IntKind.min, IntKind.max, IntKind.signed, IntKind.bits] using hn
  clear hn
  by_cases hbig : 2147483647 < l.length
  · obtain ⟨ao, cap, rfl⟩ := Bs.shape h
    clear h he
    go_enter Tryd.func19, Tryd.ntmps19
    go_wp2
    go_ret
    exact ⟨rfl, Below.refl _ _⟩
  have HT := Lib.hid (Tokens_any h (by omega))
  have H := Lib.hid h
  have HE := Lib.hid he
  obtain ⟨ao, cap, rfl⟩ := Bs.shape h
  clear h he
  go_enter Tryd.func19, Tryd.ntmps19
  go_wp2_with fail
  refine HT.out.mono ?_
  rintro e w1 ⟨hb1, hm⟩
  cases hto : tokens l with
  | none =>
    rw [hto] at hm
    subst hm
    have HB := Lib.hid hb1
    clear hb1 hto
    go_wp2
    go_ret
    exact ⟨rfl, HB.out⟩
  | some ts =>
    rw [hto] at hm
    obtain ⟨v1, rfl, h1⟩ := hm
    have hlen := tokens_len hto
    by_cases hneg : n < 0
    · obtain ⟨ao1, cap1, rfl⟩ := Ts.shape h1
      have HB := Lib.hid hb1
      clear h1 hb1 hto HT HE H hn'
      go_wp2
      go_ret
      exact ⟨rfl, HB.out⟩
    obtain ⟨j, rfl⟩ := Int.eq_ofNat_of_zero_le (show 0 ≤ n by omega)
    by_cases hgt : ts.length < j
    · obtain ⟨ao1, cap1, rfl⟩ := Ts.shape h1
      have HB := Lib.hid hb1
      clear h1 hb1 hto HT HE H hn'
      go_wp2
      go_ret
      exact ⟨rfl, HB.out⟩
    obtain ⟨ao1, cap1, hv1, hlc1, hcm1, hat⟩ := id h1.at
    subst hv1
    rcases j with _ | q
    · have hclosed : closed (ts.take 0) := .inl rfl
      have hdec2 := decode_tokens hto
      have hsz := textOf_le3 (l := ts.take 0 ++ softTok :: ts.drop 0) (fun u hu => by
        rcases List.mem_append.1 hu with hu | hu
        · exact okTok.le3 ((tokens_some hto).1 u (List.mem_of_mem_take hu))
        · rcases List.mem_cons.1 hu with rfl | hu
          · simp [softTok]
          · exact okTok.le3 ((tokens_some hto).1 u (List.mem_of_mem_drop hu)))
      have hsl : (ts.take 0 ++ softTok :: ts.drop 0).length = ts.length + 1 := by simp <;> omega
      rw [hsl] at hsz
      have HDM := Lib.hid (fun hm => law_soft hto 0 hclosed hm)
      have HPUT := Lib.hid (fun (w2 : World) (vm : Value) (hb : Below w1.heap.size w1 w2) (e1 : Ts w2 vm [softTok]) => Put_any (h1.below hb) e1 (by simp; omega) 0 (by omega))
      have HD2 := Lib.hid (fun (w2 : World) (hb : Below w.heap.size w w2) => Decode_any (H.out.below hb) (HE.out.below hb).eof (HE.out.below hb).lt hdec2 (by omega))
      have hml : (textOf (ts.take 0 ++ softTok :: ts.drop 0)).length ≤ 140737488355000 := by omega
      have hml2 : (textOf (ts.take 0 ++ softTok :: ts.drop 0)).length ≤ 1099511627776 := by omega
      have HX := Lib.hid (fun (w2 : World) (v2 : Value) (h2 : Ts w2 v2 (ts.take 0 ++ [softTok] ++ ts.drop 0)) => Text_any h2 (by rw [List.append_assoc, List.singleton_append]; exact hml))
      have HTM := Lib.hid (fun (w2 : World) (v2 : Value) (_ : Below w.heap.size w w2) (h2 : Bs w2 v2 (textOf (ts.take 0 ++ softTok :: ts.drop 0))) => Tokens_any h2 hml2)
      rw [List.append_assoc, List.singleton_append] at HX
      obtain ⟨more, hmore⟩ : ∃ more, more = textOf (ts.take 0 ++ softTok :: ts.drop 0) := ⟨_, rfl⟩
      obtain ⟨val, hval⟩ : ∃ val, val = value ts := ⟨_, rfl⟩
      rw [← hmore] at HTM HDM hml HX
      rw [← hval] at HDM HD2
      have HB1 := Lib.hid hb1
      clear hb1 h1 hat hto HT H hn' hdec2 hmore hval hml2 hclosed hsz hsl
      go_wp2_with fail
      refine SoftBreak_any.mono ?_
      rintro e w2 ⟨tv, vv, rfl, t1, t2, hb2, -, -⟩
      have HB2 := Lib.hid (fun o => (HB1.out.trans (hb2.mono HB1.out.size)).alloc (HB1.out.trans (hb2.mono HB1.out.size)).size o)
      have HSS := Lib.hid (fun o (e : Ts (w2.alloc o) (.slice (some ⟨w2.heap.size, 0, none⟩) 1 1) [softTok]) => HPUT.out (w2.alloc o) _ (hb2.alloc hb2.size o) e)
      have hts := tok_ts t1 t2 4 rfl
      obtain ⟨a5, c5, rfl⟩ := Bs.shape t1
      obtain ⟨a6, c6, rfl⟩ := Bs.shape t2
      have HPP := Lib.hid (HSS.out _ hts)
      clear t1 t2 hb2 HPUT HSS hts
      go_wp2_with fail
      refine HPP.out.mono ?_
      rintro e w3 ⟨v3, rfl, h3, hb3⟩
      have HB3 := Lib.hid ((HB2.out _).trans (hb3.mono (HB2.out _).size))
      have HXX := Lib.hid (HX.out w3 v3 (by simpa using h3))
      clear h3 hb3 HPP HX
      go_wp2_with fail
      refine HXX.out.mono ?_
      rintro e w5 ⟨v5, rfl, ho5, hb5⟩
      have HB5 := Lib.hid (HB3.out.trans (hb5.mono HB3.out.size))
      have H5 := Lib.hid (Bs.of_own ho5)
      clear ho5 hb5 HXX HB2
      go_wp2_with fail
      refine (HTM.out w5 v5 HB5.out H5.out).mono ?_
      rintro e w6 ⟨hb6, hm6⟩
      have HB6 := Lib.hid (HB5.out.trans (hb6.mono HB5.out.size))
      have H56 := Lib.hid (H5.out.below hb6)
      cases htm : tokens more with
      | none =>
        rw [htm] at hm6
        subst hm6
        clear hb6 htm
        go_wp2
        go_ret
        exact ⟨rfl, HB6.out⟩
      | some tm =>
        rw [htm] at hm6
        obtain ⟨v6, rfl, h6⟩ := hm6
        obtain ⟨ao6, cap6, rfl⟩ := Ts.shape h6
        have hdec1 := HDM.out (by rw [htm]; simp)
        have HD1 := Lib.hid (Decode_any H56.out (HE.out.below HB6.out).eof (HE.out.below HB6.out).lt hdec1 hml)
        clear hb6 htm h6 hdec1
        go_wp2_with fail
        refine HD1.out.mono ?_
        rintro e w7 ⟨v7, rfl, h7, hb7⟩
        have HB7 := Lib.hid (HB6.out.trans (hb7.mono HB6.out.size))
        have H7 := Lib.hid h7
        obtain ⟨ao7, cap7, rfl⟩ := Bs.shape h7
        clear h7 hb7 HD1
        go_wp2_with fail
        refine (HD2.out w7 HB7.out).mono ?_
        rintro e w8 ⟨v8, rfl, h8, hb8⟩
        have HB8 := Lib.hid (HB7.out.trans (hb8.mono HB7.out.size))
        have hs := same_any (H7.out.below hb8) h8
        rw [beq_self_eq_true] at hs
        obtain ⟨ao8, cap8, rfl⟩ := Bs.shape h8
        have HS := Lib.hid hs
        clear hs h8 hb8 H7
        go_wp2_with (go_at_call 23; refine HS.out.mono ?_; rintro e w' ⟨rfl, rfl⟩)
        go_ret
        exact ⟨rfl, HB8.out⟩
    · obtain ⟨b, off, a1, n1, c1, a2, n2, c2, hao, q0, q1, q2, -, -⟩ := hat q (by omega)
      subst hao
      obtain ⟨kd, hkd⟩ : ∃ kd, kd = ts[q].kind := ⟨_, rfl⟩
      rw [← hkd] at q0
      have g0 : (0 : Int) < (q : Int) + 1 := by omega
      have g1 : ((q : Int) + 1) ≤ ts.length := by omega
      by_cases hk : kd = 2
      · subst hk
        have HB := Lib.hid hb1
        clear hb1 h1 hat hto HT HE H hn' hkd
        go_wp2
        go_ret
        exact ⟨rfl, HB.out⟩
      have i1 : ((kd : Int) == 2) = false := beq_eq_false_iff_ne.2 (by omega)
      have hclosed : closed (ts.take (q + 1)) := closed_kind fun r t e => by
        have hq : q < ts.length := by omega
        rw [List.take_succ_eq_append_getElem hq] at e
        have := (List.append_inj' e rfl).2
        injection this with this
        rw [← this, ← hkd]
        exact hk
      have hdec2 := decode_tokens hto
      have hsz := textOf_le3 (l := ts.take (q + 1) ++ softTok :: ts.drop (q + 1)) (fun u hu => by
        rcases List.mem_append.1 hu with hu | hu
        · exact okTok.le3 ((tokens_some hto).1 u (List.mem_of_mem_take hu))
        · rcases List.mem_cons.1 hu with rfl | hu
          · simp [softTok]
          · exact okTok.le3 ((tokens_some hto).1 u (List.mem_of_mem_drop hu)))
      have hsl : (ts.take (q + 1) ++ softTok :: ts.drop (q + 1)).length = ts.length + 1 := by simp <;> omega
      rw [hsl] at hsz
      have HDM := Lib.hid (fun hm => law_soft hto (q + 1) hclosed hm)
      have HPUT := Lib.hid (fun (w2 : World) (vm : Value) (hb : Below w1.heap.size w1 w2) (e1 : Ts w2 vm [softTok]) => Put_any (h1.below hb) e1 (by simp; omega) (q + 1) (by omega))
      have HD2 := Lib.hid (fun (w2 : World) (hb : Below w.heap.size w w2) => Decode_any (H.out.below hb) (HE.out.below hb).eof (HE.out.below hb).lt hdec2 (by omega))
      have hml : (textOf (ts.take (q + 1) ++ softTok :: ts.drop (q + 1))).length ≤ 140737488355000 := by omega
      have hml2 : (textOf (ts.take (q + 1) ++ softTok :: ts.drop (q + 1))).length ≤ 1099511627776 := by omega
      have HX := Lib.hid (fun (w2 : World) (v2 : Value) (h2 : Ts w2 v2 (ts.take (q + 1) ++ [softTok] ++ ts.drop (q + 1))) => Text_any h2 (by rw [List.append_assoc, List.singleton_append]; exact hml))
      have HTM := Lib.hid (fun (w2 : World) (v2 : Value) (_ : Below w.heap.size w w2) (h2 : Bs w2 v2 (textOf (ts.take (q + 1) ++ softTok :: ts.drop (q + 1)))) => Tokens_any h2 hml2)
      rw [List.append_assoc, List.singleton_append] at HX
      obtain ⟨more, hmore⟩ : ∃ more, more = textOf (ts.take (q + 1) ++ softTok :: ts.drop (q + 1)) := ⟨_, rfl⟩
      obtain ⟨val, hval⟩ : ∃ val, val = value ts := ⟨_, rfl⟩
      rw [← hmore] at HTM HDM hml HX
      rw [← hval] at HDM HD2
      have HB1 := Lib.hid hb1
      clear hb1 h1 hat hto HT H hn' hdec2 hmore hval hml2 hclosed hsz hsl hkd hk
      go_wp2_with fail
      refine SoftBreak_any.mono ?_
      rintro e w2 ⟨tv, vv, rfl, t1, t2, hb2, -, -⟩
      have HB2 := Lib.hid (fun o => (HB1.out.trans (hb2.mono HB1.out.size)).alloc (HB1.out.trans (hb2.mono HB1.out.size)).size o)
      have HSS := Lib.hid (fun o (e : Ts (w2.alloc o) (.slice (some ⟨w2.heap.size, 0, none⟩) 1 1) [softTok]) => HPUT.out (w2.alloc o) _ (hb2.alloc hb2.size o) e)
      have hts := tok_ts t1 t2 4 rfl
      obtain ⟨a5, c5, rfl⟩ := Bs.shape t1
      obtain ⟨a6, c6, rfl⟩ := Bs.shape t2
      have HPP := Lib.hid (HSS.out _ hts)
      clear t1 t2 hb2 HPUT HSS hts
      go_wp2_with fail
      refine HPP.out.mono ?_
      rintro e w3 ⟨v3, rfl, h3, hb3⟩
      have HB3 := Lib.hid ((HB2.out _).trans (hb3.mono (HB2.out _).size))
      have HXX := Lib.hid (HX.out w3 v3 (by simpa using h3))
      clear h3 hb3 HPP HX
      go_wp2_with fail
      refine HXX.out.mono ?_
      rintro e w5 ⟨v5, rfl, ho5, hb5⟩
      have HB5 := Lib.hid (HB3.out.trans (hb5.mono HB3.out.size))
      have H5 := Lib.hid (Bs.of_own ho5)
      clear ho5 hb5 HXX HB2
      go_wp2_with fail
      refine (HTM.out w5 v5 HB5.out H5.out).mono ?_
      rintro e w6 ⟨hb6, hm6⟩
      have HB6 := Lib.hid (HB5.out.trans (hb6.mono HB5.out.size))
      have H56 := Lib.hid (H5.out.below hb6)
      cases htm : tokens more with
      | none =>
        rw [htm] at hm6
        subst hm6
        clear hb6 htm
        go_wp2
        go_ret
        exact ⟨rfl, HB6.out⟩
      | some tm =>
        rw [htm] at hm6
        obtain ⟨v6, rfl, h6⟩ := hm6
        obtain ⟨ao6, cap6, rfl⟩ := Ts.shape h6
        have hdec1 := HDM.out (by rw [htm]; simp)
        have HD1 := Lib.hid (Decode_any H56.out (HE.out.below HB6.out).eof (HE.out.below HB6.out).lt hdec1 hml)
        clear hb6 htm h6 hdec1
        go_wp2_with fail
        refine HD1.out.mono ?_
        rintro e w7 ⟨v7, rfl, h7, hb7⟩
        have HB7 := Lib.hid (HB6.out.trans (hb7.mono HB6.out.size))
        have H7 := Lib.hid h7
        obtain ⟨ao7, cap7, rfl⟩ := Bs.shape h7
        clear h7 hb7 HD1
        go_wp2_with fail
        refine (HD2.out w7 HB7.out).mono ?_
        rintro e w8 ⟨v8, rfl, h8, hb8⟩
        have HB8 := Lib.hid (HB7.out.trans (hb8.mono HB7.out.size))
        have hs := same_any (H7.out.below hb8) h8
        rw [beq_self_eq_true] at hs
        obtain ⟨ao8, cap8, rfl⟩ := Bs.shape h8
        have HS := Lib.hid hs
        clear hs h8 hb8 H7
        go_wp2_with (go_at_call 23; refine HS.out.mono ?_; rintro e w' ⟨rfl, rfl⟩)
        go_ret
        exact ⟨rfl, HB8.out⟩

set_option maxRecDepth 100000 in
/-- THE LAW's CONTRACT. -/
theorem contract (H : Type) (enc : TypeId × Value → H) (W : World) (base : Nat) (args : Array Value) (ds gs : List (DataW H)) (before : List MemPlace)
    (hval : ∀ (j : Nat) t v, Tryd.f19.params[j]? = some t → args[j]? = some v → Value.okWide Tryd.prog W .any base t v)
    (hW : DataW.Whole enc Tryd.prog Tryd.f19.params.toList Rows.fnSoftSpec.vars false W args.toList ds gs before) (hL : laidMetH Tryd.prog Rows.fnSoftRow.laid W) :
    Calls Tryd.prog 19 args W fun e W' => ∃ v, e = .returned v ∧ Rows.fnSoftSpec.post enc Tryd.prog Tryd.f19 false true false false W args v W' := by
  obtain ⟨ea, he⟩ := eof_of_laid hL
  have hW' := hW
  obtain ⟨p, q, hA0, hV, rfl, hfz, hnd⟩ := hW
  have hA : DataW.TrodAll enc Tryd.prog W 0 (fun _ => true) true Tryd.f19.params.toList args.toList ds p := hA0
  rw [Tryd.params19] at hA hval
  obtain ⟨v0, vs0, d0, ds0, p0, q0, hargs0, rfl, rfl, h0, r0⟩ := trodAll_cons hA
  obtain ⟨v1, vs1, d1, ds1, p1, q1, hargs1, rfl, rfl, h1, r1⟩ := trodAll_cons r0
  obtain ⟨rfl, rfl, rfl⟩ := trodAll_nil r1
  subst hargs1
  obtain rfl : args = #[v0, v1] := by cases args; simp_all
  obtain ⟨rfl, rfl⟩ := trodVars_none hV
  obtain ⟨a0, len0, cap0, rfl⟩ := okWide_slice Tryd.underlying24 (hval 0 24 v0 rfl rfl)
  have k0 := h0
  have lt0 : ∀ x ∈ p0, x.block < W.heap.size := by obtain ⟨m, hm⟩ := k0; exact DataW.trod_lt m _ _ _ hm
  obtain ⟨l0, hl0, hbk0⟩ := open_bs h0
  obtain ⟨n1, rfl, rfl, rfl, w1⟩ := open_int Tryd.underlying3 (hval 1 3 v1 rfl rfl) h1
  clear hA0
  refine (walk he hl0 n1 w1).mono fun e W' ⟨he, bel⟩ => ?_
  subst he
  exact ⟨_, rfl, _, _, _, [], _, [], hW', trodAll_mk1 (shut_bool Tryd.underlying4 _), (trodAll_cons_mk (Below.trod laidOut (by kernel_rfl) (of_decide_eq_true (by kernel_rfl)) k0 bel lt0) (trodAll_cons_mk (shut_int Tryd.underlying3 w1) trodAll_mk0)), rfl, bel.frame _, fun h => by cases h⟩

theorem reads (os : Os) {H : Type} (enc : TypeId × Value → H) : ∃ places, DataW.whole enc Tryd.prog ((laidWorld os).forCall (fun _ _ => 0) ⟨#[], #[.slice none 0 0, .int .i64 0], []⟩).memory Tryd.f19.params.toList Rows.fnSoftSpec.vars false (#[.slice none 0 0, .int .i64 0] : Array Value).toList 8 = some ([.nil, .lit (.int .i64 0)], [], places) :=
  ⟨[], by kernel_rfl⟩

set_option maxRecDepth 100000 in
theorem lifted (os : Os) (started : os.Started) (H : Type) (enc : TypeId × Value → H) (F : Stop.Interp) :
    ReturnsInHanded {} Tryd.checked os 19 .any ((OpenSpec.ofChange Rows.fnSoftSpec).preRow enc Tryd.prog Tryd.f19 Rows.fnSoftRow.domain false Rows.fnSoftRow.laid) (((OpenSpec.ofChange Rows.fnSoftSpec).at F).post enc Tryd.prog Tryd.f19 false true false false) := by
  obtain ⟨places, hx⟩ := reads os enc
  refine returnsInHanded_of_row (C := Tryd.checked) (s := (OpenSpec.ofChange Rows.fnSoftSpec)) own started (by kernel_rfl) Tryd.func19
    (witness_row_at (enc := enc) (C := Tryd.checked) false (laidWorld os) #[.slice none 0 0, .int .i64 0] rfl (by kernel_rfl) (by kernel_rfl) (by kernel_rfl)
      (OpenSpec.preRow_of_cond 8 hx (by kernel_rfl) (fun k hk => by cases hk) (by kernel_rfl) (laid_met os _))) ?_
  intro W base args ds gs before hval hW _ _ _ hL _ _
  exact contract H enc W base args ds gs before hval hW hL

set_option maxRecDepth 100000 in
theorem closed : joinedFacts Tryd.pinned.checked.prog 19 Tryd.f19 (OpenSpec.bare (OpenSpec.ofChange Rows.fnSoftSpec)) Rows.fnSoftRow = true := by
  unfold joinedFacts
  rw [mayEnter_fact, liftsFinal_fact, make_fact]
  kernel_rfl
set_option maxRecDepth 100000 in
theorem said : Rows.FnSoftSaid :=
  OpenClaim.holds_of_cond 19 Tryd.f19 rfl rfl rfl rfl rfl rfl rfl ⟨rfl, rfl, rfl, rfl, rfl⟩ rfl rfl rfl rfl rfl (by as_aux_lemma => kernel_rfl) Tryd.func19 closed
    (of_decide_eq_true (by as_aux_lemma => kernel_rfl)) (by unfold Func.isWrapper; first | (rw [if_pos (by decide +kernel)]; kernel_rfl) | (rw [if_neg (by decide +kernel)]; exact ⟨rfl, rfl⟩))
    (fun os started H enc _ F => by rw [OpenClaim.pre_eq_preRow]; exact lifted os started H enc F)

theorem plain (f : FuncId) (fn : Func) (hf : Tryd.pinned.checked.prog.funcNamed Rows.fnSoftRow.func = some f) (hfn : Tryd.pinned.checked.prog.funcs[f]? = some fn) :
    true = Tryd.pinned.checked.prog.looks [] ∧ ∀ (j : Nat) t, fn.params[j]? = some t → Tryd.pinned.checked.prog.wantsStandIn t = false := by
  obtain rfl : f = 19 := Option.some.inj ((show Tryd.prog.funcNamed Rows.fnSoftRow.func = some 19 by kernel_rfl).symm.trans hf) |>.symm
  obtain rfl : fn = Tryd.f19 := (Option.some.inj (Tryd.func19.symm.trans hfn)).symm
  refine ⟨by kernel_rfl, fun j t ht => ?_⟩
  rw [Tryd.params19] at ht
  have hm := Array.mem_of_getElem? ht
  have hall : ([24, 3].all fun u => !Tryd.prog.wantsStandIn u) = true := by kernel_rfl
  have hm' : t ∈ [24, 3] := by simpa using hm
  exact (show Tryd.prog.wantsStandIn t = false by simpa using List.all_eq_true.1 hall t hm')

/-- THE CARD. -/
theorem card : Rows.FnSoftCardSaid :=
  Claim7.holds_tied_plain_at .later [] _ _ _ _ said (fun _ h => by cases h) (by as_aux_lemma => kernel_rfl) (fun _ h => by cases h) fnSoft_row_tie rfl ⟨rfl, rfl⟩ mainIs_fact rfl plain (by as_aux_lemma => kernel_rfl)
end Go.Proofs.YthfkgancjpdodaaDoor.fnSoft

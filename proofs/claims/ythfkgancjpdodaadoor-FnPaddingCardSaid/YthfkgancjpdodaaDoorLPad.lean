/- THE LAW FnPadding: for all bytes, of whatever length, and every place: blanks ahead of a line break or of the end, if the text is still an encoded one, change nothing of what it decodes to. No condition. -/
import Derived.Test.YthfkgancjpdodaaDoorCm
import Derived.Test.YthfkgancjpdodaaDoorFacts
import Derived.Test.YthfkgancjpdodaaDoorPd
namespace Go.Proofs.YthfkgancjpdodaaDoor.fnPadding
open Go.ChangeShapes Go.WideShapes Go.ChangeAt Go.RowKit Qp

set_option maxRecDepth 100000 in
set_option maxHeartbeats 3200000 in
theorem walk {w : World} {ea : Addr} {v vp : Value} {l pd : List UInt8} (he : EofW w ea) (h : Bs w v l) (n : Int) (hn : (Lit.int .i64 n).wf = true) (hp : Bs w vp pd) :
    Calls Tryd.prog 16 #[v, .int .i64 n, vp] w fun e w' => e = .returned (.bool true) ∧ Below w.heap.size w w' := by
  have hn' : -9223372036854775808 ≤ n ∧ n ≤ 9223372036854775807 := by simpa [Lit.wf, IntKind.min, IntKind.max, IntKind.signed, IntKind.bits] using hn
  clear hn
  have HP := Lib.hid hp
  obtain ⟨aop, capp, rfl⟩ := Bs.shape hp
  clear hp
  by_cases hbig : 2147483647 < l.length
  · obtain ⟨ao, cap, rfl⟩ := Bs.shape h
    clear h he
    go_enter Tryd.func16, Tryd.ntmps16
    go_wp2
    go_ret
    exact ⟨rfl, Below.refl _ _⟩
  by_cases hbigp : 2147483647 < pd.length
  · obtain ⟨ao, cap, rfl⟩ := Bs.shape h
    clear h he
    go_enter Tryd.func16, Tryd.ntmps16
    go_wp2
    go_ret
    exact ⟨rfl, Below.refl _ _⟩
  have HT := Lib.hid (Tokens_any h (by omega))
  have H := Lib.hid h
  have HE := Lib.hid he
  obtain ⟨ao, cap, rfl⟩ := Bs.shape h
  clear h he
  go_enter Tryd.func16, Tryd.ntmps16
  go_wp2_with fail
  refine HT.out.mono ?_
  rintro e w1 ⟨hb1, hm⟩
  cases hto : tokens l with
  | none =>
    rw [hto] at hm
    subst hm
    have HB := Lib.hid hb1
    clear hb1 hto
    go_wp2
    go_ret
    exact ⟨rfl, HB.out⟩
  | some ts =>
    rw [hto] at hm
    obtain ⟨v1, rfl, h1⟩ := hm
    have hlen := tokens_len hto
    by_cases hneg : n < 0
    · obtain ⟨ao1, cap1, rfl⟩ := Ts.shape h1
      have HB := Lib.hid hb1
      clear h1 hb1 hto HT HE H hn'
      go_wp2
      go_ret
      exact ⟨rfl, HB.out⟩
    obtain ⟨j, rfl⟩ := Int.eq_ofNat_of_zero_le (show 0 ≤ n by omega)
    by_cases hgt : ts.length < j
    · obtain ⟨ao1, cap1, rfl⟩ := Ts.shape h1
      have HB := Lib.hid hb1
      clear h1 hb1 hto HT HE H hn'
      go_wp2
      go_ret
      exact ⟨rfl, HB.out⟩
    obtain ⟨ao1, cap1, hv1, hlc1, hcm1, hat⟩ := id h1.at
    subst hv1
    have hq0 : j < ts.length → ∃ b off, ao1 = some ⟨b, off, none⟩ ∧ w1.cell? ⟨b, off + j * 3, none⟩ = some (.int .i64 (if h : j < ts.length then ts[j].kind else 0 : Nat)) := fun hj => by
      obtain ⟨b, off, a1, n1, c1, a2, n2, c2, hao, q0, -⟩ := hat j hj
      rw [dif_pos hj]
      exact ⟨b, off, hao, q0⟩
    by_cases hkd : ∃ hj : j < ts.length, ts[j].kind ≠ 5
    · obtain ⟨hj, hkd⟩ := hkd
      obtain ⟨b, off, rfl, q0⟩ := hq0 hj
      rw [dif_pos hj] at q0
      obtain ⟨kd, hkde⟩ : ∃ kd, kd = ts[j].kind := ⟨_, rfl⟩
      rw [← hkde] at q0 hkd
      have i1 : ((kd : Int) != 5) = true := by simpa using (show ¬ (kd : Int) = 5 by omega)
      have HB := Lib.hid hb1
      clear hb1 h1 hat hto hkd HT HE H hn' hkde hq0
      go_wp2
      go_ret
      exact ⟨rfl, HB.out⟩
    have hdrop : ts.drop j = [] ∨ ∃ u r, ts.drop j = u :: r ∧ u.kind = 5 := by
      by_cases hj : j < ts.length
      · refine .inr ⟨ts[j], ts.drop (j + 1), List.drop_eq_getElem_cons hj, ?_⟩
        by_cases h : ts[j].kind = 5
        · exact h
        · exact absurd ⟨hj, h⟩ hkd
      · exact .inl (List.drop_eq_nil_of_le (by omega))
    have hq5 : j < ts.length → ∃ b off, ao1 = some ⟨b, off, none⟩ ∧ w1.cell? ⟨b, off + j * 3, none⟩ = some (.int .i64 5) := fun hj => by
      obtain ⟨b, off, hao, q0⟩ := hq0 hj
      rw [dif_pos hj] at q0
      have : ts[j].kind = 5 := by
        by_cases h : ts[j].kind = 5
        · exact h
        · exact absurd ⟨hj, h⟩ hkd
      rw [this] at q0
      exact ⟨b, off, hao, q0⟩
    have hsrc := (tokens_some hto).2.1
    have hle : (textOf (ts.take j)).length + (textOf (ts.drop j)).length = l.length := by
      rw [← List.length_append, ← textOf_append, List.take_append_drop, hsrc]
    have hdec2 := decode_tokens hto
    have HC1 := Lib.hid (fun (w2 : World) (hb : Below w1.heap.size w1 w2) => Text_any (Ts.below (show Ts w1 (sliced ao1 0 j cap1 3) (ts.take j) by simpa using ts_sliced h1 0 j (Nat.zero_le _) (by omega)) hb) (by omega))
    have HCD := Lib.hid (fun (w2 : World) (v2 : Value) (hb : Below w1.heap.size w1 w2) (h2 : Ts w1 v2 (ts.drop j)) => Text_any (h2.below hb) (by omega))
    have HDM := Lib.hid (fun hws hm => law_padding hto j pd hws hdrop hm)
    have HD2 := Lib.hid (fun (w2 : World) (hb : Below w.heap.size w w2) => Decode_any (H.out.below hb) (HE.out.below hb).eof (HE.out.below hb).lt hdec2 (by omega))
    have hml : (textOf (ts.take j) ++ pd ++ textOf (ts.drop j)).length ≤ 140737488355000 := by simp; omega
    have hml2 : (textOf (ts.take j) ++ pd ++ textOf (ts.drop j)).length ≤ 1099511627776 := by simp; omega
    have HTM := Lib.hid (fun (w2 : World) (v2 : Value) (h2 : Bs w2 v2 (textOf (ts.take j) ++ pd ++ textOf (ts.drop j))) => Tokens_any h2 hml2)
    have HP1 := Lib.hid (HP.out.below hb1)
    have HR := Lib.hid (Below.refl w1.heap.size w1)
    have HB1 := Lib.hid hb1
    have hl12 : (textOf (ts.take j)).length + pd.length ≤ 140737488355328 := by omega
    have hl23 : (textOf (ts.take j) ++ pd).length + (textOf (ts.drop j)).length ≤ 140737488355328 := by simp; omega
    obtain ⟨x1, hx1⟩ : ∃ x1, x1 = textOf (ts.take j) := ⟨_, rfl⟩
    obtain ⟨x3, hx3⟩ : ∃ x3, x3 = textOf (ts.drop j) := ⟨_, rfl⟩
    obtain ⟨val, hval⟩ : ∃ val, val = value ts := ⟨_, rfl⟩
    rw [← hx1] at HC1 HDM hml HTM hl12 hl23
    rw [← hx3] at HCD HDM hml HTM hl23
    rw [← hval] at HDM HD2
    obtain ⟨more, hmore⟩ : ∃ more, more = x1 ++ pd ++ x3 := ⟨_, rfl⟩
    rw [← hmore] at HTM HDM hml
    have HMORE := Lib.hid hmore
    have hj1 : (j : Int) ≤ ts.length := by omega
    have hj2 : j ≤ ts.length := by omega
    have hj3 : j ≤ cap1 := by omega
    have HC1' := Lib.hid (fun (w2 : World) (hb : Below w1.heap.size w1 w2) => HC1.out w2 hb)
    have hsl := ts_sliced h1 j ts.length (by omega) (Nat.le_refl _)
    rw [List.take_of_length_le (by rw [List.length_drop]; omega)] at hsl
    have HC3 := Lib.hid (fun (w2 : World) (hb : Below w1.heap.size w1 w2) => HCD.out w2 _ hb hsl)
    by_cases hjl : j < ts.length
    · obtain ⟨b, off, rfl, q0⟩ := hq5 hjl
      have hji : (j : Int) < ts.length := by omega
      clear hb1 h1 hat hto hkd HT H hn' hq0 hq5 hdrop hsrc hle hdec2 hml2 hx1 hx3 hval hmore HCD HC1' hsl
      go_wp2
      refine wp_np ?_
      show Code.wp Tryd.prog pad_regionC _ _ _
      refine pad_region (n := ts.length) (j := j) (cap := cap1) (l1 := x1) (l3 := x3) (fun _ _ _ _ h => h) HP1.out rfl rfl rfl rfl hj1 (by omega) HC1.out HC3.out hl12 hl23 (fun y0 y1 y2 y3 y4 y5 y6 y7 y8 y9 y10 y11 we hF hB => ?_)
      rw [pad_put]
      have SF := Lib.hid (show Bs we y11 more by rw [HMORE.out]; exact hF)
      have SB := Lib.hid hB
      clear hF hB
      go_wp2_with fail
      refine (HTM.out _ _ SF.out).mono ?_
      rintro e w6 ⟨hb6, hm6⟩
      have HB5 := Lib.hid (HB1.out.trans (SB.out.mono HB1.out.size))
      have H5 := SF
      have HB6 := Lib.hid (HB5.out.trans (hb6.mono HB5.out.size))
      have H56 := Lib.hid (H5.out.below hb6)
      have HBL := Lib.hid (Blanks_any (HP.out.below HB6.out))
      cases htm : tokens more with
      | none =>
        rw [htm] at hm6
        subst hm6
        clear hb6 htm
        go_wp2
        go_ret
        exact ⟨rfl, HB6.out⟩
      | some tm =>
        rw [htm] at hm6
        obtain ⟨v6, rfl, h6⟩ := hm6
        obtain ⟨ao6, cap6, rfl⟩ := Ts.shape h6
        by_cases hws : pd.all isWs = true
        case neg =>
          have hws : pd.all isWs = false := by simpa using hws
          rw [hws] at HBL
          clear hb6 htm h6 hws
          go_wp2_with fail
          refine HBL.out.mono ?_
          rintro e w' ⟨rfl, rfl⟩
          go_wp2
          go_ret
          exact ⟨rfl, HB6.out⟩
        rw [hws] at HBL
        have hdec1 := HDM.out (by simpa using hws) (by rw [htm]; simp)
        have HD1 := Lib.hid (Decode_any H56.out (HE.out.below HB6.out).eof (HE.out.below HB6.out).lt hdec1 hml)
        clear hb6 htm h6 hdec1 hws
        go_wp2_with fail
        refine HBL.out.mono ?_
        rintro e w' ⟨rfl, rfl⟩
        go_wp2_with fail
        refine HD1.out.mono ?_
        rintro e w7 ⟨v7, rfl, h7, hb7⟩
        have HB7 := Lib.hid (HB6.out.trans (hb7.mono HB6.out.size))
        have H7 := Lib.hid h7
        obtain ⟨ao7, cap7, rfl⟩ := Bs.shape h7
        clear h7 hb7 HD1
        go_wp2_with fail
        refine (HD2.out w7 HB7.out).mono ?_
        rintro e w8 ⟨v8, rfl, h8, hb8⟩
        have HB8 := Lib.hid (HB7.out.trans (hb8.mono HB7.out.size))
        have hs := same_any (H7.out.below hb8) h8
        rw [beq_self_eq_true] at hs
        obtain ⟨ao8, cap8, rfl⟩ := Bs.shape h8
        have HS := Lib.hid hs
        clear hs h8 hb8 H7
        go_wp2_with (go_at_call 23; refine HS.out.mono ?_; rintro e w' ⟨rfl, rfl⟩)
        go_ret
        exact ⟨rfl, HB8.out⟩
    · have hji : ¬ (j : Int) < ts.length := by omega
      clear hb1 h1 hat hto hkd HT H hn' hq0 hq5 hdrop hsrc hle hdec2 hml2 hx1 hx3 hval hmore HCD HC1' hsl
      go_wp2
      refine wp_np ?_
      show Code.wp Tryd.prog pad_regionC _ _ _
      refine pad_region (n := ts.length) (j := j) (cap := cap1) (l1 := x1) (l3 := x3) (fun _ _ _ _ h => h) HP1.out rfl rfl rfl rfl hj1 (by omega) HC1.out HC3.out hl12 hl23 (fun y0 y1 y2 y3 y4 y5 y6 y7 y8 y9 y10 y11 we hF hB => ?_)
      rw [pad_put]
      have SF := Lib.hid (show Bs we y11 more by rw [HMORE.out]; exact hF)
      have SB := Lib.hid hB
      clear hF hB
      go_wp2_with fail
      refine (HTM.out _ _ SF.out).mono ?_
      rintro e w6 ⟨hb6, hm6⟩
      have HB5 := Lib.hid (HB1.out.trans (SB.out.mono HB1.out.size))
      have H5 := SF
      have HB6 := Lib.hid (HB5.out.trans (hb6.mono HB5.out.size))
      have H56 := Lib.hid (H5.out.below hb6)
      have HBL := Lib.hid (Blanks_any (HP.out.below HB6.out))
      cases htm : tokens more with
      | none =>
        rw [htm] at hm6
        subst hm6
        clear hb6 htm
        go_wp2
        go_ret
        exact ⟨rfl, HB6.out⟩
      | some tm =>
        rw [htm] at hm6
        obtain ⟨v6, rfl, h6⟩ := hm6
        obtain ⟨ao6, cap6, rfl⟩ := Ts.shape h6
        by_cases hws : pd.all isWs = true
        case neg =>
          have hws : pd.all isWs = false := by simpa using hws
          rw [hws] at HBL
          clear hb6 htm h6 hws
          go_wp2_with fail
          refine HBL.out.mono ?_
          rintro e w' ⟨rfl, rfl⟩
          go_wp2
          go_ret
          exact ⟨rfl, HB6.out⟩
        rw [hws] at HBL
        have hdec1 := HDM.out (by simpa using hws) (by rw [htm]; simp)
        have HD1 := Lib.hid (Decode_any H56.out (HE.out.below HB6.out).eof (HE.out.below HB6.out).lt hdec1 hml)
        clear hb6 htm h6 hdec1 hws
        go_wp2_with fail
        refine HBL.out.mono ?_
        rintro e w' ⟨rfl, rfl⟩
        go_wp2_with fail
        refine HD1.out.mono ?_
        rintro e w7 ⟨v7, rfl, h7, hb7⟩
        have HB7 := Lib.hid (HB6.out.trans (hb7.mono HB6.out.size))
        have H7 := Lib.hid h7
        obtain ⟨ao7, cap7, rfl⟩ := Bs.shape h7
        clear h7 hb7 HD1
        go_wp2_with fail
        refine (HD2.out w7 HB7.out).mono ?_
        rintro e w8 ⟨v8, rfl, h8, hb8⟩
        have HB8 := Lib.hid (HB7.out.trans (hb8.mono HB7.out.size))
        have hs := same_any (H7.out.below hb8) h8
        rw [beq_self_eq_true] at hs
        obtain ⟨ao8, cap8, rfl⟩ := Bs.shape h8
        have HS := Lib.hid hs
        clear hs h8 hb8 H7
        go_wp2_with (go_at_call 23; refine HS.out.mono ?_; rintro e w' ⟨rfl, rfl⟩)
        go_ret
        exact ⟨rfl, HB8.out⟩

set_option maxRecDepth 100000 in
/-- THE LAW's CONTRACT. -/
theorem contract (H : Type) (enc : TypeId × Value → H) (W : World) (base : Nat) (args : Array Value) (ds gs : List (DataW H)) (before : List MemPlace)
    (hval : ∀ (j : Nat) t v, Tryd.f16.params[j]? = some t → args[j]? = some v → Value.okWide Tryd.prog W .any base t v)
    (hW : DataW.Whole enc Tryd.prog Tryd.f16.params.toList Rows.fnPaddingSpec.vars false W args.toList ds gs before) (hL : laidMetH Tryd.prog Rows.fnPaddingRow.laid W) :
    Calls Tryd.prog 16 args W fun e W' => ∃ v, e = .returned v ∧ Rows.fnPaddingSpec.post enc Tryd.prog Tryd.f16 false true false false W args v W' := by
  obtain ⟨ea, he⟩ := eof_of_laid hL
  have hW' := hW
  obtain ⟨p, q, hA0, hV, rfl, hfz, hnd⟩ := hW
  have hA : DataW.TrodAll enc Tryd.prog W 0 (fun _ => true) true Tryd.f16.params.toList args.toList ds p := hA0
  rw [Tryd.params16] at hA hval
  obtain ⟨v0, vs0, d0, ds0, p0, q0, hargs0, rfl, rfl, h0, r0⟩ := trodAll_cons hA
  obtain ⟨v1, vs1, d1, ds1, p1, q1, hargs1, rfl, rfl, h1, r1⟩ := trodAll_cons r0
  obtain ⟨v2, vs2, d2, ds2, p2, q2, hargs2, rfl, rfl, h2, r2⟩ := trodAll_cons r1
  obtain ⟨rfl, rfl, rfl⟩ := trodAll_nil r2
  subst hargs2
  subst hargs1
  obtain rfl : args = #[v0, v1, v2] := by cases args; simp_all
  obtain ⟨rfl, rfl⟩ := trodVars_none hV
  obtain ⟨a0, len0, cap0, rfl⟩ := okWide_slice Tryd.underlying24 (hval 0 24 v0 rfl rfl)
  have k0 := h0
  have lt0 : ∀ x ∈ p0, x.block < W.heap.size := by obtain ⟨m, hm⟩ := k0; exact DataW.trod_lt m _ _ _ hm
  obtain ⟨l0, hl0, hbk0⟩ := open_bs h0
  obtain ⟨n1, rfl, rfl, rfl, w1⟩ := open_int Tryd.underlying3 (hval 1 3 v1 rfl rfl) h1
  obtain ⟨a2, len2, cap2, rfl⟩ := okWide_slice Tryd.underlying24 (hval 2 24 v2 rfl rfl)
  have k2 := h2
  have lt2 : ∀ x ∈ p2, x.block < W.heap.size := by obtain ⟨m, hm⟩ := k2; exact DataW.trod_lt m _ _ _ hm
  obtain ⟨l2, hl2, hbk2⟩ := open_bs h2
  clear hA0
  refine (walk he hl0 n1 w1 hl2).mono fun e W' ⟨he, bel⟩ => ?_
  subst he
  exact ⟨_, rfl, _, _, _, [], _, [], hW', trodAll_mk1 (shut_bool Tryd.underlying4 _), (trodAll_cons_mk (Below.trod laidOut (by kernel_rfl) (of_decide_eq_true (by kernel_rfl)) k0 bel lt0) (trodAll_cons_mk (shut_int Tryd.underlying3 w1) (trodAll_cons_mk (Below.trod laidOut (by kernel_rfl) (of_decide_eq_true (by kernel_rfl)) k2 bel lt2) trodAll_mk0))), rfl, bel.frame _, fun h => by cases h⟩

theorem reads (os : Os) {H : Type} (enc : TypeId × Value → H) : ∃ places, DataW.whole enc Tryd.prog ((laidWorld os).forCall (fun _ _ => 0) ⟨#[], #[.slice none 0 0, .int .i64 0, .slice none 0 0], []⟩).memory Tryd.f16.params.toList Rows.fnPaddingSpec.vars false (#[.slice none 0 0, .int .i64 0, .slice none 0 0] : Array Value).toList 8 = some ([.nil, .lit (.int .i64 0), .nil], [], places) :=
  ⟨[], by kernel_rfl⟩

set_option maxRecDepth 100000 in
theorem lifted (os : Os) (started : os.Started) (H : Type) (enc : TypeId × Value → H) (F : Stop.Interp) :
    ReturnsInHanded {} Tryd.checked os 16 .any ((OpenSpec.ofChange Rows.fnPaddingSpec).preRow enc Tryd.prog Tryd.f16 Rows.fnPaddingRow.domain false Rows.fnPaddingRow.laid) (((OpenSpec.ofChange Rows.fnPaddingSpec).at F).post enc Tryd.prog Tryd.f16 false true false false) := by
  obtain ⟨places, hx⟩ := reads os enc
  refine returnsInHanded_of_row (C := Tryd.checked) (s := (OpenSpec.ofChange Rows.fnPaddingSpec)) own started (by kernel_rfl) Tryd.func16
    (witness_row_at (enc := enc) (C := Tryd.checked) false (laidWorld os) #[.slice none 0 0, .int .i64 0, .slice none 0 0] rfl (by kernel_rfl) (by kernel_rfl) (by kernel_rfl)
      (OpenSpec.preRow_of_cond 8 hx (by kernel_rfl) (fun k hk => by cases hk) (by kernel_rfl) (laid_met os _))) ?_
  intro W base args ds gs before hval hW _ _ _ hL _ _
  exact contract H enc W base args ds gs before hval hW hL

set_option maxRecDepth 100000 in
theorem closed : joinedFacts Tryd.pinned.checked.prog 16 Tryd.f16 (OpenSpec.bare (OpenSpec.ofChange Rows.fnPaddingSpec)) Rows.fnPaddingRow = true := by
  unfold joinedFacts
  rw [mayEnter_fact, liftsFinal_fact, make_fact]
  kernel_rfl
set_option maxRecDepth 100000 in
theorem said : Rows.FnPaddingSaid :=
  OpenClaim.holds_of_cond 16 Tryd.f16 rfl rfl rfl rfl rfl rfl rfl ⟨rfl, rfl, rfl, rfl, rfl⟩ rfl rfl rfl rfl rfl (by as_aux_lemma => kernel_rfl) Tryd.func16 closed
    (of_decide_eq_true (by as_aux_lemma => kernel_rfl)) (by unfold Func.isWrapper; first | (rw [if_pos (by decide +kernel)]; kernel_rfl) | (rw [if_neg (by decide +kernel)]; exact ⟨rfl, rfl⟩))
    (fun os started H enc _ F => by rw [OpenClaim.pre_eq_preRow]; exact lifted os started H enc F)

theorem plain (f : FuncId) (fn : Func) (hf : Tryd.pinned.checked.prog.funcNamed Rows.fnPaddingRow.func = some f) (hfn : Tryd.pinned.checked.prog.funcs[f]? = some fn) :
    true = Tryd.pinned.checked.prog.looks [] ∧ ∀ (j : Nat) t, fn.params[j]? = some t → Tryd.pinned.checked.prog.wantsStandIn t = false := by
  obtain rfl : f = 16 := Option.some.inj ((show Tryd.prog.funcNamed Rows.fnPaddingRow.func = some 16 by kernel_rfl).symm.trans hf) |>.symm
  obtain rfl : fn = Tryd.f16 := (Option.some.inj (Tryd.func16.symm.trans hfn)).symm
  refine ⟨by kernel_rfl, fun j t ht => ?_⟩
  rw [Tryd.params16] at ht
  have hm := Array.mem_of_getElem? ht
  have hall : ([24, 3, 24].all fun u => !Tryd.prog.wantsStandIn u) = true := by kernel_rfl
  have hm' : t ∈ [24, 3, 24] := by simpa using hm
  exact (show Tryd.prog.wantsStandIn t = false by simpa using List.all_eq_true.1 hall t hm')

/-- THE CARD. -/
theorem card : Rows.FnPaddingCardSaid :=
  Claim7.holds_tied_plain_at .later [] _ _ _ _ said (fun _ h => by cases h) (by as_aux_lemma => kernel_rfl) (fun _ h => by cases h) fnPadding_row_tie rfl ⟨rfl, rfl⟩ mainIs_fact rfl plain (by as_aux_lemma => kernel_rfl)
end Go.Proofs.YthfkgancjpdodaaDoor.fnPadding

/- THE LAW FnPlain: for all bytes, of whatever length: an encoded text without an equals sign and without a blank at the end of a line decodes to itself. No condition. -/
import Derived.Test.YthfkgancjpdodaaDoorCm
import Derived.Test.YthfkgancjpdodaaDoorFacts
import Derived.Test.YthfkgancjpdodaaDoorBlank
import Derived.Test.YthfkgancjpdodaaDoorValu
namespace Go.Proofs.YthfkgancjpdodaaDoor.fnPlain
open Go.ChangeShapes Go.WideShapes Go.ChangeAt Go.RowKit Qp

set_option maxRecDepth 100000 in
set_option maxHeartbeats 3200000 in
theorem walk {w : World} {ea : Addr} {v : Value} {l : List UInt8} (he : EofW w ea) (h : Bs w v l) :
    Calls Tryd.prog 17 #[v] w fun e w' => e = .returned (.bool true) ∧ Below w.heap.size w w' := by
  by_cases hbig : 2147483647 < l.length
  · obtain ⟨ao, cap, rfl⟩ := Bs.shape h
    clear h he
    go_enter Tryd.func17, Tryd.ntmps17
    go_wp2
    go_ret
    exact ⟨rfl, Below.refl _ _⟩
  have HT := Lib.hid (Tokens_any h (by omega))
  have H := Lib.hid h
  have HE := Lib.hid he
  obtain ⟨ao, cap, rfl⟩ := Bs.shape h
  clear h he
  go_enter Tryd.func17, Tryd.ntmps17
  go_wp2_with fail
  refine HT.out.mono ?_
  rintro e w1 ⟨hb1, hm⟩
  cases hto : tokens l with
  | none =>
    rw [hto] at hm
    subst hm
    have HB := Lib.hid hb1
    clear hb1 hto
    go_wp2
    go_ret
    exact ⟨rfl, HB.out⟩
  | some ts =>
    rw [hto] at hm
    obtain ⟨v1, rfl, h1⟩ := hm
    have HB1 := Lib.hid (BlankEnds_any h1)
    obtain ⟨ao1, cap1, hv1, hlc1, hcm1, hat⟩ := h1.at
    subst hv1
    have HAT := Lib.hid hat
    have HB := Lib.hid hb1
    have HTO := Lib.hid hto
    have hlen := tokens_len hto
    clear h1 hb1 hto hat HT
    go_wp2_with fail
    refine HB1.out.mono ?_
    rintro e w2 ⟨rfl, hb2⟩
    have HB02 := Lib.hid (HB.out.trans (hb2.mono HB.out.size))
    have HB12 := Lib.hid hb2
    have HBS := Lib.hid hb2.size
    cases hbe : blankEnds ts with
    | true =>
      clear hb2 hbe HB1
      go_wp2
      go_ret
      exact ⟨rfl, HB02.out⟩
    | false =>
      have HBE := Lib.hid hbe
      have hb02 := HB02.out.size
      clear hb2 hbe HB1
      go_wp2
      go_loopw [25] (fun i wr => ∃ k : Nat, k ≤ ts.length ∧ i = .int .i64 k ∧ (∀ j (hj : j < ts.length), j < k → ts[j].kind ≠ 3 ∧ ts[j].kind ≠ 4) ∧ Below w2.heap.size w2 wr) (fun i _ => ts.length - (intOf i).toNat)
      case atStart => exact ⟨0, Nat.zero_le _, rfl, fun j _ hj => absurd hj (by omega), Below.refl _ _⟩
      case round =>
        obtain ⟨k, hk, rfl, hkd, hbel⟩ := hrel
        have HKD := Lib.hid hkd
        have HBL := Lib.hid hbel
        by_cases hlt : k < ts.length
        · obtain ⟨b, off, a1, n1, c1, a2, n2, c2, rfl, q0, q1, q2, -, -⟩ := HAT.out k hlt
          have q0 := below_cell hbel _ _ (below_cell HB12.out _ _ q0)
          have q1 := below_cell hbel _ _ (below_cell HB12.out _ _ q1)
          have q2 := below_cell hbel _ _ (below_cell HB12.out _ _ q2)
          have hbs := hbel.size
          have hbl : ∀ o, Below w2.heap.size w2 (wr.alloc o) := fun o => hbel.alloc hbs _
          have HBL2 := Lib.hid hbl
          have HW : Hid (∀ o, Below w.heap.size w (wr.alloc o)) := fun o => HB02.out.trans ((hbl o).mono HB02.out.size)
          obtain ⟨kd, hkdd⟩ : ∃ kd, kd = ts[k].kind := ⟨_, rfl⟩
          rw [← hkdd] at q0
          have HKK := Lib.hid hkdd
          clear hkdd hkd hbel hbl hb02
          by_cases h3 : kd = 3
          · subst h3
            go_wp2
            go_ret
            exact ⟨rfl, HW.out _⟩
          · have i3 : ¬ (kd : Int) = 3 := by omega
            have j3 : ((kd : Int) == 3) = false := beq_eq_false_iff_ne.2 i3
            by_cases h4 : kd = 4
            · subst h4
              go_wp2
              go_ret
              exact ⟨rfl, HW.out _⟩
            · have i4 : ¬ (kd : Int) = 4 := by omega
              have j4 : ((kd : Int) == 4) = false := beq_eq_false_iff_ne.2 i4
              have HN : Hid (∀ j (hj : j < ts.length), j < k + 1 → ts[j].kind ≠ 3 ∧ ts[j].kind ≠ 4) := fun j hj hjk => by
                by_cases e : j = k
                · subst e; rw [← HKK.out]; exact ⟨h3, h4⟩
                · exact HKD.out j hj (by omega)
              clear h3 h4
              go_wp2
              go_roundw
              case rel => exact ⟨k + 1, by omega, by go_num, HN.out, HBL2.out _⟩
              case measure => simp [intOf]; omega
        · have hke : k = ts.length := by omega
          subst hke
          have hall : ∀ t ∈ ts, t.kind ≠ 3 ∧ t.kind ≠ 4 := fun t ht => by
            obtain ⟨j, hj, rfl⟩ := List.getElem_of_mem ht
            exact hkd j hj hj
          have hbw : Below w.heap.size w wr := HB02.out.trans (hbel.mono HB02.out.size)
          have HD := Lib.hid (Decode_any (H.out.below hbw) (HE.out.below hbw).eof (HE.out.below hbw).lt (law_plain HTO.out HBE.out hall) (by omega))
          have HBW := Lib.hid hbw
          clear hall hbw hkd hbel hb02 HKD HBL
          go_wp2_with fail
          refine HD.out.mono ?_
          rintro e w4 ⟨v4, rfl, h4, hb4⟩
          have HB4 := Lib.hid (HBW.out.trans (hb4.mono HBW.out.size))
          have hs := same_any h4 (H.out.below HB4.out)
          rw [beq_self_eq_true] at hs
          obtain ⟨ao4, cap4, rfl⟩ := Bs.shape h4
          have HS4 := Lib.hid hs
          clear hs h4 hb4 HD
          go_wp2_with (go_at_call 23; refine HS4.out.mono ?_; rintro e w' ⟨rfl, rfl⟩)
          go_ret
          exact ⟨rfl, HB4.out⟩

set_option maxRecDepth 100000 in
/-- THE LAW's CONTRACT. -/
theorem contract (H : Type) (enc : TypeId × Value → H) (W : World) (base : Nat) (args : Array Value) (ds gs : List (DataW H)) (before : List MemPlace)
    (hval : ∀ (j : Nat) t v, Tryd.f17.params[j]? = some t → args[j]? = some v → Value.okWide Tryd.prog W .any base t v)
    (hW : DataW.Whole enc Tryd.prog Tryd.f17.params.toList Rows.fnPlainSpec.vars false W args.toList ds gs before) (hL : laidMetH Tryd.prog Rows.fnPlainRow.laid W) :
    Calls Tryd.prog 17 args W fun e W' => ∃ v, e = .returned v ∧ Rows.fnPlainSpec.post enc Tryd.prog Tryd.f17 false true false false W args v W' := by
  obtain ⟨ea, he⟩ := eof_of_laid hL
  have hW' := hW
  obtain ⟨p, q, hA0, hV, rfl, hfz, hnd⟩ := hW
  have hA : DataW.TrodAll enc Tryd.prog W 0 (fun _ => true) true Tryd.f17.params.toList args.toList ds p := hA0
  rw [Tryd.params17] at hA hval
  obtain ⟨v0, vs0, d0, ds0, p0, q0, hargs0, rfl, rfl, h0, r0⟩ := trodAll_cons hA
  obtain ⟨rfl, rfl, rfl⟩ := trodAll_nil r0
  obtain rfl : args = #[v0] := by cases args; simp_all
  obtain ⟨rfl, rfl⟩ := trodVars_none hV
  obtain ⟨a0, len0, cap0, rfl⟩ := okWide_slice Tryd.underlying24 (hval 0 24 v0 rfl rfl)
  have k0 := h0
  have lt0 : ∀ x ∈ p0, x.block < W.heap.size := by obtain ⟨m, hm⟩ := k0; exact DataW.trod_lt m _ _ _ hm
  obtain ⟨l0, hl0, hbk0⟩ := open_bs h0
  clear hA0
  refine (walk he hl0).mono fun e W' ⟨he, bel⟩ => ?_
  subst he
  exact ⟨_, rfl, _, _, _, [], _, [], hW', trodAll_mk1 (shut_bool Tryd.underlying4 _), (trodAll_cons_mk (Below.trod laidOut (by kernel_rfl) (of_decide_eq_true (by kernel_rfl)) k0 bel lt0) trodAll_mk0), rfl, bel.frame _, fun h => by cases h⟩

theorem reads (os : Os) {H : Type} (enc : TypeId × Value → H) : ∃ places, DataW.whole enc Tryd.prog ((laidWorld os).forCall (fun _ _ => 0) ⟨#[], #[.slice none 0 0], []⟩).memory Tryd.f17.params.toList Rows.fnPlainSpec.vars false (#[.slice none 0 0] : Array Value).toList 8 = some ([.nil], [], places) :=
  ⟨[], by kernel_rfl⟩

set_option maxRecDepth 100000 in
theorem lifted (os : Os) (started : os.Started) (H : Type) (enc : TypeId × Value → H) (F : Stop.Interp) :
    ReturnsInHanded {} Tryd.checked os 17 .any ((OpenSpec.ofChange Rows.fnPlainSpec).preRow enc Tryd.prog Tryd.f17 Rows.fnPlainRow.domain false Rows.fnPlainRow.laid) (((OpenSpec.ofChange Rows.fnPlainSpec).at F).post enc Tryd.prog Tryd.f17 false true false false) := by
  obtain ⟨places, hx⟩ := reads os enc
  refine returnsInHanded_of_row (C := Tryd.checked) (s := (OpenSpec.ofChange Rows.fnPlainSpec)) own started (by kernel_rfl) Tryd.func17
    (witness_row_at (enc := enc) (C := Tryd.checked) false (laidWorld os) #[.slice none 0 0] rfl (by kernel_rfl) (by kernel_rfl) (by kernel_rfl)
      (OpenSpec.preRow_of_cond 8 hx (by kernel_rfl) (fun k hk => by cases hk) (by kernel_rfl) (laid_met os _))) ?_
  intro W base args ds gs before hval hW _ _ _ hL _ _
  exact contract H enc W base args ds gs before hval hW hL

set_option maxRecDepth 100000 in
theorem closed : joinedFacts Tryd.pinned.checked.prog 17 Tryd.f17 (OpenSpec.bare (OpenSpec.ofChange Rows.fnPlainSpec)) Rows.fnPlainRow = true := by
  unfold joinedFacts
  rw [mayEnter_fact, liftsFinal_fact, make_fact]
  kernel_rfl
set_option maxRecDepth 100000 in
theorem said : Rows.FnPlainSaid :=
  OpenClaim.holds_of_cond 17 Tryd.f17 rfl rfl rfl rfl rfl rfl rfl ⟨rfl, rfl, rfl, rfl, rfl⟩ rfl rfl rfl rfl rfl (by as_aux_lemma => kernel_rfl) Tryd.func17 closed
    (of_decide_eq_true (by as_aux_lemma => kernel_rfl)) (by unfold Func.isWrapper; first | (rw [if_pos (by decide +kernel)]; kernel_rfl) | (rw [if_neg (by decide +kernel)]; exact ⟨rfl, rfl⟩))
    (fun os started H enc _ F => by rw [OpenClaim.pre_eq_preRow]; exact lifted os started H enc F)

theorem plain (f : FuncId) (fn : Func) (hf : Tryd.pinned.checked.prog.funcNamed Rows.fnPlainRow.func = some f) (hfn : Tryd.pinned.checked.prog.funcs[f]? = some fn) :
    true = Tryd.pinned.checked.prog.looks [] ∧ ∀ (j : Nat) t, fn.params[j]? = some t → Tryd.pinned.checked.prog.wantsStandIn t = false := by
  obtain rfl : f = 17 := Option.some.inj ((show Tryd.prog.funcNamed Rows.fnPlainRow.func = some 17 by kernel_rfl).symm.trans hf) |>.symm
  obtain rfl : fn = Tryd.f17 := (Option.some.inj (Tryd.func17.symm.trans hfn)).symm
  refine ⟨by kernel_rfl, fun j t ht => ?_⟩
  rw [Tryd.params17] at ht
  have hm := Array.mem_of_getElem? ht
  have hall : ([24].all fun u => !Tryd.prog.wantsStandIn u) = true := by kernel_rfl
  have hm' : t ∈ [24] := by simpa using hm
  exact (show Tryd.prog.wantsStandIn t = false by simpa using List.all_eq_true.1 hall t hm')

/-- THE CARD. -/
theorem card : Rows.FnPlainCardSaid :=
  Claim7.holds_tied_plain_at .later [] _ _ _ _ said (fun _ h => by cases h) (by as_aux_lemma => kernel_rfl) (fun _ h => by cases h) fnPlain_row_tie rfl ⟨rfl, rfl⟩ mainIs_fact rfl plain (by as_aux_lemma => kernel_rfl)
end Go.Proofs.YthfkgancjpdodaaDoor.fnPlain

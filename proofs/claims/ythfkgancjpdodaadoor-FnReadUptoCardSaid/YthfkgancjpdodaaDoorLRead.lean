/- THE LAW FnRead: for all data of bulk at most 1048576, in whatever parts, and both modes: what Encode writes is an encoded text that decodes to what it stands for. -/
import Derived.Test.YthfkgancjpdodaaDoorCm
import Derived.Test.YthfkgancjpdodaaDoorFacts
import Derived.Test.YthfkgancjpdodaaDoorExq
namespace Go.Proofs.YthfkgancjpdodaaDoor.fnRead
open Go.ChangeShapes Go.WideShapes Go.ChangeAt Go.RowKit Qp

set_option maxRecDepth 100000 in
set_option maxHeartbeats 3200000 in
theorem walk {w : World} {ea : Addr} {v : Value} {ls : List (List UInt8)} (heo : EofW w ea) (bin : Bool) (h : Ps w v ls) (hlim : ls.flatten.length + ls.length ≤ 1048576) :
    Calls Tryd.prog 7 #[.bool bin, v] w fun e w' => e = .returned (.bool true) ∧ Below w.heap.size w w' := by
  have hz := Lib.hid (zzFits_any h (by omega) (fun l hl => by
    have : l.length ≤ ls.flatten.length := by
      obtain ⟨s, t, rfl⟩ := List.append_of_mem hl
      simp
      omega
    omega))
  have hj0 := fun (w2 : World) (hb : Below w.heap.size w w2) => Join_any (h.below hb) (by omega)
  have he0 := fun (w2 : World) (hb : Below w.heap.size w w2) => Encode_any bin (h.below hb) (by omega)
  have hl2 : ls.flatten.length ≤ 1048576 := by omega
  obtain ⟨fl, hfl⟩ : ∃ fl, fl = ls.flatten := ⟨_, rfl⟩
  rw [← hfl] at hj0 he0 hl2
  have hj := Lib.hid hj0
  have he := Lib.hid he0
  have HEO := Lib.hid heo
  have hel := encode_len bin fl
  obtain ⟨ao, cap, rfl, hlc, hcm, -⟩ := h.at
  clear h hlim hj0 he0 hfl heo
  go_enter Tryd.func7, Tryd.ntmps7
  go_wp2_with fail
  refine hz.out.mono ?_
  rintro e w' ⟨rfl, rfl⟩
  go_wp2_with fail
  refine (he.out _ (Below.refl _ _)).mono ?_
  rintro e w1 ⟨v1, rfl, h1, hb1⟩
  have HB1 := Lib.hid hb1
  have H1 := Lib.hid h1
  have HT := Lib.hid (Tokens_enc bin h1 hl2)
  have hok := wtoks_ok bin fl
  have hlm := wtoks_lim bin hl2
  have hdec : Qp.decode (encode bin fl) = (value (wtoks bin fl), 1) := decode_tokens (encode_tokens bin fl)
  have HDC := Lib.hid hdec
  have HOK := Lib.hid hok
  have HLM := Lib.hid hlm
  obtain ⟨ao1, cap1, rfl⟩ := Bs.shape h1
  have HEL := Lib.hid hel
  generalize hg : (encode bin fl).length = el at *
  have HG := Lib.hid hg
  clear h1 hb1 hdec hok hlm hg hel
  go_wp2_with fail
  refine HT.out.mono ?_
  rintro e w2 ⟨v2, rfl, h2, hb2⟩
  have HB2 := Lib.hid (HB1.out.trans (hb2.mono HB1.out.size))
  have HD := Lib.hid (Decode_any (H1.out.below hb2) (HEO.out.below HB2.out).eof (HEO.out.below HB2.out).lt HDC.out (by have := HEL.out; have := HG.out; omega))
  have HV := Lib.hid (fun (w3 : World) (hb : Below w2.heap.size w2 w3) => Value_any (h2.below hb) HOK.out HLM.out)
  obtain ⟨ao2, cap2, rfl⟩ := Ts.shape h2
  generalize (wtoks bin fl).length = tl at *
  clear h2 hb2 HT H1
  go_wp2_with fail
  refine HD.out.mono ?_
  rintro e w3 ⟨v3, rfl, h3, hb3⟩
  have HB3 := Lib.hid (HB2.out.trans (hb3.mono HB2.out.size))
  have HV3 := Lib.hid (HV.out _ hb3)
  have H3 := Lib.hid h3
  obtain ⟨ao3, cap3, rfl⟩ := Bs.shape h3
  generalize hvl : (value (wtoks bin fl)).length = vl at *
  clear h3 hb3 HV HD
  go_wp2_with fail
  refine HV3.out.mono ?_
  rintro e w4 ⟨v4, rfl, h4, hb4⟩
  have HB4 := Lib.hid (HB3.out.trans (hb4.mono HB3.out.size))
  have hs := same_any (H3.out.below hb4) h4
  rw [beq_self_eq_true] at hs
  obtain ⟨ao4, cap4, rfl⟩ := Bs.shape h4
  rw [hvl] at hs ⊢
  have HS := Lib.hid hs
  clear hs h4 hb4 hvl
  go_wp2_with (go_at_call 23; refine HS.out.mono ?_; rintro e w' ⟨rfl, rfl⟩)
  go_ret
  exact ⟨rfl, HB4.out⟩

set_option maxRecDepth 100000 in
/-- THE LAW's CONTRACT. -/
theorem contract (H : Type) (enc : TypeId × Value → H) (W : World) (base : Nat) (args : Array Value) (ds gs : List (DataW H)) (before : List MemPlace)
    (hval : ∀ (j : Nat) t v, Tryd.f7.params[j]? = some t → args[j]? = some v → Value.okWide Tryd.prog W .any base t v)
    (hW : DataW.Whole enc Tryd.prog Tryd.f7.params.toList Rows.fnReadSpec.vars false W args.toList ds gs before) (hL : laidMetH Tryd.prog Rows.fnReadUptoRow.laid W) (hk : Rows.uptoSmall H (ds ++ gs) = true) :
    Calls Tryd.prog 7 args W fun e W' => ∃ v, e = .returned v ∧ Rows.fnReadSpec.post enc Tryd.prog Tryd.f7 false true false false W args v W' := by
  obtain ⟨ea, he⟩ := eof_of_laid hL
  have hW' := hW
  obtain ⟨p, q, hA0, hV, rfl, hfz, hnd⟩ := hW
  have hA : DataW.TrodAll enc Tryd.prog W 0 (fun _ => true) true Tryd.f7.params.toList args.toList ds p := hA0
  rw [Tryd.params7] at hA hval
  obtain ⟨v0, vs0, d0, ds0, p0, q0, hargs0, rfl, rfl, h0, r0⟩ := trodAll_cons hA
  obtain ⟨v1, vs1, d1, ds1, p1, q1, hargs1, rfl, rfl, h1, r1⟩ := trodAll_cons r0
  obtain ⟨rfl, rfl, rfl⟩ := trodAll_nil r1
  subst hargs1
  obtain rfl : args = #[v0, v1] := by cases args; simp_all
  obtain ⟨rfl, rfl⟩ := trodVars_none hV
  obtain ⟨b0, rfl, rfl, rfl⟩ := open_bool Tryd.underlying4 (hval 0 4 v0 rfl rfl) h0
  obtain ⟨a1, len1, cap1, rfl⟩ := okWide_slice Tryd.underlying22 (hval 1 22 v1 rfl rfl)
  have k1 := h1
  have lt1 : ∀ x ∈ p1, x.block < W.heap.size := by obtain ⟨m, hm⟩ := k1; exact DataW.trod_lt m _ _ _ hm
  obtain ⟨l1, hl1, hbk1⟩ := open_ps h1
  have hbound := bulk_bound hk
  simp only [List.append_nil, Rows.uptoBulkAll] at hbound
  clear hA0
  refine (walk he b0 hl1 (by omega)).mono fun e W' ⟨he, bel⟩ => ?_
  subst he
  exact ⟨_, rfl, _, _, _, [], _, [], hW', trodAll_mk1 (shut_bool Tryd.underlying4 _), (trodAll_cons_mk (shut_bool Tryd.underlying4 _) (trodAll_cons_mk (Below.trod laidOut (by kernel_rfl) (of_decide_eq_true (by kernel_rfl)) k1 bel lt1) trodAll_mk0)), rfl, bel.frame _, fun h => by cases h⟩

theorem reads (os : Os) {H : Type} (enc : TypeId × Value → H) : ∃ places, DataW.whole enc Tryd.prog ((laidWorld os).forCall (fun _ _ => 0) ⟨#[], #[.bool false, .slice none 0 0], []⟩).memory Tryd.f7.params.toList Rows.fnReadSpec.vars false (#[.bool false, .slice none 0 0] : Array Value).toList 8 = some ([.lit (.bool false), .nil], [], places) :=
  ⟨[], by kernel_rfl⟩

set_option maxRecDepth 100000 in
theorem lifted (os : Os) (started : os.Started) (H : Type) (enc : TypeId × Value → H) (F : Stop.Interp) :
    ReturnsInHanded {} Tryd.checked os 7 .any ((Rows.OpenSpec.upto Rows.fnReadSpec).preRow enc Tryd.prog Tryd.f7 Rows.fnReadUptoRow.domain false Rows.fnReadUptoRow.laid) (((Rows.OpenSpec.upto Rows.fnReadSpec).at F).post enc Tryd.prog Tryd.f7 false true false false) := by
  obtain ⟨places, hx⟩ := reads os enc
  refine returnsInHanded_of_row (C := Tryd.checked) (s := (Rows.OpenSpec.upto Rows.fnReadSpec)) own started (by kernel_rfl) Tryd.func7
    (witness_row_at (enc := enc) (C := Tryd.checked) false (laidWorld os) #[.bool false, .slice none 0 0] rfl (by kernel_rfl) (by kernel_rfl) (by kernel_rfl)
      (OpenSpec.preRow_of_cond 8 hx (by kernel_rfl) (fun k hk => by cases hk; kernel_rfl) (by kernel_rfl) (laid_met os _))) ?_
  intro W base args ds gs before hval hW _ hcond _ hL _ _
  exact contract H enc W base args ds gs before hval hW hL (hcond _ rfl)

set_option maxRecDepth 100000 in
theorem closed : joinedFacts Tryd.pinned.checked.prog 7 Tryd.f7 (OpenSpec.bare (Rows.OpenSpec.upto Rows.fnReadSpec)) Rows.fnReadUptoRow = true := by
  unfold joinedFacts
  rw [mayEnter_fact, liftsFinal_fact, make_fact]
  kernel_rfl
set_option maxRecDepth 100000 in
theorem said : Rows.FnReadUptoSaid :=
  OpenClaim.holds_of_cond 7 Tryd.f7 rfl rfl rfl rfl rfl rfl rfl ⟨rfl, rfl, rfl, rfl, rfl⟩ rfl rfl rfl rfl rfl (by as_aux_lemma => kernel_rfl) Tryd.func7 closed
    (of_decide_eq_true (by as_aux_lemma => kernel_rfl)) (by unfold Func.isWrapper; first | (rw [if_pos (by decide +kernel)]; kernel_rfl) | (rw [if_neg (by decide +kernel)]; exact ⟨rfl, rfl⟩))
    (fun os started H enc _ F => by rw [OpenClaim.pre_eq_preRow]; exact lifted os started H enc F)

theorem plain (f : FuncId) (fn : Func) (hf : Tryd.pinned.checked.prog.funcNamed Rows.fnReadUptoRow.func = some f) (hfn : Tryd.pinned.checked.prog.funcs[f]? = some fn) :
    true = Tryd.pinned.checked.prog.looks [] ∧ ∀ (j : Nat) t, fn.params[j]? = some t → Tryd.pinned.checked.prog.wantsStandIn t = false := by
  obtain rfl : f = 7 := Option.some.inj ((show Tryd.prog.funcNamed Rows.fnReadUptoRow.func = some 7 by kernel_rfl).symm.trans hf) |>.symm
  obtain rfl : fn = Tryd.f7 := (Option.some.inj (Tryd.func7.symm.trans hfn)).symm
  refine ⟨by kernel_rfl, fun j t ht => ?_⟩
  rw [Tryd.params7] at ht
  have hm := Array.mem_of_getElem? ht
  have hall : ([4, 22].all fun u => !Tryd.prog.wantsStandIn u) = true := by kernel_rfl
  have hm' : t ∈ [4, 22] := by simpa using hm
  exact (show Tryd.prog.wantsStandIn t = false by simpa using List.all_eq_true.1 hall t hm')

/-- THE CARD. -/
theorem card : Rows.FnReadUptoCardSaid :=
  Claim7.holds_tied_plain_at .later [] _ _ _ _ said (fun _ h => by cases h) (by as_aux_lemma => kernel_rfl) (fun _ h => by cases h) fnReadUpto_row_tie rfl ⟨rfl, rfl⟩ mainIs_fact rfl plain (by as_aux_lemma => kernel_rfl)
end Go.Proofs.YthfkgancjpdodaaDoor.fnRead

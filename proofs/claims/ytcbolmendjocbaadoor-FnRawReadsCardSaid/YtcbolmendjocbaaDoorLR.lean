/- THE LAW FnRawReads: for all bytes and all sizes: what Reads gives of whatever text is what Decode gives of it, read by read, and its last state tells how Decode ended. No condition. -/
import Derived.Test.YtcbolmendjocbaaDoorCm3
import Derived.Test.YtcbolmendjocbaaDoorFacts
import Derived.Test.YtcbolmendjocbaaDoorEv
import Derived.Test.YtcbolmendjocbaaDoorLraw
namespace Go.Proofs.YtcbolmendjocbaaDoor.fnRawReads
open Go.ChangeShapes Go.WideShapes Go.ChangeAt Go.RowKit Qp

set_option maxRecDepth 100000 in
/-- THE LAW's CONTRACT. -/
theorem contract (H : Type) (enc : TypeId × Value → H) (W : World) (base : Nat) (args : Array Value) (ds gs : List (DataW H)) (before : List MemPlace)
    (hval : ∀ (j : Nat) t v, Tryd.f4.params[j]? = some t → args[j]? = some v → Value.okWide Tryd.prog W .any base t v)
    (hW : DataW.Whole enc Tryd.prog Tryd.f4.params.toList Rows.fnRawReadsSpec.vars false W args.toList ds gs before) (hL : laidMetH Tryd.prog Rows.fnRawReadsRow.laid W) :
    Calls Tryd.prog 4 args W fun e W' => ∃ v, e = .returned v ∧ Rows.fnRawReadsSpec.post enc Tryd.prog Tryd.f4 false true false false W args v W' := by
  obtain ⟨ea, fa, ua, he, hen⟩ := env_of_laid hL
  have hW' := hW
  obtain ⟨p, q, hA0, hV, rfl, hfz, hnd⟩ := hW
  have hA : DataW.TrodAll enc Tryd.prog W 0 (fun _ => true) true Tryd.f4.params.toList args.toList ds p := hA0
  rw [Tryd.params4] at hA hval
  obtain ⟨v0, vs0, d0, ds0, p0, q0, hargs0, rfl, rfl, h0, r0⟩ := trodAll_cons hA
  obtain ⟨v1, vs1, d1, ds1, p1, q1, hargs1, rfl, rfl, h1, r1⟩ := trodAll_cons r0
  obtain ⟨rfl, rfl, rfl⟩ := trodAll_nil r1
  subst hargs1
  obtain rfl : args = #[v0, v1] := by cases args; simp_all
  obtain ⟨rfl, rfl⟩ := trodVars_none hV
  obtain ⟨a0, len0, cap0, rfl⟩ := okWide_slice Tryd.underlying22 (hval 0 22 v0 rfl rfl)
  obtain ⟨a1, len1, cap1, rfl⟩ := okWide_slice Tryd.underlying23 (hval 1 23 v1 rfl rfl)
  have k0 := h0
  have lt0 : ∀ x ∈ p0, x.block < W.heap.size := by obtain ⟨m, hm⟩ := k0; exact DataW.trod_lt m _ _ _ hm
  have k1 := h1
  have lt1 : ∀ x ∈ p1, x.block < W.heap.size := by obtain ⟨m, hm⟩ := k1; exact DataW.trod_lt m _ _ _ hm
  obtain ⟨l0, hl0, -⟩ := open_bs h0
  obtain ⟨l1, hl1⟩ := open_is h1
  clear hA0
  refine (walk hen he.eof he.lt hl0 hl1).mono fun e W' ⟨he, bel⟩ => ?_
  subst he
  exact ⟨_, rfl, _, _, _, [], _, [], hW', trodAll_mk1 (shut_bool Tryd.underlying4 _), (trodAll_cons_mk (Below.trod laidOut (by kernel_rfl) (of_decide_eq_true (by kernel_rfl)) k0 bel lt0) (trodAll_cons_mk (Below.trod laidOut (by kernel_rfl) (of_decide_eq_true (by kernel_rfl)) k1 bel lt1) trodAll_mk0)), rfl, bel.frame _, fun h => by cases h⟩

theorem reads (os : Os) {H : Type} (enc : TypeId × Value → H) : ∃ places, DataW.whole enc Tryd.prog ((laidWorld os).forCall (fun _ _ => 0) ⟨#[], #[.slice none 0 0, .slice none 0 0], []⟩).memory Tryd.f4.params.toList Rows.fnRawReadsSpec.vars false (#[.slice none 0 0, .slice none 0 0] : Array Value).toList 8 = some ([.nil, .nil], [], places) :=
  ⟨[], by kernel_rfl⟩

set_option maxRecDepth 100000 in
theorem lifted (os : Os) (started : os.Started) (H : Type) (enc : TypeId × Value → H) (F : Stop.Interp) :
    ReturnsInHanded {} Tryd.checked os 4 .any ((OpenSpec.ofChange Rows.fnRawReadsSpec).preRow enc Tryd.prog Tryd.f4 Rows.fnRawReadsRow.domain false Rows.fnRawReadsRow.laid) (((OpenSpec.ofChange Rows.fnRawReadsSpec).at F).post enc Tryd.prog Tryd.f4 false true false false) := by
  obtain ⟨places, hx⟩ := reads os enc
  refine returnsInHanded_of_row (C := Tryd.checked) (s := (OpenSpec.ofChange Rows.fnRawReadsSpec)) own started (by kernel_rfl) Tryd.func4
    (witness_row_at (enc := enc) (C := Tryd.checked) false (laidWorld os) #[.slice none 0 0, .slice none 0 0] rfl (by kernel_rfl) (by kernel_rfl) (by kernel_rfl)
      (OpenSpec.preRow_of_cond 8 hx (by kernel_rfl) (fun k hk => by cases hk) (by kernel_rfl) (laid_met os _))) ?_
  intro W base args ds gs before hval hW _ _ _ hL _ _
  exact contract H enc W base args ds gs before hval hW hL

set_option maxRecDepth 100000 in
theorem closed : joinedFacts Tryd.pinned.checked.prog 4 Tryd.f4 (OpenSpec.bare (OpenSpec.ofChange Rows.fnRawReadsSpec)) Rows.fnRawReadsRow = true := by
  unfold joinedFacts
  rw [mayEnter_fact, liftsFinal_fact, make_fact]
  kernel_rfl
set_option maxRecDepth 100000 in
theorem said : Rows.FnRawReadsSaid :=
  OpenClaim.holds_of_cond 4 Tryd.f4 rfl rfl rfl rfl rfl rfl rfl ⟨rfl, rfl, rfl, rfl, rfl⟩ rfl rfl rfl rfl rfl (by as_aux_lemma => kernel_rfl) Tryd.func4 closed
    (of_decide_eq_true (by as_aux_lemma => kernel_rfl)) (by unfold Func.isWrapper; first | (rw [if_pos (by decide +kernel)]; kernel_rfl) | (rw [if_neg (by decide +kernel)]; exact ⟨rfl, rfl⟩))
    (fun os started H enc _ F => by rw [OpenClaim.pre_eq_preRow]; exact lifted os started H enc F)

theorem plain (f : FuncId) (fn : Func) (hf : Tryd.pinned.checked.prog.funcNamed Rows.fnRawReadsRow.func = some f) (hfn : Tryd.pinned.checked.prog.funcs[f]? = some fn) :
    true = Tryd.pinned.checked.prog.looks [] ∧ ∀ (j : Nat) t, fn.params[j]? = some t → Tryd.pinned.checked.prog.wantsStandIn t = false := by
  obtain rfl : f = 4 := Option.some.inj ((show Tryd.prog.funcNamed Rows.fnRawReadsRow.func = some 4 by kernel_rfl).symm.trans hf) |>.symm
  obtain rfl : fn = Tryd.f4 := (Option.some.inj (Tryd.func4.symm.trans hfn)).symm
  refine ⟨by kernel_rfl, fun j t ht => ?_⟩
  rw [Tryd.params4] at ht
  have hm := Array.mem_of_getElem? ht
  have hall : ([22, 23].all fun u => !Tryd.prog.wantsStandIn u) = true := by kernel_rfl
  have hm' : t ∈ [22, 23] := by simpa using hm
  exact (show Tryd.prog.wantsStandIn t = false by simpa using List.all_eq_true.1 hall t hm')

/-- THE CARD. -/
theorem card : Rows.FnRawReadsCardSaid :=
  Claim7.holds_tied_plain_at .later [] _ _ _ _ said (fun _ h => by cases h) (by as_aux_lemma => kernel_rfl) (fun _ h => by cases h) fnRawReads_row_tie rfl ⟨rfl, rfl⟩ mainIs_fact rfl plain (by as_aux_lemma => kernel_rfl)
end Go.Proofs.YtcbolmendjocbaaDoor.fnRawReads

/- THE LAW FnExactEscape: for every byte: its escape decodes to it. No condition. -/
import Derived.Test.YthfkgancjpdodaaDoorCm
import Derived.Test.YthfkgancjpdodaaDoorFacts
import Derived.Test.YthfkgancjpdodaaDoorSp4
namespace Go.Proofs.YthfkgancjpdodaaDoor.fnExactEscape
open Go.ChangeShapes Go.WideShapes Go.ChangeAt Go.RowKit Qp

set_option maxRecDepth 100000 in
set_option maxHeartbeats 3200000 in
theorem walkb {w : World} {ea : Addr} (he : EofW w ea) (b : UInt8) :
    Calls Tryd.prog 11 #[.int .u8 b.toNat] w fun e w' => e = .returned (.bool true) ∧ Below w.heap.size w w' := by
  have HE := Lib.hid he
  clear he
  go_enter Tryd.func11, Tryd.ntmps11
  go_wp2_with fail
  refine (Escaped_any b upperS rfl).mono ?_
  rintro e w1 ⟨tv, vv, rfl, t1, t2, hb, -, -⟩
  rw [digTok_upper] at t1 t2
  have hbA := fun o => hb.alloc hb.size o
  have hA : ∀ o, Below w1.heap.size w1 (w1.alloc o) := fun o => (Below.refl _ _).alloc (Nat.le_refl _) o
  have HD := Lib.hid (fun o => Decode_any (t1.below (hA o)) (HE.out.below (hbA o)).eof (HE.out.below (hbA o)).lt (law_esc1 b) (by simp [escTok, escB]))
  have HB := Lib.hid hbA
  have HT2 := Lib.hid (fun o => t2.below (hA o))
  obtain ⟨a1, c1, rfl⟩ := Bs.shape t1
  obtain ⟨a2, c2, rfl⟩ := Bs.shape t2
  clear t1 t2 hb hbA hA
  go_wp2_with fail
  refine (HD.out _).mono ?_
  rintro e w2 ⟨v2, rfl, h2, hb2⟩
  have hc := below_cell hb2 ⟨w1.heap.size, 2, none⟩ _ (by rw [Lib.cell_of_heap (heap_alloc_new _ _)]; rfl)
  have HB2 := Lib.hid ((HB.out _).trans (hb2.mono (HB.out _).size))
  have hs := same_any h2 ((HT2.out _).below hb2)
  rw [show ([b] == (escTok b).value) = true from beq_self_eq_true _] at hs
  obtain ⟨ao2, cap2, rfl⟩ := Bs.shape h2
  have HS := Lib.hid hs
  clear hs h2 hb2 HB HT2 HD
  go_wp2_with (go_at_call 23; refine HS.out.mono ?_; rintro e w' ⟨rfl, rfl⟩)
  go_ret
  exact ⟨rfl, HB2.out⟩
theorem walk {w : World} {ea : Addr} (he : EofW w ea) (n : Int) (hn : (Lit.int .u8 n).wf = true) :
    Calls Tryd.prog 11 #[.int .u8 n] w fun e w' => e = .returned (.bool true) ∧ Below w.heap.size w w' := by
  have hn' : 0 ≤ n ∧ n ≤ 255 := by simpa [Lit.wf, IntKind.min, IntKind.max, IntKind.signed, IntKind.bits] using hn
  have := walkb he (UInt8.ofNat n.toNat)
  rw [show ((UInt8.ofNat n.toNat).toNat : Int) = n by simp; omega] at this
  exact this

set_option maxRecDepth 100000 in
/-- THE LAW's CONTRACT. -/
theorem contract (H : Type) (enc : TypeId × Value → H) (W : World) (base : Nat) (args : Array Value) (ds gs : List (DataW H)) (before : List MemPlace)
    (hval : ∀ (j : Nat) t v, Tryd.f11.params[j]? = some t → args[j]? = some v → Value.okWide Tryd.prog W .any base t v)
    (hW : DataW.Whole enc Tryd.prog Tryd.f11.params.toList Rows.fnExactEscapeSpec.vars false W args.toList ds gs before) (hL : laidMetH Tryd.prog Rows.fnExactEscapeRow.laid W) :
    Calls Tryd.prog 11 args W fun e W' => ∃ v, e = .returned v ∧ Rows.fnExactEscapeSpec.post enc Tryd.prog Tryd.f11 false true false false W args v W' := by
  obtain ⟨ea, he⟩ := eof_of_laid hL
  have hW' := hW
  obtain ⟨p, q, hA0, hV, rfl, hfz, hnd⟩ := hW
  have hA : DataW.TrodAll enc Tryd.prog W 0 (fun _ => true) true Tryd.f11.params.toList args.toList ds p := hA0
  rw [Tryd.params11] at hA hval
  obtain ⟨v0, vs0, d0, ds0, p0, q0, hargs0, rfl, rfl, h0, r0⟩ := trodAll_cons hA
  obtain ⟨rfl, rfl, rfl⟩ := trodAll_nil r0
  obtain rfl : args = #[v0] := by cases args; simp_all
  obtain ⟨rfl, rfl⟩ := trodVars_none hV
  obtain ⟨n0, rfl, rfl, rfl, w0⟩ := open_int Tryd.underlying5 (hval 0 5 v0 rfl rfl) h0
  clear hA0
  refine (walk he n0 w0).mono fun e W' ⟨he, bel⟩ => ?_
  subst he
  exact ⟨_, rfl, _, _, _, [], _, [], hW', trodAll_mk1 (shut_bool Tryd.underlying4 _), (trodAll_cons_mk (shut_int Tryd.underlying5 w0) trodAll_mk0), rfl, bel.frame _, fun h => by cases h⟩

theorem reads (os : Os) {H : Type} (enc : TypeId × Value → H) : ∃ places, DataW.whole enc Tryd.prog ((laidWorld os).forCall (fun _ _ => 0) ⟨#[], #[.int .u8 0], []⟩).memory Tryd.f11.params.toList Rows.fnExactEscapeSpec.vars false (#[.int .u8 0] : Array Value).toList 8 = some ([.lit (.int .u8 0)], [], places) :=
  ⟨[], by kernel_rfl⟩

set_option maxRecDepth 100000 in
theorem lifted (os : Os) (started : os.Started) (H : Type) (enc : TypeId × Value → H) (F : Stop.Interp) :
    ReturnsInHanded {} Tryd.checked os 11 .any ((OpenSpec.ofChange Rows.fnExactEscapeSpec).preRow enc Tryd.prog Tryd.f11 Rows.fnExactEscapeRow.domain false Rows.fnExactEscapeRow.laid) (((OpenSpec.ofChange Rows.fnExactEscapeSpec).at F).post enc Tryd.prog Tryd.f11 false true false false) := by
  obtain ⟨places, hx⟩ := reads os enc
  refine returnsInHanded_of_row (C := Tryd.checked) (s := (OpenSpec.ofChange Rows.fnExactEscapeSpec)) own started (by kernel_rfl) Tryd.func11
    (witness_row_at (enc := enc) (C := Tryd.checked) false (laidWorld os) #[.int .u8 0] rfl (by kernel_rfl) (by kernel_rfl) (by kernel_rfl)
      (OpenSpec.preRow_of_cond 8 hx (by kernel_rfl) (fun k hk => by cases hk) (by kernel_rfl) (laid_met os _))) ?_
  intro W base args ds gs before hval hW _ _ _ hL _ _
  exact contract H enc W base args ds gs before hval hW hL

set_option maxRecDepth 100000 in
theorem closed : joinedFacts Tryd.pinned.checked.prog 11 Tryd.f11 (OpenSpec.bare (OpenSpec.ofChange Rows.fnExactEscapeSpec)) Rows.fnExactEscapeRow = true := by
  unfold joinedFacts
  rw [mayEnter_fact, liftsFinal_fact, make_fact]
  kernel_rfl
set_option maxRecDepth 100000 in
theorem said : Rows.FnExactEscapeSaid :=
  OpenClaim.holds_of_cond 11 Tryd.f11 rfl rfl rfl rfl rfl rfl rfl ⟨rfl, rfl, rfl, rfl, rfl⟩ rfl rfl rfl rfl rfl (by as_aux_lemma => kernel_rfl) Tryd.func11 closed
    (of_decide_eq_true (by as_aux_lemma => kernel_rfl)) (by unfold Func.isWrapper; first | (rw [if_pos (by decide +kernel)]; kernel_rfl) | (rw [if_neg (by decide +kernel)]; exact ⟨rfl, rfl⟩))
    (fun os started H enc _ F => by rw [OpenClaim.pre_eq_preRow]; exact lifted os started H enc F)

theorem plain (f : FuncId) (fn : Func) (hf : Tryd.pinned.checked.prog.funcNamed Rows.fnExactEscapeRow.func = some f) (hfn : Tryd.pinned.checked.prog.funcs[f]? = some fn) :
    true = Tryd.pinned.checked.prog.looks [] ∧ ∀ (j : Nat) t, fn.params[j]? = some t → Tryd.pinned.checked.prog.wantsStandIn t = false := by
  obtain rfl : f = 11 := Option.some.inj ((show Tryd.prog.funcNamed Rows.fnExactEscapeRow.func = some 11 by kernel_rfl).symm.trans hf) |>.symm
  obtain rfl : fn = Tryd.f11 := (Option.some.inj (Tryd.func11.symm.trans hfn)).symm
  refine ⟨by kernel_rfl, fun j t ht => ?_⟩
  rw [Tryd.params11] at ht
  have hm := Array.mem_of_getElem? ht
  have hall : ([5].all fun u => !Tryd.prog.wantsStandIn u) = true := by kernel_rfl
  have hm' : t ∈ [5] := by simpa using hm
  exact (show Tryd.prog.wantsStandIn t = false by simpa using List.all_eq_true.1 hall t hm')

/-- THE CARD. -/
theorem card : Rows.FnExactEscapeCardSaid :=
  Claim7.holds_tied_plain_at .later [] _ _ _ _ said (fun _ h => by cases h) (by as_aux_lemma => kernel_rfl) (fun _ h => by cases h) fnExactEscape_row_tie rfl ⟨rfl, rfl⟩ mainIs_fact rfl plain (by as_aux_lemma => kernel_rfl)
end Go.Proofs.YthfkgancjpdodaaDoor.fnExactEscape

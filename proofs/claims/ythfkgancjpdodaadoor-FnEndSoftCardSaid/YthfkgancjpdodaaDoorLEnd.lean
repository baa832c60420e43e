/- THE LAW FnEndSoft: for all bytes, of whatever length: behind an encoded text whose last token is a printable byte or an escape, an equals sign at the end changes nothing of what Decode gives. No condition. -/
import Derived.Test.YthfkgancjpdodaaDoorCm
import Derived.Test.YthfkgancjpdodaaDoorFacts
import Derived.Test.YthfkgancjpdodaaDoorValu
namespace Go.Proofs.YthfkgancjpdodaaDoor.fnEndSoft
open Go.ChangeShapes Go.WideShapes Go.ChangeAt Go.RowKit Qp

theorem step1 {w w1 w3 : World} {v' : Value} {l : List UInt8} (hb : Below w.heap.size w w1) (ho : w3.ownsRow w1.heap.size 5 1 v' ([] ++ l).length (Lib.byteCells ([] ++ l))) (hk : Keep (fun k => w1.heap.size ≤ k) (w1.alloc (.cells #[] 5)) w3) :
    Below w.heap.size w w3 ∧ (w3.alloc (.cells #[.int .u8 61] 5)).ownsRow w1.heap.size 5 1 v' l.length (Lib.byteCells l) ∧ Bs (w3.alloc (.cells #[.int .u8 61] 5)) (.slice (some ⟨w3.heap.size, 0, none⟩) 1 1) [61] ∧ w1.heap.size ≤ (w3.alloc (.cells #[.int .u8 61] 5)).heap.size := by
  rw [List.nil_append] at ho
  have hs := hk.size
  rw [World.size_alloc] at hs
  refine ⟨below_keep (hb.alloc hb.size _) hk hb.size, own_below ho ((Below.refl _ _).alloc (Nat.le_refl _) _), lit_bs w3 [61] (0, 0) 1 rfl (by omega) #[.int .u8 61] rfl, ?_⟩
  rw [World.size_alloc]
  omega
theorem step2 {w w1 w3 w4 : World} {v' : Value} {l : List UInt8} (hb : Below w.heap.size w w1) (hb3 : Below w.heap.size w w3) (ho : w4.ownsRow w1.heap.size 5 1 v' (l ++ [61]).length (Lib.byteCells (l ++ [61]))) (hk : Keep (fun k => w1.heap.size ≤ k) (w3.alloc (.cells #[.int .u8 61] 5)) w4) :
    Below w.heap.size w w4 ∧ Bs w4 v' (l ++ [61]) :=
  ⟨below_keep (hb3.alloc hb3.size _) hk hb.size, Bs.of_own ho⟩

set_option maxRecDepth 100000 in
set_option maxHeartbeats 3200000 in
theorem walk {w : World} {ea : Addr} {v : Value} {l : List UInt8} (he : EofW w ea) (h : Bs w v l) :
    Calls Tryd.prog 8 #[v] w fun e w' => e = .returned (.bool true) ∧ Below w.heap.size w w' := by
  by_cases hbig : 2147483647 < l.length
  · obtain ⟨ao, cap, rfl⟩ := Bs.shape h
    clear h he
    go_enter Tryd.func8, Tryd.ntmps8
    go_wp2
    go_ret
    exact ⟨rfl, Below.refl _ _⟩
  have HT := Lib.hid (Tokens_any h (by omega))
  have H := Lib.hid h
  have HE := Lib.hid he
  obtain ⟨ao, cap, rfl⟩ := Bs.shape h
  clear h he
  go_enter Tryd.func8, Tryd.ntmps8
  go_wp2_with fail
  refine HT.out.mono ?_
  rintro e w1 ⟨hb1, hm⟩
  cases hto : tokens l with
  | none =>
    rw [hto] at hm
    subst hm
    have HB := Lib.hid hb1
    clear hb1 hto
    go_wp2
    go_ret
    exact ⟨rfl, HB.out⟩
  | some ts =>
    rw [hto] at hm
    obtain ⟨v1, rfl, h1⟩ := hm
    rcases List.eq_nil_or_concat ts with e | ⟨r, t, e⟩
    · subst e
      obtain ⟨ao1, cap1, rfl⟩ := Ts.shape h1
      have HB := Lib.hid hb1
      clear h1 hb1 hto HT HE H
      go_wp2
      go_ret
      exact ⟨rfl, HB.out⟩
    · rw [List.concat_eq_append] at e
      subst e
      obtain ⟨ao1, cap1, hv1, hlc1, hcm1, hat⟩ := h1.at
      subst hv1
      obtain ⟨b, off, a1, n1, c1, a2, n2, c2, hao, q0, q1, q2, -, -⟩ := hat r.length (by simp)
      subst hao
      have hlen := tokens_len hto
      have hkt : (r ++ [t])[r.length].kind = t.kind := by simp
      rw [hkt] at q0
      obtain ⟨kd, hkd⟩ : ∃ kd, kd = t.kind := ⟨_, rfl⟩
      rw [← hkd] at q0
      have HKD := Lib.hid hkd
      have hlq : (r ++ [t]).length = r.length + 1 := by simp
      rw [hlq] at hlc1 hlen ⊢
      obtain ⟨q, hq⟩ : ∃ q, q = r.length := ⟨_, rfl⟩
      rw [← hq] at q0 q1 q2 hlc1 hlen ⊢
      have HTO := Lib.hid hto
      have HB := Lib.hid hb1
      clear hkt hkd hlq hq hto hat h1 HT
      by_cases hk : kd = 1 ∨ kd = 3
      case neg =>
        rw [not_or] at hk
        have i1 : ¬ (kd : Int) = 1 := by omega
        have i3 : ¬ (kd : Int) = 3 := by omega
        have j1 : ((kd : Int) != 1) = true := by simpa using i1
        have j3 : ((kd : Int) != 3) = true := by simpa using i3
        clear hk hb1 HE H
        go_wp2
        go_ret
        exact ⟨rfl, HB.out⟩
      have hdec : Qp.decode l = (value (r ++ [t]), 1) := decode_tokens HTO.out
      have hdec2 : Qp.decode (l ++ [61]) = (value (r ++ [t]), 1) := by
        rw [decode_endsoft HTO.out ⟨r, t, rfl, by rw [← HKD.out]; exact hk⟩]; exact hdec
      have HD1 := Lib.hid (fun (w2 : World) (v2 : Value) (hb : Below w.heap.size w w2) (h2 : Bs w2 v2 (l ++ [61])) => Decode_any h2 (HE.out.below hb).eof (HE.out.below hb).lt hdec2 (by simp <;> omega))
      have HD2 := Lib.hid (fun (w2 : World) (hb : Below w.heap.size w w2) => Decode_any (H.out.below hb) (HE.out.below hb).eof (HE.out.below hb).lt hdec (by omega))
      obtain ⟨val, hval⟩ : ∃ val, val = value (r ++ [t]) := ⟨_, rfl⟩
      rw [← hval] at HD1 HD2
      have HF : Hid (∀ (w4 : World) (v4 : Value), Below w.heap.size w w4 → Bs w4 v4 (l ++ [61]) → Calls Tryd.prog 21 #[v4] w4 fun e w5 => ∃ v5, e = .returned (.tuple #[v5, .bool true]) ∧ Bs w5 v5 val ∧ Below w.heap.size w w5) := fun w4 v4 hb h4 => (HD1.out w4 v4 hb h4).mono (fun e w5 ⟨v5, e1, e2, e3⟩ => ⟨v5, e1, e2, hb.trans (e3.mono hb.size)⟩)
      have hs1 := hb1.size
      have hsz0 : w1.heap.size ≤ (w1.alloc (.cells #[] 5)).heap.size := by rw [World.size_alloc]; omega
      have hba := HB.out.alloc hs1 (.cells #[] 5)
      have HBA := Lib.hid hba
      have HLA := Lib.hid (H.out.below hba)
      have HO0 := Lib.hid (own_empty w1)
      have hle0 : ([] : List UInt8).length + l.length ≤ 140737488355328 := by simp; omega
      have hle1 : l.length + [(61 : UInt8)].length ≤ 140737488355328 := by simp; omega
      have hk' := hk
      clear hdec hdec2 HD1 hval hk HKD HTO HE hb1 hba H
      rcases hk' with rfl | rfl
      all_goals
        go_wp2_with (first | (at_builtin; refine wpList_append_bs (by rfl) (.tmp 45) (.tmp 46) rfl w1.heap.size _ _ (by rfl) (by rfl) HO0.out HLA.out hle0 hsz0 ?_; intro v' w3 ho3 hk3 _; have HN := Lib.hid (step1 HB.out ho3 hk3); clear ho3 hk3) | (at_builtin; refine wpList_append_bs (by rfl) (.tmp 47) (.tmp 48) rfl w1.heap.size _ _ (by rfl) (by rfl) HN.out.2.1 HN.out.2.2.1 hle1 HN.out.2.2.2 ?_; intro v'' w4 ho4 hk4 _; have HM := Lib.hid (step2 HB.out HN.out.1 ho4 hk4); clear ho4 hk4))
        refine (HF.out w4 v'' HM.out.1 HM.out.2).mono ?_
        rintro e w5 ⟨v5, rfl, h5, hb5⟩
        have HB5 := Lib.hid hb5
        have H5 := Lib.hid h5
        obtain ⟨ao5, cap5, rfl⟩ := Bs.shape h5
        clear h5 hb5 HM HN HO0 HLA
        go_wp2_with fail
        refine (HD2.out w5 HB5.out).mono ?_
        rintro e w6 ⟨v6, rfl, h6, hb6⟩
        have HB6 := Lib.hid (HB5.out.trans (hb6.mono HB5.out.size))
        have hs := same_any (H5.out.below hb6) h6
        rw [beq_self_eq_true] at hs
        obtain ⟨ao6, cap6, rfl⟩ := Bs.shape h6
        have HS := Lib.hid hs
        clear hs h6 hb6 H5
        go_wp2_with (go_at_call 23; refine HS.out.mono ?_; rintro e w' ⟨rfl, rfl⟩)
        go_ret
        exact ⟨rfl, HB6.out⟩

set_option maxRecDepth 100000 in
/-- THE LAW's CONTRACT. -/
theorem contract (H : Type) (enc : TypeId × Value → H) (W : World) (base : Nat) (args : Array Value) (ds gs : List (DataW H)) (before : List MemPlace)
    (hval : ∀ (j : Nat) t v, Tryd.f8.params[j]? = some t → args[j]? = some v → Value.okWide Tryd.prog W .any base t v)
    (hW : DataW.Whole enc Tryd.prog Tryd.f8.params.toList Rows.fnEndSoftSpec.vars false W args.toList ds gs before) (hL : laidMetH Tryd.prog Rows.fnEndSoftRow.laid W) :
    Calls Tryd.prog 8 args W fun e W' => ∃ v, e = .returned v ∧ Rows.fnEndSoftSpec.post enc Tryd.prog Tryd.f8 false true false false W args v W' := by
  obtain ⟨ea, he⟩ := eof_of_laid hL
  have hW' := hW
  obtain ⟨p, q, hA0, hV, rfl, hfz, hnd⟩ := hW
  have hA : DataW.TrodAll enc Tryd.prog W 0 (fun _ => true) true Tryd.f8.params.toList args.toList ds p := hA0
  rw [Tryd.params8] at hA hval
  obtain ⟨v0, vs0, d0, ds0, p0, q0, hargs0, rfl, rfl, h0, r0⟩ := trodAll_cons hA
  obtain ⟨rfl, rfl, rfl⟩ := trodAll_nil r0
  obtain rfl : args = #[v0] := by cases args; simp_all
  obtain ⟨rfl, rfl⟩ := trodVars_none hV
  obtain ⟨a0, len0, cap0, rfl⟩ := okWide_slice Tryd.underlying24 (hval 0 24 v0 rfl rfl)
  have k0 := h0
  have lt0 : ∀ x ∈ p0, x.block < W.heap.size := by obtain ⟨m, hm⟩ := k0; exact DataW.trod_lt m _ _ _ hm
  obtain ⟨l0, hl0, hbk0⟩ := open_bs h0
  clear hA0
  refine (walk he hl0).mono fun e W' ⟨he, bel⟩ => ?_
  subst he
  exact ⟨_, rfl, _, _, _, [], _, [], hW', trodAll_mk1 (shut_bool Tryd.underlying4 _), (trodAll_cons_mk (Below.trod laidOut (by kernel_rfl) (of_decide_eq_true (by kernel_rfl)) k0 bel lt0) trodAll_mk0), rfl, bel.frame _, fun h => by cases h⟩

theorem reads (os : Os) {H : Type} (enc : TypeId × Value → H) : ∃ places, DataW.whole enc Tryd.prog ((laidWorld os).forCall (fun _ _ => 0) ⟨#[], #[.slice none 0 0], []⟩).memory Tryd.f8.params.toList Rows.fnEndSoftSpec.vars false (#[.slice none 0 0] : Array Value).toList 8 = some ([.nil], [], places) :=
  ⟨[], by kernel_rfl⟩

set_option maxRecDepth 100000 in
theorem lifted (os : Os) (started : os.Started) (H : Type) (enc : TypeId × Value → H) (F : Stop.Interp) :
    ReturnsInHanded {} Tryd.checked os 8 .any ((OpenSpec.ofChange Rows.fnEndSoftSpec).preRow enc Tryd.prog Tryd.f8 Rows.fnEndSoftRow.domain false Rows.fnEndSoftRow.laid) (((OpenSpec.ofChange Rows.fnEndSoftSpec).at F).post enc Tryd.prog Tryd.f8 false true false false) := by
  obtain ⟨places, hx⟩ := reads os enc
  refine returnsInHanded_of_row (C := Tryd.checked) (s := (OpenSpec.ofChange Rows.fnEndSoftSpec)) own started (by kernel_rfl) Tryd.func8
    (witness_row_at (enc := enc) (C := Tryd.checked) false (laidWorld os) #[.slice none 0 0] rfl (by kernel_rfl) (by kernel_rfl) (by kernel_rfl)
      (OpenSpec.preRow_of_cond 8 hx (by kernel_rfl) (fun k hk => by cases hk) (by kernel_rfl) (laid_met os _))) ?_
  intro W base args ds gs before hval hW _ _ _ hL _ _
  exact contract H enc W base args ds gs before hval hW hL

set_option maxRecDepth 100000 in
theorem closed : joinedFacts Tryd.pinned.checked.prog 8 Tryd.f8 (OpenSpec.bare (OpenSpec.ofChange Rows.fnEndSoftSpec)) Rows.fnEndSoftRow = true := by
  unfold joinedFacts
  rw [mayEnter_fact, liftsFinal_fact, make_fact]
  kernel_rfl
set_option maxRecDepth 100000 in
theorem said : Rows.FnEndSoftSaid :=
  OpenClaim.holds_of_cond 8 Tryd.f8 rfl rfl rfl rfl rfl rfl rfl ⟨rfl, rfl, rfl, rfl, rfl⟩ rfl rfl rfl rfl rfl (by as_aux_lemma => kernel_rfl) Tryd.func8 closed
    (of_decide_eq_true (by as_aux_lemma => kernel_rfl)) (by unfold Func.isWrapper; first | (rw [if_pos (by decide +kernel)]; kernel_rfl) | (rw [if_neg (by decide +kernel)]; exact ⟨rfl, rfl⟩))
    (fun os started H enc _ F => by rw [OpenClaim.pre_eq_preRow]; exact lifted os started H enc F)

theorem plain (f : FuncId) (fn : Func) (hf : Tryd.pinned.checked.prog.funcNamed Rows.fnEndSoftRow.func = some f) (hfn : Tryd.pinned.checked.prog.funcs[f]? = some fn) :
    true = Tryd.pinned.checked.prog.looks [] ∧ ∀ (j : Nat) t, fn.params[j]? = some t → Tryd.pinned.checked.prog.wantsStandIn t = false := by
  obtain rfl : f = 8 := Option.some.inj ((show Tryd.prog.funcNamed Rows.fnEndSoftRow.func = some 8 by kernel_rfl).symm.trans hf) |>.symm
  obtain rfl : fn = Tryd.f8 := (Option.some.inj (Tryd.func8.symm.trans hfn)).symm
  refine ⟨by kernel_rfl, fun j t ht => ?_⟩
  rw [Tryd.params8] at ht
  have hm := Array.mem_of_getElem? ht
  have hall : ([24].all fun u => !Tryd.prog.wantsStandIn u) = true := by kernel_rfl
  have hm' : t ∈ [24] := by simpa using hm
  exact (show Tryd.prog.wantsStandIn t = false by simpa using List.all_eq_true.1 hall t hm')

/-- THE CARD. -/
theorem card : Rows.FnEndSoftCardSaid :=
  Claim7.holds_tied_plain_at .later [] _ _ _ _ said (fun _ h => by cases h) (by as_aux_lemma => kernel_rfl) (fun _ h => by cases h) fnEndSoft_row_tie rfl ⟨rfl, rfl⟩ mainIs_fact rfl plain (by as_aux_lemma => kernel_rfl)
end Go.Proofs.YthfkgancjpdodaaDoor.fnEndSoft

/- THE LAW FnExactEncoded: for all data of bulk at most 1048576, in whatever parts: what Encode returns is all tokens, no line of it ends with a blank, and it is not empty where the data are not. No condition. -/
import Derived.Test.YtigebhmdplcciaaExq
import Derived.Test.YtigebhmdplcciaaOpen
namespace Go.Proofs.Ytigebhmdplcciaa.fnExactEncoded
open Go.ChangeShapes Go.WideShapes Go.ChangeAt Go.RowKit Qp

set_option maxHeartbeats 1600000 in
theorem walk {w : World} {v : Value} {ls : List (List UInt8)} (bin : Bool) (h : Ps w v ls) (hlim : ls.flatten.length + ls.length ≤ 1048576) :
    Calls Try.prog 6 #[.bool bin, v] w fun e w' => e = .returned (.bool true) ∧ Below w.heap.size w w' := by
  have hz := Lib.hid (zzFits_any h (by omega) (fun l hl => by
    have : l.length ≤ ls.flatten.length := by
      obtain ⟨s, t, rfl⟩ := List.append_of_mem hl
      simp
      omega
    omega))
  have hj0 := fun (w2 : World) (hb : Below w.heap.size w w2) => Join_any (h.below hb) (by omega)
  have he0 := fun (w2 : World) (hb : Below w.heap.size w w2) => Encode_any bin (h.below hb) (by omega)
  have hl2 : ls.flatten.length ≤ 1048576 := by omega
  obtain ⟨fl, hfl⟩ : ∃ fl, fl = ls.flatten := ⟨_, rfl⟩
  rw [← hfl] at hj0 he0 hl2
  have hj := Lib.hid hj0
  have he := Lib.hid he0
  obtain ⟨ao, cap, rfl, hlc, hcm, -⟩ := h.at
  clear h hlim hj0 he0 hfl
  go_enter Try.func6, Try.ntmps6
  go_wp2_with fail
  refine hz.out.mono ?_
  rintro e w' ⟨rfl, rfl⟩
  go_wp2_with fail
  refine (he.out _ (Below.refl _ _)).mono ?_
  rintro e w1 ⟨v1, rfl, h1, hb1⟩
  have ht := Tokens_enc bin h1 hl2
  obtain ⟨ao1, cap1, rfl⟩ := Bs.shape h1
  have HT := Lib.hid ht
  have HB1 := Lib.hid (hb1)
  obtain ⟨el, hel⟩ : ∃ el, el = (encode bin fl).length := ⟨_, rfl⟩
  rw [← hel] at HT ⊢
  clear hel
  clear ht h1 hb1
  go_wp2_with fail
  refine HT.out.mono ?_
  rintro e w2 ⟨v2, rfl, h2, hb2⟩
  have HB2 := Lib.hid (HB1.out.trans (hb2.mono HB1.out.size))
  have hv := BlankEnds_any h2
  rw [encode_blankEnds] at hv
  obtain ⟨ao2, cap2, rfl⟩ := Ts.shape h2
  have HV := Lib.hid hv
  have hne : fl ≠ [] → 0 < (wtoks bin fl).length := fun hd => List.length_pos_iff.2 (wtoks_ne bin fl hd)
  obtain ⟨tl, htl⟩ : ∃ tl, tl = (wtoks bin fl).length := ⟨_, rfl⟩
  rw [← htl] at hne HV ⊢
  have HNE := Lib.hid hne
  clear hv h2 hb2 htl hne
  go_wp2_with fail
  refine HV.out.mono ?_
  rintro e w3 ⟨rfl, hb3⟩
  have HB3 := Lib.hid (HB2.out.trans (hb3.mono HB2.out.size))
  clear hb3
  go_wp2_with fail
  refine (hj.out _ HB3.out).mono ?_
  rintro e w4 ⟨v4, rfl, h4, hb4⟩
  have HB4 := Lib.hid (HB3.out.trans (hb4.mono HB3.out.size))
  obtain ⟨ao4, cap4, rfl⟩ := Bs.shape h4
  clear h4 hb4
  by_cases hd : fl = []
  · subst hd
    rw [List.length_nil]
    go_wp2
    go_ret
    exact ⟨rfl, HB4.out⟩
  · have hnp := HNE.out hd
    have hdp := List.length_pos_iff.2 hd
    generalize fl.length = n at hdp hl2 ⊢
    have hd0 : ((n : Int) == 0) = false := by simp; omega
    clear hd
    go_wp2
    go_ret
    exact ⟨rfl, HB4.out⟩

/-- THE LAW's CONTRACT. -/
theorem contract (H : Type) (enc : TypeId × Value → H) (W : World) (base : Nat) (args : Array Value) (ds gs : List (DataW H)) (before : List MemPlace)
    (hval : ∀ (j : Nat) t v, Try.f6.params[j]? = some t → args[j]? = some v → Value.okWide Try.prog W .any base t v)
    (hW : DataW.Whole enc Try.prog Try.f6.params.toList Rows.fnExactEncodedSpec.vars false W args.toList ds gs before) (hk : Rows.uptoSmall H (ds ++ gs) = true) :
    Calls Try.prog 6 args W fun e W' => ∃ v, e = .returned v ∧ Rows.fnExactEncodedSpec.post enc Try.prog Try.f6 false true false false W args v W' := by
  have hW' := hW
  obtain ⟨p, q, hA0, hV, rfl, hfz, hnd⟩ := hW
  have hA : DataW.TrodAll enc Try.prog W 0 (fun _ => true) true Try.f6.params.toList args.toList ds p := hA0
  rw [Try.params6] at hA hval
  obtain ⟨v0, vs0, d0, ds0, p0, q0, hargs, rfl, rfl, h0, r0⟩ := trodAll_cons hA
  obtain ⟨v1, vs1, d1, ds1, p1, q1, rfl, rfl, rfl, h1, r1⟩ := trodAll_cons r0
  obtain ⟨rfl, rfl, rfl⟩ := trodAll_nil r1
  obtain rfl : args = #[v0, v1] := by cases args; simp_all
  obtain ⟨rfl, rfl⟩ := trodVars_none hV
  obtain ⟨bin, rfl, rfl, rfl⟩ := open_bool Try.underlying4 (hval 0 4 v0 rfl rfl) h0
  obtain ⟨a1, len1, cap1, rfl⟩ := okWide_slice Try.underlying22 (hval 1 22 v1 rfl rfl)
  have k1 := h1
  have lt1 : ∀ x ∈ p1, x.block < W.heap.size := by obtain ⟨m, hm⟩ := k1; exact DataW.trod_lt m _ _ _ hm
  obtain ⟨ls, hls, hbk⟩ := open_ps h1
  have hbound := bulk_bound hk
  simp only [List.append_nil, Rows.uptoBulkAll, Rows.uptoBulk] at hbound
  clear hA0
  refine (walk bin hls (by omega)).mono fun e W' ⟨he, bel⟩ => ?_
  subst he
  exact ⟨_, rfl, _, _, _, [], _, [], hW', trodAll_mk1 (shut_bool Try.underlying4 _), (trodAll_cons_mk (shut_bool Try.underlying4 _) (trodAll_cons_mk (Below.trod laidOut (by kernel_rfl) (of_decide_eq_true (by kernel_rfl)) k1 bel lt1) trodAll_mk0)), rfl, bel.frame _, fun h => by cases h⟩

set_option maxRecDepth 100000 in
theorem lifted (os : Os) (started : os.Started) (H : Type) (enc : TypeId × Value → H) (F : Stop.Interp) :
    ReturnsInHanded {} Try.checked os 6 .any ((Rows.OpenSpec.upto Rows.fnExactEncodedSpec).pre6 enc Try.prog Try.f6 Rows.fnExactEncodedUptoRow.domain false) (((Rows.OpenSpec.upto Rows.fnExactEncodedSpec).at F).post enc Try.prog Try.f6 false true false false) := by
  refine returnsInHanded_of_cond (C := Try.checked) (s := Rows.OpenSpec.upto Rows.fnExactEncodedSpec) (k := Rows.uptoSmall) rfl own started (by kernel_rfl) Try.func6
    (OpenSpec.witness (enc := enc) (C := Try.checked) (s := Rows.OpenSpec.upto Rows.fnExactEncodedSpec) (k := Rows.uptoSmall) rfl false ⟨#[], #[.bool false, .slice none 0 0], []⟩ 8 (by kernel_rfl) (by kernel_rfl) (by kernel_rfl)
      (x := ([.lit (.bool false), .nil], [], [])) (by kernel_rfl) rfl (by kernel_rfl)) ?_
  intro W base args ds gs before hval hW _ hk _
  exact contract H enc W base args ds gs before hval hW hk

theorem proved : Rows.FnExactEncodedUptoSaid :=
  OpenClaim.holds_of_cond 6 Try.f6 rfl rfl rfl rfl rfl rfl rfl ⟨rfl, rfl, rfl, rfl, rfl⟩ rfl rfl rfl rfl rfl (by kernel_rfl) Try.func6 (by kernel_rfl)
    (of_decide_eq_true (by kernel_rfl)) (by unfold Func.isWrapper; first | (rw [if_pos (by decide +kernel)]; kernel_rfl) | (rw [if_neg (by decide +kernel)]; exact ⟨rfl, rfl⟩))
    (fun os started H enc _ F => lifted os started H enc F)
end Go.Proofs.Ytigebhmdplcciaa.fnExactEncoded

/- THE LAW FnExactBinary: for all data of bulk at most 1048576, in whatever parts: what Encode returns in binary mode is all tokens, and they stand for the data. No condition. -/
import Derived.Test.YtigebhmdplcciaaExq
import Derived.Test.YtigebhmdplcciaaOpen
namespace Go.Proofs.Ytigebhmdplcciaa.fnExactBinary
open Go.ChangeShapes Go.WideShapes Go.ChangeAt Go.RowKit Qp

set_option maxHeartbeats 1600000 in
theorem walk {w : World} {v : Value} {ls : List (List UInt8)} (h : Ps w v ls) (hlim : ls.flatten.length + ls.length ≤ 1048576) :
    Calls Try.prog 5 #[v] w fun e w' => e = .returned (.bool true) ∧ Below w.heap.size w w' := by
  have hz := Lib.hid (zzFits_any h (by omega) (fun l hl => by
    have : l.length ≤ ls.flatten.length := by
      obtain ⟨s, t, rfl⟩ := List.append_of_mem hl
      simp
      omega
    omega))
  have hj0 := fun (w2 : World) (hb : Below w.heap.size w w2) => Join_any (h.below hb) (by omega)
  have he0 := fun (w2 : World) (hb : Below w.heap.size w w2) => Encode_any true (h.below hb) (by omega)
  have hl2 : ls.flatten.length ≤ 1048576 := by omega
  obtain ⟨fl, hfl⟩ : ∃ fl, fl = ls.flatten := ⟨_, rfl⟩
  rw [← hfl] at hj0 he0 hl2
  have hj := Lib.hid hj0
  have he := Lib.hid he0
  obtain ⟨ao, cap, rfl, hlc, hcm, -⟩ := h.at
  clear h hlim hj0 he0 hfl
  go_enter Try.func5, Try.ntmps5
  go_wp2_with fail
  refine hz.out.mono ?_
  rintro e w' ⟨rfl, rfl⟩
  go_wp2_with fail
  refine (he.out _ (Below.refl _ _)).mono ?_
  rintro e w1 ⟨v1, rfl, h1, hb1⟩
  have ht := Tokens_enc true h1 hl2
  obtain ⟨ao1, cap1, rfl⟩ := Bs.shape h1
  have HT := Lib.hid ht
  have HB1 := Lib.hid (hb1)
  obtain ⟨el, hel⟩ : ∃ el, el = (encode true fl).length := ⟨_, rfl⟩
  rw [← hel] at HT ⊢
  clear hel
  clear ht h1 hb1
  go_wp2_with fail
  refine HT.out.mono ?_
  rintro e w2 ⟨v2, rfl, h2, hb2⟩
  have HB2 := Lib.hid (HB1.out.trans (hb2.mono HB1.out.size))
  have hv := Value_any h2 (wtoks_ok true fl) (wtoks_lim true hl2)
  rw [encode_value_bin] at hv
  obtain ⟨ao2, cap2, rfl⟩ := Ts.shape h2
  have HV := Lib.hid hv
  obtain ⟨tl, htl⟩ : ∃ tl, tl = (wtoks true fl).length := ⟨_, rfl⟩
  rw [← htl] at HV ⊢
  clear htl
  clear hv h2 hb2
  go_wp2_with fail
  refine HV.out.mono ?_
  rintro e w3 ⟨v3, rfl, h3, hb3⟩
  have HB3 := Lib.hid (HB2.out.trans (hb3.mono HB2.out.size))
  obtain ⟨ao3, cap3, rfl⟩ := Bs.shape h3
  have H3 := Lib.hid h3
  clear h3 hb3
  go_wp2_with fail
  refine (hj.out _ HB3.out).mono ?_
  rintro e w4 ⟨v4, rfl, h4, hb4⟩
  have HB4 := Lib.hid (HB3.out.trans (hb4.mono HB3.out.size))
  have hs := same_any (H3.out.below hb4) h4
  rw [beq_self_eq_true] at hs
  obtain ⟨ao4, cap4, rfl⟩ := Bs.shape h4
  have HS := Lib.hid hs
  clear hs h4 hb4
  go_wp2_with (go_at_call 12; refine HS.out.mono ?_; rintro e w' ⟨rfl, rfl⟩)
  go_ret
  exact ⟨rfl, HB4.out⟩

/-- THE LAW's CONTRACT. -/
theorem contract (H : Type) (enc : TypeId × Value → H) (W : World) (base : Nat) (args : Array Value) (ds gs : List (DataW H)) (before : List MemPlace)
    (hval : ∀ (j : Nat) t v, Try.f5.params[j]? = some t → args[j]? = some v → Value.okWide Try.prog W .any base t v)
    (hW : DataW.Whole enc Try.prog Try.f5.params.toList Rows.fnExactBinarySpec.vars false W args.toList ds gs before) (hk : Rows.uptoSmall H (ds ++ gs) = true) :
    Calls Try.prog 5 args W fun e W' => ∃ v, e = .returned v ∧ Rows.fnExactBinarySpec.post enc Try.prog Try.f5 false true false false W args v W' := by
  have hW' := hW
  obtain ⟨p, q, hA0, hV, rfl, hfz, hnd⟩ := hW
  have hA : DataW.TrodAll enc Try.prog W 0 (fun _ => true) true Try.f5.params.toList args.toList ds p := hA0
  rw [Try.params5] at hA hval
  obtain ⟨v1, vs1, d1, ds1, p1, q1, hargs, rfl, rfl, h1, r1⟩ := trodAll_cons hA
  obtain ⟨rfl, rfl, rfl⟩ := trodAll_nil r1
  obtain rfl : args = #[v1] := by cases args; simp_all
  obtain ⟨rfl, rfl⟩ := trodVars_none hV
  obtain ⟨a1, len1, cap1, rfl⟩ := okWide_slice Try.underlying22 (hval 0 22 v1 rfl rfl)
  have k1 := h1
  have lt1 : ∀ x ∈ p1, x.block < W.heap.size := by obtain ⟨m, hm⟩ := k1; exact DataW.trod_lt m _ _ _ hm
  obtain ⟨ls, hls, hbk⟩ := open_ps h1
  have hbound := bulk_bound hk
  simp only [List.append_nil, Rows.uptoBulkAll] at hbound
  clear hA0
  refine (walk  hls (by omega)).mono fun e W' ⟨he, bel⟩ => ?_
  subst he
  exact ⟨_, rfl, _, _, _, [], _, [], hW', trodAll_mk1 (shut_bool Try.underlying4 _), (trodAll_cons_mk (Below.trod laidOut (by kernel_rfl) (of_decide_eq_true (by kernel_rfl)) k1 bel lt1) trodAll_mk0), rfl, bel.frame _, fun h => by cases h⟩

set_option maxRecDepth 100000 in
theorem lifted (os : Os) (started : os.Started) (H : Type) (enc : TypeId × Value → H) (F : Stop.Interp) :
    ReturnsInHanded {} Try.checked os 5 .any ((Rows.OpenSpec.upto Rows.fnExactBinarySpec).pre6 enc Try.prog Try.f5 Rows.fnExactBinaryUptoRow.domain false) (((Rows.OpenSpec.upto Rows.fnExactBinarySpec).at F).post enc Try.prog Try.f5 false true false false) := by
  refine returnsInHanded_of_cond (C := Try.checked) (s := Rows.OpenSpec.upto Rows.fnExactBinarySpec) (k := Rows.uptoSmall) rfl own started (by kernel_rfl) Try.func5
    (OpenSpec.witness (enc := enc) (C := Try.checked) (s := Rows.OpenSpec.upto Rows.fnExactBinarySpec) (k := Rows.uptoSmall) rfl false ⟨#[], #[.slice none 0 0], []⟩ 8 (by kernel_rfl) (by kernel_rfl) (by kernel_rfl)
      (x := ([.nil], [], [])) (by kernel_rfl) rfl (by kernel_rfl)) ?_
  intro W base args ds gs before hval hW _ hk _
  exact contract H enc W base args ds gs before hval hW hk

theorem proved : Rows.FnExactBinaryUptoSaid :=
  OpenClaim.holds_of_cond 5 Try.f5 rfl rfl rfl rfl rfl rfl rfl ⟨rfl, rfl, rfl, rfl, rfl⟩ rfl rfl rfl rfl rfl (by kernel_rfl) Try.func5 (by kernel_rfl)
    (of_decide_eq_true (by kernel_rfl)) (by unfold Func.isWrapper; first | (rw [if_pos (by decide +kernel)]; kernel_rfl) | (rw [if_neg (by decide +kernel)]; exact ⟨rfl, rfl⟩))
    (fun os started H enc _ F => lifted os started H enc F)
end Go.Proofs.Ytigebhmdplcciaa.fnExactBinary

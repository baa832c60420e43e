/- THE LAW FnExactLines: for all data of bulk at most 1048576, in whatever parts: what Encode returns in the mode that is not binary is all tokens, and they stand for the data with CR LF at the ends of lines, where each CR of the data has a LF behind. No condition. -/
import Derived.Test.YtigebhmdplcciaaLines
import Derived.Test.YtigebhmdplcciaaOpen
namespace Go.Proofs.Ytigebhmdplcciaa.fnExactLines
open Go.ChangeShapes Go.WideShapes Go.ChangeAt Go.RowKit Qp

set_option maxHeartbeats 1600000 in
theorem walk {w : World} {v : Value} {ls : List (List UInt8)} (h : Ps w v ls) (hlim : ls.flatten.length + ls.length ≤ 1048576) :
    Calls Try.prog 7 #[v] w fun e w' => e = .returned (.bool true) ∧ Below w.heap.size w w' := by
  have hz := Lib.hid (zzFits_any h (by omega) (fun l hl => by
    have : l.length ≤ ls.flatten.length := by
      obtain ⟨s, t, rfl⟩ := List.append_of_mem hl
      simp
      omega
    omega))
  have hj0 := fun (w2 : World) (hb : Below w.heap.size w w2) => Join_any (h.below hb) (by omega)
  have he0 := fun (w2 : World) (hb : Below w.heap.size w w2) => Encode_any false (h.below hb) (by omega)
  have hl2 : ls.flatten.length ≤ 1048576 := by omega
  obtain ⟨fl, hfl⟩ : ∃ fl, fl = ls.flatten := ⟨_, rfl⟩
  rw [← hfl] at hj0 he0 hl2
  have hj := Lib.hid hj0
  have he := Lib.hid he0
  obtain ⟨ao, cap, rfl, hlc, hcm, -⟩ := h.at
  clear h hlim hj0 he0 hfl
  go_enter Try.func7, Try.ntmps7
  go_wp2_with fail
  refine hz.out.mono ?_
  rintro e w' ⟨rfl, rfl⟩
  go_wp2_with fail
  refine (hj.out _ (Below.refl _ _)).mono ?_
  rintro e w1 ⟨v1, rfl, h1, hb1⟩
  have HLN := Lib.hid (Lines_any h1 (by omega))
  obtain ⟨ao1, cap1, rfl⟩ := Bs.shape h1
  have HB1 := Lib.hid hb1
  clear h1 hb1
  go_wp2_with fail
  refine HLN.out.mono ?_
  rintro e w2 ⟨hb2, hm⟩
  have HB2 := Lib.hid (HB1.out.trans (hb2.mono HB1.out.size))
  clear hb2
  cases hlo : lines fl with
  | none =>
    rw [hlo] at hm
    subst hm
    clear hlo
    go_wp2
    go_ret
    exact ⟨rfl, HB2.out⟩
  | some o =>
    rw [hlo] at hm
    obtain ⟨v2, rfl, h2⟩ := hm
    have hval := encode_value_txt fl o hlo
    obtain ⟨ao2, cap2, rfl⟩ := Bs.shape h2
    have H2 := Lib.hid h2
    have HVAL := Lib.hid hval
    clear hlo h2 hval
    go_wp2_with fail
    refine (he.out _ HB2.out).mono ?_
    rintro e w3 ⟨v3, rfl, h3, hb3⟩
    have ht := Tokens_enc false h3 hl2
    have HB3 := Lib.hid (HB2.out.trans (hb3.mono HB2.out.size))
    have H23 := Lib.hid (H2.out.below hb3)
    obtain ⟨ao3, cap3, rfl⟩ := Bs.shape h3
    have HT := Lib.hid ht
    obtain ⟨el, hel⟩ : ∃ el, el = (encode false fl).length := ⟨_, rfl⟩
    rw [← hel] at HT ⊢
    clear hel
    clear ht h3 hb3
    go_wp2_with fail
    refine HT.out.mono ?_
    rintro e w4 ⟨v4, rfl, h4, hb4⟩
    have HB4 := Lib.hid (HB3.out.trans (hb4.mono HB3.out.size))
    have H24 := Lib.hid (H23.out.below hb4)
    have hv := Value_any h4 (wtoks_ok false fl) (wtoks_lim false hl2)
    rw [HVAL.out] at hv
    obtain ⟨ao4, cap4, rfl⟩ := Ts.shape h4
    have HV := Lib.hid hv
    obtain ⟨tl, htl⟩ : ∃ tl, tl = (wtoks false fl).length := ⟨_, rfl⟩
    rw [← htl] at HV ⊢
    clear htl
    clear hv h4 hb4
    go_wp2_with fail
    refine HV.out.mono ?_
    rintro e w5 ⟨v5, rfl, h5, hb5⟩
    have HB5 := Lib.hid (HB4.out.trans (hb5.mono HB4.out.size))
    have hs := same_any h5 (H24.out.below hb5)
    rw [beq_self_eq_true] at hs
    obtain ⟨ao5, cap5, rfl⟩ := Bs.shape h5
    have HS := Lib.hid hs
    clear hs h5 hb5
    go_wp2_with (go_at_call 12; refine HS.out.mono ?_; rintro e w' ⟨rfl, rfl⟩)
    go_ret
    exact ⟨rfl, HB5.out⟩

/-- THE LAW's CONTRACT. -/
theorem contract (H : Type) (enc : TypeId × Value → H) (W : World) (base : Nat) (args : Array Value) (ds gs : List (DataW H)) (before : List MemPlace)
    (hval : ∀ (j : Nat) t v, Try.f7.params[j]? = some t → args[j]? = some v → Value.okWide Try.prog W .any base t v)
    (hW : DataW.Whole enc Try.prog Try.f7.params.toList Rows.fnExactLinesSpec.vars false W args.toList ds gs before) (hk : Rows.uptoSmall H (ds ++ gs) = true) :
    Calls Try.prog 7 args W fun e W' => ∃ v, e = .returned v ∧ Rows.fnExactLinesSpec.post enc Try.prog Try.f7 false true false false W args v W' := by
  have hW' := hW
  obtain ⟨p, q, hA0, hV, rfl, hfz, hnd⟩ := hW
  have hA : DataW.TrodAll enc Try.prog W 0 (fun _ => true) true Try.f7.params.toList args.toList ds p := hA0
  rw [Try.params7] at hA hval
  obtain ⟨v1, vs1, d1, ds1, p1, q1, hargs, rfl, rfl, h1, r1⟩ := trodAll_cons hA
  obtain ⟨rfl, rfl, rfl⟩ := trodAll_nil r1
  obtain rfl : args = #[v1] := by cases args; simp_all
  obtain ⟨rfl, rfl⟩ := trodVars_none hV
  obtain ⟨a1, len1, cap1, rfl⟩ := okWide_slice Try.underlying22 (hval 0 22 v1 rfl rfl)
  have k1 := h1
  have lt1 : ∀ x ∈ p1, x.block < W.heap.size := by obtain ⟨m, hm⟩ := k1; exact DataW.trod_lt m _ _ _ hm
  obtain ⟨ls, hls, hbk⟩ := open_ps h1
  have hbound := bulk_bound hk
  simp only [List.append_nil, Rows.uptoBulkAll] at hbound
  clear hA0
  refine (walk  hls (by omega)).mono fun e W' ⟨he, bel⟩ => ?_
  subst he
  exact ⟨_, rfl, _, _, _, [], _, [], hW', trodAll_mk1 (shut_bool Try.underlying4 _), (trodAll_cons_mk (Below.trod laidOut (by kernel_rfl) (of_decide_eq_true (by kernel_rfl)) k1 bel lt1) trodAll_mk0), rfl, bel.frame _, fun h => by cases h⟩

set_option maxRecDepth 100000 in
theorem lifted (os : Os) (started : os.Started) (H : Type) (enc : TypeId × Value → H) (F : Stop.Interp) :
    ReturnsInHanded {} Try.checked os 7 .any ((Rows.OpenSpec.upto Rows.fnExactLinesSpec).pre6 enc Try.prog Try.f7 Rows.fnExactLinesUptoRow.domain false) (((Rows.OpenSpec.upto Rows.fnExactLinesSpec).at F).post enc Try.prog Try.f7 false true false false) := by
  refine returnsInHanded_of_cond (C := Try.checked) (s := Rows.OpenSpec.upto Rows.fnExactLinesSpec) (k := Rows.uptoSmall) rfl own started (by kernel_rfl) Try.func7
    (OpenSpec.witness (enc := enc) (C := Try.checked) (s := Rows.OpenSpec.upto Rows.fnExactLinesSpec) (k := Rows.uptoSmall) rfl false ⟨#[], #[.slice none 0 0], []⟩ 8 (by kernel_rfl) (by kernel_rfl) (by kernel_rfl)
      (x := ([.nil], [], [])) (by kernel_rfl) rfl (by kernel_rfl)) ?_
  intro W base args ds gs before hval hW _ hk _
  exact contract H enc W base args ds gs before hval hW hk

theorem proved : Rows.FnExactLinesUptoSaid :=
  OpenClaim.holds_of_cond 7 Try.f7 rfl rfl rfl rfl rfl rfl rfl ⟨rfl, rfl, rfl, rfl, rfl⟩ rfl rfl rfl rfl rfl (by kernel_rfl) Try.func7 (by kernel_rfl)
    (of_decide_eq_true (by kernel_rfl)) (by unfold Func.isWrapper; first | (rw [if_pos (by decide +kernel)]; kernel_rfl) | (rw [if_neg (by decide +kernel)]; exact ⟨rfl, rfl⟩))
    (fun os started H enc _ F => lifted os started H enc F)
end Go.Proofs.Ytigebhmdplcciaa.fnExactLines

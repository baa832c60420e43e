/- THE LAW FnNeeded: for all data of bulk at most 1048576, in whatever parts: what Encode returns is all tokens, and each escape of it is needed. No condition. -/
import Derived.Test.YtigebhmdplcciaaNeed
import Derived.Test.YtigebhmdplcciaaOpen
namespace Go.Proofs.Ytigebhmdplcciaa.fnNeeded
open Go.ChangeShapes Go.WideShapes Go.ChangeAt Go.RowKit Qp

set_option maxHeartbeats 1600000 in
theorem walk {w : World} {v : Value} {ls : List (List UInt8)} (bin : Bool) (h : Ps w v ls) (hlim : ls.flatten.length + ls.length ≤ 1048576) :
    Calls Try.prog 8 #[.bool bin, v] w fun e w' => e = .returned (.bool true) ∧ Below w.heap.size w w' := by
  have hz := Lib.hid (zzFits_any h (by omega) (fun l hl => by
    have : l.length ≤ ls.flatten.length := by
      obtain ⟨s, t, rfl⟩ := List.append_of_mem hl
      simp
      omega
    omega))
  have hj0 := fun (w2 : World) (hb : Below w.heap.size w w2) => Join_any (h.below hb) (by omega)
  have he0 := fun (w2 : World) (hb : Below w.heap.size w w2) => Encode_any bin (h.below hb) (by omega)
  have hl2 : ls.flatten.length ≤ 1048576 := by omega
  obtain ⟨fl, hfl⟩ : ∃ fl, fl = ls.flatten := ⟨_, rfl⟩
  rw [← hfl] at hj0 he0 hl2
  have hj := Lib.hid hj0
  have he := Lib.hid he0
  obtain ⟨ao, cap, rfl, hlc, hcm, -⟩ := h.at
  clear h hlim hj0 he0 hfl
  go_enter Try.func8, Try.ntmps8
  go_wp2_with fail
  refine hz.out.mono ?_
  rintro e w' ⟨rfl, rfl⟩
  go_wp2_with fail
  refine (he.out _ (Below.refl _ _)).mono ?_
  rintro e w1 ⟨v1, rfl, h1, hb1⟩
  have ht := Tokens_enc bin h1 hl2
  obtain ⟨ao1, cap1, rfl⟩ := Bs.shape h1
  have HT := Lib.hid ht
  have HB1 := Lib.hid (hb1)
  obtain ⟨el, hel⟩ : ∃ el, el = (encode bin fl).length := ⟨_, rfl⟩
  rw [← hel] at HT ⊢
  clear hel
  clear ht h1 hb1
  go_wp2_with fail
  refine HT.out.mono ?_
  rintro e w2 ⟨v2, rfl, h2, hb2⟩
  have HB2 := Lib.hid (HB1.out.trans (hb2.mono HB1.out.size))
  obtain ⟨ao2, cap2, rfl, -, -, hat⟩ := h2.at
  have HAT := Lib.hid hat
  obtain ⟨tl, htl⟩ : ∃ tl, tl = (wtoks bin fl).length := ⟨_, rfl⟩
  rw [← htl]
  have HTL := Lib.hid htl
  have H2 := Lib.hid h2
  rw [← htl] at H2
  have hne : fl ≠ [] → 0 < tl := fun hd => by rw [htl]; exact List.length_pos_iff.2 (wtoks_ne bin fl hd)
  have hne2 : fl = [] → tl = 0 := fun hd => by rw [htl, hd]; cases bin <;> rfl
  have htm : tl ≤ 1099511627776 := by rw [htl]; exact wtoks_lim bin hl2
  clear hat h2 htl hb2
  by_cases hd : fl = []
  · have ht0 := hne2 hd
    have hfl0 : fl.length = 0 := by rw [hd]; rfl
    clear hne hne2
    subst ht0
    go_wp2_with fail
    refine (hj.out _ HB2.out).mono ?_
    rintro e w3 ⟨v3, rfl, h3, hb3⟩
    have HB3 := Lib.hid (HB2.out.trans (hb3.mono HB2.out.size))
    obtain ⟨ao3, cap3, rfl⟩ := Bs.shape h3
    rw [hfl0]
    clear h3 hb3 hd hfl0
    go_wp2
    go_loopw [34] (fun i wr => i = .int .i64 0 ∧ Below w.heap.size w wr) (fun i _ => 0)
    case atStart => exact ⟨rfl, HB3.out⟩
    case round =>
      obtain ⟨rfl, hbel⟩ := hrel
      have HB := Lib.hid hbel
      clear hbel
      go_wp2
      go_ret
      exact ⟨rfl, HB.out⟩
  · have ht0 := hne hd
    have j0 : ((tl : Int) == 0) = false := beq_eq_false_iff_ne.2 (by omega)
    clear hne hne2 hd
    go_wp2
    go_loopw [34] (fun i wr => ∃ k : Nat, k ≤ tl ∧ i = .int .i64 k ∧ Below w.heap.size w wr ∧ Below w2.heap.size w2 wr) (fun i _ => tl - (intOf i).toNat)
    case atStart => exact ⟨0, Nat.zero_le _, rfl, HB2.out, Below.refl _ _⟩
    case round =>
      obtain ⟨k, hk, rfl, hbel, hbel2⟩ := hrel
      by_cases hlt : k < tl
      · have hlt' : k < (wtoks bin fl).length := by rw [← HTL.out]; exact hlt
        obtain ⟨b, off, a1, n1, c1, a2, n2, c2, rfl, q0, q1, q2, -, -⟩ := HAT.out k hlt'
        have q0 := below_cell hbel2 _ _ q0
        have q1 := below_cell hbel2 _ _ q1
        have q2 := below_cell hbel2 _ _ q2
        have hbs := hbel.size
        have HBL := Lib.hid (fun o => hbel.alloc hbs o)
        have HBL2 := Lib.hid (fun o => hbel2.alloc hbel2.size o)
        obtain ⟨kd, hkd⟩ : ∃ kd, kd = (wtoks bin fl)[k].kind := ⟨_, rfl⟩
        rw [← hkd] at q0
        by_cases h3 : kd = 3
        · subst h3
          obtain ⟨bb, hbb⟩ := okTok.esc_value (wtoks_ok bin fl _ (List.getElem_mem hlt')) hkd.symm
          have hn := allNeeded_at (encode_needed bin fl) k hlt' hkd.symm
          rw [hbb] at hn
          have hnd := Needed_any (H2.out.below (HBL2.out (.cells #[.int .i64 (3 : Nat), .slice a1 n1 c1, .slice a2 n2 c2] 38))) k hlt' bb [] hbb
          have hn' : needed bb ((wtoks bin fl).drop (k + 1)) = true := hn
          rw [hn'] at hnd
          have HND := Lib.hid hnd
          clear hnd hn hn' hbb hkd hbel hbel2
          go_wp2_with fail
          refine HND.out.mono ?_
          rintro e w' ⟨rfl, rfl⟩
          go_wp2
          go_roundw
          case rel => exact ⟨k + 1, by omega, by go_num, HBL.out _, HBL2.out _⟩
          case measure => simp [intOf]; omega
        · have i3 : ¬ (kd : Int) = 3 := by omega
          have j3 : ((kd : Int) == 3) = false := beq_eq_false_iff_ne.2 i3
          clear hkd hbel hbel2
          go_wp2
          go_roundw
          case rel => exact ⟨k + 1, by omega, by go_num, HBL.out _, HBL2.out _⟩
          case measure => simp [intOf]; omega
      · have hke : k = tl := by omega
        subst hke
        have HB := Lib.hid hbel
        clear hbel hbel2
        go_wp2
        go_ret
        exact ⟨rfl, HB.out⟩

/-- THE LAW's CONTRACT. -/
theorem contract (H : Type) (enc : TypeId × Value → H) (W : World) (base : Nat) (args : Array Value) (ds gs : List (DataW H)) (before : List MemPlace)
    (hval : ∀ (j : Nat) t v, Try.f8.params[j]? = some t → args[j]? = some v → Value.okWide Try.prog W .any base t v)
    (hW : DataW.Whole enc Try.prog Try.f8.params.toList Rows.fnNeededSpec.vars false W args.toList ds gs before) (hk : Rows.uptoSmall H (ds ++ gs) = true) :
    Calls Try.prog 8 args W fun e W' => ∃ v, e = .returned v ∧ Rows.fnNeededSpec.post enc Try.prog Try.f8 false true false false W args v W' := by
  have hW' := hW
  obtain ⟨p, q, hA0, hV, rfl, hfz, hnd⟩ := hW
  have hA : DataW.TrodAll enc Try.prog W 0 (fun _ => true) true Try.f8.params.toList args.toList ds p := hA0
  rw [Try.params8] at hA hval
  obtain ⟨v0, vs0, d0, ds0, p0, q0, hargs, rfl, rfl, h0, r0⟩ := trodAll_cons hA
  obtain ⟨v1, vs1, d1, ds1, p1, q1, rfl, rfl, rfl, h1, r1⟩ := trodAll_cons r0
  obtain ⟨rfl, rfl, rfl⟩ := trodAll_nil r1
  obtain rfl : args = #[v0, v1] := by cases args; simp_all
  obtain ⟨rfl, rfl⟩ := trodVars_none hV
  obtain ⟨bin, rfl, rfl, rfl⟩ := open_bool Try.underlying4 (hval 0 4 v0 rfl rfl) h0
  obtain ⟨a1, len1, cap1, rfl⟩ := okWide_slice Try.underlying22 (hval 1 22 v1 rfl rfl)
  have k1 := h1
  have lt1 : ∀ x ∈ p1, x.block < W.heap.size := by obtain ⟨m, hm⟩ := k1; exact DataW.trod_lt m _ _ _ hm
  obtain ⟨ls, hls, hbk⟩ := open_ps h1
  have hbound := bulk_bound hk
  simp only [List.append_nil, Rows.uptoBulkAll, Rows.uptoBulk] at hbound
  clear hA0
  refine (walk bin hls (by omega)).mono fun e W' ⟨he, bel⟩ => ?_
  subst he
  exact ⟨_, rfl, _, _, _, [], _, [], hW', trodAll_mk1 (shut_bool Try.underlying4 _), (trodAll_cons_mk (shut_bool Try.underlying4 _) (trodAll_cons_mk (Below.trod laidOut (by kernel_rfl) (of_decide_eq_true (by kernel_rfl)) k1 bel lt1) trodAll_mk0)), rfl, bel.frame _, fun h => by cases h⟩

set_option maxRecDepth 100000 in
theorem lifted (os : Os) (started : os.Started) (H : Type) (enc : TypeId × Value → H) (F : Stop.Interp) :
    ReturnsInHanded {} Try.checked os 8 .any ((Rows.OpenSpec.upto Rows.fnNeededSpec).pre6 enc Try.prog Try.f8 Rows.fnNeededUptoRow.domain false) (((Rows.OpenSpec.upto Rows.fnNeededSpec).at F).post enc Try.prog Try.f8 false true false false) := by
  refine returnsInHanded_of_cond (C := Try.checked) (s := Rows.OpenSpec.upto Rows.fnNeededSpec) (k := Rows.uptoSmall) rfl own started (by kernel_rfl) Try.func8
    (OpenSpec.witness (enc := enc) (C := Try.checked) (s := Rows.OpenSpec.upto Rows.fnNeededSpec) (k := Rows.uptoSmall) rfl false ⟨#[], #[.bool false, .slice none 0 0], []⟩ 8 (by kernel_rfl) (by kernel_rfl) (by kernel_rfl)
      (x := ([.lit (.bool false), .nil], [], [])) (by kernel_rfl) rfl (by kernel_rfl)) ?_
  intro W base args ds gs before hval hW _ hk _
  exact contract H enc W base args ds gs before hval hW hk

theorem proved : Rows.FnNeededUptoSaid :=
  OpenClaim.holds_of_cond 8 Try.f8 rfl rfl rfl rfl rfl rfl rfl ⟨rfl, rfl, rfl, rfl, rfl⟩ rfl rfl rfl rfl rfl (by kernel_rfl) Try.func8 (by kernel_rfl)
    (of_decide_eq_true (by kernel_rfl)) (by unfold Func.isWrapper; first | (rw [if_pos (by decide +kernel)]; kernel_rfl) | (rw [if_neg (by decide +kernel)]; exact ⟨rfl, rfl⟩))
    (fun os started H enc _ F => lifted os started H enc F)
end Go.Proofs.Ytigebhmdplcciaa.fnNeeded

/- THE LAW FnPieces: for all data of bulk at most 1048576, in whatever parts: what Encode returns does not depend on how the data are cut, and it is not empty where the data are not. No condition. -/
import Derived.Test.YtigebhmdplcciaaOpen
namespace Go.Proofs.Ytigebhmdplcciaa.fnPieces
open Go.ChangeShapes Go.WideShapes Go.ChangeAt Go.RowKit Qp

theorem Ps.one {w : World} {v : Value} {l : List UInt8} (h : Bs w v l) : Ps (w.alloc (.cells #[v] 24)) (.slice (some ⟨w.heap.size, 0, none⟩) 1 1) [l] := by
  refine ⟨_, 1, rfl, Nat.le_refl _, by omega, fun _ => ⟨w.heap.size, 0, rfl, fun k hk => ?_⟩⟩
  have hk0 : k = 0 := by simpa using hk
  subst hk0
  refine ⟨v, ?_, h.below ((Below.refl _ _).alloc (Nat.le_refl _) _)⟩
  rw [Lib.cell_of_heap (heap_alloc_new w _)]
  rfl

theorem Bs.shape {w : World} {v : Value} {l : List UInt8} (h : Bs w v l) : ∃ ao cap, v = .slice ao l.length cap := by
  obtain ⟨ao, cap, h, _⟩ := h; exact ⟨ao, cap, h⟩

set_option maxHeartbeats 1600000 in
theorem walk {w : World} {v : Value} {ls : List (List UInt8)} (bin : Bool) (h : Ps w v ls) (hlim : ls.flatten.length + ls.length ≤ 1048576) :
    Calls Try.prog 3 #[.bool bin, v] w fun e w' => e = .returned (.bool true) ∧ Below w.heap.size w w' := by
  have hz := Lib.hid (zzFits_any h (by omega) (fun l hl => by
    have : l.length ≤ ls.flatten.length := by
      obtain ⟨s, t, rfl⟩ := List.append_of_mem hl
      simp
      omega
    omega))
  have hj0 := Join_any h (by omega)
  have he0 := fun (w2 : World) (hb : Below w.heap.size w w2) => Encode_any bin (h.below hb) (by omega)
  have hl2 := hlim
  obtain ⟨fl, hfl⟩ : ∃ fl, fl = ls.flatten := ⟨_, rfl⟩
  rw [← hfl] at hj0 he0 hl2
  have hj := Lib.hid hj0
  have he := Lib.hid he0
  obtain ⟨ao, cap, rfl, hlc, hcm, -⟩ := h.at
  clear h hlim hj0 he0 hfl
  go_enter Try.func3, Try.ntmps3
  go_wp2_with (go_at_call 9; refine hz.out.mono ?_; rintro e w' ⟨rfl, rfl⟩)
  go_wp2_with fail
  refine hj.out.mono ?_
  rintro e w1 ⟨v1, rfl, h1, hb1⟩
  have hone := Ps.one h1
  have hE := Encode_any bin hone (by rw [List.flatten_cons, List.flatten_nil, List.append_nil]; omega)
  rw [List.flatten_cons, List.flatten_nil, List.append_nil] at hE
  obtain ⟨ao1, cap1, rfl⟩ := Bs.shape h1
  have HE := Lib.hid hE
  have H1 := Lib.hid h1
  have HB1 := Lib.hid hb1
  clear h1 hone hb1 hE
  go_wp2_with fail
  refine HE.out.mono ?_
  rintro e w2 ⟨v2, rfl, h2, hb2⟩
  have hb02 : Below w.heap.size w w2 := HB1.out.trans (((Below.refl _ _).alloc HB1.out.size _).trans (hb2.mono (by rw [World.size_alloc]; have := HB1.out.size; omega)))
  have HE2 := Lib.hid (he.out w2 hb02)
  have hne : ¬ fl = [] → 0 < (encode bin fl).length := fun hd => List.length_pos_iff.2 (encode_ne bin fl hd)
  obtain ⟨en, hen⟩ : ∃ en, en = encode bin fl := ⟨_, rfl⟩
  rw [← hen] at h2 HE2 hne
  obtain ⟨ao2, cap2, rfl⟩ := Bs.shape h2
  have H2 := Lib.hid h2
  have HB2 := Lib.hid hb02
  have HNE := Lib.hid hne
  clear h2 hb2 hb02 hen hne
  go_wp2_with fail
  refine HE2.out.mono ?_
  rintro e w3 ⟨v3, rfl, h3, hb3⟩
  have hs := same_any h3 (H2.out.below hb3)
  rw [beq_self_eq_true] at hs
  obtain ⟨ao3, cap3, rfl⟩ := Bs.shape h3
  have HS := Lib.hid hs
  have HB3 := Lib.hid (HB2.out.trans (hb3.mono HB2.out.size))
  clear h3 hb3 hs
  by_cases hd : fl = []
  · have hd0 : ((fl.length : Int) == 0) = true := by rw [hd]; rfl
    clear hd
    go_wp2_with (go_at_call 12; refine HS.out.mono ?_; rintro e w' ⟨rfl, rfl⟩)
    go_ret
    exact ⟨rfl, HB3.out⟩
  · have hnp := HNE.out hd
    have hdp := List.length_pos_iff.2 hd
    have hd0 : ((fl.length : Int) == 0) = false := by simp; exact hd
    clear hd
    go_wp2_with (go_at_call 12; refine HS.out.mono ?_; rintro e w' ⟨rfl, rfl⟩)
    go_ret
    exact ⟨rfl, HB3.out⟩

/-- THE LAW's CONTRACT. -/
theorem contract (H : Type) (enc : TypeId × Value → H) (W : World) (base : Nat) (args : Array Value) (ds gs : List (DataW H)) (before : List MemPlace)
    (hval : ∀ (j : Nat) t v, Try.f3.params[j]? = some t → args[j]? = some v → Value.okWide Try.prog W .any base t v)
    (hW : DataW.Whole enc Try.prog Try.f3.params.toList Rows.fnPiecesSpec.vars false W args.toList ds gs before) (hk : Rows.uptoSmall H (ds ++ gs) = true) :
    Calls Try.prog 3 args W fun e W' => ∃ v, e = .returned v ∧ Rows.fnPiecesSpec.post enc Try.prog Try.f3 false true false false W args v W' := by
  have hW' := hW
  obtain ⟨p, q, hA0, hV, rfl, hfz, hnd⟩ := hW
  have hA : DataW.TrodAll enc Try.prog W 0 (fun _ => true) true Try.f3.params.toList args.toList ds p := hA0
  rw [Try.params3] at hA hval
  obtain ⟨v0, vs0, d0, ds0, p0, q0, hargs, rfl, rfl, h0, r0⟩ := trodAll_cons hA
  obtain ⟨v1, vs1, d1, ds1, p1, q1, rfl, rfl, rfl, h1, r1⟩ := trodAll_cons r0
  obtain ⟨rfl, rfl, rfl⟩ := trodAll_nil r1
  obtain rfl : args = #[v0, v1] := by cases args; simp_all
  obtain ⟨rfl, rfl⟩ := trodVars_none hV
  obtain ⟨bin, rfl, rfl, rfl⟩ := open_bool Try.underlying4 (hval 0 4 v0 rfl rfl) h0
  obtain ⟨a1, len1, cap1, rfl⟩ := okWide_slice Try.underlying22 (hval 1 22 v1 rfl rfl)
  have k1 := h1
  have lt1 : ∀ x ∈ p1, x.block < W.heap.size := by obtain ⟨m, hm⟩ := k1; exact DataW.trod_lt m _ _ _ hm
  obtain ⟨ls, hls, hbk⟩ := open_ps h1
  have hbound := bulk_bound hk
  simp only [List.append_nil, Rows.uptoBulkAll, Rows.uptoBulk] at hbound
  clear hA0
  refine (walk bin hls (by omega)).mono fun e W' ⟨he, bel⟩ => ?_
  subst he
  exact ⟨_, rfl, _, _, _, [], _, [], hW', trodAll_mk1 (shut_bool Try.underlying4 _), (trodAll_cons_mk (shut_bool Try.underlying4 _) (trodAll_cons_mk (Below.trod laidOut (by kernel_rfl) (of_decide_eq_true (by kernel_rfl)) k1 bel lt1) trodAll_mk0)), rfl, bel.frame _, fun h => by cases h⟩

set_option maxRecDepth 100000 in
theorem lifted (os : Os) (started : os.Started) (H : Type) (enc : TypeId × Value → H) (F : Stop.Interp) :
    ReturnsInHanded {} Try.checked os 3 .any ((Rows.OpenSpec.upto Rows.fnPiecesSpec).pre6 enc Try.prog Try.f3 Rows.fnPiecesUptoRow.domain false) (((Rows.OpenSpec.upto Rows.fnPiecesSpec).at F).post enc Try.prog Try.f3 false true false false) := by
  refine returnsInHanded_of_cond (C := Try.checked) (s := Rows.OpenSpec.upto Rows.fnPiecesSpec) (k := Rows.uptoSmall) rfl own started (by kernel_rfl) Try.func3
    (OpenSpec.witness (enc := enc) (C := Try.checked) (s := Rows.OpenSpec.upto Rows.fnPiecesSpec) (k := Rows.uptoSmall) rfl false ⟨#[], #[.bool false, .slice none 0 0], []⟩ 8 (by kernel_rfl) (by kernel_rfl) (by kernel_rfl)
      (x := ([.lit (.bool false), .nil], [], [])) (by kernel_rfl) rfl (by kernel_rfl)) ?_
  intro W base args ds gs before hval hW _ hk _
  exact contract H enc W base args ds gs before hval hW hk

theorem proved : Rows.FnPiecesUptoSaid :=
  OpenClaim.holds_of_cond 3 Try.f3 rfl rfl rfl rfl rfl rfl rfl ⟨rfl, rfl, rfl, rfl, rfl⟩ rfl rfl rfl rfl rfl (by kernel_rfl) Try.func3 (by kernel_rfl)
    (of_decide_eq_true (by kernel_rfl)) (by unfold Func.isWrapper; first | (rw [if_pos (by decide +kernel)]; kernel_rfl) | (rw [if_neg (by decide +kernel)]; exact ⟨rfl, rfl⟩))
    (fun os started H enc _ F => lifted os started H enc F)
end Go.Proofs.Ytigebhmdplcciaa.fnPieces

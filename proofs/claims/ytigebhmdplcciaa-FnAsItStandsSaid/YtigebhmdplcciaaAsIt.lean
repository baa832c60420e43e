/- THE LAW FnAsItStands: for all bytes, of whatever length: a text that is all tokens, with no blank at the end of a line, no escape and no soft line break, and lines of at most 75 bytes, is written as it stands in the mode that is not binary. No condition. -/
import Derived.Test.YtigebhmdplcciaaBlank
import Derived.Test.YtigebhmdplcciaaOpen
namespace Go.Proofs.Ytigebhmdplcciaa.fnAsItStands
open Go.ChangeShapes Go.WideShapes Go.ChangeAt Go.RowKit Qp

theorem Ps.one {w : World} {v : Value} {l : List UInt8} (h : Bs w v l) : Ps (w.alloc (.cells #[v] 24)) (.slice (some ⟨w.heap.size, 0, none⟩) 1 1) [l] := by
  refine ⟨_, 1, rfl, Nat.le_refl _, by omega, fun _ => ⟨w.heap.size, 0, rfl, fun k hk => ?_⟩⟩
  have hk0 : k = 0 := by simpa using hk
  subst hk0
  refine ⟨v, ?_, h.below ((Below.refl _ _).alloc (Nat.le_refl _) _)⟩
  rw [Lib.cell_of_heap (heap_alloc_new w _)]
  rfl

theorem Ts.shape {w : World} {v : Value} {l : List Tok} (h : Ts w v l) : ∃ ao cap, v = .slice ao l.length cap := by
  obtain ⟨ao, cap, h, _⟩ := h.at; exact ⟨ao, cap, h⟩

set_option maxHeartbeats 1600000 in
theorem walk {w : World} {v : Value} {l : List UInt8} (h : Bs w v l) :
    Calls Try.prog 4 #[v] w fun e w' => e = .returned (.bool true) ∧ Below w.heap.size w w' := by
  by_cases hbig : 2147483647 < l.length
  · obtain ⟨ao, cap, rfl⟩ := Bs.shape h
    clear h
    go_enter Try.func4, Try.ntmps4
    go_wp2
    go_ret
    exact ⟨rfl, Below.refl _ _⟩
  have HT := Lib.hid (Tokens_any h (by omega))
  have H := Lib.hid h
  obtain ⟨ao, cap, rfl⟩ := Bs.shape h
  clear h
  go_enter Try.func4, Try.ntmps4
  go_wp2_with fail
  refine HT.out.mono ?_
  rintro e w1 ⟨hb1, hm⟩
  cases hto : tokens l with
  | none =>
    rw [hto] at hm
    subst hm
    have HB := Lib.hid hb1
    clear hb1 hto
    go_wp2
    go_ret
    exact ⟨rfl, HB.out⟩
  | some ts =>
    rw [hto] at hm
    obtain ⟨v1, rfl, h1⟩ := hm
    have HB1 := Lib.hid (BlankEnds_any h1)
    obtain ⟨ao1, cap1, rfl⟩ := Ts.shape h1
    have H1 := Lib.hid h1
    have HB := Lib.hid hb1
    have HTO := Lib.hid hto
    clear h1 hb1 hto
    go_wp2_with fail
    refine HB1.out.mono ?_
    rintro e w2 ⟨rfl, hb2⟩
    have HB02 := Lib.hid (HB.out.trans (hb2.mono HB.out.size))
    cases hbe : blankEnds ts with
    | true =>
      clear hb2
      go_wp2
      go_ret
      exact ⟨rfl, HB02.out⟩
    | false =>
      have HS := Lib.hid (Short_any (H1.out.below hb2))
      clear hb2
      go_wp2_with fail
      refine HS.out.mono ?_
      rintro e w3 ⟨rfl, hb3⟩
      have hb03 := HB02.out.trans (hb3.mono HB02.out.size)
      have HB03 := Lib.hid hb03
      cases hsh : short 0 ts with
      | false =>
        clear hb3 hb03
        go_wp2
        go_ret
        exact ⟨rfl, HB03.out⟩
      | true =>
        have henc := encode_asItStands HTO.out hbe hsh
        have hone := Ps.one (H.out.below hb03)
        have hE := Encode_any false hone (by rw [List.flatten_cons, List.flatten_nil, List.append_nil]; omega)
        rw [List.flatten_cons, List.flatten_nil, List.append_nil, henc] at hE
        have HE := Lib.hid hE
        clear hb3 hb03 henc hone hE hbe hsh
        go_wp2_with fail
        refine HE.out.mono ?_
        rintro e w4 ⟨v4, rfl, h4, hb4⟩
        have hb04 : Below w.heap.size w w4 := HB03.out.trans (((Below.refl _ _).alloc HB03.out.size _).trans (hb4.mono (by rw [World.size_alloc]; have := HB03.out.size; omega)))
        have hs := same_any h4 (H.out.below hb04)
        rw [beq_self_eq_true] at hs
        obtain ⟨ao4, cap4, rfl⟩ := Bs.shape h4
        have HS4 := Lib.hid hs
        have HB4 := Lib.hid hb04
        clear hs h4 hb4 hb04
        go_wp2_with (go_at_call 12; refine HS4.out.mono ?_; rintro e w' ⟨rfl, rfl⟩)
        go_ret
        exact ⟨rfl, HB4.out⟩

set_option maxRecDepth 100000 in
theorem lifted (os : Os) (started : os.Started) (H : Type) (enc : TypeId × Value → H) :
    ReturnsInHanded {} Try.checked os 4 .any (Rows.fnAsItStandsSpec.pre6 enc Try.prog Try.f4 Rows.fnAsItStandsRow.domain false) (Rows.fnAsItStandsSpec.post enc Try.prog Try.f4 false true false false) := by
  refine returnsInHanded_of_change (C := Try.checked) own started (by kernel_rfl) Try.func4
    (ChangeSpec.witness6 (enc := enc) (C := Try.checked) false ⟨#[], #[.slice none 0 0], []⟩ 8 (by kernel_rfl) (by kernel_rfl) (by kernel_rfl) (by kernel_rfl)) ?_
  intro W base args ds gs before hval0 hW hcnd _
  have hval : ∀ (j : Nat) t v, Try.f4.params[j]? = some t → args[j]? = some v → Value.okWide Try.prog W .any base t v := hval0
  have hW' := hW
  obtain ⟨p, q, hA0, hV, rfl, hfz, hnd⟩ := hW
  have hA : DataW.TrodAll enc Try.prog W 0 (fun _ => true) true Try.f4.params.toList args.toList ds p := hA0
  rw [Try.params4] at hA hval
  obtain ⟨v0, vs0, d0, ds0, p0, q0, hargs, rfl, rfl, h0, r0⟩ := trodAll_cons hA
  obtain ⟨rfl, rfl, rfl⟩ := trodAll_nil r0
  obtain rfl : args = #[v0] := by cases args; simp_all
  obtain ⟨rfl, rfl⟩ := trodVars_none hV
  obtain ⟨a0, len0, cap0, rfl⟩ := okWide_slice Try.underlying24 (hval 0 24 v0 rfl rfl)
  have k0 := h0
  have lt0 : ∀ x ∈ p0, x.block < W.heap.size := by obtain ⟨m, hm⟩ := k0; exact DataW.trod_lt m _ _ _ hm
  obtain ⟨l, hl, _⟩ := open_bs h0
  clear hA0 hval0
  refine (walk hl).mono fun e W' ⟨he, bel⟩ => ?_
  subst he
  exact ⟨_, rfl, _, _, _, [], _, [], hW', trodAll_mk1 (shut_bool Try.underlying4 _), (trodAll_cons_mk (Below.trod laidOut (by kernel_rfl) (of_decide_eq_true (by kernel_rfl)) k0 bel lt0) trodAll_mk0), rfl, bel.frame _, fun h => by cases h⟩

theorem proved : Rows.FnAsItStandsSaid :=
  OpenClaim.holds_of_wide 4 Try.f4 rfl rfl rfl rfl rfl rfl rfl ⟨rfl, rfl, rfl, rfl, rfl⟩ rfl rfl rfl rfl rfl (by kernel_rfl) Try.func4 (by kernel_rfl)
    (of_decide_eq_true (by kernel_rfl)) (by unfold Func.isWrapper; first | (rw [if_pos (by decide +kernel)]; kernel_rfl) | (rw [if_neg (by decide +kernel)]; exact ⟨rfl, rfl⟩))
    (fun os started H enc _ => lifted os started H enc)
end Go.Proofs.Ytigebhmdplcciaa.fnAsItStands

/- THE LAW FnJoin: for all bytes, of whatever length: an encoded text behind another one that is empty or ends with a line break decodes to what both give. No condition. -/
import Derived.Test.YthfkgancjpdodaaDoorCm
import Derived.Test.YthfkgancjpdodaaDoorFacts
import Derived.Test.YthfkgancjpdodaaDoorBlank
namespace Go.Proofs.YthfkgancjpdodaaDoor.fnJoin
open Go.ChangeShapes Go.WideShapes Go.ChangeAt Go.RowKit Qp

theorem own_lt {w : World} {B e s n : Nat} {v : Value} {xs : List Value} (h : w.ownsRow B e s v n xs) : ∀ g, v.ownBlock = some g → g < w.heap.size := by
  intro g hg
  rcases h.2 with ⟨rfl, _⟩ | ⟨g', cap, cur, rfl, h1, h2, h3⟩
  · cases hg
  · injection hg with hg
    subst hg
    exact Lib.lt_of_heap h2

theorem join1 {w w4 w5 : World} {v1 v' : Value} {l m : List UInt8} (hb : Below w.heap.size w w4) (h1 : Bs w v1 m) (ho : w5.ownsRow w4.heap.size 5 1 v' ([] ++ l).length (Lib.byteCells ([] ++ l))) (hk : Keep (fun k => w4.heap.size ≤ k) (w4.alloc (.cells #[] 5)) w5) :
    Below w.heap.size w w5 ∧ w5.ownsRow w4.heap.size 5 1 v' l.length (Lib.byteCells l) ∧ Bs w5 v1 m ∧ w4.heap.size ≤ w5.heap.size ∧ Below w4.heap.size w4 w5 := by
  rw [List.nil_append] at ho
  have hs := hk.size
  rw [World.size_alloc] at hs
  have h4 : Below w4.heap.size w4 w5 := below_keep ((Below.refl _ _).alloc (Nat.le_refl _) _) hk (Nat.le_refl _)
  have h5 : Below w.heap.size w w5 := hb.trans (h4.mono hb.size)
  exact ⟨h5, ho, h1.below h5, h4.size, h4⟩
theorem join2 {w w4 w5 w6 : World} {v' : Value} {l : List UInt8} (hb : Below w.heap.size w w4) (hb5 : Below w4.heap.size w4 w5) (ho : w6.ownsRow w4.heap.size 5 1 v' l.length (Lib.byteCells l)) (hk : Keep (fun k => w4.heap.size ≤ k) w5 w6) :
    Below w.heap.size w w6 ∧ Bs w6 v' l ∧ Below w4.heap.size w4 w6 := by
  have h4 : Below w4.heap.size w4 w6 := below_keep hb5 hk (Nat.le_refl _)
  exact ⟨hb.trans (h4.mono hb.size), Bs.of_own ho, h4⟩
theorem join3 {w w2 w3 w6 w7 w8 : World} {x got v8 : Value} {l : List UInt8} (hg : w7.ownsRow w6.heap.size 5 1 got l.length (Lib.byteCells l)) (h8 : w8.ownsRow w2.heap.size 5 1 v8 l.length (Lib.byteCells l)) (hk : Keep (fun k => x.ownBlock = some k) w7 w8) (hkB : Keep (fun k => w2.heap.size ≤ k) w7 w8)
    (hlt : ∀ g, x.ownBlock = some g → g < w3.heap.size) (h36 : w3.heap.size ≤ w6.heap.size) (hb : Below w.heap.size w w7) (h02 : w.heap.size ≤ w2.heap.size) :
    Below w.heap.size w w8 ∧ Calls Tryd.prog 23 #[got, v8] w8 fun e w' => e = .returned (.bool true) ∧ w8 = w' := by
  refine ⟨below_keep hb hkB h02, ?_⟩
  have hs := same_any (Bs.of_own (own_keep hg hk (fun g hg' e => by have := hlt g e; omega))) (Bs.of_own h8)
  rw [beq_self_eq_true] at hs
  exact hs

set_option maxRecDepth 100000 in
set_option maxHeartbeats 6400000 in
theorem walk {w : World} {ea : Addr} {v0 v1 : Value} {l m : List UInt8} (he : EofW w ea) (h0 : Bs w v0 l) (h1 : Bs w v1 m) :
    Calls Tryd.prog 13 #[v0, v1] w fun e w' => e = .returned (.bool true) ∧ Below w.heap.size w w' := by
  by_cases hbig0 : 2147483647 < l.length
  · obtain ⟨ao, cap, rfl⟩ := Bs.shape h0
    obtain ⟨ao1, cap1, rfl⟩ := Bs.shape h1
    clear h0 h1 he
    go_enter Tryd.func13, Tryd.ntmps13
    go_wp2
    go_ret
    exact ⟨rfl, Below.refl _ _⟩
  by_cases hbig1 : 2147483647 < m.length
  · obtain ⟨ao, cap, rfl⟩ := Bs.shape h0
    obtain ⟨ao1, cap1, rfl⟩ := Bs.shape h1
    clear h0 h1 he
    go_enter Tryd.func13, Tryd.ntmps13
    go_wp2
    go_ret
    exact ⟨rfl, Below.refl _ _⟩
  have HT := Lib.hid (Tokens_any h0 (by omega))
  have HT1 := Lib.hid (fun (w2 : World) (hb : Below w.heap.size w w2) => Tokens_any (h1.below hb) (by omega))
  have H0 := Lib.hid h0
  have H1 := Lib.hid h1
  have HE := Lib.hid he
  obtain ⟨ao, cap, rfl⟩ := Bs.shape h0
  obtain ⟨ao1, cap1, rfl⟩ := Bs.shape h1
  clear h0 h1 he
  go_enter Tryd.func13, Tryd.ntmps13
  go_wp2_with fail
  refine HT.out.mono ?_
  rintro e w1 ⟨hb1, hm⟩
  have HB1 := Lib.hid hb1
  cases hto : tokens l with
  | none =>
    rw [hto] at hm
    subst hm
    clear hb1 hto
    go_wp2_with fail
    refine (HT1.out w1 HB1.out).mono ?_
    rintro e w2 ⟨hb2, hm2⟩
    have HB2 := Lib.hid (HB1.out.trans (hb2.mono HB1.out.size))
    cases hto2 : tokens m with
    | none =>
      rw [hto2] at hm2
      subst hm2
      clear hb2 hto2
      go_wp2
      go_ret
      exact ⟨rfl, HB2.out⟩
    | some lt =>
      rw [hto2] at hm2
      obtain ⟨v2, rfl, -⟩ := hm2
      clear hb2 hto2
      go_wp2
      go_ret
      exact ⟨rfl, HB2.out⟩
  | some ls =>
    rw [hto] at hm
    obtain ⟨v2, rfl, h2⟩ := hm
    have H2 := Lib.hid h2
    have HTO := Lib.hid hto
    clear h2 hb1 hto
    go_wp2_with fail
    refine (HT1.out w1 HB1.out).mono ?_
    rintro e w2 ⟨hb2, hm2⟩
    have HB2 := Lib.hid (HB1.out.trans (hb2.mono HB1.out.size))
    have H22 := Lib.hid (H2.out.below hb2)
    cases hto2 : tokens m with
    | none =>
      rw [hto2] at hm2
      subst hm2
      clear hb2 hto2
      obtain ⟨ao2, cap2, rfl⟩ := Ts.shape H2.out
      go_wp2
      go_ret
      exact ⟨rfl, HB2.out⟩
    | some lt =>
      rw [hto2] at hm2
      obtain ⟨v3, rfl, h3⟩ := hm2
      obtain ⟨ao3, cap3, rfl⟩ := Ts.shape h3
      have HTO2 := Lib.hid hto2
      clear h3 hb2 hto2 H2
      have hlen := tokens_len HTO.out
      obtain ⟨va, vb, HDEC⟩ : ∃ va vb : List UInt8, Hid (ended ls → (∀ (w3 : World), Below w.heap.size w w3 → Calls Tryd.prog 21 #[.slice ao l.length cap] w3 (DecOwn va w3)) ∧ (∀ (w3 : World), Below w.heap.size w w3 → Calls Tryd.prog 21 #[.slice ao1 m.length cap1] w3 (DecOwn vb w3)) ∧
          (∀ (w3 : World) (v3 : Value), Below w.heap.size w w3 → Bs w3 v3 (l ++ m) → Calls Tryd.prog 21 #[v3] w3 (DecOwn (va ++ vb) w3)) ∧ va.length + vb.length ≤ 8589934592) := ⟨value ls, value lt, fun hend => by
        have d1 := decode_tokens HTO.out
        have d2 := decode_tokens HTO2.out
        have d3 := law_join HTO.out HTO2.out hend
        refine ⟨fun w3 hb => Decode_own (H0.out.below hb) (HE.out.below hb).eof (HE.out.below hb).lt d1 (by omega), fun w3 hb => Decode_own (H1.out.below hb) (HE.out.below hb).eof (HE.out.below hb).lt d2 (by omega),
          fun w3 v3 hb h3 => Decode_own h3 (HE.out.below hb).eof (HE.out.below hb).lt d3 (by simp <;> omega), ?_⟩
        have s1 := decode_size l
        have s2 := decode_size m
        rw [d1] at s1
        rw [d2] at s2
        simp only at s1 s2
        omega⟩
      clear HTO HTO2 HT HT1 HE
      rcases List.eq_nil_or_concat ls with e | ⟨r, t, e⟩
      · subst e
        obtain ⟨ao2, cap2, rfl⟩ := Ts.shape H22.out
        clear H22
        obtain ⟨HD1, HD2, HD3, hsz⟩ := HDEC.out (.inl rfl)
        clear HDEC hlen
        go_wp2_with fail
        refine (HD1 w2 HB2.out).mono ?_
        rintro e w3 ⟨x, rfl, hx, hb3⟩
        have HX := Lib.hid hx
        have HB3 := Lib.hid (HB2.out.trans (hb3.mono HB2.out.size))
        have hs3 := hb3.size
        clear hx
        go_wp2_with fail
        refine (HD2 w3 HB3.out).mono ?_
        rintro e w4 ⟨y, rfl, hy, hb4⟩
        have HX4 := Lib.hid (own_below HX.out hb4)
        have HXL := Lib.hid (own_lt HX.out)
        have HY := Lib.hid (Bs.of_own hy)
        have HB4 := Lib.hid (HB3.out.trans (hb4.mono HB3.out.size))
        have hs4 := hb4.size
        clear hy hb4 hb3 HX
        have hsz0 : w4.heap.size ≤ (w4.alloc (.cells #[] 5)).heap.size := by rw [World.size_alloc]; omega
        have HBA := Lib.hid (HB4.out.alloc HB4.out.size (.cells #[] 5))
        have HLA := Lib.hid (H0.out.below HBA.out)
        have HO0 := Lib.hid (own_empty w4)
        have hl0 : (([] : List UInt8).length + l.length ≤ 140737488355328) := by simp; omega
        have hl1 : (l.length + m.length ≤ 140737488355328) := by omega
        have hs42 : w2.heap.size ≤ w4.heap.size := by omega
        have hs02 := HB2.out.size
        go_wp2_with (first | (at_builtin; refine wpList_append_bs (by rfl) (.tmp 75) (.tmp 76) rfl w4.heap.size _ _ (by rfl) (by rfl) HO0.out HLA.out hl0 hsz0 ?_; intro v' w5 ho5 hk5 _; have HN := Lib.hid (join1 HB4.out H1.out ho5 hk5); clear ho5 hk5) | (at_builtin; refine wpList_append_bs (by rfl) (.tmp 77) (.tmp 78) rfl w4.heap.size _ _ (by rfl) (by rfl) HN.out.2.1 HN.out.2.2.1 hl1 HN.out.2.2.2.1 ?_; intro v'' w6 ho6 hk6 _; have HM := Lib.hid (join2 HB4.out HN.out.2.2.2.2 ho6 hk6); clear ho6 hk6))
        refine (HD3 w6 v'' HM.out.1 HM.out.2.1).mono ?_
        rintro e w7 ⟨got, rfl, hg, hb7⟩
        have HB7 := Lib.hid (HM.out.1.trans (hb7.mono HM.out.1.size))
        have HG := Lib.hid hg
        have h47 := HM.out.2.2.trans (hb7.mono HM.out.2.2.size)
        have HX7 := Lib.hid (own_below HX4.out h47)
        have HY7 := Lib.hid (HY.out.below h47)
        have hs27 : w2.heap.size ≤ w7.heap.size := by have := h47.size; omega
        have hs36 : w3.heap.size ≤ w6.heap.size := by have := HM.out.2.2.size; omega
        have hsz' : va.length + vb.length ≤ 140737488355328 := by omega
        clear hg hb7 h47 HN HO0 HLA HBA hsz0 HX4 HY HD1 HD2 HD3 hs3 hs4 hl0 hl1 hs42
        go_wp2_with (first | (at_builtin; refine wpList_append_bs (by rfl) (.tmp 92) (.tmp 93) rfl w2.heap.size _ _ (by rfl) (by rfl) HX7.out HY7.out hsz' hs27 ?_; intro v8 w8 ho8 hk8 hk8'; have HS := Lib.hid (join3 HG.out ho8 hk8' hk8 HXL.out hs36 HB7.out hs02); clear ho8 hk8 hk8') | (go_at_call 23; refine HS.out.2.mono ?_; rintro e w' ⟨rfl, rfl⟩))
        go_ret
        exact ⟨rfl, HS.out.1⟩
      · rw [List.concat_eq_append] at e
        subst e
        obtain ⟨ao2, cap2, hv1, hlc1, hcm1, hat⟩ := H22.out.at
        subst hv1
        obtain ⟨b, off, a1, n1, c1, a2, n2, c2, hao, q0, q1, q2, -, -⟩ := hat r.length (by simp)
        subst hao
        have hkt : (r ++ [t])[r.length].kind = t.kind := by simp
        rw [hkt] at q0
        obtain ⟨kd, hkd⟩ : ∃ kd, kd = t.kind := ⟨_, rfl⟩
        rw [← hkd] at q0
        have HKD := Lib.hid hkd
        have hlq : (r ++ [t]).length = r.length + 1 := by simp
        rw [hlq] at hlc1 hlen ⊢
        obtain ⟨q, hq⟩ : ∃ q, q = r.length := ⟨_, rfl⟩
        rw [← hq] at q0 q1 q2 hlc1 hlen ⊢
        clear hkt hkd hlq hq hat H22
        by_cases hk : kd = 5 ∨ kd = 4
        case neg =>
          rw [not_or] at hk
          have i1 : ¬ (kd : Int) = 5 := by omega
          have i3 : ¬ (kd : Int) = 4 := by omega
          have j1 : ((kd : Int) != 5) = true := by simpa using i1
          have j3 : ((kd : Int) != 4) = true := by simpa using i3
          clear hk H0 H1 HDEC
          go_wp2
          go_ret
          exact ⟨rfl, HB2.out⟩
        obtain ⟨HD1, HD2, HD3, hsz⟩ := HDEC.out (.inr ⟨r, t, rfl, by unfold isEnd; rw [← HKD.out]; rcases hk with rfl | rfl <;> rfl⟩)
        clear HDEC HKD hlen
        rcases hk with rfl | rfl
        all_goals
          go_wp2_with fail
          refine (HD1 w2 HB2.out).mono ?_
          rintro e w3 ⟨x, rfl, hx, hb3⟩
          have HX := Lib.hid hx
          have HB3 := Lib.hid (HB2.out.trans (hb3.mono HB2.out.size))
          have hs3 := hb3.size
          clear hx
          go_wp2_with fail
          refine (HD2 w3 HB3.out).mono ?_
          rintro e w4 ⟨y, rfl, hy, hb4⟩
          have HX4 := Lib.hid (own_below HX.out hb4)
          have HXL := Lib.hid (own_lt HX.out)
          have HY := Lib.hid (Bs.of_own hy)
          have HB4 := Lib.hid (HB3.out.trans (hb4.mono HB3.out.size))
          have hs4 := hb4.size
          clear hy hb4 hb3 HX
          have hsz0 : w4.heap.size ≤ (w4.alloc (.cells #[] 5)).heap.size := by rw [World.size_alloc]; omega
          have HBA := Lib.hid (HB4.out.alloc HB4.out.size (.cells #[] 5))
          have HLA := Lib.hid (H0.out.below HBA.out)
          have HO0 := Lib.hid (own_empty w4)
          have hl0 : (([] : List UInt8).length + l.length ≤ 140737488355328) := by simp; omega
          have hl1 : (l.length + m.length ≤ 140737488355328) := by omega
          have hs42 : w2.heap.size ≤ w4.heap.size := by omega
          have hs02 := HB2.out.size
          go_wp2_with (first | (at_builtin; refine wpList_append_bs (by rfl) (.tmp 75) (.tmp 76) rfl w4.heap.size _ _ (by rfl) (by rfl) HO0.out HLA.out hl0 hsz0 ?_; intro v' w5 ho5 hk5 _; have HN := Lib.hid (join1 HB4.out H1.out ho5 hk5); clear ho5 hk5) | (at_builtin; refine wpList_append_bs (by rfl) (.tmp 77) (.tmp 78) rfl w4.heap.size _ _ (by rfl) (by rfl) HN.out.2.1 HN.out.2.2.1 hl1 HN.out.2.2.2.1 ?_; intro v'' w6 ho6 hk6 _; have HM := Lib.hid (join2 HB4.out HN.out.2.2.2.2 ho6 hk6); clear ho6 hk6))
          refine (HD3 w6 v'' HM.out.1 HM.out.2.1).mono ?_
          rintro e w7 ⟨got, rfl, hg, hb7⟩
          have HB7 := Lib.hid (HM.out.1.trans (hb7.mono HM.out.1.size))
          have HG := Lib.hid hg
          have h47 := HM.out.2.2.trans (hb7.mono HM.out.2.2.size)
          have HX7 := Lib.hid (own_below HX4.out h47)
          have HY7 := Lib.hid (HY.out.below h47)
          have hs27 : w2.heap.size ≤ w7.heap.size := by have := h47.size; omega
          have hs36 : w3.heap.size ≤ w6.heap.size := by have := HM.out.2.2.size; omega
          have hsz' : va.length + vb.length ≤ 140737488355328 := by omega
          clear hg hb7 h47 HN HO0 HLA HBA hsz0 HX4 HY HD1 HD2 HD3 hs3 hs4 hl0 hl1 hs42
          go_wp2_with (first | (at_builtin; refine wpList_append_bs (by rfl) (.tmp 92) (.tmp 93) rfl w2.heap.size _ _ (by rfl) (by rfl) HX7.out HY7.out hsz' hs27 ?_; intro v8 w8 ho8 hk8 hk8'; have HS := Lib.hid (join3 HG.out ho8 hk8' hk8 HXL.out hs36 HB7.out hs02); clear ho8 hk8 hk8') | (go_at_call 23; refine HS.out.2.mono ?_; rintro e w' ⟨rfl, rfl⟩))
          go_ret
          exact ⟨rfl, HS.out.1⟩

set_option maxRecDepth 100000 in
/-- THE LAW's CONTRACT. -/
theorem contract (H : Type) (enc : TypeId × Value → H) (W : World) (base : Nat) (args : Array Value) (ds gs : List (DataW H)) (before : List MemPlace)
    (hval : ∀ (j : Nat) t v, Tryd.f13.params[j]? = some t → args[j]? = some v → Value.okWide Tryd.prog W .any base t v)
    (hW : DataW.Whole enc Tryd.prog Tryd.f13.params.toList Rows.fnJoinSpec.vars false W args.toList ds gs before) (hL : laidMetH Tryd.prog Rows.fnJoinRow.laid W) :
    Calls Tryd.prog 13 args W fun e W' => ∃ v, e = .returned v ∧ Rows.fnJoinSpec.post enc Tryd.prog Tryd.f13 false true false false W args v W' := by
  obtain ⟨ea, he⟩ := eof_of_laid hL
  have hW' := hW
  obtain ⟨p, q, hA0, hV, rfl, hfz, hnd⟩ := hW
  have hA : DataW.TrodAll enc Tryd.prog W 0 (fun _ => true) true Tryd.f13.params.toList args.toList ds p := hA0
  rw [Tryd.params13] at hA hval
  obtain ⟨v0, vs0, d0, ds0, p0, q0, hargs0, rfl, rfl, h0, r0⟩ := trodAll_cons hA
  obtain ⟨v1, vs1, d1, ds1, p1, q1, hargs1, rfl, rfl, h1, r1⟩ := trodAll_cons r0
  obtain ⟨rfl, rfl, rfl⟩ := trodAll_nil r1
  subst hargs1
  obtain rfl : args = #[v0, v1] := by cases args; simp_all
  obtain ⟨rfl, rfl⟩ := trodVars_none hV
  obtain ⟨a0, len0, cap0, rfl⟩ := okWide_slice Tryd.underlying24 (hval 0 24 v0 rfl rfl)
  have k0 := h0
  have lt0 : ∀ x ∈ p0, x.block < W.heap.size := by obtain ⟨m, hm⟩ := k0; exact DataW.trod_lt m _ _ _ hm
  obtain ⟨l0, hl0, hbk0⟩ := open_bs h0
  obtain ⟨a1, len1, cap1, rfl⟩ := okWide_slice Tryd.underlying24 (hval 1 24 v1 rfl rfl)
  have k1 := h1
  have lt1 : ∀ x ∈ p1, x.block < W.heap.size := by obtain ⟨m, hm⟩ := k1; exact DataW.trod_lt m _ _ _ hm
  obtain ⟨l1, hl1, hbk1⟩ := open_bs h1
  clear hA0
  refine (walk he hl0 hl1).mono fun e W' ⟨he, bel⟩ => ?_
  subst he
  exact ⟨_, rfl, _, _, _, [], _, [], hW', trodAll_mk1 (shut_bool Tryd.underlying4 _), (trodAll_cons_mk (Below.trod laidOut (by kernel_rfl) (of_decide_eq_true (by kernel_rfl)) k0 bel lt0) (trodAll_cons_mk (Below.trod laidOut (by kernel_rfl) (of_decide_eq_true (by kernel_rfl)) k1 bel lt1) trodAll_mk0)), rfl, bel.frame _, fun h => by cases h⟩

theorem reads (os : Os) {H : Type} (enc : TypeId × Value → H) : ∃ places, DataW.whole enc Tryd.prog ((laidWorld os).forCall (fun _ _ => 0) ⟨#[], #[.slice none 0 0, .slice none 0 0], []⟩).memory Tryd.f13.params.toList Rows.fnJoinSpec.vars false (#[.slice none 0 0, .slice none 0 0] : Array Value).toList 8 = some ([.nil, .nil], [], places) :=
  ⟨[], by kernel_rfl⟩

set_option maxRecDepth 100000 in
theorem lifted (os : Os) (started : os.Started) (H : Type) (enc : TypeId × Value → H) (F : Stop.Interp) :
    ReturnsInHanded {} Tryd.checked os 13 .any ((OpenSpec.ofChange Rows.fnJoinSpec).preRow enc Tryd.prog Tryd.f13 Rows.fnJoinRow.domain false Rows.fnJoinRow.laid) (((OpenSpec.ofChange Rows.fnJoinSpec).at F).post enc Tryd.prog Tryd.f13 false true false false) := by
  obtain ⟨places, hx⟩ := reads os enc
  refine returnsInHanded_of_row (C := Tryd.checked) (s := (OpenSpec.ofChange Rows.fnJoinSpec)) own started (by kernel_rfl) Tryd.func13
    (witness_row_at (enc := enc) (C := Tryd.checked) false (laidWorld os) #[.slice none 0 0, .slice none 0 0] rfl (by kernel_rfl) (by kernel_rfl) (by kernel_rfl)
      (OpenSpec.preRow_of_cond 8 hx (by kernel_rfl) (fun k hk => by cases hk) (by kernel_rfl) (laid_met os _))) ?_
  intro W base args ds gs before hval hW _ _ _ hL _ _
  exact contract H enc W base args ds gs before hval hW hL

set_option maxRecDepth 100000 in
theorem closed : joinedFacts Tryd.pinned.checked.prog 13 Tryd.f13 (OpenSpec.bare (OpenSpec.ofChange Rows.fnJoinSpec)) Rows.fnJoinRow = true := by
  unfold joinedFacts
  rw [mayEnter_fact, liftsFinal_fact, make_fact]
  kernel_rfl
set_option maxRecDepth 100000 in
theorem said : Rows.FnJoinSaid :=
  OpenClaim.holds_of_cond 13 Tryd.f13 rfl rfl rfl rfl rfl rfl rfl ⟨rfl, rfl, rfl, rfl, rfl⟩ rfl rfl rfl rfl rfl (by as_aux_lemma => kernel_rfl) Tryd.func13 closed
    (of_decide_eq_true (by as_aux_lemma => kernel_rfl)) (by unfold Func.isWrapper; first | (rw [if_pos (by decide +kernel)]; kernel_rfl) | (rw [if_neg (by decide +kernel)]; exact ⟨rfl, rfl⟩))
    (fun os started H enc _ F => by rw [OpenClaim.pre_eq_preRow]; exact lifted os started H enc F)

theorem plain (f : FuncId) (fn : Func) (hf : Tryd.pinned.checked.prog.funcNamed Rows.fnJoinRow.func = some f) (hfn : Tryd.pinned.checked.prog.funcs[f]? = some fn) :
    true = Tryd.pinned.checked.prog.looks [] ∧ ∀ (j : Nat) t, fn.params[j]? = some t → Tryd.pinned.checked.prog.wantsStandIn t = false := by
  obtain rfl : f = 13 := Option.some.inj ((show Tryd.prog.funcNamed Rows.fnJoinRow.func = some 13 by kernel_rfl).symm.trans hf) |>.symm
  obtain rfl : fn = Tryd.f13 := (Option.some.inj (Tryd.func13.symm.trans hfn)).symm
  refine ⟨by kernel_rfl, fun j t ht => ?_⟩
  rw [Tryd.params13] at ht
  have hm := Array.mem_of_getElem? ht
  have hall : ([24, 24].all fun u => !Tryd.prog.wantsStandIn u) = true := by kernel_rfl
  have hm' : t ∈ [24, 24] := by simpa using hm
  exact (show Tryd.prog.wantsStandIn t = false by simpa using List.all_eq_true.1 hall t hm')

/-- THE CARD. -/
theorem card : Rows.FnJoinCardSaid :=
  Claim7.holds_tied_plain_at .later [] _ _ _ _ said (fun _ h => by cases h) (by as_aux_lemma => kernel_rfl) (fun _ h => by cases h) fnJoin_row_tie rfl ⟨rfl, rfl⟩ mainIs_fact rfl plain (by as_aux_lemma => kernel_rfl)
end Go.Proofs.YthfkgancjpdodaaDoor.fnJoin

/- The walk of FnRawReads (printed by mkraw.py). -/
import Derived.Test.YtcbolmendjocbaaDoorRe
import Derived.Deep.QuietTactic
import Derived.BigQuiet
namespace Go.Proofs.YtcbolmendjocbaaDoor
open Go.RowKit Qp

theorem readsOf_end {code σ : Nat} (hσ : σ = if code = 1 then 1 else 2) : ∀ (sizes : List Int) (out : List UInt8), (readsOf out code sizes).length = sizes.length ∨ ∃ r x, readsOf out code sizes = r ++ [(x, σ)] := by
  intro sizes
  induction sizes with
  | nil => intro out; exact .inl rfl
  | cons n r ih =>
    intro out
    unfold readsOf
    split
    · rcases ih (out.drop (clampS n)) with h | ⟨q, x, h⟩
      · exact .inl (by simp [h])
      · exact .inr ⟨_ :: q, x, by rw [h]; rfl⟩
    · exact .inr ⟨[], out, by rw [hσ]; rfl⟩
theorem readsOf_len (code : Nat) : ∀ (sizes : List Int) (out : List UInt8), (readsOf out code sizes).length ≤ sizes.length := by
  intro sizes
  induction sizes with
  | nil => intro out; exact Nat.le_refl _
  | cons n r ih =>
    intro out
    unfold readsOf
    split
    · have := ih (out.drop (clampS n)); simp; omega
    · simp
theorem readsOf_head {code σ : Nat} (hσ : σ = if code = 1 then 1 else 2) {out : List UInt8} {sizes : List Int} {g : List UInt8 × Nat} {gs : List (List UInt8 × Nat)} (h : readsOf out code sizes = g :: gs) :
    ∃ n r, sizes = n :: r ∧ ((clampS n ≤ out.length ∧ g = (out.take (clampS n), 0) ∧ gs = readsOf (out.drop (clampS n)) code r) ∨ (out.length < clampS n ∧ g = (out, σ) ∧ gs = [])) := by
  cases sizes with
  | nil => cases h
  | cons n r =>
    refine ⟨n, r, rfl, ?_⟩
    unfold readsOf at h
    split at h
    · rename_i hc
      injection h with h1 h2
      exact .inl ⟨hc, h1.symm, h2.symm⟩
    · rename_i hc
      injection h with h1 h2
      exact .inr ⟨by omega, by rw [hσ]; exact h1.symm, h2.symm⟩

theorem bs_from {w : World} {b off n cap : Nat} {l : List UInt8} (h : Bs w (.slice (some ⟨b, off, none⟩) n cap) l) (k : Nat) (hk : k ≤ l.length) : Bs w (.slice (some ⟨b, off + k, none⟩) (n - k) (cap - k)) (l.drop k) := by
  obtain ⟨ao, cap', e, h2, h3, h4, h5⟩ := h
  injection e with e1 e2 e3
  subst e1; subst e2; subst e3
  refine ⟨some ⟨b, off + k, none⟩, cap - k, by rw [List.length_drop], by rw [List.length_drop]; omega, by omega, (fun h => by cases h), fun hne => ⟨b, off + k, rfl, fun j hj => ?_⟩⟩
  rw [List.length_drop] at hj
  obtain ⟨b', off', e, hc⟩ := h5 (by rintro rfl; simp at hj)
  injection e with e
  injection e with e1 e2
  subst e1; subst e2
  rw [Nat.add_assoc, hc (k + j) (by omega)]
  simp [List.getD]

theorem Env0.below {ea fa ua : Addr} {w w' : World} (h : Env0 ea fa ua w) (hb : Below w.heap.size w w') : Env0 ea fa ua w' where
  full := below_cell hb _ _ h.full
  unex := below_cell hb _ _ h.unex
  fb := let ⟨q, cs, t, e⟩ := h.fb; ⟨q, cs, t, (hb.block _ (Lib.lt_of_heap e)).trans e⟩
  ub := let ⟨q, cs, t, e⟩ := h.ub; ⟨q, cs, t, (hb.block _ (Lib.lt_of_heap e)).trans e⟩
  eac := let ⟨x, e⟩ := h.eac; ⟨x, below_cell hb _ _ e⟩
  tabs := ⟨fun c hc => below_cell hb _ _ (h.tabs.1 c hc), fun i hi => ⟨below_cell hb _ _ (h.tabs.2 i hi).1, below_cell hb _ _ (h.tabs.2 i hi).2⟩⟩

theorem below_dn {B : Nat} {a b : World} (h : Below B a b) (n : Nat) : Below B a (b.drewN n) := ⟨h.os, h.tape, h.output, h.size, h.block⟩

/-- where the law's loop stands -/
def XrRel (code : Nat) (w3 : World) (out : List UInt8) (sizes : List Int) (gs : List (List UInt8 × Nat)) (vw vi : Value) (wr : World) : Prop :=
  ∃ i j : Nat, i ≤ gs.length ∧ vi = .int .i64 i ∧ j ≤ out.length ∧ Bs wr vw (out.drop j) ∧ Below w3.heap.size w3 wr ∧ (i = gs.length ∨ gs.drop i = readsOf (out.drop j) code (sizes.drop i))

/-- a round: what it meets -/
theorem xr_round {code σ : Nat} (hσ : σ = if code = 1 then 1 else 2) {out : List UInt8} {sizes : List Int} {gs : List (List UInt8 × Nat)} {i j : Nat} (hi : i < gs.length) (h : gs.drop i = readsOf (out.drop j) code (sizes.drop i)) :
    ∃ hz : i < sizes.length, gs[i].1 = (out.drop j).take gs[i].1.length ∧ (gs[i].1.length : Int) ≤ max 0 sizes[i] ∧ gs[i].1.length ≤ (out.drop j).length ∧ (gs[i].2 = 0 ∨ gs[i].2 = σ ∧ gs[i].1.length = (out.drop j).length ∧ i + 1 = gs.length) ∧
      (i + 1 = gs.length ∨ gs.drop (i + 1) = readsOf (out.drop (j + gs[i].1.length)) code (sizes.drop (i + 1))) := by
  have hd := List.drop_eq_getElem_cons hi
  rw [hd] at h
  obtain ⟨n, r, hs, hc⟩ := readsOf_head hσ h.symm
  have hz : i < sizes.length := by
    rcases Nat.lt_or_ge i sizes.length with h | h
    · exact h
    · rw [List.drop_eq_nil_of_le h] at hs; cases hs
  rw [List.drop_eq_getElem_cons hz] at hs
  injection hs with h1 h2
  subst h1; subst h2
  have hdl : (out.drop j).length = out.length - j := List.length_drop
  refine ⟨hz, ?_⟩
  rcases hc with ⟨hm, hg, hr⟩ | ⟨hm, hg, hr⟩
  · have hl : gs[i].1.length = clampS sizes[i] := by rw [hg]; simp; omega
    refine ⟨by rw [hl, hg], ?_, by omega, .inl (by rw [hg]), .inr (by rw [hl]; rw [List.drop_drop] at hr; exact hr)⟩
    rw [hl]; unfold clampS; omega
  · have hl : gs[i].1.length = (out.drop j).length := by rw [hg]
    have hlast : i + 1 = gs.length := by
      have := congrArg List.length hr
      simp at this
      omega
    refine ⟨by rw [hl, List.take_length, hg], ?_, by omega, .inr ⟨by rw [hg], hl, hlast⟩, .inl hlast⟩
    · have : ((out.drop j).length : Int) < clampS sizes[i] := by omega
      rw [hl]; unfold clampS at this; omega

set_option maxRecDepth 100000 in
set_option maxHeartbeats 6400000 in
theorem walk1 {w : World} {ea fa ua : Addr} {v vs : Value} {l : List UInt8} {sizes : List Int} (hen : Env0 ea fa ua w) {out : List UInt8} (hdec : Qp.decode l = (out, 1)) (hE : EofAt w ea) (hea : ea.block < w.heap.size) (h : Bs w v l) (hz : Is w vs sizes) :
    Calls Tryd.prog 4 #[v, vs] w fun e w' => e = .returned (.bool true) ∧ Below w.heap.size w w' := by
  by_cases hbig : 2147483647 < l.length
  · obtain ⟨ao, cap, rfl⟩ := Bs.shape h
    obtain ⟨ao1, cap1, rfl, -⟩ := hz
    clear h hE
    go_enter Tryd.func4, Tryd.ntmps4
    go_wp2
    go_ret
    exact ⟨rfl, Below.refl _ _⟩
  by_cases hbig1 : 2147483647 < sizes.length
  · obtain ⟨ao, cap, rfl⟩ := Bs.shape h
    obtain ⟨ao1, cap1, rfl, -⟩ := hz
    clear h hE
    go_enter Tryd.func4, Tryd.ntmps4
    go_wp2
    go_ret
    exact ⟨rfl, Below.refl _ _⟩
  have hzl : sizes.length ≤ 2147483647 := by omega
  have HT := Lib.hid (Decode_any hen h hE hea hdec (by omega))
  have hE0 : ∀ w2, Below w.heap.size w w2 → Env0 ea fa ua w2 := fun w2 hb => hen.below hb
  have HR := Lib.hid (fun (w2 : World) (hb : Below w.heap.size w w2) => Reads_any (hE0 w2 hb) (h.below hb) (hz.below hb) (hE.keep (Keep.new (S := fun _ => False) hb) id) (Nat.lt_of_lt_of_le hea hb.size) hdec (by omega) hzl)
  have HZ := Lib.hid hz
  obtain ⟨ao, cap, rfl⟩ := Bs.shape h
  obtain ⟨ao1, cap1, hv1, hzc, hzm, -⟩ := id hz
  subst hv1
  clear h hE hz hen hdec hE0
  go_enter Tryd.func4, Tryd.ntmps4
  go_wp2_with fail
  refine HT.out.mono ?_
  rintro e w2 ⟨v2, rfl, h2, hb2⟩
  have HB2 := Lib.hid hb2
  have H2 := Lib.hid h2
  obtain ⟨ao3, cap3, rfl⟩ := Bs.shape h2
  clear h2 hb2 HT
  have HR2 := Lib.hid (HR.out w2 HB2.out)
  clear HR
  go_wp2_with fail
  refine HR2.out.mono ?_
  rintro e w3 ⟨v3, rfl, h3, hb3⟩
  have HB3 := Lib.hid (HB2.out.trans (hb3.mono HB2.out.size))
  have H23 := Lib.hid (H2.out.below hb3)
  have HZ3 := Lib.hid (HZ.out.below HB3.out)
  have hgl := readsOf_len 1 sizes out
  have HEND := Lib.hid (readsOf_end (code := 1) (σ := 1) (by decide) sizes out)
  obtain ⟨gs, hgs⟩ : ∃ gs, gs = readsOf out 1 sizes := ⟨_, rfl⟩
  rw [← hgs] at h3 hgl HEND
  obtain ⟨ao4, cap4, hv3, hgc, hgm, hgat⟩ := h3
  subst hv3
  have HG := Lib.hid hgat
  have hst : XrRel 1 w3 out sizes gs (.slice ao3 out.length cap3) (.int .i64 0) w3 := ⟨0, 0, Nat.zero_le _, rfl, Nat.zero_le _, H23.out, Below.refl _ _, .inr (by rw [hgs]; rfl)⟩
  have HST := Lib.hid hst
  clear hgat hb3 hgs hst H2 HR2 H23 HZ HB2
  go_wp2
  go_loopw [5, 28] (fun vw vi wr => XrRel 1 w3 out sizes gs vw vi wr) (fun _ vi _ => gs.length - (intOf vi).toNat)
  case atStart => exact HST.out
  case round =>
    obtain ⟨i, j, hi, rfl, hj, hw7, hbel, hdr⟩ := hrel
    by_cases hlt : i < gs.length
    · obtain ⟨hz, hd1, hd2, hd3, hd4, hd5⟩ := xr_round (code := 1) (σ := 1) (by decide) hlt (hdr.resolve_left (by omega))
      obtain ⟨b, off, a1, n1, c1, rfl, g0, g1, hbs⟩ := HG.out i hlt
      obtain ⟨ao5, cap5, hvs, -, -, hzat⟩ := HZ3.out
      injection hvs with e1 _ e2
      subst e1; subst e2
      obtain ⟨bz, oz, rfl, gz⟩ := hzat i hz
      have hbA := fun o => hbel.alloc hbel.size o
      have g0 := below_cell hbel _ _ g0
      have g1 := below_cell hbel _ _ g1
      have gz := fun o => below_cell (hbA o) _ _ gz
      have hn1 : n1 = gs[i].1.length := by
        obtain ⟨_, _, e, _⟩ := id hbs
        injection e
      have hAw := fun o => hw7.below (show Below wr.heap.size wr (wr.alloc o) from (Below.refl _ _).alloc (Nat.le_refl _) _)
      obtain ⟨aw, cw, rfl, hcw1, hcw2, hcw3, hcw4⟩ := id hw7
      obtain ⟨nw, hnw⟩ : ∃ nw, nw = (out.drop j).length := ⟨_, rfl⟩
      have htk : ∀ o jj, Bs ((wr.alloc o).drewN jj) (.slice aw n1 cw) (gs[i].1) := fun o jj => by
        have := Bs.take (hAw o) n1 (by rw [hn1]; exact hd3)
        rw [hn1, ← hd1] at this
        rw [hn1]
        exact this.mono fun _ _ e => e
      have hsm : ∀ o (jj : Nat), Calls Tryd.prog 8 #[.slice a1 n1 c1, .slice aw n1 cw] ((wr.alloc o).drewN jj) fun e w' => e = .returned (.bool true) ∧ w' = (wr.alloc o).drewN jj := fun o jj => by
        have := same_any (w := (wr.alloc o).drewN jj) ((hbs.below (hbA o)).mono fun _ _ e => e) (htk o jj)
        rw [beq_self_eq_true] at this
        exact this.mono fun e w' ⟨h1, h2⟩ => ⟨h1, h2.symm⟩
      have HS := Lib.hid hsm
      obtain ⟨z, hzz⟩ : ∃ z, z = sizes[i] := ⟨_, rfl⟩
      obtain ⟨st, hst⟩ : ∃ st, st = gs[i].2 := ⟨_, rfl⟩
      rw [← hzz] at gz hd2
      rw [← hst] at g1 hd4
      rw [← hn1] at hd1 hd2 hd3 hd4 hd5
      rw [← hnw] at hd3 hd4 hcw1 ⊢
      obtain ⟨q, hq⟩ : ∃ q : Nat, max 0 z = (q : Int) := ⟨(max 0 z).toNat, by omega⟩
      rw [hq] at hd2
      have hq1 : n1 ≤ q := by omega
      have hiz : (i : Int) < sizes.length := by omega
      have hn1c : n1 ≤ cw := by omega
      have hn1i : (n1 : Int) ≤ nw := by omega
      have hnx : ∀ v' o (jj : Nat), Bs wr v' (out.drop (j + n1)) → XrRel 1 w3 out sizes gs v' (.int .i64 ((i : Int) + 1)) ((wr.alloc o).drewN jj) := fun v' o jj hb =>
        ⟨i + 1, j + n1, by omega, by go_num, by rw [List.length_drop] at hnw; omega, (hb.below ((Below.refl _ _).alloc (Nat.le_refl _) o)).mono fun _ _ e => e, below_dn (hbA o) jj, hd5⟩
      have HNX := Lib.hid hnx
      have HNX2 := Lib.hid (fun (e : i + 1 = gs.length) (v' : Value) o (jj : Nat) (hb : Bs wr v' (out.drop (j + n1))) => show XrRel 1 w3 out sizes gs v' (.int .i64 ((gs.length : Nat) : Int)) ((wr.alloc o).drewN jj) from by have q := hnx v' o jj hb; rw [show ((i : Int) + 1) = ((gs.length : Nat) : Int) by omega] at q; exact q)
      have hlw : (out.drop j).length = nw := hnw.symm
      have gA : decide ((q : Int) < n1) = false := decide_eq_false (by omega)
      have gB : decide ((nw : Int) < n1) = false := decide_eq_false (by omega)
      have gC : decide (nw < n1) = false := decide_eq_false (by omega)
      have gD : n1 ≤ nw := by omega
      by_cases hne : out.drop j = []
      · have hn0 : nw = 0 := by rw [← hlw, hne]; rfl
        have h10 : n1 = 0 := by omega
        subst hn0; subst h10
        have hdd : ∀ (a : Addr) (c : Nat), c ≤ 9223372036854775807 → Bs wr (.slice (some a) 0 c) (out.drop (j + 0)) := fun a c h1 => by
          rw [Nat.add_zero, hne]
          exact ⟨some a, c, rfl, Nat.zero_le _, h1, (fun h => by cases h), fun h => absurd rfl h⟩
        have hdn : Bs wr (.slice none 0 0) (out.drop (j + 0)) := by
          rw [Nat.add_zero, hne]
          exact ibs_nil wr
        have HDD := Lib.hid hdd
        have HDN := Lib.hid hdn
        cases aw with
        | none =>
          have hc0 := hcw3 rfl
          subst hc0
          clear hdd hdn hcw4 hcw3
          clear hd1 hd2 hd3 hd5 hne hlw hnw hst hzz hn1 hbs hw7 hsm hnx hbel hbA hAw htk hdr hj
          rcases hd4 with rfl | ⟨rfl, he4, hi1⟩
          all_goals
            go_wp2_with fail
            go_quiet ((go_at_call 8; exact Calls.quiet_of_same (HS.out _ _)))
            go_wp2
            go_roundw
            case rel => first | exact HNX.out _ _ _ HDN.out | exact HNX2.out hi1 _ _ _ HDN.out
            case measure => simp [intOf]; omega
        | some ad =>
          clear hdd hdn hcw4 hcw3
          clear hd1 hd2 hd3 hd5 hne hlw hnw hst hzz hn1 hbs hw7 hsm hnx hbel hbA hAw htk hdr hj
          rcases hd4 with rfl | ⟨rfl, he4, hi1⟩
          all_goals
            go_wp2_with fail
            go_quiet ((go_at_call 8; exact Calls.quiet_of_same (HS.out _ _)))
            go_wp2
            go_roundw
            case rel => first | exact HNX.out _ _ _ (HDD.out _ _ (by omega)) | exact HNX2.out hi1 _ _ _ (HDD.out _ _ (by omega))
            case measure => simp [intOf]; omega
      · obtain ⟨b2, off2, rfl, -⟩ := hcw4 hne
        by_cases hcn : cw = n1
        · have hnn : nw = n1 := by omega
          have hdd : ∀ (a : Addr) (c : Nat), c ≤ 9223372036854775807 → Bs wr (.slice (some a) 0 c) (out.drop (j + n1)) := fun a c h1 => by
            rw [List.drop_eq_nil_of_le (by rw [List.length_drop] at hlw; omega)]
            exact ⟨some a, c, rfl, Nat.zero_le _, h1, (fun h => by cases h), fun h => absurd rfl h⟩
          have HDD := Lib.hid hdd
          clear hdd hcw4 hcw3
          clear hd1 hd2 hd3 hd5 hne hlw hnw hst hzz hn1 hbs hw7 hsm hnx hbel hbA hAw htk hdr hj
          subst hcn; subst hnn
          rcases hd4 with rfl | ⟨rfl, he4, hi1⟩
          all_goals
            go_wp2_with fail
            go_quiet ((go_at_call 8; exact Calls.quiet_of_same (HS.out _ _)))
            go_wp2
            go_roundw
            case rel => first | exact HNX.out _ _ _ (HDD.out _ _ (by omega)) | exact HNX2.out hi1 _ _ _ (HDD.out _ _ (by omega))
            case measure => simp [intOf]; omega
        · have hdf := bs_from (n := nw) (by rw [← hlw]; exact hw7) n1 (by omega)
          rw [List.drop_drop] at hdf
          have HDF := Lib.hid hdf
          clear hdf hcw4 hcw3
          clear hd1 hd2 hd3 hd5 hne hlw hnw hst hzz hn1 hbs hw7 hsm hnx hbel hbA hAw htk hdr hj
          rcases hd4 with rfl | ⟨rfl, he4, hi1⟩
          · go_wp2_with fail
            go_quiet ((go_at_call 8; exact Calls.quiet_of_same (HS.out _ _)))
            go_wp2
            go_roundw
            case rel => first | exact HNX.out _ _ _ HDF.out | exact HNX2.out hi1 _ _ _ HDF.out
            case measure => simp [intOf]; omega
          · subst he4
            go_wp2_with fail
            go_quiet ((go_at_call 8; exact Calls.quiet_of_same (HS.out _ _)))
            go_wp2
            go_roundw
            case rel => first | exact HNX.out _ _ _ (by simpa using HDF.out) | exact HNX2.out hi1 _ _ _ (by simpa using HDF.out)
            case measure => simp [intOf]; omega
    · have hie : i = gs.length := by omega
      subst hie
      have HB := Lib.hid (HB3.out.trans (hbel.mono HB3.out.size))
      by_cases heq : gs.length = sizes.length
      · obtain ⟨gl, hgl2⟩ : ∃ gl, gl = gs.length := ⟨_, rfl⟩
        rw [← hgl2] at heq ⊢
        rw [← heq]
        clear hdr hw7 hbel
        go_wp2
        go_ret
        exact ⟨rfl, HB.out⟩
      · rcases HEND.out with he | ⟨r, x, he⟩
        · exact absurd he heq
        · have hgl3 : gs.length = r.length + 1 := by rw [he]; simp
          obtain ⟨b, off, a1, n1, c1, rfl, g0, g1, -⟩ := HG.out r.length (by omega)
          have hg2 : gs[r.length].2 = 1 := by simp [he]
          rw [hg2] at g1
          have g1 := below_cell hbel _ _ g1
          obtain ⟨rl, hrl⟩ : ∃ rl, rl = r.length := ⟨_, rfl⟩
          rw [← hrl] at g1 hgl3
          rw [hgl3] at heq ⊢
          have h5 : (((rl : Int) + 1) == (sizes.length : Int)) = false := beq_eq_false_iff_ne.2 (by omega)
          have h6 : (0 : Int) < (rl : Int) + 1 := by omega
          clear hdr hw7 hbel he hrl heq
          go_wp2
          go_ret
          exact ⟨rfl, HB.out⟩

set_option maxRecDepth 100000 in
set_option maxHeartbeats 6400000 in
theorem walk2 {w : World} {ea fa ua : Addr} {v vs : Value} {l : List UInt8} {sizes : List Int} (hen : Env0 ea fa ua w) {out : List UInt8} (hdec : Qp.decode l = (out, 2)) (hE : EofAt w ea) (hea : ea.block < w.heap.size) (h : Bs w v l) (hz : Is w vs sizes) :
    Calls Tryd.prog 4 #[v, vs] w fun e w' => e = .returned (.bool true) ∧ Below w.heap.size w w' := by
  by_cases hbig : 2147483647 < l.length
  · obtain ⟨ao, cap, rfl⟩ := Bs.shape h
    obtain ⟨ao1, cap1, rfl, -⟩ := hz
    clear h hE
    go_enter Tryd.func4, Tryd.ntmps4
    go_wp2
    go_ret
    exact ⟨rfl, Below.refl _ _⟩
  by_cases hbig1 : 2147483647 < sizes.length
  · obtain ⟨ao, cap, rfl⟩ := Bs.shape h
    obtain ⟨ao1, cap1, rfl, -⟩ := hz
    clear h hE
    go_enter Tryd.func4, Tryd.ntmps4
    go_wp2
    go_ret
    exact ⟨rfl, Below.refl _ _⟩
  have hzl : sizes.length ≤ 2147483647 := by omega
  have HT := Lib.hid (Decode_any hen h hE hea hdec (by omega))
  have hE0 : ∀ w2, Below w.heap.size w w2 → Env0 ea fa ua w2 := fun w2 hb => hen.below hb
  have HR := Lib.hid (fun (w2 : World) (hb : Below w.heap.size w w2) => Reads_any (hE0 w2 hb) (h.below hb) (hz.below hb) (hE.keep (Keep.new (S := fun _ => False) hb) id) (Nat.lt_of_lt_of_le hea hb.size) hdec (by omega) hzl)
  have HZ := Lib.hid hz
  obtain ⟨ao, cap, rfl⟩ := Bs.shape h
  obtain ⟨ao1, cap1, hv1, hzc, hzm, -⟩ := id hz
  subst hv1
  clear h hE hz hen hdec hE0
  go_enter Tryd.func4, Tryd.ntmps4
  go_wp2_with fail
  refine HT.out.mono ?_
  rintro e w2 ⟨v2, rfl, h2, hb2⟩
  have HB2 := Lib.hid hb2
  have H2 := Lib.hid h2
  obtain ⟨ao3, cap3, rfl⟩ := Bs.shape h2
  clear h2 hb2 HT
  have HR2 := Lib.hid (HR.out w2 HB2.out)
  clear HR
  go_wp2_with fail
  refine HR2.out.mono ?_
  rintro e w3 ⟨v3, rfl, h3, hb3⟩
  have HB3 := Lib.hid (HB2.out.trans (hb3.mono HB2.out.size))
  have H23 := Lib.hid (H2.out.below hb3)
  have HZ3 := Lib.hid (HZ.out.below HB3.out)
  have hgl := readsOf_len 2 sizes out
  have HEND := Lib.hid (readsOf_end (code := 2) (σ := 2) (by decide) sizes out)
  obtain ⟨gs, hgs⟩ : ∃ gs, gs = readsOf out 2 sizes := ⟨_, rfl⟩
  rw [← hgs] at h3 hgl HEND
  obtain ⟨ao4, cap4, hv3, hgc, hgm, hgat⟩ := h3
  subst hv3
  have HG := Lib.hid hgat
  have hst : XrRel 2 w3 out sizes gs (.slice ao3 out.length cap3) (.int .i64 0) w3 := ⟨0, 0, Nat.zero_le _, rfl, Nat.zero_le _, H23.out, Below.refl _ _, .inr (by rw [hgs]; rfl)⟩
  have HST := Lib.hid hst
  clear hgat hb3 hgs hst H2 HR2 H23 HZ HB2
  go_wp2
  go_loopw [5, 28] (fun vw vi wr => XrRel 2 w3 out sizes gs vw vi wr) (fun _ vi _ => gs.length - (intOf vi).toNat)
  case atStart => exact HST.out
  case round =>
    obtain ⟨i, j, hi, rfl, hj, hw7, hbel, hdr⟩ := hrel
    by_cases hlt : i < gs.length
    · obtain ⟨hz, hd1, hd2, hd3, hd4, hd5⟩ := xr_round (code := 2) (σ := 2) (by decide) hlt (hdr.resolve_left (by omega))
      obtain ⟨b, off, a1, n1, c1, rfl, g0, g1, hbs⟩ := HG.out i hlt
      obtain ⟨ao5, cap5, hvs, -, -, hzat⟩ := HZ3.out
      injection hvs with e1 _ e2
      subst e1; subst e2
      obtain ⟨bz, oz, rfl, gz⟩ := hzat i hz
      have hbA := fun o => hbel.alloc hbel.size o
      have g0 := below_cell hbel _ _ g0
      have g1 := below_cell hbel _ _ g1
      have gz := fun o => below_cell (hbA o) _ _ gz
      have hn1 : n1 = gs[i].1.length := by
        obtain ⟨_, _, e, _⟩ := id hbs
        injection e
      have hAw := fun o => hw7.below (show Below wr.heap.size wr (wr.alloc o) from (Below.refl _ _).alloc (Nat.le_refl _) _)
      obtain ⟨aw, cw, rfl, hcw1, hcw2, hcw3, hcw4⟩ := id hw7
      obtain ⟨nw, hnw⟩ : ∃ nw, nw = (out.drop j).length := ⟨_, rfl⟩
      have htk : ∀ o jj, Bs ((wr.alloc o).drewN jj) (.slice aw n1 cw) (gs[i].1) := fun o jj => by
        have := Bs.take (hAw o) n1 (by rw [hn1]; exact hd3)
        rw [hn1, ← hd1] at this
        rw [hn1]
        exact this.mono fun _ _ e => e
      have hsm : ∀ o (jj : Nat), Calls Tryd.prog 8 #[.slice a1 n1 c1, .slice aw n1 cw] ((wr.alloc o).drewN jj) fun e w' => e = .returned (.bool true) ∧ w' = (wr.alloc o).drewN jj := fun o jj => by
        have := same_any (w := (wr.alloc o).drewN jj) ((hbs.below (hbA o)).mono fun _ _ e => e) (htk o jj)
        rw [beq_self_eq_true] at this
        exact this.mono fun e w' ⟨h1, h2⟩ => ⟨h1, h2.symm⟩
      have HS := Lib.hid hsm
      obtain ⟨z, hzz⟩ : ∃ z, z = sizes[i] := ⟨_, rfl⟩
      obtain ⟨st, hst⟩ : ∃ st, st = gs[i].2 := ⟨_, rfl⟩
      rw [← hzz] at gz hd2
      rw [← hst] at g1 hd4
      rw [← hn1] at hd1 hd2 hd3 hd4 hd5
      rw [← hnw] at hd3 hd4 hcw1 ⊢
      obtain ⟨q, hq⟩ : ∃ q : Nat, max 0 z = (q : Int) := ⟨(max 0 z).toNat, by omega⟩
      rw [hq] at hd2
      have hq1 : n1 ≤ q := by omega
      have hiz : (i : Int) < sizes.length := by omega
      have hn1c : n1 ≤ cw := by omega
      have hn1i : (n1 : Int) ≤ nw := by omega
      have hnx : ∀ v' o (jj : Nat), Bs wr v' (out.drop (j + n1)) → XrRel 2 w3 out sizes gs v' (.int .i64 ((i : Int) + 1)) ((wr.alloc o).drewN jj) := fun v' o jj hb =>
        ⟨i + 1, j + n1, by omega, by go_num, by rw [List.length_drop] at hnw; omega, (hb.below ((Below.refl _ _).alloc (Nat.le_refl _) o)).mono fun _ _ e => e, below_dn (hbA o) jj, hd5⟩
      have HNX := Lib.hid hnx
      have HNX2 := Lib.hid (fun (e : i + 1 = gs.length) (v' : Value) o (jj : Nat) (hb : Bs wr v' (out.drop (j + n1))) => show XrRel 2 w3 out sizes gs v' (.int .i64 ((gs.length : Nat) : Int)) ((wr.alloc o).drewN jj) from by have q := hnx v' o jj hb; rw [show ((i : Int) + 1) = ((gs.length : Nat) : Int) by omega] at q; exact q)
      have hlw : (out.drop j).length = nw := hnw.symm
      have gA : decide ((q : Int) < n1) = false := decide_eq_false (by omega)
      have gB : decide ((nw : Int) < n1) = false := decide_eq_false (by omega)
      have gC : decide (nw < n1) = false := decide_eq_false (by omega)
      have gD : n1 ≤ nw := by omega
      by_cases hne : out.drop j = []
      · have hn0 : nw = 0 := by rw [← hlw, hne]; rfl
        have h10 : n1 = 0 := by omega
        subst hn0; subst h10
        have hdd : ∀ (a : Addr) (c : Nat), c ≤ 9223372036854775807 → Bs wr (.slice (some a) 0 c) (out.drop (j + 0)) := fun a c h1 => by
          rw [Nat.add_zero, hne]
          exact ⟨some a, c, rfl, Nat.zero_le _, h1, (fun h => by cases h), fun h => absurd rfl h⟩
        have hdn : Bs wr (.slice none 0 0) (out.drop (j + 0)) := by
          rw [Nat.add_zero, hne]
          exact ibs_nil wr
        have HDD := Lib.hid hdd
        have HDN := Lib.hid hdn
        cases aw with
        | none =>
          have hc0 := hcw3 rfl
          subst hc0
          clear hdd hdn hcw4 hcw3
          clear hd1 hd2 hd3 hd5 hne hlw hnw hst hzz hn1 hbs hw7 hsm hnx hbel hbA hAw htk hdr hj
          rcases hd4 with rfl | ⟨rfl, he4, hi1⟩
          all_goals
            go_wp2_with fail
            go_quiet ((go_at_call 8; exact Calls.quiet_of_same (HS.out _ _)))
            go_wp2
            go_roundw
            case rel => first | exact HNX.out _ _ _ HDN.out | exact HNX2.out hi1 _ _ _ HDN.out
            case measure => simp [intOf]; omega
        | some ad =>
          clear hdd hdn hcw4 hcw3
          clear hd1 hd2 hd3 hd5 hne hlw hnw hst hzz hn1 hbs hw7 hsm hnx hbel hbA hAw htk hdr hj
          rcases hd4 with rfl | ⟨rfl, he4, hi1⟩
          all_goals
            go_wp2_with fail
            go_quiet ((go_at_call 8; exact Calls.quiet_of_same (HS.out _ _)))
            go_wp2
            go_roundw
            case rel => first | exact HNX.out _ _ _ (HDD.out _ _ (by omega)) | exact HNX2.out hi1 _ _ _ (HDD.out _ _ (by omega))
            case measure => simp [intOf]; omega
      · obtain ⟨b2, off2, rfl, -⟩ := hcw4 hne
        by_cases hcn : cw = n1
        · have hnn : nw = n1 := by omega
          have hdd : ∀ (a : Addr) (c : Nat), c ≤ 9223372036854775807 → Bs wr (.slice (some a) 0 c) (out.drop (j + n1)) := fun a c h1 => by
            rw [List.drop_eq_nil_of_le (by rw [List.length_drop] at hlw; omega)]
            exact ⟨some a, c, rfl, Nat.zero_le _, h1, (fun h => by cases h), fun h => absurd rfl h⟩
          have HDD := Lib.hid hdd
          clear hdd hcw4 hcw3
          clear hd1 hd2 hd3 hd5 hne hlw hnw hst hzz hn1 hbs hw7 hsm hnx hbel hbA hAw htk hdr hj
          subst hcn; subst hnn
          rcases hd4 with rfl | ⟨rfl, he4, hi1⟩
          all_goals
            go_wp2_with fail
            go_quiet ((go_at_call 8; exact Calls.quiet_of_same (HS.out _ _)))
            go_wp2
            go_roundw
            case rel => first | exact HNX.out _ _ _ (HDD.out _ _ (by omega)) | exact HNX2.out hi1 _ _ _ (HDD.out _ _ (by omega))
            case measure => simp [intOf]; omega
        · have hdf := bs_from (n := nw) (by rw [← hlw]; exact hw7) n1 (by omega)
          rw [List.drop_drop] at hdf
          have HDF := Lib.hid hdf
          clear hdf hcw4 hcw3
          clear hd1 hd2 hd3 hd5 hne hlw hnw hst hzz hn1 hbs hw7 hsm hnx hbel hbA hAw htk hdr hj
          rcases hd4 with rfl | ⟨rfl, he4, hi1⟩
          · go_wp2_with fail
            go_quiet ((go_at_call 8; exact Calls.quiet_of_same (HS.out _ _)))
            go_wp2
            go_roundw
            case rel => first | exact HNX.out _ _ _ HDF.out | exact HNX2.out hi1 _ _ _ HDF.out
            case measure => simp [intOf]; omega
          · subst he4
            go_wp2_with fail
            go_quiet ((go_at_call 8; exact Calls.quiet_of_same (HS.out _ _)))
            go_wp2
            go_roundw
            case rel => first | exact HNX.out _ _ _ (by simpa using HDF.out) | exact HNX2.out hi1 _ _ _ (by simpa using HDF.out)
            case measure => simp [intOf]; omega
    · have hie : i = gs.length := by omega
      subst hie
      have HB := Lib.hid (HB3.out.trans (hbel.mono HB3.out.size))
      by_cases heq : gs.length = sizes.length
      · obtain ⟨gl, hgl2⟩ : ∃ gl, gl = gs.length := ⟨_, rfl⟩
        rw [← hgl2] at heq ⊢
        rw [← heq]
        clear hdr hw7 hbel
        go_wp2
        go_ret
        exact ⟨rfl, HB.out⟩
      · rcases HEND.out with he | ⟨r, x, he⟩
        · exact absurd he heq
        · have hgl3 : gs.length = r.length + 1 := by rw [he]; simp
          obtain ⟨b, off, a1, n1, c1, rfl, g0, g1, -⟩ := HG.out r.length (by omega)
          have hg2 : gs[r.length].2 = 2 := by simp [he]
          rw [hg2] at g1
          have g1 := below_cell hbel _ _ g1
          obtain ⟨rl, hrl⟩ : ∃ rl, rl = r.length := ⟨_, rfl⟩
          rw [← hrl] at g1 hgl3
          rw [hgl3] at heq ⊢
          have h5 : (((rl : Int) + 1) == (sizes.length : Int)) = false := beq_eq_false_iff_ne.2 (by omega)
          have h6 : (0 : Int) < (rl : Int) + 1 := by omega
          clear hdr hw7 hbel he hrl heq
          go_wp2
          go_ret
          exact ⟨rfl, HB.out⟩

theorem walk {w : World} {ea fa ua : Addr} {v vs : Value} {l : List UInt8} {sizes : List Int} (hen : Env0 ea fa ua w) (hE : EofAt w ea) (hea : ea.block < w.heap.size) (h : Bs w v l) (hz : Is w vs sizes) :
    Calls Tryd.prog 4 #[v, vs] w fun e w' => e = .returned (.bool true) ∧ Below w.heap.size w w' := by
  obtain ⟨⟨out, code⟩, hd⟩ : ∃ d, Qp.decode l = d := ⟨_, rfl⟩
  have hc := decode_code l
  rw [hd] at hc
  rcases hc with e | e
  · have e : code = 1 := e
    subst e
    exact walk1 hen hd hE hea h hz
  · have e : code = 2 := e
    subst e
    exact walk2 hen hd hE hea h hz
end Go.Proofs.YtcbolmendjocbaaDoor

/- The walks of Set, Put. -/
import Derived.Test.YthfkgancjpdodaaDoorSp2
import Derived.Laws.IdiomCopy
namespace Go.Proofs.YthfkgancjpdodaaDoor
open Go.RowKit Qp

/-- a token of a row of the call's own is turned -/
theorem Tr.set {w : World} {B g n cap : Nat} {l : List Tok} (h : Tr w B (.slice (some ⟨g, 0, none⟩) n cap) l) (k : Nat) (hk : k < l.length) (x : TV) (hx : x.lies w) (hs : x.sep (.slice (some ⟨g, 0, none⟩) n cap)) :
    Ts (w.setCells g (k * 3) [.int .i64 x.t.kind, x.tv, x.vv]) (.slice (some ⟨g, 0, none⟩) n cap) (l.set k x.t) ∧ Keep (fun b => B ≤ b) w (w.setCells g (k * 3) [.int .i64 x.t.kind, x.tv, x.vv]) := by
  obtain ⟨ts, rfl, hown, hl, hsp⟩ := h
  have hbs := Ts.of_own hown hl
  have hk' : k < ts.length := by simpa using hk
  obtain ⟨e0, e1 | ⟨g', cap', cur, e, hB, hg, hlc, hcm, hcs, htk⟩⟩ := id hown
  · cases e1.1
  injection e with e1 e2 e3
  injection e1 with e1
  injection e1 with e1
  subst e1; subst e2; subst e3
  have hcell : ∀ j u, j < ts.length * 3 → (tcells ts)[j]? = some u → w.cell? ⟨g, j, none⟩ = some u := by
    intro j u hj hu
    rw [Lib.cell_of_heap hg, ← Array.getElem?_toList, ← hu, ← htk, List.getElem?_take, if_pos hj]
  have hin : ∀ j, j < ([.int .i64 x.t.kind, x.tv, x.vv] : List Value).length → (w.cell? ⟨g, k * 3 + j, none⟩).isSome = true := by
    intro j hj
    have hj : j < 3 := hj
    have hj2 : k * 3 + j < (tcells ts).length := by rw [tcells_length]; omega
    rw [hcell (k * 3 + j) _ (by rw [tcells_length] at hj2; exact hj2) (List.getElem?_eq_getElem hj2)]
    rfl
  have hK : Keep (fun b => b = g) w (w.setCells g (k * 3) [.int .i64 x.t.kind, x.tv, x.vv]) :=
    (((Keep.refl (fun b => b = g) w).setCell ⟨g, k * 3, none⟩ rfl _).setCell ⟨g, k * 3 + 1, none⟩ rfl _).setCell ⟨g, k * 3 + 1 + 1, none⟩ rfl _
  have hfar : ∀ y : TV, y.lies w → y.sep (.slice (some ⟨g, 0, none⟩) ts.length cap) → y.lies (w.setCells g (k * 3) [.int .i64 x.t.kind, x.tv, x.vv]) := fun y hy hs =>
    ⟨hy.1.keepn fun hne p _ e hc => hK.cell (fun e' => (hs g rfl).1 hne (e.trans (congrArg some e'))) hc, hy.2.keepn fun hne p _ e hc => hK.cell (fun e' => (hs g rfl).2 hne (e.trans (congrArg some e'))) hc⟩
  refine ⟨⟨ts.set k x, some ⟨g, 0, none⟩, cap, by rw [List.map_set], fun y hy => ?_, by rw [List.length_set], by rw [List.length_set]; exact hlc, ⟨by unfold maxLen at hcm; omega, (fun h => by cases h)⟩, fun j hj => ⟨g, 0, rfl, ?_⟩⟩, hK.mono fun b _ e => by have e : b = g := e; omega⟩
  · rcases List.mem_or_eq_of_mem_set hy with hy | rfl
    · exact hfar y (hl y hy) (hsp y hy)
    · exact hfar y hx hs
  · rw [List.length_set] at hj
    by_cases hjk : j = k
    · subst hjk
      have := World.cell?_setCells_in g _ _ w hin
      refine ⟨?_, ?_, ?_⟩
      · have := this 0 (by simp)
        simpa using this
      · have := this 1 (by simp)
        simpa using this
      · have := this 2 (by simp)
        simpa using this
    · have hout : ∀ i, i < 3 → (w.setCells g (k * 3) [.int .i64 x.t.kind, x.tv, x.vv]).cell? ⟨g, 0 + j * 3 + i, none⟩ = w.cell? ⟨g, 0 + j * 3 + i, none⟩ := fun i hi =>
        World.cell?_setCells_out g _ _ _ _ fun _ _ => by simp; omega
      obtain ⟨c0, c1, c2⟩ := tcells_get ts j hj
      have hne : (ts.set k x)[j] = ts[j] := by rw [List.getElem_set_ne (Ne.symm hjk)]
      rw [hne]
      refine ⟨?_, ?_, ?_⟩
      · rw [← Nat.add_zero (0 + j * 3), hout 0 (by omega)]
        exact hcell _ _ (by omega) (by rw [← c0]; congr 1; omega)
      · rw [hout 1 (by omega)]
        exact hcell _ _ (by omega) (by rw [← c1]; congr 1; omega)
      · rw [hout 2 (by omega)]
        exact hcell _ _ (by omega) (by rw [← c2]; congr 1; omega)

theorem set_mid {w w2 : World} {v' tv vv : Value} {l : List Tok} {t : Tok} {kd : Int} (hkd : kd = t.kind) (h1 : Bs w tv t.text) (h2 : Bs w vv t.value) (hT : Tr w2 w.heap.size v' ([] ++ l))
    (hK1 : Keep (fun k => w.heap.size ≤ k) ((w.alloc (.cells #[.int .i64 kd, tv, vv] 39)).alloc (.cells #[] 39)) w2)
    (hK2 : Keep (fun k => (Value.slice (some ⟨w.heap.size + 1, 0, none⟩) 0 0).ownBlock = some k) ((w.alloc (.cells #[.int .i64 kd, tv, vv] 39)).alloc (.cells #[] 39)) w2)
    (hat : v'.ownBlock = (Value.slice (some ⟨w.heap.size + 1, 0, none⟩) 0 0).ownBlock ∨ v'.ownBlock = some (((w.alloc (.cells #[.int .i64 kd, tv, vv] 39)).alloc (.cells #[] 39)).heap.size)) (k : Nat) (hk : k < l.length) :
    ∃ g cap2, v' = .slice (some ⟨g, 0, none⟩) l.length cap2 ∧ l.length ≤ cap2 ∧ cap2 ≤ 9223372036854775807 ∧ w2.cell? ⟨w.heap.size, 0, none⟩ = some (.int .i64 kd) ∧ w2.cell? ⟨w.heap.size, 1, none⟩ = some tv ∧ w2.cell? ⟨w.heap.size, 2, none⟩ = some vv ∧
      (∃ x, w2.cell? ⟨g, k * 3, none⟩ = some x) ∧ (∃ x, w2.cell? ⟨g, k * 3 + 1, none⟩ = some x) ∧ (∃ x, w2.cell? ⟨g, k * 3 + 2, none⟩ = some x) ∧ w2.frozen? ⟨g, k * 3, none⟩ = false ∧ w2.frozen? ⟨g, k * 3 + 1, none⟩ = false ∧ w2.frozen? ⟨g, k * 3 + 2, none⟩ = false ∧
      Ts (((w2.setCell ⟨g, k * 3, none⟩ (.int .i64 kd)).setCell ⟨g, k * 3 + 1, none⟩ tv).setCell ⟨g, k * 3 + 2, none⟩ vv) v' (l.set k t) ∧ Below w.heap.size w (((w2.setCell ⟨g, k * 3, none⟩ (.int .i64 kd)).setCell ⟨g, k * 3 + 1, none⟩ tv).setCell ⟨g, k * 3 + 2, none⟩ vv) := by
  subst hkd
  rw [List.nil_append] at hT
  obtain ⟨ao, cap2, rfl, hc1, hc2, hb⟩ := hT.shape
  have hts := hT.ts
  obtain ⟨ts, hl, hown, -, -⟩ := id hT
  have hlt : l.length = ts.length := by rw [hl]; simp
  obtain ⟨e0, e1 | ⟨g, cap', cur, e, hB, hg, hlc, hcm, hcs, htk⟩⟩ := id hown
  · have := e1.2; omega
  injection e with e1 e2 e3
  subst e1; subst e3
  have hW : Below w.heap.size w ((w.alloc (.cells #[.int .i64 t.kind, tv, vv] 39)).alloc (.cells #[] 39)) := ((Below.refl _ _).alloc (Nat.le_refl _) _).alloc (by rw [World.size_alloc]; omega) _
  have hB2 := below_keep hW hK1 (Nat.le_refl _)
  have hblk : w2.heap[w.heap.size]? = some (.cells #[.int .i64 t.kind, tv, vv] 39 (0, 0)) := by
    rw [hK2.block w.heap.size (by simp only [World.size_alloc]; omega) (fun e => by injection e with e; have e : w.heap.size + 1 = w.heap.size := e; omega)]
    rw [(show Below (w.alloc (.cells #[.int .i64 t.kind, tv, vv] 39)).heap.size _ _ from (Below.refl _ _).alloc (Nat.le_refl _) _).block w.heap.size (by simp)]
    exact heap_alloc_new _ _
  have hgne : w.heap.size ≠ g := by
    rcases hat with e | e
    · injection e with e
      have e : g = w.heap.size + 1 := e
      omega
    · injection e with e
      have e : g = ((w.alloc (.cells #[.int .i64 t.kind, tv, vv] 39)).alloc (.cells #[] 39)).heap.size := e
      simp at e
      omega
  have hcl : ∀ i, i < 3 → ∃ x, w2.cell? ⟨g, k * 3 + i, none⟩ = some x := fun i hi => by
    rw [Lib.cell_of_heap hg]
    exact ⟨_, Array.getElem?_eq_getElem (by rw [hcs]; omega)⟩
  have hfz : ∀ i, w2.frozen? ⟨g, i, none⟩ = false := fun i => by
    simp [World.frozen?, hg]
  have hx : (⟨t, tv, vv⟩ : TV).lies w2 := ⟨h1.below hB2, h2.below hB2⟩
  have hs : (⟨t, tv, vv⟩ : TV).sep (.slice (some ⟨g, 0, none⟩) l.length cap2) := fun g' hg' => by
    injection hg' with hg'
    have hg' : g = g' := hg'
    subst hg'
    exact ⟨fun hne e => by have := Bs.block_lt h1 hne _ e; omega, fun hne e => by have := Bs.block_lt h2 hne _ e; omega⟩
  obtain ⟨hr1, hr2⟩ := Tr.set hT k hk ⟨t, tv, vv⟩ hx hs
  refine ⟨g, cap2, rfl, hc1, hc2, ?_, ?_, ?_, hcl 0 (by omega), hcl 1 (by omega), hcl 2 (by omega), hfz _, hfz _, hfz _, hr1, below_keep hB2 hr2 (Nat.le_refl _)⟩
  · rw [Lib.cell_of_heap hblk]; rfl
  · rw [Lib.cell_of_heap hblk]; rfl
  · rw [Lib.cell_of_heap hblk]; rfl

set_option maxRecDepth 100000 in
set_option maxHeartbeats 1600000 in
theorem Set_any {w : World} {v tv vv : Value} {l : List Tok} (h : Ts w v l) (hlim : l.length ≤ 1099511627776) (k : Nat) (hk : k < l.length) (t : Tok) (h1 : Bs w tv t.text) (h2 : Bs w vv t.value) :
    Calls Tryd.prog 31 #[v, .int .i64 k, .agg #[.int .i64 t.kind, tv, vv]] w fun e w' => ∃ v', e = .returned v' ∧ Ts w' v' (l.set k t) ∧ Below w.heap.size w w' := by
  obtain ⟨ao, cap, rfl, hlc, hcm, -⟩ := h.at
  obtain ⟨a1, c1, rfl⟩ := Bs.shape h1
  obtain ⟨a2, c2, rfl⟩ := Bs.shape h2
  obtain ⟨kd, hkd⟩ : ∃ kd, kd = t.kind := ⟨_, rfl⟩
  obtain ⟨n1, hn1⟩ : ∃ n1, n1 = t.text.length := ⟨_, rfl⟩
  obtain ⟨n2, hn2⟩ : ∃ n2, n2 = t.value.length := ⟨_, rfl⟩
  rw [← hn1] at h1
  rw [← hn2] at h2
  rw [← hkd, ← hn1, ← hn2]
  have hM := fun v' w2 hT hK1 hK2 hat => set_mid (w := w) (w2 := w2) (v' := v') (l := l) (kd := (kd : Nat)) (congrArg Nat.cast hkd) h1 h2 hT hK1 hK2 hat k hk
  have HM := Lib.hid hM
  have hb0 : ∀ o o', Below w.heap.size w ((w.alloc o).alloc o') := fun o o' => ((Below.refl _ _).alloc (Nat.le_refl _) _).alloc (by rw [World.size_alloc]; omega) _
  have hE : ∀ o, Tr ((w.alloc o).alloc (.cells #[] 39)) w.heap.size (.slice (some ⟨w.heap.size + 1, 0, none⟩) 0 0) [] := fun o => by
    have := Tr.empty (w.alloc o) w.heap.size (by rw [World.size_alloc]; omega)
    rw [World.size_alloc] at this
    exact this
  have hF : ∀ o o', Tsp ((w.alloc o).alloc o') (.slice (some ⟨w.heap.size + 1, 0, none⟩) 0 0) (.slice ao l.length cap) l := fun o o' => h.far (hb0 o o') (fun g hg => by injection hg with hg; have hg : w.heap.size + 1 = g := hg; omega)
  have hsz : ∀ o o', w.heap.size ≤ ((w.alloc o).alloc o').heap.size := fun o o' => (hb0 o o').size
  have hlim0 : ([] : List Tok).length + l.length ≤ 1099511627776 := by simpa using hlim
  have HE := Lib.hid hE
  have HF := Lib.hid hF
  have HSZ := Lib.hid hsz
  clear hE hF hsz hM hkd hn1 hn2 h1 h2 h hb0
  go_enter Tryd.func31, Tryd.ntmps31
  go_wp2_with (at_builtin; refine wpList_append_tr (by rfl) (.tmp 8) (.tmp 9) rfl w.heap.size _ _ (by rfl) (by rfl) (HE.out _) (HF.out _ _) hlim0 (HSZ.out _ _) ?_; intro v' w2 hT hK1 hK2 hat; obtain ⟨g, cap2, rfl, p1, p2, q0, q1, q2, ⟨x0, r0⟩, ⟨x1, r1⟩, ⟨x2, r2⟩, f0, f1, f2, hfin, hbel⟩ := HM.out v' w2 hT hK1 hK2 hat; have HT := Lib.hid hfin; have HB := Lib.hid hbel; clear hT hK1 hK2 hat hfin hbel)
  go_ret
  exact ⟨_, rfl, HT.out, HB.out⟩

/-- Put, behind its first append -/
theorem put_one {w w1 : World} {v' : Value} {l : List Tok} (hT : Tr w1 w.heap.size v' ([] ++ l)) (hK : Keep (fun k => w.heap.size ≤ k) (w.alloc (.cells #[] 39)) w1) : Tr w1 w.heap.size v' l ∧ Below w.heap.size w w1 :=
  ⟨hT, below_keep ((Below.refl _ _).alloc (Nat.le_refl _) _) hK (Nat.le_refl _)⟩
theorem Ts.tsp {w0 w : World} {B : Nat} {va vx : Value} {l p : List Tok} (h : Ts w0 vx p) (hb : Below w0.heap.size w0 w) (ht : Tr w B va l) (hB : w0.heap.size ≤ B) : Tsp w va vx p :=
  h.far hb fun g hg => by
    obtain ⟨ao, cap, rfl, -, -, h⟩ := ht.shape
    have := (h g hg).1
    omega
theorem ts_cut {w : World} {ao : Option Addr} {n cap : Nat} {l : List Tok} (h : Ts w (.slice ao n cap) l) (k : Nat) (hk : k ≤ l.length) :
    (ao = none ∧ cap = 0 ∧ l = []) ∨ (∃ ad, ao = some ad ∧ l = []) ∨ ∃ b off, ao = some ⟨b, off, none⟩ ∧ Ts w (.slice (if cap = k then some ⟨b, off, none⟩ else some ⟨b, off + k * 3, none⟩) (n - k) (cap - k)) (l.drop k) := by
  obtain ⟨ts, ao', cap', h1, h2, h3, h4, h5, h6⟩ := id h
  injection h3 with e1 e2 e3
  subst e1; subst e3
  have hl : l.length = ts.length := by rw [h1]; simp
  by_cases hle : l = []
  · cases ao with
    | none => exact .inl ⟨rfl, h5.2 rfl, hle⟩
    | some ad => exact .inr (.inl ⟨ad, rfl, hle⟩)
  · have hp : 0 < ts.length := by have := List.length_pos_iff.2 hle; omega
    obtain ⟨b, off, rfl, -⟩ := h6 0 hp
    refine .inr (.inr ⟨b, off, rfl, ?_⟩)
    split
    · have e : k = l.length := by omega
      subst e
      rw [List.drop_length, show n - l.length = 0 by omega, show cap - l.length = 0 by omega]
      exact Ts.none _ _ _ ⟨by omega, fun _ => rfl⟩
    · exact h.drop k hk
theorem Tsp.nil (w : World) (va : Value) (ad : Addr) (cap : Nat) : Tsp w va (.slice (some ad) 0 cap) [] := .inr ⟨ad, cap, [], rfl, rfl, (fun x hx => by cases hx), (fun x hx => by cases hx), fun j u h => by simp [tcells] at h⟩

set_option maxRecDepth 100000 in
set_option maxHeartbeats 1600000 in
theorem Put_any {w : World} {v vm : Value} {l m : List Tok} (h : Ts w v l) (hm : Ts w vm m) (hlim : l.length + m.length ≤ 1000000000000) (k : Nat) (hk : k ≤ l.length) :
    Calls Tryd.prog 38 #[v, .int .i64 k, vm] w fun e w' => ∃ v', e = .returned v' ∧ Ts w' v' (l.take k ++ m ++ l.drop k) ∧ Below w.heap.size w w' := by
  obtain ⟨ao, cap, hv, hlc, hcm, -⟩ := h.at
  subst hv
  obtain ⟨am, cm, hv, -, -, -⟩ := hm.at
  subst hv
  have hE := Tr.empty w w.heap.size (Nat.le_refl _)
  have hb0 : ∀ o, Below w.heap.size w (w.alloc o) := fun o => (Below.refl _ _).alloc (Nat.le_refl _) _
  have hF : ∀ o, Tsp (w.alloc o) (.slice (some ⟨w.heap.size, 0, none⟩) 0 0) (.slice ao k cap) (l.take k) := fun o => (h.take k hk).far (hb0 o) (fun g hg => by injection hg with hg; have hg : w.heap.size = g := hg; omega)
  have hsz : ∀ o, w.heap.size ≤ (w.alloc o).heap.size := fun o => (hb0 o).size
  have HE := Lib.hid hE
  have HF := Lib.hid hF
  have HSZ := Lib.hid hsz
  have hl0 : ([] : List Tok).length + (l.take k).length ≤ 1099511627776 := by simp; omega
  have hl1 : (l.take k).length + m.length ≤ 1099511627776 := by simp; omega
  have hl2 : (l.take k ++ m).length + (l.drop k).length ≤ 1099511627776 := by simp; omega
  have hk1 : (k : Int) ≤ l.length := by omega
  have hk3 : k ≤ cap := by omega
  have HM := Lib.hid hm
  have hcut := ts_cut h k hk
  clear hE hF hsz h hm hb0
  rcases hcut with ⟨rfl, rfl, rfl⟩ | ⟨ad, rfl, rfl⟩ | ⟨b, off, rfl, hd⟩
  · have hk0 : k = 0 := by simpa using hk
    subst hk0
    go_enter Tryd.func38, Tryd.ntmps38
    go_wp2_with (first
      | (at_builtin; refine wpList_append_tr (by rfl) (.tmp 8) (.tmp 11) rfl w.heap.size _ _ (by rfl) (by rfl) HE.out (HF.out _) hl0 (HSZ.out _) ?_; intro v' w1 hT hK1 hK2 hat; have H1 := Lib.hid (put_one hT hK1); clear hT hK1 hK2 hat)
      | (at_builtin; refine wpList_append_tr (by rfl) (.tmp 13) (.tmp 14) rfl w.heap.size _ _ (by rfl) (by rfl) H1.out.1 (HM.out.tsp H1.out.2 H1.out.1 (Nat.le_refl _)) hl1 H1.out.2.size ?_; intro v2 w2 hT hK1 hK2 hat; have H2 := Lib.hid (And.intro hT (below_keep H1.out.2 hK1 (Nat.le_refl _))); clear hT hK1 hK2 hat)
      | (at_builtin; refine wpList_append_tr (by rfl) (.tmp 16) (.tmp 19) rfl w.heap.size _ _ (by rfl) (by rfl) H2.out.1 (.inl ⟨rfl, rfl⟩) hl2 H2.out.2.size ?_; intro v3 w3 hT hK1 hK2 hat; have H3 := Lib.hid (And.intro hT.ts (below_keep H2.out.2 hK1 (Nat.le_refl _))); clear hT hK1 hK2 hat))
    go_ret
    exact ⟨_, rfl, H3.out.1, H3.out.2⟩
  · have hk0 : k = 0 := by simpa using hk
    subst hk0
    go_enter Tryd.func38, Tryd.ntmps38
    go_wp2_with (first
      | (at_builtin; refine wpList_append_tr (by rfl) (.tmp 8) (.tmp 11) rfl w.heap.size _ _ (by rfl) (by rfl) HE.out (HF.out _) hl0 (HSZ.out _) ?_; intro v' w1 hT hK1 hK2 hat; have H1 := Lib.hid (put_one hT hK1); clear hT hK1 hK2 hat)
      | (at_builtin; refine wpList_append_tr (by rfl) (.tmp 13) (.tmp 14) rfl w.heap.size _ _ (by rfl) (by rfl) H1.out.1 (HM.out.tsp H1.out.2 H1.out.1 (Nat.le_refl _)) hl1 H1.out.2.size ?_; intro v2 w2 hT hK1 hK2 hat; have H2 := Lib.hid (And.intro hT (below_keep H1.out.2 hK1 (Nat.le_refl _))); clear hT hK1 hK2 hat)
      | (at_builtin; refine wpList_append_tr (by rfl) (.tmp 16) (.tmp 19) rfl w.heap.size _ _ (by rfl) (by rfl) H2.out.1 (Tsp.nil _ _ _ _) hl2 H2.out.2.size ?_; intro v3 w3 hT hK1 hK2 hat; have H3 := Lib.hid (And.intro hT.ts (below_keep H2.out.2 hK1 (Nat.le_refl _))); clear hT hK1 hK2 hat))
    go_ret
    exact ⟨_, rfl, H3.out.1, H3.out.2⟩
  · have HD := Lib.hid hd
    clear hd
    go_enter Tryd.func38, Tryd.ntmps38
    go_wp2_with (first
      | (at_builtin; refine wpList_append_tr (by rfl) (.tmp 8) (.tmp 11) rfl w.heap.size _ _ (by rfl) (by rfl) HE.out (HF.out _) hl0 (HSZ.out _) ?_; intro v' w1 hT hK1 hK2 hat; have H1 := Lib.hid (put_one hT hK1); clear hT hK1 hK2 hat)
      | (at_builtin; refine wpList_append_tr (by rfl) (.tmp 13) (.tmp 14) rfl w.heap.size _ _ (by rfl) (by rfl) H1.out.1 (HM.out.tsp H1.out.2 H1.out.1 (Nat.le_refl _)) hl1 H1.out.2.size ?_; intro v2 w2 hT hK1 hK2 hat; have H2 := Lib.hid (And.intro hT (below_keep H1.out.2 hK1 (Nat.le_refl _))); clear hT hK1 hK2 hat)
      | (at_builtin; refine wpList_append_tr (by rfl) (.tmp 16) (.tmp 19) rfl w.heap.size _ _ (by rfl) (by rfl) H2.out.1 (HD.out.tsp H2.out.2 H2.out.1 (Nat.le_refl _)) hl2 H2.out.2.size ?_; intro v3 w3 hT hK1 hK2 hat; have H3 := Lib.hid (And.intro hT.ts (below_keep H2.out.2 hK1 (Nat.le_refl _))); clear hT hK1 hK2 hat))
    all_goals
      go_ret
      exact ⟨_, rfl, by rw [← List.append_assoc]; exact H3.out.1, H3.out.2⟩
end Go.Proofs.YthfkgancjpdodaaDoor

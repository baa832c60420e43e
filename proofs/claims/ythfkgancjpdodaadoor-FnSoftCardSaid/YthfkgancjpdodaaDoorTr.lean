/- Appending tokens to a row of the call's own. -/
import Derived.Test.YthfkgancjpdodaaDoorSp1
import Derived.Maps.AppendAt
namespace Go.Proofs.YthfkgancjpdodaaDoor
open Go.RowKit Qp

/-- a token's bytes do not lie in the row v -/
def TV.sep (v : Value) (x : TV) : Prop := ∀ g, v.ownBlock = some g → (x.t.text ≠ [] → x.tv.ownBlock ≠ some g) ∧ (x.t.value ≠ [] → x.vv.ownBlock ≠ some g)

/-- the row v, of the call's own, reads as l -/
def Tr (w : World) (B : Nat) (v : Value) (l : List Tok) : Prop :=
  ∃ ts : List TV, l = ts.map TV.t ∧ w.ownsRow B 39 3 v ts.length (tcells ts) ∧ (∀ x ∈ ts, x.lies w) ∧ ∀ x ∈ ts, x.sep v
theorem Tr.ts {w : World} {B : Nat} {v : Value} {l : List Tok} (h : Tr w B v l) : Ts w v l := by
  obtain ⟨ts, rfl, h1, h2, -⟩ := h; exact Ts.of_own h1 h2
theorem Tr.below {w w' : World} {B : Nat} {v : Value} {l : List Tok} (h : Tr w B v l) (hb : Below w.heap.size w w') : Tr w' B v l := by
  obtain ⟨ts, rfl, h1, h2, h3⟩ := h; exact ⟨ts, rfl, own_below h1 hb, fun x hx => (h2 x hx).below hb, h3⟩
theorem Tr.nil (w : World) (B : Nat) : Tr w B (.slice none 0 0) [] := ⟨[], rfl, World.ownsRow_nil _ _ _ _, (fun x hx => by cases hx), (fun x hx => by cases hx)⟩
theorem Tr.empty (w : World) (B : Nat) (hB : B ≤ w.heap.size) : Tr (w.alloc (.cells #[] 39)) B (.slice (some ⟨w.heap.size, 0, none⟩) 0 0) [] :=
  ⟨[], rfl, ⟨rfl, .inr ⟨w.heap.size, 0, #[], rfl, hB, heap_alloc_new _ _, Nat.le_refl _, Nat.zero_le _, rfl, rfl⟩⟩, (fun x hx => by cases hx), (fun x hx => by cases hx)⟩
theorem Tr.shape {w : World} {B : Nat} {v : Value} {l : List Tok} (h : Tr w B v l) : ∃ ao cap, v = .slice ao l.length cap ∧ l.length ≤ cap ∧ cap ≤ 9223372036854775807 ∧ ∀ g, v.ownBlock = some g → B ≤ g ∧ g < w.heap.size := by
  obtain ⟨ts, rfl, ⟨_, h1⟩, -, -⟩ := h
  rcases h1 with ⟨rfl, h⟩ | ⟨g, cap, cur, rfl, hB, hg, hlc, hcm, hcs, htk⟩
  · have e : ts = [] := List.eq_nil_of_length_eq_zero h
    subst e
    exact ⟨none, 0, rfl, Nat.le_refl _, by omega, fun g h => by cases h⟩
  · refine ⟨some ⟨g, 0, none⟩, cap, by simp, by simpa using hlc, by unfold maxLen at hcm; omega, fun g' h => ?_⟩
    injection h with h
    subst h
    exact ⟨hB, Lib.lt_of_heap hg⟩

theorem Bs.keepn {w w' : World} {v : Value} {l : List UInt8} (h : Bs w v l) (hc : l ≠ [] → ∀ p x, v.ownBlock = some p.block → w.cell? p = some x → w'.cell? p = some x) : Bs w' v l := by
  by_cases hl : l = []
  · subst hl
    obtain ⟨ao, cap, rfl, h2, h3, h4, _⟩ := h
    exact ⟨ao, cap, rfl, h2, h3, h4, fun h => absurd rfl h⟩
  · exact h.keep (hc hl)

/-- behind a step that turned nothing but the row and new blocks -/
theorem TV.lies.grown {w w' : World} {v : Value} {x : TV} (h : x.lies w) (hs : x.sep v) (hg : w.grownBy w' v.ownBlock) : x.lies w' :=
  ⟨h.1.keepn fun hne _ _ e hc => hg.cell hc (fun e' => (hs _ e'.symm).1 hne e), h.2.keepn fun hne _ _ e hc => hg.cell hc (fun e' => (hs _ e'.symm).2 hne e)⟩
theorem TV.sep.grown {w : World} {v v' : Value} {x : TV} (hs : x.sep v) (h : x.lies w) (hat : v'.ownBlock = v.ownBlock ∨ v'.ownBlock = some w.heap.size) : x.sep v' := by
  intro g hg
  rcases hat with e | e
  · exact hs g (e.symm.trans hg)
  · rw [hg] at e
    injection e with e
    subst e
    exact ⟨fun hne e => Nat.lt_irrefl _ (Bs.block_lt h.1 hne _ e), fun hne e => Nat.lt_irrefl _ (Bs.block_lt h.2 hne _ e)⟩

/-- what is to be appended to va -/
def Tsp (w : World) (va vx : Value) (p : List Tok) : Prop :=
  (vx = .slice none 0 0 ∧ p = []) ∨ ∃ ad cap, ∃ ts : List TV, vx = .slice (some ad) p.length cap ∧ p = ts.map TV.t ∧ (∀ x ∈ ts, x.lies w) ∧ (∀ x ∈ ts, x.sep va) ∧ ∀ j u, (tcells ts)[j]? = some u → w.cell? (ad.add j) = some u

theorem tcells_at {ts : List TV} {c : Nat → Option Value} (h : ∀ k (hk : k < ts.length), c (k * 3) = some (.int .i64 ts[k].t.kind) ∧ c (k * 3 + 1) = some ts[k].tv ∧ c (k * 3 + 2) = some ts[k].vv) (j : Nat) (u : Value) (hj : (tcells ts)[j]? = some u) : c j = some u := by
  have hl := (List.getElem?_eq_some_iff.1 hj).1
  rw [tcells_length] at hl
  have hk : j / 3 < ts.length := by omega
  obtain ⟨h0, h1, h2⟩ := h (j / 3) hk
  obtain ⟨g0, g1, g2⟩ := tcells_get ts (j / 3) hk
  have hc : j = 3 * (j / 3) ∨ j = 3 * (j / 3) + 1 ∨ j = 3 * (j / 3) + 2 := by omega
  rw [Nat.mul_comm] at h0 h1 h2
  generalize j / 3 = k at *
  rcases hc with rfl | rfl | rfl
  · rw [h0, ← hj, g0]
  · rw [h1, ← hj, g1]
  · rw [h2, ← hj, g2]

/-- a slice that lay ahead of the row -/
theorem Ts.far {w0 w : World} {va vx : Value} {p : List Tok} (h : Ts w0 vx p) (hb : Below w0.heap.size w0 w) (hv : ∀ g, va.ownBlock = some g → w0.heap.size ≤ g) : Tsp w va vx p := by
  obtain ⟨ts, ao, cap, rfl, h2, rfl, h4, h5, h6⟩ := h
  cases ao with
  | none =>
    have hc := h5.2 rfl
    subst hc
    have : ts = [] := List.eq_nil_of_length_eq_zero (by omega)
    subst this
    exact .inl ⟨rfl, rfl⟩
  | some ad =>
    refine .inr ⟨ad, cap, ts, by simp, rfl, fun x hx => (h2 x hx).below hb, fun x hx g hg => ?_, fun j u hj => ?_⟩
    · have := hv g hg
      exact ⟨fun hne e => by have := Bs.block_lt (h2 x hx).1 hne _ e; omega, fun hne e => by have := Bs.block_lt (h2 x hx).2 hne _ e; omega⟩
    · refine below_cell hb _ _ (tcells_at (c := fun j => w0.cell? (ad.add j)) (fun k hk => ?_) j u hj)
      obtain ⟨b, off, e, c0, c1, c2⟩ := h6 k hk
      injection e with e
      subst e
      simp only [Lib.addr_add]
      exact ⟨c0, c1, c2⟩

/-- a token that has been laid by itself -/
theorem tok_src {w : World} {va : Value} (x : TV) (h : x.lies w) (hs : x.sep va) : Tsp (w.alloc (.cells #[.int .i64 x.t.kind, x.tv, x.vv] 39)) va (.slice (some ⟨w.heap.size, 0, none⟩) 1 1) [x.t] := by
  refine .inr ⟨_, 1, [x], rfl, rfl, fun y hy => ?_, fun y hy => ?_, fun j u hj => ?_⟩
  · rw [List.mem_singleton] at hy; subst hy
    exact h.below ((Below.refl _ _).alloc (Nat.le_refl _) _)
  · rw [List.mem_singleton] at hy; subst hy
    exact hs
  · rw [Lib.addr_add, Lib.cell_of_heap (heap_alloc_new _ _), Nat.zero_add, ← Array.getElem?_toList]
    exact hj

theorem tcells_one {ts : List TV} (h : ∀ x ∈ ts, ∃ w, x.lies w) : ∀ u ∈ tcells ts, u.oneCell' = true := by
  intro u hu
  obtain ⟨x, hx, hu⟩ := List.mem_flatMap.1 hu
  obtain ⟨w, h1, h2⟩ := h x hx
  obtain ⟨a1, c1, e1⟩ := Bs.shape h1
  obtain ⟨a2, c2, e2⟩ := Bs.shape h2
  simp only [TV.cells, List.mem_cons, List.not_mem_nil, or_false] at hu
  rcases hu with rfl | rfl | rfl
  · rfl
  · rw [e1]; rfl
  · rw [e2]; rfl

/-- 'append' of tokens, as a run -/
theorem run_append_tr {w : World} (ty : TypeId) (B : Nat) {va vx : Value} {l p : List Tok} (hown : Tr w B va l) (hp : Tsp w va vx p) (hlim : l.length + p.length ≤ 1099511627776) (hB : B ≤ w.heap.size) :
    ∃ v' w', (Builtin.append_ #[30, 30] ty #[va, vx]).run Tryd.prog w = .ok v' w' ∧ Tr w' B v' (l ++ p) ∧ Keep (fun k => B ≤ k) w w' ∧ Keep (fun k => va.ownBlock = some k) w w' ∧ (v'.ownBlock = va.ownBlock ∨ v'.ownBlock = some w.heap.size) := by
  obtain ⟨i0, hi, hz0, hz1, hz2⟩ := infoT
  obtain ⟨t1, rfl, o1, l1, s1⟩ := hown
  rcases hp with ⟨rfl, rfl⟩ | ⟨ad, cap, ts, rfl, rfl, l2, s2, hnews⟩
  · have hrun := run_append_owned_none (P := Tryd.prog) (w := w) B 30 ty 39 i0 3 Tryd.underlying30 hi va t1.length _ o1
    exact ⟨va, w, hrun, by rw [List.append_nil]; exact ⟨t1, rfl, o1, l1, s1⟩, Keep.refl _ _, Keep.refl _ _, .inl rfl⟩
  · simp only [List.length_map] at hlim ⊢
    obtain ⟨v', w', hr, h2, h3, -, h5⟩ := run_append_own_at (P := Tryd.prog) w B 30 ty 39 i0 _ 3 56 Tryd.underlying30 hi hz0 hz1 hz2 rfl (by decide) va t1.length _ o1 ad ts.length cap (tcells ts) (tcells_length ts) hnews (tcells_one fun x hx => ⟨w, l2 x hx⟩) (by unfold maxLen; omega) (by omega) hB
    have hl : ∀ x ∈ t1 ++ ts, x.lies w := fun x hx => by
      rcases List.mem_append.1 hx with hx | hx
      · exact l1 x hx
      · exact l2 x hx
    have hs : ∀ x ∈ t1 ++ ts, x.sep va := fun x hx => by
      rcases List.mem_append.1 hx with hx | hx
      · exact s1 x hx
      · exact s2 x hx
    refine ⟨v', w', hr, ⟨t1 ++ ts, by simp, by rw [List.length_append, tcells_append]; exact h2, fun x hx => (hl x hx).grown (hs x hx) h3, fun x hx => (hs x hx).grown (hl x hx) h5⟩, (Keep.refl _ w).grownB h3 (own_ge o1), grown_keep h3, h5⟩

/-- 'append' of tokens to a row of the call's own -/
theorem wpList_append_tr {ops : Array Oper} {rest : List Oper} {o : Oper} {a : Act} {w : World} {Q : Exit → Act → World → Prop} (hw : Region.wanted o (yielded ops a.tmps) = true) (s x : Operand)
    (hop : o.op = Op.call { callee := Callee.builtin Builtin.append, args := #[s, x], argTypes := #[30, 30] }) (B : Nat) (va vx : Value) (hs : a.eval s = va) (hx : a.eval x = vx) {l p : List Tok}
    (hown : Tr w B va l) (hp : Tsp w va vx p) (hlim : l.length + p.length ≤ 1099511627776) (hB : B ≤ w.heap.size)
    (hK : ∀ v' w', Tr w' B v' (l ++ p) → Keep (fun k => B ≤ k) w w' → Keep (fun k => va.ownBlock = some k) w w' → (v'.ownBlock = va.ownBlock ∨ v'.ownBlock = some w.heap.size) → wpList Tryd.prog ops Q rest (a.put o.dst v') w') : wpList Tryd.prog ops Q (o :: rest) a w := by
  refine wpList_step fun K hK' => ?_
  rw [if_pos hw]
  obtain ⟨v', w', hr, h1, h2, h3, h4⟩ := run_append_tr o.type B hown hp hlim hB
  unfold Oper.wp execOp
  simp only [hop, resolve, invoke, builtin, Sem.run_bind, Sem.run_pure, Result.andThen_ok, List.map_toArray, List.map_cons, List.map_nil, hs, hx, hr]
  exact hK' _ _ (hK v' w' h1 h2 h3 h4)
end Go.Proofs.YthfkgancjpdodaaDoor

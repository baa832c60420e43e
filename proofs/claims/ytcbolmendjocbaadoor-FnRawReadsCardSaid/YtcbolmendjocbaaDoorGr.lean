/- Rows of Got; the walk of impl.state. -/
import Derived.Test.YtcbolmendjocbaaDoorRa1
import Derived.Test.YtcbolmendjocbaaDoorBlank
import Derived.Maps.AppendAt
namespace Go.Proofs.YtcbolmendjocbaaDoor
open Go.RowKit Qp

/-- what a read gave, with the slice that bears it -/
structure GV where
  d : List UInt8
  s : Nat
  v : Value
def GV.g (x : GV) : List UInt8 × Nat := (x.d, x.s)
def GV.cells (x : GV) : List Value := [x.v, .int .i64 x.s]
def gcells (ts : List GV) : List Value := ts.flatMap GV.cells
theorem gcells_length (ts : List GV) : (gcells ts).length = ts.length * 2 := by
  induction ts with
  | nil => rfl
  | cons x r ih => rw [gcells, List.flatMap_cons, List.length_append]; rw [gcells] at ih; rw [ih]; simp [GV.cells]; omega
theorem gcells_append (a b : List GV) : gcells (a ++ b) = gcells a ++ gcells b := by simp [gcells]
theorem gcells_get (ts : List GV) : ∀ (k : Nat) (hk : k < ts.length), (gcells ts)[2 * k]? = some ts[k].v ∧ (gcells ts)[2 * k + 1]? = some (.int .i64 ts[k].s) := by
  induction ts with
  | nil => intro k hk; simp at hk
  | cons x r ih =>
    intro k hk
    have e : gcells (x :: r) = [x.v, .int .i64 x.s] ++ gcells r := rfl
    cases k with
    | zero => rw [e]; simp
    | succ k =>
      have hk' : k < r.length := by simpa using hk
      obtain ⟨h0, h1⟩ := ih k hk'
      rw [e]
      refine ⟨?_, ?_⟩
      · rw [List.getElem?_append_right (by simp; omega)]; simpa [show 2 * (k + 1) - 2 = 2 * k by omega] using h0
      · rw [List.getElem?_append_right (by simp; omega)]; simpa [show 2 * (k + 1) + 1 - 2 = 2 * k + 1 by omega] using h1

/-- the slice v of Got reads as l -/
def Gs (w : World) (v : Value) (l : List (List UInt8 × Nat)) : Prop :=
  ∃ ao cap, v = .slice ao l.length cap ∧ l.length ≤ cap ∧ cap ≤ 9223372036854775807 ∧
    ∀ k (hk : k < l.length), ∃ b off a1 n1 c1, ao = some ⟨b, off, none⟩ ∧ w.cell? ⟨b, off + k * 2, none⟩ = some (.slice a1 n1 c1) ∧ w.cell? ⟨b, off + k * 2 + 1, none⟩ = some (.int .i64 l[k].2) ∧ Bs w (.slice a1 n1 c1) l[k].1
theorem Gs.below {w w' : World} {v : Value} {l : List (List UInt8 × Nat)} (h : Gs w v l) (hb : Below w.heap.size w w') : Gs w' v l := by
  obtain ⟨ao, cap, h1, h2, h3, h4⟩ := h
  refine ⟨ao, cap, h1, h2, h3, fun k hk => ?_⟩
  obtain ⟨b, off, a1, n1, c1, e, c0, c1', hs⟩ := h4 k hk
  exact ⟨b, off, a1, n1, c1, e, below_cell hb _ _ c0, below_cell hb _ _ c1', hs.below hb⟩

theorem infoGf : (Tryd.prog.info? 31).map (fun i => (i.zero, i.size, i.bytes)) = some (some (.agg #[.slice none 0 0, .int .i64 0]), 2, 32) := by kernel_rfl
theorem infoG : ∃ i, Tryd.prog.info? 31 = some i ∧ i.zero = some (.agg #[.slice none 0 0, .int .i64 0]) ∧ i.size = 2 ∧ i.bytes = 32 := by
  have h := infoGf
  cases hi : Tryd.prog.info? 31 with
  | none => rw [hi] at h; cases h
  | some i =>
    rw [hi] at h
    simp only [Option.map_some, Option.some.injEq, Prod.mk.injEq] at h
    exact ⟨i, rfl, h.1, h.2.1, h.2.2⟩

/-- the row v of the call's own, behind B, reads as l; the bytes lie behind B, too, and not in the row -/
def Gr (w : World) (B : Nat) (v : Value) (l : List (List UInt8 × Nat)) : Prop :=
  ∃ ts : List GV, l = ts.map GV.g ∧ w.ownsRow B 31 2 v ts.length (gcells ts) ∧ (∀ x ∈ ts, Bs w x.v x.d) ∧ ∀ x ∈ ts, ∀ g, x.v.ownBlock = some g → B ≤ g ∧ g < w.heap.size ∧ v.ownBlock ≠ some g
theorem Gr.nil (w : World) (B : Nat) : Gr w B (.slice none 0 0) [] := ⟨[], rfl, World.ownsRow_nil _ _ _ _, (fun x hx => by cases hx), (fun x hx => by cases hx)⟩
theorem own_keepw {S : Nat → Prop} {w w' : World} {B e s n : Nat} {v : Value} {xs : List Value} (h : w.ownsRow B e s v n xs) (hk : Keep S w w') (hS : ∀ g, v.ownBlock = some g → B ≤ g → g < w.heap.size → ¬ S g) : w'.ownsRow B e s v n xs := by
  refine ⟨h.1, ?_⟩
  rcases h.2 with h | ⟨g, cap, cur, rfl, h2, h3, h4⟩
  · exact .inl h
  · exact .inr ⟨g, cap, cur, rfl, h2, by rw [hk.block g (Lib.lt_of_heap h3) (hS g rfl h2 (Lib.lt_of_heap h3))]; exact h3, h4⟩
theorem Gr.keep {S : Nat → Prop} {w w' : World} {B : Nat} {v : Value} {l : List (List UInt8 × Nat)} (h : Gr w B v l) (hk : Keep S w w') (hS : ∀ g, B ≤ g → g < w.heap.size → ¬ S g) : Gr w' B v l := by
  obtain ⟨ts, rfl, h1, h2, h3⟩ := h
  refine ⟨ts, rfl, own_keepw h1 hk (fun g _ => hS g), fun x hx => (h2 x hx).keepS hk (fun g hg => ?_), fun x hx g hg => ?_⟩
  · obtain ⟨q1, q2, _⟩ := h3 x hx g hg
    exact hS g q1 q2
  · obtain ⟨q1, q2, q3⟩ := h3 x hx g hg
    exact ⟨q1, Nat.lt_of_lt_of_le q2 hk.size, q3⟩
theorem Gr.gs {w : World} {B : Nat} {v : Value} {l : List (List UInt8 × Nat)} (h : Gr w B v l) : Gs w v l := by
  obtain ⟨ts, rfl, ⟨_, h1⟩, h2, h3⟩ := h
  rcases h1 with ⟨rfl, h⟩ | ⟨g, cap, cur, rfl, hB, hg, hlc, hcm, hcs, htk⟩
  · have : ts = [] := List.eq_nil_of_length_eq_zero h
    subst this
    exact ⟨none, 0, rfl, Nat.le_refl _, by omega, fun k hk => absurd hk (by simp)⟩
  · refine ⟨some ⟨g, 0, none⟩, cap, by simp, by simpa using hlc, by unfold maxLen at hcm; omega, fun k hk => ?_⟩
    have hk' : k < ts.length := by simpa using hk
    obtain ⟨h0, h1⟩ := gcells_get ts k hk'
    have hc : ∀ j u, j < ts.length * 2 → (gcells ts)[j]? = some u → w.cell? ⟨g, 0 + j, none⟩ = some u := by
      intro j u hj hu
      rw [Lib.cell_of_heap hg, ← Array.getElem?_toList, ← hu, ← htk, List.getElem?_take, if_pos hj, Nat.zero_add]
    have hb := h2 ts[k] (List.getElem_mem hk')
    obtain ⟨a1, c1, e1⟩ := Bs.shape hb
    rw [e1] at h0 hb
    refine ⟨g, 0, a1, _, c1, rfl, hc _ _ (by omega) (by rw [Nat.mul_comm]; exact h0), ?_, by simpa [GV.g] using hb⟩
    have := hc (k * 2 + 1) _ (by omega) (by rw [Nat.mul_comm]; exact h1)
    rw [← Nat.add_assoc] at this
    simpa [GV.g] using this

theorem Gr.ge {w : World} {B : Nat} {v : Value} {l : List (List UInt8 × Nat)} (h : Gr w B v l) {g : Nat} (e : v.ownBlock = some g) : B ≤ g :=
  let ⟨_, _, h1, _, _⟩ := h
  own_ge h1 g e
theorem Gr.mild {R Bu Bf s : Nat} {w : World} {B : Nat} {v : Value} {l : List (List UInt8 × Nat)} (h : Gr w B v l) (hR : R ≤ B) : Mild R Bu Bf s w (fun g => v.ownBlock = some g) :=
  let ⟨_, _, h1, _, _⟩ := h
  own_mild h1 hR (by decide)

/-- 'append' of one Got that has been laid by itself -/
theorem run_append_gr {w : World} (ty : TypeId) (B : Nat) {va dv : Value} {l : List (List UInt8 × Nat)} {d : List UInt8} {s : Nat} (h : Gr w B va l) (hd : Bs w dv d) (hdb : ∀ g, dv.ownBlock = some g → B ≤ g ∧ g < w.heap.size ∧ va.ownBlock ≠ some g)
    (hlim : l.length + 1 ≤ 1099511627776) (hB : B ≤ w.heap.size) :
    ∃ v' w', (Builtin.append_ #[28, 28] ty #[va, .slice (some ⟨w.heap.size, 0, none⟩) 1 1]).run Tryd.prog (w.alloc (.cells #[dv, .int .i64 s] 31)) = .ok v' w' ∧ Gr w' B v' (l ++ [(d, s)]) ∧ Keep (fun k => va.ownBlock = some k) w w' := by
  obtain ⟨i0, hi, hz0, hz1, hz2⟩ := infoG
  have hA : Below w.heap.size w (w.alloc (.cells #[dv, .int .i64 s] 31)) := (Below.refl _ _).alloc (Nat.le_refl _) _
  obtain ⟨ts, rfl, o1, l1, s1⟩ := h
  simp only [List.length_map] at hlim
  have o1' := own_below o1 hA
  have hone : ∀ u ∈ gcells [⟨d, s, dv⟩], u.oneCell' = true := by
    obtain ⟨a1, c1, rfl⟩ := Bs.shape hd
    intro u hu
    simp [gcells, GV.cells] at hu
    rcases hu with rfl | rfl <;> rfl
  obtain ⟨v', w', hr, h2, h3, -, h5⟩ := run_append_own_at (P := Tryd.prog) (w.alloc (.cells #[dv, .int .i64 s] 31)) B 28 ty 31 i0 _ 2 32 Tryd.underlying28 hi hz0 hz1 hz2 rfl (by decide) va ts.length _ o1' ⟨w.heap.size, 0, none⟩ 1 1 (gcells [⟨d, s, dv⟩]) rfl (fun j u hj => by
    rw [Lib.addr_add, Lib.cell_of_heap (heap_alloc_new _ _), Nat.zero_add, ← Array.getElem?_toList]
    exact hj) hone (by unfold maxLen; omega) (by omega) (by rw [World.size_alloc]; omega)
  have hsz := h3.size
  rw [World.size_alloc] at hsz
  have hl : ∀ x ∈ ts ++ [⟨d, s, dv⟩], Bs w x.v x.d ∧ ∀ g, x.v.ownBlock = some g → B ≤ g ∧ g < w.heap.size ∧ va.ownBlock ≠ some g := fun x hx => by
    rcases List.mem_append.1 hx with hx | hx
    · exact ⟨l1 x hx, s1 x hx⟩
    · rw [List.mem_singleton] at hx; subst hx
      exact ⟨hd, hdb⟩
  refine ⟨v', w', hr, ⟨ts ++ [⟨d, s, dv⟩], by simp [GV.g], by rw [List.length_append, gcells_append]; exact h2, fun x hx => ?_, fun x hx g hg => ?_⟩, ((Keep.refl (fun k => va.ownBlock = some k) w).alloc _).grown h3 (fun g e => e)⟩
  · obtain ⟨q1, q2⟩ := hl x hx
    exact (q1.below hA).keep fun p y e hc => h3.cell hc (fun e' => (q2 _ e).2.2 e'.symm)
  · obtain ⟨q1, q2⟩ := hl x hx
    obtain ⟨r1, r2, r3⟩ := q2 g hg
    refine ⟨r1, by omega, fun e => ?_⟩
    rcases h5 with e5 | e5
    · exact r3 (e5.symm.trans e)
    · rw [e] at e5
      injection e5 with e5
      rw [World.size_alloc] at e5
      omega

/-- the state of an error -/
theorem state_nil (w : World) : Calls Tryd.prog 15 #[.nilIface] w fun e w' => e = .returned (.int .i64 0) ∧ w = w' := by
  go_enter Tryd.func15, Tryd.ntmps15
  go_wp2
  go_ret
  exact ⟨rfl, rfl⟩
theorem state_eof {w : World} {ea : Addr} (hE : EofAt w ea) : Calls Tryd.prog 15 #[eofv ea] w fun e w' => e = .returned (.int .i64 1) ∧ w = w' := by
  have heq := eof_same ea w
  unfold EofAt at hE
  unfold eofv at hE heq ⊢
  go_enter Tryd.func15, Tryd.ntmps15
  go_wp2
  go_ret
  exact ⟨rfl, rfl⟩
theorem state_other {w : World} {ea a : Addr} (hE : EofAt w ea) (heq : (binOp .eql 46 (eofv a) (eofv ea)).run Tryd.prog w = .ok (.bool false) w) : Calls Tryd.prog 15 #[eofv a] w fun e w' => e = .returned (.int .i64 2) ∧ w = w' := by
  unfold EofAt at hE
  unfold eofv at hE heq ⊢
  go_enter Tryd.func15, Tryd.ntmps15
  go_wp2
  go_ret
  exact ⟨rfl, rfl⟩
/-- the state of an error that is not io.EOF -/
theorem state_errB {R Bu Bf s : Nat} {w : World} {ea a : Addr} (hE : EofAt w ea) (hb : ErrB R Bu Bf s ea w a) (hc : ∃ x, w.cell? ea = some x) : Calls Tryd.prog 15 #[eofv a] w fun e w' => e = .returned (.int .i64 2) ∧ w = w' :=
  let ⟨hne, _, _, hh, _⟩ := hb
  state_other hE (eof_far w hh hc hne)
end Go.Proofs.YtcbolmendjocbaaDoor

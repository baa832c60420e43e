/- Appending bytes in a region that draws its order; Text of a beginning and of the rest. -/
import Derived.Test.YthfkgancjpdodaaDoorSp1
import Derived.Deep.AppendLies
import Derived.Deep.RegionLaw
namespace Go.Proofs.YthfkgancjpdodaaDoor
open Go.RowKit Qp

theorem step_append_bs {ops : Array Oper} {o : Oper} {a : Act} {w : World} {K : Act → World → Prop} {Q : Exit → Act → World → Prop} {E : Prop} (hgd : o.guard = none) (s x : Operand)
    (hop : o.op = Op.call { callee := Callee.builtin Builtin.append, args := #[s, x], argTypes := #[24, 24] }) (B : Nat) (va vx : Value) (hs : a.eval s = va) (hx : a.eval x = vx) {l p : List UInt8}
    (hown : w.ownsRow B 5 1 va l.length (Lib.byteCells l)) (hp : Bs w vx p) (hlim : l.length + p.length ≤ 140737488355328) (hB : B ≤ w.heap.size)
    (hK : ∀ v' w', w'.ownsRow B 5 1 v' (l ++ p).length (Lib.byteCells (l ++ p)) → Keep (fun k => B ≤ k) w w' → Keep (fun k => va.ownBlock = some k) w w' → K (a.put o.dst v') w') :
    if Region.wanted o (yielded ops a.tmps) = true then Oper.wp Tryd.prog o a w K Q else E := by
  have hw : Region.wanted o (yielded ops a.tmps) = true := by simp [Region.wanted, hgd]
  rw [if_pos hw]
  obtain ⟨i0, hi, hz0, hz1, hz2⟩ := info_parts info5
  rcases hp.src with ⟨rfl, rfl⟩ | ⟨ad, cap, rfl, hpc, hpm, hnews⟩
  · have hrun := run_append_owned_none (P := Tryd.prog) (w := w) B 24 o.type 5 i0 1 Tryd.underlying24 hi va l.length _ hown
    unfold Oper.wp
    simp [execOp, hop, resolve, invoke, builtin, hs, hx, hrun, Result.andThen]
    exact hK va w (by rw [List.append_nil]; exact hown) (Keep.refl _ _) (Keep.refl _ _)
  · refine wp_append_own w s x 24 hop B 5 i0 (.int .u8 0) 1 1 Tryd.underlying24 hi hz0 hz1 hz2 rfl (by decide) va l.length _ hs hown ad p.length cap (Lib.byteCells p) hx (by simp [byteCells_length]) hnews (Lib.byteCells_one _) (by unfold maxLen; omega) (by omega) hB fun v' w' h2 h3 _ => hK v' w' ?_ ((Keep.refl _ w).grownB h3 (own_ge hown)) (grown_keep h3)
    rw [List.length_append, Lib.byteCells_append]
    exact h2

theorem own_block {w : World} {B e s n : Nat} {v : Value} {xs : List Value} (h : w.ownsRow B e s v n xs) : ∀ g, v.ownBlock = some g → B ≤ g ∧ g < w.heap.size := by
  intro g hg
  rcases h.2 with ⟨rfl, _⟩ | ⟨g', cap, cur, rfl, h1, h2, h3⟩
  · cases hg
  · injection hg with hg
    subst hg
    exact ⟨h1, Lib.lt_of_heap h2⟩

theorem own_keepv {S : Nat → Prop} {w w' : World} {B e s n : Nat} {v : Value} {xs : List Value} (h : w.ownsRow B e s v n xs) (hk : Keep S w w') (hS : ∀ g, v.ownBlock = some g → ¬ S g) : w'.ownsRow B e s v n xs := by
  refine ⟨h.1, ?_⟩
  rcases h.2 with h | ⟨g, cap, cur, rfl, h2, h3, h4⟩
  · exact .inl h
  · exact .inr ⟨g, cap, cur, rfl, h2, by rw [hk.block g (Lib.lt_of_heap h3) (hS g rfl)]; exact h3, h4⟩
/-- a text of the call's own -/
structure Own1 (w wc : World) (v : Value) (l : List UInt8) : Prop where
  own : wc.ownsRow w.heap.size 5 1 v l.length (Lib.byteCells l)
  bel : Below w.heap.size w wc
/-- two texts of the call's own, apart -/
structure Own2 (w wc : World) (v1 v3 : Value) (l1 l3 : List UInt8) : Prop where
  o1 : wc.ownsRow w.heap.size 5 1 v1 l1.length (Lib.byteCells l1)
  o3 : wc.ownsRow w.heap.size 5 1 v3 l3.length (Lib.byteCells l3)
  ne : ∀ g, v1.ownBlock = some g → v3.ownBlock ≠ some g
  bel : Below w.heap.size w wc
/-- a text is made -/
theorem own1_new {w w1 w2 : World} {v : Value} {l : List UInt8} (hb : Below w.heap.size w w1) (ho : w2.ownsRow w1.heap.size 5 1 v l.length (Lib.byteCells l)) (hb2 : Below w1.heap.size w1 w2) : Own1 w w2 v l :=
  ⟨own_mono ho hb.size, hb.trans (hb2.mono hb.size)⟩
/-- a second text is made -/
theorem Own1.then3 {w w1 w2 : World} {v1 v3 : Value} {l1 l3 : List UInt8} (h : Own1 w w1 v1 l1) (ho : w2.ownsRow w1.heap.size 5 1 v3 l3.length (Lib.byteCells l3)) (hb2 : Below w1.heap.size w1 w2) : Own2 w w2 v1 v3 l1 l3 :=
  ⟨own_below h.own hb2, own_mono ho h.bel.size, fun g h1 h3 => by have := (own_block h.own g h1).2; have := (own_block ho g h3).1; omega, h.bel.trans (hb2.mono h.bel.size)⟩
theorem Own1.then1 {w w1 w2 : World} {v1 v3 : Value} {l1 l3 : List UInt8} (h : Own1 w w1 v3 l3) (ho : w2.ownsRow w1.heap.size 5 1 v1 l1.length (Lib.byteCells l1)) (hb2 : Below w1.heap.size w1 w2) : Own2 w w2 v1 v3 l1 l3 :=
  ⟨own_mono ho h.bel.size, own_below h.own hb2, fun g h1 h3 => by have := (own_block h.own g h3).2; have := (own_block ho g h1).1; omega, h.bel.trans (hb2.mono h.bel.size)⟩
/-- something else is made -/
theorem Own1.below {w w1 w2 : World} {v1 : Value} {l1 : List UInt8} (h : Own1 w w1 v1 l1) (hb2 : Below w1.heap.size w1 w2) : Own1 w w2 v1 l1 := ⟨own_below h.own hb2, h.bel.trans (hb2.mono h.bel.size)⟩
theorem Own2.below {w w1 w2 : World} {v1 v3 : Value} {l1 l3 : List UInt8} (h : Own2 w w1 v1 v3 l1 l3) (hb2 : Below w1.heap.size w1 w2) : Own2 w w2 v1 v3 l1 l3 := ⟨own_below h.o1 hb2, own_below h.o3 hb2, h.ne, h.bel.trans (hb2.mono h.bel.size)⟩
/-- the first is appended to -/
theorem Own1.app {w w1 w2 : World} {v1 v2 : Value} {l1 p : List UInt8} (h : Own1 w w1 v1 l1) (ho : w2.ownsRow w.heap.size 5 1 v2 (l1 ++ p).length (Lib.byteCells (l1 ++ p))) (hk : Keep (fun k => w.heap.size ≤ k) w1 w2) : Own1 w w2 v2 (l1 ++ p) :=
  ⟨ho, below_keep h.bel hk (Nat.le_refl _)⟩
/-- an appended text, and another one that lies -/
structure Own3 (w wc : World) (v2 v3 : Value) (l2 l3 : List UInt8) : Prop where
  o2 : wc.ownsRow w.heap.size 5 1 v2 l2.length (Lib.byteCells l2)
  b3 : Bs wc v3 l3
  bel : Below w.heap.size w wc
theorem Own2.app {w w1 w2 : World} {v1 v2 v3 : Value} {l1 l3 p : List UInt8} (h : Own2 w w1 v1 v3 l1 l3) (ho : w2.ownsRow w.heap.size 5 1 v2 (l1 ++ p).length (Lib.byteCells (l1 ++ p))) (hk : Keep (fun k => w.heap.size ≤ k) w1 w2) (hk2 : Keep (fun k => v1.ownBlock = some k) w1 w2) : Own3 w w2 v2 v3 (l1 ++ p) l3 :=
  ⟨ho, Bs.of_own (own_keepv h.o3 hk2 (fun g h3 h1 => h.ne g h1 h3)), below_keep h.bel hk (Nat.le_refl _)⟩
theorem Own1.other {w w1 w2 : World} {v2 v3 : Value} {l2 l3 : List UInt8} (h : Own1 w w1 v2 l2) (ho : w2.ownsRow w1.heap.size 5 1 v3 l3.length (Lib.byteCells l3)) (hb2 : Below w1.heap.size w1 w2) : Own3 w w2 v2 v3 l2 l3 :=
  ⟨own_below h.own hb2, Bs.of_own ho, h.bel.trans (hb2.mono h.bel.size)⟩
theorem Own3.app {w w1 w2 : World} {v2 v3 v4 : Value} {l2 l3 : List UInt8} (h : Own3 w w1 v2 v3 l2 l3) (ho : w2.ownsRow w.heap.size 5 1 v4 (l2 ++ l3).length (Lib.byteCells (l2 ++ l3))) (hk : Keep (fun k => w.heap.size ≤ k) w1 w2) : Bs w2 v4 (l2 ++ l3) ∧ Below w.heap.size w w2 :=
  ⟨Bs.of_own ho, below_keep h.bel hk (Nat.le_refl _)⟩

/-- a slice of tokens from k on -/
theorem ts_cut5 {w : World} {ao : Option Addr} {n cap : Nat} {l : List Tok} (h : Ts w (.slice ao n cap) l) (k : Nat) (hk : k ≤ l.length) :
    (ao = none ∧ cap = 0 ∧ l = []) ∨ (∃ ad, ao = some ad ∧ l = []) ∨ ∃ b off, ao = some ⟨b, off, none⟩ ∧ Ts w (.slice (if cap = k then some ⟨b, off, none⟩ else some ⟨b, off + k * 3, none⟩) (n - k) (cap - k)) (l.drop k) := by
  obtain ⟨ts, ao', cap', h1, h2, h3, h4, h5, h6⟩ := id h
  injection h3 with e1 e2 e3
  subst e1; subst e3
  have hl : l.length = ts.length := by rw [h1]; simp
  by_cases hle : l = []
  · cases ao with
    | none => exact .inl ⟨rfl, h5.2 rfl, hle⟩
    | some ad => exact .inr (.inl ⟨ad, rfl, hle⟩)
  · have hp : 0 < ts.length := by have := List.length_pos_iff.2 hle; omega
    obtain ⟨b, off, rfl, -⟩ := h6 0 hp
    refine .inr (.inr ⟨b, off, rfl, ?_⟩)
    split
    · have e : k = l.length := by omega
      subst e
      rw [List.drop_length, show n - l.length = 0 by omega, show cap - l.length = 0 by omega]
      exact Ts.none _ _ _ ⟨by omega, fun _ => rfl⟩
    · exact h.drop k hk
end Go.Proofs.YthfkgancjpdodaaDoor

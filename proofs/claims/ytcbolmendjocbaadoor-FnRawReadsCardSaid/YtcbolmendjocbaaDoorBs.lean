/- Slices of bytes, and slices of those, as lists. -/
import Derived.Test.YtcbolmendjocbaaDoorKeep
import Derived.Laws.IdiomStrings
import Derived.Shelf.Bytes.SlSmallAll
import Derived.Laws.AppendOwnNone
namespace Go.Proofs.YtcbolmendjocbaaDoor
open Go.RowKit Qp

/-- the slice v reads as l -/
def Bs (w : World) (v : Value) (l : List UInt8) : Prop :=
  ∃ ao cap, v = .slice ao l.length cap ∧ l.length ≤ cap ∧ cap ≤ 9223372036854775807 ∧ (ao = none → cap = 0) ∧
    (l ≠ [] → ∃ b off, ao = some ⟨b, off, none⟩ ∧ ∀ k, k < l.length → w.cell? ⟨b, off + k, none⟩ = some (.int .u8 (l.getD k 0).toNat))

theorem Bs.mono {w w' : World} {v : Value} {l : List UInt8} (h : Bs w v l) (hc : ∀ p x, w.cell? p = some x → w'.cell? p = some x) : Bs w' v l := by
  obtain ⟨ao, cap, h1, h2, h3, h4, h5⟩ := h
  refine ⟨ao, cap, h1, h2, h3, h4, fun hl => ?_⟩
  obtain ⟨b, off, h6, h7⟩ := h5 hl
  exact ⟨b, off, h6, fun k hk => hc _ _ (h7 k hk)⟩
theorem below_cell {w w' : World} (h : Below w.heap.size w w') (p : Addr) (x : Value) (hc : w.cell? p = some x) : w'.cell? p = some x := by
  have := h.cell (p := p) (cell_lt hc)
  rw [this]; exact hc
theorem Bs.below {w w' : World} {v : Value} {l : List UInt8} (h : Bs w v l) (hb : Below w.heap.size w w') : Bs w' v l := h.mono (below_cell hb)

/-- the slice v of slices of bytes reads as ls -/
def Ps (w : World) (v : Value) (ls : List (List UInt8)) : Prop :=
  ∃ ao cap, v = .slice ao ls.length cap ∧ ls.length ≤ cap ∧ cap ≤ 9223372036854775807 ∧
    (ls ≠ [] → ∃ b off, ao = some ⟨b, off, none⟩ ∧ ∀ k, k < ls.length → ∃ x, w.cell? ⟨b, off + k, none⟩ = some x ∧ Bs w x (ls.getD k []))
theorem Ps.below {w w' : World} {v : Value} {ls : List (List UInt8)} (h : Ps w v ls) (hb : Below w.heap.size w w') : Ps w' v ls := by
  obtain ⟨ao, cap, h1, h2, h3, h5⟩ := h
  refine ⟨ao, cap, h1, h2, h3, fun hl => ?_⟩
  obtain ⟨b, off, h6, h7⟩ := h5 hl
  refine ⟨b, off, h6, fun k hk => ?_⟩
  obtain ⟨x, h8, h9⟩ := h7 k hk
  exact ⟨x, below_cell hb _ _ h8, h9.below hb⟩

/-- 'string(b)' -/
theorem Bs.string {w : World} {v : Value} {l : List UInt8} (h : Bs w v l) : (convert 22 9 v).run Tryd.prog w = .ok (.string ⟨l.toArray⟩) w := by
  obtain ⟨ao, cap, rfl, h2, h3, h4, h5⟩ := h
  by_cases hl : l = []
  · subst hl
    exact run_convert_bytes_zero w 22 5 Tryd.underlying22 Tryd.underlying5 ao cap 9 Tryd.underlying9
  · obtain ⟨b, off, rfl, h7⟩ := h5 hl
    refine run_convert_bytes_back w _ _ 5 ⟨b, off, none⟩ cap l Tryd.underlying22 Tryd.underlying5 Tryd.underlying9 ?_
    intro j hj
    rw [Lib.addr_add, h7 j hj]
    simp [hj]

theorem same_any {w : World} {v1 v2 : Value} {l1 l2 : List UInt8} (h1 : Bs w v1 l1) (h2 : Bs w v2 l2) :
    Calls Tryd.prog 8 #[v1, v2] w fun e w' => e = .returned (.bool (l1 == l2)) ∧ w = w' := by
  have e1 := h1.string
  have e2 := h2.string
  obtain ⟨ao1, cap1, rfl, -⟩ := h1
  obtain ⟨ao2, cap2, rfl, -⟩ := h2
  go_enter Tryd.func8, Tryd.ntmps8
  go_wp2
  go_ret
  exact ⟨rfl, rfl⟩

theorem Ps.at {w : World} {v : Value} {ls : List (List UInt8)} (h : Ps w v ls) : ∃ ao cap, v = .slice ao ls.length cap ∧ ls.length ≤ cap ∧ cap ≤ 9223372036854775807 ∧
    ∀ k, k < ls.length → ∃ b off, ao = some ⟨b, off, none⟩ ∧ ∃ x, w.cell? ⟨b, off + k, none⟩ = some x ∧ Bs w x (ls.getD k []) := by
  obtain ⟨ao, cap, h1, h2, h3, h5⟩ := h
  refine ⟨ao, cap, h1, h2, h3, fun k hk => ?_⟩
  obtain ⟨b, off, h6, h7⟩ := h5 (by rintro rfl; simp at hk)
  exact ⟨b, off, h6, h7 k hk⟩

theorem Bs.src {w : World} {v : Value} {l : List UInt8} (h : Bs w v l) : (v = .slice none 0 0 ∧ l = []) ∨
    ∃ ad cap, v = .slice (some ad) l.length cap ∧ l.length ≤ cap ∧ cap ≤ 9223372036854775807 ∧ ∀ j u, (Lib.byteCells l)[j]? = some u → w.cell? (ad.add j) = some u := by
  obtain ⟨ao, cap, rfl, h2, h3, h4, h5⟩ := h
  cases ao with
  | none =>
    have := h4 rfl
    subst this
    have : l = [] := List.eq_nil_of_length_eq_zero (by omega)
    subst this
    exact .inl ⟨rfl, rfl⟩
  | some ad =>
    refine .inr ⟨ad, cap, rfl, h2, h3, fun j u hj => ?_⟩
    have hj' : j < l.length := by
      have := (List.getElem?_eq_some_iff.1 hj).1
      simpa [byteCells_length] using this
    obtain ⟨b, off, e, h7⟩ := h5 (by rintro rfl; simp at hj')
    injection e with e
    subst e
    rw [Lib.addr_add, h7 j hj', ← hj]
    simp [Lib.byteCells, hj']

/-- an owned row reads as a slice of bytes -/
theorem Bs.of_own {w : World} {B : Nat} {v : Value} {l : List UInt8} (h : w.ownsRow B 5 1 v l.length (Lib.byteCells l)) : Bs w v l := by
  obtain ⟨_, h⟩ := h
  rcases h with ⟨rfl, h⟩ | ⟨g, cap, cur, rfl, hB, hg, hlc, hcm, hcs, htk⟩
  · have : l = [] := List.eq_nil_of_length_eq_zero h
    subst this
    exact ⟨none, 0, rfl, Nat.le_refl _, by omega, fun _ => rfl, fun h => absurd rfl h⟩
  · refine ⟨some ⟨g, 0, none⟩, cap, rfl, hlc, by unfold maxLen at hcm; omega, (fun h => by cases h), fun _ => ⟨g, 0, rfl, fun k hk => ?_⟩⟩
    rw [Lib.cell_of_heap hg, ← Array.getElem?_toList]
    have e : (cur.toList.take (l.length * 1))[k]? = cur.toList[0 + k]? := by
      rw [List.getElem?_take, if_pos (by omega), Nat.zero_add]
    rw [← e, htk]
    simp [Lib.byteCells, hk]

theorem own_ge {w : World} {B e : Nat} {size n : Nat} {v : Value} {xs : List Value} (h : w.ownsRow B e size v n xs) : ∀ r, v.ownBlock = some r → B ≤ r := by
  intro r hr
  rcases h.2 with ⟨rfl, _⟩ | ⟨g, cap, cur, rfl, hB, _⟩
  · cases hr
  · injection hr with hr
    subst hr
    exact hB
theorem own_at {w : World} {B : Nat} {v : Value} {l : List UInt8} (h : w.ownsRow B 5 1 v l.length (Lib.byteCells l)) (hn : ¬ v = .slice none 0 0) :
    ∃ g cap, v = .slice (some ⟨g, 0, none⟩) l.length cap ∧ B ≤ g ∧ l.length ≤ cap ∧ cap ≤ 9223372036854775807 ∧ ∀ k, k < l.length → w.cell? ⟨g, 0 + k, none⟩ = some (.int .u8 (l.getD k 0).toNat) := by
  have hb := Bs.of_own h
  rcases h.2 with ⟨rfl, _⟩ | ⟨g, cap, cur, rfl, hB, hg, hlc, hcm, hcs, htk⟩
  · exact absurd rfl hn
  · obtain ⟨ao, cap', e, h2, h3, h4, h5⟩ := hb
    injection e with e1 e2 e3
    subst e3
    refine ⟨g, cap, rfl, hB, h2, h3, fun k hk => ?_⟩
    obtain ⟨b, off, e4, h7⟩ := h5 (by rintro rfl; simp at hk)
    rw [← e1] at e4
    injection e4 with e4
    injection e4 with e5 e6
    subst e5; subst e6
    exact h7 k hk

end Go.Proofs.YtcbolmendjocbaaDoor

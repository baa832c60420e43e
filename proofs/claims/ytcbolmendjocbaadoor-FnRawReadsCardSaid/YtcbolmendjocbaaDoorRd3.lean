/- The memory of the Reader: bufio's buffer, and the readers below it. -/
import Derived.Test.YtcbolmendjocbaaDoorRd2
import Derived.Test.YtcbolmendjocbaaDoorTok
import Derived.Laws.CopyOwn
import Derived.Deep.RegionLaw
namespace Go.Proofs.YtcbolmendjocbaaDoor
open Go.RowKit Qp

/-- the variable io.EOF holds an error at ea -/
def EofAt (w : World) (ea : Addr) : Prop := w.cell? ⟨0, 0, none⟩ = some (eofv ea)

/-- a block of bytes -/
def RowB (w : World) (g : Nat) (l : List UInt8) : Prop := w.heap[g]? = some (.cells (Lib.byteCells l).toArray 5 (0, 0))
theorem RowB.cell {w : World} {g : Nat} {l : List UInt8} (h : RowB w g l) (k : Nat) (hk : k < l.length) : w.cell? ⟨g, k, none⟩ = some (.int .u8 (l.getD k 0).toNat) := by
  rw [Lib.cell_of_heap h]; simp [Lib.byteCells, hk]
theorem RowB.lt {w : World} {g : Nat} {l : List UInt8} (h : RowB w g l) : g < w.heap.size := Lib.lt_of_heap h
theorem RowB.fr {w : World} {g : Nat} {l : List UInt8} (h : RowB w g l) (k : Nat) : w.frozen? ⟨g, k, none⟩ = false := Lib.frozen_of_heap h k
theorem RowB.keep {S : Nat → Prop} {w w' : World} {g : Nat} {l : List UInt8} (h : RowB w g l) (hk : Keep S w w') (hg : ¬ S g) : RowB w' g l := (hk.block g h.lt hg).trans h
/-- a stretch of a block reads as a slice -/
theorem RowB.bs {w : World} {g : Nat} {l : List UInt8} (h : RowB w g l) (off n cap : Nat) (x : List UInt8) (hn : n = x.length) (hx : x = (l.drop off).take n) (hnc : n ≤ cap) (hcm : cap ≤ 9223372036854775807) : Bs w (.slice (some ⟨g, off, none⟩) n cap) x := by
  subst hn
  refine ⟨some ⟨g, off, none⟩, cap, rfl, hnc, hcm, (fun h => by cases h), fun _ => ⟨g, off, rfl, fun k hk => ?_⟩⟩
  have hl : x.length ≤ l.length - off := by have := congrArg List.length hx; simp at this; omega
  rw [h.cell (off + k) (by omega)]
  conv => rhs; rw [hx]
  simp [List.getD, hk]

theorem byteCells_splice (l : List UInt8) (off : Nat) (cs : List UInt8) : splice (Lib.byteCells l) off (Lib.byteCells cs) = Lib.byteCells (splice l off cs) := by
  simp [splice, Lib.byteCells, List.map_take, List.map_drop]

theorem Keep.row {S : Nat → Prop} {a b : World} (h : Keep S a b) (g : Nat) (hg : S g ∨ a.heap.size ≤ g) (cs : Array Value) : Keep S a (b.setRow g cs) := by
  refine ⟨h.os, h.tape, h.output, by simpa using h.size, fun k hk hn => ?_⟩
  have hne : k ≠ g := by
    rintro rfl
    rcases hg with hg | hg
    · exact hn hg
    · omega
  rw [setRow_other b g k cs hne]
  exact h.block k hk hn

/-- 'copy' into a block of bytes, as a step of a region that draws its order; the world behind it under a name of its own -/
theorem step_copy_row {P : Program} {ops : Array Oper} {o : Oper} {a : Act} {w : World} {K : Act → World → Prop} {Q : Exit → Act → World → Prop} {E : Prop} (hgd : o.guard = none) (d s : Operand) (dT sT : TypeId)
    (ho : o.op = .call { callee := .builtin .copy, args := #[d, s], argTypes := #[dT, sT] }) (elem : TypeId) (hu : P.underlying dT = some (.slice elem)) (hsz : (P.info? elem).map (·.size) = some 1)
    (g off dLen dCap : Nat) (ad : Addr) (sLen sCap : Nat) (hd : a.eval d = .slice (some ⟨g, off, none⟩) dLen dCap) (hs : a.eval s = .slice (some ad) sLen sCap)
    (cur : List Value) (t : TypeId) (hg : w.heap[g]? = some (.cells cur.toArray t (0, 0))) (cs : List Value) (n : Nat) (hn : cs.length = n) (hmin : n = Nat.min sLen dLen)
    (hsrc : ∀ j v, cs[j]? = some v → w.cell? (ad.add j) = some v)
    (hfit : off + n ≤ cur.length) (h1 : ∀ v ∈ cs, v.oneCell' = true)
    (h : ∀ w', w'.heap[g]? = some (.cells (splice cur off cs).toArray t (0, 0)) → Keep (fun k => k = g) w w' → w'.heap.size = w.heap.size → K (a.put o.dst (.int .i64 n)) w') :
    if Region.wanted o (yielded ops a.tmps) = true then Oper.wp P o a w K Q else E := by
  have hw : Region.wanted o (yielded ops a.tmps) = true := by simp [Region.wanted, hgd]
  rw [if_pos hw]
  subst hn
  have hrun := run_copy_row (P := P) w dT sT o.type elem g off dLen dCap ad sLen sCap cur.toArray t cs hu hsz hg hmin hsrc (by simpa using hfit) h1
  unfold Oper.wp
  simp [execOp, ho, resolve, invoke, builtin, hd, hs, hrun, Result.andThen]
  refine h _ (show _ = _ by simpa [splice] using setRow_heap w g _ _ t _ hg) ((Keep.refl (fun k => k = g) w).row g (.inl rfl) _) (by simp)

/-- the readers below: bytes.Reader (the second kind is none) -/
def SrcAt : Bool → World → Nat → Nat → List UInt8 → Prop
  | false, w, s, D, d => ∃ v all i prev, w.heap[s]? = some (.cells #[v, .int .i64 (i : Nat), .int .i64 prev] 59 (0, 0)) ∧ Bs w v all ∧ v.ownBlock = some D ∧ i ≤ all.length ∧ d = all.drop i
  | true, _, _, _, _ => False
def rdT : Bool → TypeId | false => 43 | true => 43
def rdF : Bool → FuncId | false => 63 | true => 63

theorem Bs.keepS {S : Nat → Prop} {w w' : World} {v : Value} {l : List UInt8} (h : Bs w v l) (hk : Keep S w w') (hv : ∀ g, v.ownBlock = some g → ¬ S g) : Bs w' v l :=
  let ⟨ao, cap, e, h2, h3, h4, h5⟩ := h
  ⟨ao, cap, e, h2, h3, h4, fun hl => let ⟨b, off, h6, h7⟩ := h5 hl; ⟨b, off, h6, fun k hk' => hk.cell (by subst e; subst h6; exact hv b rfl) (h7 k hk')⟩⟩
theorem SrcAt.keep {k : Bool} {S : Nat → Prop} {w w' : World} {s D : Nat} {d : List UInt8} (h : SrcAt k w s D d) (hk : Keep S w w') (hs : ¬ S s) (hD : ¬ S D) : SrcAt k w' s D d := by
  cases k with
  | false =>
    obtain ⟨v, all, i, prev, h1, h2, h3, h4⟩ := h
    exact ⟨v, all, i, prev, (hk.block s (Lib.lt_of_heap h1) hs).trans h1, h2.keepS hk (fun g e => by rw [h3] at e; injection e with e; subst e; exact hD), h3, h4⟩
  | true => exact False.elim h
theorem SrcAt.lt {k : Bool} {w : World} {s D : Nat} {d : List UInt8} (h : SrcAt k w s D d) : s < w.heap.size := by
  cases k with
  | false => obtain ⟨v, all, i, prev, h1, _⟩ := h; exact Lib.lt_of_heap h1
  | true => exact False.elim h

/-- what a Read of the readers below does -/
def SrcPost (k : Bool) (ea : Addr) (s D Bf off m : Nat) (buf d : List UInt8) (w : World) (e : Ending) (w' : World) : Prop :=
  (d = [] ∧ e = .returned (.tuple #[.int .i64 0, eofv ea]) ∧ SrcAt k w' s D [] ∧ Keep (fun _ => False) w w') ∨
  ∃ j, d ≠ [] ∧ 1 ≤ j ∧ j ≤ m ∧ j ≤ d.length ∧ e = .returned (.tuple #[.int .i64 j, .nilIface]) ∧ RowB w' Bf (splice buf off (d.take j)) ∧ SrcAt k w' s D (d.drop j) ∧ Keep (fun k => k = s ∨ k = Bf) w w'

theorem cells3 {w : World} {b : Nat} {v0 v1 v2 : Value} {T : TypeId} (hb : w.heap[b]? = some (.cells #[v0, v1, v2] T (0, 0))) : w.cell? ⟨b, 0, none⟩ = some v0 ∧ w.cell? ⟨b, 1, none⟩ = some v1 ∧ w.cell? ⟨b, 2, none⟩ = some v2 ∧
    w.frozen? ⟨b, 0, none⟩ = false ∧ w.frozen? ⟨b, 1, none⟩ = false ∧ w.frozen? ⟨b, 2, none⟩ = false :=
  ⟨by rw [Lib.cell_of_heap hb]; rfl, by rw [Lib.cell_of_heap hb]; rfl, by rw [Lib.cell_of_heap hb]; rfl, Lib.frozen_of_heap hb 0, Lib.frozen_of_heap hb 1, Lib.frozen_of_heap hb 2⟩
theorem cells2 {w : World} {b : Nat} {v0 v1 : Value} {T : TypeId} (hb : w.heap[b]? = some (.cells #[v0, v1] T (0, 0))) : w.cell? ⟨b, 0, none⟩ = some v0 ∧ w.cell? ⟨b, 1, none⟩ = some v1 ∧
    w.frozen? ⟨b, 0, none⟩ = false ∧ w.frozen? ⟨b, 1, none⟩ = false :=
  ⟨by rw [Lib.cell_of_heap hb]; rfl, by rw [Lib.cell_of_heap hb]; rfl, Lib.frozen_of_heap hb 0, Lib.frozen_of_heap hb 1⟩
theorem info5b : (Tryd.prog.info? 5).map (·.size) = some 1 := by kernel_rfl

end Go.Proofs.YtcbolmendjocbaaDoor

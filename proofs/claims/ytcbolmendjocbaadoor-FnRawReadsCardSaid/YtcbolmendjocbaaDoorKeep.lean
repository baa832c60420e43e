/- What a call keeps. -/
import Derived.Test.YtcbolmendjocbaaDoorRows
import Derived.Test.YtcbolmendjocbaaDoorPlain
import Derived.WalkKit
import Derived.WalkSpells
import Derived.WalkLawsBesides
import Derived.Handy
import Derived.BigRegion
import Derived.BigQuiet
import Derived.Deep.QuietTactic
import Derived.Deep.RegionHeld3
import Derived.Lib.Hide
import Derived.Lib.Buffer
import Derived.Lib.BufferOwn
import Derived.LoopTactic
import Derived.Outline
namespace Go.Proofs.YtcbolmendjocbaaDoor
open Go.RowKit Qp

/-- nothing turns but blocks of which S speaks, and new ones -/
structure Keep (S : Nat → Prop) (w w' : World) : Prop where
  os : w'.os = w.os
  tape : w'.tape = w.tape
  output : w'.output = w.output
  size : w.heap.size ≤ w'.heap.size
  block : ∀ k, k < w.heap.size → ¬ S k → w'.heap[k]? = w.heap[k]?

theorem Keep.refl (S : Nat → Prop) (w : World) : Keep S w w := ⟨rfl, rfl, rfl, Nat.le_refl _, fun _ _ _ => rfl⟩
theorem Keep.trans {S T : Nat → Prop} {a b c : World} (h : Keep S a b) (h' : Keep T b c) (hT : ∀ k, k < a.heap.size → T k → S k) : Keep S a c :=
  ⟨h'.os.trans h.os, h'.tape.trans h.tape, h'.output.trans h.output, Nat.le_trans h.size h'.size, fun k hk hn => (h'.block k (Nat.lt_of_lt_of_le hk h.size) (fun ht => hn (hT k hk ht))).trans (h.block k hk hn)⟩
theorem Keep.mono {S T : Nat → Prop} {a b : World} (h : Keep S a b) (hT : ∀ k, k < a.heap.size → S k → T k) : Keep T a b := ⟨h.os, h.tape, h.output, h.size, fun k hk hn => h.block k hk (fun hs => hn (hT k hk hs))⟩
theorem Keep.drew {S : Nat → Prop} {a b : World} (h : Keep S a b) : Keep S a b.drew := ⟨h.os, h.tape, h.output, h.size, h.block⟩
theorem Keep.drewN {S : Nat → Prop} {a b : World} (h : Keep S a b) (n : Nat) : Keep S a (b.drewN n) := ⟨h.os, h.tape, h.output, h.size, h.block⟩
theorem Keep.setCell {S : Nat → Prop} {a b : World} (h : Keep S a b) (p : Addr) (hp : S p.block) (v : Value) : Keep S a (b.setCell p v) := by
  refine ⟨h.os, h.tape, h.output, by simpa [World.setCell] using h.size, fun k hk hn => ?_⟩
  have hne : k ≠ p.block := fun e => hn (e ▸ hp)
  rw [← h.block k hk hn]
  simp only [World.setCell, Array.getElem?_modify]
  rw [if_neg (fun e => hne e.symm)]
theorem Keep.alloc {S : Nat → Prop} {a b : World} (h : Keep S a b) (o : Obj) : Keep S a (b.alloc o) := by
  refine ⟨h.os, h.tape, h.output, ?_, fun k hk hn => ?_⟩
  · have := h.size; rw [World.size_alloc]; omega
  · rw [← h.block k hk hn]; exact Below.heap_alloc b o k (Nat.lt_of_lt_of_le hk h.size)
theorem Keep.below {B : Nat} {a b : World} (h : Below B a b) : Keep (fun k => B ≤ k) a b := ⟨h.os, h.tape, h.output, h.size, fun k _ hn => h.block k (by omega)⟩
theorem Keep.to_below {S : Nat → Prop} {B : Nat} {a b : World} (h : Keep S a b) (hB : B ≤ a.heap.size) (hS : ∀ k, k < B → ¬ S k) : Below B a b := ⟨h.os, h.tape, h.output, h.size, fun k hk => h.block k (by omega) (hS k hk)⟩
theorem Keep.new {S : Nat → Prop} {a b : World} (h : Below a.heap.size a b) : Keep S a b := ⟨h.os, h.tape, h.output, h.size, fun k hk _ => h.block k hk⟩
theorem Keep.cell {S : Nat → Prop} {a b : World} (h : Keep S a b) {p : Addr} (hn : ¬ S p.block) {v : Value} (hc : a.cell? p = some v) : b.cell? p = some v := by
  have hlt : p.block < a.heap.size := by
    unfold World.cell? at hc
    split at hc
    · rename_i e; exact Lib.lt_of_heap e
    · cases hc
  have := h.block p.block hlt hn
  unfold World.cell? at hc ⊢
  rw [this]; exact hc

theorem byteCells_length (l : List UInt8) : (Lib.byteCells l).length = l.length := by simp [Lib.byteCells]

theorem cell_lt {w : World} {p : Addr} {v : Value} (h : w.cell? p = some v) : p.block < w.heap.size := by
  unfold World.cell? at h
  split at h
  · rename_i e; exact Lib.lt_of_heap e
  · cases h

theorem info5 : (Tryd.prog.info? 5).map (fun i => (i.zero, i.size, i.bytes)) = some (some (.int .u8 0), 1, 1) := by kernel_rfl

theorem byteFacts (b : UInt8) : (0 : Int) ≤ b.toNat ∧ (b.toNat : Int) ≤ 255 := by have := b.toNat_lt; omega
theorem u8_eq {b : UInt8} (n : Nat) (hn : n < 256) : (b = UInt8.ofNat n) ↔ (b.toNat : Int) = n := by
  rw [← UInt8.toNat_inj]
  simp
  omega

end Go.Proofs.YtcbolmendjocbaaDoor

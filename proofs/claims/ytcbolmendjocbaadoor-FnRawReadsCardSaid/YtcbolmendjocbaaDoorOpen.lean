/- The laws' arguments, opened: slices of bytes, and slices of those; and what the bound on the bulk gives. -/
import Derived.Test.YtcbolmendjocbaaDoorBs
import Derived.ProofKit
import Derived.OpenShut
import Derived.ShutString
import Derived.ChangeOld
import Derived.Deep.Matrix
import Derived.JoinedCond
namespace Go.Proofs.YtcbolmendjocbaaDoor
open Go.ChangeShapes Go.WideShapes Go.ChangeAt Go.RowKit Qp

theorem own : ownKnob Tryd.prog.godebug = none := by kernel_rfl
theorem laidOut : laidOutB Tryd.prog = true := by kernel_rfl

/-! the bulk -/
theorem bulk_one {H : Type} (d : DataW H) : 1 ≤ Rows.uptoBulk d := by
  cases d with
  | lit l => cases l <;> simp [Rows.uptoBulk]
  | nil => simp [Rows.uptoBulk]
  | ptr d => simp [Rows.uptoBulk]
  | slice elems spare => simp [Rows.uptoBulk]
  | agg parts => simp [Rows.uptoBulk]
  | iface t d => simp [Rows.uptoBulk]
  | map entries => simp [Rows.uptoBulk]
  | held h => simp [Rows.uptoBulk]
theorem bulk_len {H : Type} (l : List (DataW H)) : l.length ≤ Rows.uptoBulkAll l := by
  induction l with
  | nil => simp [Rows.uptoBulkAll]
  | cons x r ih => have := bulk_one x; simp only [Rows.uptoBulkAll, List.length_cons]; omega
theorem bulk_bound {H : Type} {l : List (DataW H)} (hk : Rows.uptoSmall H l = true) : Rows.uptoBulkAll l ≤ 1048576 := of_decide_eq_true hk

/-- bytes out of numbers -/
def toB (zs : List Int) : List UInt8 := zs.map fun n => UInt8.ofNat n.toNat
theorem toB_get {zs : List Int} (hw : ∀ n ∈ zs, (Lit.int .u8 n).wf = true) {k : Nat} (hk : k < zs.length) : (((toB zs).getD k 0).toNat : Int) = zs.getD k 0 := by
  have h := hw zs[k] (List.getElem_mem hk)
  have h' : 0 ≤ zs[k] ∧ zs[k] ≤ 255 := by simpa [Lit.wf, IntKind.min, IntKind.max, IntKind.signed, IntKind.bits] using h
  simp [toB, hk]
  omega

/-- A SLICE OF BYTES, OPENED. -/
theorem open_bs {H : Type} {enc : TypeId × Value → H} {W : World} {a0 : Option Addr} {len0 cap0 : Nat} {d0 : DataW H} {p0 : List MemPlace} (h0 : DataW.Trod enc Tryd.prog W 0 (fun _ => true) true 22 (.slice a0 len0 cap0) d0 p0) :
    ∃ l, Bs W (.slice a0 len0 cap0) l ∧ l.length ≤ Rows.uptoBulk d0 := by
  obtain ⟨fuel, hf⟩ := h0
  rcases open_ints Tryd.underlying22 Tryd.underlying5 (by kernel_rfl) hf with ⟨hcs, hx⟩ | ⟨x, l, c, zs, hcs, _, hl, hm, hz, hx, hcell, hwz⟩
  · simp [Value.cells] at hcs
    obtain ⟨rfl, rfl, rfl⟩ := hcs
    exact ⟨[], ⟨none, 0, rfl, Nat.le_refl _, by omega, fun _ => rfl, fun h => absurd rfl h⟩, by simp⟩
  · simp [Value.cells] at hcs
    obtain ⟨rfl, rfl, rfl⟩ := hcs
    have hz : zs.length = cap0 := by simpa using hz
    have hll : (toB (zs.take len0)).length = len0 := by simp [toB]; omega
    refine ⟨toB (zs.take len0), ⟨some x, cap0, by rw [hll], by rw [hll]; exact hl, by unfold maxLen at hm; omega, (fun h => by cases h), fun hne => ?_⟩, ?_⟩
    · have hp : 0 < zs.length := by
        have : 0 < (toB (zs.take len0)).length := List.length_pos_iff.2 hne
        omega
      obtain ⟨b, off, rfl, hat⟩ := ints_at hcell hp
      refine ⟨b, off, rfl, fun k hk => ?_⟩
      rw [hll] at hk
      rw [hat k (by omega), toB_get (fun n hn => hwz n (List.mem_of_mem_take hn)) (by simp; omega)]
      simp [List.getD, hk]
    · simp only [Prod.mk.injEq] at hx
      rw [hx.1]
      simp only [Rows.uptoBulk]
      have := bulk_len (H := H) (lits .u8 (zs.take len0))
      have e : (lits (H := H) .u8 (zs.take len0)).length = len0 := by simp [lits]; omega
      omega

theorem bulk_flat {H : Type} (f : Nat → List UInt8) (g : Nat → DataW H) (l : List Nat) (h : ∀ r ∈ l, (f r).length + 1 ≤ Rows.uptoBulk (g r)) : (l.map f).flatten.length + l.length ≤ Rows.uptoBulkAll (l.map g) := by
  induction l with
  | nil => simp [Rows.uptoBulkAll]
  | cons r q ih =>
    have h1 := h r (List.mem_cons_self ..)
    have h2 := ih (fun x hx => h x (List.mem_cons_of_mem _ hx))
    simp only [List.map_cons, List.flatten_cons, List.length_append, List.length_cons, Rows.uptoBulkAll]
    omega

theorem addr_form {w : World} {a : Addr} {x : Value} (h : w.cell? (a.add 0) = some x) : ∃ b off, a = ⟨b, off, none⟩ := by
  obtain ⟨b, off, spot⟩ := a
  have hspot : spot = none := by simpa [Addr.add] using World.cell?_spot h
  subst hspot
  exact ⟨b, off, rfl⟩

end Go.Proofs.YtcbolmendjocbaaDoor

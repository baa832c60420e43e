/- Appending where there is room, in a block of bytes; what a round that reads a line leaves. -/
import Derived.Test.YtcbolmendjocbaaDoorRq1
import Derived.ArgAppend
namespace Go.Proofs.YtcbolmendjocbaaDoor
open Go.RowKit Qp

theorem splice_cons (l : List UInt8) (o : Nat) (v : UInt8) (r : List UInt8) (h : o + (r.length + 1) ≤ l.length) : splice (l.set o v) (o + 1) r = splice l o (v :: r) := by
  unfold splice
  have h1 : (l.set o v).take (o + 1) = l.take o ++ [v] := by
    rw [List.take_set, List.take_add_one, List.getElem?_eq_getElem (by omega)]
    simp only [Option.toList_some]
    rw [List.set_append_right _ _ (by simp; omega)]
    have : o - (l.take o).length = 0 := by simp; omega
    rw [this]; rfl
  have h2 : (l.set o v).drop (o + 1 + r.length) = l.drop (o + (v :: r).length) := by
    rw [List.drop_set_of_lt (by omega)]; congr 1; simp; omega
  rw [h1, h2]
  simp
theorem RowB.sets {g : Nat} : ∀ (cs : List UInt8) {w : World} {l : List UInt8} (o : Nat), RowB w g l → o + cs.length ≤ l.length → RowB (w.setCells g o (Lib.byteCells cs)) g (splice l o cs)
  | [], w, l, o, h, _ => by
    have : splice l o [] = l := by simp [splice]
    rw [this]; exact h
  | v :: r, w, l, o, h, hf => by
    have hf' : o + (r.length + 1) ≤ l.length := by simpa using hf
    have := RowB.sets r (o + 1) (h.set o v v.toNat rfl) (by rw [List.length_set]; omega)
    rw [splice_cons l o v r hf'] at this
    exact this
theorem Keep.sets {g : Nat} : ∀ (cs : List Value) {w w0 : World} (o : Nat), Keep (fun b => b = g) w0 w → Keep (fun b => b = g) w0 (w.setCells g o cs)
  | [], _, _, _, h => h
  | v :: r, _, _, o, h => Keep.sets r (o + 1) (h.setCell ⟨g, o, none⟩ rfl v)
theorem keep_frozen {S : Nat → Prop} {w w' : World} {b k : Nat} {x : Bool} (h : Keep S w w') (hb : b < w.heap.size) (hs : ¬ S b) (hf : w.frozen? ⟨b, k, none⟩ = x) : w'.frozen? ⟨b, k, none⟩ = x := by
  have := h.block b hb hs
  rw [← hf]
  exact World.frozen?_of_block (a := ⟨b, k, none⟩) this

theorem bs_src {w : World} {b off n cap : Nat} {l : List UInt8} (h : Bs w (.slice (some ⟨b, off, none⟩) n cap) l) (j : Nat) (u : Value) (hj : (Lib.byteCells l)[j]? = some u) : w.cell? ((⟨b, off, none⟩ : Addr).add j) = some u := by
  rcases h.src with ⟨e, _⟩ | ⟨ad, cap', e, _, _, hc⟩
  · cases e
  · injection e with e1 e2 e3
    injection e1 with e1
    rw [e1]; exact hc j u hj

/-- 'append' where there is room, in a block of bytes; the world behind it under a name of its own -/
theorem wpList_append_row {P : Program} {ops : Array Oper} {rest : List Oper} {o : Oper} {a : Act} {w : World} {Q : Exit → Act → World → Prop} (hgd : o.guard = none) (s x : Operand) (t : TypeId)
    (hop : o.op = Op.call { callee := Callee.builtin Builtin.append, args := #[s, x], argTypes := #[t, t] }) (e : TypeId) (ht : P.underlying t = some (.slice e)) (hsz : (P.info? e).map (·.size) = some 1)
    (b off sLen sCap : Nat) (hs : a.eval s = .slice (some ⟨b, off, none⟩) sLen sCap) (ad : Addr) (m c : Nat) (hx : a.eval x = .slice (some ad) m c) (news : List UInt8) (hn : news.length = m)
    (hsrc : ∀ j u, (Lib.byteCells news)[j]? = some u → w.cell? (ad.add j) = some u) (hroom : sLen + m ≤ sCap) (buf : List UInt8) (hrow : RowB w b buf) (hfit : off + sLen + m ≤ buf.length)
    (hK : ∀ w', RowB w' b (splice buf (off + sLen) news) → Keep (fun k => k = b) w w' → wpList P ops Q rest (a.put o.dst (.slice (some ⟨b, off, none⟩) (sLen + m) sCap)) w') :
    wpList P ops Q (o :: rest) a w := by
  subst hn
  obtain ⟨i, hi, hi1⟩ := Option.map_eq_some_iff.1 hsz
  refine wpList_plain hgd fun K hK' => ?_
  have hc : ∀ j, j < (Lib.byteCells news).length → (w.cell? ⟨b, off + sLen * i.size + j, none⟩).isSome = true := by
    intro j hj
    have hj' : j < news.length := by simpa [Lib.byteCells] using hj
    rw [hi1, Nat.mul_one, hrow.cell (off + sLen + j) (by omega)]; rfl
  have hrun := run_append_room_cells (P := P) w t o.type e i ht hi b off sLen sCap ad news.length c (Lib.byteCells news) (by rw [hi1]; simp [Lib.byteCells]) hsrc (Lib.byteCells_one _) hroom hc (fun j _ => hrow.fr _)
  rw [hi1, Nat.mul_one] at hrun
  unfold Oper.wp
  simp [execOp, hop, resolve, invoke, builtin, hs, hx, hrun, Result.andThen]
  exact hK' _ _ (hK _ (hrow.sets news (off + sLen) hfit) (Keep.sets _ _ (Keep.refl _ w)))
end Go.Proofs.YtcbolmendjocbaaDoor

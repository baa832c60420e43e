/- Appending bytes to a row of the call's own. -/
import Derived.Test.YtcbolmendjocbaaDoorTokw
import Derived.Test.YtcbolmendjocbaaDoorKeep
import Derived.Laws.AppendOwnNone
namespace Go.Proofs.YtcbolmendjocbaaDoor
open Go.RowKit Qp

theorem own_empty (w : World) : (w.alloc (.cells #[] 5)).ownsRow w.heap.size 5 1 (.slice (some ⟨w.heap.size, 0, none⟩) 0 0) ([] : List UInt8).length (Lib.byteCells []) :=
  ⟨rfl, .inr ⟨w.heap.size, 0, #[], rfl, Nat.le_refl _, heap_alloc_new _ _, Nat.le_refl _, Nat.zero_le _, rfl, rfl⟩⟩
theorem own_mono {w : World} {B B' e s n : Nat} {v : Value} {xs : List Value} (h : w.ownsRow B e s v n xs) (hB : B' ≤ B) : w.ownsRow B' e s v n xs := by
  refine ⟨h.1, ?_⟩
  rcases h.2 with h | ⟨g, cap, cur, h1, h2, h3⟩
  · exact .inl h
  · exact .inr ⟨g, cap, cur, h1, Nat.le_trans hB h2, h3⟩
theorem Keep.grownB {a b c : World} {B : Nat} {v : Value} (h : Keep (fun k => B ≤ k) a b) (hg : b.grownBy c v.ownBlock) (hv : ∀ g, v.ownBlock = some g → B ≤ g) : Keep (fun k => B ≤ k) a c :=
  ⟨hg.os.trans h.os, hg.tape.trans h.tape, hg.output.trans h.output, Nat.le_trans h.size hg.size, fun k hk hn => (hg.block k (Nat.lt_of_lt_of_le hk h.size) (fun e => hn (hv k e.symm))).trans (h.block k hk hn)⟩

theorem below_keep {w a b : World} {B : Nat} (h : Below w.heap.size w a) (hk : Keep (fun k => B ≤ k) a b) (hB : w.heap.size ≤ B) : Below w.heap.size w b :=
  h.trans (hk.to_below h.size (fun k hk' e => by omega))

theorem grown_keep {a b : World} {v : Value} (hg : a.grownBy b v.ownBlock) : Keep (fun k => v.ownBlock = some k) a b :=
  ⟨hg.os, hg.tape, hg.output, hg.size, fun k hk hn => hg.block k hk (fun e => hn e.symm)⟩

/-- 'append' of bytes to a row of the call's own -/
theorem wpList_append_bs {ops : Array Oper} {rest : List Oper} {o : Oper} {a : Act} {w : World} {Q : Exit → Act → World → Prop} (hw : Region.wanted o (yielded ops a.tmps) = true) (s x : Operand)
    (hop : o.op = Op.call { callee := Callee.builtin Builtin.append, args := #[s, x], argTypes := #[22, 22] }) (B : Nat) (va vx : Value) (hs : a.eval s = va) (hx : a.eval x = vx) {l p : List UInt8}
    (hown : w.ownsRow B 5 1 va l.length (Lib.byteCells l)) (hp : Bs w vx p) (hlim : l.length + p.length ≤ 140737488355328) (hB : B ≤ w.heap.size)
    (hK : ∀ v' w', w'.ownsRow B 5 1 v' (l ++ p).length (Lib.byteCells (l ++ p)) → Keep (fun k => B ≤ k) w w' → Keep (fun k => va.ownBlock = some k) w w' → wpList Tryd.prog ops Q rest (a.put o.dst v') w') : wpList Tryd.prog ops Q (o :: rest) a w := by
  obtain ⟨i0, hi, hz0, hz1, hz2⟩ := info_parts info5
  refine wpList_step fun K hK' => ?_
  rw [if_pos hw]
  rcases hp.src with ⟨rfl, rfl⟩ | ⟨ad, cap, rfl, hpc, hpm, hnews⟩
  · have hrun := run_append_owned_none (P := Tryd.prog) (w := w) B 22 o.type 5 i0 1 Tryd.underlying22 hi va l.length _ hown
    unfold Oper.wp
    simp [execOp, hop, resolve, invoke, builtin, hs, hx, hrun, Result.andThen]
    exact hK' _ _ (hK va w (by rw [List.append_nil]; exact hown) (Keep.refl _ _) (Keep.refl _ _))
  · refine wp_append_own w s x 22 hop B 5 i0 (.int .u8 0) 1 1 Tryd.underlying22 hi hz0 hz1 hz2 rfl (by decide) va l.length _ hs hown ad p.length cap (Lib.byteCells p) hx (by simp [byteCells_length]) hnews (Lib.byteCells_one _) (by unfold maxLen; omega) (by omega) hB fun v' w' h2 h3 _ => hK' _ _ (hK v' w' ?_ ((Keep.refl _ w).grownB h3 (own_ge hown)) (grown_keep h3))
    rw [List.length_append, Lib.byteCells_append]
    exact h2
end Go.Proofs.YtcbolmendjocbaaDoor

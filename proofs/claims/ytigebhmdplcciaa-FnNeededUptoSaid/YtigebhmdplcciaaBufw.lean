/- bytes.Buffer: Write and Bytes, walked: the row's number is told, and that no other block turns. -/
import Derived.Test.YtigebhmdplcciaaBufg
import Derived.Laws.CopyRow
import Derived.Laws.IdiomCopy
import Derived.Lib.BufferSrc
import Derived.Lib.BufferWrite
namespace Go.Proofs.Ytigebhmdplcciaa
open Go.RowKit Qp

/-- what a writer of the Buffer leaves: the new row is the old one or a new block, and no other old block has turned -/
def Moved (ro ro' : Option Nat) (w : World) : Prop := ro' = ro ∨ ∃ g, ro' = some g ∧ w.heap.size ≤ g

theorem Keep.setRow {S : Nat → Prop} {a b : World} (h : Keep S a b) (g : Nat) (hg : S g ∨ a.heap.size ≤ g) (cs : Array Value) : Keep S a (b.setRow g cs) := by
  refine ⟨h.os, h.tape, h.output, by simpa [World.setRow] using h.size, fun k hk hn => ?_⟩
  have hne : k ≠ g := by
    rintro rfl
    rcases hg with hg | hg
    · exact hn hg
    · omega
  rw [← h.block k hk hn]
  exact setRow_other b g k cs hne

theorem info5s : (Try.prog.info? 5).map (·.size) = some 1 := by kernel_rfl

/-- the end of Write: the bytes are copied into the row -/
theorem written {w w1 : World} {b g cap n : Nat} {lr : Int} {out cs : List UInt8} {cur : Array Value} {ro : Option Nat} (hgb : g ≠ b) (hb : w1.heap[b]? = some (.cells #[.slice (some ⟨g, 0, none⟩) (out.length + n) cap, .int .i64 0, .int .i8 lr] 43 (0, 0)))
    (hg : w1.heap[g]? = some (.cells cur 5 (0, 0))) (hcs : cur.size = cap) (hlc : out.length + n ≤ cap) (hcm : cap ≤ maxLen) (htk : cur.toList.take out.length = Lib.byteCells out) (hn : cs.length = n) (hn0 : n ≠ 0)
    (hk : Keep (fun k => k = b ∨ ro = some k) w w1) (hr : ro = some g ∨ w.heap.size ≤ g) :
    ∃ ro', BufAt (w1.setRow g (cur.toList.take out.length ++ Lib.byteCells cs ++ cur.toList.drop (out.length + n)).toArray) b ro' (out ++ cs) ∧ Moved ro ro' w ∧
      Keep (fun k => k = b ∨ ro = some k) w (w1.setRow g (cur.toList.take out.length ++ Lib.byteCells cs ++ cur.toList.drop (out.length + n)).toArray) := by
  refine ⟨some g, ⟨lr, hgb, ?_, cap, _, ?_, setRow_heap _ _ _ _ _ _ hg, ?_, ?_, hcm, ?_⟩, ?_, hk.setRow g (by rcases hr with hr | hr; exact .inl (.inr hr); exact .inr hr) _⟩
  · intro e; rw [List.append_eq_nil_iff] at e; rw [e.2] at hn; exact hn0 hn.symm
  · rw [setRow_other _ _ _ _ (Ne.symm hgb), hb, List.length_append, hn]
  · simp [byteCells_length, hcs]; omega
  · rw [List.length_append, hn]; exact hlc
  · rw [htk, ← Lib.byteCells_append, List.toList_toArray, List.take_append_of_le_length (by rw [byteCells_length]; exact Nat.le_refl _), List.take_of_length_le (by rw [byteCells_length]; exact Nat.le_refl _)]
  · rcases hr with hr | hr
    · exact .inl hr.symm
    · exact .inr ⟨g, rfl, hr⟩

section
variable {w : World} {b : Nat} {ro : Option Nat} {out cs : List UInt8}
variable (a : Addr) (n c : Nat) (h : BufAt w b ro out) (hn : cs.length = n) (hab : a.block ≠ b) (har : ro ≠ some a.block)
  (hsrc : ∀ j v, (Lib.byteCells cs)[j]? = some v → w.cell? (a.add j) = some v) (hlim : out.length + n ≤ 140737488355328)

set_option maxHeartbeats 3200000 in
/-- WRITE, WHERE THERE IS ROOM. -/
theorem bwrite_room (g cap : Nat) (cur : Array Value) (lr : Int) (hgb : g ≠ b) (hb : w.heap[b]? = some (.cells #[.slice (some ⟨g, 0, none⟩) out.length cap, .int .i64 0, .int .i8 lr] 43 (0, 0)))
    (hg : w.heap[g]? = some (.cells cur 5 (0, 0))) (hcs : cur.size = cap) (hcm : cap ≤ maxLen) (htk : cur.toList.take out.length = Lib.byteCells out) (hroom : out.length + n ≤ cap) (hn0 : n ≠ 0)
    (hn : cs.length = n) (hab : a.block ≠ b) (har : a.block ≠ g) (hsrc : ∀ j v, (Lib.byteCells cs)[j]? = some v → w.cell? (a.add j) = some v) (ro : Option Nat) (hro : ro = some g) :
    Calls Try.prog 52 #[.pointer (some ⟨b, 0, none⟩), .slice (some a) n c] w fun e w' => e = .returned (.tuple #[.int .i64 n, .nilIface]) ∧
      ∃ ro', BufAt w' b ro' (out ++ cs) ∧ Moved ro ro' w ∧ Keep (fun k => k = b ∨ ro = some k) w w' := by
  have hlt := Lib.lt_of_heap hb
  obtain ⟨c0, c1, c2, f0, f1, f2⟩ := cell3 hb
  -- the world behind the two stores
  have hb1 : (w.setCell ⟨b, 2, none⟩ (.int .i8 0)).heap[b]? = some (.cells #[.slice (some ⟨g, 0, none⟩) out.length cap, .int .i64 0, .int .i8 0] 43 (0, 0)) := by rw [Lib.heap_setCell_same hb]; rfl
  obtain ⟨d0, d1, d2, e0, e1, e2⟩ := cell3 hb1
  obtain ⟨w1, hw1⟩ : ∃ w1, w1 = w.setCell ⟨b, 2, none⟩ (.int .i8 0) := ⟨_, rfl⟩
  obtain ⟨w2, hw2⟩ : ∃ w2, w2 = w1.setCell ⟨b, 0, none⟩ (.slice (some ⟨g, 0, none⟩) (out.length + n) cap) := ⟨_, rfl⟩
  have hb2 : w2.heap[b]? = some (.cells #[.slice (some ⟨g, 0, none⟩) (out.length + n) cap, .int .i64 0, .int .i8 0] 43 (0, 0)) := by rw [hw2, Lib.heap_setCell_same (hw1 ▸ hb1)]; rfl
  have hk2 : Keep (fun k => k = b ∨ ro = some k) w w2 := by rw [hw2, hw1]; exact ((Keep.refl _ _).setCell _ (.inl rfl) _).setCell _ (.inl rfl) _
  have hg2 : w2.heap[g]? = some (.cells cur 5 (0, 0)) := by rw [hw2, hw1, Below.heap_setCell _ _ _ _ hgb, Below.heap_setCell _ _ _ _ hgb]; exact hg
  have hsrc2 : ∀ j v, (Lib.byteCells cs)[j]? = some v → w2.cell? (a.add j) = some v := fun j v hj => hk2.cell (by rw [Lib.block_add]; rintro (e | e); exact hab e; rw [hro] at e; exact har (Option.some.inj e).symm) (hsrc j v hj)
  have hend := written hgb hb2 hg2 hcs hroom hcm htk hn hn0 hk2 (.inl hro)
  have hcp := run_copy_row (P := Try.prog) w2 24 24 3 5 g out.length n (cap - out.length) a n c cur 5 (Lib.byteCells cs) Try.underlying24 info5s hg2 (by rw [byteCells_length, hn]; simp) hsrc2 (by rw [byteCells_length]; omega) (Lib.byteCells_one _)
  rw [byteCells_length, hn] at hcp
  have hne : ¬ cap = out.length := by omega
  have c02 : w2.cell? ⟨b, 0, none⟩ = some (.slice (some ⟨g, 0, none⟩) (out.length + n) cap) := (cell3 hb2).1
  have hcm' := hcm
  unfold maxLen at hcm'
  have HE := Lib.hid hend
  have HW1 := Lib.hid hw1
  have HW2 := Lib.hid hw2
  have htg : ∀ (W : World), W = w1 → Calls Try.prog 53 #[.pointer (some ⟨b, 0, none⟩), .int .i64 n] W fun e w' => e = .returned (.tuple #[.int .i64 out.length, .bool true]) ∧ w2 = w' := by
    rintro W rfl
    refine (Try.Buffer_tryGrow_room b _ out.length cap n W (by rw [hw1]; exact d0) (by rw [hw1]; exact e0) (by omega) hcm (by omega)).mono ?_
    rintro e w' ⟨h1, h2⟩
    exact ⟨h1, by rw [hw2, h2]⟩
  have HT := Lib.hid htg
  clear htg hend hw1 hw2 hsrc hsrc2 hg2 hb2 hb1 hb hg htk hcs hn hro hk2 d0 d1 d2 e0 e1 e2 hcm
  go_enter Try.func52, Try.ntmps52
  go_wp2_with (go_at_call 53; refine (HT.out _ HW1.out.symm).mono ?_; rintro e w' ⟨rfl, rfl⟩)
  go_ret2
  exact ⟨rfl, by rw [← List.append_assoc]; exact HE.out⟩

set_option maxHeartbeats 3200000 in
/-- WRITE, WHERE THERE IS NONE: the buffer's fields, and what grow leaves. -/
theorem bwrite_grow (ao : Option Addr) (cap : Nat) (lr : Int) (hb : w.heap[b]? = some (.cells #[.slice ao out.length cap, .int .i64 0, .int .i8 lr] 43 (0, 0)))
    (hlc : out.length ≤ cap) (hcm : cap ≤ maxLen) (hroom : cap - out.length < n) (hn0 : n ≠ 0)
    (hgrow : ∀ w1, w1.heap[b]? = some (.cells #[.slice ao out.length cap, .int .i64 0, .int .i8 0] 43 (0, 0)) → (∀ k, k ≠ b → w1.heap[k]? = w.heap[k]?) →
      Calls Try.prog 54 #[.pointer (some ⟨b, 0, none⟩), .int .i64 n] w1 fun e w' => e = .returned (.int .i64 out.length) ∧ Grew w1 b n out w')
    (hn : cs.length = n) (hab : a.block ≠ b) (hsrc : ∀ j v, (Lib.byteCells cs)[j]? = some v → w.cell? (a.add j) = some v) (ro : Option Nat) :
    Calls Try.prog 52 #[.pointer (some ⟨b, 0, none⟩), .slice (some a) n c] w fun e w' => e = .returned (.tuple #[.int .i64 n, .nilIface]) ∧
      ∃ ro', BufAt w' b ro' (out ++ cs) ∧ Moved ro ro' w ∧ Keep (fun k => k = b ∨ ro = some k) w w' := by
  have hlt := Lib.lt_of_heap hb
  obtain ⟨c0, c1, c2, f0, f1, f2⟩ := cell3 hb
  have hb1 : (w.setCell ⟨b, 2, none⟩ (.int .i8 0)).heap[b]? = some (.cells #[.slice ao out.length cap, .int .i64 0, .int .i8 0] 43 (0, 0)) := by rw [Lib.heap_setCell_same hb]; rfl
  obtain ⟨d0, d1, d2, e0, e1, e2⟩ := cell3 hb1
  obtain ⟨w1, hw1⟩ : ∃ w1, w1 = w.setCell ⟨b, 2, none⟩ (.int .i8 0) := ⟨_, rfl⟩
  have hk1 : Keep (fun k => k = b ∨ ro = some k) w w1 := by rw [hw1]; exact (Keep.refl _ _).setCell _ (.inl rfl) _
  have hgr := hgrow w1 (hw1 ▸ hb1) (fun k hk => by rw [hw1]; exact Below.heap_setCell _ _ _ _ hk)
  have hcl : ∃ l, l = out.length := ⟨_, rfl⟩
  have HW1 := Lib.hid hw1
  have htg : ∀ (W : World), W = w1 → Calls Try.prog 53 #[.pointer (some ⟨b, 0, none⟩), .int .i64 n] W fun e w' => e = .returned (.tuple #[.int .i64 0, .bool false]) ∧ w1 = w' := by
    rintro W rfl
    refine (Try.Buffer_tryGrow_none b _ out.length cap n W (by rw [hw1]; exact d0) hlc hcm (by omega)).mono ?_
    rintro e w' ⟨h1, h2⟩
    exact ⟨h1, h2.symm⟩
  have HT := Lib.hid htg
  have HG := Lib.hid hgr
  have HS := Lib.hid hsrc
  have HN := Lib.hid hn
  have HSZ := Lib.hid (show w1.heap.size = w.heap.size by rw [hw1, World.size_setCell])
  clear htg hgr hgrow hw1 hsrc hb1 hb hn d0 d1 d2 e0 e1 e2 hcl
  go_enter Try.func52, Try.ntmps52
  go_wp2_with (first
    | (go_at_call 53; refine (HT.out _ HW1.out.symm).mono ?_; rintro e w' ⟨rfl, rfl⟩)
    | (go_at_call 54; refine HG.out.mono ?_))
  rintro e w2 ⟨rfl, lr2, g, cap2, cur, hsz, hgb, hb2, hg2, hcs, hlc2, hcm2, htk, hk2⟩
  have hk3 : Keep (fun k => k = b ∨ ro = some k) w w2 := hk1.trans hk2 (fun k _ hk => .inl hk)
  have hsrc2 : ∀ j v, (Lib.byteCells cs)[j]? = some v → w2.cell? (a.add j) = some v := fun j v hj => (hk1.trans hk2 (T := fun k => k = b) (S := fun k => k = b ∨ ro = some k) (fun k _ hk => .inl hk) |> fun _ => by
    have h1 : w1.cell? (a.add j) = some v := by
      rw [HW1.out]
      exact ((Keep.refl (fun k => k = b) w).setCell ⟨b, 2, none⟩ rfl _).cell (by rw [Lib.block_add]; exact hab) (HS.out j v hj)
    exact hk2.cell (by rw [Lib.block_add]; exact hab) h1)
  have hend := written hgb hb2 hg2 hcs hlc2 hcm2 htk HN.out hn0 hk3 (.inr (by rw [← HSZ.out]; exact hsz))
  have hcp := run_copy_row (P := Try.prog) w2 24 24 3 5 g out.length n (cap2 - out.length) a n c cur 5 (Lib.byteCells cs) Try.underlying24 info5s hg2 (by rw [byteCells_length, HN.out]; simp) hsrc2 (by rw [byteCells_length, HN.out]; omega) (Lib.byteCells_one _)
  rw [byteCells_length, HN.out] at hcp
  have hne : ¬ cap2 = out.length := by omega
  have c02 : w2.cell? ⟨b, 0, none⟩ = some (.slice (some ⟨g, 0, none⟩) (out.length + n) cap2) := (cell3 hb2).1
  have hcm' := hcm2
  unfold maxLen at hcm'
  have HE := Lib.hid hend
  clear hend hsrc2 hb2 hg2 hcs htk hk2 hk3 hcm2
  go_wp2
  go_ret2
  exact ⟨rfl, by rw [← List.append_assoc]; exact HE.out⟩

set_option maxHeartbeats 3200000 in
/-- WRITE of nothing. -/
theorem bwrite_none (ao : Option Addr) (cap : Nat) (lr : Int) (hb : w.heap[b]? = some (.cells #[.slice ao out.length cap, .int .i64 0, .int .i8 lr] 43 (0, 0)))
    (hlc : out.length ≤ cap) (hcm : cap ≤ maxLen) (hao : ao = none → cap = 0) :
    Calls Try.prog 52 #[.pointer (some ⟨b, 0, none⟩), .slice (some a) 0 c] w fun e w' => e = .returned (.tuple #[.int .i64 0, .nilIface]) ∧
      (w.setCell ⟨b, 2, none⟩ (.int .i8 0)).setCell ⟨b, 0, none⟩ (.slice ao out.length cap) = w' := by
  have hlt := Lib.lt_of_heap hb
  obtain ⟨c0, c1, c2, f0, f1, f2⟩ := cell3 hb
  have hb1 : (w.setCell ⟨b, 2, none⟩ (.int .i8 0)).heap[b]? = some (.cells #[.slice ao out.length cap, .int .i64 0, .int .i8 0] 43 (0, 0)) := by rw [Lib.heap_setCell_same hb]; rfl
  obtain ⟨d0, d1, d2, e0, e1, e2⟩ := cell3 hb1
  obtain ⟨w1, hw1⟩ : ∃ w1, w1 = w.setCell ⟨b, 2, none⟩ (.int .i8 0) := ⟨_, rfl⟩
  obtain ⟨w2, hw2⟩ : ∃ w2, w2 = w1.setCell ⟨b, 0, none⟩ (.slice ao out.length cap) := ⟨_, rfl⟩
  have hb2 : w2.heap[b]? = some (.cells #[.slice ao out.length cap, .int .i64 0, .int .i8 0] 43 (0, 0)) := by rw [hw2, Lib.heap_setCell_same (hw1 ▸ hb1)]; rfl
  have c02 : w2.cell? ⟨b, 0, none⟩ = some (.slice ao out.length cap) := (cell3 hb2).1
  have htg : ∀ (W : World), W = w1 → Calls Try.prog 53 #[.pointer (some ⟨b, 0, none⟩), .int .i64 0] W fun e w' => e = .returned (.tuple #[.int .i64 out.length, .bool true]) ∧ w2 = w' := by
    rintro W rfl
    refine (Try.Buffer_tryGrow_room b _ out.length cap 0 W (by rw [hw1]; exact d0) (by rw [hw1]; exact e0) hlc hcm (Nat.zero_le _)).mono ?_
    rintro e w' ⟨h1, h2⟩
    exact ⟨h1, by rw [hw2, h2]; rfl⟩
  have hce : ∀ d dLen dCap W, (Builtin.copy_ #[24, 24] 3 #[.slice d dLen dCap, .slice (some a) 0 c]).run Try.prog W = .ok (goInt 0) W := fun d dLen dCap W => run_copy_none W 24 24 3 5 d (some a) dLen dCap 0 c Try.underlying24 info5s (by simp)
  have HW1 := Lib.hid hw1
  have HW2 := Lib.hid hw2
  have HT := Lib.hid htg
  have HAO := Lib.hid hao
  clear htg hw1 hw2 hb1 hb2 hb d0 d1 d2 e0 e1 e2 hao
  have hcm' := hcm
  unfold maxLen at hcm'
  cases ao with
  | none =>
    have hc0 := HAO.out rfl
    have hl0 : out = [] := List.eq_nil_of_length_eq_zero (by omega)
    subst hl0
    subst hc0
    go_enter Try.func52, Try.ntmps52
    go_wp2_with (go_at_call 53; refine (HT.out _ HW1.out.symm).mono ?_; rintro e w' ⟨rfl, rfl⟩)
    go_ret2
    exact ⟨rfl, by rw [HW2.out, HW1.out]; first | done | rfl | (rw [show cap = out.length by assumption])⟩
  | some ad =>
    go_enter Try.func52, Try.ntmps52
    go_wp2_with (go_at_call 53; refine (HT.out _ HW1.out.symm).mono ?_; rintro e w' ⟨rfl, rfl⟩)
    all_goals go_ret2
    all_goals exact ⟨rfl, by rw [HW2.out, HW1.out]; first | done | rfl | (rw [show cap = out.length by assumption])⟩

end

/-- WRITE. -/
theorem bwrite_any {w : World} {b : Nat} {ro : Option Nat} {out cs : List UInt8} (a : Addr) (n c : Nat) (h : BufAt w b ro out) (hn : cs.length = n) (hab : a.block ≠ b) (har : ro ≠ some a.block)
    (hsrc : ∀ j v, (Lib.byteCells cs)[j]? = some v → w.cell? (a.add j) = some v) (hlim : out.length + n ≤ 140737488355328) :
    Calls Try.prog 52 #[.pointer (some ⟨b, 0, none⟩), .slice (some a) n c] w fun e w' => e = .returned (.tuple #[.int .i64 n, .nilIface]) ∧
      ∃ ro', BufAt w' b ro' (out ++ cs) ∧ Moved ro ro' w ∧ Keep (fun k => k = b ∨ ro = some k) w w' := by
  obtain ⟨lr, h⟩ := h
  by_cases hn0 : n = 0
  · subst hn0
    have hcs0 : cs = [] := List.eq_nil_of_length_eq_zero hn
    subst hcs0
    cases ro with
    | none =>
      obtain ⟨hb, rfl⟩ := h
      refine (bwrite_none (out := []) a c none 0 lr hb (Nat.zero_le _) (Nat.zero_le _) (fun _ => rfl)).mono ?_
      rintro e w' ⟨rfl, rfl⟩
      refine ⟨rfl, none, ⟨0, ?_, rfl⟩, .inl rfl, ((Keep.refl _ _).setCell _ (.inl rfl) _).setCell _ (.inl rfl) _⟩
      rw [Lib.heap_setCell_same (Lib.heap_setCell_same hb _) _]; rfl
    | some g =>
      obtain ⟨hgb, hne, cap, cur, hb, hg, hcs, hlc, hcm, htk⟩ := h
      refine (bwrite_none (out := out) a c _ cap lr hb hlc hcm (by simp)).mono ?_
      rintro e w' ⟨rfl, rfl⟩
      refine ⟨rfl, some g, ⟨0, hgb, by simpa using hne, cap, cur, ?_, ?_, hcs, by simpa using hlc, hcm, by simpa using htk⟩, .inl rfl, ((Keep.refl _ _).setCell _ (.inl rfl) _).setCell _ (.inl rfl) _⟩
      · rw [Lib.heap_setCell_same (Lib.heap_setCell_same hb _) _]; simp
      · rw [Below.heap_setCell _ _ _ _ hgb, Below.heap_setCell _ _ _ _ hgb]; exact hg
  · cases ro with
    | none =>
      obtain ⟨hb, rfl⟩ := h
      refine bwrite_grow (out := []) a n c none 0 lr hb (Nat.zero_le _) (Nat.zero_le _) (by simp; omega) hn0 ?_ hn hab hsrc none
      intro w1 hb1 _
      by_cases h64 : n ≤ 64
      · exact grow_nil_small b 0 n w1 hb1 (by omega) h64
      · exact grow_nil_big b 0 n w1 hb1 (by omega) (by simpa using hlim)
    | some g =>
      obtain ⟨hgb, hne, cap, cur, hb, hg, hcs, hlc, hcm, htk⟩ := h
      by_cases hroom : out.length + n ≤ cap
      · exact bwrite_room a n c g cap cur lr hgb hb hg hcs hcm htk hroom hn0 hn hab (fun e => har (by rw [e])) hsrc _ rfl
      · refine bwrite_grow (out := out) a n c _ cap lr hb hlc hcm (by omega) hn0 ?_ hn hab hsrc _
        intro w1 hb1 hk1
        exact grow_row b g cap out cur 0 n w1 hb1 (by rw [hk1 g hgb]; exact hg) hcs hlc hcm htk (by omega) (by omega) hlim (by simpa using hne)
end Go.Proofs.Ytigebhmdplcciaa

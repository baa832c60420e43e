/- The walks of the Writer's small functions. -/
import Derived.Test.YtigebhmdplcciaaBufw
import Derived.StillTailTactics
namespace Go.Proofs.Ytigebhmdplcciaa
open Go.RowKit Qp

/-- the Writer's w: the Buffer in block b -/
def wio (b : Nat) : Value := .iface 46 (.pointer (some ⟨b, 0, none⟩))

theorem isWs_int : ∀ b : UInt8, isWs b = ((b.toNat : Int) == 32 || (b.toNat : Int) == 9) := u8_all (by decide +kernel)
theorem isWs_any (b : UInt8) (w : World) : Calls Try.prog 25 #[.int .u8 b.toNat] w fun e w' => e = .returned (.bool (isWs b)) ∧ w = w' := by
  rw [isWs_int]
  obtain ⟨n, hn⟩ : ∃ n : Int, n = b.toNat := ⟨_, rfl⟩
  rw [← hn]
  clear hn
  go_enter Try.func25, Try.ntmps25
  go_wp2
  all_goals go_ret
  · rw [show n = 32 by assumption]; exact ⟨rfl, rfl⟩
  · exact ⟨rfl, rfl⟩

/-- what the Writer's functions may turn -/
def Wmay (bw bb : Nat) (ro : Option Nat) (k : Nat) : Prop := k = bw ∨ k = bb ∨ ro = some k

theorem Moved.ne {ro ro' : Option Nat} {w : World} {k : Nat} (h : Moved ro ro' w) (hk : k < w.heap.size) (hn : ro ≠ some k) : ro' ≠ some k := by
  rcases h with h | ⟨g, h, hg⟩
  · rw [h]; exact hn
  · rw [h]; intro e; have := Option.some.inj e; omega
theorem Moved.trans {ro ro1 ro2 : Option Nat} {w w1 : World} (h : Moved ro ro1 w) (h' : Moved ro1 ro2 w1) (hs : w.heap.size ≤ w1.heap.size) : Moved ro ro2 w := by
  rcases h' with h' | ⟨g, h', hg⟩
  · rw [h']; exact h
  · exact .inr ⟨g, h', by omega⟩
theorem BufAt.of_heap {w w' : World} {b : Nat} {ro : Option Nat} {out : List UInt8} (h : BufAt w b ro out) (e : w'.heap[b]? = w.heap[b]?) (e' : ∀ g, ro = some g → w'.heap[g]? = w.heap[g]?) : BufAt w' b ro out := by
  obtain ⟨lr, h⟩ := h
  refine ⟨lr, ?_⟩
  cases ro with
  | none => exact ⟨e.trans h.1, h.2⟩
  | some g =>
    obtain ⟨h1, h2, cap, cur, h3, h4, h5⟩ := h
    exact ⟨h1, h2, cap, cur, e.trans h3, (e' g rfl).trans h4, h5⟩

/-- the Writer in block bw, over the Buffer in block bb -/
structure IsWr (w : World) (bw bb : Nat) (ro : Option Nat) (bin : Bool) (s : WS) : Prop where
  raw : Wraw w bw bin (wio bb) s.line.length s.line s.cr
  buf : BufAt w bb ro s.out
  ne : bw ≠ bb
  nr : ro ≠ some bw

/-- how the Writer's functions leave it -/
def Wgo (bw bb : Nat) (ro : Option Nat) (bin : Bool) (s : WS) (w w' : World) : Prop := ∃ ro', IsWr w' bw bb ro' bin s ∧ Moved ro ro' w ∧ Keep (Wmay bw bb ro) w w'
def Wpost (bw bb : Nat) (ro : Option Nat) (bin : Bool) (s : WS) (w : World) (e : Ending) (w' : World) : Prop := e = .returned .nilIface ∧ Wgo bw bb ro bin s w w'

theorem Wmay.back {bw bb : Nat} {ro ro1 : Option Nat} {w : World} (h : Moved ro ro1 w) (k : Nat) (hk : k < w.heap.size) (hm : Wmay bw bb ro1 k) : Wmay bw bb ro k := by
  rcases hm with hm | hm | hm
  · exact .inl hm
  · exact .inr (.inl hm)
  · rcases h with h | ⟨g, h, hg⟩
    · exact .inr (.inr (h ▸ hm))
    · rw [h] at hm; have := Option.some.inj hm; omega
theorem Wgo.trans {bw bb : Nat} {ro ro1 : Option Nat} {bin : Bool} {s : WS} {w w1 w2 : World} (hm : Moved ro ro1 w) (hk : Keep (Wmay bw bb ro) w w1) (h : Wgo bw bb ro1 bin s w1 w2) : Wgo bw bb ro bin s w w2 := by
  obtain ⟨ro2, h1, h2, h3⟩ := h
  exact ⟨ro2, h1, hm.trans h2 hk.size, hk.trans h3 (fun k hk hm' => Wmay.back hm k hk hm')⟩
/-- worlds that part in draws and in the Writer's own block alone -/
theorem Wgo.own {bw bb : Nat} {ro : Option Nat} {bin : Bool} {s : WS} {w w1 w2 : World} (hk : Keep (fun k => k = bw) w w1) (h : Wgo bw bb ro bin s w1 w2) : Wgo bw bb ro bin s w w2 :=
  Wgo.trans (.inl rfl) (hk.mono (fun _ _ e => .inl e)) h

theorem IsWr.buf_own {w w1 : World} {bw bb : Nat} {ro : Option Nat} {bin : Bool} {s : WS} (h : IsWr w bw bb ro bin s) (hk : Keep (fun k => k = bw) w w1) : BufAt w1 bb ro s.out := by
  have hb := h.buf
  have hlb : bb < w.heap.size := by
    obtain ⟨lr, hb⟩ := hb
    cases ro with
    | none => exact Lib.lt_of_heap hb.1
    | some g => obtain ⟨_, _, _, _, hb, _⟩ := hb; exact Lib.lt_of_heap hb
  refine hb.of_heap (hk.block bb hlb (Ne.symm h.ne)) ?_
  intro g hg
  subst hg
  obtain ⟨lr, _, _, _, _, _, hg, _⟩ := hb
  exact hk.block g (Lib.lt_of_heap hg) (fun e => h.nr (by rw [e]))

set_option maxHeartbeats 1600000 in
theorem flush_raw {w : World} {bw bb : Nat} {ro : Option Nat} {bin : Bool} {out l : List UInt8} {cr : Bool} (h : Wraw w bw bin (wio bb) l.length l cr) (hb : BufAt w bb ro out) (hne : bw ≠ bb) (hro : ro ≠ some bw)
    (hlim : out.length + l.length ≤ 140737488355328) :
    Calls Try.prog 29 #[.pointer (some ⟨bw, 0, none⟩)] w (Wpost bw bb ro bin ⟨out ++ l, [], cr⟩ w) := by
  have c1 := h.c1
  have c2 := h.c2
  have hll := h.len
  have hw := bwrite_any (w := w.drew) (b := bb) (ro := ro) (out := out) (cs := l) ⟨bw, 3, none⟩ l.length 78 hb rfl hne hro
    (fun j v hj => by
      have hj' : j < l.length := by
        have := (List.getElem?_eq_some_iff.1 hj).1
        simpa [byteCells_length] using this
      rw [Lib.addr_add]
      show w.cell? _ = _
      rw [h.cline j hj']
      rw [← hj]
      simp [Lib.byteCells, hj']) hlim
  have HW := Lib.hid hw
  have H := Lib.hid h
  clear hw h
  have g0 : (0 : Int) ≤ l.length := by omega
  have g1 : (l.length : Int) ≤ 78 := by omega
  unfold wio at c1
  go_enter Try.func29, Try.ntmps29
  go_wp2
  go_region_held3 (fun w' => w'.cell? ⟨bw, 1, none⟩ = some (.iface 46 (.pointer (some ⟨bb, 0, none⟩))) ∧ w'.cell? ⟨bw, 2, none⟩ = some (.int .i64 l.length)) (first | exact ⟨d1, d2⟩ | exact ⟨c1, c2⟩ | go_keep)
    ((go_at_call 52
      refine HW.out.mono ?_
      rintro e w2 ⟨rfl, ro', hb2, hm2, hk2⟩
      have h2 : Wraw w2 bw bin (wio bb) l.length l cr := H.out.of_heap (hk2.block bw H.out.lt (by rintro (e | e); exact hne e; exact hro e))
      have d1 : w2.cell? ⟨bw, 1, none⟩ = _ := h2.c1
      have d2 := h2.c2))
  have e2 := h2.fr 2
  have hend : Wpost bw bb ro bin ⟨out ++ l, [], cr⟩ w (.returned .nilIface) (w2.setCell ⟨bw, 2, none⟩ (.int .i64 0)) := by
    have hnr := hm2.ne H.out.lt hro
    refine ⟨rfl, ro', ⟨(h2.seti 0).cut 0, ?_, hne, hnr⟩, hm2, ?_⟩
    · refine hb2.of_heap (Below.heap_setCell _ _ _ _ (Ne.symm hne)) (fun g hg => Below.heap_setCell _ _ _ _ (fun e => hnr (by rw [hg]; exact congrArg some e)))
    · have hk3 : Keep (Wmay bw bb ro) w w2 := ⟨hk2.os, hk2.tape, hk2.output, hk2.size, fun k hk hn => hk2.block k hk (fun e => hn (Or.inr e))⟩
      exact hk3.setCell _ (Or.inl rfl) _
  have HE := Lib.hid hend
  clear hend h2 hb2 hm2 hk2 c1 c2 d1
  go_wp2
  go_ret
  exact HE.out

end Go.Proofs.Ytigebhmdplcciaa

/- The walks of the Writer's small functions. The walks of the Writer's functions that lay bytes in its line. The walks of the Writer's encode, checkLastByte and Close. The walk of the Writer's write: a loop over bytes. The walk of the Writer's Write. -/
import Derived.Test.YthfkgancjpdodaaDoorWmem
import Derived.StillTailTactics
import Derived.LoopTactic
namespace Go.Proofs.YthfkgancjpdodaaDoor
open Go.RowKit Qp

/-- the Writer's w: the Buffer in block b -/
def wio (b : Nat) : Value := .iface 61 (.pointer (some ⟨b, 0, none⟩))

theorem isWs_int : ∀ b : UInt8, isWs b = ((b.toNat : Int) == 32 || (b.toNat : Int) == 9) := u8_all (by decide +kernel)
theorem isWs_any (b : UInt8) (w : World) : Calls Tryd.prog 51 #[.int .u8 b.toNat] w fun e w' => e = .returned (.bool (isWs b)) ∧ w = w' := by
  rw [isWs_int]
  obtain ⟨n, hn⟩ : ∃ n : Int, n = b.toNat := ⟨_, rfl⟩
  rw [← hn]
  clear hn
  go_enter Tryd.func51, Tryd.ntmps51
  go_wp2
  all_goals go_ret
  · rw [show n = 32 by assumption]; exact ⟨rfl, rfl⟩
  · exact ⟨rfl, rfl⟩

/-- what the Writer's functions may turn -/
def Wmay (bw bb : Nat) (ro : Option Nat) (k : Nat) : Prop := k = bw ∨ k = bb ∨ ro = some k

theorem Moved.ne {ro ro' : Option Nat} {w : World} {k : Nat} (h : Moved ro ro' w) (hk : k < w.heap.size) (hn : ro ≠ some k) : ro' ≠ some k := by
  rcases h with h | ⟨g, h, hg⟩
  · rw [h]; exact hn
  · rw [h]; intro e; have := Option.some.inj e; omega
theorem Moved.trans {ro ro1 ro2 : Option Nat} {w w1 : World} (h : Moved ro ro1 w) (h' : Moved ro1 ro2 w1) (hs : w.heap.size ≤ w1.heap.size) : Moved ro ro2 w := by
  rcases h' with h' | ⟨g, h', hg⟩
  · rw [h']; exact h
  · exact .inr ⟨g, h', by omega⟩
theorem BufAt.of_heap {w w' : World} {b : Nat} {ro : Option Nat} {out : List UInt8} (h : BufAt w b ro out) (e : w'.heap[b]? = w.heap[b]?) (e' : ∀ g, ro = some g → w'.heap[g]? = w.heap[g]?) : BufAt w' b ro out := by
  obtain ⟨lr, h⟩ := h
  refine ⟨lr, ?_⟩
  cases ro with
  | none => exact ⟨e.trans h.1, h.2⟩
  | some g =>
    obtain ⟨h1, h2, cap, cur, h3, h4, h5⟩ := h
    exact ⟨h1, h2, cap, cur, e.trans h3, (e' g rfl).trans h4, h5⟩

/-- the Writer in block bw, over the Buffer in block bb -/
structure IsWr (w : World) (bw bb : Nat) (ro : Option Nat) (bin : Bool) (s : WS) : Prop where
  raw : Wraw w bw bin (wio bb) s.line.length s.line s.cr
  buf : BufAt w bb ro s.out
  ne : bw ≠ bb
  nr : ro ≠ some bw

/-- how the Writer's functions leave it -/
def Wgo (bw bb : Nat) (ro : Option Nat) (bin : Bool) (s : WS) (w w' : World) : Prop := ∃ ro', IsWr w' bw bb ro' bin s ∧ Moved ro ro' w ∧ Keep (Wmay bw bb ro) w w'
def Wpost (bw bb : Nat) (ro : Option Nat) (bin : Bool) (s : WS) (w : World) (e : Ending) (w' : World) : Prop := e = .returned .nilIface ∧ Wgo bw bb ro bin s w w'

theorem Wmay.back {bw bb : Nat} {ro ro1 : Option Nat} {w : World} (h : Moved ro ro1 w) (k : Nat) (hk : k < w.heap.size) (hm : Wmay bw bb ro1 k) : Wmay bw bb ro k := by
  rcases hm with hm | hm | hm
  · exact .inl hm
  · exact .inr (.inl hm)
  · rcases h with h | ⟨g, h, hg⟩
    · exact .inr (.inr (h ▸ hm))
    · rw [h] at hm; have := Option.some.inj hm; omega
theorem Wgo.trans {bw bb : Nat} {ro ro1 : Option Nat} {bin : Bool} {s : WS} {w w1 w2 : World} (hm : Moved ro ro1 w) (hk : Keep (Wmay bw bb ro) w w1) (h : Wgo bw bb ro1 bin s w1 w2) : Wgo bw bb ro bin s w w2 := by
  obtain ⟨ro2, h1, h2, h3⟩ := h
  exact ⟨ro2, h1, hm.trans h2 hk.size, hk.trans h3 (fun k hk hm' => Wmay.back hm k hk hm')⟩
/-- worlds that part in draws and in the Writer's own block alone -/
theorem Wgo.own {bw bb : Nat} {ro : Option Nat} {bin : Bool} {s : WS} {w w1 w2 : World} (hk : Keep (fun k => k = bw) w w1) (h : Wgo bw bb ro bin s w1 w2) : Wgo bw bb ro bin s w w2 :=
  Wgo.trans (.inl rfl) (hk.mono (fun _ _ e => .inl e)) h

theorem IsWr.buf_own {w w1 : World} {bw bb : Nat} {ro : Option Nat} {bin : Bool} {s : WS} (h : IsWr w bw bb ro bin s) (hk : Keep (fun k => k = bw) w w1) : BufAt w1 bb ro s.out := by
  have hb := h.buf
  have hlb : bb < w.heap.size := by
    obtain ⟨lr, hb⟩ := hb
    cases ro with
    | none => exact Lib.lt_of_heap hb.1
    | some g => obtain ⟨_, _, _, _, hb, _⟩ := hb; exact Lib.lt_of_heap hb
  refine hb.of_heap (hk.block bb hlb (Ne.symm h.ne)) ?_
  intro g hg
  subst hg
  obtain ⟨lr, _, _, _, _, _, hg, _⟩ := hb
  exact hk.block g (Lib.lt_of_heap hg) (fun e => h.nr (by rw [e]))

set_option maxRecDepth 100000 in
set_option maxHeartbeats 1600000 in
theorem flush_raw {w : World} {bw bb : Nat} {ro : Option Nat} {bin : Bool} {out l : List UInt8} {cr : Bool} (h : Wraw w bw bin (wio bb) l.length l cr) (hb : BufAt w bb ro out) (hne : bw ≠ bb) (hro : ro ≠ some bw)
    (hlim : out.length + l.length ≤ 140737488355328) :
    Calls Tryd.prog 55 #[.pointer (some ⟨bw, 0, none⟩)] w (Wpost bw bb ro bin ⟨out ++ l, [], cr⟩ w) := by
  have c1 := h.c1
  have c2 := h.c2
  have hll := h.len
  have hw := bwrite_any (w := w.drew) (b := bb) (ro := ro) (out := out) (cs := l) ⟨bw, 3, none⟩ l.length 78 hb rfl hne hro
    (fun j v hj => by
      have hj' : j < l.length := by
        have := (List.getElem?_eq_some_iff.1 hj).1
        simpa [byteCells_length] using this
      rw [Lib.addr_add]
      show w.cell? _ = _
      rw [h.cline j hj']
      rw [← hj]
      simp [Lib.byteCells, hj']) hlim
  have HW := Lib.hid hw
  have H := Lib.hid h
  clear hw h
  have g0 : (0 : Int) ≤ l.length := by omega
  have g1 : (l.length : Int) ≤ 78 := by omega
  unfold wio at c1
  go_enter Tryd.func55, Tryd.ntmps55
  go_wp2
  go_region_held3 (fun w' => w'.cell? ⟨bw, 1, none⟩ = some (.iface 61 (.pointer (some ⟨bb, 0, none⟩))) ∧ w'.cell? ⟨bw, 2, none⟩ = some (.int .i64 l.length)) (first | exact ⟨d1, d2⟩ | exact ⟨c1, c2⟩ | go_keep)
    ((go_at_call 108
      refine HW.out.mono ?_
      rintro e w2 ⟨rfl, ro', hb2, hm2, hk2⟩
      have h2 : Wraw w2 bw bin (wio bb) l.length l cr := H.out.of_heap (hk2.block bw H.out.lt (by rintro (e | e); exact hne e; exact hro e))
      have d1 : w2.cell? ⟨bw, 1, none⟩ = _ := h2.c1
      have d2 := h2.c2))
  have e2 := h2.fr 2
  have hend : Wpost bw bb ro bin ⟨out ++ l, [], cr⟩ w (.returned .nilIface) (w2.setCell ⟨bw, 2, none⟩ (.int .i64 0)) := by
    have hnr := hm2.ne H.out.lt hro
    refine ⟨rfl, ro', ⟨(h2.seti 0).cut 0, ?_, hne, hnr⟩, hm2, ?_⟩
    · refine hb2.of_heap (Below.heap_setCell _ _ _ _ (Ne.symm hne)) (fun g hg => Below.heap_setCell _ _ _ _ (fun e => hnr (by rw [hg]; exact congrArg some e)))
    · have hk3 : Keep (Wmay bw bb ro) w w2 := ⟨hk2.os, hk2.tape, hk2.output, hk2.size, fun k hk hn => hk2.block k hk (fun e => hn (Or.inr e))⟩
      exact hk3.setCell _ (Or.inl rfl) _
  have HE := Lib.hid hend
  clear hend h2 hb2 hm2 hk2 c1 c2 d1
  go_wp2
  go_ret
  exact HE.out

end Go.Proofs.YthfkgancjpdodaaDoor

namespace Go.Proofs.YthfkgancjpdodaaDoor
open Go.RowKit Qp

section
variable {w : World} {bw bb : Nat} {ro : Option Nat} {bin : Bool} {s : WS}

/-- flush, of a Writer whose line has been written on in its own block -/
theorem flush_on (h : IsWr w bw bb ro bin s) {w1 : World} {n : Int} {l : List UInt8} {cr : Bool} (hk : Keep (fun k => k = bw) w w1) (h1 : Wraw w1 bw bin (wio bb) n l cr) (hn : n = l.length) (hlim : s.out.length + l.length ≤ 140737488355328) :
    Calls Tryd.prog 55 #[.pointer (some ⟨bw, 0, none⟩)] w1 (Wpost bw bb ro bin ⟨s.out ++ l, [], cr⟩ w) := by
  subst hn
  refine (flush_raw h1 (h.buf_own hk) h.ne h.nr hlim).mono ?_
  rintro e w' ⟨rfl, hg⟩
  exact ⟨rfl, Wgo.own hk hg⟩

set_option maxRecDepth 100000 in
set_option maxHeartbeats 1600000 in
theorem crlf_on (h : IsWr w bw bb ro bin s) {w1 : World} {n : Int} {l : List UInt8} {cr : Bool} (hk : Keep (fun k => k = bw) w w1) (h1 : Wraw w1 bw bin (wio bb) n l cr) (hn : n = l.length) (hl : l.length ≤ 76) (hlim : s.out.length + 100 ≤ 140737488355328) :
    Calls Tryd.prog 59 #[.pointer (some ⟨bw, 0, none⟩)] w1 (Wpost bw bb ro bin ⟨s.out ++ (l ++ [13, 10]), [], cr⟩ w) := by
  subst hn
  have c2 := h1.c2
  have f2 := h1.fr 2
  obtain ⟨v0, d0⟩ := h1.cany l.length (by omega)
  have f3 := h1.fr (3 + l.length)
  have g0 : (0 : Int) ≤ l.length := by omega
  have g1 : (l.length : Int) < 77 := by omega
  have H := Lib.hid h
  have H1 := Lib.hid h1
  have HK := Lib.hid hk
  clear h h1 hk
  go_enter Tryd.func59, Tryd.ntmps59
  go_wp2
  go_region
  have h2 := H1.out.put 13 (by omega) (3 + l.length) rfl 13 rfl
  obtain ⟨w2, hw2⟩ : ∃ w2, w2 = (w1.setCell ⟨bw, 3 + l.length, none⟩ (.int .u8 13)).drew := ⟨_, rfl⟩
  rw [← hw2]
  have h2 : Wraw w2 bw bin (wio bb) l.length (l ++ [13]) cr := by rw [hw2]; exact h2
  have hk2 : Keep (fun k => k = bw) w w2 := by rw [hw2]; exact (HK.out.setCell _ rfl _).drew
  clear hw2 c2 f2 d0 f3
  have c2 := h2.c2
  have f2 := h2.fr 2
  obtain ⟨v1, d1⟩ := h2.cany (l.length + 1) (by omega)
  have f3 := h2.fr (3 + (l.length + 1))
  have H2 := Lib.hid h2
  have HK2 := Lib.hid hk2
  clear h2 hk2
  go_wp2
  go_region
  have h3 := H2.out.put 10 (by simp; omega) (3 + (l.length + 1)) (by simp) 10 rfl
  obtain ⟨w3, hw3⟩ : ∃ w3, w3 = (w2.setCell ⟨bw, 3 + (l.length + 1), none⟩ (.int .u8 10)).drew := ⟨_, rfl⟩
  rw [← hw3]
  have h3 : Wraw w3 bw bin (wio bb) l.length (l ++ [13] ++ [10]) cr := by rw [hw3]; exact h3
  have hk3 : Keep (fun k => k = bw) w w3 := by rw [hw3]; exact (HK2.out.setCell _ rfl _).drew
  clear hw3 c2 f2 d1 f3
  have c2 := h3.c2
  have f2 := h3.fr 2
  have hfl := flush_on H.out (hk3.setCell ⟨bw, 2, none⟩ rfl (.int .i64 (l.length + 2))) (h3.seti (l.length + 2)) (by simp) (by simp; omega)
  rw [List.append_assoc, show ([13] ++ [10] : List UInt8) = [13, 10] from rfl] at hfl
  have HF := Lib.hid hfl
  clear h3 hk3 hfl
  go_wp2_with (go_at_call 55; refine HF.out.mono ?_; rintro e w' ⟨rfl, hg⟩)
  go_ret
  exact ⟨rfl, hg⟩

set_option maxRecDepth 100000 in
set_option maxHeartbeats 1600000 in
theorem soft_on (h : IsWr w bw bb ro bin s) (hl : s.line.length ≤ 75) (hlim : s.out.length + 200 ≤ 140737488355328) :
    Calls Tryd.prog 60 #[.pointer (some ⟨bw, 0, none⟩)] w (Wpost bw bb ro bin s.soft w) := by
  have h1 := h.raw
  have hk : Keep (fun k => k = bw) w w := Keep.refl _ _
  have H := Lib.hid h
  clear h
  obtain ⟨l, hll⟩ : ∃ l, l = s.line := ⟨_, rfl⟩
  unfold WS.soft
  rw [← hll] at h1 hl ⊢
  clear hll
  have c2 := h1.c2
  have f2 := h1.fr 2
  obtain ⟨v0, d0⟩ := h1.cany l.length (by omega)
  have f3 := h1.fr (3 + l.length)
  have g0 : (0 : Int) ≤ l.length := by omega
  have g1 : (l.length : Int) < 77 := by omega
  have H1 := Lib.hid h1
  have HK := Lib.hid hk
  clear h1 hk
  go_enter Tryd.func60, Tryd.ntmps60
  go_wp2
  go_region
  have h2 := H1.out.put 61 (by omega) (3 + l.length) rfl 61 rfl
  obtain ⟨w2, hw2⟩ : ∃ w2, w2 = (w.setCell ⟨bw, 3 + l.length, none⟩ (.int .u8 61)).drew := ⟨_, rfl⟩
  rw [← hw2]
  have h2 : Wraw w2 bw bin (wio bb) l.length (l ++ [61]) s.cr := by rw [hw2]; exact h2
  have hk2 : Keep (fun k => k = bw) w w2 := by rw [hw2]; exact (HK.out.setCell _ rfl _).drew
  clear hw2 c2 f2 d0 f3
  have c2 := h2.c2
  have f2 := h2.fr 2
  have hfl := crlf_on H.out (hk2.setCell ⟨bw, 2, none⟩ rfl (.int .i64 (l.length + 1))) (h2.seti (l.length + 1)) (by simp) (by simp; omega) (by omega)
  rw [List.append_assoc, show ([61] ++ [13, 10] : List UInt8) = [61, 13, 10] from rfl] at hfl
  have HF := Lib.hid hfl
  clear h2 hk2 hfl
  go_wp2_with (go_at_call 59; refine HF.out.mono ?_; rintro e w' ⟨rfl, hg⟩)
  go_ret
  exact ⟨rfl, hg⟩

end
end Go.Proofs.YthfkgancjpdodaaDoor

namespace Go.Proofs.YthfkgancjpdodaaDoor
open Go.RowKit Qp

theorem idx_hex : ∀ (n : Nat) (_ : n < 16) (W : World), (Instr.index 9 (.string ⟨#[48, 49, 50, 51, 52, 53, 54, 55, 56, 57, 65, 66, 67, 68, 69, 70]⟩) (.int .u8 n)).run Tryd.prog W = .ok (.int .u8 (hexU (UInt8.ofNat n)).toNat) W
  | 0, _, W => by kernel_rfl
  | 1, _, W => by kernel_rfl
  | 2, _, W => by kernel_rfl
  | 3, _, W => by kernel_rfl
  | 4, _, W => by kernel_rfl
  | 5, _, W => by kernel_rfl
  | 6, _, W => by kernel_rfl
  | 7, _, W => by kernel_rfl
  | 8, _, W => by kernel_rfl
  | 9, _, W => by kernel_rfl
  | 10, _, W => by kernel_rfl
  | 11, _, W => by kernel_rfl
  | 12, _, W => by kernel_rfl
  | 13, _, W => by kernel_rfl
  | 14, _, W => by kernel_rfl
  | 15, _, W => by kernel_rfl
  | n + 16, h, _ => absurd h (by omega)
theorem hi_ofNat : ∀ b : UInt8, UInt8.ofNat (b.toNat / 16) = b >>> 4 := u8_all (by decide +kernel)
theorem lo_ofNat : ∀ b : UInt8, UInt8.ofNat (b.toNat % 16) = b &&& 15 := u8_all (by decide +kernel)

section
variable {w : World} {bw bb : Nat} {ro : Option Nat} {bin : Bool} {s : WS}

set_option maxRecDepth 100000 in
set_option maxHeartbeats 3200000 in
theorem enc_soft (b : UInt8) (h : IsWr w bw bb ro bin s) (hl : s.line.length ≤ 75) (hlim : s.out.length + 300 ≤ 140737488355328) (h72 : 72 < s.line.length) :
    Calls Tryd.prog 53 #[.pointer (some ⟨bw, 0, none⟩), .int .u8 b.toNat] w (Wpost bw bb ro bin (s.enc b) w) := by
    have h0 := h.raw
    have hb0 : (0 : Int) ≤ b.toNat := by omega
    have hb1 : (b.toNat : Int) ≤ 255 := by have := b.toNat_lt; omega
    have HS := Lib.hid (soft_on h hl (by omega))
    have c2 := h0.c2
    have g0 : (0 : Int) ≤ s.line.length := by omega
    have g1 : (72 : Int) < s.line.length := by omega
    have g2 : (s.line.length : Int) ≤ 75 := by omega
    have H := Lib.hid h
    have H72 := Lib.hid h72
    clear h h0 hl h72
    go_enter Tryd.func53, Tryd.ntmps53
    go_wp2_with (go_at_call 60; refine HS.out.mono ?_; rintro e w1 ⟨rfl, hg⟩)
    obtain ⟨ro1, hw1, hm1, hkk1⟩ := hg
    have h1 : Wraw w1 bw bin (wio bb) ([] : List UInt8).length [] s.cr := hw1.raw
    have hfin : ∀ w2, Keep (fun k => k = bw) w1 w2 → Wraw w2 bw bin (wio bb) ([] ++ escB b).length ([] ++ escB b) s.cr → Wgo bw bb ro bin (s.enc b) w w2 := by
      intro w2 hk h2
      refine Wgo.trans hm1 hkk1 ⟨ro1, ⟨?_, ?_, hw1.ne, hw1.nr⟩, .inl rfl, hk.mono (fun _ _ e => .inl e)⟩
      · unfold WS.enc; rw [if_pos H72.out]; exact h2
      · unfold WS.enc; rw [if_pos H72.out]; exact hw1.buf_own hk
    have HFIN0 := Lib.hid hfin
    obtain ⟨l, hll⟩ : ∃ l : List UInt8, l = [] := ⟨_, rfl⟩
    have hl72 : l.length ≤ 72 := by rw [hll]; simp
    have HFIN : Hid (∀ w2, Keep (fun k => k = bw) w1 w2 → Wraw w2 bw bin (wio bb) (l ++ escB b).length (l ++ escB b) s.cr → Wgo bw bb ro bin (s.enc b) w w2) := by rw [hll]; exact HFIN0
    rw [← hll] at h1
    clear hfin hll HFIN0 hw1 hm1 hkk1 c2 g0 g1 g2
    have hk1 : Keep (fun k => k = bw) w1 w1 := Keep.refl _ _
    have c2 := h1.c2
    have f2 := h1.fr 2
    obtain ⟨v0, d0⟩ := h1.cany l.length (by omega)
    have f3 := h1.fr (3 + l.length)
    have g0 : (0 : Int) ≤ l.length := by omega
    have g1 : (l.length : Int) ≤ 72 := by omega
    obtain ⟨p1, hp1⟩ : ∃ c, c = hexU (b >>> 4) := ⟨_, rfl⟩
    obtain ⟨p2, hp2⟩ : ∃ c, c = hexU (b &&& 15) := ⟨_, rfl⟩
    have hix1 : ∀ W, (Instr.index 9 (.string ⟨#[48, 49, 50, 51, 52, 53, 54, 55, 56, 57, 65, 66, 67, 68, 69, 70]⟩) (.int .u8 ((b.toNat : Int) / 16))).run Tryd.prog W = .ok (.int .u8 p1.toNat) W := by
      intro W
      rw [show (b.toNat : Int) / 16 = ((b.toNat / 16 : Nat) : Int) by omega, idx_hex _ (by have := b.toNat_lt; omega), hi_ofNat, hp1]
    have hix2 : ∀ W, (Instr.index 9 (.string ⟨#[48, 49, 50, 51, 52, 53, 54, 55, 56, 57, 65, 66, 67, 68, 69, 70]⟩) (.int .u8 ((b.toNat : Int) % 16))).run Tryd.prog W = .ok (.int .u8 p2.toNat) W := by
      intro W
      rw [show (b.toNat : Int) % 16 = ((b.toNat % 16 : Nat) : Int) by omega, idx_hex _ (by omega), lo_ofNat, hp2]
    have HP := Lib.hid (show escB b = [61, p1, p2] by rw [hp1, hp2]; rfl)
    clear hp1 hp2
    have H1 := Lib.hid h1
    have HK := Lib.hid hk1
    clear h1 hk1
    go_region
    have h2 := H1.out.put 61 (by omega) (3 + l.length) rfl 61 rfl
    obtain ⟨w2, hw2⟩ : ∃ w2, w2 = (w1.setCell ⟨bw, 3 + l.length, none⟩ (.int .u8 61)).drew := ⟨_, rfl⟩
    rw [← hw2]
    have h2 : Wraw w2 bw bin (wio bb) l.length (l ++ [61]) s.cr := by rw [hw2]; exact h2
    have hk2 : Keep (fun k => k = bw) w1 w2 := by rw [hw2]; exact (HK.out.setCell _ rfl _).drew
    clear hw2 c2 f2 d0 f3
    have c2 := h2.c2
    have f2 := h2.fr 2
    obtain ⟨v1, d1⟩ := h2.cany (l.length + 1) (by omega)
    have f3 := h2.fr (3 + (l.length + 1))
    have H2 := Lib.hid h2
    have HK2 := Lib.hid hk2
    clear h2 hk2
    go_wp2
    go_region
    have h3 := H2.out.put p1 (by simp; omega) (3 + (l.length + 1)) (by simp) p1.toNat rfl
    obtain ⟨w3, hw3⟩ : ∃ w3, w3 = (w2.setCell ⟨bw, 3 + (l.length + 1), none⟩ (.int .u8 p1.toNat)).drew := ⟨_, rfl⟩
    rw [← hw3]
    have h3 : Wraw w3 bw bin (wio bb) l.length (l ++ [61] ++ [p1]) s.cr := by rw [hw3]; exact h3
    have hk3 : Keep (fun k => k = bw) w1 w3 := by rw [hw3]; exact (HK2.out.setCell _ rfl _).drew
    clear hw3 c2 f2 d1 f3 H2 HK2
    have c2 := h3.c2
    have f2 := h3.fr 2
    obtain ⟨v2, d2⟩ := h3.cany (l.length + 2) (by omega)
    have f3 := h3.fr (3 + (l.length + 2))
    have H3 := Lib.hid h3
    have HK3 := Lib.hid hk3
    clear h3 hk3
    go_wp2
    go_region
    have h4 := H3.out.put p2 (by simp; omega) (3 + (l.length + 2)) (by simp) p2.toNat rfl
    obtain ⟨w4, hw4⟩ : ∃ w4, w4 = (w3.setCell ⟨bw, 3 + (l.length + 2), none⟩ (.int .u8 p2.toNat)).drew := ⟨_, rfl⟩
    rw [← hw4]
    have h4 : Wraw w4 bw bin (wio bb) l.length (l ++ [61] ++ [p1] ++ [p2]) s.cr := by rw [hw4]; exact h4
    have hk4 : Keep (fun k => k = bw) w1 w4 := by rw [hw4]; exact (HK3.out.setCell _ rfl _).drew
    clear hw4 c2 f2 d2 f3 H3 HK3
    have c2 := h4.c2
    have f2 := h4.fr 2
    have hend := HFIN.out (w4.setCell ⟨bw, 2, none⟩ (.int .i64 (l.length + 3))) (hk4.setCell _ rfl _) (by
      have := h4.seti (l.length + 3)
      rw [HP.out]
      simpa using this)
    have HE := Lib.hid hend
    clear h4 hk4 hend
    go_wp2
    go_ret
    exact ⟨rfl, HE.out⟩

set_option maxRecDepth 100000 in
set_option maxHeartbeats 3200000 in
theorem enc_room (b : UInt8) (h : IsWr w bw bb ro bin s) (h72 : ¬ 72 < s.line.length) :
    Calls Tryd.prog 53 #[.pointer (some ⟨bw, 0, none⟩), .int .u8 b.toNat] w (Wpost bw bb ro bin (s.enc b) w) := by
    have h1 := h.raw
    have hb0 : (0 : Int) ≤ b.toNat := by omega
    have hb1 : (b.toNat : Int) ≤ 255 := by have := b.toNat_lt; omega
    have hfin : ∀ w2, Keep (fun k => k = bw) w w2 → Wraw w2 bw bin (wio bb) (s.line ++ escB b).length (s.line ++ escB b) s.cr → Wgo bw bb ro bin (s.enc b) w w2 := by
      intro w2 hk h2
      refine ⟨ro, ⟨?_, ?_, h.ne, h.nr⟩, .inl rfl, hk.mono (fun _ _ e => .inl e)⟩
      · unfold WS.enc; rw [if_neg h72]; exact h2
      · unfold WS.enc; rw [if_neg h72]; exact h.buf_own hk
    obtain ⟨l, hll⟩ : ∃ l, l = s.line := ⟨_, rfl⟩
    rw [← hll] at h1 h72 hfin
    have HFIN := Lib.hid hfin
    clear h hll hfin
    obtain ⟨w1, hw1⟩ : ∃ w1, w1 = w := ⟨_, rfl⟩
    rw [← hw1] at h1 HFIN ⊢
    clear hw1
    have hl72 : l.length ≤ 72 := by omega
    have c2 := h1.c2
    have g0 : (0 : Int) ≤ l.length := by omega
    have g1 : (l.length : Int) ≤ 72 := by omega
    clear h72
    go_enter Tryd.func53, Tryd.ntmps53
    go_wp2
    clear c2 g0 g1
    have hk1 : Keep (fun k => k = bw) w1 w1 := Keep.refl _ _
    have c2 := h1.c2
    have f2 := h1.fr 2
    obtain ⟨v0, d0⟩ := h1.cany l.length (by omega)
    have f3 := h1.fr (3 + l.length)
    have g0 : (0 : Int) ≤ l.length := by omega
    have g1 : (l.length : Int) ≤ 72 := by omega
    obtain ⟨p1, hp1⟩ : ∃ c, c = hexU (b >>> 4) := ⟨_, rfl⟩
    obtain ⟨p2, hp2⟩ : ∃ c, c = hexU (b &&& 15) := ⟨_, rfl⟩
    have hix1 : ∀ W, (Instr.index 9 (.string ⟨#[48, 49, 50, 51, 52, 53, 54, 55, 56, 57, 65, 66, 67, 68, 69, 70]⟩) (.int .u8 ((b.toNat : Int) / 16))).run Tryd.prog W = .ok (.int .u8 p1.toNat) W := by
      intro W
      rw [show (b.toNat : Int) / 16 = ((b.toNat / 16 : Nat) : Int) by omega, idx_hex _ (by have := b.toNat_lt; omega), hi_ofNat, hp1]
    have hix2 : ∀ W, (Instr.index 9 (.string ⟨#[48, 49, 50, 51, 52, 53, 54, 55, 56, 57, 65, 66, 67, 68, 69, 70]⟩) (.int .u8 ((b.toNat : Int) % 16))).run Tryd.prog W = .ok (.int .u8 p2.toNat) W := by
      intro W
      rw [show (b.toNat : Int) % 16 = ((b.toNat % 16 : Nat) : Int) by omega, idx_hex _ (by omega), lo_ofNat, hp2]
    have HP := Lib.hid (show escB b = [61, p1, p2] by rw [hp1, hp2]; rfl)
    clear hp1 hp2
    have H1 := Lib.hid h1
    have HK := Lib.hid hk1
    clear h1 hk1
    go_region
    have h2 := H1.out.put 61 (by omega) (3 + l.length) rfl 61 rfl
    obtain ⟨w2, hw2⟩ : ∃ w2, w2 = (w1.setCell ⟨bw, 3 + l.length, none⟩ (.int .u8 61)).drew := ⟨_, rfl⟩
    rw [← hw2]
    have h2 : Wraw w2 bw bin (wio bb) l.length (l ++ [61]) s.cr := by rw [hw2]; exact h2
    have hk2 : Keep (fun k => k = bw) w1 w2 := by rw [hw2]; exact (HK.out.setCell _ rfl _).drew
    clear hw2 c2 f2 d0 f3
    have c2 := h2.c2
    have f2 := h2.fr 2
    obtain ⟨v1, d1⟩ := h2.cany (l.length + 1) (by omega)
    have f3 := h2.fr (3 + (l.length + 1))
    have H2 := Lib.hid h2
    have HK2 := Lib.hid hk2
    clear h2 hk2
    go_wp2
    go_region
    have h3 := H2.out.put p1 (by simp; omega) (3 + (l.length + 1)) (by simp) p1.toNat rfl
    obtain ⟨w3, hw3⟩ : ∃ w3, w3 = (w2.setCell ⟨bw, 3 + (l.length + 1), none⟩ (.int .u8 p1.toNat)).drew := ⟨_, rfl⟩
    rw [← hw3]
    have h3 : Wraw w3 bw bin (wio bb) l.length (l ++ [61] ++ [p1]) s.cr := by rw [hw3]; exact h3
    have hk3 : Keep (fun k => k = bw) w1 w3 := by rw [hw3]; exact (HK2.out.setCell _ rfl _).drew
    clear hw3 c2 f2 d1 f3 H2 HK2
    have c2 := h3.c2
    have f2 := h3.fr 2
    obtain ⟨v2, d2⟩ := h3.cany (l.length + 2) (by omega)
    have f3 := h3.fr (3 + (l.length + 2))
    have H3 := Lib.hid h3
    have HK3 := Lib.hid hk3
    clear h3 hk3
    go_wp2
    go_region
    have h4 := H3.out.put p2 (by simp; omega) (3 + (l.length + 2)) (by simp) p2.toNat rfl
    obtain ⟨w4, hw4⟩ : ∃ w4, w4 = (w3.setCell ⟨bw, 3 + (l.length + 2), none⟩ (.int .u8 p2.toNat)).drew := ⟨_, rfl⟩
    rw [← hw4]
    have h4 : Wraw w4 bw bin (wio bb) l.length (l ++ [61] ++ [p1] ++ [p2]) s.cr := by rw [hw4]; exact h4
    have hk4 : Keep (fun k => k = bw) w1 w4 := by rw [hw4]; exact (HK3.out.setCell _ rfl _).drew
    clear hw4 c2 f2 d2 f3 H3 HK3
    have c2 := h4.c2
    have f2 := h4.fr 2
    have hend := HFIN.out (w4.setCell ⟨bw, 2, none⟩ (.int .i64 (l.length + 3))) (hk4.setCell _ rfl _) (by
      have := h4.seti (l.length + 3)
      rw [HP.out]
      simpa using this)
    have HE := Lib.hid hend
    clear h4 hk4 hend
    go_wp2
    go_ret
    exact ⟨rfl, HE.out⟩

theorem enc_any (b : UInt8) (h : IsWr w bw bb ro bin s) (hl : s.line.length ≤ 75) (hlim : s.out.length + 300 ≤ 140737488355328) :
    Calls Tryd.prog 53 #[.pointer (some ⟨bw, 0, none⟩), .int .u8 b.toNat] w (Wpost bw bb ro bin (s.enc b) w) := by
  by_cases h72 : 72 < s.line.length
  · exact enc_soft b h hl hlim h72
  · exact enc_room b h h72

theorem IsWr.drew (h : IsWr w bw bb ro bin s) : IsWr w.drew bw bb ro bin s := ⟨h.raw, h.buf, h.ne, h.nr⟩
/-- checkLastByte, where the line is empty or ends with no blank -/
theorem last_none (h : IsWr w bw bb ro bin s) (he : s.line = []) :
    Calls Tryd.prog 54 #[.pointer (some ⟨bw, 0, none⟩)] w (Wpost bw bb ro bin s.last w) := by
  have c2 := h.raw.c2
  have hl : s.last = s := by unfold WS.last; rw [he]; rfl
  rw [hl]
  rw [he] at c2
  have c2 : w.cell? ⟨bw, 2, none⟩ = some (.int .i64 0) := c2
  have H := Lib.hid h
  clear h hl he
  go_enter Tryd.func54, Tryd.ntmps54
  go_wp2
  go_ret
  exact ⟨rfl, ro, H.out, .inl rfl, Keep.refl _ _⟩

set_option maxRecDepth 100000 in
set_option maxHeartbeats 1600000 in
theorem last_some (h : IsWr w bw bb ro bin s) (r : List UInt8) (b : UInt8) (he : s.line = r ++ [b]) (hl : s.line.length ≤ 75) (hlim : s.out.length + 300 ≤ 140737488355328) :
    Calls Tryd.prog 54 #[.pointer (some ⟨bw, 0, none⟩)] w (Wpost bw bb ro bin s.last w) := by
  have hlast : s.last = if isWs b then ({ s with line := r } : WS).enc b else s := by
    unfold WS.last; rw [he]; simp
  have h1 := h.raw
  have c2 := h1.c2
  have f2 := h1.fr 2
  have d0 := h1.cline r.length (by rw [he]; simp)
  have hgd : s.line.getD r.length 0 = b := by rw [he]; simp
  rw [hgd] at d0
  have hlen : s.line.length = r.length + 1 := by rw [he]; simp
  rw [hlen] at c2
  have c2 : w.cell? ⟨bw, 2, none⟩ = some (.int .i64 (r.length + 1)) := by simpa using c2
  have g0 : (0 : Int) ≤ r.length := by omega
  have g1 : (r.length : Int) ≤ 74 := by omega
  have hb0 : (0 : Int) ≤ b.toNat := by omega
  have hb1 : (b.toNat : Int) ≤ 255 := by have := b.toNat_lt; omega
  have hz : (((r.length : Int) + 1) == 0) = false := by simp; omega
  -- the Writer behind 'w.i--'
  have hk : Keep (fun k => k = bw) w (w.setCell ⟨bw, 2, none⟩ (.int .i64 r.length)) := (Keep.refl (fun k => k = bw) w).setCell _ rfl _
  have h2 : IsWr (w.setCell ⟨bw, 2, none⟩ (.int .i64 r.length)) bw bb ro bin { s with line := r } := by
    refine ⟨?_, h.buf_own hk, h.ne, h.nr⟩
    have := (h1.seti r.length).cut r.length
    rw [he, List.take_left' rfl] at this
    exact this
  have henc := fun (w1 : World) (h1 : IsWr w1 bw bb ro bin { s with line := r }) => enc_any b h1 (by show r.length ≤ 75; omega) hlim
  rw [hlast]
  have H := Lib.hid h
  have HK := Lib.hid hk
  have H2 := Lib.hid h2
  have HE := Lib.hid henc
  clear h h1 he hgd hlen hlast hk h2 henc hl
  by_cases hw : isWs b = true
  · rw [if_pos hw]
    go_enter Tryd.func54, Tryd.ntmps54
    go_wp2
    go_region
    go_wp2_with (go_at_call 51; refine (isWs_any b _).mono ?_; rintro e w' ⟨rfl, rfl⟩; rw [hw])
    go_wp2_with fail
    refine (HE.out _ H2.out.drew).mono ?_
    rintro e w' ⟨rfl, hg⟩
    go_wp2
    go_ret
    exact ⟨rfl, Wgo.own (HK.out.drew) hg⟩
  · have hw : isWs b = false := by simpa using hw
    rw [if_neg (by rw [hw]; simp)]
    go_enter Tryd.func54, Tryd.ntmps54
    go_wp2
    go_region
    go_wp2_with (go_at_call 51; refine (isWs_any b _).mono ?_; rintro e w' ⟨rfl, rfl⟩; rw [hw])
    go_ret
    exact ⟨rfl, ro, H.out.drew, .inl rfl, (Keep.refl _ _).drew⟩

theorem last_any (h : IsWr w bw bb ro bin s) (hl : s.line.length ≤ 75) (hlim : s.out.length + 300 ≤ 140737488355328) :
    Calls Tryd.prog 54 #[.pointer (some ⟨bw, 0, none⟩)] w (Wpost bw bb ro bin s.last w) := by
  rcases List.eq_nil_or_concat s.line with e | ⟨r, b, e⟩
  · exact last_none h e
  · rw [List.concat_eq_append] at e
    exact last_some h r b e hl hlim

theorem last_len (hl : s.line.length ≤ 75) : s.last.line.length ≤ 78 ∧ s.last.out.length ≤ s.out.length + 100 := by
  unfold WS.last
  split
  · split
    · unfold WS.enc WS.soft
      split <;> simp [escB] <;> omega
    · omega
  · omega

set_option maxRecDepth 100000 in
set_option maxHeartbeats 1600000 in
theorem close_any (h : IsWr w bw bb ro bin s) (hl : s.line.length ≤ 75) (hlim : s.out.length + 400 ≤ 140737488355328) :
    Calls Tryd.prog 45 #[.pointer (some ⟨bw, 0, none⟩)] w (Wpost bw bb ro bin ⟨s.fin, [], s.last.cr⟩ w) := by
  have HL := Lib.hid (last_any h hl (by omega))
  have hll := last_len hl
  clear h hl
  go_enter Tryd.func45, Tryd.ntmps45
  go_wp2_with (go_at_call 54; refine HL.out.mono ?_; rintro e w1 ⟨rfl, ro1, h1, hm1, hk1⟩; have HF := Lib.hid (flush_raw h1.raw h1.buf h1.ne h1.nr (by omega)); have H1 := Lib.hid hm1; have H2 := Lib.hid hk1; clear h1 hm1 hk1)
  go_wp2_with fail
  refine HF.out.mono ?_
  rintro e w2 ⟨rfl, hg⟩
  go_wp2
  go_ret
  exact ⟨rfl, Wgo.trans H1.out H2.out hg⟩

end
end Go.Proofs.YthfkgancjpdodaaDoor

namespace Go.Proofs.YthfkgancjpdodaaDoor
open Go.RowKit Qp

/-- the Writer behind k bytes -/
def WrRel (f : WS → UInt8 → WS) (w : World) (bw bb : Nat) (ro : Option Nat) (bin : Bool) (s : WS) (cs : List UInt8) (k : Nat) (wr : World) : Prop :=
  Wgo bw bb ro bin ((cs.take k).foldl f s) w wr

theorem enc_len (s : WS) (b : UInt8) (hl : s.line.length ≤ 75) : (s.enc b).line.length ≤ 75 ∧ (s.enc b).out.length ≤ s.out.length + 100 := by
  unfold WS.enc WS.soft
  split <;> simp [escB] <;> omega
theorem last_len' (s : WS) (hl : s.line.length ≤ 75) : s.last.line.length ≤ 75 ∧ s.last.out.length ≤ s.out.length + 100 := by
  unfold WS.last
  split
  · split
    · exact enc_len _ _ (by simp; omega)
    · omega
  · omega
theorem wr_len (s : WS) (b : UInt8) (hl : s.line.length ≤ 75) : (s.wr b).line.length ≤ 75 ∧ (s.wr b).out.length ≤ s.out.length + 200 := by
  unfold WS.wr
  split
  · split
    · exact ⟨hl, by simp⟩
    · have h1 := last_len' { s with cr := s.cr || b == 13 } hl
      unfold WS.crlf
      simp
      have h2 := h1.2
      simp at h2
      omega
  · unfold WS.soft
    split
    · simp; omega
    · rename_i h; simp at h; simp; omega
theorem step_len (bin : Bool) (s : WS) (b : UInt8) (hl : s.line.length ≤ 75) : (s.step bin b).line.length ≤ 75 ∧ (s.step bin b).out.length ≤ s.out.length + 200 := by
  unfold WS.step
  split
  · exact wr_len s b hl
  · have := enc_len s b hl; omega
theorem fold_len {f : WS → UInt8 → WS} (hf : ∀ s b, s.line.length ≤ 75 → (f s b).line.length ≤ 75 ∧ (f s b).out.length ≤ s.out.length + 200) (cs : List UInt8) : ∀ s : WS, s.line.length ≤ 75 →
    (cs.foldl f s).line.length ≤ 75 ∧ (cs.foldl f s).out.length ≤ s.out.length + 200 * cs.length := by
  induction cs with
  | nil => intro s h; simp; omega
  | cons b r ih =>
    intro s h
    have h1 := hf s b h
    have h2 := ih _ h1.1
    simp only [List.foldl_cons, List.length_cons]
    omega
theorem take_snoc {cs : List UInt8} {k : Nat} (h : k < cs.length) : cs.take (k + 1) = cs.take k ++ [cs.getD k 0] := by
  rw [List.take_succ_eq_append_getElem h]; simp [h]

section
variable {w : World} {bw bb : Nat} {ro : Option Nat} {bin : Bool} {s : WS}

/-- 'w.cr = ..' -/
theorem IsWr.setcr (h : IsWr w bw bb ro bin s) (c : Bool) : IsWr (w.setCell ⟨bw, 81, none⟩ (.bool c)) bw bb ro bin { s with cr := c } ∧ Keep (fun k => k = bw) w (w.setCell ⟨bw, 81, none⟩ (.bool c)) := by
  have hk : Keep (fun k => k = bw) w (w.setCell ⟨bw, 81, none⟩ (.bool c)) := (Keep.refl (fun k => k = bw) w).setCell _ rfl _
  exact ⟨⟨h.raw.setcr c, h.buf_own hk, h.ne, h.nr⟩, hk⟩

set_option maxRecDepth 100000 in
set_option maxHeartbeats 6400000 in
theorem write_any (pb po c : Nat) (cs : List UInt8) (h : IsWr w bw bb ro bin s) (hl : s.line.length ≤ 75) (hlim : s.out.length + 200 * cs.length + 1000 ≤ 140737488355328)
    (hp : ∀ k, k < cs.length → w.cell? ⟨pb, po + k, none⟩ = some (.int .u8 (cs.getD k 0).toNat)) (hpw : pb ≠ bw) (hpb : pb ≠ bb) (hpr : ro ≠ some pb) :
    Calls Tryd.prog 52 #[.pointer (some ⟨bw, 0, none⟩), .slice (some ⟨pb, po, none⟩) cs.length c] w (Wpost bw bb ro bin (cs.foldl WS.wr s) w) := by
  have hrel0 : WrRel WS.wr w bw bb ro bin s cs 0 w := ⟨ro, h, .inl rfl, Keep.refl _ _⟩
  have hcl : cs.length ≤ 9223372036854775807 := by omega
  have HL := Lib.hid hl
  have HP := Lib.hid hp
  have HLIM := Lib.hid hlim
  clear h hl hp hlim
  go_enter Tryd.func52, Tryd.ntmps52
  go_wp2
  go_loopw [12] (fun i wr => ∃ k : Nat, k ≤ cs.length ∧ i = .int .i64 k ∧ WrRel WS.wr w bw bb ro bin s cs k wr) (fun i _ => cs.length - (intOf i).toNat)
  case atStart => exact ⟨0, Nat.zero_le _, rfl, hrel0⟩
  case round =>
    obtain ⟨k, hk, rfl, hrel⟩ := hrel
    clear hrel0
    by_cases hlt : k < cs.length
    · have htk := take_snoc hlt
      obtain ⟨b, hb⟩ : ∃ b, b = cs.getD k 0 := ⟨_, rfl⟩
      obtain ⟨s1, hs1⟩ : ∃ s1, s1 = (cs.take k).foldl WS.wr s := ⟨_, rfl⟩
      have hlen := fold_len (f := WS.wr) wr_len (cs.take k) s HL.out
      rw [← hs1] at hlen
      have hlen1 := hlen.1
      have hlen2 : s1.out.length + 1000 ≤ 140737488355328 := by
        have h1 := hlen.2
        have h2 := HLIM.out
        have h3 : (cs.take k).length ≤ cs.length := by rw [List.length_take]; omega
        have h4 : 200 * (cs.take k).length ≤ 200 * cs.length := Nat.mul_le_mul_left _ h3
        omega
      have hc : wr.cell? ⟨pb, po + k, none⟩ = some (.int .u8 b.toNat) := by
        obtain ⟨ro', _, _, hkk⟩ := hrel
        rw [hb]
        exact hkk.cell (by rintro (e | e | e); exact hpw e; exact hpb e; exact hpr e) (HP.out k hlt)
      unfold WrRel at hrel
      rw [← hs1] at hrel
      obtain ⟨ro1, hw1, hm1, hk1⟩ := hrel
      have hnext : ∀ w2, Wgo bw bb ro1 bin (s1.wr b) wr w2 → WrRel WS.wr w bw bb ro bin s cs (k + 1) w2 := by
        intro w2 hg
        unfold WrRel
        rw [htk, List.foldl_append, ← hs1, ← hb]
        exact Wgo.trans hm1 hk1 hg
      have HN := Lib.hid hnext
      have HW1 := Lib.hid hw1
      obtain ⟨b0, b1⟩ := byteFacts b
      obtain ⟨x, hx⟩ : ∃ x : Int, x = b.toNat := ⟨_, rfl⟩
      rw [← hx] at hc b0 b1
      have hcr := hw1.raw.ccr
      have fcr := hw1.raw.fr 81
      have c2 := hw1.raw.c2
      clear htk hb hs1 hlen hnext hw1
      by_cases hnl : x = 10 ∨ x = 13
      · -- a byte of a line's end
        by_cases hA : x = 10 ∧ s1.cr = true
        · obtain ⟨rfl, hcrt⟩ := hA
          have hb10 : b = 10 := (u8_eq 10 (by decide)).2 hx.symm
          obtain ⟨hset, hkset⟩ := HW1.out.setcr false
          have hend := HN.out (wr.setCell ⟨bw, 81, none⟩ (.bool false)) ⟨ro1, by
            have : s1.wr b = { s1 with cr := false } := by unfold WS.wr; rw [hb10, hcrt]; rfl
            rw [this]; exact hset, .inl rfl, hkset.mono (fun _ _ e => .inl e)⟩
          rw [hcrt] at hcr
          have HE := Lib.hid hend
          clear hset hkset hend hcrt hx hb10 hnl
          go_wp2
          go_roundw
          case rel => exact ⟨k + 1, by omega, by go_num, HE.out⟩
          case measure => simp [intOf]; omega
        · -- the line is written
          have hwr : s1.wr b = (({ s1 with cr := s1.cr || b == 13 } : WS).last).crlf := by
            unfold WS.wr
            rw [if_pos (by
              rcases hnl with h | h
              · simp [(u8_eq 10 (by decide)).2 (hx.symm.trans h)]
              · simp [(u8_eq 13 (by decide)).2 (hx.symm.trans h)]), if_neg (by
              intro h
              simp at h
              exact hA ⟨by rw [hx, h.2]; rfl, h.1⟩)]
          have go : ∀ w2, IsWr w2 bw bb ro1 bin { s1 with cr := s1.cr || b == 13 } → Keep (fun k => k = bw) wr w2 →
              Calls Tryd.prog 54 #[.pointer (some ⟨bw, 0, none⟩)] w2 (fun e w3 => e = .returned .nilIface ∧
                Calls Tryd.prog 59 #[.pointer (some ⟨bw, 0, none⟩)] w3 (fun e w4 => e = .returned .nilIface ∧ WrRel WS.wr w bw bb ro bin s cs (k + 1) w4)) := by
            intro w2 h2 hk2
            have hll := last_len' { s1 with cr := s1.cr || b == 13 } hlen1
            refine (last_any h2 hlen1 (by show s1.out.length + 300 ≤ _; omega)).mono ?_
            rintro e w3 ⟨rfl, ro2, h3, hm3, hk3⟩
            refine ⟨rfl, ?_⟩
            refine (crlf_on h3 (Keep.refl _ _) h3.raw rfl (by omega) (by have := hll.2; show _ + 100 ≤ _; simp at this; omega)).mono ?_
            rintro e w4 ⟨rfl, hg4⟩
            refine ⟨rfl, HN.out w4 ?_⟩
            rw [hwr]
            exact Wgo.own hk2 (Wgo.trans hm3 hk3 hg4)
          have HGO := Lib.hid go
          have HA := Lib.hid hA
          clear go hwr hA
          rcases hnl with rfl | rfl
          · -- LF
            have hcrf : s1.cr = false := by
              have := HA.out
              simpa using this
            have hst : IsWr wr bw bb ro1 bin { s1 with cr := s1.cr || b == 13 } := by
              have hb10 : b = 10 := (u8_eq 10 (by decide)).2 hx.symm
              have : ({ s1 with cr := s1.cr || b == 13 } : WS) = s1 := by rw [hb10, hcrf, ← hcrf]; simp
              rw [this]; exact HW1.out
            have HG := Lib.hid (HGO.out wr hst (Keep.refl _ _))
            rw [hcrf] at hcr
            clear hst hcrf hx
            go_wp2_with (first
              | (go_at_call 54; refine HG.out.mono ?_; rintro e w3 ⟨rfl, h3⟩; have H3 := Lib.hid h3; clear h3)
              | (go_at_call 59; refine H3.out.mono ?_; rintro e w4 ⟨rfl, h4⟩; have H4 := Lib.hid h4; clear h4))
            go_roundw
            case rel => exact ⟨k + 1, by omega, by go_num, H4.out⟩
            case measure => simp [intOf]; omega
          · -- CR
            have hb13 : b = 13 := (u8_eq 13 (by decide)).2 hx.symm
            obtain ⟨hset, hkset⟩ := HW1.out.setcr true
            have hst : IsWr (wr.setCell ⟨bw, 81, none⟩ (.bool true)) bw bb ro1 bin { s1 with cr := s1.cr || b == 13 } := by
              have : ({ s1 with cr := s1.cr || b == 13 } : WS) = { s1 with cr := true } := by rw [hb13]; simp
              rw [this]; exact hset
            have HG := Lib.hid (HGO.out _ hst hkset)
            clear hst hset hkset hx hb13
            go_wp2_with (first
              | (go_at_call 54; refine HG.out.mono ?_; rintro e w3 ⟨rfl, h3⟩; have H3 := Lib.hid h3; clear h3)
              | (go_at_call 59; refine H3.out.mono ?_; rintro e w4 ⟨rfl, h4⟩; have H4 := Lib.hid h4; clear h4))
            all_goals (
              go_roundw
              case rel => exact ⟨k + 1, by omega, by go_num, H4.out⟩
              case measure => simp [intOf]; omega)
      · -- another byte
        have hx10 : ¬ x = 10 := fun h => hnl (.inl h)
        have hx13 : ¬ x = 13 := fun h => hnl (.inr h)
        have e10 : (x == 10) = false := by simpa using hx10
        have e13 : (x == 13) = false := by simpa using hx13
        have hwr : s1.wr b = if s1.line.length == 75 then { s1.soft with line := [b], cr := false } else { s1 with line := s1.line ++ [b], cr := false } := by
          unfold WS.wr
          rw [if_neg]
          simp
          exact ⟨fun h => hx10 (by rw [hx, h]; rfl), fun h => hx13 (by rw [hx, h]; rfl)⟩
        have HX := Lib.hid hx
        clear hx hnl
        by_cases h75 : s1.line.length = 75
        · have HS := Lib.hid (soft_on HW1.out hlen1 (by omega))
          have hwr75 : s1.wr b = { s1.soft with line := [b], cr := false } := by rw [hwr, if_pos (by simpa using h75)]
          have HWR := Lib.hid hwr75
          rw [h75] at c2
          have c2 : wr.cell? ⟨bw, 2, none⟩ = some (.int .i64 75) := c2
          clear hwr hwr75 h75 hcr fcr
          go_wp2_with fail
          refine HS.out.mono ?_
          rintro e w1 ⟨rfl, hg⟩
          have HG := Lib.hid hg
          clear hg c2 hc
          go_wp2
          obtain ⟨ro2, hw2, hm2, hk2⟩ := HG.out
          obtain ⟨l, hll⟩ : ∃ l : List UInt8, l = [] := ⟨_, rfl⟩
          obtain ⟨cr1, hcr1⟩ : ∃ c, c = s1.soft.cr := ⟨_, rfl⟩
          have h1 : Wraw w1 bw bin (wio bb) l.length l cr1 := by rw [hll, hcr1]; exact hw2.raw
          have hl74 : l.length ≤ 74 := by rw [hll]; simp
          have HFIN : Hid (∀ w2, Keep (fun k => k = bw) w1 w2 → Wraw w2 bw bin (wio bb) (l ++ [b]).length (l ++ [b]) false → WrRel WS.wr w bw bb ro bin s cs (k + 1) w2) := by
            intro w3 hk3 h3
            refine HN.out w3 (Wgo.trans hm2 hk2 ⟨ro2, ?_, .inl rfl, hk3.mono (fun _ _ e => .inl e)⟩)
            rw [HWR.out]
            rw [hll] at h3
            exact ⟨h3, hw2.buf_own hk3, hw2.ne, hw2.nr⟩
          clear hll hcr1 hw2 hm2 hk2 HG HS HWR
          have h1 : Wraw w1 bw bin (wio bb) l.length l cr1 := by assumption
          have g0 : (0 : Int) ≤ l.length := by omega
          have g1 : (l.length : Int) ≤ 74 := by omega
          have c2 := h1.c2
          have f2 := h1.fr 2
          obtain ⟨v0, d0⟩ := h1.cany l.length (by omega)
          have f3 := h1.fr (3 + l.length)
          have H1 := Lib.hid h1
          clear h1
          go_region
          have h2 := H1.out.put b (by omega) (3 + l.length) rfl x HX.out
          obtain ⟨w2, hw2⟩ : ∃ w2, w2 = (w1.setCell ⟨bw, 3 + l.length, none⟩ (.int .u8 x)).drew := ⟨_, rfl⟩
          rw [← hw2]
          have h2 : Wraw w2 bw bin (wio bb) l.length (l ++ [b]) cr1 := by rw [hw2]; exact h2
          have hk2 : Keep (fun k => k = bw) w1 w2 := by rw [hw2]; exact ((Keep.refl (fun k => k = bw) w1).setCell _ rfl _).drew
          clear hw2 c2 f2 d0 f3 H1
          have c2 := h2.c2
          have f2 := h2.fr 2
          have ccr1 := (h2.seti (l.length + 1)).ccr
          have fcr1 := (h2.seti (l.length + 1)).fr 81
          have hend := HFIN.out ((w2.setCell ⟨bw, 2, none⟩ (.int .i64 (l.length + 1))).setCell ⟨bw, 81, none⟩ (.bool false)) ((hk2.setCell _ rfl _).setCell _ rfl _) (by
            have := (h2.seti (l.length + 1)).setcr false
            simpa using this)
          have HE := Lib.hid hend
          clear h2 hk2 hend HFIN
          go_wp2
          go_roundw
          case rel => exact ⟨k + 1, by omega, by go_num, HE.out⟩
          case measure => simp [intOf]; omega
        · have hwrn : s1.wr b = { s1 with line := s1.line ++ [b], cr := false } := by rw [hwr, if_neg (by simpa using h75)]
          obtain ⟨l, hll⟩ : ∃ l : List UInt8, l = s1.line := ⟨_, rfl⟩
          obtain ⟨cr1, hcr1⟩ : ∃ c, c = s1.cr := ⟨_, rfl⟩
          obtain ⟨w1, hw1e⟩ : ∃ w1, w1 = wr := ⟨_, rfl⟩
          have h1 : Wraw w1 bw bin (wio bb) l.length l cr1 := by rw [hll, hcr1, hw1e]; exact HW1.out.raw
          have hl74 : l.length ≤ 74 := by rw [hll]; omega
          have HFIN : Hid (∀ w2, Keep (fun k => k = bw) w1 w2 → Wraw w2 bw bin (wio bb) (l ++ [b]).length (l ++ [b]) false → WrRel WS.wr w bw bb ro bin s cs (k + 1) w2) := by
            intro w3 hk3 h3
            rw [hw1e] at hk3
            refine HN.out w3 ⟨ro1, ?_, .inl rfl, hk3.mono (fun _ _ e => .inl e)⟩
            rw [hwrn]
            rw [hll] at h3
            exact ⟨h3, HW1.out.buf_own hk3, HW1.out.ne, HW1.out.nr⟩
          rw [← hll] at c2
          rw [← hw1e] at c2 hc ⊢
          clear hwr hwrn h75 hll hcr1 hw1e hcr fcr
          have g0 : (0 : Int) ≤ l.length := by omega
          have g1 : (l.length : Int) ≤ 74 := by omega
          go_wp2
          clear c2 hc g0 g1
          have h1 : Wraw w1 bw bin (wio bb) l.length l cr1 := by assumption
          have g0 : (0 : Int) ≤ l.length := by omega
          have g1 : (l.length : Int) ≤ 74 := by omega
          have c2 := h1.c2
          have f2 := h1.fr 2
          obtain ⟨v0, d0⟩ := h1.cany l.length (by omega)
          have f3 := h1.fr (3 + l.length)
          have H1 := Lib.hid h1
          clear h1
          go_region
          have h2 := H1.out.put b (by omega) (3 + l.length) rfl x HX.out
          obtain ⟨w2, hw2⟩ : ∃ w2, w2 = (w1.setCell ⟨bw, 3 + l.length, none⟩ (.int .u8 x)).drew := ⟨_, rfl⟩
          rw [← hw2]
          have h2 : Wraw w2 bw bin (wio bb) l.length (l ++ [b]) cr1 := by rw [hw2]; exact h2
          have hk2 : Keep (fun k => k = bw) w1 w2 := by rw [hw2]; exact ((Keep.refl (fun k => k = bw) w1).setCell _ rfl _).drew
          clear hw2 c2 f2 d0 f3 H1
          have c2 := h2.c2
          have f2 := h2.fr 2
          have ccr1 := (h2.seti (l.length + 1)).ccr
          have fcr1 := (h2.seti (l.length + 1)).fr 81
          have hend := HFIN.out ((w2.setCell ⟨bw, 2, none⟩ (.int .i64 (l.length + 1))).setCell ⟨bw, 81, none⟩ (.bool false)) ((hk2.setCell _ rfl _).setCell _ rfl _) (by
            have := (h2.seti (l.length + 1)).setcr false
            simpa using this)
          have HE := Lib.hid hend
          clear h2 hk2 hend HFIN
          go_wp2
          go_roundw
          case rel => exact ⟨k + 1, by omega, by go_num, HE.out⟩
          case measure => simp [intOf]; omega
    · have hke : k = cs.length := by omega
      have hend : Wpost bw bb ro bin (cs.foldl WS.wr s) w (.returned .nilIface) wr := by
        unfold WrRel at hrel
        rw [hke, List.take_length] at hrel
        exact ⟨rfl, hrel⟩
      have HE := Lib.hid hend
      clear hrel hend hke hk
      go_wp2
      go_ret
      exact HE.out

end
end Go.Proofs.YthfkgancjpdodaaDoor

namespace Go.Proofs.YthfkgancjpdodaaDoor
open Go.RowKit Qp

theorem simple_int (bin : Bool) (b : UInt8) : simple bin b = ((decide ((33 : Int) ≤ b.toNat) && decide ((b.toNat : Int) ≤ 126) && !((b.toNat : Int) == 61)) || (isWs b || !bin && (((b.toNat : Int) == 10) || ((b.toNat : Int) == 13)))) := by
  revert b
  cases bin <;> exact u8_all (by decide +kernel)

theorem ways_simple (bin : Bool) (x : Int) (h : true = ((decide ((33 : Int) ≤ x) && decide (x ≤ 126) && !(x == 61)) || ((x == 32 || x == 9) || !bin && ((x == 10) || (x == 13))))) :
    (33 ≤ x ∧ x ≤ 126 ∧ (x == 61) = false) ∨ (x < 33 ∧ (x == 32 || x == 9) = true) ∨ (x < 33 ∧ (x == 32 || x == 9) = false ∧ bin = false ∧ (x == 10 || x == 13) = true) := by
  have h := h.symm
  by_cases h1 : 33 ≤ x
  · left
    have e1 : (x == 32) = false := by simp; omega
    have e2 : (x == 9) = false := by simp; omega
    have e3 : (x == 10) = false := by simp; omega
    have e4 : (x == 13) = false := by simp; omega
    rw [e1, e2, e3, e4] at h
    simp only [Bool.and_eq_true, decide_eq_true_eq, Bool.not_eq_true', Bool.or_false, Bool.and_false] at h
    exact ⟨h.1.1, h.1.2, h.2⟩
  · right
    have e0 : decide ((33 : Int) ≤ x) = false := by simp; omega
    rw [e0] at h
    simp only [Bool.false_and, Bool.false_or] at h
    cases hw : (x == 32 || x == 9)
    · right
      rw [hw] at h
      cases bin
      · refine ⟨by omega, rfl, rfl, ?_⟩
        simpa using h
      · simp at h
    · left; exact ⟨by omega, rfl⟩
theorem ways_hard (bin : Bool) (x : Int) (h : false = ((decide ((33 : Int) ≤ x) && decide (x ≤ 126) && !(x == 61)) || ((x == 32 || x == 9) || !bin && ((x == 10) || (x == 13))))) :
    (x < 33 ∧ (x == 32 || x == 9) = false ∧ bin = true) ∨ (x < 33 ∧ (x == 32 || x == 9) = false ∧ bin = false ∧ (x == 10) = false ∧ (x == 13) = false) ∨ 126 < x ∨ x = 61 := by
  have h := h.symm
  simp only [Bool.or_eq_false_iff] at h
  obtain ⟨h1, h2, h3⟩ := h
  by_cases hx : x < 33
  · cases bin
    · right; left
      simp only [Bool.not_false, Bool.true_and, Bool.or_eq_false_iff] at h3
      exact ⟨hx, by simp only [Bool.or_eq_false_iff]; exact h2, rfl, h3⟩
    · left; exact ⟨hx, by simp only [Bool.or_eq_false_iff]; exact h2, rfl⟩
  · right; right
    by_cases h126 : 126 < x
    · exact .inl h126
    · right
      have e1 : decide ((33 : Int) ≤ x) = true := by simp; omega
      have e2 : decide (x ≤ 126) = true := by simp; omega
      rw [e1, e2] at h1
      simpa using h1

/-- the Writer behind n bytes, those from n to k in a batch -/
def WriteRel (w : World) (bw bb : Nat) (ro : Option Nat) (bin : Bool) (s : WS) (cs : List UInt8) (n k : Nat) (wr : World) : Prop :=
  WrRel (WS.step bin) w bw bb ro bin s cs n wr ∧ ∀ j, n ≤ j → j < k → simple bin (cs.getD j 0) = true

theorem fold_batch (bin : Bool) (l : List UInt8) : ∀ s : WS, (∀ b ∈ l, simple bin b = true) → l.foldl WS.wr s = l.foldl (WS.step bin) s := by
  induction l with
  | nil => exact fun _ _ => rfl
  | cons b r ih =>
    intro s h
    rw [List.foldl_cons, List.foldl_cons, ih _ (fun x hx => h x (List.mem_cons_of_mem _ hx))]
    congr 1
    unfold WS.step
    rw [if_pos (h b (List.mem_cons_self ..))]

section
variable {w : World} {bw bb : Nat} {ro : Option Nat} {bin : Bool} {s : WS}

/-- write, of a part of the bytes, all of which are handed on in a batch -/
theorem part_any {wr : World} {pb po c n k : Nat} {cs : List UInt8} (hrel : WriteRel w bw bb ro bin s cs n k wr) (hl : s.line.length ≤ 75) (hlim : s.out.length + 200 * cs.length + 2000 ≤ 140737488355328)
    (hp : ∀ k, k < cs.length → w.cell? ⟨pb, po + k, none⟩ = some (.int .u8 (cs.getD k 0).toNat)) (hpw : pb ≠ bw) (hpb : pb ≠ bb) (hpr : ro ≠ some pb) (hnk : n < k) (hk : k ≤ cs.length) :
    Calls Tryd.prog 52 #[.pointer (some ⟨bw, 0, none⟩), .slice (some ⟨pb, po + n, none⟩) (k - n) (c - n)] wr (fun e w1 => e = .returned .nilIface ∧
      ∃ ro1, IsWr w1 bw bb ro1 bin ((cs.take k).foldl (WS.step bin) s) ∧ Moved ro ro1 w ∧ Keep (Wmay bw bb ro) w w1) := by
  obtain ⟨⟨ro1, h1, hm1, hk1⟩, hsim⟩ := hrel
  obtain ⟨l, hlb⟩ : ∃ l, l = (cs.drop n).take (k - n) := ⟨_, rfl⟩
  have hll : l.length = k - n := by rw [hlb, List.length_take, List.length_drop]; omega
  have hg : ∀ j, j < k - n → l.getD j 0 = cs.getD (n + j) 0 := by
    intro j hj
    rw [hlb]
    simp [hj]
  have hlen := fold_len (f := WS.step bin) (step_len bin) (cs.take n) s hl
  have h3 : (cs.take n).length = n := by rw [List.length_take]; omega
  have hplt : pb < w.heap.size := by
    have := hp n (by omega)
    unfold World.cell? at this
    split at this
    · rename_i e; exact Lib.lt_of_heap e
    · cases this
  have hw := write_any (w := wr) (bw := bw) (bb := bb) (ro := ro1) (bin := bin) (s := (cs.take n).foldl (WS.step bin) s) pb (po + n) (c - n) l h1 hlen.1 (by rw [hll]; omega) (by
    intro j hj
    rw [hg j (by omega), Nat.add_assoc]
    exact hk1.cell (by rintro (e | e | e); exact hpw e; exact hpb e; exact hpr e) (hp (n + j) (by omega))) hpw hpb (hm1.ne hplt hpr)
  rw [hll] at hw
  refine hw.mono ?_
  rintro e w1 ⟨rfl, ro2, h2, hm2, hk2⟩
  refine ⟨rfl, ro2, ?_, hm1.trans hm2 hk1.size, hk1.trans hk2 (fun k hk hm => Wmay.back hm1 k hk hm)⟩
  have hfold : l.foldl WS.wr ((cs.take n).foldl (WS.step bin) s) = (cs.take k).foldl (WS.step bin) s := by
    rw [fold_batch bin l, hlb, ← List.foldl_append]
    · congr 1
      rw [← List.take_append_drop n (cs.take k), List.take_take, Nat.min_eq_left (Nat.le_of_lt hnk), List.drop_take]
    · intro b hb
      obtain ⟨j, hj, rfl⟩ := List.getElem_of_mem hb
      have := hsim (n + j) (by omega) (by omega)
      rw [← hg j (by omega)] at this
      simpa [hj] using this
  rw [← hfold]
  exact h2

theorem batch_any {wr : World} {pb po c n k : Nat} {cs : List UInt8} {x : Int} {R : World → Prop} (hrel : Hid (WriteRel w bw bb ro bin s cs n k wr)) (hl : Hid (s.line.length ≤ 75)) (hlim : Hid (s.out.length + 200 * cs.length + 2000 ≤ 140737488355328))
    (hp : Hid (∀ k, k < cs.length → w.cell? ⟨pb, po + k, none⟩ = some (.int .u8 (cs.getD k 0).toNat))) (hpw : pb ≠ bw) (hpb : pb ≠ bb) (hpr : ro ≠ some pb) (hnk : n < k) (hk : k ≤ cs.length)
    (henc : Hid (∀ w1 ro1, IsWr w1 bw bb ro1 bin ((cs.take k).foldl (WS.step bin) s) → Moved ro ro1 w → Keep (Wmay bw bb ro) w w1 →
            Calls Tryd.prog 53 #[.pointer (some ⟨bw, 0, none⟩), .int .u8 x] w1 (fun e w2 => e = .returned .nilIface ∧ R w2))) :
    Calls Tryd.prog 52 #[.pointer (some ⟨bw, 0, none⟩), .slice (some ⟨pb, po + n, none⟩) (k - n) (c - n)] wr (fun e w1 => e = .returned .nilIface ∧
      Calls Tryd.prog 53 #[.pointer (some ⟨bw, 0, none⟩), .int .u8 x] w1 (fun e w2 => e = .returned .nilIface ∧ R w2)) := by
  refine (part_any hrel.out hl.out hlim.out hp.out hpw hpb hpr hnk hk).mono ?_
  rintro e w1 ⟨rfl, ro1, h1, hm1, hk1⟩
  exact ⟨rfl, henc.out w1 ro1 h1 hm1 hk1⟩

set_option maxRecDepth 100000 in
set_option maxHeartbeats 6400000 in
theorem Write_any (pb po c : Nat) (cs : List UInt8) (h : IsWr w bw bb ro bin s) (hl : s.line.length ≤ 75) (hlim : s.out.length + 200 * cs.length + 2000 ≤ 140737488355328) (hcc : cs.length ≤ c) (hcm : c ≤ 9223372036854775807)
    (hp : ∀ k, k < cs.length → w.cell? ⟨pb, po + k, none⟩ = some (.int .u8 (cs.getD k 0).toNat)) (hpw : pb ≠ bw) (hpb : pb ≠ bb) (hpr : ro ≠ some pb) :
    Calls Tryd.prog 44 #[.pointer (some ⟨bw, 0, none⟩), .slice (some ⟨pb, po, none⟩) cs.length c] w
      fun e w' => e = .returned (.tuple #[.int .i64 cs.length, .nilIface]) ∧ Wgo bw bb ro bin (cs.foldl (WS.step bin) s) w w' := by
  have hrel0 : WriteRel w bw bb ro bin s cs 0 0 w := ⟨⟨ro, h, .inl rfl, Keep.refl _ _⟩, fun j h1 h2 => by omega⟩
  have hcl : cs.length ≤ 9223372036854775807 := by omega
  have HL := Lib.hid hl
  have HP := Lib.hid hp
  have HLIM := Lib.hid hlim
  clear h hl hp hlim
  go_enter Tryd.func44, Tryd.ntmps44
  go_wp2
  go_loopw [4, 13] (fun m i wr => ∃ n k : Nat, n ≤ k ∧ k ≤ cs.length ∧ m = .int .i64 n ∧ i = .int .i64 k ∧ WriteRel w bw bb ro bin s cs n k wr) (fun _ i _ => cs.length - (intOf i).toNat)
  case atStart => exact ⟨0, 0, Nat.le_refl _, Nat.zero_le _, rfl, rfl, hrel0⟩
  case round =>
    obtain ⟨n, k, hnk, hk, rfl, rfl, hrel⟩ := hrel
    by_cases hlt : k < cs.length
    · obtain ⟨b, hb⟩ : ∃ b, b = cs.getD k 0 := ⟨_, rfl⟩
      have hc : wr.cell? ⟨pb, po + k, none⟩ = some (.int .u8 b.toNat) := by
        obtain ⟨⟨ro', _, _, hkk⟩, _⟩ := hrel
        rw [hb]
        exact hkk.cell (by rintro (e | e | e); exact hpw e; exact hpb e; exact hpr e) (HP.out k hlt)
      have hc0 : wr.cell? ⟨bw, 0, none⟩ = some (.bool bin) := by
        obtain ⟨⟨ro', h1, _, _⟩, _⟩ := hrel
        exact h1.raw.c0
      obtain ⟨b0, b1⟩ := byteFacts b
      have hsi := simple_int bin b
      have hwsi := isWs_int b
      have hwc := isWs_any b
      rw [hwsi] at hsi hwc
      obtain ⟨x, hx⟩ : ∃ x : Int, x = b.toNat := ⟨_, rfl⟩
      rw [← hx] at hc b0 b1 hsi hwc
      clear hwsi
      have HWC := Lib.hid hwc
      have HREL := Lib.hid hrel
      have HB := Lib.hid hb
      have HX := Lib.hid hx
      clear hwc hrel hb hx
      by_cases hs : simple bin b = true
      · -- in a batch
        have hend : WriteRel w bw bb ro bin s cs n (k + 1) wr := ⟨HREL.out.1, fun j h1 h2 => by
          by_cases hj : j = k
          · rw [hj, ← HB.out]; exact hs
          · exact HREL.out.2 j h1 (by omega)⟩
        have HE := Lib.hid hend
        rw [hs] at hsi
        have ways := ways_simple bin x hsi
        clear hsi hs hend
        rcases ways with ⟨h1, h2, h3⟩ | ⟨h1, h2⟩ | ⟨h1, h2, rfl, h3⟩
        · go_wp2
          go_roundw
          case rel => exact ⟨n, k + 1, by omega, by omega, rfl, by go_num, HE.out⟩
          case measure => simp [intOf]; omega
        · have hw1 := HWC.out
          simp only [h2] at hw1
          have HW1 := Lib.hid hw1
          clear hw1 h2
          go_wp2_with (go_at_call 51; refine (HW1.out _).mono ?_; rintro e w' ⟨rfl, rfl⟩)
          go_roundw
          case rel => exact ⟨n, k + 1, by omega, by omega, rfl, by go_num, HE.out⟩
          case measure => simp [intOf]; omega
        · have hw1 := HWC.out
          simp only [h2] at hw1
          have HW1 := Lib.hid hw1
          clear hw1 h2
          go_wp2_with (go_at_call 51; refine (HW1.out _).mono ?_; rintro e w' ⟨rfl, rfl⟩)
          all_goals (
            go_roundw
            case rel => exact ⟨n, k + 1, by omega, by omega, rfl, by go_num, HE.out⟩
            case measure => simp [intOf]; omega)
      · -- a byte that is escaped
        have hs : simple bin b = false := by simpa using hs
        have hstep : ∀ s1 : WS, s1.step bin b = s1.enc b := fun s1 => by unfold WS.step; rw [if_neg (by rw [hs]; simp)]
        have htk := take_snoc hlt
        -- encode, in whatever world the bytes up to k are written
        have henc : ∀ w1 ro1, IsWr w1 bw bb ro1 bin ((cs.take k).foldl (WS.step bin) s) → Moved ro ro1 w → Keep (Wmay bw bb ro) w w1 →
            Calls Tryd.prog 53 #[.pointer (some ⟨bw, 0, none⟩), .int .u8 x] w1 (fun e w2 => e = .returned .nilIface ∧ WriteRel w bw bb ro bin s cs (k + 1) (k + 1) w2) := by
          intro w1 ro1 h1 hm1 hk1
          have hlen := fold_len (f := WS.step bin) (step_len bin) (cs.take k) s HL.out
          have h2 := HLIM.out
          have h3 : (cs.take k).length ≤ cs.length := by rw [List.length_take]; omega
          have h4 : 200 * (cs.take k).length ≤ 200 * cs.length := Nat.mul_le_mul_left _ h3
          rw [HX.out]
          refine (enc_any b h1 hlen.1 (by omega)).mono ?_
          rintro e w2 ⟨rfl, hg⟩
          refine ⟨rfl, ?_, fun j h1 h2 => by omega⟩
          unfold WrRel
          rw [htk, List.foldl_append, ← HB.out]
          show Wgo bw bb ro bin (WS.step bin _ b) w w2
          rw [hstep]
          exact Wgo.trans hm1 hk1 hg
        have HENC := Lib.hid henc
        rw [hs] at hsi
        have ways := ways_hard bin x hsi
        clear hsi hs hstep htk henc
        have hwcf : ¬ (x == 32 || x == 9) = true → ∀ W, Calls Tryd.prog 51 #[.int .u8 x] W fun e w' => e = .returned (.bool false) ∧ W = w' := by
          intro h W
          have h' : (x == 32 || x == 9) = false := by simpa using h
          have := HWC.out W
          rw [h'] at this
          exact this
        have hnw : ¬ (x == 32 || x == 9) = true := by
          rcases ways with ⟨_, h, _⟩ | ⟨_, h, _⟩ | h | h
          · rw [h]; simp
          · rw [h]; simp
          · simp; omega
          · simp; omega
        have HWF := Lib.hid (hwcf hnw)
        have e32 : (x == 32) = false := by simp at hnw ⊢; omega
        have e9 : (x == 9) = false := by simp at hnw ⊢; omega
        clear hwcf hnw
        by_cases hin : n < k
        · -- a batch stands ahead of it
          have hne : ¬ c = n := by omega
          have HBT := Lib.hid (batch_any (c := c) HREL HL HLIM HP hpw hpb hpr hin hk HENC)
          have hkc : k ≤ c := by omega
          clear hcc
          rcases ways with ⟨h1, h2, rfl⟩ | ⟨h1, h2, rfl, h3, h4⟩ | h1 | rfl
          · go_wp2_with (first
              | (go_at_call 51; refine (HWF.out _).mono ?_; rintro e w' ⟨rfl, rfl⟩)
              | (go_at_call 52; refine HBT.out.mono ?_; rintro e w1 ⟨rfl, h5⟩; have H5 := Lib.hid h5; clear h5)
              | (go_at_call 53; refine H5.out.mono ?_; rintro e w2 ⟨rfl, h6⟩; have H6 := Lib.hid h6; clear h6))
            all_goals (
              go_roundw
              case rel => exact ⟨k + 1, k + 1, Nat.le_refl _, by omega, by go_num, by go_num, H6.out⟩
              case measure => simp [intOf]; omega)
          · go_wp2_with (first
              | (go_at_call 51; refine (HWF.out _).mono ?_; rintro e w' ⟨rfl, rfl⟩)
              | (go_at_call 52; refine HBT.out.mono ?_; rintro e w1 ⟨rfl, h5⟩; have H5 := Lib.hid h5; clear h5)
              | (go_at_call 53; refine H5.out.mono ?_; rintro e w2 ⟨rfl, h6⟩; have H6 := Lib.hid h6; clear h6))
            all_goals (
              go_roundw
              case rel => exact ⟨k + 1, k + 1, Nat.le_refl _, by omega, by go_num, by go_num, H6.out⟩
              case measure => simp [intOf]; omega)
          · have e10 : (x == 10) = false := by simp; omega
            have e13 : (x == 13) = false := by simp; omega
            cases bin
            · go_wp2_with (first
                | (go_at_call 51; refine (HWF.out _).mono ?_; rintro e w' ⟨rfl, rfl⟩)
                | (go_at_call 52; refine HBT.out.mono ?_; rintro e w1 ⟨rfl, h5⟩; have H5 := Lib.hid h5; clear h5)
                | (go_at_call 53; refine H5.out.mono ?_; rintro e w2 ⟨rfl, h6⟩; have H6 := Lib.hid h6; clear h6))
              all_goals (
                go_roundw
                case rel => exact ⟨k + 1, k + 1, Nat.le_refl _, by omega, by go_num, by go_num, H6.out⟩
                case measure => simp [intOf]; omega)
            · go_wp2_with (first
                | (go_at_call 51; refine (HWF.out _).mono ?_; rintro e w' ⟨rfl, rfl⟩)
                | (go_at_call 52; refine HBT.out.mono ?_; rintro e w1 ⟨rfl, h5⟩; have H5 := Lib.hid h5; clear h5)
                | (go_at_call 53; refine H5.out.mono ?_; rintro e w2 ⟨rfl, h6⟩; have H6 := Lib.hid h6; clear h6))
              all_goals (
                go_roundw
                case rel => exact ⟨k + 1, k + 1, Nat.le_refl _, by omega, by go_num, by go_num, H6.out⟩
                case measure => simp [intOf]; omega)
          · cases bin
            · go_wp2_with (first
                | (go_at_call 51; refine (HWF.out _).mono ?_; rintro e w' ⟨rfl, rfl⟩)
                | (go_at_call 52; refine HBT.out.mono ?_; rintro e w1 ⟨rfl, h5⟩; have H5 := Lib.hid h5; clear h5)
                | (go_at_call 53; refine H5.out.mono ?_; rintro e w2 ⟨rfl, h6⟩; have H6 := Lib.hid h6; clear h6))
              all_goals (
                go_roundw
                case rel => exact ⟨k + 1, k + 1, Nat.le_refl _, by omega, by go_num, by go_num, H6.out⟩
                case measure => simp [intOf]; omega)
            · go_wp2_with (first
                | (go_at_call 51; refine (HWF.out _).mono ?_; rintro e w' ⟨rfl, rfl⟩)
                | (go_at_call 52; refine HBT.out.mono ?_; rintro e w1 ⟨rfl, h5⟩; have H5 := Lib.hid h5; clear h5)
                | (go_at_call 53; refine H5.out.mono ?_; rintro e w2 ⟨rfl, h6⟩; have H6 := Lib.hid h6; clear h6))
              all_goals (
                go_roundw
                case rel => exact ⟨k + 1, k + 1, Nat.le_refl _, by omega, by go_num, by go_num, H6.out⟩
                case measure => simp [intOf]; omega)
        · have hnk' : n = k := by omega
          have hE : Calls Tryd.prog 53 #[.pointer (some ⟨bw, 0, none⟩), .int .u8 x] wr (fun e w2 => e = .returned .nilIface ∧ WriteRel w bw bb ro bin s cs (k + 1) (k + 1) w2) := by
            obtain ⟨ro1, h1, hm1, hk1⟩ := HREL.out.1
            rw [hnk'] at h1
            exact HENC.out wr ro1 h1 hm1 hk1
          have H5 := Lib.hid hE
          subst hnk'
          clear hE hnk hin
          rcases ways with ⟨h1, h2, rfl⟩ | ⟨h1, h2, rfl, h3, h4⟩ | h1 | rfl
          · go_wp2_with (first
              | (go_at_call 51; refine (HWF.out _).mono ?_; rintro e w' ⟨rfl, rfl⟩)
              | (go_at_call 53; refine H5.out.mono ?_; rintro e w2 ⟨rfl, h6⟩; have H6 := Lib.hid h6; clear h6))
            all_goals (
              go_roundw
              case rel => exact ⟨n + 1, n + 1, Nat.le_refl _, by omega, by go_num, by go_num, H6.out⟩
              case measure => simp [intOf]; omega)
          · go_wp2_with (first
              | (go_at_call 51; refine (HWF.out _).mono ?_; rintro e w' ⟨rfl, rfl⟩)
              | (go_at_call 53; refine H5.out.mono ?_; rintro e w2 ⟨rfl, h6⟩; have H6 := Lib.hid h6; clear h6))
            all_goals (
              go_roundw
              case rel => exact ⟨n + 1, n + 1, Nat.le_refl _, by omega, by go_num, by go_num, H6.out⟩
              case measure => simp [intOf]; omega)
          · have e10 : (x == 10) = false := by simp; omega
            have e13 : (x == 13) = false := by simp; omega
            cases bin
            · go_wp2_with (first
                | (go_at_call 51; refine (HWF.out _).mono ?_; rintro e w' ⟨rfl, rfl⟩)
                | (go_at_call 53; refine H5.out.mono ?_; rintro e w2 ⟨rfl, h6⟩; have H6 := Lib.hid h6; clear h6))
              all_goals (
                go_roundw
                case rel => exact ⟨n + 1, n + 1, Nat.le_refl _, by omega, by go_num, by go_num, H6.out⟩
                case measure => simp [intOf]; omega)
            · go_wp2_with (first
                | (go_at_call 51; refine (HWF.out _).mono ?_; rintro e w' ⟨rfl, rfl⟩)
                | (go_at_call 53; refine H5.out.mono ?_; rintro e w2 ⟨rfl, h6⟩; have H6 := Lib.hid h6; clear h6))
              all_goals (
                go_roundw
                case rel => exact ⟨n + 1, n + 1, Nat.le_refl _, by omega, by go_num, by go_num, H6.out⟩
                case measure => simp [intOf]; omega)
          · cases bin
            · go_wp2_with (first
                | (go_at_call 51; refine (HWF.out _).mono ?_; rintro e w' ⟨rfl, rfl⟩)
                | (go_at_call 53; refine H5.out.mono ?_; rintro e w2 ⟨rfl, h6⟩; have H6 := Lib.hid h6; clear h6))
              all_goals (
                go_roundw
                case rel => exact ⟨n + 1, n + 1, Nat.le_refl _, by omega, by go_num, by go_num, H6.out⟩
                case measure => simp [intOf]; omega)
            · go_wp2_with (first
                | (go_at_call 51; refine (HWF.out _).mono ?_; rintro e w' ⟨rfl, rfl⟩)
                | (go_at_call 53; refine H5.out.mono ?_; rintro e w2 ⟨rfl, h6⟩; have H6 := Lib.hid h6; clear h6))
              all_goals (
                go_roundw
                case rel => exact ⟨n + 1, n + 1, Nat.le_refl _, by omega, by go_num, by go_num, H6.out⟩
                case measure => simp [intOf]; omega)
    · have hke : k = cs.length := by omega
      subst hke
      by_cases hn : n = cs.length
      · subst hn
        have hend := hrel.1
        unfold WrRel at hend
        rw [List.take_length] at hend
        have HE := Lib.hid hend
        clear hend hrel hk hnk hlt
        go_wp2
        go_ret2
        exact ⟨rfl, HE.out⟩
      · have hlt2 : n < cs.length := by omega
        have hP := part_any (c := c) hrel HL.out HLIM.out HP.out hpw hpb hpr hlt2 (Nat.le_refl _)
        rw [List.take_length] at hP
        have HPT := Lib.hid hP
        have hne : ¬ c = n := by omega
        have hz : ((n : Int) == cs.length) = false := by simp; omega
        clear hP hrel hk hlt hn
        go_wp2_with (go_at_call 52; refine HPT.out.mono ?_; rintro e w1 ⟨rfl, h5⟩; have H5 := Lib.hid h5; clear h5)
        go_ret2
        exact ⟨rfl, H5.out⟩

end
end Go.Proofs.YthfkgancjpdodaaDoor

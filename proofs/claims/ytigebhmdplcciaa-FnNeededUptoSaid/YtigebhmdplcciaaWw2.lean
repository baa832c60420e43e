/- The walks of the Writer's functions that lay bytes in its line. -/
import Derived.Test.YtigebhmdplcciaaWwalk
namespace Go.Proofs.Ytigebhmdplcciaa
open Go.RowKit Qp

section
variable {w : World} {bw bb : Nat} {ro : Option Nat} {bin : Bool} {s : WS}

/-- flush, of a Writer whose line has been written on in its own block -/
theorem flush_on (h : IsWr w bw bb ro bin s) {w1 : World} {n : Int} {l : List UInt8} {cr : Bool} (hk : Keep (fun k => k = bw) w w1) (h1 : Wraw w1 bw bin (wio bb) n l cr) (hn : n = l.length) (hlim : s.out.length + l.length ≤ 140737488355328) :
    Calls Try.prog 29 #[.pointer (some ⟨bw, 0, none⟩)] w1 (Wpost bw bb ro bin ⟨s.out ++ l, [], cr⟩ w) := by
  subst hn
  refine (flush_raw h1 (h.buf_own hk) h.ne h.nr hlim).mono ?_
  rintro e w' ⟨rfl, hg⟩
  exact ⟨rfl, Wgo.own hk hg⟩

set_option maxHeartbeats 1600000 in
theorem crlf_on (h : IsWr w bw bb ro bin s) {w1 : World} {n : Int} {l : List UInt8} {cr : Bool} (hk : Keep (fun k => k = bw) w w1) (h1 : Wraw w1 bw bin (wio bb) n l cr) (hn : n = l.length) (hl : l.length ≤ 76) (hlim : s.out.length + 100 ≤ 140737488355328) :
    Calls Try.prog 32 #[.pointer (some ⟨bw, 0, none⟩)] w1 (Wpost bw bb ro bin ⟨s.out ++ (l ++ [13, 10]), [], cr⟩ w) := by
  subst hn
  have c2 := h1.c2
  have f2 := h1.fr 2
  obtain ⟨v0, d0⟩ := h1.cany l.length (by omega)
  have f3 := h1.fr (3 + l.length)
  have g0 : (0 : Int) ≤ l.length := by omega
  have g1 : (l.length : Int) < 77 := by omega
  have H := Lib.hid h
  have H1 := Lib.hid h1
  have HK := Lib.hid hk
  clear h h1 hk
  go_enter Try.func32, Try.ntmps32
  go_wp2
  go_region
  have h2 := H1.out.put 13 (by omega) (3 + l.length) rfl 13 rfl
  obtain ⟨w2, hw2⟩ : ∃ w2, w2 = (w1.setCell ⟨bw, 3 + l.length, none⟩ (.int .u8 13)).drew := ⟨_, rfl⟩
  rw [← hw2]
  have h2 : Wraw w2 bw bin (wio bb) l.length (l ++ [13]) cr := by rw [hw2]; exact h2
  have hk2 : Keep (fun k => k = bw) w w2 := by rw [hw2]; exact (HK.out.setCell _ rfl _).drew
  clear hw2 c2 f2 d0 f3
  have c2 := h2.c2
  have f2 := h2.fr 2
  obtain ⟨v1, d1⟩ := h2.cany (l.length + 1) (by omega)
  have f3 := h2.fr (3 + (l.length + 1))
  have H2 := Lib.hid h2
  have HK2 := Lib.hid hk2
  clear h2 hk2
  go_wp2
  go_region
  have h3 := H2.out.put 10 (by simp; omega) (3 + (l.length + 1)) (by simp) 10 rfl
  obtain ⟨w3, hw3⟩ : ∃ w3, w3 = (w2.setCell ⟨bw, 3 + (l.length + 1), none⟩ (.int .u8 10)).drew := ⟨_, rfl⟩
  rw [← hw3]
  have h3 : Wraw w3 bw bin (wio bb) l.length (l ++ [13] ++ [10]) cr := by rw [hw3]; exact h3
  have hk3 : Keep (fun k => k = bw) w w3 := by rw [hw3]; exact (HK2.out.setCell _ rfl _).drew
  clear hw3 c2 f2 d1 f3
  have c2 := h3.c2
  have f2 := h3.fr 2
  have hfl := flush_on H.out (hk3.setCell ⟨bw, 2, none⟩ rfl (.int .i64 (l.length + 2))) (h3.seti (l.length + 2)) (by simp) (by simp; omega)
  rw [List.append_assoc, show ([13] ++ [10] : List UInt8) = [13, 10] from rfl] at hfl
  have HF := Lib.hid hfl
  clear h3 hk3 hfl
  go_wp2_with (go_at_call 29; refine HF.out.mono ?_; rintro e w' ⟨rfl, hg⟩)
  go_ret
  exact ⟨rfl, hg⟩

set_option maxHeartbeats 1600000 in
theorem soft_on (h : IsWr w bw bb ro bin s) (hl : s.line.length ≤ 75) (hlim : s.out.length + 200 ≤ 140737488355328) :
    Calls Try.prog 33 #[.pointer (some ⟨bw, 0, none⟩)] w (Wpost bw bb ro bin s.soft w) := by
  have h1 := h.raw
  have hk : Keep (fun k => k = bw) w w := Keep.refl _ _
  have H := Lib.hid h
  clear h
  obtain ⟨l, hll⟩ : ∃ l, l = s.line := ⟨_, rfl⟩
  unfold WS.soft
  rw [← hll] at h1 hl ⊢
  clear hll
  have c2 := h1.c2
  have f2 := h1.fr 2
  obtain ⟨v0, d0⟩ := h1.cany l.length (by omega)
  have f3 := h1.fr (3 + l.length)
  have g0 : (0 : Int) ≤ l.length := by omega
  have g1 : (l.length : Int) < 77 := by omega
  have H1 := Lib.hid h1
  have HK := Lib.hid hk
  clear h1 hk
  go_enter Try.func33, Try.ntmps33
  go_wp2
  go_region
  have h2 := H1.out.put 61 (by omega) (3 + l.length) rfl 61 rfl
  obtain ⟨w2, hw2⟩ : ∃ w2, w2 = (w.setCell ⟨bw, 3 + l.length, none⟩ (.int .u8 61)).drew := ⟨_, rfl⟩
  rw [← hw2]
  have h2 : Wraw w2 bw bin (wio bb) l.length (l ++ [61]) s.cr := by rw [hw2]; exact h2
  have hk2 : Keep (fun k => k = bw) w w2 := by rw [hw2]; exact (HK.out.setCell _ rfl _).drew
  clear hw2 c2 f2 d0 f3
  have c2 := h2.c2
  have f2 := h2.fr 2
  have hfl := crlf_on H.out (hk2.setCell ⟨bw, 2, none⟩ rfl (.int .i64 (l.length + 1))) (h2.seti (l.length + 1)) (by simp) (by simp; omega) (by omega)
  rw [List.append_assoc, show ([61] ++ [13, 10] : List UInt8) = [61, 13, 10] from rfl] at hfl
  have HF := Lib.hid hfl
  clear h2 hk2 hfl
  go_wp2_with (go_at_call 32; refine HF.out.mono ?_; rintro e w' ⟨rfl, hg⟩)
  go_ret
  exact ⟨rfl, hg⟩

end
end Go.Proofs.Ytigebhmdplcciaa

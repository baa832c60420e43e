/- The walks of the Writer's encode, checkLastByte and Close. -/
import Derived.Test.YtigebhmdplcciaaWw2
namespace Go.Proofs.Ytigebhmdplcciaa
open Go.RowKit Qp

theorem idx_hex : ∀ (n : Nat) (_ : n < 16) (W : World), (Instr.index 9 (.string ⟨#[48, 49, 50, 51, 52, 53, 54, 55, 56, 57, 65, 66, 67, 68, 69, 70]⟩) (.int .u8 n)).run Try.prog W = .ok (.int .u8 (hexU (UInt8.ofNat n)).toNat) W
  | 0, _, W => by kernel_rfl
  | 1, _, W => by kernel_rfl
  | 2, _, W => by kernel_rfl
  | 3, _, W => by kernel_rfl
  | 4, _, W => by kernel_rfl
  | 5, _, W => by kernel_rfl
  | 6, _, W => by kernel_rfl
  | 7, _, W => by kernel_rfl
  | 8, _, W => by kernel_rfl
  | 9, _, W => by kernel_rfl
  | 10, _, W => by kernel_rfl
  | 11, _, W => by kernel_rfl
  | 12, _, W => by kernel_rfl
  | 13, _, W => by kernel_rfl
  | 14, _, W => by kernel_rfl
  | 15, _, W => by kernel_rfl
  | n + 16, h, _ => absurd h (by omega)
theorem hi_ofNat : ∀ b : UInt8, UInt8.ofNat (b.toNat / 16) = b >>> 4 := u8_all (by decide +kernel)
theorem lo_ofNat : ∀ b : UInt8, UInt8.ofNat (b.toNat % 16) = b &&& 15 := u8_all (by decide +kernel)

section
variable {w : World} {bw bb : Nat} {ro : Option Nat} {bin : Bool} {s : WS}

set_option maxHeartbeats 3200000 in
theorem enc_soft (b : UInt8) (h : IsWr w bw bb ro bin s) (hl : s.line.length ≤ 75) (hlim : s.out.length + 300 ≤ 140737488355328) (h72 : 72 < s.line.length) :
    Calls Try.prog 27 #[.pointer (some ⟨bw, 0, none⟩), .int .u8 b.toNat] w (Wpost bw bb ro bin (s.enc b) w) := by
    have h0 := h.raw
    have hb0 : (0 : Int) ≤ b.toNat := by omega
    have hb1 : (b.toNat : Int) ≤ 255 := by have := b.toNat_lt; omega
    have HS := Lib.hid (soft_on h hl (by omega))
    have c2 := h0.c2
    have g0 : (0 : Int) ≤ s.line.length := by omega
    have g1 : (72 : Int) < s.line.length := by omega
    have g2 : (s.line.length : Int) ≤ 75 := by omega
    have H := Lib.hid h
    have H72 := Lib.hid h72
    clear h h0 hl h72
    go_enter Try.func27, Try.ntmps27
    go_wp2_with (go_at_call 33; refine HS.out.mono ?_; rintro e w1 ⟨rfl, hg⟩)
    obtain ⟨ro1, hw1, hm1, hkk1⟩ := hg
    have h1 : Wraw w1 bw bin (wio bb) ([] : List UInt8).length [] s.cr := hw1.raw
    have hfin : ∀ w2, Keep (fun k => k = bw) w1 w2 → Wraw w2 bw bin (wio bb) ([] ++ escB b).length ([] ++ escB b) s.cr → Wgo bw bb ro bin (s.enc b) w w2 := by
      intro w2 hk h2
      refine Wgo.trans hm1 hkk1 ⟨ro1, ⟨?_, ?_, hw1.ne, hw1.nr⟩, .inl rfl, hk.mono (fun _ _ e => .inl e)⟩
      · unfold WS.enc; rw [if_pos H72.out]; exact h2
      · unfold WS.enc; rw [if_pos H72.out]; exact hw1.buf_own hk
    have HFIN0 := Lib.hid hfin
    obtain ⟨l, hll⟩ : ∃ l : List UInt8, l = [] := ⟨_, rfl⟩
    have hl72 : l.length ≤ 72 := by rw [hll]; simp
    have HFIN : Hid (∀ w2, Keep (fun k => k = bw) w1 w2 → Wraw w2 bw bin (wio bb) (l ++ escB b).length (l ++ escB b) s.cr → Wgo bw bb ro bin (s.enc b) w w2) := by rw [hll]; exact HFIN0
    rw [← hll] at h1
    clear hfin hll HFIN0 hw1 hm1 hkk1 c2 g0 g1 g2
    have hk1 : Keep (fun k => k = bw) w1 w1 := Keep.refl _ _
    have c2 := h1.c2
    have f2 := h1.fr 2
    obtain ⟨v0, d0⟩ := h1.cany l.length (by omega)
    have f3 := h1.fr (3 + l.length)
    have g0 : (0 : Int) ≤ l.length := by omega
    have g1 : (l.length : Int) ≤ 72 := by omega
    obtain ⟨p1, hp1⟩ : ∃ c, c = hexU (b >>> 4) := ⟨_, rfl⟩
    obtain ⟨p2, hp2⟩ : ∃ c, c = hexU (b &&& 15) := ⟨_, rfl⟩
    have hix1 : ∀ W, (Instr.index 9 (.string ⟨#[48, 49, 50, 51, 52, 53, 54, 55, 56, 57, 65, 66, 67, 68, 69, 70]⟩) (.int .u8 ((b.toNat : Int) / 16))).run Try.prog W = .ok (.int .u8 p1.toNat) W := by
      intro W
      rw [show (b.toNat : Int) / 16 = ((b.toNat / 16 : Nat) : Int) by omega, idx_hex _ (by have := b.toNat_lt; omega), hi_ofNat, hp1]
    have hix2 : ∀ W, (Instr.index 9 (.string ⟨#[48, 49, 50, 51, 52, 53, 54, 55, 56, 57, 65, 66, 67, 68, 69, 70]⟩) (.int .u8 ((b.toNat : Int) % 16))).run Try.prog W = .ok (.int .u8 p2.toNat) W := by
      intro W
      rw [show (b.toNat : Int) % 16 = ((b.toNat % 16 : Nat) : Int) by omega, idx_hex _ (by omega), lo_ofNat, hp2]
    have HP := Lib.hid (show escB b = [61, p1, p2] by rw [hp1, hp2]; rfl)
    clear hp1 hp2
    have H1 := Lib.hid h1
    have HK := Lib.hid hk1
    clear h1 hk1
    go_region
    have h2 := H1.out.put 61 (by omega) (3 + l.length) rfl 61 rfl
    obtain ⟨w2, hw2⟩ : ∃ w2, w2 = (w1.setCell ⟨bw, 3 + l.length, none⟩ (.int .u8 61)).drew := ⟨_, rfl⟩
    rw [← hw2]
    have h2 : Wraw w2 bw bin (wio bb) l.length (l ++ [61]) s.cr := by rw [hw2]; exact h2
    have hk2 : Keep (fun k => k = bw) w1 w2 := by rw [hw2]; exact (HK.out.setCell _ rfl _).drew
    clear hw2 c2 f2 d0 f3
    have c2 := h2.c2
    have f2 := h2.fr 2
    obtain ⟨v1, d1⟩ := h2.cany (l.length + 1) (by omega)
    have f3 := h2.fr (3 + (l.length + 1))
    have H2 := Lib.hid h2
    have HK2 := Lib.hid hk2
    clear h2 hk2
    go_wp2
    go_region
    have h3 := H2.out.put p1 (by simp; omega) (3 + (l.length + 1)) (by simp) p1.toNat rfl
    obtain ⟨w3, hw3⟩ : ∃ w3, w3 = (w2.setCell ⟨bw, 3 + (l.length + 1), none⟩ (.int .u8 p1.toNat)).drew := ⟨_, rfl⟩
    rw [← hw3]
    have h3 : Wraw w3 bw bin (wio bb) l.length (l ++ [61] ++ [p1]) s.cr := by rw [hw3]; exact h3
    have hk3 : Keep (fun k => k = bw) w1 w3 := by rw [hw3]; exact (HK2.out.setCell _ rfl _).drew
    clear hw3 c2 f2 d1 f3 H2 HK2
    have c2 := h3.c2
    have f2 := h3.fr 2
    obtain ⟨v2, d2⟩ := h3.cany (l.length + 2) (by omega)
    have f3 := h3.fr (3 + (l.length + 2))
    have H3 := Lib.hid h3
    have HK3 := Lib.hid hk3
    clear h3 hk3
    go_wp2
    go_region
    have h4 := H3.out.put p2 (by simp; omega) (3 + (l.length + 2)) (by simp) p2.toNat rfl
    obtain ⟨w4, hw4⟩ : ∃ w4, w4 = (w3.setCell ⟨bw, 3 + (l.length + 2), none⟩ (.int .u8 p2.toNat)).drew := ⟨_, rfl⟩
    rw [← hw4]
    have h4 : Wraw w4 bw bin (wio bb) l.length (l ++ [61] ++ [p1] ++ [p2]) s.cr := by rw [hw4]; exact h4
    have hk4 : Keep (fun k => k = bw) w1 w4 := by rw [hw4]; exact (HK3.out.setCell _ rfl _).drew
    clear hw4 c2 f2 d2 f3 H3 HK3
    have c2 := h4.c2
    have f2 := h4.fr 2
    have hend := HFIN.out (w4.setCell ⟨bw, 2, none⟩ (.int .i64 (l.length + 3))) (hk4.setCell _ rfl _) (by
      have := h4.seti (l.length + 3)
      rw [HP.out]
      simpa using this)
    have HE := Lib.hid hend
    clear h4 hk4 hend
    go_wp2
    go_ret
    exact ⟨rfl, HE.out⟩

set_option maxHeartbeats 3200000 in
theorem enc_room (b : UInt8) (h : IsWr w bw bb ro bin s) (h72 : ¬ 72 < s.line.length) :
    Calls Try.prog 27 #[.pointer (some ⟨bw, 0, none⟩), .int .u8 b.toNat] w (Wpost bw bb ro bin (s.enc b) w) := by
    have h1 := h.raw
    have hb0 : (0 : Int) ≤ b.toNat := by omega
    have hb1 : (b.toNat : Int) ≤ 255 := by have := b.toNat_lt; omega
    have hfin : ∀ w2, Keep (fun k => k = bw) w w2 → Wraw w2 bw bin (wio bb) (s.line ++ escB b).length (s.line ++ escB b) s.cr → Wgo bw bb ro bin (s.enc b) w w2 := by
      intro w2 hk h2
      refine ⟨ro, ⟨?_, ?_, h.ne, h.nr⟩, .inl rfl, hk.mono (fun _ _ e => .inl e)⟩
      · unfold WS.enc; rw [if_neg h72]; exact h2
      · unfold WS.enc; rw [if_neg h72]; exact h.buf_own hk
    obtain ⟨l, hll⟩ : ∃ l, l = s.line := ⟨_, rfl⟩
    rw [← hll] at h1 h72 hfin
    have HFIN := Lib.hid hfin
    clear h hll hfin
    obtain ⟨w1, hw1⟩ : ∃ w1, w1 = w := ⟨_, rfl⟩
    rw [← hw1] at h1 HFIN ⊢
    clear hw1
    have hl72 : l.length ≤ 72 := by omega
    have c2 := h1.c2
    have g0 : (0 : Int) ≤ l.length := by omega
    have g1 : (l.length : Int) ≤ 72 := by omega
    clear h72
    go_enter Try.func27, Try.ntmps27
    go_wp2
    clear c2 g0 g1
    have hk1 : Keep (fun k => k = bw) w1 w1 := Keep.refl _ _
    have c2 := h1.c2
    have f2 := h1.fr 2
    obtain ⟨v0, d0⟩ := h1.cany l.length (by omega)
    have f3 := h1.fr (3 + l.length)
    have g0 : (0 : Int) ≤ l.length := by omega
    have g1 : (l.length : Int) ≤ 72 := by omega
    obtain ⟨p1, hp1⟩ : ∃ c, c = hexU (b >>> 4) := ⟨_, rfl⟩
    obtain ⟨p2, hp2⟩ : ∃ c, c = hexU (b &&& 15) := ⟨_, rfl⟩
    have hix1 : ∀ W, (Instr.index 9 (.string ⟨#[48, 49, 50, 51, 52, 53, 54, 55, 56, 57, 65, 66, 67, 68, 69, 70]⟩) (.int .u8 ((b.toNat : Int) / 16))).run Try.prog W = .ok (.int .u8 p1.toNat) W := by
      intro W
      rw [show (b.toNat : Int) / 16 = ((b.toNat / 16 : Nat) : Int) by omega, idx_hex _ (by have := b.toNat_lt; omega), hi_ofNat, hp1]
    have hix2 : ∀ W, (Instr.index 9 (.string ⟨#[48, 49, 50, 51, 52, 53, 54, 55, 56, 57, 65, 66, 67, 68, 69, 70]⟩) (.int .u8 ((b.toNat : Int) % 16))).run Try.prog W = .ok (.int .u8 p2.toNat) W := by
      intro W
      rw [show (b.toNat : Int) % 16 = ((b.toNat % 16 : Nat) : Int) by omega, idx_hex _ (by omega), lo_ofNat, hp2]
    have HP := Lib.hid (show escB b = [61, p1, p2] by rw [hp1, hp2]; rfl)
    clear hp1 hp2
    have H1 := Lib.hid h1
    have HK := Lib.hid hk1
    clear h1 hk1
    go_region
    have h2 := H1.out.put 61 (by omega) (3 + l.length) rfl 61 rfl
    obtain ⟨w2, hw2⟩ : ∃ w2, w2 = (w1.setCell ⟨bw, 3 + l.length, none⟩ (.int .u8 61)).drew := ⟨_, rfl⟩
    rw [← hw2]
    have h2 : Wraw w2 bw bin (wio bb) l.length (l ++ [61]) s.cr := by rw [hw2]; exact h2
    have hk2 : Keep (fun k => k = bw) w1 w2 := by rw [hw2]; exact (HK.out.setCell _ rfl _).drew
    clear hw2 c2 f2 d0 f3
    have c2 := h2.c2
    have f2 := h2.fr 2
    obtain ⟨v1, d1⟩ := h2.cany (l.length + 1) (by omega)
    have f3 := h2.fr (3 + (l.length + 1))
    have H2 := Lib.hid h2
    have HK2 := Lib.hid hk2
    clear h2 hk2
    go_wp2
    go_region
    have h3 := H2.out.put p1 (by simp; omega) (3 + (l.length + 1)) (by simp) p1.toNat rfl
    obtain ⟨w3, hw3⟩ : ∃ w3, w3 = (w2.setCell ⟨bw, 3 + (l.length + 1), none⟩ (.int .u8 p1.toNat)).drew := ⟨_, rfl⟩
    rw [← hw3]
    have h3 : Wraw w3 bw bin (wio bb) l.length (l ++ [61] ++ [p1]) s.cr := by rw [hw3]; exact h3
    have hk3 : Keep (fun k => k = bw) w1 w3 := by rw [hw3]; exact (HK2.out.setCell _ rfl _).drew
    clear hw3 c2 f2 d1 f3 H2 HK2
    have c2 := h3.c2
    have f2 := h3.fr 2
    obtain ⟨v2, d2⟩ := h3.cany (l.length + 2) (by omega)
    have f3 := h3.fr (3 + (l.length + 2))
    have H3 := Lib.hid h3
    have HK3 := Lib.hid hk3
    clear h3 hk3
    go_wp2
    go_region
    have h4 := H3.out.put p2 (by simp; omega) (3 + (l.length + 2)) (by simp) p2.toNat rfl
    obtain ⟨w4, hw4⟩ : ∃ w4, w4 = (w3.setCell ⟨bw, 3 + (l.length + 2), none⟩ (.int .u8 p2.toNat)).drew := ⟨_, rfl⟩
    rw [← hw4]
    have h4 : Wraw w4 bw bin (wio bb) l.length (l ++ [61] ++ [p1] ++ [p2]) s.cr := by rw [hw4]; exact h4
    have hk4 : Keep (fun k => k = bw) w1 w4 := by rw [hw4]; exact (HK3.out.setCell _ rfl _).drew
    clear hw4 c2 f2 d2 f3 H3 HK3
    have c2 := h4.c2
    have f2 := h4.fr 2
    have hend := HFIN.out (w4.setCell ⟨bw, 2, none⟩ (.int .i64 (l.length + 3))) (hk4.setCell _ rfl _) (by
      have := h4.seti (l.length + 3)
      rw [HP.out]
      simpa using this)
    have HE := Lib.hid hend
    clear h4 hk4 hend
    go_wp2
    go_ret
    exact ⟨rfl, HE.out⟩

theorem enc_any (b : UInt8) (h : IsWr w bw bb ro bin s) (hl : s.line.length ≤ 75) (hlim : s.out.length + 300 ≤ 140737488355328) :
    Calls Try.prog 27 #[.pointer (some ⟨bw, 0, none⟩), .int .u8 b.toNat] w (Wpost bw bb ro bin (s.enc b) w) := by
  by_cases h72 : 72 < s.line.length
  · exact enc_soft b h hl hlim h72
  · exact enc_room b h h72

theorem IsWr.drew (h : IsWr w bw bb ro bin s) : IsWr w.drew bw bb ro bin s := ⟨h.raw, h.buf, h.ne, h.nr⟩
/-- checkLastByte, where the line is empty or ends with no blank -/
theorem last_none (h : IsWr w bw bb ro bin s) (he : s.line = []) :
    Calls Try.prog 28 #[.pointer (some ⟨bw, 0, none⟩)] w (Wpost bw bb ro bin s.last w) := by
  have c2 := h.raw.c2
  have hl : s.last = s := by unfold WS.last; rw [he]; rfl
  rw [hl]
  rw [he] at c2
  have c2 : w.cell? ⟨bw, 2, none⟩ = some (.int .i64 0) := c2
  have H := Lib.hid h
  clear h hl he
  go_enter Try.func28, Try.ntmps28
  go_wp2
  go_ret
  exact ⟨rfl, ro, H.out, .inl rfl, Keep.refl _ _⟩

set_option maxHeartbeats 1600000 in
theorem last_some (h : IsWr w bw bb ro bin s) (r : List UInt8) (b : UInt8) (he : s.line = r ++ [b]) (hl : s.line.length ≤ 75) (hlim : s.out.length + 300 ≤ 140737488355328) :
    Calls Try.prog 28 #[.pointer (some ⟨bw, 0, none⟩)] w (Wpost bw bb ro bin s.last w) := by
  have hlast : s.last = if isWs b then ({ s with line := r } : WS).enc b else s := by
    unfold WS.last; rw [he]; simp
  have h1 := h.raw
  have c2 := h1.c2
  have f2 := h1.fr 2
  have d0 := h1.cline r.length (by rw [he]; simp)
  have hgd : s.line.getD r.length 0 = b := by rw [he]; simp
  rw [hgd] at d0
  have hlen : s.line.length = r.length + 1 := by rw [he]; simp
  rw [hlen] at c2
  have c2 : w.cell? ⟨bw, 2, none⟩ = some (.int .i64 (r.length + 1)) := by simpa using c2
  have g0 : (0 : Int) ≤ r.length := by omega
  have g1 : (r.length : Int) ≤ 74 := by omega
  have hb0 : (0 : Int) ≤ b.toNat := by omega
  have hb1 : (b.toNat : Int) ≤ 255 := by have := b.toNat_lt; omega
  have hz : (((r.length : Int) + 1) == 0) = false := by simp; omega
  -- the Writer behind 'w.i--'
  have hk : Keep (fun k => k = bw) w (w.setCell ⟨bw, 2, none⟩ (.int .i64 r.length)) := (Keep.refl (fun k => k = bw) w).setCell _ rfl _
  have h2 : IsWr (w.setCell ⟨bw, 2, none⟩ (.int .i64 r.length)) bw bb ro bin { s with line := r } := by
    refine ⟨?_, h.buf_own hk, h.ne, h.nr⟩
    have := (h1.seti r.length).cut r.length
    rw [he, List.take_left' rfl] at this
    exact this
  have henc := fun (w1 : World) (h1 : IsWr w1 bw bb ro bin { s with line := r }) => enc_any b h1 (by show r.length ≤ 75; omega) hlim
  rw [hlast]
  have H := Lib.hid h
  have HK := Lib.hid hk
  have H2 := Lib.hid h2
  have HE := Lib.hid henc
  clear h h1 he hgd hlen hlast hk h2 henc hl
  by_cases hw : isWs b = true
  · rw [if_pos hw]
    go_enter Try.func28, Try.ntmps28
    go_wp2
    go_region
    go_wp2_with (go_at_call 25; refine (isWs_any b _).mono ?_; rintro e w' ⟨rfl, rfl⟩; rw [hw])
    go_wp2_with fail
    refine (HE.out _ H2.out.drew).mono ?_
    rintro e w' ⟨rfl, hg⟩
    go_wp2
    go_ret
    exact ⟨rfl, Wgo.own (HK.out.drew) hg⟩
  · have hw : isWs b = false := by simpa using hw
    rw [if_neg (by rw [hw]; simp)]
    go_enter Try.func28, Try.ntmps28
    go_wp2
    go_region
    go_wp2_with (go_at_call 25; refine (isWs_any b _).mono ?_; rintro e w' ⟨rfl, rfl⟩; rw [hw])
    go_ret
    exact ⟨rfl, ro, H.out.drew, .inl rfl, (Keep.refl _ _).drew⟩

theorem last_any (h : IsWr w bw bb ro bin s) (hl : s.line.length ≤ 75) (hlim : s.out.length + 300 ≤ 140737488355328) :
    Calls Try.prog 28 #[.pointer (some ⟨bw, 0, none⟩)] w (Wpost bw bb ro bin s.last w) := by
  rcases List.eq_nil_or_concat s.line with e | ⟨r, b, e⟩
  · exact last_none h e
  · rw [List.concat_eq_append] at e
    exact last_some h r b e hl hlim

theorem last_len (hl : s.line.length ≤ 75) : s.last.line.length ≤ 78 ∧ s.last.out.length ≤ s.out.length + 100 := by
  unfold WS.last
  split
  · split
    · unfold WS.enc WS.soft
      split <;> simp [escB] <;> omega
    · omega
  · omega

set_option maxHeartbeats 1600000 in
theorem close_any (h : IsWr w bw bb ro bin s) (hl : s.line.length ≤ 75) (hlim : s.out.length + 400 ≤ 140737488355328) :
    Calls Try.prog 21 #[.pointer (some ⟨bw, 0, none⟩)] w (Wpost bw bb ro bin ⟨s.fin, [], s.last.cr⟩ w) := by
  have HL := Lib.hid (last_any h hl (by omega))
  have hll := last_len hl
  clear h hl
  go_enter Try.func21, Try.ntmps21
  go_wp2_with (go_at_call 28; refine HL.out.mono ?_; rintro e w1 ⟨rfl, ro1, h1, hm1, hk1⟩; have HF := Lib.hid (flush_raw h1.raw h1.buf h1.ne h1.nr (by omega)); have H1 := Lib.hid hm1; have H2 := Lib.hid hk1; clear h1 hm1 hk1)
  go_wp2_with fail
  refine HF.out.mono ?_
  rintro e w2 ⟨rfl, hg⟩
  go_wp2
  go_ret
  exact ⟨rfl, Wgo.trans H1.out H2.out hg⟩

end
end Go.Proofs.Ytigebhmdplcciaa

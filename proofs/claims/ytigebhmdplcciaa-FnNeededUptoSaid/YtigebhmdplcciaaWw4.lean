/- The walk of the Writer's write: a loop over bytes. -/
import Derived.Test.YtigebhmdplcciaaWw3
import Derived.LoopTactic
namespace Go.Proofs.Ytigebhmdplcciaa
open Go.RowKit Qp

/-- the Writer behind k bytes -/
def WrRel (f : WS → UInt8 → WS) (w : World) (bw bb : Nat) (ro : Option Nat) (bin : Bool) (s : WS) (cs : List UInt8) (k : Nat) (wr : World) : Prop :=
  Wgo bw bb ro bin ((cs.take k).foldl f s) w wr

theorem enc_len (s : WS) (b : UInt8) (hl : s.line.length ≤ 75) : (s.enc b).line.length ≤ 75 ∧ (s.enc b).out.length ≤ s.out.length + 100 := by
  unfold WS.enc WS.soft
  split <;> simp [escB] <;> omega
theorem last_len' (s : WS) (hl : s.line.length ≤ 75) : s.last.line.length ≤ 75 ∧ s.last.out.length ≤ s.out.length + 100 := by
  unfold WS.last
  split
  · split
    · exact enc_len _ _ (by simp; omega)
    · omega
  · omega
theorem wr_len (s : WS) (b : UInt8) (hl : s.line.length ≤ 75) : (s.wr b).line.length ≤ 75 ∧ (s.wr b).out.length ≤ s.out.length + 200 := by
  unfold WS.wr
  split
  · split
    · exact ⟨hl, by simp⟩
    · have h1 := last_len' { s with cr := s.cr || b == 13 } hl
      unfold WS.crlf
      simp
      have h2 := h1.2
      simp at h2
      omega
  · unfold WS.soft
    split
    · simp; omega
    · rename_i h; simp at h; simp; omega
theorem step_len (bin : Bool) (s : WS) (b : UInt8) (hl : s.line.length ≤ 75) : (s.step bin b).line.length ≤ 75 ∧ (s.step bin b).out.length ≤ s.out.length + 200 := by
  unfold WS.step
  split
  · exact wr_len s b hl
  · have := enc_len s b hl; omega
theorem fold_len {f : WS → UInt8 → WS} (hf : ∀ s b, s.line.length ≤ 75 → (f s b).line.length ≤ 75 ∧ (f s b).out.length ≤ s.out.length + 200) (cs : List UInt8) : ∀ s : WS, s.line.length ≤ 75 →
    (cs.foldl f s).line.length ≤ 75 ∧ (cs.foldl f s).out.length ≤ s.out.length + 200 * cs.length := by
  induction cs with
  | nil => intro s h; simp; omega
  | cons b r ih =>
    intro s h
    have h1 := hf s b h
    have h2 := ih _ h1.1
    simp only [List.foldl_cons, List.length_cons]
    omega
theorem take_snoc {cs : List UInt8} {k : Nat} (h : k < cs.length) : cs.take (k + 1) = cs.take k ++ [cs.getD k 0] := by
  rw [List.take_succ_eq_append_getElem h]; simp [h]

theorem byteFacts (b : UInt8) : (0 : Int) ≤ b.toNat ∧ (b.toNat : Int) ≤ 255 := by have := b.toNat_lt; omega
theorem u8_eq {b : UInt8} (n : Nat) (hn : n < 256) : (b = UInt8.ofNat n) ↔ (b.toNat : Int) = n := by
  rw [← UInt8.toNat_inj]
  simp
  omega

section
variable {w : World} {bw bb : Nat} {ro : Option Nat} {bin : Bool} {s : WS}

/-- 'w.cr = ..' -/
theorem IsWr.setcr (h : IsWr w bw bb ro bin s) (c : Bool) : IsWr (w.setCell ⟨bw, 81, none⟩ (.bool c)) bw bb ro bin { s with cr := c } ∧ Keep (fun k => k = bw) w (w.setCell ⟨bw, 81, none⟩ (.bool c)) := by
  have hk : Keep (fun k => k = bw) w (w.setCell ⟨bw, 81, none⟩ (.bool c)) := (Keep.refl (fun k => k = bw) w).setCell _ rfl _
  exact ⟨⟨h.raw.setcr c, h.buf_own hk, h.ne, h.nr⟩, hk⟩

set_option maxHeartbeats 6400000 in
theorem write_any (pb po c : Nat) (cs : List UInt8) (h : IsWr w bw bb ro bin s) (hl : s.line.length ≤ 75) (hlim : s.out.length + 200 * cs.length + 1000 ≤ 140737488355328)
    (hp : ∀ k, k < cs.length → w.cell? ⟨pb, po + k, none⟩ = some (.int .u8 (cs.getD k 0).toNat)) (hpw : pb ≠ bw) (hpb : pb ≠ bb) (hpr : ro ≠ some pb) :
    Calls Try.prog 26 #[.pointer (some ⟨bw, 0, none⟩), .slice (some ⟨pb, po, none⟩) cs.length c] w (Wpost bw bb ro bin (cs.foldl WS.wr s) w) := by
  have hrel0 : WrRel WS.wr w bw bb ro bin s cs 0 w := ⟨ro, h, .inl rfl, Keep.refl _ _⟩
  have hcl : cs.length ≤ 9223372036854775807 := by omega
  have HL := Lib.hid hl
  have HP := Lib.hid hp
  have HLIM := Lib.hid hlim
  clear h hl hp hlim
  go_enter Try.func26, Try.ntmps26
  go_wp2
  go_loopw [12] (fun i wr => ∃ k : Nat, k ≤ cs.length ∧ i = .int .i64 k ∧ WrRel WS.wr w bw bb ro bin s cs k wr) (fun i _ => cs.length - (intOf i).toNat)
  case atStart => exact ⟨0, Nat.zero_le _, rfl, hrel0⟩
  case round =>
    obtain ⟨k, hk, rfl, hrel⟩ := hrel
    clear hrel0
    by_cases hlt : k < cs.length
    · have htk := take_snoc hlt
      obtain ⟨b, hb⟩ : ∃ b, b = cs.getD k 0 := ⟨_, rfl⟩
      obtain ⟨s1, hs1⟩ : ∃ s1, s1 = (cs.take k).foldl WS.wr s := ⟨_, rfl⟩
      have hlen := fold_len (f := WS.wr) wr_len (cs.take k) s HL.out
      rw [← hs1] at hlen
      have hlen1 := hlen.1
      have hlen2 : s1.out.length + 1000 ≤ 140737488355328 := by
        have h1 := hlen.2
        have h2 := HLIM.out
        have h3 : (cs.take k).length ≤ cs.length := by rw [List.length_take]; omega
        have h4 : 200 * (cs.take k).length ≤ 200 * cs.length := Nat.mul_le_mul_left _ h3
        omega
      have hc : wr.cell? ⟨pb, po + k, none⟩ = some (.int .u8 b.toNat) := by
        obtain ⟨ro', _, _, hkk⟩ := hrel
        rw [hb]
        exact hkk.cell (by rintro (e | e | e); exact hpw e; exact hpb e; exact hpr e) (HP.out k hlt)
      unfold WrRel at hrel
      rw [← hs1] at hrel
      obtain ⟨ro1, hw1, hm1, hk1⟩ := hrel
      have hnext : ∀ w2, Wgo bw bb ro1 bin (s1.wr b) wr w2 → WrRel WS.wr w bw bb ro bin s cs (k + 1) w2 := by
        intro w2 hg
        unfold WrRel
        rw [htk, List.foldl_append, ← hs1, ← hb]
        exact Wgo.trans hm1 hk1 hg
      have HN := Lib.hid hnext
      have HW1 := Lib.hid hw1
      obtain ⟨b0, b1⟩ := byteFacts b
      obtain ⟨x, hx⟩ : ∃ x : Int, x = b.toNat := ⟨_, rfl⟩
      rw [← hx] at hc b0 b1
      have hcr := hw1.raw.ccr
      have fcr := hw1.raw.fr 81
      have c2 := hw1.raw.c2
      clear htk hb hs1 hlen hnext hw1
      by_cases hnl : x = 10 ∨ x = 13
      · -- a byte of a line's end
        by_cases hA : x = 10 ∧ s1.cr = true
        · obtain ⟨rfl, hcrt⟩ := hA
          have hb10 : b = 10 := (u8_eq 10 (by decide)).2 hx.symm
          obtain ⟨hset, hkset⟩ := HW1.out.setcr false
          have hend := HN.out (wr.setCell ⟨bw, 81, none⟩ (.bool false)) ⟨ro1, by
            have : s1.wr b = { s1 with cr := false } := by unfold WS.wr; rw [hb10, hcrt]; rfl
            rw [this]; exact hset, .inl rfl, hkset.mono (fun _ _ e => .inl e)⟩
          rw [hcrt] at hcr
          have HE := Lib.hid hend
          clear hset hkset hend hcrt hx hb10 hnl
          go_wp2
          go_roundw
          case rel => exact ⟨k + 1, by omega, by go_num, HE.out⟩
          case measure => simp [intOf]; omega
        · -- the line is written
          have hwr : s1.wr b = (({ s1 with cr := s1.cr || b == 13 } : WS).last).crlf := by
            unfold WS.wr
            rw [if_pos (by
              rcases hnl with h | h
              · simp [(u8_eq 10 (by decide)).2 (hx.symm.trans h)]
              · simp [(u8_eq 13 (by decide)).2 (hx.symm.trans h)]), if_neg (by
              intro h
              simp at h
              exact hA ⟨by rw [hx, h.2]; rfl, h.1⟩)]
          have go : ∀ w2, IsWr w2 bw bb ro1 bin { s1 with cr := s1.cr || b == 13 } → Keep (fun k => k = bw) wr w2 →
              Calls Try.prog 28 #[.pointer (some ⟨bw, 0, none⟩)] w2 (fun e w3 => e = .returned .nilIface ∧
                Calls Try.prog 32 #[.pointer (some ⟨bw, 0, none⟩)] w3 (fun e w4 => e = .returned .nilIface ∧ WrRel WS.wr w bw bb ro bin s cs (k + 1) w4)) := by
            intro w2 h2 hk2
            have hll := last_len' { s1 with cr := s1.cr || b == 13 } hlen1
            refine (last_any h2 hlen1 (by show s1.out.length + 300 ≤ _; omega)).mono ?_
            rintro e w3 ⟨rfl, ro2, h3, hm3, hk3⟩
            refine ⟨rfl, ?_⟩
            refine (crlf_on h3 (Keep.refl _ _) h3.raw rfl (by omega) (by have := hll.2; show _ + 100 ≤ _; simp at this; omega)).mono ?_
            rintro e w4 ⟨rfl, hg4⟩
            refine ⟨rfl, HN.out w4 ?_⟩
            rw [hwr]
            exact Wgo.own hk2 (Wgo.trans hm3 hk3 hg4)
          have HGO := Lib.hid go
          have HA := Lib.hid hA
          clear go hwr hA
          rcases hnl with rfl | rfl
          · -- LF
            have hcrf : s1.cr = false := by
              have := HA.out
              simpa using this
            have hst : IsWr wr bw bb ro1 bin { s1 with cr := s1.cr || b == 13 } := by
              have hb10 : b = 10 := (u8_eq 10 (by decide)).2 hx.symm
              have : ({ s1 with cr := s1.cr || b == 13 } : WS) = s1 := by rw [hb10, hcrf, ← hcrf]; simp
              rw [this]; exact HW1.out
            have HG := Lib.hid (HGO.out wr hst (Keep.refl _ _))
            rw [hcrf] at hcr
            clear hst hcrf hx
            go_wp2_with (first
              | (go_at_call 28; refine HG.out.mono ?_; rintro e w3 ⟨rfl, h3⟩; have H3 := Lib.hid h3; clear h3)
              | (go_at_call 32; refine H3.out.mono ?_; rintro e w4 ⟨rfl, h4⟩; have H4 := Lib.hid h4; clear h4))
            go_roundw
            case rel => exact ⟨k + 1, by omega, by go_num, H4.out⟩
            case measure => simp [intOf]; omega
          · -- CR
            have hb13 : b = 13 := (u8_eq 13 (by decide)).2 hx.symm
            obtain ⟨hset, hkset⟩ := HW1.out.setcr true
            have hst : IsWr (wr.setCell ⟨bw, 81, none⟩ (.bool true)) bw bb ro1 bin { s1 with cr := s1.cr || b == 13 } := by
              have : ({ s1 with cr := s1.cr || b == 13 } : WS) = { s1 with cr := true } := by rw [hb13]; simp
              rw [this]; exact hset
            have HG := Lib.hid (HGO.out _ hst hkset)
            clear hst hset hkset hx hb13
            go_wp2_with (first
              | (go_at_call 28; refine HG.out.mono ?_; rintro e w3 ⟨rfl, h3⟩; have H3 := Lib.hid h3; clear h3)
              | (go_at_call 32; refine H3.out.mono ?_; rintro e w4 ⟨rfl, h4⟩; have H4 := Lib.hid h4; clear h4))
            all_goals (
              go_roundw
              case rel => exact ⟨k + 1, by omega, by go_num, H4.out⟩
              case measure => simp [intOf]; omega)
      · -- another byte
        have hx10 : ¬ x = 10 := fun h => hnl (.inl h)
        have hx13 : ¬ x = 13 := fun h => hnl (.inr h)
        have e10 : (x == 10) = false := by simpa using hx10
        have e13 : (x == 13) = false := by simpa using hx13
        have hwr : s1.wr b = if s1.line.length == 75 then { s1.soft with line := [b], cr := false } else { s1 with line := s1.line ++ [b], cr := false } := by
          unfold WS.wr
          rw [if_neg]
          simp
          exact ⟨fun h => hx10 (by rw [hx, h]; rfl), fun h => hx13 (by rw [hx, h]; rfl)⟩
        have HX := Lib.hid hx
        clear hx hnl
        by_cases h75 : s1.line.length = 75
        · have HS := Lib.hid (soft_on HW1.out hlen1 (by omega))
          have hwr75 : s1.wr b = { s1.soft with line := [b], cr := false } := by rw [hwr, if_pos (by simpa using h75)]
          have HWR := Lib.hid hwr75
          rw [h75] at c2
          have c2 : wr.cell? ⟨bw, 2, none⟩ = some (.int .i64 75) := c2
          clear hwr hwr75 h75 hcr fcr
          go_wp2_with fail
          refine HS.out.mono ?_
          rintro e w1 ⟨rfl, hg⟩
          have HG := Lib.hid hg
          clear hg c2 hc
          go_wp2
          obtain ⟨ro2, hw2, hm2, hk2⟩ := HG.out
          obtain ⟨l, hll⟩ : ∃ l : List UInt8, l = [] := ⟨_, rfl⟩
          obtain ⟨cr1, hcr1⟩ : ∃ c, c = s1.soft.cr := ⟨_, rfl⟩
          have h1 : Wraw w1 bw bin (wio bb) l.length l cr1 := by rw [hll, hcr1]; exact hw2.raw
          have hl74 : l.length ≤ 74 := by rw [hll]; simp
          have HFIN : Hid (∀ w2, Keep (fun k => k = bw) w1 w2 → Wraw w2 bw bin (wio bb) (l ++ [b]).length (l ++ [b]) false → WrRel WS.wr w bw bb ro bin s cs (k + 1) w2) := by
            intro w3 hk3 h3
            refine HN.out w3 (Wgo.trans hm2 hk2 ⟨ro2, ?_, .inl rfl, hk3.mono (fun _ _ e => .inl e)⟩)
            rw [HWR.out]
            rw [hll] at h3
            exact ⟨h3, hw2.buf_own hk3, hw2.ne, hw2.nr⟩
          clear hll hcr1 hw2 hm2 hk2 HG HS HWR
          have h1 : Wraw w1 bw bin (wio bb) l.length l cr1 := by assumption
          have g0 : (0 : Int) ≤ l.length := by omega
          have g1 : (l.length : Int) ≤ 74 := by omega
          have c2 := h1.c2
          have f2 := h1.fr 2
          obtain ⟨v0, d0⟩ := h1.cany l.length (by omega)
          have f3 := h1.fr (3 + l.length)
          have H1 := Lib.hid h1
          clear h1
          go_region
          have h2 := H1.out.put b (by omega) (3 + l.length) rfl x HX.out
          obtain ⟨w2, hw2⟩ : ∃ w2, w2 = (w1.setCell ⟨bw, 3 + l.length, none⟩ (.int .u8 x)).drew := ⟨_, rfl⟩
          rw [← hw2]
          have h2 : Wraw w2 bw bin (wio bb) l.length (l ++ [b]) cr1 := by rw [hw2]; exact h2
          have hk2 : Keep (fun k => k = bw) w1 w2 := by rw [hw2]; exact ((Keep.refl (fun k => k = bw) w1).setCell _ rfl _).drew
          clear hw2 c2 f2 d0 f3 H1
          have c2 := h2.c2
          have f2 := h2.fr 2
          have ccr1 := (h2.seti (l.length + 1)).ccr
          have fcr1 := (h2.seti (l.length + 1)).fr 81
          have hend := HFIN.out ((w2.setCell ⟨bw, 2, none⟩ (.int .i64 (l.length + 1))).setCell ⟨bw, 81, none⟩ (.bool false)) ((hk2.setCell _ rfl _).setCell _ rfl _) (by
            have := (h2.seti (l.length + 1)).setcr false
            simpa using this)
          have HE := Lib.hid hend
          clear h2 hk2 hend HFIN
          go_wp2
          go_roundw
          case rel => exact ⟨k + 1, by omega, by go_num, HE.out⟩
          case measure => simp [intOf]; omega
        · have hwrn : s1.wr b = { s1 with line := s1.line ++ [b], cr := false } := by rw [hwr, if_neg (by simpa using h75)]
          obtain ⟨l, hll⟩ : ∃ l : List UInt8, l = s1.line := ⟨_, rfl⟩
          obtain ⟨cr1, hcr1⟩ : ∃ c, c = s1.cr := ⟨_, rfl⟩
          obtain ⟨w1, hw1e⟩ : ∃ w1, w1 = wr := ⟨_, rfl⟩
          have h1 : Wraw w1 bw bin (wio bb) l.length l cr1 := by rw [hll, hcr1, hw1e]; exact HW1.out.raw
          have hl74 : l.length ≤ 74 := by rw [hll]; omega
          have HFIN : Hid (∀ w2, Keep (fun k => k = bw) w1 w2 → Wraw w2 bw bin (wio bb) (l ++ [b]).length (l ++ [b]) false → WrRel WS.wr w bw bb ro bin s cs (k + 1) w2) := by
            intro w3 hk3 h3
            rw [hw1e] at hk3
            refine HN.out w3 ⟨ro1, ?_, .inl rfl, hk3.mono (fun _ _ e => .inl e)⟩
            rw [hwrn]
            rw [hll] at h3
            exact ⟨h3, HW1.out.buf_own hk3, HW1.out.ne, HW1.out.nr⟩
          rw [← hll] at c2
          rw [← hw1e] at c2 hc ⊢
          clear hwr hwrn h75 hll hcr1 hw1e hcr fcr
          have g0 : (0 : Int) ≤ l.length := by omega
          have g1 : (l.length : Int) ≤ 74 := by omega
          go_wp2
          clear c2 hc g0 g1
          have h1 : Wraw w1 bw bin (wio bb) l.length l cr1 := by assumption
          have g0 : (0 : Int) ≤ l.length := by omega
          have g1 : (l.length : Int) ≤ 74 := by omega
          have c2 := h1.c2
          have f2 := h1.fr 2
          obtain ⟨v0, d0⟩ := h1.cany l.length (by omega)
          have f3 := h1.fr (3 + l.length)
          have H1 := Lib.hid h1
          clear h1
          go_region
          have h2 := H1.out.put b (by omega) (3 + l.length) rfl x HX.out
          obtain ⟨w2, hw2⟩ : ∃ w2, w2 = (w1.setCell ⟨bw, 3 + l.length, none⟩ (.int .u8 x)).drew := ⟨_, rfl⟩
          rw [← hw2]
          have h2 : Wraw w2 bw bin (wio bb) l.length (l ++ [b]) cr1 := by rw [hw2]; exact h2
          have hk2 : Keep (fun k => k = bw) w1 w2 := by rw [hw2]; exact ((Keep.refl (fun k => k = bw) w1).setCell _ rfl _).drew
          clear hw2 c2 f2 d0 f3 H1
          have c2 := h2.c2
          have f2 := h2.fr 2
          have ccr1 := (h2.seti (l.length + 1)).ccr
          have fcr1 := (h2.seti (l.length + 1)).fr 81
          have hend := HFIN.out ((w2.setCell ⟨bw, 2, none⟩ (.int .i64 (l.length + 1))).setCell ⟨bw, 81, none⟩ (.bool false)) ((hk2.setCell _ rfl _).setCell _ rfl _) (by
            have := (h2.seti (l.length + 1)).setcr false
            simpa using this)
          have HE := Lib.hid hend
          clear h2 hk2 hend HFIN
          go_wp2
          go_roundw
          case rel => exact ⟨k + 1, by omega, by go_num, HE.out⟩
          case measure => simp [intOf]; omega
    · have hke : k = cs.length := by omega
      have hend : Wpost bw bb ro bin (cs.foldl WS.wr s) w (.returned .nilIface) wr := by
        unfold WrRel at hrel
        rw [hke, List.take_length] at hrel
        exact ⟨rfl, hrel⟩
      have HE := Lib.hid hend
      clear hrel hend hke hk
      go_wp2
      go_ret
      exact HE.out

end
end Go.Proofs.Ytigebhmdplcciaa

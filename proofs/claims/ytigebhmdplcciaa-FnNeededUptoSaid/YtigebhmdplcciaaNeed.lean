/- The walk of Needed. -/
import Derived.Test.YtigebhmdplcciaaExq
namespace Go.Proofs.Ytigebhmdplcciaa
open Go.RowKit Qp

set_option maxHeartbeats 1600000 in
theorem Needed_any {w : World} {v : Value} {l : List Tok} (h : Ts w v l) (k : Nat) (hk : k < l.length) (b : UInt8) (r : B) (hb : l[k].value = b :: r) :
    Calls Try.prog 18 #[v, .int .i64 k] w fun e w' => e = .returned (.bool (needed b (l.drop (k + 1)))) ∧ w = w' := by
  obtain ⟨ao, cap, rfl, hlc, hcm, hat⟩ := h.at
  obtain ⟨b0, off, a1, n1, c1, a2, n2, c2, rfl, q0, q1, q2, -, hv⟩ := hat k hk
  rw [hb] at hv
  obtain ⟨a2', c2', e2, e3, e4, e5, e6⟩ := hv
  injection e2 with e7 e8 e9
  subst e7; subst e8; subst e9
  obtain ⟨vb, vo, rfl, hcv⟩ := e6 (by simp)
  have q3 := hcv 0 (by simp)
  simp only [List.getD_cons_zero, Nat.add_zero] at q3
  rw [List.length_cons] at e3 q2
  obtain ⟨m, hm⟩ : ∃ m, m = r.length + 1 := ⟨_, rfl⟩
  rw [← hm] at e3 q2
  have hm1 : 1 ≤ m := by omega
  have hnx : ∀ (h : k + 1 < l.length), w.cell? ⟨b0, off + (k + 1) * 3, none⟩ = some (.int .i64 l[k + 1].kind) := by
    intro h
    obtain ⟨b', off', a1, n1, c1, a2, n2, c2, e, r0, -⟩ := hat (k + 1) h
    injection e with e
    injection e with e1 e2
    subst e1; subst e2
    exact r0
  have hlk : (k : Int) < l.length := by omega
  clear hat h e4 e5 e6 hcv hm hb
  have hnd : needed b (l.drop (k + 1)) = if b == 32 || b == 9 then (if h : k + 1 < l.length then decide (l[k + 1].kind = 5) else true) else decide (b < 32) || decide (126 < b) || b == 61 := by
    unfold needed
    by_cases h : k + 1 < l.length
    · rw [dif_pos h, List.drop_eq_getElem_cons h]
    · rw [dif_neg h, List.drop_eq_nil_of_le (by omega)]
  obtain ⟨bl, bu⟩ := byteFacts b
  by_cases hws : b = 32 ∨ b = 9
  · have hws' : (b == 32 || b == 9) = true := by rcases hws with rfl | rfl <;> rfl
    rw [if_pos hws'] at hnd
    by_cases hl : k + 1 < l.length
    · replace hnx := hnx hl
      rw [dif_pos hl] at hnd
      obtain ⟨kx, hkx⟩ : ∃ kx, kx = l[k + 1].kind := ⟨_, rfl⟩
      rw [← hkx] at hnd hnx
      have i0 : ¬ (k : Int) = (l.length : Int) - 1 := by omega
      have j0 : ((k : Int) == (l.length : Int) - 1) = false := beq_eq_false_iff_ne.2 i0
      have hd : ((kx : Int) == 5) = decide (kx = 5) := by
        by_cases h : kx = 5
        · subst h; rfl
        · rw [decide_eq_false h]; exact beq_eq_false_iff_ne.2 (by omega)
      have HND := Lib.hid hnd
      have HD := Lib.hid hd
      clear hnd hkx hd
      rcases hws with rfl | rfl
      · have q3 : w.cell? ⟨vb, vo, none⟩ = some (.int .u8 32) := q3
        go_enter Try.func18, Try.ntmps18
        go_wp2
        go_ret
        exact ⟨by rw [HND.out, ← HD.out]; rfl, rfl⟩
      · have q3 : w.cell? ⟨vb, vo, none⟩ = some (.int .u8 9) := q3
        go_enter Try.func18, Try.ntmps18
        go_wp2
        go_ret
        exact ⟨by rw [HND.out, ← HD.out]; rfl, rfl⟩
    · rw [dif_neg hl] at hnd
      have i0 : (l.length : Int) - 1 = (k : Int) := by omega
      have HND := Lib.hid hnd
      clear hnd hnx
      rcases hws with rfl | rfl
      · have q3 : w.cell? ⟨vb, vo, none⟩ = some (.int .u8 32) := q3
        go_enter Try.func18, Try.ntmps18
        go_wp2
        go_ret
        exact ⟨by rw [HND.out]; rfl, rfl⟩
      · have q3 : w.cell? ⟨vb, vo, none⟩ = some (.int .u8 9) := q3
        go_enter Try.func18, Try.ntmps18
        go_wp2
        go_ret
        exact ⟨by rw [HND.out]; rfl, rfl⟩
  · have hws' : (b == 32 || b == 9) = false := by
      rw [Bool.or_eq_false_iff, beq_eq_false_iff_ne, beq_eq_false_iff_ne]
      exact ⟨fun h => hws (.inl h), fun h => hws (.inr h)⟩
    rw [if_neg (by rw [hws']; decide)] at hnd
    have h32 : (b.toNat : Int) ≠ 32 := fun e => hws (.inl (UInt8.toNat_inj.1 (by show b.toNat = 32; omega)))
    have h9 : (b.toNat : Int) ≠ 9 := fun e => hws (.inr (UInt8.toNat_inj.1 (by show b.toNat = 9; omega)))
    have hd : (decide (b < 32) || decide (126 < b) || b == 61) = (decide ((b.toNat : Int) < 32) || decide (126 < (b.toNat : Int)) || decide ((b.toNat : Int) = 61)) := by
      have e1 : (b < 32) = ((b.toNat : Int) < 32) := by rw [UInt8.lt_iff_toNat_lt]; simp; omega
      have e2 : (126 < b) = (126 < (b.toNat : Int)) := by rw [UInt8.lt_iff_toNat_lt]; simp; omega
      have e3 : (b == 61) = decide ((b.toNat : Int) = 61) := by
        by_cases h : b = 61
        · subst h; rfl
        · rw [decide_eq_false (fun e => h (UInt8.toNat_inj.1 (by show b.toNat = 61; omega)))]; exact beq_eq_false_iff_ne.2 h
      simp only [e1, e2, e3]
    rw [hd] at hnd
    obtain ⟨x, hx⟩ : ∃ x : Int, x = b.toNat := ⟨_, rfl⟩
    rw [← hx] at hnd q3 bl bu h32 h9
    have i32 : ¬ x = 32 := h32
    have i9 : ¬ x = 9 := h9
    have j32 : (x == 32) = false := beq_eq_false_iff_ne.2 h32
    have j9 : (x == 9) = false := beq_eq_false_iff_ne.2 h9
    have HND := Lib.hid hnd
    clear hnd hx hd hws hws' h32 h9 hnx
    by_cases g1 : x < 32
    · go_enter Try.func18, Try.ntmps18
      go_wp2
      go_ret
      exact ⟨by rw [HND.out, decide_eq_true g1]; rfl, rfl⟩
    by_cases g2 : 126 < x
    · go_enter Try.func18, Try.ntmps18
      go_wp2
      go_ret
      exact ⟨by rw [HND.out, decide_eq_true g2, Bool.or_true]; rfl, rfl⟩
    by_cases g3 : x = 61
    · subst g3
      go_enter Try.func18, Try.ntmps18
      go_wp2
      go_ret
      exact ⟨by rw [HND.out]; rfl, rfl⟩
    · have j3 : (x == 61) = false := beq_eq_false_iff_ne.2 g3
      go_enter Try.func18, Try.ntmps18
      go_wp2
      go_ret
      exact ⟨by rw [HND.out, decide_eq_false (by omega : ¬ x < 32), decide_eq_false (by omega : ¬ 126 < x), decide_eq_false g3]; rfl, rfl⟩

theorem allNeeded_at {l : List Tok} (h : allNeeded l = true) : ∀ k (hk : k < l.length), l[k].kind = 3 → needed (l[k].value.headD 0) (l.drop (k + 1)) = true := by
  induction l with
  | nil => intro k hk; simp at hk
  | cons t r ih =>
    intro k hk h3
    simp only [allNeeded, Bool.and_eq_true] at h
    cases k with
    | zero =>
      have h3' : t.kind = 3 := h3
      have := h.1
      rw [if_pos h3'] at this
      exact this
    | succ k => exact ih h.2 k (by simpa using hk) h3
theorem okTok.esc_value {t : Tok} (h : okTok t) (h3 : t.kind = 3) : ∃ b, t.value = [b] := by
  rcases h with ⟨b, _, _, _, rfl⟩ | ⟨b, _, rfl⟩ | ⟨x, y, h, l, _, _, rfl⟩ | rfl | rfl
  · simp [litTok] at h3
  · simp [blankTok] at h3
  · exact ⟨_, rfl⟩
  · simp [softTok] at h3
  · simp [brkTok] at h3

end Go.Proofs.Ytigebhmdplcciaa

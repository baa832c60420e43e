/- The walk of BlankEnds. -/
import Derived.Test.YthfkgancjpdodaaDoorTokw
namespace Go.Proofs.YthfkgancjpdodaaDoor
open Go.RowKit Qp

theorem Ts.at {w : World} {v : Value} {l : List Tok} (h : Ts w v l) : ∃ ao cap, v = .slice ao l.length cap ∧ l.length ≤ cap ∧ cap ≤ 9223372036854775807 ∧
    ∀ k (hk : k < l.length), ∃ b off a1 n1 c1 a2 n2 c2, ao = some ⟨b, off, none⟩ ∧ w.cell? ⟨b, off + k * 3, none⟩ = some (.int .i64 l[k].kind) ∧ w.cell? ⟨b, off + k * 3 + 1, none⟩ = some (.slice a1 n1 c1) ∧ w.cell? ⟨b, off + k * 3 + 2, none⟩ = some (.slice a2 n2 c2) ∧ Bs w (.slice a1 n1 c1) l[k].text ∧ Bs w (.slice a2 n2 c2) l[k].value := by
  obtain ⟨ts, ao, cap, rfl, h2, rfl, h4, h5, h6⟩ := h
  refine ⟨ao, cap, by simp, by simpa using h4, h5, fun k hk => ?_⟩
  have hk' : k < ts.length := by simpa using hk
  obtain ⟨b, off, h7, h8, h9, h10⟩ := h6 k hk'
  obtain ⟨h11, h12⟩ := h2 ts[k] (List.getElem_mem hk')
  obtain ⟨a1, c1, e1⟩ := Bs.shape h11
  obtain ⟨a2, c2, e2⟩ := Bs.shape h12
  rw [e1] at h9 h11
  rw [e2] at h10 h12
  refine ⟨b, off, a1, _, c1, a2, _, c2, h7, ?_, h9, h10, ?_, ?_⟩
  · simpa using h8
  · simpa using h11
  · simpa using h12

theorem blankEnds_cons (t : Tok) (r : List Tok) : blankEnds (t :: r) = ((decide (t.kind = 2) && (match r with | [] => true | u :: _ => decide (u.kind = 5))) || blankEnds r) := by cases r <;> rfl
theorem blankEnds_drop {l : List Tok} {k : Nat} (hk : k < l.length) : blankEnds (l.drop k) = ((decide (l[k].kind = 2) && (if h : k + 1 < l.length then decide (l[k + 1].kind = 5) else true)) || blankEnds (l.drop (k + 1))) := by
  rw [List.drop_eq_getElem_cons hk, blankEnds_cons]
  congr 2
  by_cases h : k + 1 < l.length
  · rw [dif_pos h, List.drop_eq_getElem_cons h]
  · rw [dif_neg h, List.drop_eq_nil_of_le (by omega)]

set_option maxRecDepth 100000 in
set_option maxHeartbeats 1600000 in
theorem BlankEnds_any {w : World} {v : Value} {l : List Tok} (h : Ts w v l) :
    Calls Tryd.prog 37 #[v] w fun e w' => e = .returned (.bool (blankEnds l)) ∧ Below w.heap.size w w' := by
  obtain ⟨ao, cap, rfl, hlc, hcm, hat⟩ := h.at
  have HAT := Lib.hid hat
  clear hat h
  go_enter Tryd.func37, Tryd.ntmps37
  go_wp2
  go_loopw [7] (fun i wr => ∃ k : Nat, k ≤ l.length ∧ i = .int .i64 k ∧ blankEnds (l.drop k) = blankEnds l ∧ Below w.heap.size w wr) (fun i _ => l.length - (intOf i).toNat)
  case atStart => exact ⟨0, Nat.zero_le _, rfl, rfl, Below.refl _ _⟩
  case round =>
    obtain ⟨k, hk, rfl, hbe, hbel⟩ := hrel
    by_cases hlt : k < l.length
    · rw [blankEnds_drop hlt] at hbe
      obtain ⟨b, off, a1, n1, c1, a2, n2, c2, rfl, q0, q1, q2, -, -⟩ := HAT.out k hlt
      have q0 := below_cell hbel _ _ q0
      have q1 := below_cell hbel _ _ q1
      have q2 := below_cell hbel _ _ q2
      have hbs := hbel.size
      have hbl : ∀ o, Below w.heap.size w (wr.alloc o) := fun o => hbel.alloc hbs _
      have HBL := Lib.hid hbl
      have hnx : ∀ (h : k + 1 < l.length), ∀ o, (wr.alloc o).cell? ⟨b, off + (k + 1) * 3, none⟩ = some (.int .i64 l[k + 1].kind) := by
        intro h o
        obtain ⟨b', off', a1, n1, c1, a2, n2, c2, e, r0, -⟩ := HAT.out (k + 1) h
        injection e with e
        injection e with e1 e2
        subst e1; subst e2
        exact below_cell (hbl o) _ _ r0
      obtain ⟨kd, hkd⟩ : ∃ kd, kd = l[k].kind := ⟨_, rfl⟩
      rw [← hkd] at hbe q0
      by_cases h2 : kd = 2
      · subst h2
        by_cases hl : k + 1 < l.length
        · replace hnx := hnx hl
          rw [dif_pos hl] at hbe
          obtain ⟨kx, hkx⟩ : ∃ kx, kx = l[k + 1].kind := ⟨_, rfl⟩
          rw [← hkx] at hbe hnx
          have i0 : ¬ (k : Int) = (l.length : Int) - 1 := by omega
          have j0 : ((k : Int) == (l.length : Int) - 1) = false := beq_eq_false_iff_ne.2 i0
          by_cases h5 : kx = 5
          · subst h5
            have hr : blankEnds l = true := by rw [← hbe]; simp
            have HR := Lib.hid hr
            clear hkd hkx hbe hr hbl hbel
            go_wp2
            go_ret
            exact ⟨by rw [HR.out]; rfl, HBL.out _⟩
          · have hr : blankEnds (l.drop (k + 1)) = blankEnds l := by rw [← hbe]; simp [h5]
            have HR := Lib.hid hr
            have i5 : ¬ (kx : Int) = 5 := by omega
            have j5 : ((kx : Int) == 5) = false := beq_eq_false_iff_ne.2 i5
            clear hkd hkx hbe hr hbl hbel
            go_wp2
            go_roundw
            case rel => exact ⟨k + 1, by omega, by go_num, HR.out, HBL.out _⟩
            case measure => simp [intOf]; omega
        · clear hnx
          rw [dif_neg hl] at hbe
          have i0 : (l.length : Int) - 1 = (k : Int) := by omega
          have hr : blankEnds l = true := by rw [← hbe]; simp
          have HR := Lib.hid hr
          clear hkd hbe hr hbl hbel
          go_wp2
          go_ret
          exact ⟨by rw [HR.out]; rfl, HBL.out _⟩
      · clear hnx
        have hr : blankEnds (l.drop (k + 1)) = blankEnds l := by rw [← hbe]; simp [h2]
        have HR := Lib.hid hr
        have i2 : ¬ (kd : Int) = 2 := by omega
        have j2 : ((kd : Int) == 2) = false := beq_eq_false_iff_ne.2 i2
        clear hkd hbe hr hbl hbel
        go_wp2
        go_roundw
        case rel => exact ⟨k + 1, by omega, by go_num, HR.out, HBL.out _⟩
        case measure => simp [intOf]; omega
    · have hke : k = l.length := by omega
      subst hke
      rw [List.drop_length] at hbe
      have HR := Lib.hid hbe
      have HB := Lib.hid hbel
      clear hbe hbel
      go_wp2
      go_ret
      exact ⟨by rw [← HR.out]; rfl, HB.out⟩

end Go.Proofs.YthfkgancjpdodaaDoor

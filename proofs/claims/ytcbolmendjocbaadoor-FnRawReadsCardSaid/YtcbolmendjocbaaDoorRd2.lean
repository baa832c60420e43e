/- bytes.lastIndexFunc and bytes.TrimRightFunc, at the Reader's white space, over ASCII. -/
import Derived.Test.YtcbolmendjocbaaDoorRd1
import Derived.Test.YtcbolmendjocbaaDoorPlain
namespace Go.Proofs.YtcbolmendjocbaaDoor
open Go.RowKit Qp

def isQPv : Value := .func (.func 23) #[] #[]

/-- where the search for the last byte that is no white space ends -/
theorem rstrip_at' (l : List UInt8) (k : Nat) (hk : k ≤ l.length) (h1 : ∀ j, k ≤ j → j < l.length → isSp (l.getD j 0) = true) (h2 : k = 0 ∨ isSp (l.getD (k - 1) 0) = false) : rstrip isSp l = l.take k := by
  conv => lhs; rw [← List.take_append_drop k l]
  refine rstrip_at isSp _ _ ?_ ?_
  · intro b hb
    obtain ⟨j, hj, e⟩ := List.mem_iff_getElem.1 hb
    have := h1 (k + j) (by omega) (by simp at hj; omega)
    rw [← e, List.getElem_drop]
    simpa [List.getD, show k + j < l.length by simp at hj; omega] using this
  · intro r b hb
    have hl : (l.take k).length = k := by simp; omega
    rw [hb] at hl
    simp at hl
    rcases h2 with h2 | h2
    · omega
    · have e : (l.take k)[r.length]? = some b := by rw [hb]; simp
      rw [List.getElem?_take, if_pos (by omega)] at e
      have : k - 1 = r.length := by omega
      rw [this, List.getD, e] at h2
      exact h2

section
variable {b off n cap : Nat} {w : World} {l : List UInt8}

set_option maxRecDepth 100000 in
set_option maxHeartbeats 1600000 in
theorem lastIdx_any (hl : n = l.length) (hnc : n ≤ cap) (hcm : cap ≤ 9223372036854775807) (h128 : ∀ c ∈ l, c < 128) (hc : ∀ k, k < n → w.cell? ⟨b, off + k, none⟩ = some (.int .u8 (l.getD k 0).toNat)) :
    Calls Tryd.prog 33 #[.slice (some ⟨b, off, none⟩) n cap, isQPv, .bool false] w fun e w' => e = .returned (.int .i64 (((rstrip isSp l).length : Nat) - 1 : Int)) ∧ w = w' := by
  have HC := Lib.hid hc
  have HL := Lib.hid hl
  have H128 := Lib.hid h128
  clear hc hl h128
  unfold isQPv
  go_enter Tryd.func33, Tryd.ntmps33
  go_wp2
  go_loop [7] (fun i => ∃ k : Nat, k ≤ n ∧ i = .int .i64 k ∧ ∀ j, k ≤ j → j < n → isSp (l.getD j 0) = true) (fun i => (intOf i).toNat)
  case atStart => exact ⟨n, Nat.le_refl _, rfl, fun j h1 h2 => absurd h2 (by omega)⟩
  case round =>
    obtain ⟨k, hk, rfl, hsp⟩ := hrel
    have HSP := Lib.hid hsp
    clear hsp
    by_cases h0 : k = 0
    · subst h0
      have he : (rstrip isSp l).length = 0 := by
        rw [rstrip_at' l 0 (Nat.zero_le _) (fun j h1 h2 => HSP.out j h1 (by rw [HL.out]; exact h2)) (.inl rfl)]; simp
      have HE := Lib.hid he
      clear he
      go_wp2
      go_ret
      refine ⟨?_, rfl⟩
      rw [HE.out]; rfl
    · obtain ⟨m, rfl⟩ : ∃ m, k = m + 1 := ⟨k - 1, by omega⟩
      have hcm' := HC.out m (by omega)
      have hm : m < l.length := by rw [← HL.out]; omega
      have hb128 : l.getD m 0 < 128 := by
        have : l.getD m 0 = l[m] := by simp [List.getD, hm]
        rw [this]; exact H128.out _ (List.getElem_mem hm)
      have hb : ((l.getD m 0).toNat : Int) < 128 := by have := UInt8.lt_iff_toNat_lt.1 hb128; have e : (128 : UInt8).toNat = 128 := rfl; omega
      obtain ⟨c, hcc⟩ : ∃ c, c = l.getD m 0 := ⟨_, rfl⟩
      rw [← hcc] at hcm' hb
      have HCC := Lib.hid hcc
      have hq := isQP_any c w
      clear hcc hb128 h0
      have g0 : (0 : Int) ≤ c.toNat := by omega
      by_cases hs : isSp c = true
      · rw [hs] at hq
        have HQ := Lib.hid hq
        clear hq
        go_wp2_with fail
        refine HQ.out.mono ?_
        rintro e w' ⟨rfl, rfl⟩
        go_wp2
        go_round
        case rel =>
          refine ⟨m, by omega, rfl, fun j h1 h2 => ?_⟩
          by_cases e : j = m
          · subst e; rw [← HCC.out]; exact hs
          · exact HSP.out j (by omega) h2
        case measure => simp [intOf]
      · have hs' : isSp c = false := by simpa using hs
        have he : (rstrip isSp l).length = m + 1 := by
          rw [rstrip_at' l (m + 1) (by omega) (fun j h1 h2 => HSP.out j h1 (by rw [HL.out]; exact h2)) (.inr (by rw [Nat.add_sub_cancel, ← HCC.out]; exact hs'))]; simp; omega
        rw [hs'] at hq
        have HQ := Lib.hid hq
        have HE := Lib.hid he
        clear hq he hs hs'
        go_wp2_with fail
        refine HQ.out.mono ?_
        rintro e w' ⟨rfl, rfl⟩
        go_wp2
        go_ret
        refine ⟨?_, rfl⟩
        rw [HE.out]
        exact congrArg (fun z => Ending.returned (Value.int .i64 z)) (by omega)

set_option maxRecDepth 100000 in
set_option maxHeartbeats 1600000 in
theorem trimR_any (hl : n = l.length) (hnc : n ≤ cap) (hcm : cap ≤ 9223372036854775807) (h128 : ∀ c ∈ l, c < 128) (hc : ∀ k, k < n → w.cell? ⟨b, off + k, none⟩ = some (.int .u8 (l.getD k 0).toNat)) :
    Calls Tryd.prog 22 #[.slice (some ⟨b, off, none⟩) n cap, isQPv] w fun e w' => e = .returned (.slice (some ⟨b, off, none⟩) (rstrip isSp l).length cap) ∧ w = w' := by
  have HI := Lib.hid (lastIdx_any hl hnc hcm h128 hc)
  have hle := rstrip_len isSp l
  rw [← hl] at hle
  have hlast : ∀ k, k < n → ∃ x : Int, w.cell? ⟨b, off + k, none⟩ = some (.int .u8 x) ∧ x < 128 := by
    intro k hk
    refine ⟨_, hc k hk, ?_⟩
    have hm : k < l.length := by omega
    have h : l.getD k 0 < 128 := by
      have : l.getD k 0 = l[k] := by simp [List.getD, hm]
      rw [this]; exact h128 _ (List.getElem_mem hm)
    have := UInt8.lt_iff_toNat_lt.1 h
    have e : (128 : UInt8).toNat = 128 := rfl
    omega
  obtain ⟨k, hk⟩ : ∃ k, k = (rstrip isSp l).length := ⟨_, rfl⟩
  rw [← hk] at HI hle ⊢
  clear hk hc h128 hl
  unfold isQPv at HI ⊢
  by_cases h0 : k = 0
  · subst h0
    clear hlast
    go_enter Tryd.func22, Tryd.ntmps22
    go_wp2_with fail
    refine HI.out.mono ?_
    rintro e w' ⟨rfl, rfl⟩
    go_wp2
    go_ret
    exact ⟨rfl, rfl⟩
  · obtain ⟨m, rfl⟩ : ∃ m, k = m + 1 := ⟨k - 1, by omega⟩
    obtain ⟨x, hx, hx1⟩ := hlast m (by omega)
    have e : (((m + 1 : Nat) : Int) - 1) = (m : Int) := by omega
    rw [e] at HI
    clear hlast h0 e
    go_enter Tryd.func22, Tryd.ntmps22
    go_wp2_with fail
    refine HI.out.mono ?_
    rintro e w' ⟨rfl, rfl⟩
    go_wp2
    go_ret
    exact ⟨rfl, rfl⟩
end
end Go.Proofs.YtcbolmendjocbaaDoor

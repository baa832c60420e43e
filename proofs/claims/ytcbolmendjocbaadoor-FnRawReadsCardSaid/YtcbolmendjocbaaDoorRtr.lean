/- bytes.TrimRightFunc at the Reader's white space, at all bytes (the shelf's contract). -/
import Derived.Test.YtcbolmendjocbaaDoorRd2
import Derived.Test.YtcbolmendjocbaaDoorShelf3
import Derived.Lib.TrimUEq
namespace Go.Proofs.YtcbolmendjocbaaDoor
open Go.RowKit Qp

/-- white space, as a rune -/
def spN (n : Nat) : Bool := n == 10 || n == 13 || n == 32 || n == 9
theorem spN_byte (b : UInt8) : spN b.toNat = isSp b := by
  have h : ∀ b : Fin 256, spN b.val = isSp (UInt8.ofNat b.val) := by decide +kernel
  have := h ⟨b.toNat, b.toNat_lt⟩
  simpa using this
theorem sp_hi {b : UInt8} (h : 128 ≤ b.toNat) : isSp b = false := by
  rw [← spN_byte]
  unfold spN
  simp only [Bool.or_eq_false_iff, beq_eq_false_iff_ne, ne_eq]
  omega
theorem decodeN_hi (n b0 b1 b2 b3 : Nat) (h0 : 128 ≤ b0) : 128 ≤ (Lib.decodeN n b0 b1 b2 b3).1 := by
  unfold Lib.decodeN
  repeat' split
  all_goals (simp only; omega)
theorem decodeL_lo (l : List UInt8) (h : (Lib.decodeL l).1 < 128) : (Lib.decodeL l).2 = 1 := by
  rw [Lib.decodeL_N] at h ⊢
  by_cases hb : (l.getD 0 0).toNat < 128
  · rw [Lib.decodeN_ascii _ _ _ _ _ hb]
  · have := decodeN_hi l.length (l.getD 0 0).toNat (l.getD 1 0).toNat (l.getD 2 0).toNat (l.getD 3 0).toNat (by omega)
    omega
/-- a last byte that is no ASCII byte ends a rune that is no white space -/
theorem last_sp (l : List UInt8) (i : Nat) (hi : 0 < i) (hil : i ≤ l.length) : spN (Lib.decodeLastL (l.take i)).1 = isSp (l.getD (i - 1) 0) ∧ (isSp (l.getD (i - 1) 0) = true → (Lib.decodeLastL (l.take i)).2 = 1) := by
  rcases Lib.last_cases l i hi hil with ⟨ha, hd⟩ | ⟨ha, hd⟩ | ⟨ha, st, hst, hd, hsum⟩
  · rw [hd]; exact ⟨spN_byte _, fun _ => rfl⟩
  · rw [hd]
    have : isSp (l.getD (i - 1) 0) = false := sp_hi ha
    exact ⟨by rw [this]; decide, fun _ => rfl⟩
  · have h1 : isSp (l.getD (i - 1) 0) = false := sp_hi ha
    refine ⟨?_, fun h => by rw [h1] at h; cases h⟩
    rw [h1, hd]
    have h2 : ¬ (Lib.decodeL ((l.take i).drop st)).1 < 128 := by
      intro hlt
      have h3 := decodeL_lo _ hlt
      rw [h3] at hsum
      obtain rfl : st = i - 1 := by omega
      rw [Lib.decodeL_N, Lib.getD_dropU, Nat.add_zero, Lib.getD_takeU l i _ hst] at hlt
      have := decodeN_hi ((l.take i).drop (i - 1)).length (l.getD (i - 1) 0).toNat (((l.take i).drop (i - 1)).getD 1 0).toNat (((l.take i).drop (i - 1)).getD 2 0).toNat (((l.take i).drop (i - 1)).getD 3 0).toNat ha
      omega
    unfold spN
    simp only [Bool.or_eq_false_iff, beq_eq_false_iff_ne, ne_eq]
    omega
theorem sp_open {b : UInt8} (h : isSp b = true) : b.toNat / 64 ≠ 2 := by
  have := spN_byte b
  rw [h] at this
  unfold spN at this
  simp at this
  omega

theorem right_go (s : ByteArray) : ∀ (f i : Nat), i ≤ f → i ≤ s.data.toList.length → Lib.OpenAt s.data.toList i → (∀ j, i ≤ j → j < s.data.toList.length → isSp (s.data.toList.getD j 0) = true) →
    (rstrip isSp s.data.toList).length = (if 0 ≤ Lib.lastIdxFuncFrom spN false s f i then (Lib.lastIdxFuncFrom spN false s f i).toNat + (Lib.decodeL (s.data.toList.drop (Lib.lastIdxFuncFrom spN false s f i).toNat)).2 else 0)
  | 0, i, hf, _, _, hsp => by
    obtain rfl : i = 0 := by omega
    rw [rstrip_at' _ 0 (Nat.zero_le _) hsp (.inl rfl)]
    simp [Lib.lastIdxFuncFrom]
  | f + 1, i, hf, hil, ho, hsp => by
    by_cases hi : 0 < i
    · have hlen : (s.data.toList.take i).length = i := by rw [List.length_take]; omega
      have hw := Lib.decodeLastL_width (s.data.toList.take i) (by omega)
      rw [hlen] at hw
      obtain ⟨h1, h2⟩ := last_sp s.data.toList i hi hil
      simp only [Lib.lastIdxFuncFrom, if_pos hi]
      rw [h1]
      cases hb : isSp (s.data.toList.getD (i - 1) 0) with
      | true =>
        rw [h2 hb]
        simp only [Bool.true_eq_false, ↓reduceIte]
        refine right_go s f (i - 1) (by omega) (by omega) (.inr (sp_open hb)) (fun j h3 h4 => ?_)
        by_cases e : j = i - 1
        · rw [e]; exact hb
        · exact hsp j (by omega) h4
      | false =>
        simp only [↓reduceIte]
        rw [if_pos (by omega), Int.toNat_natCast, Lib.fw_width _ i hi hil ho, Nat.sub_add_cancel hw.2, rstrip_at' _ i hil hsp (.inr hb), hlen]
    · obtain rfl : i = 0 := by omega
      rw [Lib.lastIdxFuncFrom_zero, rstrip_at' _ 0 (Nat.zero_le _) hsp (.inl rfl)]
      simp
theorem right_end (s : ByteArray) : Lib.rightEndF spN s = (rstrip isSp s.data.toList).length := by
  have h := right_go s s.size s.size (Nat.le_refl _) (by rw [← Lib.size_eq]; exact Nat.le_refl _) (.inl (Lib.size_eq s)) (fun j h1 h2 => absurd h2 (by rw [← Lib.size_eq]; omega))
  rw [h]
  have hr := lastIdx_lt spN false s s.size s.size (Nat.le_refl _)
  unfold Lib.rightEndF
  change (if 0 ≤ Lib.lastIdxFuncFrom spN false s s.size s.size then _ else _) = _
  split
  · rename_i h0
    obtain ⟨I, hI⟩ := Int.eq_ofNat_of_zero_le h0
    unfold Lib.lastIdxFunc
    rw [hI] at hr ⊢
    rw [Int.toNat_natCast]
    have hlt : I < s.size := by omega
    congr 1
    have hsz : (s.extract I s.size).size = s.size - I := by rw [Lib.tail_size]
    unfold Lib.decodeGoB
    rw [if_neg (by rw [hsz]; omega), ← Lib.decodeL_drop]
    congr 2
    rw [Lib.extract_eq, List.take_of_length_le (by rw [List.length_drop, ← Lib.size_eq]; exact Nat.le_refl _), List.drop_zero]
  · rfl

theorem isQP_rune (x : Nat) (w : World) : Calls Tryd.prog 23 #[.int .i32 x] w fun e w' => e = .returned (.bool (spN x)) ∧ w = w' := by
  have hs : spN x = ((x : Int) == 10 || (x : Int) == 13 || (x : Int) == 32 || (x : Int) == 9) := by
    unfold spN
    rw [Bool.eq_iff_iff]
    simp only [Bool.or_eq_true, beq_iff_eq]
    omega
  rw [hs]
  obtain ⟨n, hn⟩ : ∃ n : Int, n = x := ⟨_, rfl⟩
  rw [← hn]
  clear hn
  by_cases h1 : n = 10
  · subst h1
    go_enter Tryd.func23, Tryd.ntmps23
    go_wp2
    go_ret
    exact ⟨rfl, rfl⟩
  by_cases h2 : n = 13
  · subst h2
    go_enter Tryd.func23, Tryd.ntmps23
    go_wp2
    go_ret
    exact ⟨rfl, rfl⟩
  by_cases h3 : n = 32
  · subst h3
    go_enter Tryd.func23, Tryd.ntmps23
    go_wp2
    go_ret
    exact ⟨rfl, rfl⟩
  by_cases h4 : n = 9
  · subst h4
    go_enter Tryd.func23, Tryd.ntmps23
    go_wp2
    go_ret
    exact ⟨rfl, rfl⟩
  have e : (n == 10 || n == 13 || n == 32 || n == 9) = false := by simp [h1, h2, h3, h4]
  rw [e]
  have j1 : (n == 10) = false := by simpa using h1
  have j2 : (n == 13) = false := by simpa using h2
  have j3 : (n == 32) = false := by simpa using h3
  have j4 : (n == 9) = false := by simpa using h4
  clear e
  go_enter Tryd.func23, Tryd.ntmps23
  go_wp2
  go_ret
  exact ⟨rfl, rfl⟩

section
variable {b off n cap : Nat} {w : World} {l : List UInt8}
theorem trimR_all (hl : n = l.length) (hnc : n ≤ cap) (hcm : cap ≤ 9223372036854775807) (hc : ∀ k, k < n → w.cell? ⟨b, off + k, none⟩ = some (.int .u8 (l.getD k 0).toNat)) (hT : Lib.Utf8Tabs 6 7 w) :
    Calls Tryd.prog 22 #[.slice (some ⟨b, off, none⟩) n cap, isQPv] w fun e w' => e = .returned (.slice (some ⟨b, off, none⟩) (rstrip isSp l).length cap) ∧ Below w.heap.size w w' := by
  subst hl
  have h := Any7.bytes_TrimRightFunc Tryd.lays744 23 #[] (fun _ _ => rfl) spN ⟨l.toArray⟩ b off cap w (by simpa [Lib.size_eq] using hnc) (by rw [Lib.size_eq]; simp; omega) ?_ hT ?_
  · have e : (⟨l.toArray⟩ : ByteArray).size = l.length := by simp [Lib.size_eq]
    rw [e] at h
    refine h.mono ?_
    rintro e w' ⟨rfl, hb⟩
    refine ⟨?_, hb⟩
    unfold rightCut
    rw [right_end]
  · intro k hk
    have hk' : k < l.length := by simpa [Lib.size_eq] using hk
    rw [hc k hk', ← Lib.getD_get!']
  · intro W x _ _
    refine (isQP_rune x W).mono ?_
    rintro e w' ⟨rfl, rfl⟩
    exact ⟨rfl, Below.refl _ _⟩
end
end Go.Proofs.YtcbolmendjocbaaDoor

/- The walks of next, case by case (printed by gentok.py). -/
import Derived.Test.YtcbolmendjocbaaDoorTok
namespace Go.Proofs.YtcbolmendjocbaaDoor
open Go.RowKit Qp

section
variable {w : World} {b0 off n cap : Nat} {b : UInt8} {r : List UInt8}

set_option maxRecDepth 100000 in
set_option maxHeartbeats 1600000 in
theorem next_soft (h : Bs w (.slice (some ⟨b0, off, none⟩) n cap) (b :: r)) (hn : n = (b :: r).length) (hp1 : ([13, 10] : List UInt8).isPrefixOf (b :: r) = false) (hp2 : ([61, 13, 10] : List UInt8).isPrefixOf (b :: r) = true) :
    Calls Tryd.prog 10 #[.slice (some ⟨b0, off, none⟩) n cap] w (NextPost (some b0) (b :: r) w) := by
  have HNX := Lib.hid (next_p2 hp2)
  have kc1 := kconst (w.alloc (.cells #[.int .i64 0, .slice none 0 0, .slice none 0 0] 37)) (w.heap.size + 1) 2 2 3 (World.size_alloc _ _).symm #[.int .u8 13, .int .u8 10] rfl rfl
  have kc2 := kconst ((w.alloc (.cells #[.int .i64 0, .slice none 0 0, .slice none 0 0] 37)).alloc (.cells #[.int .u8 13, .int .u8 10] 5 (2, 3))) (w.heap.size + 2) 3 3 4 (by simp) #[.int .u8 61, .int .u8 13, .int .u8 10] rfl rfl
  have hc0 := h.cell0
  have ca : ∀ o, (w.alloc o).cell? ⟨b0, off, none⟩ = some (.int .u8 b.toNat) := fun o => below_cell ((Below.refl _ _).alloc (Nat.le_refl _) _) _ _ hc0
  have hn0 : 1 ≤ n := by rw [hn]; simp
  have hnc : n ≤ cap ∧ cap ≤ 9223372036854775807 := by
    obtain ⟨ao', cap', e, h2, h3, _⟩ := h
    injection e with e1 e2 e3
    omega
  obtain ⟨hnc1, hnc2⟩ := hnc
  have hb1 : Below w.heap.size w ((w.alloc (.cells #[.int .i64 0, .slice none 0 0, .slice none 0 0] 37)).alloc (.cells #[.int .u8 13, .int .u8 10] 5 (2, 3))) := ((Below.refl _ _).alloc (Nat.le_refl _) _).alloc (by rw [World.size_alloc]; omega) _
  have hf1 := hasPrefix_bs (h.below hb1) (lit_bs (w.alloc (.cells #[.int .i64 0, .slice none 0 0, .slice none 0 0] 37)) [13, 10] (2, 3) 2 rfl (by omega) #[.int .u8 13, .int .u8 10] rfl)
  rw [hp1, World.size_alloc] at hf1
  have hb2 : Below w.heap.size w (((w.alloc (.cells #[.int .i64 0, .slice none 0 0, .slice none 0 0] 37)).alloc (.cells #[.int .u8 13, .int .u8 10] 5 (2, 3))).alloc (.cells #[.int .u8 61, .int .u8 13, .int .u8 10] 5 (3, 4))) := hb1.alloc (by rw [World.size_alloc, World.size_alloc]; omega) _
  have hf2 := hasPrefix_bs (h.below hb2) (lit_bs ((w.alloc (.cells #[.int .i64 0, .slice none 0 0, .slice none 0 0] 37)).alloc (.cells #[.int .u8 13, .int .u8 10] 5 (2, 3))) [61, 13, 10] (3, 4) 3 rfl (by omega) #[.int .u8 61, .int .u8 13, .int .u8 10] rfl)
  rw [hp2, World.size_alloc, World.size_alloc] at hf2
  have HF2 := Lib.hid hf2
  clear hf2
  have HF1 := Lib.hid hf1
  clear hf1 hb1
  have hn2 : 3 ≤ n := by
    rw [hn]
    exact (List.isPrefixOf_iff_prefix.1 hp2).length_le
  obtain ⟨bx, hbx⟩ := byteFacts b
  obtain ⟨x, hx⟩ : ∃ x : Int, x = b.toNat := ⟨_, rfl⟩
  rw [← hx] at hc0 ca bx hbx
  have HX := Lib.hid hx
  clear hx
  have H := Lib.hid h
  have HN := Lib.hid hn
  clear h hn hp1 hp2 hb2
  have hend : NextPost (some b0) (b :: r) w (.returned (.agg #[.int .i64 4, .slice (some ⟨b0, off, none⟩) 3 cap, .slice none 0 0])) ((((w.alloc (.cells #[.int .i64 4, .slice (some ⟨b0, off, none⟩) 3 cap, .slice none 0 0] 37)).alloc (.cells #[.int .u8 13, .int .u8 10] 5 (2, 3))).alloc (.cells #[.int .u8 61, .int .u8 13, .int .u8 10] 5 (3, 4)))) := by
    have hb : Below w.heap.size w ((((w.alloc (.cells #[.int .i64 4, .slice (some ⟨b0, off, none⟩) 3 cap, .slice none 0 0] 37)).alloc (.cells #[.int .u8 13, .int .u8 10] 5 (2, 3))).alloc (.cells #[.int .u8 61, .int .u8 13, .int .u8 10] 5 (3, 4)))) := by
      refine Below.alloc ?_ (by simp only [World.size_alloc]; omega) _
      refine Below.alloc ?_ (by simp only [World.size_alloc]; omega) _
      exact Below.alloc (Below.refl _ _) (Nat.le_refl _) _
    refine ⟨.slice (some ⟨b0, off, none⟩) 3 cap, .slice none 0 0, ?_, ?_, ?_, hb, (fun g hg => .inl hg), (fun g hg => by cases hg)⟩
    · rw [HNX.out]; rfl
    · rw [HNX.out]; exact (Bs.take (H.out.below hb) 3 (by have := HN.out; omega))
    · rw [HNX.out]; exact bs_nil _
  have HE := Lib.hid hend
  clear hend
  go_enter Tryd.func10, Tryd.ntmps10
  go_wp2_with fail
  refine HF1.out.mono ?_
  rintro e w' ⟨rfl, rfl⟩
  go_wp2_with fail
  refine HF2.out.mono ?_
  rintro e w' ⟨rfl, rfl⟩
  go_wp2
  exact bodyPost_ret (v := .agg #[.int .i64 4, .slice (some ⟨b0, off, none⟩) 3 cap, .slice none 0 0]) (by simp [results, Tryd.results10, go_sem]) rfl HE.out

set_option maxRecDepth 100000 in
set_option maxHeartbeats 1600000 in
theorem next_sp (h : Bs w (.slice (some ⟨b0, off, none⟩) n cap) (32 :: r)) (hn : n = (32 :: r).length) (hp1 : ([13, 10] : List UInt8).isPrefixOf (32 :: r) = false) (hp2 : ([61, 13, 10] : List UInt8).isPrefixOf (32 :: r) = false) :
    Calls Tryd.prog 10 #[.slice (some ⟨b0, off, none⟩) n cap] w (NextPost (some b0) (32 :: r) w) := by
  have HNX := Lib.hid (next_other hp1 hp2)
  have kc1 := kconst (w.alloc (.cells #[.int .i64 0, .slice none 0 0, .slice none 0 0] 37)) (w.heap.size + 1) 2 2 3 (World.size_alloc _ _).symm #[.int .u8 13, .int .u8 10] rfl rfl
  have kc2 := kconst ((w.alloc (.cells #[.int .i64 0, .slice none 0 0, .slice none 0 0] 37)).alloc (.cells #[.int .u8 13, .int .u8 10] 5 (2, 3))) (w.heap.size + 2) 3 3 4 (by simp) #[.int .u8 61, .int .u8 13, .int .u8 10] rfl rfl
  have hc0 := h.cell0
  have ca : ∀ o, (w.alloc o).cell? ⟨b0, off, none⟩ = some (.int .u8 (32 : UInt8).toNat) := fun o => below_cell ((Below.refl _ _).alloc (Nat.le_refl _) _) _ _ hc0
  have hn0 : 1 ≤ n := by rw [hn]; simp
  have hnc : n ≤ cap ∧ cap ≤ 9223372036854775807 := by
    obtain ⟨ao', cap', e, h2, h3, _⟩ := h
    injection e with e1 e2 e3
    omega
  obtain ⟨hnc1, hnc2⟩ := hnc
  have hb1 : Below w.heap.size w ((w.alloc (.cells #[.int .i64 0, .slice none 0 0, .slice none 0 0] 37)).alloc (.cells #[.int .u8 13, .int .u8 10] 5 (2, 3))) := ((Below.refl _ _).alloc (Nat.le_refl _) _).alloc (by rw [World.size_alloc]; omega) _
  have hf1 := hasPrefix_bs (h.below hb1) (lit_bs (w.alloc (.cells #[.int .i64 0, .slice none 0 0, .slice none 0 0] 37)) [13, 10] (2, 3) 2 rfl (by omega) #[.int .u8 13, .int .u8 10] rfl)
  rw [hp1, World.size_alloc] at hf1
  have hb2 : Below w.heap.size w (((w.alloc (.cells #[.int .i64 0, .slice none 0 0, .slice none 0 0] 37)).alloc (.cells #[.int .u8 13, .int .u8 10] 5 (2, 3))).alloc (.cells #[.int .u8 61, .int .u8 13, .int .u8 10] 5 (3, 4))) := hb1.alloc (by rw [World.size_alloc, World.size_alloc]; omega) _
  have hf2 := hasPrefix_bs (h.below hb2) (lit_bs ((w.alloc (.cells #[.int .i64 0, .slice none 0 0, .slice none 0 0] 37)).alloc (.cells #[.int .u8 13, .int .u8 10] 5 (2, 3))) [61, 13, 10] (3, 4) 3 rfl (by omega) #[.int .u8 61, .int .u8 13, .int .u8 10] rfl)
  rw [hp2, World.size_alloc, World.size_alloc] at hf2
  have HF2 := Lib.hid hf2
  clear hf2
  have HF1 := Lib.hid hf1
  clear hf1 hb1
  have hx : (((32 : UInt8).toNat : Nat) : Int) = 32 := by decide
  rw [hx] at hc0 ca
  clear hx
  have H := Lib.hid h
  have HN := Lib.hid hn
  clear h hn hp1 hp2 hb2
  have hend : NextPost (some b0) (32 :: r) w (.returned (.agg #[.int .i64 2, .slice (some ⟨b0, off, none⟩) 1 cap, .slice (some ⟨b0, off, none⟩) 1 cap])) ((((w.alloc (.cells #[.int .i64 2, .slice (some ⟨b0, off, none⟩) 1 cap, .slice (some ⟨b0, off, none⟩) 1 cap] 37)).alloc (.cells #[.int .u8 13, .int .u8 10] 5 (2, 3))).alloc (.cells #[.int .u8 61, .int .u8 13, .int .u8 10] 5 (3, 4))).drew) := by
    have hb : Below w.heap.size w ((((w.alloc (.cells #[.int .i64 2, .slice (some ⟨b0, off, none⟩) 1 cap, .slice (some ⟨b0, off, none⟩) 1 cap] 37)).alloc (.cells #[.int .u8 13, .int .u8 10] 5 (2, 3))).alloc (.cells #[.int .u8 61, .int .u8 13, .int .u8 10] 5 (3, 4))).drew) := by
      refine Below.drew ?_
      refine Below.alloc ?_ (by simp only [World.size_alloc]; omega) _
      refine Below.alloc ?_ (by simp only [World.size_alloc]; omega) _
      exact Below.alloc (Below.refl _ _) (Nat.le_refl _) _
    refine ⟨.slice (some ⟨b0, off, none⟩) 1 cap, .slice (some ⟨b0, off, none⟩) 1 cap, ?_, ?_, ?_, hb, (fun g hg => .inl hg), (fun g hg => .inl hg)⟩
    · rw [HNX.out]; rfl
    · rw [HNX.out]; exact (Bs.take (H.out.below hb) 1 (by have := HN.out; simp at this ⊢; try omega))
    · rw [HNX.out]; exact (Bs.take (H.out.below hb) 1 (by have := HN.out; simp at this ⊢; try omega))
  have HE := Lib.hid hend
  clear hend
  go_enter Tryd.func10, Tryd.ntmps10
  go_wp2_with fail
  refine HF1.out.mono ?_
  rintro e w' ⟨rfl, rfl⟩
  go_wp2_with fail
  refine HF2.out.mono ?_
  rintro e w' ⟨rfl, rfl⟩
  go_wp2
  go_region
  go_wp2
  exact bodyPost_ret (v := .agg #[.int .i64 2, .slice (some ⟨b0, off, none⟩) 1 cap, .slice (some ⟨b0, off, none⟩) 1 cap]) (by simp [results, Tryd.results10, go_sem]) rfl HE.out

set_option maxRecDepth 100000 in
set_option maxHeartbeats 1600000 in
theorem next_tab (h : Bs w (.slice (some ⟨b0, off, none⟩) n cap) (9 :: r)) (hn : n = (9 :: r).length) (hp1 : ([13, 10] : List UInt8).isPrefixOf (9 :: r) = false) (hp2 : ([61, 13, 10] : List UInt8).isPrefixOf (9 :: r) = false) :
    Calls Tryd.prog 10 #[.slice (some ⟨b0, off, none⟩) n cap] w (NextPost (some b0) (9 :: r) w) := by
  have HNX := Lib.hid (next_other hp1 hp2)
  have kc1 := kconst (w.alloc (.cells #[.int .i64 0, .slice none 0 0, .slice none 0 0] 37)) (w.heap.size + 1) 2 2 3 (World.size_alloc _ _).symm #[.int .u8 13, .int .u8 10] rfl rfl
  have kc2 := kconst ((w.alloc (.cells #[.int .i64 0, .slice none 0 0, .slice none 0 0] 37)).alloc (.cells #[.int .u8 13, .int .u8 10] 5 (2, 3))) (w.heap.size + 2) 3 3 4 (by simp) #[.int .u8 61, .int .u8 13, .int .u8 10] rfl rfl
  have hc0 := h.cell0
  have ca : ∀ o, (w.alloc o).cell? ⟨b0, off, none⟩ = some (.int .u8 (9 : UInt8).toNat) := fun o => below_cell ((Below.refl _ _).alloc (Nat.le_refl _) _) _ _ hc0
  have hn0 : 1 ≤ n := by rw [hn]; simp
  have hnc : n ≤ cap ∧ cap ≤ 9223372036854775807 := by
    obtain ⟨ao', cap', e, h2, h3, _⟩ := h
    injection e with e1 e2 e3
    omega
  obtain ⟨hnc1, hnc2⟩ := hnc
  have hb1 : Below w.heap.size w ((w.alloc (.cells #[.int .i64 0, .slice none 0 0, .slice none 0 0] 37)).alloc (.cells #[.int .u8 13, .int .u8 10] 5 (2, 3))) := ((Below.refl _ _).alloc (Nat.le_refl _) _).alloc (by rw [World.size_alloc]; omega) _
  have hf1 := hasPrefix_bs (h.below hb1) (lit_bs (w.alloc (.cells #[.int .i64 0, .slice none 0 0, .slice none 0 0] 37)) [13, 10] (2, 3) 2 rfl (by omega) #[.int .u8 13, .int .u8 10] rfl)
  rw [hp1, World.size_alloc] at hf1
  have hb2 : Below w.heap.size w (((w.alloc (.cells #[.int .i64 0, .slice none 0 0, .slice none 0 0] 37)).alloc (.cells #[.int .u8 13, .int .u8 10] 5 (2, 3))).alloc (.cells #[.int .u8 61, .int .u8 13, .int .u8 10] 5 (3, 4))) := hb1.alloc (by rw [World.size_alloc, World.size_alloc]; omega) _
  have hf2 := hasPrefix_bs (h.below hb2) (lit_bs ((w.alloc (.cells #[.int .i64 0, .slice none 0 0, .slice none 0 0] 37)).alloc (.cells #[.int .u8 13, .int .u8 10] 5 (2, 3))) [61, 13, 10] (3, 4) 3 rfl (by omega) #[.int .u8 61, .int .u8 13, .int .u8 10] rfl)
  rw [hp2, World.size_alloc, World.size_alloc] at hf2
  have HF2 := Lib.hid hf2
  clear hf2
  have HF1 := Lib.hid hf1
  clear hf1 hb1
  have hx : (((9 : UInt8).toNat : Nat) : Int) = 9 := by decide
  rw [hx] at hc0 ca
  clear hx
  have H := Lib.hid h
  have HN := Lib.hid hn
  clear h hn hp1 hp2 hb2
  have hend : NextPost (some b0) (9 :: r) w (.returned (.agg #[.int .i64 2, .slice (some ⟨b0, off, none⟩) 1 cap, .slice (some ⟨b0, off, none⟩) 1 cap])) ((((w.alloc (.cells #[.int .i64 2, .slice (some ⟨b0, off, none⟩) 1 cap, .slice (some ⟨b0, off, none⟩) 1 cap] 37)).alloc (.cells #[.int .u8 13, .int .u8 10] 5 (2, 3))).alloc (.cells #[.int .u8 61, .int .u8 13, .int .u8 10] 5 (3, 4))).drew) := by
    have hb : Below w.heap.size w ((((w.alloc (.cells #[.int .i64 2, .slice (some ⟨b0, off, none⟩) 1 cap, .slice (some ⟨b0, off, none⟩) 1 cap] 37)).alloc (.cells #[.int .u8 13, .int .u8 10] 5 (2, 3))).alloc (.cells #[.int .u8 61, .int .u8 13, .int .u8 10] 5 (3, 4))).drew) := by
      refine Below.drew ?_
      refine Below.alloc ?_ (by simp only [World.size_alloc]; omega) _
      refine Below.alloc ?_ (by simp only [World.size_alloc]; omega) _
      exact Below.alloc (Below.refl _ _) (Nat.le_refl _) _
    refine ⟨.slice (some ⟨b0, off, none⟩) 1 cap, .slice (some ⟨b0, off, none⟩) 1 cap, ?_, ?_, ?_, hb, (fun g hg => .inl hg), (fun g hg => .inl hg)⟩
    · rw [HNX.out]; rfl
    · rw [HNX.out]; exact (Bs.take (H.out.below hb) 1 (by have := HN.out; simp at this ⊢; try omega))
    · rw [HNX.out]; exact (Bs.take (H.out.below hb) 1 (by have := HN.out; simp at this ⊢; try omega))
  have HE := Lib.hid hend
  clear hend
  go_enter Tryd.func10, Tryd.ntmps10
  go_wp2_with fail
  refine HF1.out.mono ?_
  rintro e w' ⟨rfl, rfl⟩
  go_wp2_with fail
  refine HF2.out.mono ?_
  rintro e w' ⟨rfl, rfl⟩
  go_wp2
  go_region
  go_wp2
  exact bodyPost_ret (v := .agg #[.int .i64 2, .slice (some ⟨b0, off, none⟩) 1 cap, .slice (some ⟨b0, off, none⟩) 1 cap]) (by simp [results, Tryd.results10, go_sem]) rfl HE.out

theorem next_lit {b : UInt8} {r : List UInt8} (h1 : ([13, 10] : List UInt8).isPrefixOf (b :: r) = false) (h2 : ([61, 13, 10] : List UInt8).isPrefixOf (b :: r) = false)
    (h33 : 33 ≤ (b.toNat : Int)) (h126 : (b.toNat : Int) ≤ 126) (h61 : (b.toNat : Int) ≠ 61) : next (b :: r) = ⟨1, [b], [b]⟩ := by
  rw [next_other h1 h2]
  have e1 : (b == 32) = false := by rw [beq_eq_false_iff_ne]; rintro rfl; simp at h33
  have e2 : (b == 9) = false := by rw [beq_eq_false_iff_ne]; rintro rfl; simp at h33
  have e3 : (b == 61) = false := by rw [beq_eq_false_iff_ne]; rintro rfl; simp at h61
  have e4 : 32 < b := by rw [UInt8.lt_iff_toNat_lt]; simp; omega
  have e5 : b ≤ 126 := by rw [UInt8.le_iff_toNat_le]; simp; omega
  simp [e1, e2, e3, e4, e5]
theorem next_none {b : UInt8} {r : List UInt8} (h1 : ([13, 10] : List UInt8).isPrefixOf (b :: r) = false) (h2 : ([61, 13, 10] : List UInt8).isPrefixOf (b :: r) = false)
    (h33 : (b.toNat : Int) < 32 ∨ 126 < (b.toNat : Int)) (h9 : (b.toNat : Int) ≠ 9) : next (b :: r) = Tok.none := by
  rw [next_other h1 h2]
  have e1 : (b == 32) = false := by rw [beq_eq_false_iff_ne]; rintro rfl; simp at h33
  have e2 : (b == 9) = false := by rw [beq_eq_false_iff_ne]; rintro rfl; simp at h9
  have e3 : (b == 61) = false := by rw [beq_eq_false_iff_ne]; rintro rfl; simp at h33
  have e4 : (32 < b && b ≤ 126) = false := by
    rw [Bool.and_eq_false_iff, decide_eq_false_iff_not, decide_eq_false_iff_not, UInt8.lt_iff_toNat_lt, UInt8.le_iff_toNat_le]; simp; omega
  rw [if_neg (by rw [e1, e2]; decide), if_neg (by rw [e3]; decide), if_neg (by rw [e4]; decide)]

theorem next_eq {r : List UInt8} (h1 : ([13, 10] : List UInt8).isPrefixOf (61 :: r) = false) (h2 : ([61, 13, 10] : List UInt8).isPrefixOf (61 :: r) = false) : next (61 :: r) = nextEsc r := by
  rw [next_other h1 h2]; rfl
theorem next_eqs {r : List UInt8} (h1 : ([13, 10] : List UInt8).isPrefixOf (61 :: r) = false) (h2 : ([61, 13, 10] : List UInt8).isPrefixOf (61 :: r) = false) (h3 : (61 :: r).length ≤ 2) : next (61 :: r) = Tok.none := by
  rw [next_eq h1 h2]
  match r, h3 with
  | [], _ => rfl
  | [_], _ => rfl
  | _ :: _ :: _, h => simp at h
theorem hexI_none {b : UInt8} (h : hexI b < 0) : hexV b = none := by
  unfold hexI at h
  split at h
  · omega
  · assumption
theorem hexI_some {b : UInt8} (h : 0 ≤ hexI b) : hexV b = some (hexI b).toNat := by
  unfold hexI at h ⊢
  split at h
  · rename_i hq; rw [hq]; simp
  · omega
theorem hexI_le : ∀ b : UInt8, hexI b ≤ 15 := u8_all (by decide +kernel)
theorem next_h1 {x y : UInt8} {r : List UInt8} (h1 : ([13, 10] : List UInt8).isPrefixOf (61 :: x :: y :: r) = false) (h2 : ([61, 13, 10] : List UInt8).isPrefixOf (61 :: x :: y :: r) = false) (h : hexI x < 0 ∨ hexI y < 0) : next (61 :: x :: y :: r) = Tok.none := by
  rw [next_eq h1 h2, nextEsc]
  rcases h with h | h
  · rw [hexI_none h]
  · rw [hexI_none h]
    split <;> simp_all
theorem hexcell (W : World) (m : Nat) (hm : m = W.heap.size) (hX hY : Int) (h1 : 0 ≤ hX) (h2 : 0 ≤ hY) (h3 : hX ≤ 15) (h4 : hY ≤ 15) : Bs ((W.alloc (.cells #[.int .u8 (IntKind.u8.wrap (IntKind.i64.wrap (IntKind.i64.wrap (hX * 16) + hY)))] 5)).drew) (.slice (some ⟨m, 0, none⟩) 1 1) [UInt8.ofNat (hX.toNat * 16 + hY.toNat)] := by
  subst hm
  refine ⟨some ⟨W.heap.size, 0, none⟩, 1, rfl, Nat.le_refl _, by omega, (fun h => by cases h), fun _ => ⟨W.heap.size, 0, rfl, fun k hk => ?_⟩⟩
  have hk0 : k = 0 := by simp at hk; omega
  subst hk0
  have e1 : IntKind.u8.wrap (IntKind.i64.wrap (IntKind.i64.wrap (hX * 16) + hY)) = hX * 16 + hY := by
    simp only [IntKind.wrap_i64, IntKind.wrap_u8]
    omega
  rw [Lib.cell_of_heap (show ((W.alloc _).drew).heap[_]? = _ from heap_alloc_new W _)]
  simp [e1]
  omega
theorem next_h2 {x y : UInt8} {r : List UInt8} (h1 : ([13, 10] : List UInt8).isPrefixOf (61 :: x :: y :: r) = false) (h2 : ([61, 13, 10] : List UInt8).isPrefixOf (61 :: x :: y :: r) = false) (h : 0 ≤ hexI x) (h' : 0 ≤ hexI y) :
    next (61 :: x :: y :: r) = ⟨3, [61, x, y], [UInt8.ofNat ((hexI x).toNat * 16 + (hexI y).toNat)]⟩ := by
  rw [next_eq h1 h2, nextEsc, hexI_some h, hexI_some h']

theorem Bs.cells12 {w : World} {b0 off n cap : Nat} {b x y : UInt8} {r : List UInt8} (h : Bs w (.slice (some ⟨b0, off, none⟩) n cap) (b :: x :: y :: r)) :
    w.cell? ⟨b0, off + 1, none⟩ = some (.int .u8 x.toNat) ∧ w.cell? ⟨b0, off + 2, none⟩ = some (.int .u8 y.toNat) := by
  obtain ⟨ao', cap', e, h2, h3, h4, h5⟩ := h
  injection e with e1 e2 e3
  obtain ⟨b1, o, e4, h7⟩ := h5 (by simp)
  rw [← e1] at e4
  injection e4 with e4
  injection e4 with e5 e6
  subst e5; subst e6
  exact ⟨h7 1 (by simp), h7 2 (by simp)⟩

set_option maxRecDepth 100000 in
set_option maxHeartbeats 1600000 in
theorem next_litw (h : Bs w (.slice (some ⟨b0, off, none⟩) n cap) (b :: r)) (hn : n = (b :: r).length) (hp1 : ([13, 10] : List UInt8).isPrefixOf (b :: r) = false) (hp2 : ([61, 13, 10] : List UInt8).isPrefixOf (b :: r) = false) (h33 : 33 ≤ (b.toNat : Int)) (h126 : (b.toNat : Int) ≤ 126) (h61 : (b.toNat : Int) ≠ 61) :
    Calls Tryd.prog 10 #[.slice (some ⟨b0, off, none⟩) n cap] w (NextPost (some b0) (b :: r) w) := by
  have HNX := Lib.hid (next_lit hp1 hp2 h33 h126 h61)
  have kc1 := kconst (w.alloc (.cells #[.int .i64 0, .slice none 0 0, .slice none 0 0] 37)) (w.heap.size + 1) 2 2 3 (World.size_alloc _ _).symm #[.int .u8 13, .int .u8 10] rfl rfl
  have kc2 := kconst ((w.alloc (.cells #[.int .i64 0, .slice none 0 0, .slice none 0 0] 37)).alloc (.cells #[.int .u8 13, .int .u8 10] 5 (2, 3))) (w.heap.size + 2) 3 3 4 (by simp) #[.int .u8 61, .int .u8 13, .int .u8 10] rfl rfl
  have hc0 := h.cell0
  have ca : ∀ o, (w.alloc o).cell? ⟨b0, off, none⟩ = some (.int .u8 b.toNat) := fun o => below_cell ((Below.refl _ _).alloc (Nat.le_refl _) _) _ _ hc0
  have hn0 : 1 ≤ n := by rw [hn]; simp
  have hnc : n ≤ cap ∧ cap ≤ 9223372036854775807 := by
    obtain ⟨ao', cap', e, h2, h3, _⟩ := h
    injection e with e1 e2 e3
    omega
  obtain ⟨hnc1, hnc2⟩ := hnc
  have hb1 : Below w.heap.size w ((w.alloc (.cells #[.int .i64 0, .slice none 0 0, .slice none 0 0] 37)).alloc (.cells #[.int .u8 13, .int .u8 10] 5 (2, 3))) := ((Below.refl _ _).alloc (Nat.le_refl _) _).alloc (by rw [World.size_alloc]; omega) _
  have hf1 := hasPrefix_bs (h.below hb1) (lit_bs (w.alloc (.cells #[.int .i64 0, .slice none 0 0, .slice none 0 0] 37)) [13, 10] (2, 3) 2 rfl (by omega) #[.int .u8 13, .int .u8 10] rfl)
  rw [hp1, World.size_alloc] at hf1
  have hb2 : Below w.heap.size w (((w.alloc (.cells #[.int .i64 0, .slice none 0 0, .slice none 0 0] 37)).alloc (.cells #[.int .u8 13, .int .u8 10] 5 (2, 3))).alloc (.cells #[.int .u8 61, .int .u8 13, .int .u8 10] 5 (3, 4))) := hb1.alloc (by rw [World.size_alloc, World.size_alloc]; omega) _
  have hf2 := hasPrefix_bs (h.below hb2) (lit_bs ((w.alloc (.cells #[.int .i64 0, .slice none 0 0, .slice none 0 0] 37)).alloc (.cells #[.int .u8 13, .int .u8 10] 5 (2, 3))) [61, 13, 10] (3, 4) 3 rfl (by omega) #[.int .u8 61, .int .u8 13, .int .u8 10] rfl)
  rw [hp2, World.size_alloc, World.size_alloc] at hf2
  have HF2 := Lib.hid hf2
  clear hf2
  have HF1 := Lib.hid hf1
  clear hf1 hb1
  obtain ⟨bx, hbx⟩ := byteFacts b
  obtain ⟨x, hx⟩ : ∃ x : Int, x = b.toNat := ⟨_, rfl⟩
  rw [← hx] at hc0 ca bx hbx h33 h126 h61
  have HX := Lib.hid hx
  clear hx
  have n1 : ¬ x = 32 := by omega
  have n2 : ¬ x = 9 := by omega
  have n3 : ¬ x = 61 := by omega
  have n1b : (x == 32) = false := beq_eq_false_iff_ne.2 n1
  have n2b : (x == 9) = false := beq_eq_false_iff_ne.2 n2
  have n3b : (x == 61) = false := beq_eq_false_iff_ne.2 n3
  have H := Lib.hid h
  have HN := Lib.hid hn
  clear h hn hp1 hp2 hb2
  have hend : NextPost (some b0) (b :: r) w (.returned (.agg #[.int .i64 1, .slice (some ⟨b0, off, none⟩) 1 cap, .slice (some ⟨b0, off, none⟩) 1 cap])) ((((w.alloc (.cells #[.int .i64 1, .slice (some ⟨b0, off, none⟩) 1 cap, .slice (some ⟨b0, off, none⟩) 1 cap] 37)).alloc (.cells #[.int .u8 13, .int .u8 10] 5 (2, 3))).alloc (.cells #[.int .u8 61, .int .u8 13, .int .u8 10] 5 (3, 4))).drew) := by
    have hb : Below w.heap.size w ((((w.alloc (.cells #[.int .i64 1, .slice (some ⟨b0, off, none⟩) 1 cap, .slice (some ⟨b0, off, none⟩) 1 cap] 37)).alloc (.cells #[.int .u8 13, .int .u8 10] 5 (2, 3))).alloc (.cells #[.int .u8 61, .int .u8 13, .int .u8 10] 5 (3, 4))).drew) := by
      refine Below.drew ?_
      refine Below.alloc ?_ (by simp only [World.size_alloc]; omega) _
      refine Below.alloc ?_ (by simp only [World.size_alloc]; omega) _
      exact Below.alloc (Below.refl _ _) (Nat.le_refl _) _
    refine ⟨.slice (some ⟨b0, off, none⟩) 1 cap, .slice (some ⟨b0, off, none⟩) 1 cap, ?_, ?_, ?_, hb, (fun g hg => .inl hg), (fun g hg => .inl hg)⟩
    · rw [HNX.out]; rfl
    · rw [HNX.out]; exact (Bs.take (H.out.below hb) 1 (by have := HN.out; simp at this ⊢; try omega))
    · rw [HNX.out]; exact (Bs.take (H.out.below hb) 1 (by have := HN.out; simp at this ⊢; try omega))
  have HE := Lib.hid hend
  clear hend
  go_enter Tryd.func10, Tryd.ntmps10
  go_wp2_with fail
  refine HF1.out.mono ?_
  rintro e w' ⟨rfl, rfl⟩
  go_wp2_with fail
  refine HF2.out.mono ?_
  rintro e w' ⟨rfl, rfl⟩
  go_wp2
  go_region
  go_wp2
  exact bodyPost_ret (v := .agg #[.int .i64 1, .slice (some ⟨b0, off, none⟩) 1 cap, .slice (some ⟨b0, off, none⟩) 1 cap]) (by simp [results, Tryd.results10, go_sem]) rfl HE.out

set_option maxRecDepth 100000 in
set_option maxHeartbeats 1600000 in
theorem next_low (h : Bs w (.slice (some ⟨b0, off, none⟩) n cap) (b :: r)) (hn : n = (b :: r).length) (hp1 : ([13, 10] : List UInt8).isPrefixOf (b :: r) = false) (hp2 : ([61, 13, 10] : List UInt8).isPrefixOf (b :: r) = false) (h33 : (b.toNat : Int) < 32) (h9 : (b.toNat : Int) ≠ 9) :
    Calls Tryd.prog 10 #[.slice (some ⟨b0, off, none⟩) n cap] w (NextPost (some b0) (b :: r) w) := by
  have HNX := Lib.hid (next_none hp1 hp2 (.inl h33) h9)
  have kc1 := kconst (w.alloc (.cells #[.int .i64 0, .slice none 0 0, .slice none 0 0] 37)) (w.heap.size + 1) 2 2 3 (World.size_alloc _ _).symm #[.int .u8 13, .int .u8 10] rfl rfl
  have kc2 := kconst ((w.alloc (.cells #[.int .i64 0, .slice none 0 0, .slice none 0 0] 37)).alloc (.cells #[.int .u8 13, .int .u8 10] 5 (2, 3))) (w.heap.size + 2) 3 3 4 (by simp) #[.int .u8 61, .int .u8 13, .int .u8 10] rfl rfl
  have hc0 := h.cell0
  have ca : ∀ o, (w.alloc o).cell? ⟨b0, off, none⟩ = some (.int .u8 b.toNat) := fun o => below_cell ((Below.refl _ _).alloc (Nat.le_refl _) _) _ _ hc0
  have hn0 : 1 ≤ n := by rw [hn]; simp
  have hnc : n ≤ cap ∧ cap ≤ 9223372036854775807 := by
    obtain ⟨ao', cap', e, h2, h3, _⟩ := h
    injection e with e1 e2 e3
    omega
  obtain ⟨hnc1, hnc2⟩ := hnc
  have hb1 : Below w.heap.size w ((w.alloc (.cells #[.int .i64 0, .slice none 0 0, .slice none 0 0] 37)).alloc (.cells #[.int .u8 13, .int .u8 10] 5 (2, 3))) := ((Below.refl _ _).alloc (Nat.le_refl _) _).alloc (by rw [World.size_alloc]; omega) _
  have hf1 := hasPrefix_bs (h.below hb1) (lit_bs (w.alloc (.cells #[.int .i64 0, .slice none 0 0, .slice none 0 0] 37)) [13, 10] (2, 3) 2 rfl (by omega) #[.int .u8 13, .int .u8 10] rfl)
  rw [hp1, World.size_alloc] at hf1
  have hb2 : Below w.heap.size w (((w.alloc (.cells #[.int .i64 0, .slice none 0 0, .slice none 0 0] 37)).alloc (.cells #[.int .u8 13, .int .u8 10] 5 (2, 3))).alloc (.cells #[.int .u8 61, .int .u8 13, .int .u8 10] 5 (3, 4))) := hb1.alloc (by rw [World.size_alloc, World.size_alloc]; omega) _
  have hf2 := hasPrefix_bs (h.below hb2) (lit_bs ((w.alloc (.cells #[.int .i64 0, .slice none 0 0, .slice none 0 0] 37)).alloc (.cells #[.int .u8 13, .int .u8 10] 5 (2, 3))) [61, 13, 10] (3, 4) 3 rfl (by omega) #[.int .u8 61, .int .u8 13, .int .u8 10] rfl)
  rw [hp2, World.size_alloc, World.size_alloc] at hf2
  have HF2 := Lib.hid hf2
  clear hf2
  have HF1 := Lib.hid hf1
  clear hf1 hb1
  obtain ⟨bx, hbx⟩ := byteFacts b
  obtain ⟨x, hx⟩ : ∃ x : Int, x = b.toNat := ⟨_, rfl⟩
  rw [← hx] at hc0 ca bx hbx h33 h9
  have HX := Lib.hid hx
  clear hx
  have n1 : ¬ x = 32 := by omega
  have n2 : ¬ x = 9 := by omega
  have n3 : ¬ x = 61 := by omega
  have n1b : (x == 32) = false := beq_eq_false_iff_ne.2 n1
  have n2b : (x == 9) = false := beq_eq_false_iff_ne.2 n2
  have n3b : (x == 61) = false := beq_eq_false_iff_ne.2 n3
  have n4 : ¬ 32 < x := by omega
  have H := Lib.hid h
  have HN := Lib.hid hn
  clear h hn hp1 hp2 hb2
  have hend : NextPost (some b0) (b :: r) w (.returned (.agg #[.int .i64 0, .slice none 0 0, .slice none 0 0])) ((((w.alloc (.cells #[.int .i64 0, .slice none 0 0, .slice none 0 0] 37)).alloc (.cells #[.int .u8 13, .int .u8 10] 5 (2, 3))).alloc (.cells #[.int .u8 61, .int .u8 13, .int .u8 10] 5 (3, 4)))) := by
    have hb : Below w.heap.size w ((((w.alloc (.cells #[.int .i64 0, .slice none 0 0, .slice none 0 0] 37)).alloc (.cells #[.int .u8 13, .int .u8 10] 5 (2, 3))).alloc (.cells #[.int .u8 61, .int .u8 13, .int .u8 10] 5 (3, 4)))) := by
      refine Below.alloc ?_ (by simp only [World.size_alloc]; omega) _
      refine Below.alloc ?_ (by simp only [World.size_alloc]; omega) _
      exact Below.alloc (Below.refl _ _) (Nat.le_refl _) _
    refine ⟨.slice none 0 0, .slice none 0 0, ?_, ?_, ?_, hb, (fun g hg => by cases hg), (fun g hg => by cases hg)⟩
    · rw [HNX.out]; rfl
    · rw [HNX.out]; exact bs_nil _
    · rw [HNX.out]; exact bs_nil _
  have HE := Lib.hid hend
  clear hend
  go_enter Tryd.func10, Tryd.ntmps10
  go_wp2_with fail
  refine HF1.out.mono ?_
  rintro e w' ⟨rfl, rfl⟩
  go_wp2_with fail
  refine HF2.out.mono ?_
  rintro e w' ⟨rfl, rfl⟩
  go_wp2
  exact bodyPost_ret (v := .agg #[.int .i64 0, .slice none 0 0, .slice none 0 0]) (by simp [results, Tryd.results10, go_sem]) rfl HE.out

set_option maxRecDepth 100000 in
set_option maxHeartbeats 1600000 in
theorem next_high (h : Bs w (.slice (some ⟨b0, off, none⟩) n cap) (b :: r)) (hn : n = (b :: r).length) (hp1 : ([13, 10] : List UInt8).isPrefixOf (b :: r) = false) (hp2 : ([61, 13, 10] : List UInt8).isPrefixOf (b :: r) = false) (h33 : 126 < (b.toNat : Int)) :
    Calls Tryd.prog 10 #[.slice (some ⟨b0, off, none⟩) n cap] w (NextPost (some b0) (b :: r) w) := by
  have HNX := Lib.hid (next_none hp1 hp2 (.inr h33) (by omega))
  have kc1 := kconst (w.alloc (.cells #[.int .i64 0, .slice none 0 0, .slice none 0 0] 37)) (w.heap.size + 1) 2 2 3 (World.size_alloc _ _).symm #[.int .u8 13, .int .u8 10] rfl rfl
  have kc2 := kconst ((w.alloc (.cells #[.int .i64 0, .slice none 0 0, .slice none 0 0] 37)).alloc (.cells #[.int .u8 13, .int .u8 10] 5 (2, 3))) (w.heap.size + 2) 3 3 4 (by simp) #[.int .u8 61, .int .u8 13, .int .u8 10] rfl rfl
  have hc0 := h.cell0
  have ca : ∀ o, (w.alloc o).cell? ⟨b0, off, none⟩ = some (.int .u8 b.toNat) := fun o => below_cell ((Below.refl _ _).alloc (Nat.le_refl _) _) _ _ hc0
  have hn0 : 1 ≤ n := by rw [hn]; simp
  have hnc : n ≤ cap ∧ cap ≤ 9223372036854775807 := by
    obtain ⟨ao', cap', e, h2, h3, _⟩ := h
    injection e with e1 e2 e3
    omega
  obtain ⟨hnc1, hnc2⟩ := hnc
  have hb1 : Below w.heap.size w ((w.alloc (.cells #[.int .i64 0, .slice none 0 0, .slice none 0 0] 37)).alloc (.cells #[.int .u8 13, .int .u8 10] 5 (2, 3))) := ((Below.refl _ _).alloc (Nat.le_refl _) _).alloc (by rw [World.size_alloc]; omega) _
  have hf1 := hasPrefix_bs (h.below hb1) (lit_bs (w.alloc (.cells #[.int .i64 0, .slice none 0 0, .slice none 0 0] 37)) [13, 10] (2, 3) 2 rfl (by omega) #[.int .u8 13, .int .u8 10] rfl)
  rw [hp1, World.size_alloc] at hf1
  have hb2 : Below w.heap.size w (((w.alloc (.cells #[.int .i64 0, .slice none 0 0, .slice none 0 0] 37)).alloc (.cells #[.int .u8 13, .int .u8 10] 5 (2, 3))).alloc (.cells #[.int .u8 61, .int .u8 13, .int .u8 10] 5 (3, 4))) := hb1.alloc (by rw [World.size_alloc, World.size_alloc]; omega) _
  have hf2 := hasPrefix_bs (h.below hb2) (lit_bs ((w.alloc (.cells #[.int .i64 0, .slice none 0 0, .slice none 0 0] 37)).alloc (.cells #[.int .u8 13, .int .u8 10] 5 (2, 3))) [61, 13, 10] (3, 4) 3 rfl (by omega) #[.int .u8 61, .int .u8 13, .int .u8 10] rfl)
  rw [hp2, World.size_alloc, World.size_alloc] at hf2
  have HF2 := Lib.hid hf2
  clear hf2
  have HF1 := Lib.hid hf1
  clear hf1 hb1
  obtain ⟨bx, hbx⟩ := byteFacts b
  obtain ⟨x, hx⟩ : ∃ x : Int, x = b.toNat := ⟨_, rfl⟩
  rw [← hx] at hc0 ca bx hbx h33
  have HX := Lib.hid hx
  clear hx
  have n1 : ¬ x = 32 := by omega
  have n2 : ¬ x = 9 := by omega
  have n3 : ¬ x = 61 := by omega
  have n1b : (x == 32) = false := beq_eq_false_iff_ne.2 n1
  have n2b : (x == 9) = false := beq_eq_false_iff_ne.2 n2
  have n3b : (x == 61) = false := beq_eq_false_iff_ne.2 n3
  have n4 : 32 < x := by omega
  have n5 : ¬ x ≤ 126 := by omega
  have H := Lib.hid h
  have HN := Lib.hid hn
  clear h hn hp1 hp2 hb2
  have hend : NextPost (some b0) (b :: r) w (.returned (.agg #[.int .i64 0, .slice none 0 0, .slice none 0 0])) ((((w.alloc (.cells #[.int .i64 0, .slice none 0 0, .slice none 0 0] 37)).alloc (.cells #[.int .u8 13, .int .u8 10] 5 (2, 3))).alloc (.cells #[.int .u8 61, .int .u8 13, .int .u8 10] 5 (3, 4)))) := by
    have hb : Below w.heap.size w ((((w.alloc (.cells #[.int .i64 0, .slice none 0 0, .slice none 0 0] 37)).alloc (.cells #[.int .u8 13, .int .u8 10] 5 (2, 3))).alloc (.cells #[.int .u8 61, .int .u8 13, .int .u8 10] 5 (3, 4)))) := by
      refine Below.alloc ?_ (by simp only [World.size_alloc]; omega) _
      refine Below.alloc ?_ (by simp only [World.size_alloc]; omega) _
      exact Below.alloc (Below.refl _ _) (Nat.le_refl _) _
    refine ⟨.slice none 0 0, .slice none 0 0, ?_, ?_, ?_, hb, (fun g hg => by cases hg), (fun g hg => by cases hg)⟩
    · rw [HNX.out]; rfl
    · rw [HNX.out]; exact bs_nil _
    · rw [HNX.out]; exact bs_nil _
  have HE := Lib.hid hend
  clear hend
  go_enter Tryd.func10, Tryd.ntmps10
  go_wp2_with fail
  refine HF1.out.mono ?_
  rintro e w' ⟨rfl, rfl⟩
  go_wp2_with fail
  refine HF2.out.mono ?_
  rintro e w' ⟨rfl, rfl⟩
  go_wp2
  exact bodyPost_ret (v := .agg #[.int .i64 0, .slice none 0 0, .slice none 0 0]) (by simp [results, Tryd.results10, go_sem]) rfl HE.out

set_option maxRecDepth 100000 in
set_option maxHeartbeats 1600000 in
theorem next_eq1 (h : Bs w (.slice (some ⟨b0, off, none⟩) n cap) (61 :: r)) (hn : n = (61 :: r).length) (hp1 : ([13, 10] : List UInt8).isPrefixOf (61 :: r) = false) (hp2 : ([61, 13, 10] : List UInt8).isPrefixOf (61 :: r) = false) (h3 : n ≤ 2) :
    Calls Tryd.prog 10 #[.slice (some ⟨b0, off, none⟩) n cap] w (NextPost (some b0) (61 :: r) w) := by
  have HNX := Lib.hid (next_eqs hp1 hp2 (by rw [← hn]; exact h3))
  have kc1 := kconst (w.alloc (.cells #[.int .i64 0, .slice none 0 0, .slice none 0 0] 37)) (w.heap.size + 1) 2 2 3 (World.size_alloc _ _).symm #[.int .u8 13, .int .u8 10] rfl rfl
  have kc2 := kconst ((w.alloc (.cells #[.int .i64 0, .slice none 0 0, .slice none 0 0] 37)).alloc (.cells #[.int .u8 13, .int .u8 10] 5 (2, 3))) (w.heap.size + 2) 3 3 4 (by simp) #[.int .u8 61, .int .u8 13, .int .u8 10] rfl rfl
  have hc0 := h.cell0
  have ca : ∀ o, (w.alloc o).cell? ⟨b0, off, none⟩ = some (.int .u8 (61 : UInt8).toNat) := fun o => below_cell ((Below.refl _ _).alloc (Nat.le_refl _) _) _ _ hc0
  have hn0 : 1 ≤ n := by rw [hn]; simp
  have hnc : n ≤ cap ∧ cap ≤ 9223372036854775807 := by
    obtain ⟨ao', cap', e, h2, h3, _⟩ := h
    injection e with e1 e2 e3
    omega
  obtain ⟨hnc1, hnc2⟩ := hnc
  have hb1 : Below w.heap.size w ((w.alloc (.cells #[.int .i64 0, .slice none 0 0, .slice none 0 0] 37)).alloc (.cells #[.int .u8 13, .int .u8 10] 5 (2, 3))) := ((Below.refl _ _).alloc (Nat.le_refl _) _).alloc (by rw [World.size_alloc]; omega) _
  have hf1 := hasPrefix_bs (h.below hb1) (lit_bs (w.alloc (.cells #[.int .i64 0, .slice none 0 0, .slice none 0 0] 37)) [13, 10] (2, 3) 2 rfl (by omega) #[.int .u8 13, .int .u8 10] rfl)
  rw [hp1, World.size_alloc] at hf1
  have hb2 : Below w.heap.size w (((w.alloc (.cells #[.int .i64 0, .slice none 0 0, .slice none 0 0] 37)).alloc (.cells #[.int .u8 13, .int .u8 10] 5 (2, 3))).alloc (.cells #[.int .u8 61, .int .u8 13, .int .u8 10] 5 (3, 4))) := hb1.alloc (by rw [World.size_alloc, World.size_alloc]; omega) _
  have hf2 := hasPrefix_bs (h.below hb2) (lit_bs ((w.alloc (.cells #[.int .i64 0, .slice none 0 0, .slice none 0 0] 37)).alloc (.cells #[.int .u8 13, .int .u8 10] 5 (2, 3))) [61, 13, 10] (3, 4) 3 rfl (by omega) #[.int .u8 61, .int .u8 13, .int .u8 10] rfl)
  rw [hp2, World.size_alloc, World.size_alloc] at hf2
  have HF2 := Lib.hid hf2
  clear hf2
  have HF1 := Lib.hid hf1
  clear hf1 hb1
  have hx : (((61 : UInt8).toNat : Nat) : Int) = 61 := by decide
  rw [hx] at hc0 ca
  clear hx
  have H := Lib.hid h
  have HN := Lib.hid hn
  clear h hn hp1 hp2 hb2
  have hend : NextPost (some b0) (61 :: r) w (.returned (.agg #[.int .i64 0, .slice none 0 0, .slice none 0 0])) ((((w.alloc (.cells #[.int .i64 0, .slice none 0 0, .slice none 0 0] 37)).alloc (.cells #[.int .u8 13, .int .u8 10] 5 (2, 3))).alloc (.cells #[.int .u8 61, .int .u8 13, .int .u8 10] 5 (3, 4)))) := by
    have hb : Below w.heap.size w ((((w.alloc (.cells #[.int .i64 0, .slice none 0 0, .slice none 0 0] 37)).alloc (.cells #[.int .u8 13, .int .u8 10] 5 (2, 3))).alloc (.cells #[.int .u8 61, .int .u8 13, .int .u8 10] 5 (3, 4)))) := by
      refine Below.alloc ?_ (by simp only [World.size_alloc]; omega) _
      refine Below.alloc ?_ (by simp only [World.size_alloc]; omega) _
      exact Below.alloc (Below.refl _ _) (Nat.le_refl _) _
    refine ⟨.slice none 0 0, .slice none 0 0, ?_, ?_, ?_, hb, (fun g hg => by cases hg), (fun g hg => by cases hg)⟩
    · rw [HNX.out]; rfl
    · rw [HNX.out]; exact bs_nil _
    · rw [HNX.out]; exact bs_nil _
  have HE := Lib.hid hend
  clear hend
  go_enter Tryd.func10, Tryd.ntmps10
  go_wp2_with fail
  refine HF1.out.mono ?_
  rintro e w' ⟨rfl, rfl⟩
  go_wp2_with fail
  refine HF2.out.mono ?_
  rintro e w' ⟨rfl, rfl⟩
  go_wp2
  exact bodyPost_ret (v := .agg #[.int .i64 0, .slice none 0 0, .slice none 0 0]) (by simp [results, Tryd.results10, go_sem]) rfl HE.out

end
end Go.Proofs.YtcbolmendjocbaaDoor

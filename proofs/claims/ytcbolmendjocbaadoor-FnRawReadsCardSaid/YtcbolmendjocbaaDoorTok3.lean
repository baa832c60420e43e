/- The walks of next, where an equals sign begins an escape (printed by gentok.py). -/
import Derived.Test.YtcbolmendjocbaaDoorTok2
namespace Go.Proofs.YtcbolmendjocbaaDoor
open Go.RowKit Qp

section
variable {w : World} {b0 off n cap : Nat} {b : UInt8} {r : List UInt8}

set_option maxRecDepth 100000 in
set_option maxHeartbeats 1600000 in
theorem next_hx1 {x y : UInt8} (h : Bs w (.slice (some ⟨b0, off, none⟩) n cap) (61 :: x :: y :: r)) (hn : n = (61 :: x :: y :: r).length) (hp1 : ([13, 10] : List UInt8).isPrefixOf (61 :: x :: y :: r) = false) (hp2 : ([61, 13, 10] : List UInt8).isPrefixOf (61 :: x :: y :: r) = false) (HH : hexI x < 0) :
    Calls Tryd.prog 10 #[.slice (some ⟨b0, off, none⟩) n cap] w (NextPost (some b0) (61 :: x :: y :: r) w) := by
  have HNX := Lib.hid (next_h1 hp1 hp2 (.inl HH))
  have kc1 := kconst (w.alloc (.cells #[.int .i64 0, .slice none 0 0, .slice none 0 0] 37)) (w.heap.size + 1) 2 2 3 (World.size_alloc _ _).symm #[.int .u8 13, .int .u8 10] rfl rfl
  have kc2 := kconst ((w.alloc (.cells #[.int .i64 0, .slice none 0 0, .slice none 0 0] 37)).alloc (.cells #[.int .u8 13, .int .u8 10] 5 (2, 3))) (w.heap.size + 2) 3 3 4 (by simp) #[.int .u8 61, .int .u8 13, .int .u8 10] rfl rfl
  have hc0 := h.cell0
  have ca : ∀ o, (w.alloc o).cell? ⟨b0, off, none⟩ = some (.int .u8 (61 : UInt8).toNat) := fun o => below_cell ((Below.refl _ _).alloc (Nat.le_refl _) _) _ _ hc0
  have hn0 : 1 ≤ n := by rw [hn]; simp
  have hnc : n ≤ cap ∧ cap ≤ 9223372036854775807 := by
    obtain ⟨ao', cap', e, h2, h3, _⟩ := h
    injection e with e1 e2 e3
    omega
  obtain ⟨hnc1, hnc2⟩ := hnc
  have hb1 : Below w.heap.size w ((w.alloc (.cells #[.int .i64 0, .slice none 0 0, .slice none 0 0] 37)).alloc (.cells #[.int .u8 13, .int .u8 10] 5 (2, 3))) := ((Below.refl _ _).alloc (Nat.le_refl _) _).alloc (by rw [World.size_alloc]; omega) _
  have hf1 := hasPrefix_bs (h.below hb1) (lit_bs (w.alloc (.cells #[.int .i64 0, .slice none 0 0, .slice none 0 0] 37)) [13, 10] (2, 3) 2 rfl (by omega) #[.int .u8 13, .int .u8 10] rfl)
  rw [hp1, World.size_alloc] at hf1
  have hb2 : Below w.heap.size w (((w.alloc (.cells #[.int .i64 0, .slice none 0 0, .slice none 0 0] 37)).alloc (.cells #[.int .u8 13, .int .u8 10] 5 (2, 3))).alloc (.cells #[.int .u8 61, .int .u8 13, .int .u8 10] 5 (3, 4))) := hb1.alloc (by rw [World.size_alloc, World.size_alloc]; omega) _
  have hf2 := hasPrefix_bs (h.below hb2) (lit_bs ((w.alloc (.cells #[.int .i64 0, .slice none 0 0, .slice none 0 0] 37)).alloc (.cells #[.int .u8 13, .int .u8 10] 5 (2, 3))) [61, 13, 10] (3, 4) 3 rfl (by omega) #[.int .u8 61, .int .u8 13, .int .u8 10] rfl)
  rw [hp2, World.size_alloc, World.size_alloc] at hf2
  have HF2 := Lib.hid hf2
  clear hf2
  have HF1 := Lib.hid hf1
  clear hf1 hb1
  have hx : (((61 : UInt8).toNat : Nat) : Int) = 61 := by decide
  rw [hx] at hc0 ca
  clear hx
  obtain ⟨hcx, hcy⟩ := h.cells12
  have cax : (((w.alloc (.cells #[.int .i64 0, .slice none 0 0, .slice none 0 0] 37)).alloc (.cells #[.int .u8 13, .int .u8 10] 5 (2, 3))).alloc (.cells #[.int .u8 61, .int .u8 13, .int .u8 10] 5 (3, 4))).cell? ⟨b0, off + 1, none⟩ = some (.int .u8 x.toNat) := below_cell hb2 _ _ hcx
  have cay : (((w.alloc (.cells #[.int .i64 0, .slice none 0 0, .slice none 0 0] 37)).alloc (.cells #[.int .u8 13, .int .u8 10] 5 (2, 3))).alloc (.cells #[.int .u8 61, .int .u8 13, .int .u8 10] 5 (3, 4))).cell? ⟨b0, off + 2, none⟩ = some (.int .u8 y.toNat) := below_cell hb2 _ _ hcy
  have hn3 : 3 ≤ n := by rw [hn]; simp
  have hxx := hex_any x
  have hyy := hex_any y
  have hxl := hexI_le x
  have hyl := hexI_le y
  obtain ⟨xl, xu⟩ := byteFacts x
  obtain ⟨yl, yu⟩ := byteFacts y
  obtain ⟨hX, ehX⟩ : ∃ k, k = hexI x := ⟨_, rfl⟩
  obtain ⟨hY, ehY⟩ : ∃ k, k = hexI y := ⟨_, rfl⟩
  rw [← ehX] at hxx hxl HH
  rw [← ehY] at hyy hyl
  have EX := Lib.hid ehX
  have EY := Lib.hid ehY
  clear ehX ehY
  obtain ⟨xi, ex⟩ : ∃ k : Int, k = x.toNat := ⟨_, rfl⟩
  obtain ⟨yi, ey⟩ : ∃ k : Int, k = y.toNat := ⟨_, rfl⟩
  rw [← ex] at hcx cax hxx xl xu
  rw [← ey] at hcy cay hyy yl yu
  clear ex ey
  have HXX := Lib.hid hxx
  have HYY := Lib.hid hyy
  clear hxx hyy
  clear hcx hcy

  have H := Lib.hid h
  have HN := Lib.hid hn
  clear h hn hp1 hp2 hb2
  have hend : NextPost (some b0) (61 :: x :: y :: r) w (.returned (.agg #[.int .i64 0, .slice none 0 0, .slice none 0 0])) ((((w.alloc (.cells #[.int .i64 0, .slice none 0 0, .slice none 0 0] 37)).alloc (.cells #[.int .u8 13, .int .u8 10] 5 (2, 3))).alloc (.cells #[.int .u8 61, .int .u8 13, .int .u8 10] 5 (3, 4)))) := by
    have hb : Below w.heap.size w ((((w.alloc (.cells #[.int .i64 0, .slice none 0 0, .slice none 0 0] 37)).alloc (.cells #[.int .u8 13, .int .u8 10] 5 (2, 3))).alloc (.cells #[.int .u8 61, .int .u8 13, .int .u8 10] 5 (3, 4)))) := by
      refine Below.alloc ?_ (by simp only [World.size_alloc]; omega) _
      refine Below.alloc ?_ (by simp only [World.size_alloc]; omega) _
      exact Below.alloc (Below.refl _ _) (Nat.le_refl _) _
    refine ⟨.slice none 0 0, .slice none 0 0, ?_, ?_, ?_, hb, (fun g hg => by cases hg), (fun g hg => by cases hg)⟩
    · rw [HNX.out]; rfl
    · rw [HNX.out]; exact bs_nil _
    · rw [HNX.out]; exact bs_nil _
  have HE := Lib.hid hend
  clear hend
  go_enter Tryd.func10, Tryd.ntmps10
  go_wp2_with fail
  refine HF1.out.mono ?_
  rintro e w' ⟨rfl, rfl⟩
  go_wp2_with fail
  refine HF2.out.mono ?_
  rintro e w' ⟨rfl, rfl⟩
  go_wp2_with fail
  refine (HXX.out _).mono ?_
  rintro e w' ⟨rfl, rfl⟩
  go_wp2
  exact bodyPost_ret (v := .agg #[.int .i64 0, .slice none 0 0, .slice none 0 0]) (by simp [results, Tryd.results10, go_sem]) rfl HE.out

set_option maxRecDepth 100000 in
set_option maxHeartbeats 1600000 in
theorem next_hx2 {x y : UInt8} (h : Bs w (.slice (some ⟨b0, off, none⟩) n cap) (61 :: x :: y :: r)) (hn : n = (61 :: x :: y :: r).length) (hp1 : ([13, 10] : List UInt8).isPrefixOf (61 :: x :: y :: r) = false) (hp2 : ([61, 13, 10] : List UInt8).isPrefixOf (61 :: x :: y :: r) = false) (HH : 0 ≤ hexI x) (HH2 : hexI y < 0) :
    Calls Tryd.prog 10 #[.slice (some ⟨b0, off, none⟩) n cap] w (NextPost (some b0) (61 :: x :: y :: r) w) := by
  have HNX := Lib.hid (next_h1 hp1 hp2 (.inr HH2))
  have kc1 := kconst (w.alloc (.cells #[.int .i64 0, .slice none 0 0, .slice none 0 0] 37)) (w.heap.size + 1) 2 2 3 (World.size_alloc _ _).symm #[.int .u8 13, .int .u8 10] rfl rfl
  have kc2 := kconst ((w.alloc (.cells #[.int .i64 0, .slice none 0 0, .slice none 0 0] 37)).alloc (.cells #[.int .u8 13, .int .u8 10] 5 (2, 3))) (w.heap.size + 2) 3 3 4 (by simp) #[.int .u8 61, .int .u8 13, .int .u8 10] rfl rfl
  have hc0 := h.cell0
  have ca : ∀ o, (w.alloc o).cell? ⟨b0, off, none⟩ = some (.int .u8 (61 : UInt8).toNat) := fun o => below_cell ((Below.refl _ _).alloc (Nat.le_refl _) _) _ _ hc0
  have hn0 : 1 ≤ n := by rw [hn]; simp
  have hnc : n ≤ cap ∧ cap ≤ 9223372036854775807 := by
    obtain ⟨ao', cap', e, h2, h3, _⟩ := h
    injection e with e1 e2 e3
    omega
  obtain ⟨hnc1, hnc2⟩ := hnc
  have hb1 : Below w.heap.size w ((w.alloc (.cells #[.int .i64 0, .slice none 0 0, .slice none 0 0] 37)).alloc (.cells #[.int .u8 13, .int .u8 10] 5 (2, 3))) := ((Below.refl _ _).alloc (Nat.le_refl _) _).alloc (by rw [World.size_alloc]; omega) _
  have hf1 := hasPrefix_bs (h.below hb1) (lit_bs (w.alloc (.cells #[.int .i64 0, .slice none 0 0, .slice none 0 0] 37)) [13, 10] (2, 3) 2 rfl (by omega) #[.int .u8 13, .int .u8 10] rfl)
  rw [hp1, World.size_alloc] at hf1
  have hb2 : Below w.heap.size w (((w.alloc (.cells #[.int .i64 0, .slice none 0 0, .slice none 0 0] 37)).alloc (.cells #[.int .u8 13, .int .u8 10] 5 (2, 3))).alloc (.cells #[.int .u8 61, .int .u8 13, .int .u8 10] 5 (3, 4))) := hb1.alloc (by rw [World.size_alloc, World.size_alloc]; omega) _
  have hf2 := hasPrefix_bs (h.below hb2) (lit_bs ((w.alloc (.cells #[.int .i64 0, .slice none 0 0, .slice none 0 0] 37)).alloc (.cells #[.int .u8 13, .int .u8 10] 5 (2, 3))) [61, 13, 10] (3, 4) 3 rfl (by omega) #[.int .u8 61, .int .u8 13, .int .u8 10] rfl)
  rw [hp2, World.size_alloc, World.size_alloc] at hf2
  have HF2 := Lib.hid hf2
  clear hf2
  have HF1 := Lib.hid hf1
  clear hf1 hb1
  have hx : (((61 : UInt8).toNat : Nat) : Int) = 61 := by decide
  rw [hx] at hc0 ca
  clear hx
  obtain ⟨hcx, hcy⟩ := h.cells12
  have cax : (((w.alloc (.cells #[.int .i64 0, .slice none 0 0, .slice none 0 0] 37)).alloc (.cells #[.int .u8 13, .int .u8 10] 5 (2, 3))).alloc (.cells #[.int .u8 61, .int .u8 13, .int .u8 10] 5 (3, 4))).cell? ⟨b0, off + 1, none⟩ = some (.int .u8 x.toNat) := below_cell hb2 _ _ hcx
  have cay : (((w.alloc (.cells #[.int .i64 0, .slice none 0 0, .slice none 0 0] 37)).alloc (.cells #[.int .u8 13, .int .u8 10] 5 (2, 3))).alloc (.cells #[.int .u8 61, .int .u8 13, .int .u8 10] 5 (3, 4))).cell? ⟨b0, off + 2, none⟩ = some (.int .u8 y.toNat) := below_cell hb2 _ _ hcy
  have hn3 : 3 ≤ n := by rw [hn]; simp
  have hxx := hex_any x
  have hyy := hex_any y
  have hxl := hexI_le x
  have hyl := hexI_le y
  obtain ⟨xl, xu⟩ := byteFacts x
  obtain ⟨yl, yu⟩ := byteFacts y
  obtain ⟨hX, ehX⟩ : ∃ k, k = hexI x := ⟨_, rfl⟩
  obtain ⟨hY, ehY⟩ : ∃ k, k = hexI y := ⟨_, rfl⟩
  rw [← ehX] at hxx hxl HH
  rw [← ehY] at hyy hyl HH2
  have EX := Lib.hid ehX
  have EY := Lib.hid ehY
  clear ehX ehY
  obtain ⟨xi, ex⟩ : ∃ k : Int, k = x.toNat := ⟨_, rfl⟩
  obtain ⟨yi, ey⟩ : ∃ k : Int, k = y.toNat := ⟨_, rfl⟩
  rw [← ex] at hcx cax hxx xl xu
  rw [← ey] at hcy cay hyy yl yu
  clear ex ey
  have HXX := Lib.hid hxx
  have HYY := Lib.hid hyy
  clear hxx hyy
  clear hcx hcy
  have nh : ¬ hX < 0 := by omega

  have H := Lib.hid h
  have HN := Lib.hid hn
  clear h hn hp1 hp2 hb2
  have hend : NextPost (some b0) (61 :: x :: y :: r) w (.returned (.agg #[.int .i64 0, .slice none 0 0, .slice none 0 0])) ((((w.alloc (.cells #[.int .i64 0, .slice none 0 0, .slice none 0 0] 37)).alloc (.cells #[.int .u8 13, .int .u8 10] 5 (2, 3))).alloc (.cells #[.int .u8 61, .int .u8 13, .int .u8 10] 5 (3, 4)))) := by
    have hb : Below w.heap.size w ((((w.alloc (.cells #[.int .i64 0, .slice none 0 0, .slice none 0 0] 37)).alloc (.cells #[.int .u8 13, .int .u8 10] 5 (2, 3))).alloc (.cells #[.int .u8 61, .int .u8 13, .int .u8 10] 5 (3, 4)))) := by
      refine Below.alloc ?_ (by simp only [World.size_alloc]; omega) _
      refine Below.alloc ?_ (by simp only [World.size_alloc]; omega) _
      exact Below.alloc (Below.refl _ _) (Nat.le_refl _) _
    refine ⟨.slice none 0 0, .slice none 0 0, ?_, ?_, ?_, hb, (fun g hg => by cases hg), (fun g hg => by cases hg)⟩
    · rw [HNX.out]; rfl
    · rw [HNX.out]; exact bs_nil _
    · rw [HNX.out]; exact bs_nil _
  have HE := Lib.hid hend
  clear hend
  go_enter Tryd.func10, Tryd.ntmps10
  go_wp2_with fail
  refine HF1.out.mono ?_
  rintro e w' ⟨rfl, rfl⟩
  go_wp2_with fail
  refine HF2.out.mono ?_
  rintro e w' ⟨rfl, rfl⟩
  go_wp2_with fail
  refine (HXX.out _).mono ?_
  rintro e w' ⟨rfl, rfl⟩
  go_wp2_with fail
  refine (HYY.out _).mono ?_
  rintro e w' ⟨rfl, rfl⟩
  go_wp2
  exact bodyPost_ret (v := .agg #[.int .i64 0, .slice none 0 0, .slice none 0 0]) (by simp [results, Tryd.results10, go_sem]) rfl HE.out

set_option maxRecDepth 100000 in
set_option maxHeartbeats 1600000 in
theorem next_hx3 {x y : UInt8} (h : Bs w (.slice (some ⟨b0, off, none⟩) n cap) (61 :: x :: y :: r)) (hn : n = (61 :: x :: y :: r).length) (hp1 : ([13, 10] : List UInt8).isPrefixOf (61 :: x :: y :: r) = false) (hp2 : ([61, 13, 10] : List UInt8).isPrefixOf (61 :: x :: y :: r) = false) (HH : 0 ≤ hexI x) (HH2 : 0 ≤ hexI y) :
    Calls Tryd.prog 10 #[.slice (some ⟨b0, off, none⟩) n cap] w (NextPost (some b0) (61 :: x :: y :: r) w) := by
  have HNX := Lib.hid (next_h2 hp1 hp2 HH HH2)
  have kc1 := kconst (w.alloc (.cells #[.int .i64 0, .slice none 0 0, .slice none 0 0] 37)) (w.heap.size + 1) 2 2 3 (World.size_alloc _ _).symm #[.int .u8 13, .int .u8 10] rfl rfl
  have kc2 := kconst ((w.alloc (.cells #[.int .i64 0, .slice none 0 0, .slice none 0 0] 37)).alloc (.cells #[.int .u8 13, .int .u8 10] 5 (2, 3))) (w.heap.size + 2) 3 3 4 (by simp) #[.int .u8 61, .int .u8 13, .int .u8 10] rfl rfl
  have hc0 := h.cell0
  have ca : ∀ o, (w.alloc o).cell? ⟨b0, off, none⟩ = some (.int .u8 (61 : UInt8).toNat) := fun o => below_cell ((Below.refl _ _).alloc (Nat.le_refl _) _) _ _ hc0
  have hn0 : 1 ≤ n := by rw [hn]; simp
  have hnc : n ≤ cap ∧ cap ≤ 9223372036854775807 := by
    obtain ⟨ao', cap', e, h2, h3, _⟩ := h
    injection e with e1 e2 e3
    omega
  obtain ⟨hnc1, hnc2⟩ := hnc
  have hb1 : Below w.heap.size w ((w.alloc (.cells #[.int .i64 0, .slice none 0 0, .slice none 0 0] 37)).alloc (.cells #[.int .u8 13, .int .u8 10] 5 (2, 3))) := ((Below.refl _ _).alloc (Nat.le_refl _) _).alloc (by rw [World.size_alloc]; omega) _
  have hf1 := hasPrefix_bs (h.below hb1) (lit_bs (w.alloc (.cells #[.int .i64 0, .slice none 0 0, .slice none 0 0] 37)) [13, 10] (2, 3) 2 rfl (by omega) #[.int .u8 13, .int .u8 10] rfl)
  rw [hp1, World.size_alloc] at hf1
  have hb2 : Below w.heap.size w (((w.alloc (.cells #[.int .i64 0, .slice none 0 0, .slice none 0 0] 37)).alloc (.cells #[.int .u8 13, .int .u8 10] 5 (2, 3))).alloc (.cells #[.int .u8 61, .int .u8 13, .int .u8 10] 5 (3, 4))) := hb1.alloc (by rw [World.size_alloc, World.size_alloc]; omega) _
  have hf2 := hasPrefix_bs (h.below hb2) (lit_bs ((w.alloc (.cells #[.int .i64 0, .slice none 0 0, .slice none 0 0] 37)).alloc (.cells #[.int .u8 13, .int .u8 10] 5 (2, 3))) [61, 13, 10] (3, 4) 3 rfl (by omega) #[.int .u8 61, .int .u8 13, .int .u8 10] rfl)
  rw [hp2, World.size_alloc, World.size_alloc] at hf2
  have HF2 := Lib.hid hf2
  clear hf2
  have HF1 := Lib.hid hf1
  clear hf1 hb1
  have hx : (((61 : UInt8).toNat : Nat) : Int) = 61 := by decide
  rw [hx] at hc0 ca
  clear hx
  obtain ⟨hcx, hcy⟩ := h.cells12
  have cax : (((w.alloc (.cells #[.int .i64 0, .slice none 0 0, .slice none 0 0] 37)).alloc (.cells #[.int .u8 13, .int .u8 10] 5 (2, 3))).alloc (.cells #[.int .u8 61, .int .u8 13, .int .u8 10] 5 (3, 4))).cell? ⟨b0, off + 1, none⟩ = some (.int .u8 x.toNat) := below_cell hb2 _ _ hcx
  have cay : (((w.alloc (.cells #[.int .i64 0, .slice none 0 0, .slice none 0 0] 37)).alloc (.cells #[.int .u8 13, .int .u8 10] 5 (2, 3))).alloc (.cells #[.int .u8 61, .int .u8 13, .int .u8 10] 5 (3, 4))).cell? ⟨b0, off + 2, none⟩ = some (.int .u8 y.toNat) := below_cell hb2 _ _ hcy
  have hn3 : 3 ≤ n := by rw [hn]; simp
  have hxx := hex_any x
  have hyy := hex_any y
  have hxl := hexI_le x
  have hyl := hexI_le y
  obtain ⟨xl, xu⟩ := byteFacts x
  obtain ⟨yl, yu⟩ := byteFacts y
  obtain ⟨hX, ehX⟩ : ∃ k, k = hexI x := ⟨_, rfl⟩
  obtain ⟨hY, ehY⟩ : ∃ k, k = hexI y := ⟨_, rfl⟩
  rw [← ehX] at hxx hxl HH
  rw [← ehY] at hyy hyl HH2
  have EX := Lib.hid ehX
  have EY := Lib.hid ehY
  clear ehX ehY
  obtain ⟨xi, ex⟩ : ∃ k : Int, k = x.toNat := ⟨_, rfl⟩
  obtain ⟨yi, ey⟩ : ∃ k : Int, k = y.toNat := ⟨_, rfl⟩
  rw [← ex] at hcx cax hxx xl xu
  rw [← ey] at hcy cay hyy yl yu
  clear ex ey
  have HXX := Lib.hid hxx
  have HYY := Lib.hid hyy
  clear hxx hyy
  have B4 : ∀ o1 o2 o3 o4, Below w.heap.size w ((((w.alloc o1).alloc o2).alloc o3).alloc o4).drew := fun o1 o2 o3 o4 => Below.drew (Below.alloc (Below.alloc (Below.alloc (Below.alloc (Below.refl _ _) (Nat.le_refl _) _) (by simp only [World.size_alloc]; omega) _) (by simp only [World.size_alloc]; omega) _) (by simp only [World.size_alloc]; omega) _)
  have cax4 : ∀ o1 o2 o3 o4, ((((w.alloc o1).alloc o2).alloc o3).alloc o4).drew.cell? ⟨b0, off + 1, none⟩ = some (.int .u8 xi) := fun o1 o2 o3 o4 => below_cell (B4 o1 o2 o3 o4) _ _ hcx
  have cay4 : ∀ o1 o2 o3 o4, ((((w.alloc o1).alloc o2).alloc o3).alloc o4).drew.cell? ⟨b0, off + 2, none⟩ = some (.int .u8 yi) := fun o1 o2 o3 o4 => below_cell (B4 o1 o2 o3 o4) _ _ hcy
  have b4 := B4 (.cells #[.int .i64 3, .slice (some ⟨b0, off, none⟩) 3 cap, .slice (some ⟨w.heap.size + 3, 0, none⟩) 1 1] 37) (.cells #[.int .u8 13, .int .u8 10] 5 (2, 3)) (.cells #[.int .u8 61, .int .u8 13, .int .u8 10] 5 (3, 4)) (.cells #[.int .u8 (IntKind.u8.wrap (IntKind.i64.wrap (IntKind.i64.wrap (hX * 16) + hY)))] 5)
  clear B4 hcx hcy
  have nh : ¬ hX < 0 := by omega
  have nh2 : ¬ hY < 0 := by omega
  have hn3i : (3 : Int) ≤ (n : Int) := by omega
  have hn3c : (3 : Int) ≤ (cap : Int) := by omega

  have H := Lib.hid h
  have HN := Lib.hid hn
  clear h hn hp1 hp2 hb2
  have hend : NextPost (some b0) (61 :: x :: y :: r) w (.returned (.agg #[.int .i64 3, .slice (some ⟨b0, off, none⟩) 3 cap, (.slice (some ⟨w.heap.size + 3, 0, none⟩) 1 1)])) (((((w.alloc (.cells #[.int .i64 3, .slice (some ⟨b0, off, none⟩) 3 cap, .slice (some ⟨w.heap.size + 3, 0, none⟩) 1 1] 37)).alloc (.cells #[.int .u8 13, .int .u8 10] 5 (2, 3))).alloc (.cells #[.int .u8 61, .int .u8 13, .int .u8 10] 5 (3, 4))).alloc (.cells #[.int .u8 (IntKind.u8.wrap (IntKind.i64.wrap (IntKind.i64.wrap (hX * 16) + hY)))] 5)).drew) := by
    have hb : Below w.heap.size w (((((w.alloc (.cells #[.int .i64 3, .slice (some ⟨b0, off, none⟩) 3 cap, .slice (some ⟨w.heap.size + 3, 0, none⟩) 1 1] 37)).alloc (.cells #[.int .u8 13, .int .u8 10] 5 (2, 3))).alloc (.cells #[.int .u8 61, .int .u8 13, .int .u8 10] 5 (3, 4))).alloc (.cells #[.int .u8 (IntKind.u8.wrap (IntKind.i64.wrap (IntKind.i64.wrap (hX * 16) + hY)))] 5)).drew) := by
      exact b4
    refine ⟨.slice (some ⟨b0, off, none⟩) 3 cap, (.slice (some ⟨w.heap.size + 3, 0, none⟩) 1 1), ?_, ?_, ?_, hb, (fun g hg => .inl hg), (fun g hg => .inr (by injection hg with hg; subst hg; exact ⟨by show w.heap.size ≤ w.heap.size + 3; omega, by show w.heap.size + 3 < (World.alloc _ _).heap.size; simp only [World.size_alloc]; omega⟩))⟩
    · rw [HNX.out]; rfl
    · rw [HNX.out]; exact (Bs.take (H.out.below hb) 3 (by have := HN.out; simp at this ⊢; try omega))
    · rw [HNX.out]; rw [← EX.out, ← EY.out]; exact hexcell _ _ (by simp) hX hY HH HH2 hxl hyl
  have HE := Lib.hid hend
  clear hend
  go_enter Tryd.func10, Tryd.ntmps10
  go_wp2_with fail
  refine HF1.out.mono ?_
  rintro e w' ⟨rfl, rfl⟩
  go_wp2_with fail
  refine HF2.out.mono ?_
  rintro e w' ⟨rfl, rfl⟩
  go_wp2_with fail
  refine (HXX.out _).mono ?_
  rintro e w' ⟨rfl, rfl⟩
  go_wp2_with fail
  refine (HYY.out _).mono ?_
  rintro e w' ⟨rfl, rfl⟩
  go_wp2
  go_region_held3 (fun w' => w'.cell? ⟨b0, off + 1, none⟩ = some (.int .u8 xi) ∧ w'.cell? ⟨b0, off + 2, none⟩ = some (.int .u8 yi)) (first | exact ⟨cax, cay⟩ | exact ⟨cax4 _ _ _ _, cay4 _ _ _ _⟩ | go_keep)
    ((first
      | (go_at_call_of 18 (Value.int IntKind.u8 xi)
         refine (HXX.out _).mono ?_
         rintro e w' ⟨rfl, rfl⟩)
      | (go_at_call_of 18 (Value.int IntKind.u8 yi)
         refine (HYY.out _).mono ?_
         rintro e w' ⟨rfl, rfl⟩)
      | (go_at_call 18; trace_state; fail)))
  go_wp2
  exact bodyPost_ret (v := .agg #[.int .i64 3, .slice (some ⟨b0, off, none⟩) 3 cap, (.slice (some ⟨w.heap.size + 3, 0, none⟩) 1 1)]) (by simp [results, Tryd.results10, go_sem]) rfl HE.out

end
/-- next, at whatever text that is not empty -/
theorem next_any {w : World} {v : Value} {l : List UInt8} (h : Bs w v l) (hne : l ≠ []) : Calls Tryd.prog 10 #[v] w (NextPost v.ownBlock l w) := by
  obtain ⟨ao, cap, rfl, _⟩ := id h
  obtain ⟨b, r, rfl⟩ : ∃ b r, l = b :: r := List.exists_cons_of_ne_nil hne
  obtain ⟨b0, off, rfl⟩ : ∃ b0 off, ao = some ⟨b0, off, none⟩ := by
    obtain ⟨ao', cap', e, h2, h3, h4, h5⟩ := id h
    injection e with e1 e2 e3
    obtain ⟨b1, o, e4, h7⟩ := h5 (by simp)
    exact ⟨b1, o, by rw [e1]; exact e4⟩
  obtain ⟨n, hn⟩ : ∃ n, n = (b :: r).length := ⟨_, rfl⟩
  rw [← hn] at h ⊢
  cases hp1 : ([13, 10] : List UInt8).isPrefixOf (b :: r)
  · cases hp2 : ([61, 13, 10] : List UInt8).isPrefixOf (b :: r)
    · by_cases e32 : b = 32
      · subst e32; exact next_sp h hn hp1 hp2
      by_cases e9 : b = 9
      · subst e9; exact next_tab h hn hp1 hp2
      have n9 : (b.toNat : Int) ≠ 9 := fun e => e9 (UInt8.toNat_inj.1 (by show b.toNat = 9; omega))
      have n32 : (b.toNat : Int) ≠ 32 := fun e => e32 (UInt8.toNat_inj.1 (by show b.toNat = 32; omega))
      by_cases e61 : b = 61
      · subst e61
        by_cases h3 : n ≤ 2
        · exact next_eq1 h hn hp1 hp2 h3
        match r, h, hn, hp1, hp2 with
        | [], _, hn, _, _ => simp at hn; omega
        | [_], _, hn, _, _ => simp at hn; omega
        | x :: y :: r, h, hn, hp1, hp2 =>
          by_cases hx : hexI x < 0
          · exact next_hx1 h hn hp1 hp2 hx
          · by_cases hy : hexI y < 0
            · exact next_hx2 h hn hp1 hp2 (by omega) hy
            · exact next_hx3 h hn hp1 hp2 (by omega) (by omega)
      have n61 : (b.toNat : Int) ≠ 61 := fun e => e61 (UInt8.toNat_inj.1 (by show b.toNat = 61; omega))
      by_cases hl : (b.toNat : Int) < 32
      · exact next_low h hn hp1 hp2 hl n9
      · by_cases hh : 126 < (b.toNat : Int)
        · exact next_high h hn hp1 hp2 hh
        · exact next_litw h hn hp1 hp2 (by omega) (by omega) n61
    · exact next_soft h hn hp1 hp2
  · exact next_brk h hn hp1

end Go.Proofs.YtcbolmendjocbaaDoor

/- The walks of hex and next: the token with which a text begins. -/
import Derived.Test.YtcbolmendjocbaaDoorBs
import Derived.Test.YtcbolmendjocbaaDoorShelf
import Derived.Lib.SlBytesConst
namespace Go.Proofs.YtcbolmendjocbaaDoor
open Go.RowKit Qp

/-- what hex returns -/
def hexI (b : UInt8) : Int := match hexV b with | some h => (h : Int) | none => -1

theorem hexI_int : ∀ b : UInt8, hexI b = if (48 : Int) ≤ b.toNat ∧ (b.toNat : Int) ≤ 57 then (b.toNat : Int) - 48 else if (65 : Int) ≤ b.toNat ∧ (b.toNat : Int) ≤ 70 then (b.toNat : Int) - 65 + 10 else -1 := u8_all (by decide +kernel)

theorem hex_any (b : UInt8) (w : World) : Calls Tryd.prog 18 #[.int .u8 b.toNat] w fun e w' => e = .returned (.int .i64 (hexI b)) ∧ w = w' := by
  rw [hexI_int]
  obtain ⟨b0, b1⟩ := byteFacts b
  obtain ⟨x, hx⟩ : ∃ x : Int, x = b.toNat := ⟨_, rfl⟩
  rw [← hx] at b0 b1 ⊢
  clear hx
  by_cases h1 : 48 ≤ x
  · by_cases h2 : x ≤ 57
    · rw [if_pos ⟨h1, h2⟩]
      go_enter Tryd.func18, Tryd.ntmps18
      go_wp2
      go_ret
      exact ⟨rfl, rfl⟩
    · rw [if_neg (by omega)]
      by_cases h3 : 65 ≤ x
      · by_cases h4 : x ≤ 70
        · rw [if_pos ⟨h3, h4⟩]
          go_enter Tryd.func18, Tryd.ntmps18
          go_wp2
          go_ret
          exact ⟨rfl, rfl⟩
        · rw [if_neg (by omega)]
          go_enter Tryd.func18, Tryd.ntmps18
          go_wp2
          go_ret
          exact ⟨rfl, rfl⟩
      · rw [if_neg (by omega)]
        go_enter Tryd.func18, Tryd.ntmps18
        go_wp2
        go_ret
        exact ⟨rfl, rfl⟩
  · rw [if_neg (by omega), if_neg (by omega)]
    go_enter Tryd.func18, Tryd.ntmps18
    go_wp2
    go_ret
    exact ⟨rfl, rfl⟩

def ints (l : List UInt8) : List Int := l.map fun b => (b.toNat : Int)
theorem bytesOf_ints (l : List UInt8) : Lib.bytesOf (ints l) = l := by
  unfold Lib.bytesOf ints
  rw [List.map_map]
  conv => rhs; rw [← List.map_id l]
  refine List.map_congr_left (fun b _ => ?_)
  simp
theorem hasPrefix_bs {w : World} {ao ao2 : Option Addr} {n cap m cap2 : Nat} {l p : List UInt8} (h1 : Bs w (.slice ao n cap) l) (h2 : Bs w (.slice ao2 m cap2) p) :
    Calls Tryd.prog 17 #[.slice ao n cap, .slice ao2 m cap2] w fun e w' => e = .returned (.bool (p.isPrefixOf l)) ∧ w = w' := by
  obtain ⟨a1, c1, e1, x1, x2, x3, x4⟩ := h1
  obtain ⟨a2, c2, e2, y1, y2, y3, y4⟩ := h2
  injection e1 with e1 e1n e1c
  injection e2 with e2 e2n e2c
  subst e1; subst e1n; subst e1c; subst e2; subst e2n; subst e2c
  have hin : ∀ (ao : Option Addr) (l : List UInt8), (l ≠ [] → ∃ b off, ao = some ⟨b, off, none⟩ ∧ ∀ k, k < l.length → w.cell? ⟨b, off + k, none⟩ = some (.int .u8 (l.getD k 0).toNat)) → Lib.BytesIn w ao l.length (ints l) := by
    intro ao l h hn
    obtain ⟨b, off, h1, h2⟩ := h (List.length_pos_iff.1 hn)
    refine ⟨b, off, h1, fun i hi => ?_⟩
    rw [h2 i hi]
    simp [ints, hi]
  refine (Tryd.bytes_HasPrefix_all ao ao2 l.length cap p.length cap2 (ints l) (ints p) w (by simp [ints]) (by simp [ints]) x1 (hin _ _ x4) (hin _ _ y4)).mono ?_
  rintro e w' ⟨rfl, rfl⟩
  rw [bytesOf_ints, bytesOf_ints]
  exact ⟨rfl, rfl⟩

/-- what next returns -/
def NextPost (ob : Option Nat) (src : List UInt8) (w : World) (e : Ending) (w' : World) : Prop :=
  ∃ tv vv, e = .returned (.agg #[.int .i64 (next src).kind, tv, vv]) ∧ Bs w' tv (next src).text ∧ Bs w' vv (next src).value ∧ Below w.heap.size w w' ∧
    (∀ g, tv.ownBlock = some g → ob = some g ∨ w.heap.size ≤ g ∧ g < w'.heap.size) ∧ (∀ g, vv.ownBlock = some g → ob = some g ∨ w.heap.size ≤ g ∧ g < w'.heap.size)

/-- a text cut at its beginning -/
theorem Bs.take {w : World} {ao : Option Addr} {n cap : Nat} {l : List UInt8} (h : Bs w (.slice ao n cap) l) (k : Nat) (hk : k ≤ l.length) : Bs w (.slice ao k cap) (l.take k) := by
  obtain ⟨ao', cap', e, h2, h3, h4, h5⟩ := h
  injection e with e1 e2 e3
  subst e1; subst e3
  have hl : (l.take k).length = k := by rw [List.length_take]; omega
  refine ⟨ao, cap, by rw [hl], by omega, h3, h4, fun hne => ?_⟩
  obtain ⟨b, off, h6, h7⟩ := h5 (by rintro rfl; simp at hne)
  refine ⟨b, off, h6, fun j hj => ?_⟩
  rw [hl] at hj
  rw [h7 j (by omega)]
  simp [List.getD, hj]

/-- '[]byte("..")' of a constant, as it lies -/
theorem lit_bs (w : World) (l : List UInt8) (fz : Nat × Nat) (n : Nat) (hn : n = l.length) (hl : n ≤ 100) (C : Array Value) (hC : C.toList = Lib.byteCells l) : Bs (w.alloc (.cells C 5 fz)) (.slice (some ⟨w.heap.size, 0, none⟩) n n) l := by
  subst hn
  refine ⟨some ⟨w.heap.size, 0, none⟩, l.length, rfl, Nat.le_refl _, by omega, (fun h => by cases h), fun _ => ⟨w.heap.size, 0, rfl, fun k hk => ?_⟩⟩
  rw [Lib.cell_of_heap (heap_alloc_new w _), ← Array.getElem?_toList, hC]
  simp [Lib.byteCells, hk]

theorem kconst (W : World) (m n k j : Nat) (hm : m = W.heap.size) (C : Array Value) (hk : k = C.size) (hj : j = k + 1) : (convert 22 22 (.slice (some ⟨m, 0, none⟩) n n)).run Tryd.prog (W.alloc (.cells C 5)) =
    .ok (.slice (some ⟨m, 0, none⟩) n n) (W.alloc (.cells C 5 (k, j))) := by
  subst hm; subst hj; subst hk
  exact Lib.run_convert_bytes_const (P := Tryd.prog) W 22 5 C n n Tryd.underlying22 Tryd.underlying5

theorem Bs.cell0 {w : World} {b0 off n cap : Nat} {b : UInt8} {r : List UInt8} (h : Bs w (.slice (some ⟨b0, off, none⟩) n cap) (b :: r)) : w.cell? ⟨b0, off, none⟩ = some (.int .u8 b.toNat) := by
  obtain ⟨ao', cap', e, h2, h3, h4, h5⟩ := h
  injection e with e1 e2 e3
  obtain ⟨b1, o, e4, h7⟩ := h5 (by simp)
  rw [← e1] at e4
  injection e4 with e4
  injection e4 with e5 e6
  subst e5; subst e6
  exact h7 0 (by simp)

theorem next_p1 {b : UInt8} {r : List UInt8} (h : ([13, 10] : List UInt8).isPrefixOf (b :: r) = true) : next (b :: r) = ⟨5, (b :: r).take 2, (b :: r).take 2⟩ := by
  obtain ⟨q, hq⟩ := List.isPrefixOf_iff_prefix.1 h
  obtain ⟨rfl, rfl⟩ : 13 = b ∧ 10 :: q = r := by simpa using hq
  simp [next]
theorem next_p2 {b : UInt8} {r : List UInt8} (h : ([61, 13, 10] : List UInt8).isPrefixOf (b :: r) = true) : next (b :: r) = ⟨4, (b :: r).take 3, []⟩ := by
  obtain ⟨q, hq⟩ := List.isPrefixOf_iff_prefix.1 h
  obtain ⟨rfl, rfl⟩ : 61 = b ∧ 13 :: 10 :: q = r := by simpa using hq
  simp [next]
/-- next, where an equals sign begins the text and no soft line break -/
def nextEsc : List UInt8 → Tok
  | x :: y :: _ =>
    match hexV x, hexV y with
    | some h, some l => ⟨3, [61, x, y], [UInt8.ofNat (h * 16 + l)]⟩
    | _, _ => Tok.none
  | _ => Tok.none
/-- next, where neither line break begins the text -/
theorem next_other {b : UInt8} {r : List UInt8} (h1 : ([13, 10] : List UInt8).isPrefixOf (b :: r) = false) (h2 : ([61, 13, 10] : List UInt8).isPrefixOf (b :: r) = false) :
    next (b :: r) = if b == 32 || b == 9 then ⟨2, [b], [b]⟩ else if b == 61 then nextEsc r else if 32 < b && b ≤ 126 then ⟨1, [b], [b]⟩ else Tok.none := by
  conv => lhs; unfold next
  split
  · rename_i e; cases e
  · rename_i e; rw [e] at h1; simp at h1
  · rename_i e; rw [e] at h2; simp at h2
  · rename_i e
    injection e with e1 e2
    subst e1; subst e2
    rfl
theorem bs_nil (w : World) : Bs w (.slice none 0 0) [] := ⟨none, 0, rfl, Nat.le_refl _, by omega, fun _ => rfl, fun h => absurd rfl h⟩
theorem Bs.drew {w : World} {v : Value} {l : List UInt8} (h : Bs w v l) : Bs w.drew v l := h

section
variable {w : World} {b0 off n cap : Nat} {b : UInt8} {r : List UInt8}

set_option maxRecDepth 100000 in
set_option maxHeartbeats 1600000 in
theorem next_brk (h : Bs w (.slice (some ⟨b0, off, none⟩) n cap) (b :: r)) (hn : n = (b :: r).length) (hp1 : ([13, 10] : List UInt8).isPrefixOf (b :: r) = true) :
    Calls Tryd.prog 10 #[.slice (some ⟨b0, off, none⟩) n cap] w (NextPost (some b0) (b :: r) w) := by
  have hn2 : 2 ≤ n := by
    rw [hn]
    exact (List.isPrefixOf_iff_prefix.1 hp1).length_le
  have HNX := Lib.hid (next_p1 hp1)
  have kc1 := kconst (w.alloc (.cells #[.int .i64 0, .slice none 0 0, .slice none 0 0] 37)) (w.heap.size + 1) 2 2 3 (World.size_alloc _ _).symm #[.int .u8 13, .int .u8 10] rfl rfl
  have hc0 := h.cell0
  have ca : ∀ o, (w.alloc o).cell? ⟨b0, off, none⟩ = some (.int .u8 b.toNat) := fun o => below_cell ((Below.refl _ _).alloc (Nat.le_refl _) _) _ _ hc0
  have hn0 : 1 ≤ n := by rw [hn]; simp
  have hnc : n ≤ cap ∧ cap ≤ 9223372036854775807 := by
    obtain ⟨ao', cap', e, h2, h3, _⟩ := h
    injection e with e1 e2 e3
    omega
  obtain ⟨hnc1, hnc2⟩ := hnc
  have hb1 : Below w.heap.size w ((w.alloc (.cells #[.int .i64 0, .slice none 0 0, .slice none 0 0] 37)).alloc (.cells #[.int .u8 13, .int .u8 10] 5 (2, 3))) := ((Below.refl _ _).alloc (Nat.le_refl _) _).alloc (by rw [World.size_alloc]; omega) _
  have hf1 := hasPrefix_bs (h.below hb1) (lit_bs (w.alloc (.cells #[.int .i64 0, .slice none 0 0, .slice none 0 0] 37)) [13, 10] (2, 3) 2 rfl (by omega) #[.int .u8 13, .int .u8 10] rfl)
  rw [hp1, World.size_alloc] at hf1
  have HF1 := Lib.hid hf1
  clear hf1 hb1
  obtain ⟨bx, hbx⟩ := byteFacts b
  obtain ⟨x, hx⟩ : ∃ x : Int, x = b.toNat := ⟨_, rfl⟩
  rw [← hx] at hc0 ca bx hbx
  have H := Lib.hid h
  have HN := Lib.hid hn
  have HX := Lib.hid hx
  clear h hn hx hp1
  have hend : NextPost (some b0) (b :: r) w (.returned (.agg #[.int .i64 5, (.slice (some ⟨b0, off, none⟩) 2 cap), (.slice (some ⟨b0, off, none⟩) 2 cap)])) (((w.alloc (.cells #[.int .i64 5, .slice (some ⟨b0, off, none⟩) 2 cap, .slice (some ⟨b0, off, none⟩) 2 cap] 37)).alloc (.cells #[.int .u8 13, .int .u8 10] 5 (2, 3))).drew) := by
    have hb : Below w.heap.size w (((w.alloc (.cells #[.int .i64 5, .slice (some ⟨b0, off, none⟩) 2 cap, .slice (some ⟨b0, off, none⟩) 2 cap] 37)).alloc (.cells #[.int .u8 13, .int .u8 10] 5 (2, 3))).drew) := by
      refine Below.drew ?_
      refine Below.alloc ?_ (by simp only [World.size_alloc]; omega) _
      exact Below.alloc (Below.refl _ _) (Nat.le_refl _) _
    refine ⟨.slice (some ⟨b0, off, none⟩) 2 cap, .slice (some ⟨b0, off, none⟩) 2 cap, ?_, ?_, ?_, hb, fun g hg => .inl hg, fun g hg => .inl hg⟩
    · rw [HNX.out]; rfl
    · rw [HNX.out]; exact (Bs.take (H.out.below hb) 2 (by have := HN.out; omega))
    · rw [HNX.out]; exact (Bs.take (H.out.below hb) 2 (by have := HN.out; omega))
  have HE := Lib.hid hend
  clear hend
  go_enter Tryd.func10, Tryd.ntmps10
  go_wp2_with (go_at_call 17; refine HF1.out.mono ?_; rintro e w' ⟨rfl, rfl⟩)
  go_region
  go_wp2
  exact bodyPost_ret (v := .agg #[.int .i64 5, .slice (some ⟨b0, off, none⟩) 2 cap, .slice (some ⟨b0, off, none⟩) 2 cap]) (by simp [results, Tryd.results10, go_sem]) rfl HE.out

end
end Go.Proofs.YtcbolmendjocbaaDoor

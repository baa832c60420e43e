/- The walks of Join, NewWriter, Bytes and Encode. The walk of Encode. -/
import Derived.Test.YthfkgancjpdodaaDoorBs
import Derived.Test.YthfkgancjpdodaaDoorWwalk
import Derived.Laws.AppendOwnNone
namespace Go.Proofs.YthfkgancjpdodaaDoor
open Go.RowKit Qp

theorem take_flat {ls : List (List UInt8)} {k : Nat} (h : k < ls.length) : (ls.take (k + 1)).flatten = (ls.take k).flatten ++ ls.getD k [] := by
  rw [List.take_succ_eq_append_getElem h, List.flatten_append]; simp [h]
theorem take_flat_le (ls : List (List UInt8)) (k : Nat) : (ls.take k).flatten.length ≤ ls.flatten.length := by
  conv => rhs; rw [← List.take_append_drop k ls]
  rw [List.flatten_append, List.length_append]
  omega

set_option maxRecDepth 100000 in
set_option maxHeartbeats 1600000 in
theorem Join_any {w : World} {v : Value} {ls : List (List UInt8)} (h : Ps w v ls) (hlim : ls.flatten.length ≤ 140737488355328) :
    Calls Tryd.prog 24 #[v] w fun e w' => ∃ v', e = .returned v' ∧ Bs w' v' ls.flatten ∧ Below w.heap.size w w' := by
  obtain ⟨i0, hi, hz0, hz1, hz2⟩ := info_parts info5
  obtain ⟨ao, cap, rfl, hlc, hcm, hat⟩ := h.at
  have HAT := Lib.hid hat
  obtain ⟨B, hB⟩ : ∃ B, B = w.heap.size := ⟨_, rfl⟩
  have hBl : B ≤ w.heap.size := by omega
  rw [← hB]
  have HB := Lib.hid hB
  clear hat h hB
  go_enter Tryd.func24, Tryd.ntmps24
  go_wp2
  go_loopw [3, 8] (fun v i wr => ∃ k : Nat, k ≤ ls.length ∧ i = .int .i64 k ∧ wr.ownsRow B 5 1 v (ls.take k).flatten.length (Lib.byteCells (ls.take k).flatten) ∧ Below B w wr) (fun _ i _ => ls.length - (intOf i).toNat)
  case atStart => exact ⟨0, Nat.zero_le _, rfl, World.ownsRow_nil _ _ _ _, Below.refl _ _⟩
  case round =>
    rename_i v3 _
    obtain ⟨k, hk, rfl, hown, hbel⟩ := hrel
    by_cases hlt : k < ls.length
    · obtain ⟨b, off, rfl, x, hc, hx⟩ := HAT.out k hlt
      have hc := below_cell (w' := wr) (HB.out ▸ hbel) _ _ hc
      have hx := hx.below (w' := wr) (HB.out ▸ hbel)
      have htf := take_flat hlt
      have hle := take_flat_le ls (k + 1)
      rw [htf, List.length_append] at hle
      have hbs := hbel.size
      obtain ⟨acc, hacc⟩ : ∃ acc, acc = (ls.take k).flatten := ⟨_, rfl⟩
      obtain ⟨p, hp⟩ : ∃ p, p = ls.getD k [] := ⟨_, rfl⟩
      rw [← hacc] at hown hle htf
      rw [← hp] at hx hle htf
      clear hacc hp
      rcases hx.src with ⟨rfl, rfl⟩ | ⟨ad, cap1, rfl, hpc, hpm, hnews⟩
      · rw [List.append_nil] at htf
        have HT := Lib.hid htf
        clear htf hx hle
        go_wp2_with (at_builtin; refine wpList_append_own_none rfl (.tmp 12) (.tmp 13) 24 rfl B 5 i0 1 Tryd.underlying24 hi _ _ _ rfl hown rfl ?_)
        go_roundw
        case rel => exact ⟨k + 1, by omega, by go_num, by rw [HT.out]; exact hown, hbel⟩
        case measure => simp [intOf]; omega
      · have HT := Lib.hid htf
        have HN := Lib.hid hnews
        clear htf hx hnews
        have hl1 : (Lib.byteCells p).length = p.length * 1 := by simp [byteCells_length]
        go_wp2_with (at_builtin; refine wpList_append_own _ rfl (.tmp 12) (.tmp 13) 24 rfl B 5 i0 (.int .u8 0) 1 1 Tryd.underlying24 hi hz0 hz1 hz2 rfl (by decide) _ _ _ rfl hown ad p.length cap1 (Lib.byteCells p) rfl hl1 HN.out (Lib.byteCells_one _) (by unfold maxLen; omega) (by omega) (by omega) ?_; intro v' w1 hown' hgrow _)
        go_roundw
        case rel => exact ⟨k + 1, by omega, by go_num, by rw [HT.out, List.length_append, Lib.byteCells_append]; exact hown', hbel.grown hgrow (by omega) (own_ge hown)⟩
        case measure => simp [intOf]; omega
    · have hke : k = ls.length := by omega
      subst hke
      rw [List.take_length] at hown
      have HO := Lib.hid (Bs.of_own hown)
      clear hown
      go_wp2
      go_ret
      exact ⟨_, rfl, HO.out, by rw [HB.out] at hbel ⊢; exact hbel⟩

/-- the zero Writer's cells -/
def wzero : Array Value := ([Value.bool false, .nilIface, .int .i64 0] ++ (List.replicate 78 (Value.int .u8 0) ++ [Value.bool false])).toArray

theorem zeroWriter (w : World) : (zeroValue 66).run Tryd.prog w = .ok (.agg wzero) w := by kernel_rfl

theorem new_any {w : World} {bb : Nat} :
    Calls Tryd.prog 43 #[wio bb] w fun e w' => e = .returned (.pointer (some ⟨w.heap.size, 0, none⟩)) ∧ w.alloc (.cells (wzero.setIfInBounds 1 (wio bb)) 66) = w' := by
  have hz := zeroWriter
  obtain ⟨Z, hZ⟩ : ∃ Z, Z = wzero := ⟨_, rfl⟩
  have hs : ¬ Z.size < 2 := by rw [hZ]; decide
  rw [← hZ] at hz ⊢
  clear hZ
  unfold wio
  go_enter Tryd.func43, Tryd.ntmps43
  go_wp2
  go_ret
  exact ⟨rfl, rfl⟩

theorem wzero_raw (w : World) (bb : Nat) : Wraw (w.alloc (.cells (wzero.setIfInBounds 1 (wio bb)) 66)) w.heap.size false (wio bb) 0 [] false :=
  ⟨List.replicate 78 (Value.int .u8 0), by rw [heap_alloc_new]; rfl, rfl⟩

/-- 'w.Binary = ..' -/
theorem Wraw.setbin {w : World} {b : Nat} {bin : Bool} {wv : Value} {n : Int} {l : List UInt8} {cr : Bool} (h : Wraw w b bin wv n l cr) (c : Bool) : Wraw (w.setCell ⟨b, 0, none⟩ (.bool c)) b c wv n l cr := by
  obtain ⟨junk, h, hl⟩ := h
  exact ⟨junk, by rw [Lib.heap_setCell_same h]; simp, hl⟩

theorem bytes_any {w : World} {b : Nat} {ro : Option Nat} {out : List UInt8} (h : BufAt w b ro out) :
    Calls Tryd.prog 46 #[.pointer (some ⟨b, 0, none⟩)] w fun e w' => ∃ v, e = .returned v ∧ Bs w' v out ∧ w.drew = w' := by
  obtain ⟨lr, h⟩ := h
  cases ro with
  | none =>
    obtain ⟨hb, rfl⟩ := h
    obtain ⟨c0, c1, c2, -⟩ := cell3 hb
    clear hb
    go_enter Tryd.func46, Tryd.ntmps46
    go_wp2
    go_region
    go_wp2
    go_ret
    exact ⟨_, rfl, ⟨none, 0, rfl, Nat.le_refl _, by omega, fun _ => rfl, fun h => absurd rfl h⟩, rfl⟩
  | some g =>
    obtain ⟨hgb, hne, cap, cur, hb, hg, hcs, hlc, hcm, htk⟩ := h
    obtain ⟨c0, c1, c2, -⟩ := cell3 hb
    have hown : w.ownsRow 0 5 1 (.slice (some ⟨g, 0, none⟩) out.length cap) out.length (Lib.byteCells out) :=
      ⟨by simp [byteCells_length], .inr ⟨g, cap, cur, rfl, Nat.zero_le _, hg, hlc, hcm, by omega, by rw [Nat.mul_one]; exact htk⟩⟩
    have hbs : Bs w.drew (.slice (some ⟨g, 0, none⟩) out.length cap) out := Bs.of_own hown
    have HBS := Lib.hid hbs
    have hpos : 0 < out.length := List.length_pos_iff.2 hne
    have hc0 : ¬ cap = 0 := by omega
    unfold maxLen at hcm
    clear hb hg htk hown hbs hcs
    go_enter Tryd.func46, Tryd.ntmps46
    go_wp2
    go_region
    go_wp2
    go_ret
    exact ⟨_, rfl, HBS.out, rfl⟩

end Go.Proofs.YthfkgancjpdodaaDoor

namespace Go.Proofs.YthfkgancjpdodaaDoor
open Go.RowKit Qp

theorem IsWr.below {w w1 : World} {bw bb : Nat} {ro : Option Nat} {bin : Bool} {s : WS} (h : IsWr w bw bb ro bin s) (hb : Below w.heap.size w w1) : IsWr w1 bw bb ro bin s := by
  have hbuf := h.buf
  refine ⟨h.raw.of_heap (hb.block bw h.raw.lt), ?_, h.ne, h.nr⟩
  have hlb : bb < w.heap.size := by
    obtain ⟨lr, hb'⟩ := hbuf
    cases ro with
    | none => exact Lib.lt_of_heap hb'.1
    | some g => obtain ⟨_, _, _, _, hb', _⟩ := hb'; exact Lib.lt_of_heap hb'
  refine hbuf.of_heap (hb.block bb hlb) ?_
  intro g hg
  subst hg
  obtain ⟨lr, _, _, _, _, _, hg, _⟩ := hbuf
  exact hb.block g (Lib.lt_of_heap hg)
theorem BufAt.row_lt {w : World} {b g : Nat} {out : List UInt8} (h : BufAt w b (some g) out) : g < w.heap.size := by
  obtain ⟨lr, _, _, _, _, _, hg, _⟩ := h
  exact Lib.lt_of_heap hg
theorem BufAt.lt {w : World} {b : Nat} {ro : Option Nat} {out : List UInt8} (h : BufAt w b ro out) : b < w.heap.size := by
  obtain ⟨lr, hb'⟩ := h
  cases ro with
  | none => exact Lib.lt_of_heap hb'.1
  | some g => obtain ⟨_, _, _, _, hb', _⟩ := hb'; exact Lib.lt_of_heap hb'

/-- the Writer of Encode behind k parts -/
def EncRel (w : World) (bw bb : Nat) (bin : Bool) (ls : List (List UInt8)) (k : Nat) (wr : World) : Prop :=
  ∃ ro, IsWr wr bw bb ro bin ((ls.take k).flatten.foldl (WS.step bin) WS.init) ∧ (∀ g, ro = some g → w.heap.size ≤ g) ∧ Below w.heap.size w wr

set_option maxRecDepth 100000 in
set_option maxHeartbeats 3200000 in
theorem Encode_any {w : World} {v : Value} {ls : List (List UInt8)} (bin : Bool) (h : Ps w v ls) (hlim : 200 * ls.flatten.length + 10000 ≤ 140737488355328) :
    Calls Tryd.prog 22 #[.bool bin, v] w fun e w' => ∃ v', e = .returned v' ∧ Bs w' v' (encode bin ls.flatten) ∧ Below w.heap.size w w' := by
  obtain ⟨i0, hi, hz0, hz1, hz2⟩ := info_parts info5
  obtain ⟨ao, cap, rfl, hlc, hcm, hat⟩ := h.at
  have HAT := Lib.hid hat
  have HLIM := Lib.hid hlim
  clear hat h hlim
  have hnw := new_any (w := w.alloc (.cells #[.slice none 0 0, .int .i64 0, .int .i8 0] 58)) (bb := w.heap.size)
  have hw1 := wzero_raw (w.alloc (.cells #[.slice none 0 0, .int .i64 0, .int .i8 0] 58)) w.heap.size
  rw [World.size_alloc] at hnw hw1
  unfold wio at hnw
  have HNW := Lib.hid hnw
  have HW1 := Lib.hid hw1
  clear hnw hw1
  go_enter Tryd.func22, Tryd.ntmps22
  go_wp2_with fail
  refine HNW.out.mono ?_
  rintro e w1 ⟨rfl, hw1⟩
  have h1 : Wraw w1 (w.heap.size + 1) false (wio w.heap.size) 0 [] false := by rw [← hw1]; exact HW1.out
  have hb1 : BufAt w1 w.heap.size none [] := by
    rw [← hw1]
    refine ⟨0, ?_, rfl⟩
    rw [Below.heap_alloc _ _ _ (by rw [World.size_alloc]; omega)]
    exact heap_alloc_new _ _
  have hbel1 : Below w.heap.size w w1 := by rw [← hw1]; exact ((Below.refl _ _).alloc (Nat.le_refl _) _).alloc (by rw [World.size_alloc]; omega) _
  have c0 := h1.c0
  have f0 := h1.fr 0
  have hst : EncRel w (w.heap.size + 1) w.heap.size bin ls 0 (w1.setCell ⟨w.heap.size + 1, 0, none⟩ (.bool bin)) := by
    refine ⟨none, ⟨h1.setbin bin, ?_, by omega, by simp⟩, (fun g e => by cases e), hbel1.setCell (by show _ ≤ _; simp) _⟩
    exact hb1.of_heap (Below.heap_setCell _ _ _ _ (by simp)) (fun g e => by cases e)
  have HST := Lib.hid hst
  clear hw1 h1 hb1 hbel1 hst
  go_wp2
  go_loopw [17] (fun i wr => ∃ k : Nat, k ≤ ls.length ∧ i = .int .i64 k ∧ EncRel w (w.heap.size + 1) w.heap.size bin ls k wr) (fun i _ => ls.length - (intOf i).toNat)
  case atStart => exact ⟨0, Nat.zero_le _, rfl, HST.out⟩
  case round =>
    obtain ⟨k, hk, rfl, hrel⟩ := hrel
    clear c0 f0
    by_cases hlt : k < ls.length
    · obtain ⟨b, off, rfl, x, hc, hx⟩ := HAT.out k hlt
      obtain ⟨ro, hwr, hro, hbel⟩ := hrel
      have hc := below_cell (w' := wr) hbel _ _ hc
      have hx := hx.below (w' := wr) hbel
      have htf := take_flat hlt
      have hle := take_flat_le ls (k + 1)
      rw [htf, List.length_append] at hle
      have hlim := HLIM.out
      obtain ⟨acc, hacc⟩ : ∃ acc, acc = (ls.take k).flatten := ⟨_, rfl⟩
      obtain ⟨p, hp⟩ : ∃ p, p = ls.getD k [] := ⟨_, rfl⟩
      rw [← hacc] at hwr hle htf
      rw [← hp] at hx hle htf
      clear hacc hp
      have hlen := fold_len (f := WS.step bin) (step_len bin) acc WS.init (by simp [WS.init])
      -- Write, of a copy that is new
      have hwrite : ∀ w2 g c, Below wr.heap.size wr w2 → wr.heap.size ≤ g → p.length ≤ c → c ≤ 9223372036854775807 → (∀ k, k < p.length → w2.cell? ⟨g, 0 + k, none⟩ = some (.int .u8 (p.getD k 0).toNat)) →
          Calls Tryd.prog 44 #[.pointer (some ⟨w.heap.size + 1, 0, none⟩), .slice (some ⟨g, 0, none⟩) p.length c] w2
            fun e w3 => (∃ v, e = .returned v) ∧ EncRel w (w.heap.size + 1) w.heap.size bin ls (k + 1) w3 := by
        intro w2 g c hb2 hg hpc hcm2 hpk
        have h2 := hwr.below hb2
        have hbs := hbel.size
        have h3 : ro ≠ some g := by rintro rfl; have := hwr.buf.row_lt; omega
        have hlt1 := hwr.raw.lt
        refine (Write_any g 0 c p h2 hlen.1 (by have h5 := hlen.2; have h0 : WS.init.out.length = 0 := rfl; omega) hpc hcm2 hpk (by omega) (by omega) h3).mono ?_
        rintro e w3 ⟨rfl, ro3, h4, hm4, hk4⟩
        refine ⟨⟨_, rfl⟩, ro3, ?_, ?_, ?_⟩
        · rw [htf, List.foldl_append]; exact h4
        · intro g3 e3
          rcases hm4 with hm4 | ⟨g4, hm4, hg4⟩
          · exact hro g3 (by rw [← hm4]; exact e3)
          · rw [hm4] at e3
            have := Option.some.inj e3
            have := hb2.size
            omega
        · refine (hbel.trans (hb2.mono hbs)).trans (hk4.to_below (Nat.le_trans hbs hb2.size) ?_)
          intro j hj hm
          rcases hm with hm | hm | hm
          · omega
          · omega
          · have := hro j hm; omega
      have HW := Lib.hid hwrite
      have hwlt := hwr.raw.lt
      clear hwrite hwr hro htf hlim hlen
      rcases hx.src with ⟨rfl, rfl⟩ | ⟨ad, cap1, rfl, hpc, hpm, hnews⟩
      · clear hx
        have HWC := Lib.hid (HW.out (wr.alloc (.cells #[] 5)) wr.heap.size 0 ((Below.refl _ _).alloc (Nat.le_refl _) _) (Nat.le_refl _) (Nat.le_refl _) (by omega) (fun k hk => absurd hk (by simp)))
        go_wp2_with fail
        refine HWC.out.mono ?_
        rintro e w3 ⟨⟨u, rfl⟩, hend⟩
        have HE := Lib.hid hend
        clear hend
        go_wp2
        go_roundw
        case rel => exact ⟨k + 1, by omega, by go_num, HE.out⟩
        case measure => simp [intOf]; omega
      · clear hx
        have HN := Lib.hid (fun j u (hj : (Lib.byteCells p)[j]? = some u) => below_cell (w := wr) (w' := wr.alloc (.cells #[] 5)) ((Below.refl _ _).alloc (Nat.le_refl _) _) _ _ (hnews j u hj))
        have hl1 : (Lib.byteCells p).length = p.length * 1 := by simp [byteCells_length]
        have hown : (wr.alloc (.cells #[] 5)).ownsRow wr.heap.size 5 1 (.slice (some ⟨wr.heap.size, 0, none⟩) 0 0) 0 [] :=
          ⟨rfl, .inr ⟨wr.heap.size, 0, #[], rfl, Nat.le_refl _, heap_alloc_new _ _, Nat.le_refl _, Nat.zero_le _, rfl, rfl⟩⟩
        have hsz : wr.heap.size ≤ (wr.alloc (.cells #[] 5)).heap.size := by rw [World.size_alloc]; omega
        have hlim := HLIM.out
        clear hnews
        go_wp2_with (at_builtin; refine wpList_append_own _ rfl (.tmp 22) (.tmp 23) 24 rfl wr.heap.size 5 i0 (.int .u8 0) 1 1 Tryd.underlying24 hi hz0 hz1 hz2 rfl (by decide) _ _ _ rfl hown ad p.length cap1 (Lib.byteCells p) rfl hl1 HN.out (Lib.byteCells_one _) (by unfold maxLen; omega) (by omega) hsz ?_; intro v' w2 hown' hgrow hnil; rw [Nat.zero_add, List.nil_append] at hown'; obtain ⟨g, cap2, rfl, hg, hpc2, hcm2, hpk⟩ := own_at hown' (fun e => by have := (hnil.1 e).1; cases this); have HWC := Lib.hid (HW.out w2 g cap2 (((Below.refl _ _).alloc (Nat.le_refl _) _).grown hgrow hsz (fun r hr => by injection hr with hr; rw [← hr]; exact Nat.le_refl _)) hg hpc2 hcm2 hpk); clear hown' hgrow hnil hpk)
        go_wp2_with fail
        refine HWC.out.mono ?_
        rintro e w3 ⟨⟨u, rfl⟩, hend⟩
        have HE := Lib.hid hend
        clear hend
        go_wp2
        go_roundw
        case rel => exact ⟨k + 1, by omega, by go_num, HE.out⟩
        case measure => simp [intOf]; omega
    · have hke : k = ls.length := by omega
      subst hke
      obtain ⟨ro, hwr, hro, hbel⟩ := hrel
      rw [List.take_length] at hwr
      have hlen := fold_len (f := WS.step bin) (step_len bin) ls.flatten WS.init (by simp [WS.init])
      have hlim := HLIM.out
      have h0 : WS.init.out.length = 0 := rfl
      have HC := Lib.hid (close_any hwr hlen.1 (by have := hlen.2; omega))
      have HRO := Lib.hid hro
      clear hwr hro hlen hlim h0
      go_wp2_with fail
      refine HC.out.mono ?_
      rintro e w3 ⟨rfl, ro3, h3, hm3, hk3⟩
      have hbel3 : Below w.heap.size w w3 := by
        refine hbel.trans (hk3.to_below hbel.size ?_)
        intro j hj hm
        rcases hm with hm | hm | hm
        · omega
        · omega
        · have := HRO.out j hm; omega
      have HB := Lib.hid (bytes_any h3.buf)
      have HBE := Lib.hid hbel3
      clear h3 hm3 hk3 hbel3
      go_wp2_with fail
      refine HB.out.mono ?_
      rintro e w4 ⟨v4, rfl, hv4, rfl⟩
      have HV := Lib.hid hv4
      clear hv4
      go_wp2
      go_ret
      exact ⟨_, rfl, HV.out, HBE.out.drew⟩

end Go.Proofs.YthfkgancjpdodaaDoor

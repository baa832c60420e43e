/- The walks of Join, NewWriter, Bytes and Encode. -/
import Derived.Test.YtigebhmdplcciaaBs
import Derived.Laws.AppendOwnNone
namespace Go.Proofs.Ytigebhmdplcciaa
open Go.RowKit Qp

theorem Bs.src {w : World} {v : Value} {l : List UInt8} (h : Bs w v l) : (v = .slice none 0 0 ∧ l = []) ∨
    ∃ ad cap, v = .slice (some ad) l.length cap ∧ l.length ≤ cap ∧ cap ≤ 9223372036854775807 ∧ ∀ j u, (Lib.byteCells l)[j]? = some u → w.cell? (ad.add j) = some u := by
  obtain ⟨ao, cap, rfl, h2, h3, h4, h5⟩ := h
  cases ao with
  | none =>
    have := h4 rfl
    subst this
    have : l = [] := List.eq_nil_of_length_eq_zero (by omega)
    subst this
    exact .inl ⟨rfl, rfl⟩
  | some ad =>
    refine .inr ⟨ad, cap, rfl, h2, h3, fun j u hj => ?_⟩
    have hj' : j < l.length := by
      have := (List.getElem?_eq_some_iff.1 hj).1
      simpa [byteCells_length] using this
    obtain ⟨b, off, e, h7⟩ := h5 (by rintro rfl; simp at hj')
    injection e with e
    subst e
    rw [Lib.addr_add, h7 j hj', ← hj]
    simp [Lib.byteCells, hj']

/-- an owned row reads as a slice of bytes -/
theorem Bs.of_own {w : World} {B : Nat} {v : Value} {l : List UInt8} (h : w.ownsRow B 5 1 v l.length (Lib.byteCells l)) : Bs w v l := by
  obtain ⟨_, h⟩ := h
  rcases h with ⟨rfl, h⟩ | ⟨g, cap, cur, rfl, hB, hg, hlc, hcm, hcs, htk⟩
  · have : l = [] := List.eq_nil_of_length_eq_zero h
    subst this
    exact ⟨none, 0, rfl, Nat.le_refl _, by omega, fun _ => rfl, fun h => absurd rfl h⟩
  · refine ⟨some ⟨g, 0, none⟩, cap, rfl, hlc, by unfold maxLen at hcm; omega, (fun h => by cases h), fun _ => ⟨g, 0, rfl, fun k hk => ?_⟩⟩
    rw [Lib.cell_of_heap hg, ← Array.getElem?_toList]
    have e : (cur.toList.take (l.length * 1))[k]? = cur.toList[0 + k]? := by
      rw [List.getElem?_take, if_pos (by omega), Nat.zero_add]
    rw [← e, htk]
    simp [Lib.byteCells, hk]

theorem own_ge {w : World} {B e : Nat} {size n : Nat} {v : Value} {xs : List Value} (h : w.ownsRow B e size v n xs) : ∀ r, v.ownBlock = some r → B ≤ r := by
  intro r hr
  rcases h.2 with ⟨rfl, _⟩ | ⟨g, cap, cur, rfl, hB, _⟩
  · cases hr
  · injection hr with hr
    subst hr
    exact hB
theorem take_flat {ls : List (List UInt8)} {k : Nat} (h : k < ls.length) : (ls.take (k + 1)).flatten = (ls.take k).flatten ++ ls.getD k [] := by
  rw [List.take_succ_eq_append_getElem h, List.flatten_append]; simp [h]
theorem take_flat_le (ls : List (List UInt8)) (k : Nat) : (ls.take k).flatten.length ≤ ls.flatten.length := by
  conv => rhs; rw [← List.take_append_drop k ls]
  rw [List.flatten_append, List.length_append]
  omega

set_option maxHeartbeats 1600000 in
theorem Join_any {w : World} {v : Value} {ls : List (List UInt8)} (h : Ps w v ls) (hlim : ls.flatten.length ≤ 140737488355328) :
    Calls Try.prog 10 #[v] w fun e w' => ∃ v', e = .returned v' ∧ Bs w' v' ls.flatten ∧ Below w.heap.size w w' := by
  obtain ⟨i0, hi, hz0, hz1, hz2⟩ := info_parts info5
  obtain ⟨ao, cap, rfl, hlc, hcm, hat⟩ := h.at
  have HAT := Lib.hid hat
  obtain ⟨B, hB⟩ : ∃ B, B = w.heap.size := ⟨_, rfl⟩
  have hBl : B ≤ w.heap.size := by omega
  rw [← hB]
  have HB := Lib.hid hB
  clear hat h hB
  go_enter Try.func10, Try.ntmps10
  go_wp2
  go_loopw [3, 8] (fun v i wr => ∃ k : Nat, k ≤ ls.length ∧ i = .int .i64 k ∧ wr.ownsRow B 5 1 v (ls.take k).flatten.length (Lib.byteCells (ls.take k).flatten) ∧ Below B w wr) (fun _ i _ => ls.length - (intOf i).toNat)
  case atStart => exact ⟨0, Nat.zero_le _, rfl, World.ownsRow_nil _ _ _ _, Below.refl _ _⟩
  case round =>
    rename_i v3 _
    obtain ⟨k, hk, rfl, hown, hbel⟩ := hrel
    by_cases hlt : k < ls.length
    · obtain ⟨b, off, rfl, x, hc, hx⟩ := HAT.out k hlt
      have hc := below_cell (w' := wr) (HB.out ▸ hbel) _ _ hc
      have hx := hx.below (w' := wr) (HB.out ▸ hbel)
      have htf := take_flat hlt
      have hle := take_flat_le ls (k + 1)
      rw [htf, List.length_append] at hle
      have hbs := hbel.size
      obtain ⟨acc, hacc⟩ : ∃ acc, acc = (ls.take k).flatten := ⟨_, rfl⟩
      obtain ⟨p, hp⟩ : ∃ p, p = ls.getD k [] := ⟨_, rfl⟩
      rw [← hacc] at hown hle htf
      rw [← hp] at hx hle htf
      clear hacc hp
      rcases hx.src with ⟨rfl, rfl⟩ | ⟨ad, cap1, rfl, hpc, hpm, hnews⟩
      · rw [List.append_nil] at htf
        have HT := Lib.hid htf
        clear htf hx hle
        go_wp2_with (at_builtin; refine wpList_append_own_none rfl (.tmp 12) (.tmp 13) 24 rfl B 5 i0 1 Try.underlying24 hi _ _ _ rfl hown rfl ?_)
        go_roundw
        case rel => exact ⟨k + 1, by omega, by go_num, by rw [HT.out]; exact hown, hbel⟩
        case measure => simp [intOf]; omega
      · have HT := Lib.hid htf
        have HN := Lib.hid hnews
        clear htf hx hnews
        have hl1 : (Lib.byteCells p).length = p.length * 1 := by simp [byteCells_length]
        go_wp2_with (at_builtin; refine wpList_append_own _ rfl (.tmp 12) (.tmp 13) 24 rfl B 5 i0 (.int .u8 0) 1 1 Try.underlying24 hi hz0 hz1 hz2 rfl (by decide) _ _ _ rfl hown ad p.length cap1 (Lib.byteCells p) rfl hl1 HN.out (Lib.byteCells_one _) (by unfold maxLen; omega) (by omega) (by omega) ?_; intro v' w1 hown' hgrow _)
        go_roundw
        case rel => exact ⟨k + 1, by omega, by go_num, by rw [HT.out, List.length_append, Lib.byteCells_append]; exact hown', hbel.grown hgrow (by omega) (own_ge hown)⟩
        case measure => simp [intOf]; omega
    · have hke : k = ls.length := by omega
      subst hke
      rw [List.take_length] at hown
      have HO := Lib.hid (Bs.of_own hown)
      clear hown
      go_wp2
      go_ret
      exact ⟨_, rfl, HO.out, by rw [HB.out] at hbel ⊢; exact hbel⟩

/-- the zero Writer's cells -/
def wzero : Array Value := ([Value.bool false, .nilIface, .int .i64 0] ++ (List.replicate 78 (Value.int .u8 0) ++ [Value.bool false])).toArray

theorem zeroWriter (w : World) : (zeroValue 51).run Try.prog w = .ok (.agg wzero) w := by kernel_rfl

theorem new_any {w : World} {bb : Nat} :
    Calls Try.prog 19 #[wio bb] w fun e w' => e = .returned (.pointer (some ⟨w.heap.size, 0, none⟩)) ∧ w.alloc (.cells (wzero.setIfInBounds 1 (wio bb)) 51) = w' := by
  have hz := zeroWriter
  obtain ⟨Z, hZ⟩ : ∃ Z, Z = wzero := ⟨_, rfl⟩
  have hs : ¬ Z.size < 2 := by rw [hZ]; decide
  rw [← hZ] at hz ⊢
  clear hZ
  unfold wio
  go_enter Try.func19, Try.ntmps19
  go_wp2
  go_ret
  exact ⟨rfl, rfl⟩

theorem wzero_raw (w : World) (bb : Nat) : Wraw (w.alloc (.cells (wzero.setIfInBounds 1 (wio bb)) 51)) w.heap.size false (wio bb) 0 [] false :=
  ⟨List.replicate 78 (Value.int .u8 0), by rw [heap_alloc_new]; rfl, rfl⟩

/-- 'w.Binary = ..' -/
theorem Wraw.setbin {w : World} {b : Nat} {bin : Bool} {wv : Value} {n : Int} {l : List UInt8} {cr : Bool} (h : Wraw w b bin wv n l cr) (c : Bool) : Wraw (w.setCell ⟨b, 0, none⟩ (.bool c)) b c wv n l cr := by
  obtain ⟨junk, h, hl⟩ := h
  exact ⟨junk, by rw [Lib.heap_setCell_same h]; simp, hl⟩

theorem bytes_any {w : World} {b : Nat} {ro : Option Nat} {out : List UInt8} (h : BufAt w b ro out) :
    Calls Try.prog 22 #[.pointer (some ⟨b, 0, none⟩)] w fun e w' => ∃ v, e = .returned v ∧ Bs w' v out ∧ w.drew = w' := by
  obtain ⟨lr, h⟩ := h
  cases ro with
  | none =>
    obtain ⟨hb, rfl⟩ := h
    obtain ⟨c0, c1, c2, -⟩ := cell3 hb
    clear hb
    go_enter Try.func22, Try.ntmps22
    go_wp2
    go_region
    go_wp2
    go_ret
    exact ⟨_, rfl, ⟨none, 0, rfl, Nat.le_refl _, by omega, fun _ => rfl, fun h => absurd rfl h⟩, rfl⟩
  | some g =>
    obtain ⟨hgb, hne, cap, cur, hb, hg, hcs, hlc, hcm, htk⟩ := h
    obtain ⟨c0, c1, c2, -⟩ := cell3 hb
    have hown : w.ownsRow 0 5 1 (.slice (some ⟨g, 0, none⟩) out.length cap) out.length (Lib.byteCells out) :=
      ⟨by simp [byteCells_length], .inr ⟨g, cap, cur, rfl, Nat.zero_le _, hg, hlc, hcm, by omega, by rw [Nat.mul_one]; exact htk⟩⟩
    have hbs : Bs w.drew (.slice (some ⟨g, 0, none⟩) out.length cap) out := Bs.of_own hown
    have HBS := Lib.hid hbs
    have hpos : 0 < out.length := List.length_pos_iff.2 hne
    have hc0 : ¬ cap = 0 := by omega
    unfold maxLen at hcm
    clear hb hg htk hown hbs hcs
    go_enter Try.func22, Try.ntmps22
    go_wp2
    go_region
    go_wp2
    go_ret
    exact ⟨_, rfl, HBS.out, rfl⟩

end Go.Proofs.Ytigebhmdplcciaa

/- The walk of Lines (printed by genlines.py). -/
import Derived.Test.YthfkgancjpdodaaDoorExq
namespace Go.Proofs.YthfkgancjpdodaaDoor
open Go.RowKit Qp

theorem cell_one (W : World) (b : UInt8) : ∀ j u, (Lib.byteCells [b])[j]? = some u → (W.alloc (.cells #[.int .u8 b.toNat] 5)).cell? ((⟨W.heap.size, 0, none⟩ : Addr).add j) = some u := by
  intro j u hj
  rw [Lib.addr_add, Lib.cell_of_heap (heap_alloc_new W _), Nat.zero_add, ← Array.getElem?_toList]
  exact hj
theorem own_alloc {w : World} {B e s n : Nat} {v : Value} {xs : List Value} (o : Obj) (h : w.ownsRow B e s v n xs) : (w.alloc o).ownsRow B e s v n xs := own_below h ((Below.refl _ _).alloc (Nat.le_refl _) _)

theorem own_snoc {w : World} {B : Nat} {v : Value} {acc : List UInt8} (h : w.ownsRow B 5 1 v (acc.length + 1) (Lib.byteCells acc ++ Lib.byteCells [13])) : (w.alloc (.cells #[.int .u8 10] 5)).ownsRow B 5 1 v (acc ++ [13]).length (Lib.byteCells (acc ++ [13])) := by
  rw [Lib.byteCells_append, List.length_append]
  exact own_alloc _ h

theorem linesGo_none1 {b : UInt8} (h : b = 13) : linesGo false (b :: []) = none := by subst h; rfl
theorem linesGo_none2 {x : UInt8} {r : B} (h : x ≠ 10) : linesGo false (13 :: x :: r) = none := by
  simp [linesGo, h]
theorem linesGo_cr (r : B) : linesGo false (13 :: r) = (linesGo true r).map (13 :: ·) := rfl
theorem linesGo_lf (r : B) : linesGo false (10 :: r) = (linesGo false r).map ([13, 10] ++ ·) := rfl
theorem linesGo_crlf (r : B) : linesGo true (10 :: r) = (linesGo false r).map ([10] ++ ·) := rfl
theorem linesGo_else {b : UInt8} (h1 : b ≠ 13) (h2 : b ≠ 10) (r : B) : linesGo false (b :: r) = (linesGo false r).map (b :: ·) := by
  simp [linesGo, h1, h2]

/-- what Lines returns -/
def LinesPost (data : B) (w : World) (e : Ending) (w' : World) : Prop :=
  Below w.heap.size w w' ∧ match lines data with
    | none => e = .returned (.tuple #[.slice none 0 0, .bool false])
    | some o => ∃ v', e = .returned (.tuple #[v', .bool true]) ∧ Bs w' v' o
/-- where Lines stands -/
def LinesRel (data : B) (w : World) (vo vi : Value) (wr : World) : Prop :=
  ∃ (k : Nat) (acc : B), k ≤ data.length ∧ vi = .int .i64 k ∧ acc.length ≤ 2 * k ∧ wr.ownsRow w.heap.size 5 1 vo acc.length (Lib.byteCells acc) ∧ Below w.heap.size w wr ∧
    ∃ cr : Bool, lines data = (linesGo cr (data.drop k)).map (acc ++ ·) ∧ (cr = true ↔ 0 < k ∧ data.getD (k - 1) 0 = 13) ∧ (cr = true → k < data.length ∧ data.getD k 0 = 10)

theorem LinesRel.next {data acc add : B} {w w2 : World} {k : Nat} {b : UInt8} {cr cr' : Bool} {v' : Value} (hk : k < data.length) (hb : b = data.getD k 0) (ha : acc.length ≤ 2 * k) (hadd : add.length ≤ 2)
    (hl : lines data = (linesGo cr (b :: data.drop (k + 1))).map (acc ++ ·)) (hstep : linesGo cr (b :: data.drop (k + 1)) = (linesGo cr' (data.drop (k + 1))).map (add ++ ·))
    (hcr : cr' = true ↔ b = 13) (hcr2 : cr' = true → k + 1 < data.length ∧ data.getD (k + 1) 0 = 10) (hown : w2.ownsRow w.heap.size 5 1 v' (acc ++ add).length (Lib.byteCells (acc ++ add))) (hbel : Below w.heap.size w w2) (vi : Value) (hvi : vi = .int .i64 (k + 1 : Nat)) :
    LinesRel data w v' vi w2 := by
  refine ⟨k + 1, acc ++ add, by omega, hvi, by rw [List.length_append]; omega, hown, hbel, cr', ?_, ?_, hcr2⟩
  · rw [hl, hstep, Option.map_map]
    congr 1
    funext x
    simp
  · rw [hcr, hb, Nat.add_sub_cancel]
    exact ⟨fun h => ⟨by omega, h⟩, fun h => h.2⟩

set_option maxRecDepth 100000 in
set_option maxHeartbeats 1600000 in
theorem Lines_any {w : World} {v : Value} {data : List UInt8} (h : Bs w v data) (hlim : data.length ≤ 1099511627776) :
    Calls Tryd.prog 25 #[v] w (LinesPost data w) := by
  obtain ⟨i0, hi, hz0, hz1, hz2⟩ := info_parts info5
  have hst : LinesRel data w (.slice none 0 0) (.int .i64 0) w := ⟨0, [], Nat.zero_le _, rfl, by simp, World.ownsRow_nil _ _ _ _, Below.refl _ _, false, by simp [lines], by simp, by simp⟩
  have HST := Lib.hid hst
  have hat : ∀ k, k < data.length → ∃ b off, lenOf v = data.length ∧ v.ownBlock = some b ∧ w.cell? ⟨b, off + k, none⟩ = some (.int .u8 (data.getD k 0).toNat) := by
    intro k hk
    obtain ⟨ao, cap, rfl, h2, h3, h4, h5⟩ := id h
    obtain ⟨b, off, rfl, h7⟩ := h5 (by rintro rfl; simp at hk)
    exact ⟨b, off, rfl, rfl, h7 k hk⟩
  clear hat
  obtain ⟨ao, cap, rfl, h2, h3, h4, h5⟩ := id h
  have HAT := Lib.hid (show ∀ k, k < data.length → ∃ b off, ao = some ⟨b, off, none⟩ ∧ ∀ k, k < data.length → w.cell? ⟨b, off + k, none⟩ = some (.int .u8 (data.getD k 0).toNat) from fun k hk => h5 (by rintro rfl; simp at hk))
  clear h hst h4 h5
  go_enter Tryd.func25, Tryd.ntmps25
  go_wp2
  go_loopw [4, 9] (fun vo vi wr => LinesRel data w vo vi wr) (fun _ i _ => data.length - (intOf i).toNat)
  case atStart => exact HST.out
  case round =>
    obtain ⟨k, acc, hk, rfl, ha, hown, hbel, cr, hl, hcr, hcr2⟩ := hrel
    by_cases hlt : k < data.length
    · obtain ⟨b0, off, rfl, hc⟩ := HAT.out k hlt
      have hd : data.drop k = data.getD k 0 :: data.drop (k + 1) := by
        rw [List.drop_eq_getElem_cons hlt]; simp [hlt]
      rw [hd] at hl
      have q0 := below_cell hbel _ _ (hc k hlt)
      have hbs := hbel.size
      obtain ⟨b, hb⟩ : ∃ b, b = data.getD k 0 := ⟨_, rfl⟩
      rw [← hb] at hl q0 hcr2
      have hnx := fun (cr' : Bool) (add : B) (hadd : add.length ≤ 2) hstep hcr' hcr2' v' w2 hown hbel => LinesRel.next (w := w) (w2 := w2) (v' := v') (add := add) (cr' := cr') hlt hb ha hadd hl hstep hcr' hcr2' hown hbel
      have HNX := Lib.hid hnx
      have HL := Lib.hid hl
      have HCR := Lib.hid hcr
      have HCR2 := Lib.hid hcr2
      have hnone : ∀ (wz : World), wz = wr → linesGo cr (b :: data.drop (k + 1)) = none → LinesPost data w (.returned (.tuple #[.slice none 0 0, .bool false])) wz := fun wz hz hn => by
        subst hz
        exact ⟨hbel, by rw [hl, hn]; rfl⟩
      have HNONE := Lib.hid (hnone _ rfl)
      have hprev : ∀ h : 0 < k, wr.cell? ⟨b0, off + (k - 1), none⟩ = some (.int .u8 (data.getD (k - 1) 0).toNat) := fun h => below_cell hbel _ _ (hc (k - 1) (by omega))
      have hnext : ∀ h : k + 1 < data.length, wr.cell? ⟨b0, off + (k + 1), none⟩ = some (.int .u8 (data.getD (k + 1) 0).toNat) := fun h => below_cell hbel _ _ (hc (k + 1) h)
      have HO0 := Lib.hid hown
      have HB0 := Lib.hid hbel
      clear hd hl hcr hcr2 hnx hnone hown hbel hc hbs
      by_cases h13 : b = 13
      · have hcrf : cr = false := by
          cases cr with
          | false => rfl
          | true => have := (HCR2.out rfl).2; rw [h13] at this; cases this
        subst hcrf; subst h13
        have q0 : wr.cell? ⟨b0, off + k, none⟩ = some (.int .u8 13) := q0
        by_cases hl1 : k + 1 < data.length
        · replace hnext := hnext hl1
          have i1 : ¬ (k : Int) + 1 = (data.length : Int) := by omega
          have j1 : ((k : Int) + 1 == (data.length : Int)) = false := beq_eq_false_iff_ne.2 i1
          obtain ⟨x, hx⟩ : ∃ x, x = data.getD (k + 1) 0 := ⟨_, rfl⟩
          rw [← hx] at hnext
          by_cases hx10 : x = 10
          · subst hx10
            have hnext : wr.cell? ⟨b0, off + (k + 1), none⟩ = some (.int .u8 10) := hnext
            have HX := Lib.hid hx
            have HO := Lib.hid (own_alloc (.cells #[.int .u8 13] 5) HO0.out)
            have HN := Lib.hid (cell_one wr 13)
            have HBA := Lib.hid (HB0.out.alloc HB0.out.size (.cells #[.int .u8 13] 5))
            have HSZ := Lib.hid HBA.out.size
            clear hx hprev hb
            go_wp2_with (at_builtin; refine wpList_append_own _ rfl (.tmp 48) (.tmp 50) 24 rfl w.heap.size 5 i0 (.int .u8 0) 1 1 Tryd.underlying24 hi hz0 hz1 hz2 rfl (by decide) _ _ _ rfl HO.out ⟨wr.heap.size, 0, none⟩ 1 1 (Lib.byteCells [13]) rfl rfl HN.out (Lib.byteCells_one _) (by unfold maxLen; omega) (by omega) HSZ.out ?_; intro v' w2 hown2 hgrow2 _)
            go_roundw
            case rel => exact HNX.out true [13] (by decide) rfl (by simp) (fun _ => ⟨hl1, HX.out.symm⟩) _ _ (by rw [List.length_append, Lib.byteCells_append]; exact hown2) (HBA.out.grown hgrow2 HSZ.out (own_ge HO.out)) _ (by go_num)
            case measure => simp [intOf]; omega
          · have hxi : (x.toNat : Int) ≠ 10 := fun e => hx10 (UInt8.toNat_inj.1 (by show x.toNat = 10; omega))
            have hd2 : data.drop (k + 1) = x :: data.drop (k + 2) := by
              rw [List.drop_eq_getElem_cons hl1, hx]; simp [hl1]
            have HE := Lib.hid (HNONE.out (by rw [hd2]; exact linesGo_none2 hx10))
            obtain ⟨xi, hxe⟩ : ∃ xi : Int, xi = x.toNat := ⟨_, rfl⟩
            rw [← hxe] at hnext hxi
            have i10 : ¬ xi = 10 := hxi
            have j10 : (xi == 10) = false := beq_eq_false_iff_ne.2 i10
            clear hx hprev hb hd2 hxe hxi
            go_wp2
            go_ret2
            exact HE.out
        · have i1 : (data.length : Int) = (k : Int) + 1 := by omega
          have hd2 : data.drop (k + 1) = [] := List.drop_eq_nil_of_le (by omega)
          have HE := Lib.hid (HNONE.out (by rw [hd2]; rfl))
          have hle : data.length = k + 1 := by omega
          clear hprev hnext hb hd2
          rw [hle]
          go_wp2
          go_ret2
          exact HE.out
      · have hbi : (b.toNat : Int) ≠ 13 := fun e => h13 (UInt8.toNat_inj.1 (by show b.toNat = 13; omega))
        by_cases h10 : b = 10
        · subst h10
          have q0 : wr.cell? ⟨b0, off + k, none⟩ = some (.int .u8 10) := q0
          cases hcrv : cr with
          | true =>
            subst hcrv
            obtain ⟨hk0, hp13⟩ := HCR.out.1 rfl
            replace hprev := hprev hk0
            rw [hp13] at hprev
            have hprev : wr.cell? ⟨b0, off + (k - 1), none⟩ = some (.int .u8 13) := hprev
            have k0n : ¬ (k : Int) = 0 := by omega
            have j0 : ((k : Int) == 0) = false := beq_eq_false_iff_ne.2 k0n
            have HO := Lib.hid (own_alloc (.cells #[.int .u8 10] 5) HO0.out)
            have HN := Lib.hid (cell_one wr 10)
            have HBA := Lib.hid (HB0.out.alloc HB0.out.size (.cells #[.int .u8 10] 5))
            have HSZ := Lib.hid HBA.out.size
            clear hnext hb hp13 hbi h13
            go_wp2_with (at_builtin; refine wpList_append_own _ rfl (.tmp 48) (.tmp 50) 24 rfl w.heap.size 5 i0 (.int .u8 0) 1 1 Tryd.underlying24 hi hz0 hz1 hz2 rfl (by decide) _ _ _ rfl HO.out ⟨wr.heap.size, 0, none⟩ 1 1 (Lib.byteCells [10]) rfl rfl HN.out (Lib.byteCells_one _) (by unfold maxLen; omega) (by omega) HSZ.out ?_; intro v' w2 hown2 hgrow2 _)
            go_roundw
            case rel => exact HNX.out false [10] (by decide) rfl (by simp) (by simp) _ _ (by rw [List.length_append, Lib.byteCells_append]; exact hown2) (HBA.out.grown hgrow2 HSZ.out (own_ge HO.out)) _ (by go_num)
            case measure => simp [intOf]; omega
          | false =>
            subst hcrv
            have HO := Lib.hid (own_alloc (.cells #[.int .u8 13] 5) HO0.out)
            have HN := Lib.hid (cell_one wr 13)
            have HBA := Lib.hid (HB0.out.alloc HB0.out.size (.cells #[.int .u8 13] 5))
            have HSZ := Lib.hid HBA.out.size
            by_cases hk0 : k = 0
            · subst hk0
              rw [Nat.add_zero] at q0
              have ha2 : acc.length ≤ 2 := by omega
              clear ha
              clear hnext hprev hb hbi h13
              go_wp2_with (first | (at_builtin; refine wpList_append_own _ rfl (.tmp 45) (.tmp 46) 24 rfl w.heap.size 5 i0 (.int .u8 0) 1 1 Tryd.underlying24 hi hz0 hz1 hz2 rfl (by decide) _ _ _ rfl HO.out ⟨wr.heap.size, 0, none⟩ 1 1 (Lib.byteCells [13]) rfl rfl HN.out (Lib.byteCells_one _) (by unfold maxLen; omega) (by omega) HSZ.out ?_; intro v1 w1 hown1 hgrow1 _; have HB1 := Lib.hid (HBA.out.grown hgrow1 HSZ.out (own_ge HO.out)); have HO := Lib.hid (own_snoc hown1); have HN := Lib.hid (cell_one w1 10); have HSZ := Lib.hid (HB1.out.alloc HB1.out.size (.cells #[.int .u8 10] 5)).size; have HBA := Lib.hid (HB1.out.alloc HB1.out.size (.cells #[.int .u8 10] 5)); clear hown1 hgrow1) | (at_builtin; refine wpList_append_own _ rfl (.tmp 48) (.tmp 50) 24 rfl w.heap.size 5 i0 (.int .u8 0) 1 1 Tryd.underlying24 hi hz0 hz1 hz2 rfl (by decide) _ _ _ rfl HO.out ⟨w1.heap.size, 0, none⟩ 1 1 (Lib.byteCells [10]) rfl rfl HN.out (Lib.byteCells_one _) (by unfold maxLen; rw [List.length_append]; simp only [List.length_cons, List.length_nil]; omega) (by rw [List.length_append]; simp only [List.length_cons, List.length_nil]; omega) HSZ.out ?_; intro v' w2 hown2 hgrow2 _))
              go_roundw
              case rel => exact HNX.out false [13, 10] (by decide) rfl (by simp) (by simp) _ _ (by have h := hown2; rw [← Lib.byteCells_append, List.append_assoc] at h; rw [List.length_append] at h; rw [List.length_append]; exact h) (HBA.out.grown hgrow2 HSZ.out (own_ge HO.out)) _ (by go_num)
              case measure => simp [intOf]; omega
            · replace hprev := hprev (by omega)
              have hp13 : data.getD (k - 1) 0 ≠ 13 := fun e => by have := HCR.out.2 ⟨by omega, e⟩; cases this
              obtain ⟨x, hx⟩ : ∃ x, x = data.getD (k - 1) 0 := ⟨_, rfl⟩
              rw [← hx] at hprev hp13
              have hxi : (x.toNat : Int) ≠ 13 := fun e => hp13 (UInt8.toNat_inj.1 (by show x.toNat = 13; omega))
              obtain ⟨xi, hxe⟩ : ∃ xi : Int, xi = x.toNat := ⟨_, rfl⟩
              rw [← hxe] at hprev hxi
              have i13 : ¬ xi = 13 := hxi
              have j13 : (xi == 13) = false := beq_eq_false_iff_ne.2 i13
              have k0n : ¬ (k : Int) = 0 := by omega
              have j0 : ((k : Int) == 0) = false := beq_eq_false_iff_ne.2 k0n
              clear hnext hb hbi h13 hx hxe hxi hp13
              go_wp2_with (first | (at_builtin; refine wpList_append_own _ rfl (.tmp 45) (.tmp 46) 24 rfl w.heap.size 5 i0 (.int .u8 0) 1 1 Tryd.underlying24 hi hz0 hz1 hz2 rfl (by decide) _ _ _ rfl HO.out ⟨wr.heap.size, 0, none⟩ 1 1 (Lib.byteCells [13]) rfl rfl HN.out (Lib.byteCells_one _) (by unfold maxLen; omega) (by omega) HSZ.out ?_; intro v1 w1 hown1 hgrow1 _; have HB1 := Lib.hid (HBA.out.grown hgrow1 HSZ.out (own_ge HO.out)); have HO := Lib.hid (own_snoc hown1); have HN := Lib.hid (cell_one w1 10); have HSZ := Lib.hid (HB1.out.alloc HB1.out.size (.cells #[.int .u8 10] 5)).size; have HBA := Lib.hid (HB1.out.alloc HB1.out.size (.cells #[.int .u8 10] 5)); clear hown1 hgrow1) | (at_builtin; refine wpList_append_own _ rfl (.tmp 48) (.tmp 50) 24 rfl w.heap.size 5 i0 (.int .u8 0) 1 1 Tryd.underlying24 hi hz0 hz1 hz2 rfl (by decide) _ _ _ rfl HO.out ⟨w1.heap.size, 0, none⟩ 1 1 (Lib.byteCells [10]) rfl rfl HN.out (Lib.byteCells_one _) (by unfold maxLen; rw [List.length_append]; simp only [List.length_cons, List.length_nil]; omega) (by rw [List.length_append]; simp only [List.length_cons, List.length_nil]; omega) HSZ.out ?_; intro v' w2 hown2 hgrow2 _))
              go_roundw
              case rel => exact HNX.out false [13, 10] (by decide) rfl (by simp) (by simp) _ _ (by have h := hown2; rw [← Lib.byteCells_append, List.append_assoc] at h; rw [List.length_append] at h; rw [List.length_append]; exact h) (HBA.out.grown hgrow2 HSZ.out (own_ge HO.out)) _ (by go_num)
              case measure => simp [intOf]; omega
        · have hcrf : cr = false := by
            cases cr with
            | false => rfl
            | true => exact absurd (HCR2.out rfl).2 h10
          subst hcrf
          have hbi2 : (b.toNat : Int) ≠ 10 := fun e => h10 (UInt8.toNat_inj.1 (by show b.toNat = 10; omega))
          have HO := Lib.hid (own_alloc (.cells #[.int .u8 b.toNat] 5) HO0.out)
          have HN := Lib.hid (cell_one wr b)
          have HBA := Lib.hid (HB0.out.alloc HB0.out.size (.cells #[.int .u8 b.toNat] 5))
          have HSZ := Lib.hid HBA.out.size
          obtain ⟨bi, hbe⟩ : ∃ bi : Int, bi = b.toNat := ⟨_, rfl⟩
          obtain ⟨bl, bu⟩ := byteFacts b
          rw [← hbe] at q0 hbi hbi2 HO HN HBA HSZ bl bu
          have i13 : ¬ bi = 13 := hbi
          have j13 : (bi == 13) = false := beq_eq_false_iff_ne.2 i13
          have i10 : ¬ bi = 10 := hbi2
          have j10 : (bi == 10) = false := beq_eq_false_iff_ne.2 i10
          clear hnext hprev hb hbi hbi2 hbe
          go_wp2_with (at_builtin; refine wpList_append_own _ rfl (.tmp 48) (.tmp 50) 24 rfl w.heap.size 5 i0 (.int .u8 0) 1 1 Tryd.underlying24 hi hz0 hz1 hz2 rfl (by decide) _ _ _ rfl HO.out ⟨wr.heap.size, 0, none⟩ 1 1 (Lib.byteCells [b]) rfl rfl HN.out (Lib.byteCells_one _) (by unfold maxLen; omega) (by omega) HSZ.out ?_; intro v' w2 hown2 hgrow2 _)
          go_roundw
          case rel => exact HNX.out false [b] (by simp) (linesGo_else h13 h10 _) (by simp [h13]) (by simp) _ _ (by rw [List.length_append, Lib.byteCells_append]; exact hown2) (HBA.out.grown hgrow2 HSZ.out (own_ge HO.out)) _ (by go_num)
          case measure => simp [intOf]; omega
    · have hke : k = data.length := by omega
      subst hke
      have hcrf : cr = false := by
        cases cr with
        | false => rfl
        | true => exact absurd (hcr2 rfl).1 hlt
      subst hcrf
      rw [List.drop_length] at hl
      have hend : LinesPost data w (.returned (.tuple #[u4, .bool true])) wr := ⟨hbel, by rw [hl]; exact ⟨_, rfl, by simpa using Bs.of_own hown⟩⟩
      have HE := Lib.hid hend
      clear hend hl hown hbel hcr hcr2
      go_wp2
      go_ret2
      exact HE.out

end Go.Proofs.YthfkgancjpdodaaDoor

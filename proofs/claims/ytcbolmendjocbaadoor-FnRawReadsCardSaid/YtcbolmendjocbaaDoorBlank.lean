/- The walk of BlankEnds. The walks of value and Value (printed by genval.py). The walks of Value and Kept. -/
import Derived.Test.YtcbolmendjocbaaDoorTokw
namespace Go.Proofs.YtcbolmendjocbaaDoor
open Go.RowKit Qp

theorem Ts.at {w : World} {v : Value} {l : List Tok} (h : Ts w v l) : ∃ ao cap, v = .slice ao l.length cap ∧ l.length ≤ cap ∧ cap ≤ 9223372036854775807 ∧
    ∀ k (hk : k < l.length), ∃ b off a1 n1 c1 a2 n2 c2, ao = some ⟨b, off, none⟩ ∧ w.cell? ⟨b, off + k * 3, none⟩ = some (.int .i64 l[k].kind) ∧ w.cell? ⟨b, off + k * 3 + 1, none⟩ = some (.slice a1 n1 c1) ∧ w.cell? ⟨b, off + k * 3 + 2, none⟩ = some (.slice a2 n2 c2) ∧ Bs w (.slice a1 n1 c1) l[k].text ∧ Bs w (.slice a2 n2 c2) l[k].value := by
  obtain ⟨ts, ao, cap, rfl, h2, rfl, h4, h5, h6⟩ := h
  refine ⟨ao, cap, by simp, by simpa using h4, h5.1, fun k hk => ?_⟩
  have hk' : k < ts.length := by simpa using hk
  obtain ⟨b, off, h7, h8, h9, h10⟩ := h6 k hk'
  obtain ⟨h11, h12⟩ := h2 ts[k] (List.getElem_mem hk')
  obtain ⟨a1, c1, e1⟩ := Bs.shape h11
  obtain ⟨a2, c2, e2⟩ := Bs.shape h12
  rw [e1] at h9 h11
  rw [e2] at h10 h12
  refine ⟨b, off, a1, _, c1, a2, _, c2, h7, ?_, h9, h10, ?_, ?_⟩
  · simpa using h8
  · simpa using h11
  · simpa using h12

theorem blankEnds_cons (t : Tok) (r : List Tok) : blankEnds (t :: r) = ((decide (t.kind = 2) && (match r with | [] => true | u :: _ => decide (u.kind = 5))) || blankEnds r) := by cases r <;> rfl
theorem blankEnds_drop {l : List Tok} {k : Nat} (hk : k < l.length) : blankEnds (l.drop k) = ((decide (l[k].kind = 2) && (if h : k + 1 < l.length then decide (l[k + 1].kind = 5) else true)) || blankEnds (l.drop (k + 1))) := by
  rw [List.drop_eq_getElem_cons hk, blankEnds_cons]
  congr 2
  by_cases h : k + 1 < l.length
  · rw [dif_pos h, List.drop_eq_getElem_cons h]
  · rw [dif_neg h, List.drop_eq_nil_of_le (by omega)]

end Go.Proofs.YtcbolmendjocbaaDoor

namespace Go.Proofs.YtcbolmendjocbaaDoor
open Go.RowKit Qp

theorem own_cut {w : World} {B g n cap : Nat} {l : List UInt8} (k : Nat) (hk : k ≤ n) (h : w.ownsRow B 5 1 (.slice (some ⟨g, 0, none⟩) n cap) l.length (Lib.byteCells l)) : w.ownsRow B 5 1 (.slice (some ⟨g, 0, none⟩) k cap) (l.take k).length (Lib.byteCells (l.take k)) := by
  rcases h.2 with ⟨e, _⟩ | ⟨g', cap', cur, e, h1, h2, h3, h4, h5, h6⟩
  · cases e
  · injection e with e1 e2 e3
    injection e1 with e1
    injection e1 with e1
    subst e1; subst e2; subst e3
    have hl : (l.take k).length = k := by rw [List.length_take]; omega
    refine ⟨by simp [byteCells_length], .inr ⟨g, cap, cur, by rw [hl], h1, h2, by omega, h4, h5, ?_⟩⟩
    rw [hl]
    have : cur.toList.take (k * 1) = (cur.toList.take (l.length * 1)).take k := by rw [List.take_take]; congr 1; omega
    rw [this, h6]
    simp [Lib.byteCells, List.map_take]
theorem own_form {w : World} {B n : Nat} {v : Value} {xs : List Value} (h : w.ownsRow B 5 1 v n xs) : v = .slice none 0 0 ∧ n = 0 ∨ ∃ g cap, v = .slice (some ⟨g, 0, none⟩) n cap ∧ n ≤ cap ∧ cap ≤ 9223372036854775807 := by
  rcases h.2 with h | ⟨g, cap, cur, h0, h1, h2, h3, h4, h5, h6⟩
  · exact .inl h
  · exact .inr ⟨g, cap, h0, h3, by unfold maxLen at h4; omega⟩

theorem valueGo_take {l : List Tok} {k : Nat} (hk : k < l.length) : valueGo (l.take (k + 1)) = valueStep (valueGo (l.take k)) l[k] := by
  unfold valueGo
  rw [List.take_succ_eq_append_getElem hk, List.foldl_append]
  rfl

theorem okTok.value_len {t : Tok} (h : okTok t) : t.value.length ≤ 2 ∧ (t.kind = 2 → 1 ≤ t.value.length) := by
  rcases h with ⟨b, _, _, _, rfl⟩ | ⟨b, _, rfl⟩ | ⟨x, y, h, l, _, _, rfl⟩ | rfl | rfl <;> simp [litTok, blankTok, softTok, brkTok]
/-- a token that stands for two bytes at the most, and a blank for one at least -/
def lenTok (t : Tok) : Prop := t.value.length ≤ 2 ∧ (t.kind = 2 → 1 ≤ t.value.length)
theorem valueGo_len (l : List Tok) (hl : ∀ t ∈ l, lenTok t) (k : Nat) (hk : k ≤ l.length) : (valueGo (l.take k)).2 ≤ (valueGo (l.take k)).1.length ∧ (valueGo (l.take k)).1.length ≤ 2 * k := by
  induction k with
  | zero => simp [valueGo]
  | succ k ih =>
    obtain ⟨h1, h2⟩ := ih (by omega)
    obtain ⟨h3, h4⟩ := hl l[k] (List.getElem_mem (by omega))
    rw [valueGo_take (by omega)]
    unfold valueStep
    split
    · simp; omega
    · split
      · rename_i h5
        have := h4 h5
        simp; omega
      · simp; omega

/-- where value stands -/
def ValRel (w : World) (l : List Tok) (vo vn vi : Value) (wr : World) : Prop :=
  ∃ k n : Nat, k ≤ l.length ∧ vi = .int .i64 k ∧ vn = .int .i64 n ∧ n = (valueGo (l.take k)).2 ∧ wr.ownsRow w.heap.size 5 1 vo (valueGo (l.take k)).1.length (Lib.byteCells (valueGo (l.take k)).1) ∧ Below w.heap.size w wr

theorem ValRel.next {w wr w2 : World} {l : List Tok} {k m : Nat} {v1 v' : Value} {acc : B} (hk : k < l.length) (hbel : Below w.heap.size w wr) (hb : ∀ r, v1.ownBlock = some r → w.heap.size ≤ r)
    (hs : valueStep (valueGo (l.take k)) l[k] = (acc, m)) (hown : w2.ownsRow w.heap.size 5 1 v' acc.length (Lib.byteCells acc)) (hg : wr.grownBy w2 v1.ownBlock) (vi vn : Value) (hvi : vi = .int .i64 (k + 1 : Nat)) (hvn : vn = .int .i64 m) :
    ValRel w l v' vn vi w2 := by
  refine ⟨k + 1, m, by omega, hvi, hvn, ?_, ?_, hbel.grown hg hbel.size hb⟩
  · rw [valueGo_take hk, hs]
  · rw [valueGo_take hk, hs]; exact hown

set_option maxRecDepth 100000 in
set_option maxHeartbeats 3200000 in
theorem value_any {w : World} {v : Value} {l : List Tok} (h : Ts w v l) (hl : ∀ t ∈ l, lenTok t) (hlim : l.length ≤ 1099511627776) :
    Calls Tryd.prog 11 #[v] w fun e w' => ∃ v', e = .returned (.tuple #[v', .int .i64 (valueGo l).2]) ∧ w'.ownsRow w.heap.size 5 1 v' (valueGo l).1.length (Lib.byteCells (valueGo l).1) ∧ Below w.heap.size w w' := by
  obtain ⟨i0, hi, hz0, hz1, hz2⟩ := info_parts info5
  obtain ⟨ao, cap, rfl, hlc, hcm, hat⟩ := h.at
  have HAT := Lib.hid hat
  have HLEN := Lib.hid (fun k (hk : k ≤ l.length) => valueGo_len l hl k hk)
  have HOK := Lib.hid (fun k (hk : k < l.length) => hl l[k] (List.getElem_mem hk))
  clear hat h hl
  go_enter Tryd.func11, Tryd.ntmps11
  go_wp2
  go_loopw [4, 5, 10] (fun vo vn vi wr => ValRel w l vo vn vi wr) (fun _ _ i _ => l.length - (intOf i).toNat)
  case atStart => exact ⟨0, 0, Nat.zero_le _, rfl, rfl, rfl, World.ownsRow_nil _ _ _ _, Below.refl _ _⟩
  case round =>
    obtain ⟨k, n, hk, rfl, rfl, hn, hown, hbel⟩ := hrel
    by_cases hlt : k < l.length
    · obtain ⟨b, off, a1, n1, c1, a2, n2, c2, rfl, q0, q1, q2, -, hv⟩ := HAT.out k hlt
      have q0 := below_cell hbel _ _ q0
      have q1 := below_cell hbel _ _ q1
      have q2 := below_cell hbel _ _ q2
      have hbs := hbel.size
      have hbl : ∀ o, Below w.heap.size w (wr.alloc o) := fun o => hbel.alloc hbs _
      have hv : ∀ o, Bs (wr.alloc o) (.slice a2 n2 c2) l[k].value := fun o => hv.below (hbl o)
      have hsz : ∀ o, w.heap.size ≤ (wr.alloc o).heap.size := fun o => (hbl o).size
      have hown : ∀ o, (wr.alloc o).ownsRow w.heap.size 5 1 u4 (valueGo (l.take k)).1.length (Lib.byteCells (valueGo (l.take k)).1) := fun o => own_below hown ((Below.refl _ _).alloc (Nat.le_refl _) _)
      obtain ⟨hl1, hl2⟩ := HLEN.out k hk
      obtain ⟨hl3, -⟩ := HOK.out k hlt
      have hnx := fun (m : Nat) (acc : B) (hs : valueStep (valueGo (l.take k)) l[k] = (acc, m)) o (v1 v' : Value) w2 (hb : ∀ r, v1.ownBlock = some r → w.heap.size ≤ r) (hown : w2.ownsRow w.heap.size 5 1 v' acc.length (Lib.byteCells acc)) (hg : (wr.alloc o).grownBy w2 v1.ownBlock) => ValRel.next (v1 := v1) hlt (hbl o) hb hs hown hg
      have HNX := Lib.hid hnx
      obtain ⟨kd, hkd⟩ : ∃ kd, kd = l[k].kind := ⟨_, rfl⟩
      obtain ⟨vl, hvl⟩ : ∃ vl, vl = l[k].value := ⟨_, rfl⟩
      obtain ⟨acc, hacc⟩ : ∃ acc, acc = (valueGo (l.take k)).1 := ⟨_, rfl⟩
      have hst : valueStep (valueGo (l.take k)) l[k] = if kd = 5 then (acc.take (acc.length - n) ++ vl, 0) else if kd = 2 then (acc ++ vl, n + 1) else (acc ++ vl, 0) := by
        rw [hkd, hvl, hacc, hn]; rfl
      rw [← hn, ← hacc] at hl1
      rw [← hacc] at hown hl2
      rw [← hkd] at q0
      rw [← hvl] at hv hl3
      obtain ⟨al, hal⟩ : ∃ al, al = acc.length := ⟨_, rfl⟩
      rw [← hal] at hst
      rw [hst] at HNX
      have HV := Lib.hid hv
      have HOWN := Lib.hid hown
      have HSZ := Lib.hid hsz
      have hlim2 : acc.length + vl.length ≤ 2199023255560 := by omega
      obtain ⟨vlen, hvlen⟩ : ∃ vlen, vlen = vl.length := ⟨_, rfl⟩
      rw [← hal, ← hvlen] at hlim2
      rw [← hal] at hl1
      have HAL := Lib.hid hal
      have HVL := Lib.hid hvlen
      clear hbl hbel hkd hvl hacc hst hnx hv hown hsz hn hl2 hl3 hal hvlen hk hlim
      by_cases h5 : kd = 5
      · subst h5
        rcases own_form (HOWN.out (.cells #[] 0)) with ⟨rfl, h0⟩ | ⟨g, cap0, rfl, hc1, hc2⟩
        · have ha : acc = [] := List.eq_nil_of_length_eq_zero h0
          have hal0 : al = 0 := by rw [HAL.out]; exact h0
          have hn0 : n = 0 := by omega
          subst ha; subst hn0
          have HO := Lib.hid (fun o => HOWN.out o)
          have HO := Lib.hid (HOWN.out (.cells #[.int .i64 (5 : Nat), .slice a1 n1 c1, .slice a2 n2 c2] 37))
          clear h0
          rcases (HV.out (.cells #[.int .i64 (5 : Nat), .slice a1 n1 c1, .slice a2 n2 c2] 37)).src with ⟨ev, rfl⟩ | ⟨ad, cap1, ev, hpc, hpm, hnews⟩
          · injection ev with e1 e2 e3
            subst e1; subst e2; subst e3
            go_wp2_with (at_builtin; refine wpList_append_own_none rfl (.tmp 28) (.tmp 30) 22 rfl w.heap.size 5 i0 1 Tryd.underlying22 hi _ _ _ rfl HO.out rfl ?_)
            go_roundw
            case rel => exact HNX.out 0 (List.take (al - 0) [] ++ []) (by rw [if_pos rfl]) _ _ _ _ (own_ge HO.out) (by rw [List.take_nil]; exact HO.out) (World.grownBy.refl _ _) _ _ (by go_num) (by go_num)
            case measure => simp [intOf]; omega
          · injection ev with e1 e2 e3
            subst e1; subst e2; subst e3
            have HN := Lib.hid hnews
            have hl1 : (Lib.byteCells vl).length = vl.length * 1 := by simp [byteCells_length]
            have hszo := HSZ.out (.cells #[.int .i64 (5 : Nat), .slice a1 n1 c1, .slice (some ad) vl.length c2] 37)
            rw [HVL.out] at hlim2
            clear hnews
            go_wp2_with (at_builtin; refine wpList_append_own _ rfl (.tmp 28) (.tmp 30) 22 rfl w.heap.size 5 i0 (.int .u8 0) 1 1 Tryd.underlying22 hi hz0 hz1 hz2 rfl (by decide) _ _ _ rfl HO.out ad vl.length c2 (Lib.byteCells vl) rfl hl1 HN.out (Lib.byteCells_one _) (by unfold maxLen; simp only [List.length_nil]; omega) (by simp only [List.length_nil]; omega) hszo ?_; intro v' w1 hown' hgrow _)
            go_roundw
            case rel => exact HNX.out 0 (List.take (al - 0) [] ++ vl) (by rw [if_pos rfl]) _ _ _ _ (own_ge HO.out) (by rw [List.take_nil, List.length_append, Lib.byteCells_append]; exact hown') hgrow _ _ (by go_num) (by go_num)
            case measure => simp [intOf]; omega
        · have HO := Lib.hid (own_cut (al - n) (by rw [HAL.out]; omega) (HOWN.out (.cells #[.int .i64 (5 : Nat), .slice a1 n1 c1, .slice a2 n2 c2] 37)))
          rw [← HAL.out] at hc1 ⊢
          rcases (HV.out (.cells #[.int .i64 (5 : Nat), .slice a1 n1 c1, .slice a2 n2 c2] 37)).src with ⟨ev, rfl⟩ | ⟨ad, cap1, ev, hpc, hpm, hnews⟩
          · injection ev with e1 e2 e3
            subst e1; subst e2; subst e3
            go_wp2_with (at_builtin; refine wpList_append_own_none rfl (.tmp 28) (.tmp 30) 22 rfl w.heap.size 5 i0 1 Tryd.underlying22 hi _ _ _ rfl HO.out rfl ?_)
            go_roundw
            case rel => exact HNX.out 0 (List.take (al - n) acc ++ []) (by rw [if_pos rfl]) _ _ _ _ (own_ge HO.out) (by rw [List.append_nil]; exact HO.out) (World.grownBy.refl _ _) _ _ (by go_num) (by go_num)
            case measure => simp [intOf]; omega
          · injection ev with e1 e2 e3
            subst e1; subst e2; subst e3
            have HN := Lib.hid hnews
            have hl1 : (Lib.byteCells vl).length = vl.length * 1 := by simp [byteCells_length]
            have hszo := HSZ.out (.cells #[.int .i64 (5 : Nat), .slice a1 n1 c1, .slice (some ad) vl.length c2] 37)
            rw [HVL.out] at hlim2
            clear hnews
            go_wp2_with (at_builtin; refine wpList_append_own _ rfl (.tmp 28) (.tmp 30) 22 rfl w.heap.size 5 i0 (.int .u8 0) 1 1 Tryd.underlying22 hi hz0 hz1 hz2 rfl (by decide) _ _ _ rfl HO.out ad vl.length c2 (Lib.byteCells vl) rfl hl1 HN.out (Lib.byteCells_one _) (by unfold maxLen; rw [List.length_take, ← HAL.out];  omega) (by rw [List.length_take, ← HAL.out];  omega) hszo ?_; intro v' w1 hown' hgrow _)
            go_roundw
            case rel => exact HNX.out 0 (List.take (al - n) acc ++ vl) (by rw [if_pos rfl]) _ _ _ _ (own_ge HO.out) (by rw [List.length_append, Lib.byteCells_append]; exact hown') hgrow _ _ (by go_num) (by go_num)
            case measure => simp [intOf]; omega
      have HO := Lib.hid (HOWN.out (.cells #[.int .i64 kd, .slice a1 n1 c1, .slice a2 n2 c2] 37))
      by_cases h2 : kd = 2
      · subst h2
        rcases (HV.out (.cells #[.int .i64 (2 : Nat), .slice a1 n1 c1, .slice a2 n2 c2] 37)).src with ⟨ev, rfl⟩ | ⟨ad, cap1, ev, hpc, hpm, hnews⟩
        · injection ev with e1 e2 e3
          subst e1; subst e2; subst e3
          go_wp2_with (at_builtin; refine wpList_append_own_none rfl (.tmp 28) (.tmp 30) 22 rfl w.heap.size 5 i0 1 Tryd.underlying22 hi _ _ _ rfl HO.out rfl ?_)
          go_roundw
          case rel => exact HNX.out (n + 1) (acc ++ []) (by rw [if_neg (by decide), if_pos rfl]) _ _ _ _ (own_ge HO.out) (by rw [List.append_nil]; exact HO.out) (World.grownBy.refl _ _) _ _ (by go_num) (by go_num)
          case measure => simp [intOf]; omega
        · injection ev with e1 e2 e3
          subst e1; subst e2; subst e3
          have HN := Lib.hid hnews
          have hl1 : (Lib.byteCells vl).length = vl.length * 1 := by simp [byteCells_length]
          have hszo := HSZ.out (.cells #[.int .i64 (2 : Nat), .slice a1 n1 c1, .slice (some ad) vl.length c2] 37)
          rw [HVL.out] at hlim2
          clear hnews
          go_wp2_with (at_builtin; refine wpList_append_own _ rfl (.tmp 28) (.tmp 30) 22 rfl w.heap.size 5 i0 (.int .u8 0) 1 1 Tryd.underlying22 hi hz0 hz1 hz2 rfl (by decide) _ _ _ rfl HO.out ad vl.length c2 (Lib.byteCells vl) rfl hl1 HN.out (Lib.byteCells_one _) (by unfold maxLen; rw [← HAL.out];  omega) (by rw [← HAL.out];  omega) hszo ?_; intro v' w1 hown' hgrow _)
          go_roundw
          case rel => exact HNX.out (n + 1) (acc ++ vl) (by rw [if_neg (by decide), if_pos rfl]) _ _ _ _ (own_ge HO.out) (by rw [List.length_append, Lib.byteCells_append]; exact hown') hgrow _ _ (by go_num) (by go_num)
          case measure => simp [intOf]; omega
      · have i5 : ¬ (kd : Int) = 5 := by omega
        have i2 : ¬ (kd : Int) = 2 := by omega
        have j5 : ((kd : Int) == 5) = false := beq_eq_false_iff_ne.2 i5
        have j2 : ((kd : Int) == 2) = false := beq_eq_false_iff_ne.2 i2
        rcases (HV.out (.cells #[.int .i64 kd, .slice a1 n1 c1, .slice a2 n2 c2] 37)).src with ⟨ev, rfl⟩ | ⟨ad, cap1, ev, hpc, hpm, hnews⟩
        · injection ev with e1 e2 e3
          subst e1; subst e2; subst e3
          go_wp2_with (at_builtin; refine wpList_append_own_none rfl (.tmp 28) (.tmp 30) 22 rfl w.heap.size 5 i0 1 Tryd.underlying22 hi _ _ _ rfl HO.out rfl ?_)
          go_roundw
          case rel => exact HNX.out 0 (acc ++ []) (by rw [if_neg h5, if_neg h2]) _ _ _ _ (own_ge HO.out) (by rw [List.append_nil]; exact HO.out) (World.grownBy.refl _ _) _ _ (by go_num) (by go_num)
          case measure => simp [intOf]; omega
        · injection ev with e1 e2 e3
          subst e1; subst e2; subst e3
          have HN := Lib.hid hnews
          have hl1 : (Lib.byteCells vl).length = vl.length * 1 := by simp [byteCells_length]
          have hszo := HSZ.out (.cells #[.int .i64 kd, .slice a1 n1 c1, .slice (some ad) vl.length c2] 37)
          rw [HVL.out] at hlim2
          clear hnews
          go_wp2_with (at_builtin; refine wpList_append_own _ rfl (.tmp 28) (.tmp 30) 22 rfl w.heap.size 5 i0 (.int .u8 0) 1 1 Tryd.underlying22 hi hz0 hz1 hz2 rfl (by decide) _ _ _ rfl HO.out ad vl.length c2 (Lib.byteCells vl) rfl hl1 HN.out (Lib.byteCells_one _) (by unfold maxLen; rw [← HAL.out];  omega) (by rw [← HAL.out];  omega) hszo ?_; intro v' w1 hown' hgrow _)
          go_roundw
          case rel => exact HNX.out 0 (acc ++ vl) (by rw [if_neg h5, if_neg h2]) _ _ _ _ (own_ge HO.out) (by rw [List.length_append, Lib.byteCells_append]; exact hown') hgrow _ _ (by go_num) (by go_num)
          case measure => simp [intOf]; omega
    · have hke : k = l.length := by omega
      subst hke
      rw [List.take_length] at hn hown
      subst hn
      have HO := Lib.hid hown
      have HB := Lib.hid hbel
      clear hown hbel
      go_wp2
      go_ret2
      exact ⟨_, rfl, HO.out, HB.out⟩

end Go.Proofs.YtcbolmendjocbaaDoor

namespace Go.Proofs.YtcbolmendjocbaaDoor
open Go.RowKit Qp

set_option maxRecDepth 100000 in
set_option maxHeartbeats 1600000 in
theorem Value_anyL {w : World} {v : Value} {l : List Tok} (h : Ts w v l) (hl : ∀ t ∈ l, lenTok t) (hlim : l.length ≤ 1099511627776) :
    Calls Tryd.prog 6 #[v] w fun e w' => ∃ v', e = .returned v' ∧ Bs w' v' (value l) ∧ Below w.heap.size w w' := by
  have HV := Lib.hid (value_any h hl hlim)
  obtain ⟨hv1, hv2⟩ : (valueGo l).2 ≤ (valueGo l).1.length ∧ (valueGo l).1.length ≤ 2 * l.length := by
    have := valueGo_len l hl l.length (Nat.le_refl _)
    rw [List.take_length] at this
    exact this
  have hval : value l = (valueGo l).1.take ((valueGo l).1.length - (valueGo l).2) := rfl
  obtain ⟨ao, cap, rfl, -, -, -⟩ := h.at
  obtain ⟨acc, hacc⟩ : ∃ acc, acc = (valueGo l).1 := ⟨_, rfl⟩
  obtain ⟨n, hn⟩ : ∃ n, n = (valueGo l).2 := ⟨_, rfl⟩
  rw [← hacc, ← hn] at HV hv1 hval
  rw [← hacc] at hv2
  clear hacc hn h hl
  go_enter Tryd.func6, Tryd.ntmps6
  go_wp2_with fail
  refine HV.out.mono ?_
  rintro e w1 ⟨v1, rfl, hown, hb⟩
  have HB := Lib.hid hb
  have HVAL := Lib.hid hval
  obtain ⟨al, hal⟩ : ∃ al, al = acc.length := ⟨_, rfl⟩
  rw [← hal] at hv1 hv2
  have HAL := Lib.hid hal
  rcases own_form hown with ⟨rfl, h0⟩ | ⟨g, cap0, rfl, hc1, hc2⟩
  · have ha : acc = [] := List.eq_nil_of_length_eq_zero h0
    subst ha
    have hal0 : al = 0 := hal
    have hn0 : n = 0 := by omega
    subst hn0; subst hal0
    clear hb hval hown hal
    go_wp2
    go_ret
    exact ⟨_, rfl, by rw [HVAL.out]; exact ⟨none, 0, rfl, Nat.le_refl _, by omega, fun _ => rfl, fun h => absurd rfl h⟩, HB.out⟩
  · have HO := Lib.hid (Bs.of_own (own_cut (al - n) (by omega) hown))
    rw [← hal] at hc1 ⊢
    clear hb hval hown hal
    go_wp2
    go_ret
    exact ⟨_, rfl, by rw [HVAL.out, ← HAL.out]; exact HO.out, HB.out⟩

theorem okTok.lens {l : List Tok} (hl : ∀ t ∈ l, okTok t) : ∀ t ∈ l, lenTok t := fun t ht => okTok.value_len (hl t ht)
theorem Value_any {w : World} {v : Value} {l : List Tok} (h : Ts w v l) (hl : ∀ t ∈ l, okTok t) (hlim : l.length ≤ 1099511627776) :
    Calls Tryd.prog 6 #[v] w fun e w' => ∃ v', e = .returned v' ∧ Bs w' v' (value l) ∧ Below w.heap.size w w' := Value_anyL h (okTok.lens hl) hlim

theorem Ts.shape {w : World} {v : Value} {l : List Tok} (h : Ts w v l) : ∃ ao cap, v = .slice ao l.length cap := by
  obtain ⟨ao, cap, h, _⟩ := h.at; exact ⟨ao, cap, h⟩

theorem tokens_len {src : B} {l : List Tok} (h : tokens src = some l) : l.length ≤ src.length := by
  obtain ⟨h1, h2, -⟩ := tokens_some h
  rw [← h2]
  clear h h2
  induction l with
  | nil => simp
  | cons t r ih =>
    have := (h1 t (List.mem_cons_self ..)).text_pos
    have := ih (fun x hx => h1 x (List.mem_cons_of_mem _ hx))
    rw [textOf_cons, List.length_append, List.length_cons]
    omega

end Go.Proofs.YtcbolmendjocbaaDoor

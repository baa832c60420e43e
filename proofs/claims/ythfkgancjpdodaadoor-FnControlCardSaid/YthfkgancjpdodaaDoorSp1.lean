/- The walks of Text, Kept and Blanks. -/
import Derived.Test.YthfkgancjpdodaaDoorApp
import Derived.Test.YthfkgancjpdodaaDoorBlank
namespace Go.Proofs.YthfkgancjpdodaaDoor
open Go.RowKit Qp

theorem isWs_int : ∀ b : UInt8, isWs b = ((b.toNat : Int) == 32 || (b.toNat : Int) == 9) := u8_all (by decide +kernel)
theorem textOf_take {l : List Tok} {k : Nat} (hk : k < l.length) : textOf (l.take (k + 1)) = textOf (l.take k) ++ l[k].text := by
  rw [List.take_succ_eq_append_getElem hk, textOf_append]; simp [textOf]
theorem textOf_take_le (l : List Tok) (k : Nat) : (textOf (l.take k)).length ≤ (textOf l).length := by
  conv => rhs; rw [← List.take_append_drop k l]
  rw [textOf_append, List.length_append]; omega

/-- where Text stands -/
def TextRel (w : World) (l : List Tok) (v vi : Value) (wr : World) : Prop :=
  ∃ k : Nat, k ≤ l.length ∧ vi = .int .i64 k ∧ wr.ownsRow w.heap.size 5 1 v (textOf (l.take k)).length (Lib.byteCells (textOf (l.take k))) ∧ Below w.heap.size w wr

set_option maxRecDepth 100000 in
set_option maxHeartbeats 1600000 in
theorem Text_any {w : World} {v : Value} {l : List Tok} (h : Ts w v l) (hlim : (textOf l).length ≤ 140737488355000) :
    Calls Tryd.prog 29 #[v] w fun e w' => ∃ v', e = .returned v' ∧ w'.ownsRow w.heap.size 5 1 v' (textOf l).length (Lib.byteCells (textOf l)) ∧ Below w.heap.size w w' := by
  obtain ⟨ao, cap, rfl, hlc, hcm, hat⟩ := h.at
  have HAT := Lib.hid hat
  have HLIM := Lib.hid hlim
  clear hat h hlim
  go_enter Tryd.func29, Tryd.ntmps29
  go_wp2
  go_loopw [3, 8] (fun v i wr => TextRel w l v i wr) (fun _ i _ => l.length - (intOf i).toNat)
  case atStart => exact ⟨0, Nat.zero_le _, rfl, World.ownsRow_nil _ _ _ _, Below.refl _ _⟩
  case round =>
    obtain ⟨k, hk, rfl, hown, hbel⟩ := hrel
    by_cases hlt : k < l.length
    · obtain ⟨b, off, a1, n1, c1, a2, n2, c2, rfl, q0, q1, q2, ht, -⟩ := HAT.out k hlt
      have q0 := below_cell hbel _ _ q0
      have q1 := below_cell hbel _ _ q1
      have q2 := below_cell hbel _ _ q2
      have hbs := hbel.size
      have hbl : ∀ o, Below w.heap.size w (wr.alloc o) := fun o => hbel.alloc hbs _
      have hHT : ∀ o, Bs (wr.alloc o) (.slice a1 n1 c1) l[k].text := fun o => ht.below (hbl o)
      have hHO : ∀ o, (wr.alloc o).ownsRow w.heap.size 5 1 _ (textOf (l.take k)).length (Lib.byteCells (textOf (l.take k))) := fun o => own_below hown ((Below.refl _ _).alloc (Nat.le_refl _) o)
      have hle : (textOf (l.take k)).length + l[k].text.length ≤ 140737488355328 := by
        have h1 := textOf_take_le l (k + 1)
        rw [textOf_take hlt, List.length_append] at h1
        have := HLIM.out
        omega
      have hHN : ∀ o v' w1, w1.ownsRow w.heap.size 5 1 v' (textOf (l.take k) ++ l[k].text).length (Lib.byteCells (textOf (l.take k) ++ l[k].text)) → Keep (fun j => w.heap.size ≤ j) (wr.alloc o) w1 → TextRel w l v' (.int .i64 ((k : Int) + 1)) w1 := fun o v' w1 ho hk1 => by
        refine ⟨k + 1, by omega, by go_num, ?_, below_keep (hbl o) hk1 (Nat.le_refl _)⟩
        rw [textOf_take hlt]; exact ho
      have HHT := Lib.hid hHT
      have HHO := Lib.hid hHO
      have HHN := Lib.hid hHN
      have hsz : ∀ o, w.heap.size ≤ (wr.alloc o).heap.size := fun o => (hbl o).size
      have HSZ := Lib.hid hsz
      obtain ⟨tx, htx⟩ : ∃ tx, tx = l[k].text := ⟨_, rfl⟩
      obtain ⟨acc, hacc⟩ : ∃ acc, acc = textOf (l.take k) := ⟨_, rfl⟩
      rw [← htx, ← hacc] at hle
      rw [← htx] at HHT
      rw [← hacc] at HHO
      rw [← htx, ← hacc] at HHN
      clear htx hacc hHT hHO hHN hsz hbl hbel hown ht
      go_wp2_with (at_builtin; refine wpList_append_bs (by rfl) (.tmp 12) (.tmp 14) rfl w.heap.size _ _ (by rfl) (by rfl) (HHO.out _) (HHT.out _) hle (HSZ.out _) ?_; intro v' w1 ho hk1 _; have HN := Lib.hid (HHN.out _ v' w1 ho hk1); clear ho hk1)
      go_roundw
      case rel => exact HN.out
      case measure => simp [intOf]; omega
    · have hke : k = l.length := by omega
      subst hke
      rw [List.take_length] at hown
      have HO := Lib.hid hown
      have HB := Lib.hid hbel
      clear hown hbel
      go_wp2
      go_ret
      exact ⟨_, rfl, HO.out, HB.out⟩

set_option maxRecDepth 100000 in
set_option maxHeartbeats 1600000 in
theorem Kept_any {w : World} {v : Value} {l : List Tok} (h : Ts w v l) (hl : ∀ t ∈ l, lenTok t) (hlim : l.length ≤ 1099511627776) :
    Calls Tryd.prog 30 #[v] w fun e w' => ∃ v', e = .returned v' ∧ Bs w' v' (kept l) ∧ Below w.heap.size w w' := by
  have HV := Lib.hid (value_any h hl hlim)
  obtain ⟨ao, cap, rfl, -, -, -⟩ := h.at
  clear h hl
  go_enter Tryd.func30, Tryd.ntmps30
  go_wp2_with fail
  refine HV.out.mono ?_
  rintro e w1 ⟨v1, rfl, hown, hb⟩
  have HB := Lib.hid hb
  have HO := Lib.hid (Bs.of_own hown)
  clear hb hown
  go_wp2
  go_ret
  exact ⟨_, rfl, HO.out, HB.out⟩

set_option maxRecDepth 100000 in
set_option maxHeartbeats 1600000 in
theorem Blanks_any {w : World} {v : Value} {l : List UInt8} (h : Bs w v l) :
    Calls Tryd.prog 36 #[v] w fun e w' => e = .returned (.bool (l.all isWs)) ∧ w = w' := by
  obtain ⟨ao, cap, rfl, hlc, hcm, h4, hat⟩ := h
  have HAT := Lib.hid hat
  clear hat h4
  go_enter Tryd.func36, Tryd.ntmps36
  go_wp2
  go_loop [7] (fun i => ∃ k : Nat, k ≤ l.length ∧ i = .int .i64 k ∧ (l.drop k).all isWs = l.all isWs) (fun i => l.length - (intOf i).toNat)
  case atStart => exact ⟨0, Nat.zero_le _, rfl, rfl⟩
  case round =>
    obtain ⟨k, hk, rfl, hall⟩ := hrel
    by_cases hlt : k < l.length
    · obtain ⟨b, off, rfl, hc⟩ := HAT.out (by intro e; rw [e] at hlt; simp at hlt)
      have hcell := hc k hlt
      have hstep : (l.drop k).all isWs = (isWs l[k] && (l.drop (k + 1)).all isWs) := by
        rw [List.drop_eq_getElem_cons hlt, List.all_cons]
      have hg : l.getD k 0 = l[k] := by simp [hlt]
      rw [hg] at hcell
      rw [hstep] at hall
      obtain ⟨c, hcc⟩ : ∃ c, c = l[k] := ⟨_, rfl⟩
      rw [← hcc] at hcell hall
      obtain ⟨x, hx⟩ : ∃ x : Int, x = c.toNat := ⟨_, rfl⟩
      have hw : isWs c = (x == 32 || x == 9) := by
        rw [hx]; exact isWs_int c
      rw [← hx] at hcell
      rw [hw] at hall
      have HALL := Lib.hid hall
      clear hall hw hstep hg hcc hx hc
      by_cases h32 : x = 32
      · subst h32
        go_wp2
        go_round
        case rel => exact ⟨k + 1, by omega, by go_num, by rw [← HALL.out]; rfl⟩
        case measure => simp [intOf]; omega
      · have n32 : (x != 32) = true := by simpa using h32
        have e32 : (x == 32) = false := beq_eq_false_iff_ne.2 h32
        by_cases h9 : x = 9
        · subst h9
          go_wp2
          go_round
          case rel => exact ⟨k + 1, by omega, by go_num, by rw [← HALL.out]; rfl⟩
          case measure => simp [intOf]; omega
        · have n9 : (x != 9) = true := by simpa using h9
          have e9 : (x == 9) = false := beq_eq_false_iff_ne.2 h9
          have hr : l.all isWs = false := by rw [← HALL.out, e32, e9]; rfl
          have HR := Lib.hid hr
          clear hr e32 e9
          go_wp2
          go_ret
          exact ⟨by rw [HR.out]; rfl, rfl⟩
    · have hke : k = l.length := by omega
      subst hke
      rw [List.drop_length] at hall
      have HR := Lib.hid hall
      clear hall
      go_wp2
      go_ret
      exact ⟨by rw [← HR.out]; rfl, rfl⟩
theorem Ts.take {w : World} {ao : Option Addr} {n cap : Nat} {l : List Tok} (h : Ts w (.slice ao n cap) l) (k : Nat) (hk : k ≤ l.length) : Ts w (.slice ao k cap) (l.take k) := by
  obtain ⟨ts, ao', cap', h1, h2, h3, h4, h5, h6⟩ := h
  injection h3 with e1 e2 e3
  subst e1; subst e3
  have hl : l.length = ts.length := by rw [h1]; simp
  have htl : (ts.take k).length = k := by rw [List.length_take]; omega
  refine ⟨ts.take k, ao, cap, by rw [h1, List.map_take], fun x hx => h2 x (List.mem_of_mem_take hx), by rw [htl], by omega, h5, fun j hj => ?_⟩
  have hj' : j < ts.length := by omega
  obtain ⟨b, off, e, c0, c1, c2⟩ := h6 j hj'
  exact ⟨b, off, e, by simpa using c0, by simpa using c1, by simpa using c2⟩
theorem Ts.drop {w : World} {b off n cap : Nat} {l : List Tok} (h : Ts w (.slice (some ⟨b, off, none⟩) n cap) l) (k : Nat) (hk : k ≤ l.length) : Ts w (.slice (some ⟨b, off + k * 3, none⟩) (n - k) (cap - k)) (l.drop k) := by
  obtain ⟨ts, ao', cap', h1, h2, h3, h4, h5, h6⟩ := h
  injection h3 with e1 e2 e3
  subst e1; subst e3
  have hl : l.length = ts.length := by rw [h1]; simp
  have htl : (ts.drop k).length = ts.length - k := List.length_drop
  have h5' := h5.1
  refine ⟨ts.drop k, some ⟨b, off + k * 3, none⟩, cap - k, by rw [h1, List.map_drop], fun x hx => h2 x (List.mem_of_mem_drop hx), by rw [htl, e2], by omega, ⟨by omega, (fun h => by cases h)⟩, fun j hj => ?_⟩
  have hj' : k + j < ts.length := by omega
  obtain ⟨b', off', e, c0, c1, c2⟩ := h6 (k + j) hj'
  injection e with e
  injection e with e3 e4
  subst e3; subst e4
  have ea : off + k * 3 + j * 3 = off + (k + j) * 3 := by rw [Nat.add_mul, Nat.add_assoc]
  refine ⟨b, off + k * 3, rfl, ?_, ?_, ?_⟩
  · rw [ea]; simpa using c0
  · rw [ea]; simpa using c1
  · rw [ea]; simpa using c2
/-- an empty slice of tokens -/
theorem Ts.none (w : World) (ao : Option Addr) (cap : Nat) (h : cap ≤ 9223372036854775807 ∧ (ao = Option.none → cap = 0)) : Ts w (.slice ao 0 cap) [] :=
  ⟨[], ao, cap, rfl, (fun x hx => by cases hx), rfl, Nat.zero_le _, h, (fun k hk => absurd hk (Nat.not_lt_zero k))⟩
end Go.Proofs.YthfkgancjpdodaaDoor

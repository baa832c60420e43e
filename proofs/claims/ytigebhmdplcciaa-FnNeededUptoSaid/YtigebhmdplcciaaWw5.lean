/- The walk of the Writer's Write. -/
import Derived.Test.YtigebhmdplcciaaWw4
namespace Go.Proofs.Ytigebhmdplcciaa
open Go.RowKit Qp

theorem simple_int (bin : Bool) (b : UInt8) : simple bin b = ((decide ((33 : Int) ≤ b.toNat) && decide ((b.toNat : Int) ≤ 126) && !((b.toNat : Int) == 61)) || (isWs b || !bin && (((b.toNat : Int) == 10) || ((b.toNat : Int) == 13)))) := by
  revert b
  cases bin <;> exact u8_all (by decide +kernel)

theorem ways_simple (bin : Bool) (x : Int) (h : true = ((decide ((33 : Int) ≤ x) && decide (x ≤ 126) && !(x == 61)) || ((x == 32 || x == 9) || !bin && ((x == 10) || (x == 13))))) :
    (33 ≤ x ∧ x ≤ 126 ∧ (x == 61) = false) ∨ (x < 33 ∧ (x == 32 || x == 9) = true) ∨ (x < 33 ∧ (x == 32 || x == 9) = false ∧ bin = false ∧ (x == 10 || x == 13) = true) := by
  have h := h.symm
  by_cases h1 : 33 ≤ x
  · left
    have e1 : (x == 32) = false := by simp; omega
    have e2 : (x == 9) = false := by simp; omega
    have e3 : (x == 10) = false := by simp; omega
    have e4 : (x == 13) = false := by simp; omega
    rw [e1, e2, e3, e4] at h
    simp only [Bool.and_eq_true, decide_eq_true_eq, Bool.not_eq_true', Bool.or_false, Bool.and_false] at h
    exact ⟨h.1.1, h.1.2, h.2⟩
  · right
    have e0 : decide ((33 : Int) ≤ x) = false := by simp; omega
    rw [e0] at h
    simp only [Bool.false_and, Bool.false_or] at h
    cases hw : (x == 32 || x == 9)
    · right
      rw [hw] at h
      cases bin
      · refine ⟨by omega, rfl, rfl, ?_⟩
        simpa using h
      · simp at h
    · left; exact ⟨by omega, rfl⟩
theorem ways_hard (bin : Bool) (x : Int) (h : false = ((decide ((33 : Int) ≤ x) && decide (x ≤ 126) && !(x == 61)) || ((x == 32 || x == 9) || !bin && ((x == 10) || (x == 13))))) :
    (x < 33 ∧ (x == 32 || x == 9) = false ∧ bin = true) ∨ (x < 33 ∧ (x == 32 || x == 9) = false ∧ bin = false ∧ (x == 10) = false ∧ (x == 13) = false) ∨ 126 < x ∨ x = 61 := by
  have h := h.symm
  simp only [Bool.or_eq_false_iff] at h
  obtain ⟨h1, h2, h3⟩ := h
  by_cases hx : x < 33
  · cases bin
    · right; left
      simp only [Bool.not_false, Bool.true_and, Bool.or_eq_false_iff] at h3
      exact ⟨hx, by simp only [Bool.or_eq_false_iff]; exact h2, rfl, h3⟩
    · left; exact ⟨hx, by simp only [Bool.or_eq_false_iff]; exact h2, rfl⟩
  · right; right
    by_cases h126 : 126 < x
    · exact .inl h126
    · right
      have e1 : decide ((33 : Int) ≤ x) = true := by simp; omega
      have e2 : decide (x ≤ 126) = true := by simp; omega
      rw [e1, e2] at h1
      simpa using h1

/-- the Writer behind n bytes, those from n to k in a batch -/
def WriteRel (w : World) (bw bb : Nat) (ro : Option Nat) (bin : Bool) (s : WS) (cs : List UInt8) (n k : Nat) (wr : World) : Prop :=
  WrRel (WS.step bin) w bw bb ro bin s cs n wr ∧ ∀ j, n ≤ j → j < k → simple bin (cs.getD j 0) = true

theorem fold_batch (bin : Bool) (l : List UInt8) : ∀ s : WS, (∀ b ∈ l, simple bin b = true) → l.foldl WS.wr s = l.foldl (WS.step bin) s := by
  induction l with
  | nil => exact fun _ _ => rfl
  | cons b r ih =>
    intro s h
    rw [List.foldl_cons, List.foldl_cons, ih _ (fun x hx => h x (List.mem_cons_of_mem _ hx))]
    congr 1
    unfold WS.step
    rw [if_pos (h b (List.mem_cons_self ..))]

section
variable {w : World} {bw bb : Nat} {ro : Option Nat} {bin : Bool} {s : WS}

/-- write, of a part of the bytes, all of which are handed on in a batch -/
theorem part_any {wr : World} {pb po c n k : Nat} {cs : List UInt8} (hrel : WriteRel w bw bb ro bin s cs n k wr) (hl : s.line.length ≤ 75) (hlim : s.out.length + 200 * cs.length + 2000 ≤ 140737488355328)
    (hp : ∀ k, k < cs.length → w.cell? ⟨pb, po + k, none⟩ = some (.int .u8 (cs.getD k 0).toNat)) (hpw : pb ≠ bw) (hpb : pb ≠ bb) (hpr : ro ≠ some pb) (hnk : n < k) (hk : k ≤ cs.length) :
    Calls Try.prog 26 #[.pointer (some ⟨bw, 0, none⟩), .slice (some ⟨pb, po + n, none⟩) (k - n) (c - n)] wr (fun e w1 => e = .returned .nilIface ∧
      ∃ ro1, IsWr w1 bw bb ro1 bin ((cs.take k).foldl (WS.step bin) s) ∧ Moved ro ro1 w ∧ Keep (Wmay bw bb ro) w w1) := by
  obtain ⟨⟨ro1, h1, hm1, hk1⟩, hsim⟩ := hrel
  obtain ⟨l, hlb⟩ : ∃ l, l = (cs.drop n).take (k - n) := ⟨_, rfl⟩
  have hll : l.length = k - n := by rw [hlb, List.length_take, List.length_drop]; omega
  have hg : ∀ j, j < k - n → l.getD j 0 = cs.getD (n + j) 0 := by
    intro j hj
    rw [hlb]
    simp [hj]
  have hlen := fold_len (f := WS.step bin) (step_len bin) (cs.take n) s hl
  have h3 : (cs.take n).length = n := by rw [List.length_take]; omega
  have hplt : pb < w.heap.size := by
    have := hp n (by omega)
    unfold World.cell? at this
    split at this
    · rename_i e; exact Lib.lt_of_heap e
    · cases this
  have hw := write_any (w := wr) (bw := bw) (bb := bb) (ro := ro1) (bin := bin) (s := (cs.take n).foldl (WS.step bin) s) pb (po + n) (c - n) l h1 hlen.1 (by rw [hll]; omega) (by
    intro j hj
    rw [hg j (by omega), Nat.add_assoc]
    exact hk1.cell (by rintro (e | e | e); exact hpw e; exact hpb e; exact hpr e) (hp (n + j) (by omega))) hpw hpb (hm1.ne hplt hpr)
  rw [hll] at hw
  refine hw.mono ?_
  rintro e w1 ⟨rfl, ro2, h2, hm2, hk2⟩
  refine ⟨rfl, ro2, ?_, hm1.trans hm2 hk1.size, hk1.trans hk2 (fun k hk hm => Wmay.back hm1 k hk hm)⟩
  have hfold : l.foldl WS.wr ((cs.take n).foldl (WS.step bin) s) = (cs.take k).foldl (WS.step bin) s := by
    rw [fold_batch bin l, hlb, ← List.foldl_append]
    · congr 1
      rw [← List.take_append_drop n (cs.take k), List.take_take, Nat.min_eq_left (Nat.le_of_lt hnk), List.drop_take]
    · intro b hb
      obtain ⟨j, hj, rfl⟩ := List.getElem_of_mem hb
      have := hsim (n + j) (by omega) (by omega)
      rw [← hg j (by omega)] at this
      simpa [hj] using this
  rw [← hfold]
  exact h2

theorem batch_any {wr : World} {pb po c n k : Nat} {cs : List UInt8} {x : Int} {R : World → Prop} (hrel : Hid (WriteRel w bw bb ro bin s cs n k wr)) (hl : Hid (s.line.length ≤ 75)) (hlim : Hid (s.out.length + 200 * cs.length + 2000 ≤ 140737488355328))
    (hp : Hid (∀ k, k < cs.length → w.cell? ⟨pb, po + k, none⟩ = some (.int .u8 (cs.getD k 0).toNat))) (hpw : pb ≠ bw) (hpb : pb ≠ bb) (hpr : ro ≠ some pb) (hnk : n < k) (hk : k ≤ cs.length)
    (henc : Hid (∀ w1 ro1, IsWr w1 bw bb ro1 bin ((cs.take k).foldl (WS.step bin) s) → Moved ro ro1 w → Keep (Wmay bw bb ro) w w1 →
            Calls Try.prog 27 #[.pointer (some ⟨bw, 0, none⟩), .int .u8 x] w1 (fun e w2 => e = .returned .nilIface ∧ R w2))) :
    Calls Try.prog 26 #[.pointer (some ⟨bw, 0, none⟩), .slice (some ⟨pb, po + n, none⟩) (k - n) (c - n)] wr (fun e w1 => e = .returned .nilIface ∧
      Calls Try.prog 27 #[.pointer (some ⟨bw, 0, none⟩), .int .u8 x] w1 (fun e w2 => e = .returned .nilIface ∧ R w2)) := by
  refine (part_any hrel.out hl.out hlim.out hp.out hpw hpb hpr hnk hk).mono ?_
  rintro e w1 ⟨rfl, ro1, h1, hm1, hk1⟩
  exact ⟨rfl, henc.out w1 ro1 h1 hm1 hk1⟩

set_option maxHeartbeats 6400000 in
theorem Write_any (pb po c : Nat) (cs : List UInt8) (h : IsWr w bw bb ro bin s) (hl : s.line.length ≤ 75) (hlim : s.out.length + 200 * cs.length + 2000 ≤ 140737488355328) (hcc : cs.length ≤ c) (hcm : c ≤ 9223372036854775807)
    (hp : ∀ k, k < cs.length → w.cell? ⟨pb, po + k, none⟩ = some (.int .u8 (cs.getD k 0).toNat)) (hpw : pb ≠ bw) (hpb : pb ≠ bb) (hpr : ro ≠ some pb) :
    Calls Try.prog 20 #[.pointer (some ⟨bw, 0, none⟩), .slice (some ⟨pb, po, none⟩) cs.length c] w
      fun e w' => e = .returned (.tuple #[.int .i64 cs.length, .nilIface]) ∧ Wgo bw bb ro bin (cs.foldl (WS.step bin) s) w w' := by
  have hrel0 : WriteRel w bw bb ro bin s cs 0 0 w := ⟨⟨ro, h, .inl rfl, Keep.refl _ _⟩, fun j h1 h2 => by omega⟩
  have hcl : cs.length ≤ 9223372036854775807 := by omega
  have HL := Lib.hid hl
  have HP := Lib.hid hp
  have HLIM := Lib.hid hlim
  clear h hl hp hlim
  go_enter Try.func20, Try.ntmps20
  go_wp2
  go_loopw [4, 13] (fun m i wr => ∃ n k : Nat, n ≤ k ∧ k ≤ cs.length ∧ m = .int .i64 n ∧ i = .int .i64 k ∧ WriteRel w bw bb ro bin s cs n k wr) (fun _ i _ => cs.length - (intOf i).toNat)
  case atStart => exact ⟨0, 0, Nat.le_refl _, Nat.zero_le _, rfl, rfl, hrel0⟩
  case round =>
    obtain ⟨n, k, hnk, hk, rfl, rfl, hrel⟩ := hrel
    by_cases hlt : k < cs.length
    · obtain ⟨b, hb⟩ : ∃ b, b = cs.getD k 0 := ⟨_, rfl⟩
      have hc : wr.cell? ⟨pb, po + k, none⟩ = some (.int .u8 b.toNat) := by
        obtain ⟨⟨ro', _, _, hkk⟩, _⟩ := hrel
        rw [hb]
        exact hkk.cell (by rintro (e | e | e); exact hpw e; exact hpb e; exact hpr e) (HP.out k hlt)
      have hc0 : wr.cell? ⟨bw, 0, none⟩ = some (.bool bin) := by
        obtain ⟨⟨ro', h1, _, _⟩, _⟩ := hrel
        exact h1.raw.c0
      obtain ⟨b0, b1⟩ := byteFacts b
      have hsi := simple_int bin b
      have hwsi := isWs_int b
      have hwc := isWs_any b
      rw [hwsi] at hsi hwc
      obtain ⟨x, hx⟩ : ∃ x : Int, x = b.toNat := ⟨_, rfl⟩
      rw [← hx] at hc b0 b1 hsi hwc
      clear hwsi
      have HWC := Lib.hid hwc
      have HREL := Lib.hid hrel
      have HB := Lib.hid hb
      have HX := Lib.hid hx
      clear hwc hrel hb hx
      by_cases hs : simple bin b = true
      · -- in a batch
        have hend : WriteRel w bw bb ro bin s cs n (k + 1) wr := ⟨HREL.out.1, fun j h1 h2 => by
          by_cases hj : j = k
          · rw [hj, ← HB.out]; exact hs
          · exact HREL.out.2 j h1 (by omega)⟩
        have HE := Lib.hid hend
        rw [hs] at hsi
        have ways := ways_simple bin x hsi
        clear hsi hs hend
        rcases ways with ⟨h1, h2, h3⟩ | ⟨h1, h2⟩ | ⟨h1, h2, rfl, h3⟩
        · go_wp2
          go_roundw
          case rel => exact ⟨n, k + 1, by omega, by omega, rfl, by go_num, HE.out⟩
          case measure => simp [intOf]; omega
        · have hw1 := HWC.out
          simp only [h2] at hw1
          have HW1 := Lib.hid hw1
          clear hw1 h2
          go_wp2_with (go_at_call 25; refine (HW1.out _).mono ?_; rintro e w' ⟨rfl, rfl⟩)
          go_roundw
          case rel => exact ⟨n, k + 1, by omega, by omega, rfl, by go_num, HE.out⟩
          case measure => simp [intOf]; omega
        · have hw1 := HWC.out
          simp only [h2] at hw1
          have HW1 := Lib.hid hw1
          clear hw1 h2
          go_wp2_with (go_at_call 25; refine (HW1.out _).mono ?_; rintro e w' ⟨rfl, rfl⟩)
          all_goals (
            go_roundw
            case rel => exact ⟨n, k + 1, by omega, by omega, rfl, by go_num, HE.out⟩
            case measure => simp [intOf]; omega)
      · -- a byte that is escaped
        have hs : simple bin b = false := by simpa using hs
        have hstep : ∀ s1 : WS, s1.step bin b = s1.enc b := fun s1 => by unfold WS.step; rw [if_neg (by rw [hs]; simp)]
        have htk := take_snoc hlt
        -- encode, in whatever world the bytes up to k are written
        have henc : ∀ w1 ro1, IsWr w1 bw bb ro1 bin ((cs.take k).foldl (WS.step bin) s) → Moved ro ro1 w → Keep (Wmay bw bb ro) w w1 →
            Calls Try.prog 27 #[.pointer (some ⟨bw, 0, none⟩), .int .u8 x] w1 (fun e w2 => e = .returned .nilIface ∧ WriteRel w bw bb ro bin s cs (k + 1) (k + 1) w2) := by
          intro w1 ro1 h1 hm1 hk1
          have hlen := fold_len (f := WS.step bin) (step_len bin) (cs.take k) s HL.out
          have h2 := HLIM.out
          have h3 : (cs.take k).length ≤ cs.length := by rw [List.length_take]; omega
          have h4 : 200 * (cs.take k).length ≤ 200 * cs.length := Nat.mul_le_mul_left _ h3
          rw [HX.out]
          refine (enc_any b h1 hlen.1 (by omega)).mono ?_
          rintro e w2 ⟨rfl, hg⟩
          refine ⟨rfl, ?_, fun j h1 h2 => by omega⟩
          unfold WrRel
          rw [htk, List.foldl_append, ← HB.out]
          show Wgo bw bb ro bin (WS.step bin _ b) w w2
          rw [hstep]
          exact Wgo.trans hm1 hk1 hg
        have HENC := Lib.hid henc
        rw [hs] at hsi
        have ways := ways_hard bin x hsi
        clear hsi hs hstep htk henc
        have hwcf : ¬ (x == 32 || x == 9) = true → ∀ W, Calls Try.prog 25 #[.int .u8 x] W fun e w' => e = .returned (.bool false) ∧ W = w' := by
          intro h W
          have h' : (x == 32 || x == 9) = false := by simpa using h
          have := HWC.out W
          rw [h'] at this
          exact this
        have hnw : ¬ (x == 32 || x == 9) = true := by
          rcases ways with ⟨_, h, _⟩ | ⟨_, h, _⟩ | h | h
          · rw [h]; simp
          · rw [h]; simp
          · simp; omega
          · simp; omega
        have HWF := Lib.hid (hwcf hnw)
        have e32 : (x == 32) = false := by simp at hnw ⊢; omega
        have e9 : (x == 9) = false := by simp at hnw ⊢; omega
        clear hwcf hnw
        by_cases hin : n < k
        · -- a batch stands ahead of it
          have hne : ¬ c = n := by omega
          have HBT := Lib.hid (batch_any (c := c) HREL HL HLIM HP hpw hpb hpr hin hk HENC)
          have hkc : k ≤ c := by omega
          clear hcc
          rcases ways with ⟨h1, h2, rfl⟩ | ⟨h1, h2, rfl, h3, h4⟩ | h1 | rfl
          · go_wp2_with (first
              | (go_at_call 25; refine (HWF.out _).mono ?_; rintro e w' ⟨rfl, rfl⟩)
              | (go_at_call 26; refine HBT.out.mono ?_; rintro e w1 ⟨rfl, h5⟩; have H5 := Lib.hid h5; clear h5)
              | (go_at_call 27; refine H5.out.mono ?_; rintro e w2 ⟨rfl, h6⟩; have H6 := Lib.hid h6; clear h6))
            all_goals (
              go_roundw
              case rel => exact ⟨k + 1, k + 1, Nat.le_refl _, by omega, by go_num, by go_num, H6.out⟩
              case measure => simp [intOf]; omega)
          · go_wp2_with (first
              | (go_at_call 25; refine (HWF.out _).mono ?_; rintro e w' ⟨rfl, rfl⟩)
              | (go_at_call 26; refine HBT.out.mono ?_; rintro e w1 ⟨rfl, h5⟩; have H5 := Lib.hid h5; clear h5)
              | (go_at_call 27; refine H5.out.mono ?_; rintro e w2 ⟨rfl, h6⟩; have H6 := Lib.hid h6; clear h6))
            all_goals (
              go_roundw
              case rel => exact ⟨k + 1, k + 1, Nat.le_refl _, by omega, by go_num, by go_num, H6.out⟩
              case measure => simp [intOf]; omega)
          · have e10 : (x == 10) = false := by simp; omega
            have e13 : (x == 13) = false := by simp; omega
            cases bin
            · go_wp2_with (first
                | (go_at_call 25; refine (HWF.out _).mono ?_; rintro e w' ⟨rfl, rfl⟩)
                | (go_at_call 26; refine HBT.out.mono ?_; rintro e w1 ⟨rfl, h5⟩; have H5 := Lib.hid h5; clear h5)
                | (go_at_call 27; refine H5.out.mono ?_; rintro e w2 ⟨rfl, h6⟩; have H6 := Lib.hid h6; clear h6))
              all_goals (
                go_roundw
                case rel => exact ⟨k + 1, k + 1, Nat.le_refl _, by omega, by go_num, by go_num, H6.out⟩
                case measure => simp [intOf]; omega)
            · go_wp2_with (first
                | (go_at_call 25; refine (HWF.out _).mono ?_; rintro e w' ⟨rfl, rfl⟩)
                | (go_at_call 26; refine HBT.out.mono ?_; rintro e w1 ⟨rfl, h5⟩; have H5 := Lib.hid h5; clear h5)
                | (go_at_call 27; refine H5.out.mono ?_; rintro e w2 ⟨rfl, h6⟩; have H6 := Lib.hid h6; clear h6))
              all_goals (
                go_roundw
                case rel => exact ⟨k + 1, k + 1, Nat.le_refl _, by omega, by go_num, by go_num, H6.out⟩
                case measure => simp [intOf]; omega)
          · cases bin
            · go_wp2_with (first
                | (go_at_call 25; refine (HWF.out _).mono ?_; rintro e w' ⟨rfl, rfl⟩)
                | (go_at_call 26; refine HBT.out.mono ?_; rintro e w1 ⟨rfl, h5⟩; have H5 := Lib.hid h5; clear h5)
                | (go_at_call 27; refine H5.out.mono ?_; rintro e w2 ⟨rfl, h6⟩; have H6 := Lib.hid h6; clear h6))
              all_goals (
                go_roundw
                case rel => exact ⟨k + 1, k + 1, Nat.le_refl _, by omega, by go_num, by go_num, H6.out⟩
                case measure => simp [intOf]; omega)
            · go_wp2_with (first
                | (go_at_call 25; refine (HWF.out _).mono ?_; rintro e w' ⟨rfl, rfl⟩)
                | (go_at_call 26; refine HBT.out.mono ?_; rintro e w1 ⟨rfl, h5⟩; have H5 := Lib.hid h5; clear h5)
                | (go_at_call 27; refine H5.out.mono ?_; rintro e w2 ⟨rfl, h6⟩; have H6 := Lib.hid h6; clear h6))
              all_goals (
                go_roundw
                case rel => exact ⟨k + 1, k + 1, Nat.le_refl _, by omega, by go_num, by go_num, H6.out⟩
                case measure => simp [intOf]; omega)
        · have hnk' : n = k := by omega
          have hE : Calls Try.prog 27 #[.pointer (some ⟨bw, 0, none⟩), .int .u8 x] wr (fun e w2 => e = .returned .nilIface ∧ WriteRel w bw bb ro bin s cs (k + 1) (k + 1) w2) := by
            obtain ⟨ro1, h1, hm1, hk1⟩ := HREL.out.1
            rw [hnk'] at h1
            exact HENC.out wr ro1 h1 hm1 hk1
          have H5 := Lib.hid hE
          subst hnk'
          clear hE hnk hin
          rcases ways with ⟨h1, h2, rfl⟩ | ⟨h1, h2, rfl, h3, h4⟩ | h1 | rfl
          · go_wp2_with (first
              | (go_at_call 25; refine (HWF.out _).mono ?_; rintro e w' ⟨rfl, rfl⟩)
              | (go_at_call 27; refine H5.out.mono ?_; rintro e w2 ⟨rfl, h6⟩; have H6 := Lib.hid h6; clear h6))
            all_goals (
              go_roundw
              case rel => exact ⟨n + 1, n + 1, Nat.le_refl _, by omega, by go_num, by go_num, H6.out⟩
              case measure => simp [intOf]; omega)
          · go_wp2_with (first
              | (go_at_call 25; refine (HWF.out _).mono ?_; rintro e w' ⟨rfl, rfl⟩)
              | (go_at_call 27; refine H5.out.mono ?_; rintro e w2 ⟨rfl, h6⟩; have H6 := Lib.hid h6; clear h6))
            all_goals (
              go_roundw
              case rel => exact ⟨n + 1, n + 1, Nat.le_refl _, by omega, by go_num, by go_num, H6.out⟩
              case measure => simp [intOf]; omega)
          · have e10 : (x == 10) = false := by simp; omega
            have e13 : (x == 13) = false := by simp; omega
            cases bin
            · go_wp2_with (first
                | (go_at_call 25; refine (HWF.out _).mono ?_; rintro e w' ⟨rfl, rfl⟩)
                | (go_at_call 27; refine H5.out.mono ?_; rintro e w2 ⟨rfl, h6⟩; have H6 := Lib.hid h6; clear h6))
              all_goals (
                go_roundw
                case rel => exact ⟨n + 1, n + 1, Nat.le_refl _, by omega, by go_num, by go_num, H6.out⟩
                case measure => simp [intOf]; omega)
            · go_wp2_with (first
                | (go_at_call 25; refine (HWF.out _).mono ?_; rintro e w' ⟨rfl, rfl⟩)
                | (go_at_call 27; refine H5.out.mono ?_; rintro e w2 ⟨rfl, h6⟩; have H6 := Lib.hid h6; clear h6))
              all_goals (
                go_roundw
                case rel => exact ⟨n + 1, n + 1, Nat.le_refl _, by omega, by go_num, by go_num, H6.out⟩
                case measure => simp [intOf]; omega)
          · cases bin
            · go_wp2_with (first
                | (go_at_call 25; refine (HWF.out _).mono ?_; rintro e w' ⟨rfl, rfl⟩)
                | (go_at_call 27; refine H5.out.mono ?_; rintro e w2 ⟨rfl, h6⟩; have H6 := Lib.hid h6; clear h6))
              all_goals (
                go_roundw
                case rel => exact ⟨n + 1, n + 1, Nat.le_refl _, by omega, by go_num, by go_num, H6.out⟩
                case measure => simp [intOf]; omega)
            · go_wp2_with (first
                | (go_at_call 25; refine (HWF.out _).mono ?_; rintro e w' ⟨rfl, rfl⟩)
                | (go_at_call 27; refine H5.out.mono ?_; rintro e w2 ⟨rfl, h6⟩; have H6 := Lib.hid h6; clear h6))
              all_goals (
                go_roundw
                case rel => exact ⟨n + 1, n + 1, Nat.le_refl _, by omega, by go_num, by go_num, H6.out⟩
                case measure => simp [intOf]; omega)
    · have hke : k = cs.length := by omega
      subst hke
      by_cases hn : n = cs.length
      · subst hn
        have hend := hrel.1
        unfold WrRel at hend
        rw [List.take_length] at hend
        have HE := Lib.hid hend
        clear hend hrel hk hnk hlt
        go_wp2
        go_ret2
        exact ⟨rfl, HE.out⟩
      · have hlt2 : n < cs.length := by omega
        have hP := part_any (c := c) hrel HL.out HLIM.out HP.out hpw hpb hpr hlt2 (Nat.le_refl _)
        rw [List.take_length] at hP
        have HPT := Lib.hid hP
        have hne : ¬ c = n := by omega
        have hz : ((n : Int) == cs.length) = false := by simp; omega
        clear hP hrel hk hlt hn
        go_wp2_with (go_at_call 26; refine HPT.out.mono ?_; rintro e w1 ⟨rfl, h5⟩; have H5 := Lib.hid h5; clear h5)
        go_ret2
        exact ⟨rfl, H5.out⟩

end
end Go.Proofs.Ytigebhmdplcciaa

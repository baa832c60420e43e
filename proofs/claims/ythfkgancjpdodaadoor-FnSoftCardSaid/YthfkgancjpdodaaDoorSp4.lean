/- The walks of Escapes, Feeds, ValueFeeds. -/
import Derived.Test.YthfkgancjpdodaaDoorSp3
import Derived.Test.YthfkgancjpdodaaDoorDlast
namespace Go.Proofs.YthfkgancjpdodaaDoor
open Go.RowKit Qp

theorem escapesGo_append (a b : B) : ∀ i, escapesGo i (a ++ b) = escapesGo i a ++ escapesGo (i + a.length) b := by
  induction a with
  | nil => intro i; rfl
  | cons x r ih =>
    intro i
    rw [List.cons_append]
    conv => lhs; unfold escapesGo
    conv => rhs; arg 1; unfold escapesGo
    rw [ih, List.length_cons, show i + (r.length + 1) = i + 1 + r.length by omega]
    split <;> simp
theorem escapesGo_take {d : B} {k : Nat} (hk : k < d.length) : escapesGo 0 (d.take (k + 1)) = escapesGo 0 (d.take k) ++ (if 0 < k ∧ k % 25 = 0 then [softTok, escTok d[k]] else [escTok d[k]]) := by
  rw [List.take_succ_eq_append_getElem hk, escapesGo_append, List.length_take, Nat.min_eq_left (by omega), Nat.zero_add]
  congr 1
theorem escapesGo_len (d : B) : ∀ i, (escapesGo i d).length ≤ 2 * d.length := by
  induction d with
  | nil => intro i; simp [escapesGo]
  | cons x r ih =>
    intro i
    unfold escapesGo
    have := ih (i + 1)
    split <;> simp <;> omega

def upperS : ByteArray := ⟨#[48, 49, 50, 51, 52, 53, 54, 55, 56, 57, 65, 66, 67, 68, 69, 70]⟩
def lowerS : ByteArray := ⟨#[48, 49, 50, 51, 52, 53, 54, 55, 56, 57, 97, 98, 99, 100, 101, 102]⟩
theorem digTok_upper : ∀ b : UInt8, digTok upperS b = escTok b := u8_all (by decide +kernel)
theorem digTok_lower : ∀ b : UInt8, digTok lowerS b = lowTok b := u8_all (by decide +kernel)

/-- a new token, laid by itself behind the row -/
theorem tokret_src {wr w1 : World} {B : Nat} {va tv vv : Value} {l : List Tok} {t : Tok} (ht : Tr wr B va l) (hB : B ≤ wr.heap.size) (h1 : Bs w1 tv t.text) (h2 : Bs w1 vv t.value) (hb : Below wr.heap.size wr w1)
    (s1 : ∀ g, tv.ownBlock = some g → wr.heap.size ≤ g) (s2 : ∀ g, vv.ownBlock = some g → wr.heap.size ≤ g) (kd : Int) (hkd : kd = t.kind) :
    Tr (w1.alloc (.cells #[.int .i64 kd, tv, vv] 39)) B va l ∧ Tsp (w1.alloc (.cells #[.int .i64 kd, tv, vv] 39)) va (.slice (some ⟨w1.heap.size, 0, none⟩) 1 1) [t] ∧ B ≤ (w1.alloc (.cells #[.int .i64 kd, tv, vv] 39)).heap.size ∧
      Below wr.heap.size wr (w1.alloc (.cells #[.int .i64 kd, tv, vv] 39)) := by
  subst hkd
  have hb1 := hb.alloc hb.size (.cells #[.int .i64 t.kind, tv, vv] 39)
  refine ⟨ht.below hb1, ?_, Nat.le_trans hB hb1.size, hb1⟩
  refine tok_src ⟨t, tv, vv⟩ ⟨h1, h2⟩ fun g hg => ?_
  obtain ⟨ao, cap, rfl, -, -, h⟩ := ht.shape
  have := (h g hg).2
  exact ⟨fun _ e => by have := s1 g e; omega, fun _ e => by have := s2 g e; omega⟩

/-- where Escapes stands -/
def EscRel (w : World) (d : B) (v vi : Value) (wr : World) : Prop := ∃ k : Nat, k ≤ d.length ∧ vi = .int .i64 k ∧ Tr wr w.heap.size v (escapesGo 0 (d.take k)) ∧ Below w.heap.size w wr

set_option maxRecDepth 100000 in
set_option maxHeartbeats 1600000 in
theorem Escapes_any {w : World} {v : Value} {d : List UInt8} (h : Bs w v d) (hlim : d.length ≤ 2147483647) :
    Calls Tryd.prog 33 #[v] w fun e w' => ∃ v', e = .returned v' ∧ Ts w' v' (escapesGo 0 d) ∧ Below w.heap.size w w' := by
  obtain ⟨ao, cap, rfl, hlc, hcm, h4, hat⟩ := h
  have HAT := Lib.hid hat
  clear hat h4
  go_enter Tryd.func33, Tryd.ntmps33
  go_wp2
  go_loopw [3, 8] (fun v i wr => EscRel w d v i wr) (fun _ i _ => d.length - (intOf i).toNat)
  case atStart => exact ⟨0, Nat.zero_le _, rfl, Tr.nil _ _, Below.refl _ _⟩
  case round =>
    obtain ⟨k, hk, rfl, htr, hbel⟩ := hrel
    by_cases hlt : k < d.length
    · obtain ⟨b, off, rfl, hc⟩ := HAT.out (by intro e; rw [e] at hlt; simp at hlt)
      have hcell := hc k hlt
      have hg : d.getD k 0 = d[k] := by simp [hlt]
      rw [hg] at hcell
      have hcell := below_cell hbel _ _ hcell
      have hstep := escapesGo_take hlt
      have hlen := escapesGo_len (d.take k) 0
      rw [List.length_take, Nat.min_eq_left hk] at hlen
      obtain ⟨c, hcc⟩ : ∃ c, c = d[k] := ⟨_, rfl⟩
      rw [← hcc] at hcell hstep
      obtain ⟨acc, hacc⟩ : ∃ acc, acc = escapesGo 0 (d.take k) := ⟨_, rfl⟩
      rw [← hacc] at htr hstep hlen
      have HTB := Lib.hid (And.intro htr hbel)
      by_cases hs : 0 < k ∧ k % 25 = 0
      · rw [if_pos hs] at hstep
        obtain ⟨hs1, hs2⟩ := hs
        have g1 : (0 : Int) < k := by omega
        have g2 : (k : Int) % 25 = 0 := by omega
        have hfin : ∀ v' w', Tr w' w.heap.size v' ((acc ++ [softTok]) ++ [digTok upperS c]) → Below w.heap.size w w' → EscRel w d v' (.int .i64 ((k : Int) + 1)) w' := fun v' w' ht hb =>
          ⟨k + 1, by omega, by go_num, by rw [hstep, ← digTok_upper]; simpa using ht, hb⟩
        have HFIN := Lib.hid hfin
        have hl1 : acc.length + [softTok].length ≤ 1099511627776 := by simp; omega
        have hl2 : (acc ++ [softTok]).length + [digTok upperS c].length ≤ 1099511627776 := by simp; omega
        clear hcc hacc hstep hlen htr hbel hc hg hfin hs2
        go_wp2_with fail
        refine soft_any.mono ?_
        rintro e w1 ⟨tv, vv, rfl, t1, t2, hb, s1, s2⟩
        have hS := Lib.hid (tokret_src HTB.out.1 HTB.out.2.size t1 t2 hb s1 s2 4 rfl)
        obtain ⟨a1, c1, rfl⟩ := Bs.shape t1
        obtain ⟨a2, c2, rfl⟩ := Bs.shape t2
        clear t1 t2 hb s1 s2
        go_wp2_with (at_builtin; refine wpList_append_tr (by rfl) (.tmp 20) (.tmp 22) rfl w.heap.size _ _ (by rfl) (by rfl) hS.out.1 hS.out.2.1 hl1 hS.out.2.2.1 ?_; intro v2 w2 hT hK1 _ _; have HTC := Lib.hid (And.intro hT (below_keep (HTB.out.2.trans (hS.out.2.2.2.mono HTB.out.2.size)) hK1 (Nat.le_refl _))); clear hT hK1)
        go_wp2_with fail
        refine (Escaped_any c upperS rfl).mono ?_
        rintro e w3 ⟨tv', vv', rfl, t1, t2, hb, s1, s2⟩
        have hS2 := Lib.hid (tokret_src HTC.out.1 HTC.out.2.size t1 t2 hb s1 s2 3 rfl)
        obtain ⟨a3, c3, rfl⟩ := Bs.shape t1
        obtain ⟨a4, c4, rfl⟩ := Bs.shape t2
        clear t1 t2 hb s1 s2
        go_wp2_with (at_builtin; refine wpList_append_tr (by rfl) (.tmp 24) (.tmp 27) rfl w.heap.size _ _ (by rfl) (by rfl) hS2.out.1 hS2.out.2.1 hl2 hS2.out.2.2.1 ?_; intro v4 w4 hT hK1 _ _; have HN := Lib.hid (HFIN.out _ _ hT (below_keep (HTC.out.2.trans (hS2.out.2.2.2.mono HTC.out.2.size)) hK1 (Nat.le_refl _))); clear hT hK1)
        go_roundw
        case rel => exact HN.out
        case measure => simp [intOf]; omega
      · rw [if_neg hs] at hstep
        have hfin : ∀ v' w', Tr w' w.heap.size v' (acc ++ [digTok upperS c]) → Below w.heap.size w w' → EscRel w d v' (.int .i64 ((k : Int) + 1)) w' := fun v' w' ht hb =>
          ⟨k + 1, by omega, by go_num, by rw [hstep, ← digTok_upper]; exact ht, hb⟩
        have HFIN := Lib.hid hfin
        have hl2 : acc.length + [digTok upperS c].length ≤ 1099511627776 := by simp; omega
        by_cases hk0 : 0 < k
        · have g1 : (0 : Int) < k := by omega
          have g2 : ((k : Int) % 25 == 0) = false := beq_eq_false_iff_ne.2 (by omega)
          clear hcc hacc hstep hlen htr hbel hc hg hfin hs
          go_wp2_with fail
          refine (Escaped_any c upperS rfl).mono ?_
          rintro e w3 ⟨tv', vv', rfl, t1, t2, hb, s1, s2⟩
          have hS2 := Lib.hid (tokret_src HTB.out.1 HTB.out.2.size t1 t2 hb s1 s2 3 rfl)
          obtain ⟨a3, c3, rfl⟩ := Bs.shape t1
          obtain ⟨a4, c4, rfl⟩ := Bs.shape t2
          clear t1 t2 hb s1 s2
          go_wp2_with (at_builtin; refine wpList_append_tr (by rfl) (.tmp 24) (.tmp 27) rfl w.heap.size _ _ (by rfl) (by rfl) hS2.out.1 hS2.out.2.1 hl2 hS2.out.2.2.1 ?_; intro v4 w4 hT hK1 _ _; have HN := Lib.hid (HFIN.out _ _ hT (below_keep (HTB.out.2.trans (hS2.out.2.2.2.mono HTB.out.2.size)) hK1 (Nat.le_refl _))); clear hT hK1)
          go_roundw
          case rel => exact HN.out
          case measure => simp [intOf]; omega
        · have g1 : ¬ (0 : Int) < k := by omega
          clear hcc hacc hstep hlen htr hbel hc hg hfin hs
          go_wp2_with fail
          refine (Escaped_any c upperS rfl).mono ?_
          rintro e w3 ⟨tv', vv', rfl, t1, t2, hb, s1, s2⟩
          have hS2 := Lib.hid (tokret_src HTB.out.1 HTB.out.2.size t1 t2 hb s1 s2 3 rfl)
          obtain ⟨a3, c3, rfl⟩ := Bs.shape t1
          obtain ⟨a4, c4, rfl⟩ := Bs.shape t2
          clear t1 t2 hb s1 s2
          go_wp2_with (at_builtin; refine wpList_append_tr (by rfl) (.tmp 24) (.tmp 27) rfl w.heap.size _ _ (by rfl) (by rfl) hS2.out.1 hS2.out.2.1 hl2 hS2.out.2.2.1 ?_; intro v4 w4 hT hK1 _ _; have HN := Lib.hid (HFIN.out _ _ hT (below_keep (HTB.out.2.trans (hS2.out.2.2.2.mono HTB.out.2.size)) hK1 (Nat.le_refl _))); clear hT hK1)
          go_roundw
          case rel => exact HN.out
          case measure => simp [intOf]; omega
    · have hke : k = d.length := by omega
      subst hke
      rw [List.take_length] at htr
      have HO := Lib.hid htr.ts
      have HB := Lib.hid hbel
      clear htr hbel
      go_wp2
      go_ret
      exact ⟨_, rfl, HO.out, HB.out⟩

/-- where Feeds stands -/
def FeedRel (w : World) (l : List Tok) (v vi : Value) (wr : World) : Prop := ∃ k : Nat, k ≤ l.length ∧ vi = .int .i64 k ∧ Tr wr w.heap.size v ((l.take k).map feed) ∧ Below w.heap.size w wr
theorem feed_take {l : List Tok} {k : Nat} (hk : k < l.length) : (l.take (k + 1)).map feed = (l.take k).map feed ++ [feed l[k]] := by
  rw [List.take_succ_eq_append_getElem hk, List.map_append]; rfl
/-- a token that lies, laid by itself behind the row -/
theorem tok_again {w wr w1 : World} {va tv vv : Value} {l : List Tok} {t : Tok} (ht : Tr wr w.heap.size va l) (hw : Below w.heap.size w wr) (h1 : Bs w tv t.text) (h2 : Bs w vv t.value) (hb : Below wr.heap.size wr w1) (kd : Int) (hkd : kd = t.kind) :
    Tr (w1.alloc (.cells #[.int .i64 kd, tv, vv] 39)) w.heap.size va l ∧ Tsp (w1.alloc (.cells #[.int .i64 kd, tv, vv] 39)) va (.slice (some ⟨w1.heap.size, 0, none⟩) 1 1) [t] ∧ w.heap.size ≤ (w1.alloc (.cells #[.int .i64 kd, tv, vv] 39)).heap.size ∧
      Below wr.heap.size wr (w1.alloc (.cells #[.int .i64 kd, tv, vv] 39)) := by
  subst hkd
  have hb1 := hb.alloc hb.size (.cells #[.int .i64 t.kind, tv, vv] 39)
  have hw1 := hw.trans (hb.mono hw.size)
  refine ⟨ht.below hb1, ?_, Nat.le_trans hw.size hb1.size, hb1⟩
  refine tok_src ⟨t, tv, vv⟩ ⟨h1.below hw1, h2.below hw1⟩ fun g hg => ?_
  obtain ⟨ao, cap, rfl, -, -, h⟩ := ht.shape
  have := (h g hg).1
  exact ⟨fun hne e => by have := Bs.block_lt h1 hne _ e; omega, fun hne e => by have := Bs.block_lt h2 hne _ e; omega⟩

set_option maxRecDepth 100000 in
set_option maxHeartbeats 1600000 in
theorem Feeds_any {w : World} {v : Value} {l : List Tok} (h : Ts w v l) (hlim : l.length ≤ 2147483647) :
    Calls Tryd.prog 34 #[v] w fun e w' => ∃ v', e = .returned v' ∧ Ts w' v' (l.map feed) ∧ Below w.heap.size w w' := by
  obtain ⟨ao, cap, rfl, hlc, hcm, hat⟩ := h.at
  have HAT := Lib.hid hat
  clear hat h
  go_enter Tryd.func34, Tryd.ntmps34
  go_wp2
  go_loopw [3, 8] (fun v i wr => FeedRel w l v i wr) (fun _ i _ => l.length - (intOf i).toNat)
  case atStart => exact ⟨0, Nat.zero_le _, rfl, Tr.nil _ _, Below.refl _ _⟩
  case round =>
    obtain ⟨k, hk, rfl, htr, hbel⟩ := hrel
    by_cases hlt : k < l.length
    · obtain ⟨b, off, a1, n1, c1, a2, n2, c2, rfl, q0, q1, q2, t1, t2⟩ := HAT.out k hlt
      have q0 := below_cell hbel _ _ q0
      have q1 := below_cell hbel _ _ q1
      have q2 := below_cell hbel _ _ q2
      have hstep := feed_take hlt
      have hal : ((l.take k).map feed).length = k := by simp; omega
      obtain ⟨t, htk⟩ : ∃ t, t = l[k] := ⟨_, rfl⟩
      rw [← htk] at q0 t1 t2 hstep
      obtain ⟨acc, hacc⟩ : ∃ acc, acc = (l.take k).map feed := ⟨_, rfl⟩
      rw [← hacc] at htr hstep hal
      obtain ⟨kd, hkd⟩ : ∃ kd, kd = t.kind := ⟨_, rfl⟩
      rw [← hkd] at q0
      have hfin : ∀ v' w', Tr w' w.heap.size v' (acc ++ [feed t]) → Below w.heap.size w w' → FeedRel w l v' (.int .i64 ((k : Int) + 1)) w' := fun v' w' ht hb =>
        ⟨k + 1, by omega, by go_num, by rw [hstep]; exact ht, hb⟩
      have HFIN := Lib.hid hfin
      have HTB := Lib.hid (And.intro htr hbel)
      have HKD := Lib.hid hkd
      have HT12 := Lib.hid (And.intro t1 t2)
      have hl2 : acc.length + [feed t].length ≤ 1099511627776 := by simp; omega
      clear htk hacc hstep htr hbel hfin hal hkd t1 t2 HAT
      by_cases h5 : kd = 5
      · subst h5
        have hft : feed t = ⟨5, [10], [10]⟩ := by unfold feed; rw [← HKD.out, if_pos rfl]
        rw [hft] at hl2
        have kc1 := kconst (wr.alloc (.cells #[.int .i64 5, .slice a1 n1 c1, .slice a2 n2 c2] 39)) (wr.heap.size + 1) 1 1 2 (World.size_alloc _ _).symm #[.int .u8 10] rfl rfl
        have kc2 := kconst ((wr.alloc (.cells #[.int .i64 5, .slice a1 n1 c1, .slice a2 n2 c2] 39)).alloc (.cells #[.int .u8 10] 5 (1, 2))) (wr.heap.size + 1 + 1) 1 1 2 (by simp) #[.int .u8 10] rfl rfl
        have hW : ∀ A A' A'', Below wr.heap.size wr (((wr.alloc A).alloc A').alloc A'') := fun A A' A'' => (((Below.refl _ _).alloc (Nat.le_refl _) A).alloc (by rw [World.size_alloc]; omega) A').alloc (by rw [World.size_alloc, World.size_alloc]; omega) A''
        have hS : ∀ A, _ := fun A => tokret_src (w1 := ((wr.alloc A).alloc (.cells #[.int .u8 10] 5 (1, 2))).alloc (.cells #[.int .u8 10] 5 (1, 2))) (tv := .slice (some ⟨wr.heap.size + 1, 0, none⟩) 1 1) (vv := .slice (some ⟨wr.heap.size + 1 + 1, 0, none⟩) 1 1) (t := ⟨5, [10], [10]⟩) HTB.out.1 HTB.out.2.size (by
            have := lit_bs (wr.alloc A) [10] (1, 2) 1 rfl (by omega) #[.int .u8 10] rfl
            rw [World.size_alloc] at this
            exact this.below ((Below.refl _ _).alloc (Nat.le_refl _) _)) (by
            have := lit_bs ((wr.alloc A).alloc (.cells #[.int .u8 10] 5 (1, 2))) [10] (1, 2) 1 rfl (by omega) #[.int .u8 10] rfl
            rw [World.size_alloc, World.size_alloc] at this
            exact this) (hW _ _ _) (fun g e => by injection e with e; have e : wr.heap.size + 1 = g := e; omega) (fun g e => by injection e with e; have e : wr.heap.size + 1 + 1 = g := e; omega) 5 rfl
        simp only [World.size_alloc] at hS
        have hSZ : ∀ o o' o'' o3, w.heap.size ≤ ((((wr.alloc o).alloc o').alloc o'').alloc o3).heap.size := fun o o' o'' o3 => by have := HTB.out.2.size; simp only [World.size_alloc]; omega
        have HSZ := Lib.hid hSZ
        have HS := Lib.hid hS
        have HFT := Lib.hid hft
        clear hS hft hSZ hW
        go_wp2_with (at_builtin; (refine wpList_append_tr (by rfl) (.tmp 26) (.tmp 28) rfl w.heap.size _ _ (by rfl) (by rfl) (HS.out _).1 (HS.out _).2.1 hl2 (HSZ.out _ _ _ _) ?_; intro v2 w2 hT hK1 _ _; have HN := Lib.hid (HFIN.out _ _ (by rw [HFT.out]; exact hT) (below_keep (HTB.out.2.trans ((HS.out _).2.2.2.mono HTB.out.2.size)) hK1 (Nat.le_refl _))); clear hT hK1))
        go_roundw
        case rel => exact HN.out
        case measure => simp [intOf]; omega
      · by_cases h4 : kd = 4
        · subst h4
          have hft : feed t = ⟨4, [61, 10], []⟩ := by unfold feed; rw [← HKD.out, if_neg h5, if_pos rfl]
          rw [hft] at hl2
          have kc1 := kconst (wr.alloc (.cells #[.int .i64 4, .slice a1 n1 c1, .slice a2 n2 c2] 39)) (wr.heap.size + 1) 2 2 3 (World.size_alloc _ _).symm #[.int .u8 61, .int .u8 10] rfl rfl
          have hW : ∀ A A', Below wr.heap.size wr ((wr.alloc A).alloc A') := fun A A' => ((Below.refl _ _).alloc (Nat.le_refl _) A).alloc (by rw [World.size_alloc]; omega) A'
          have hS : ∀ A, _ := fun A => tokret_src (w1 := (wr.alloc A).alloc (.cells #[.int .u8 61, .int .u8 10] 5 (2, 3))) (tv := .slice (some ⟨wr.heap.size + 1, 0, none⟩) 2 2) (vv := .slice none 0 0) (t := ⟨4, [61, 10], []⟩) HTB.out.1 HTB.out.2.size (by
              have := lit_bs (wr.alloc A) [61, 10] (2, 3) 2 rfl (by omega) #[.int .u8 61, .int .u8 10] rfl
              rw [World.size_alloc] at this
              exact this) (bs_nil _) (hW _ _) (fun g e => by injection e with e; have e : wr.heap.size + 1 = g := e; omega) (fun g e => by cases e) 4 rfl
          simp only [World.size_alloc] at hS
          have hSZ : ∀ o o' o'', w.heap.size ≤ (((wr.alloc o).alloc o').alloc o'').heap.size := fun o o' o'' => by have := HTB.out.2.size; simp only [World.size_alloc]; omega
          have HSZ := Lib.hid hSZ
          have HS := Lib.hid hS
          have HFT := Lib.hid hft
          clear hS hft hSZ hW h5
          go_wp2_with (at_builtin; (refine wpList_append_tr (by rfl) (.tmp 26) (.tmp 28) rfl w.heap.size _ _ (by rfl) (by rfl) (HS.out _).1 (HS.out _).2.1 hl2 (HSZ.out _ _ _) ?_; intro v2 w2 hT hK1 _ _; have HN := Lib.hid (HFIN.out _ _ (by rw [HFT.out]; exact hT) (below_keep (HTB.out.2.trans ((HS.out _).2.2.2.mono HTB.out.2.size)) hK1 (Nat.le_refl _))); clear hT hK1))
          go_roundw
          case rel => exact HN.out
          case measure => simp [intOf]; omega
        · have e5 : ((kd : Int) == 5) = false := beq_eq_false_iff_ne.2 (by omega)
          have e4 : ((kd : Int) == 4) = false := beq_eq_false_iff_ne.2 (by omega)
          have hft : feed t = t := by unfold feed; rw [← HKD.out, if_neg h5, if_neg h4]
          rw [hft] at hl2
          have hS := fun o => tok_again HTB.out.1 HTB.out.2 HT12.out.1 HT12.out.2 ((Below.refl _ _).alloc (Nat.le_refl _) o) kd (congrArg Nat.cast HKD.out)
          simp only [World.size_alloc] at hS
          have hSZ : ∀ o o', w.heap.size ≤ ((wr.alloc o).alloc o').heap.size := fun o o' => ((HTB.out.2.alloc HTB.out.2.size o).alloc ((HTB.out.2.alloc HTB.out.2.size o).size) o').size
          have HSZ := Lib.hid hSZ
          have HS := Lib.hid hS
          have HFT := Lib.hid hft
          clear hS h5 h4 hft hSZ
          go_wp2_with (at_builtin; (refine wpList_append_tr (by rfl) (.tmp 26) (.tmp 28) rfl w.heap.size _ _ (by rfl) (by rfl) (HS.out _).1 (HS.out _).2.1 hl2 (HSZ.out _ _) ?_; intro v2 w2 hT hK1 _ _; have HN := Lib.hid (HFIN.out _ _ (by rw [HFT.out]; exact hT) (below_keep (HTB.out.2.trans ((HS.out _).2.2.2.mono HTB.out.2.size)) hK1 (Nat.le_refl _))); clear hT hK1))
          go_roundw
          case rel => exact HN.out
          case measure => simp [intOf]; omega
    · have hke : k = l.length := by omega
      subst hke
      rw [List.take_length] at htr
      have HO := Lib.hid htr.ts
      have HB := Lib.hid hbel
      clear htr hbel
      go_wp2
      go_ret
      exact ⟨_, rfl, HO.out, HB.out⟩

theorem textOf_le3 {l : List Tok} (h : ∀ t ∈ l, t.text.length ≤ 3) : (textOf l).length ≤ 3 * l.length := by
  induction l with
  | nil => simp [textOf]
  | cons t r ih =>
    have := h t (List.mem_cons_self ..)
    have := ih fun x hx => h x (List.mem_cons_of_mem _ hx)
    rw [textOf_cons, List.length_append, List.length_cons]
    omega
theorem okTok.le3 {t : Tok} (h : okTok t) : t.text.length ≤ 3 := by
  rcases h with ⟨b, _, _, _, rfl⟩ | ⟨b, _, rfl⟩ | ⟨x, y, h, l, _, _, rfl⟩ | rfl | rfl <;> simp [litTok, blankTok, softTok, brkTok]
theorem feed_le3 {t : Tok} (h : okTok t) : (feed t).text.length ≤ 3 := by
  unfold feed
  split
  · simp
  · split
    · simp
    · exact okTok.le3 h
theorem feed_lens {l : List Tok} (hl : ∀ t ∈ l, okTok t) : ∀ t ∈ l.map feed, lenTok t := by
  intro u hu
  obtain ⟨t, ht, rfl⟩ := List.mem_map.1 hu
  unfold feed
  split
  · exact ⟨by simp, by simp⟩
  · split
    · exact ⟨by simp, by simp⟩
    · exact okTok.value_len (hl t ht)
theorem escapes_le3 (d : B) : (textOf (escapesGo 0 d)).length ≤ 6 * d.length := by
  have := textOf_le3 (l := escapesGo 0 d) fun t ht => okTok.le3 (escapes_ok d 0 t ht).1
  have := escapesGo_len d 0
  omega
theorem kind1 {t : Tok} (h : okTok t) (hk : t.kind = 1 ∨ t.kind = 3) : ∃ b, t.value = [b] := by
  rcases h with ⟨b, _, _, _, rfl⟩ | ⟨b, _, rfl⟩ | ⟨x, y, h, l, _, _, rfl⟩ | rfl | rfl
  · exact ⟨_, rfl⟩
  · exact ⟨_, rfl⟩
  · exact ⟨_, rfl⟩
  · rcases hk with hk | hk <;> cases hk
  · rcases hk with hk | hk <;> cases hk
theorem closed_kind {l : List Tok} (h : ∀ r t, l = r ++ [t] → t.kind ≠ 2) : closed l := by
  rcases List.eq_nil_or_concat l with e | ⟨r, t, e⟩
  · exact .inl e
  · rw [List.concat_eq_append] at e
    exact .inr ⟨r, t, e, h r t e⟩

set_option maxRecDepth 100000 in
set_option maxHeartbeats 1600000 in
theorem ValueFeeds_any {w : World} {v : Value} {l : List Tok} (h : Ts w v l) (hl : ∀ t ∈ l, lenTok t) (hlim : l.length ≤ 1099511627776) :
    Calls Tryd.prog 35 #[v] w fun e w' => ∃ v', e = .returned v' ∧ Bs w' v' (value l) ∧ Below w.heap.size w w' := by
  have HV := Lib.hid (Value_anyL h hl hlim)
  obtain ⟨ao, cap, rfl⟩ := Ts.shape h
  clear h hl
  go_enter Tryd.func35, Tryd.ntmps35
  go_wp2_with fail
  refine HV.out.mono ?_
  rintro e w1 ⟨v1, rfl, h1, hb⟩
  have HB := Lib.hid hb
  have HO := Lib.hid h1
  clear hb h1
  go_wp2
  go_ret
  exact ⟨_, rfl, HO.out, HB.out⟩
end Go.Proofs.YthfkgancjpdodaaDoor

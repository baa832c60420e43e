/- bytes.TrimLeft, HasSuffix and IndexByte in the words of this proof; (*bufio.Reader).readErr and Buffered. -/
import Derived.Test.YtcbolmendjocbaaDoorRd4
import Derived.Test.YtcbolmendjocbaaDoorShelf2
namespace Go.Proofs.YtcbolmendjocbaaDoor
open Go.RowKit Qp

theorem dropWhile_drop (p : UInt8 → Bool) (l : List UInt8) : l.dropWhile p = l.drop (l.length - (l.dropWhile p).length) := by
  have h : l.takeWhile p ++ l.dropWhile p = l := List.takeWhile_append_dropWhile
  have hl := congrArg List.length h
  rw [List.length_append] at hl
  conv => rhs; rw [← h]
  rw [List.drop_left' (by rw [h]; omega)]

theorem bs_at {w : World} {ao : Option Addr} {n cap : Nat} {l : List UInt8} (h : Bs w (.slice ao n cap) l) : n = l.length ∧ n ≤ cap ∧ cap ≤ 9223372036854775807 ∧
    (l ≠ [] → ∃ b off, ao = some ⟨b, off, none⟩ ∧ ∀ k, k < l.length → w.cell? ⟨b, off + k, none⟩ = some (.int .u8 (l.getD k 0).toNat)) := by
  obtain ⟨ao', cap', e, h2, h3, h4, h5⟩ := h
  injection e with e1 e2 e3
  subst e1; subst e2; subst e3
  exact ⟨rfl, h2, h3, h5⟩

theorem Bs.rest {w : World} {b off n cap : Nat} {l : List UInt8} (h : Bs w (.slice (some ⟨b, off, none⟩) n cap) l) (k : Nat) (hk : k ≤ l.length) : Bs w (.slice (some ⟨b, off + k, none⟩) (n - k) (cap - k)) (l.drop k) := by
  obtain ⟨rfl, h2, h3, h5⟩ := bs_at h
  refine ⟨some ⟨b, off + k, none⟩, cap - k, by rw [List.length_drop], by rw [List.length_drop]; omega, by omega, (fun h => by cases h), fun hne => ⟨b, off + k, rfl, fun j hj => ?_⟩⟩
  rw [List.length_drop] at hj
  obtain ⟨b', off', e, h7⟩ := h5 (by rintro rfl; simp at hj)
  injection e with e
  injection e with e1 e2
  subst e1; subst e2
  rw [Nat.add_assoc, h7 (k + j) (by omega)]
  simp [List.getD]

theorem trimL_any {w : World} {ao : Option Addr} {n cap : Nat} {l : List UInt8} (h : Bs w (.slice ao n cap) l) :
    Calls Tryd.prog 24 #[.slice ao n cap, .string ⟨#[32, 9]⟩] w fun e w' => ∃ v, e = .returned v ∧ Bs w' v (l.dropWhile isWs) ∧ Below w.heap.size w w' := by
  obtain ⟨rfl, h2, h3, h5⟩ := bs_at h
  refine (Tryd.bytes_TrimLeft_ascii (fun w => by kernel_rfl) (by kernel_rfl) ao l.length cap l ⟨#[32, 9]⟩ w rfl h2 h3 ?_ (by decide) ?_).mono ?_
  · intro hp
    exact h5 (List.length_pos_iff.1 hp)
  · intro j b hb
    have hm : b ∈ ([32, 9] : List UInt8) := List.mem_of_getElem? hb
    simp at hm
    rcases hm with rfl | rfl <;> decide
  · rintro e w' ⟨rfl, hbel⟩
    have e1 : Lib.trimLeftS l [32, 9] = l.dropWhile isWs := by
      unfold Lib.trimLeftS
      congr 1
      funext b
      simp [isWs, List.contains, List.elem]
      cases h1 : b == 32 <;> cases h2 : b == 9 <;> rfl
    refine ⟨_, rfl, ?_, hbel⟩
    show Bs w' (Lib.leftV ao l.length cap (l.length - (Lib.trimLeftS l [32, 9]).length)) _
    rw [e1]
    have hle := dropWhile_len isWs l
    by_cases h0 : (l.dropWhile isWs).length = 0
    · have e2 : l.dropWhile isWs = [] := List.eq_nil_of_length_eq_zero h0
      unfold Lib.leftV
      rw [if_pos (by omega), e2]
      exact ⟨none, 0, rfl, Nat.le_refl _, by omega, fun _ => rfl, fun h => absurd rfl h⟩
    · obtain ⟨b, off, rfl, h7⟩ := h5 (by rintro rfl; simp at h0)
      have hb := Bs.rest (h.below hbel) (l.length - (l.dropWhile isWs).length) (by omega)
      unfold Lib.leftV Lib.fromV
      rw [if_neg (by omega), if_neg (by omega), Option.map_some, Lib.addr_add]
      rw [← dropWhile_drop] at hb
      exact hb

theorem hasSuffix_bs {w : World} {ao ao2 : Option Addr} {n cap m cap2 : Nat} {l p : List UInt8} (h1 : Bs w (.slice ao n cap) l) (h2 : Bs w (.slice ao2 m cap2) p) :
    Calls Tryd.prog 21 #[.slice ao n cap, .slice ao2 m cap2] w fun e w' => e = .returned (.bool (p.isSuffixOf l)) ∧ w = w' := by
  obtain ⟨rfl, x1, x2, x4⟩ := bs_at h1
  obtain ⟨rfl, y1, y2, y4⟩ := bs_at h2
  have hin : ∀ (ao : Option Addr) (l : List UInt8), (l ≠ [] → ∃ b off, ao = some ⟨b, off, none⟩ ∧ ∀ k, k < l.length → w.cell? ⟨b, off + k, none⟩ = some (.int .u8 (l.getD k 0).toNat)) → Lib.BytesIn w ao l.length (ints l) := by
    intro ao l h hn
    obtain ⟨b, off, h1, h2⟩ := h (List.length_pos_iff.1 hn)
    refine ⟨b, off, h1, fun i hi => ?_⟩
    rw [h2 i hi]
    simp [ints, hi]
  refine (Tryd.bytes_HasSuffix_all ao ao2 l.length cap p.length cap2 (ints l) (ints p) w (by simp [ints]) (by simp [ints]) x1 (by omega) (hin _ _ x4) (hin _ _ y4)).mono ?_
  rintro e w' ⟨rfl, rfl⟩
  rw [bytesOf_ints, bytesOf_ints]
  exact ⟨rfl, rfl⟩

/-- where a byte first stands, or -1 -/
def idxI (l : List UInt8) (c : UInt8) : Int := if l.findIdx (· == c) < l.length then l.findIdx (· == c) else -1
theorem indexByte_eq (l : List UInt8) (c : UInt8) : Lib.indexByte l c = idxI l c := by
  induction l with
  | nil => rfl
  | cons b r ih =>
    unfold Lib.indexByte
    rw [ih]
    unfold idxI
    by_cases h : b == c
    · rw [if_pos h]; simp [List.findIdx_cons, h]
    · rw [if_neg h]
      have h' : (b == c) = false := by simpa using h
      simp only [List.findIdx_cons, h', cond_false, List.length_cons]
      by_cases h1 : r.findIdx (· == c) < r.length
      · rw [if_pos h1, if_neg (by simp; try omega), if_pos (by omega)]; first | rfl | omega
      · rw [if_neg h1, if_pos (by rfl), if_neg (by omega)]

theorem indexByte_bs {w : World} {b off n cap : Nat} {l : List UInt8} (c : UInt8) (x : Int) (hx : x = c.toNat) (h : Bs w (.slice (some ⟨b, off, none⟩) n cap) l) :
    Calls Tryd.prog 29 #[.slice (some ⟨b, off, none⟩) n cap, .int .u8 x] w fun e w' => e = .returned (.int .i64 (idxI l c)) ∧ w = w' := by
  subst hx
  obtain ⟨rfl, x1, x2, x4⟩ := bs_at h
  refine (Tryd.bytes_IndexByte_at ⟨b, off, none⟩ l.length cap (ints l) c.toNat w (by simp [ints]) ?_).mono ?_
  · intro i hi
    obtain ⟨b', off', e, h7⟩ := x4 (by rintro rfl; simp at hi)
    injection e with e
    injection e with e1 e2
    subst e1; subst e2
    rw [Lib.addr_add, h7 i hi]
    simp [ints, hi]
  · rintro e w' ⟨rfl, rfl⟩
    rw [bytesOf_ints, indexByte_eq]
    refine ⟨?_, rfl⟩
    simp

/-- bufio's Reader in block Bu over the bytes of block Bf -/
def BuAt (w : World) (Bu Bf : Nat) (rdv : Value) (r n : Nat) (ev : Value) : Prop :=
  ∃ lb lr : Int, w.heap[Bu]? = some (.cells #[.slice (some ⟨Bf, 0, none⟩) 4096 4096, rdv, .int .i64 r, .int .i64 n, ev, .int .i64 lb, .int .i64 lr] 71 (0, 0))
theorem BuAt.lt {w : World} {Bu Bf : Nat} {rdv : Value} {r n : Nat} {ev : Value} (h : BuAt w Bu Bf rdv r n ev) : Bu < w.heap.size := by obtain ⟨_, _, h⟩ := h; exact Lib.lt_of_heap h
theorem BuAt.keep {w w' : World} {S : Nat → Prop} {Bu Bf : Nat} {rdv : Value} {r n : Nat} {ev : Value} (h : BuAt w Bu Bf rdv r n ev) (hk : Keep S w w') (hs : ¬ S Bu) : BuAt w' Bu Bf rdv r n ev := by
  obtain ⟨lb, lr, h⟩ := h; exact ⟨lb, lr, (hk.block Bu (Lib.lt_of_heap h) hs).trans h⟩
theorem BuAt.at {w : World} {Bu Bf : Nat} {rdv : Value} {r n : Nat} {ev : Value} (h : BuAt w Bu Bf rdv r n ev) :
    w.cell? ⟨Bu, 0, none⟩ = some (.slice (some ⟨Bf, 0, none⟩) 4096 4096) ∧ w.cell? ⟨Bu, 1, none⟩ = some rdv ∧ w.cell? ⟨Bu, 2, none⟩ = some (.int .i64 r) ∧ w.cell? ⟨Bu, 3, none⟩ = some (.int .i64 n) ∧ w.cell? ⟨Bu, 4, none⟩ = some ev ∧
    (∃ v, w.cell? ⟨Bu, 5, none⟩ = some v) ∧ (∃ v, w.cell? ⟨Bu, 6, none⟩ = some v) ∧ ∀ k, w.frozen? ⟨Bu, k, none⟩ = false := by
  obtain ⟨lb, lr, h⟩ := h
  refine ⟨?_, ?_, ?_, ?_, ?_, ⟨.int .i64 lb, ?_⟩, ⟨.int .i64 lr, ?_⟩, fun k => Lib.frozen_of_heap h k⟩ <;> (rw [Lib.cell_of_heap h]; rfl)
theorem BuAt.setr {w : World} {Bu Bf : Nat} {rdv : Value} {r n : Nat} {ev : Value} (h : BuAt w Bu Bf rdv r n ev) (r' : Nat) : BuAt (w.setCell ⟨Bu, 2, none⟩ (.int .i64 r')) Bu Bf rdv r' n ev := by
  obtain ⟨lb, lr, h⟩ := h; exact ⟨lb, lr, by rw [Lib.heap_setCell_same h]; rfl⟩
theorem BuAt.setn {w : World} {Bu Bf : Nat} {rdv : Value} {r n : Nat} {ev : Value} (h : BuAt w Bu Bf rdv r n ev) (n' : Nat) : BuAt (w.setCell ⟨Bu, 3, none⟩ (.int .i64 n')) Bu Bf rdv r n' ev := by
  obtain ⟨lb, lr, h⟩ := h; exact ⟨lb, lr, by rw [Lib.heap_setCell_same h]; rfl⟩
theorem BuAt.sete {w : World} {Bu Bf : Nat} {rdv : Value} {r n : Nat} {ev : Value} (h : BuAt w Bu Bf rdv r n ev) (e' : Value) : BuAt (w.setCell ⟨Bu, 4, none⟩ e') Bu Bf rdv r n e' := by
  obtain ⟨lb, lr, h⟩ := h; exact ⟨lb, lr, by rw [Lib.heap_setCell_same h]; rfl⟩
theorem BuAt.set5 {w : World} {Bu Bf : Nat} {rdv : Value} {r n : Nat} {ev : Value} (h : BuAt w Bu Bf rdv r n ev) (x : Int) : BuAt (w.setCell ⟨Bu, 5, none⟩ (.int .i64 x)) Bu Bf rdv r n ev := by
  obtain ⟨lb, lr, h⟩ := h; exact ⟨x, lr, by rw [Lib.heap_setCell_same h]; rfl⟩
theorem BuAt.set6 {w : World} {Bu Bf : Nat} {rdv : Value} {r n : Nat} {ev : Value} (h : BuAt w Bu Bf rdv r n ev) (x : Int) : BuAt (w.setCell ⟨Bu, 6, none⟩ (.int .i64 x)) Bu Bf rdv r n ev := by
  obtain ⟨lb, lr, h⟩ := h; exact ⟨lb, x, by rw [Lib.heap_setCell_same h]; rfl⟩

theorem readErr_any {w : World} {Bu Bf : Nat} {rdv : Value} {r n : Nat} {ea : Addr} (h : BuAt w Bu Bf rdv r n (eofv ea)) :
    Calls Tryd.prog 30 #[.pointer (some ⟨Bu, 0, none⟩)] w fun e w' => e = .returned (eofv ea) ∧ w.setCell ⟨Bu, 4, none⟩ .nilIface = w' := by
  obtain ⟨-, -, -, -, c4, -, -, f⟩ := h.at
  have f4 := f 4
  clear f h
  unfold eofv at c4 ⊢
  go_enter Tryd.func30, Tryd.ntmps30
  go_wp2
  go_ret
  exact ⟨rfl, rfl⟩

theorem buffered_any {w : World} {Bu Bf : Nat} {rdv : Value} {r n : Nat} {ev : Value} (h : BuAt w Bu Bf rdv r n ev) (hrn : r ≤ n) (hn : n ≤ 4096) :
    Calls Tryd.prog 31 #[.pointer (some ⟨Bu, 0, none⟩)] w fun e w' => e = .returned (.int .i64 ((n : Int) - r)) ∧ w.drew = w' := by
  obtain ⟨-, -, c2, c3, -, -, -, -⟩ := h.at
  have g1 : (n : Int) ≤ 4096 := by omega
  have g2 : (r : Int) ≤ n := by omega
  clear h hrn hn
  go_enter Tryd.func31, Tryd.ntmps31
  go_wp2
  go_region
  go_wp2
  go_ret
  exact ⟨rfl, rfl⟩

end Go.Proofs.YtcbolmendjocbaaDoor

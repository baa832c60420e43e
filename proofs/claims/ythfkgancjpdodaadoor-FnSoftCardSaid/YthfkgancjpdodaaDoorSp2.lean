/- The walks of soft, SoftBreak, Escaped, Set, Put. -/
import Derived.Test.YthfkgancjpdodaaDoorTr
namespace Go.Proofs.YthfkgancjpdodaaDoor
open Go.RowKit Qp

/-- a new token is returned -/
def TokRet (t : Tok) (w : World) (e : Ending) (w' : World) : Prop :=
  ∃ tv vv, e = .returned (.agg #[.int .i64 t.kind, tv, vv]) ∧ Bs w' tv t.text ∧ Bs w' vv t.value ∧ Below w.heap.size w w' ∧ (∀ g, tv.ownBlock = some g → w.heap.size ≤ g) ∧ ∀ g, vv.ownBlock = some g → w.heap.size ≤ g

theorem soft_at {w : World} : Calls Tryd.prog 49 #[] w fun e w' => e = .returned (.agg #[.int .i64 4, .slice (some ⟨w.heap.size + 1, 0, none⟩) 3 3, .slice none 0 0]) ∧
    w' = (w.alloc (.cells #[.int .i64 4, .slice (some ⟨w.heap.size + 1, 0, none⟩) 3 3, .slice none 0 0] 39)).alloc (.cells #[.int .u8 61, .int .u8 13, .int .u8 10] 5 (3, 4)) := by
  have kc := kconst (w.alloc (.cells #[.int .i64 0, .slice none 0 0, .slice none 0 0] 39)) (w.heap.size + 1) 3 3 4 (World.size_alloc _ _).symm #[.int .u8 61, .int .u8 13, .int .u8 10] rfl rfl
  go_enter Tryd.func49, Tryd.ntmps49
  go_wp2
  exact bodyPost_ret (v := .agg #[.int .i64 4, .slice (some ⟨w.heap.size + 1, 0, none⟩) 3 3, .slice none 0 0]) (by simp [results, Tryd.results49, go_sem]) rfl ⟨rfl, rfl⟩
theorem soft_any {w : World} : Calls Tryd.prog 49 #[] w (TokRet softTok w) := by
  refine soft_at.mono ?_
  rintro e w' ⟨rfl, rfl⟩
  refine ⟨_, _, rfl, ?_, bs_nil _, ((Below.refl _ _).alloc (Nat.le_refl _) _).alloc (by rw [World.size_alloc]; omega) _, fun g hg => ?_, fun g hg => by cases hg⟩
  · have := lit_bs (w.alloc (.cells #[.int .i64 4, .slice (some ⟨w.heap.size + 1, 0, none⟩) 3 3, .slice none 0 0] 39)) [61, 13, 10] (3, 4) 3 rfl (by omega) #[.int .u8 61, .int .u8 13, .int .u8 10] rfl
    rw [World.size_alloc] at this
    exact this
  · injection hg with hg
    have hg : w.heap.size + 1 = g := hg
    omega
theorem SoftBreak_any {w : World} : Calls Tryd.prog 39 #[] w (TokRet softTok w) := by
  go_enter Tryd.func39, Tryd.ntmps39
  go_wp2_with fail
  refine soft_at.mono ?_
  rintro e w' ⟨rfl, rfl⟩
  go_wp2
  refine bodyPost_ret (v := .agg #[.int .i64 4, .slice (some ⟨w.heap.size + 1 + 1, 0, none⟩) 3 3, .slice none 0 0]) (by simp [results, Tryd.results39, go_sem]) rfl ?_
  refine ⟨_, _, rfl, ?_, bs_nil _, (((Below.refl _ _).alloc (Nat.le_refl _) _).alloc (by rw [World.size_alloc]; omega) _).alloc (by rw [World.size_alloc, World.size_alloc]; omega) _, fun g hg => ?_, fun g hg => by cases hg⟩
  · have := lit_bs ((w.alloc (.cells #[.int .i64 4, .slice (some ⟨w.heap.size + 1 + 1, 0, none⟩) 3 3, .slice none 0 0] 39)).alloc (.cells #[.int .i64 4, .slice (some ⟨w.heap.size + 1 + 1, 0, none⟩) 3 3, .slice none 0 0] 39)) [61, 13, 10] (3, 4) 3 rfl (by omega) #[.int .u8 61, .int .u8 13, .int .u8 10] rfl
    rw [World.size_alloc, World.size_alloc] at this
    exact this
  · injection hg with hg
    have hg : w.heap.size + 1 + 1 = g := hg
    omega

/-- the digits of an escape -/
def digTok (s : ByteArray) (b : UInt8) : Tok := ⟨3, [61, s[b.toNat / 16]!, s[b.toNat % 16]!], [b]⟩

theorem esc_one (w : World) (b d1 d2 : UInt8) (C1 C2 : Array Value) (h1 : C1.toList = Lib.byteCells [61, d1, d2]) (h2 : C2.toList = Lib.byteCells [b]) (t : Tok) (ht : t = ⟨3, [61, d1, d2], [b]⟩) (A : Array Value) :
    TokRet t w (.returned (.agg #[.int .i64 3, .slice (some ⟨w.heap.size + 1, 0, none⟩) 3 3, .slice (some ⟨w.heap.size + 1 + 1, 0, none⟩) 1 1])) (((w.alloc (.cells A 39)).alloc (.cells C1 5)).alloc (.cells C2 5)).drew := by
  subst ht
  refine ⟨_, _, rfl, ?_, ?_, Below.drew ((((Below.refl _ _).alloc (Nat.le_refl _) _).alloc (by rw [World.size_alloc]; omega) _).alloc (by rw [World.size_alloc, World.size_alloc]; omega) _), fun g hg => ?_, fun g hg => ?_⟩
  · have := lit_bs (w.alloc (.cells A 39)) [61, d1, d2] (0, 0) 3 rfl (by omega) C1 h1
    rw [World.size_alloc] at this
    exact (this.below ((Below.refl _ _).alloc (Nat.le_refl _) _)).mono fun _ _ h => h
  · have := lit_bs ((w.alloc (.cells A 39)).alloc (.cells C1 5)) [b] (0, 0) 1 rfl (by omega) C2 h2
    rw [World.size_alloc, World.size_alloc] at this
    exact this.mono fun _ _ h => h
  · injection hg with hg
    have hg : w.heap.size + 1 = g := hg
    omega
  · injection hg with hg
    have hg : w.heap.size + 1 + 1 = g := hg
    omega
theorem esc_two (w : World) (b d1 d2 : UInt8) (C1 C2 : Array Value) (h1 : C1.toList = Lib.byteCells [61, d1, d2]) (h2 : C2.toList = Lib.byteCells [b]) (t : Tok) (ht : t = ⟨3, [61, d1, d2], [b]⟩) (A : Array Value) :
    TokRet t w (.returned (.agg #[.int .i64 3, .slice (some ⟨w.heap.size + 1 + 1, 0, none⟩) 3 3, .slice (some ⟨w.heap.size + 1, 0, none⟩) 1 1])) (((w.alloc (.cells A 39)).alloc (.cells C2 5)).alloc (.cells C1 5)).drew := by
  subst ht
  refine ⟨_, _, rfl, ?_, ?_, Below.drew ((((Below.refl _ _).alloc (Nat.le_refl _) _).alloc (by rw [World.size_alloc]; omega) _).alloc (by rw [World.size_alloc, World.size_alloc]; omega) _), fun g hg => ?_, fun g hg => ?_⟩
  · have := lit_bs ((w.alloc (.cells A 39)).alloc (.cells C2 5)) [61, d1, d2] (0, 0) 3 rfl (by omega) C1 h1
    rw [World.size_alloc, World.size_alloc] at this
    exact this.mono fun _ _ h => h
  · have := lit_bs (w.alloc (.cells A 39)) [b] (0, 0) 1 rfl (by omega) C2 h2
    rw [World.size_alloc] at this
    exact (this.below ((Below.refl _ _).alloc (Nat.le_refl _) _)).mono fun _ _ h => h
  · injection hg with hg
    have hg : w.heap.size + 1 + 1 = g := hg
    omega
  · injection hg with hg
    have hg : w.heap.size + 1 = g := hg
    omega

set_option maxRecDepth 100000 in
set_option maxHeartbeats 1600000 in
theorem Escaped_any {w : World} (b : UInt8) (s : ByteArray) (hs : s.size = 16) : Calls Tryd.prog 32 #[.int .u8 b.toNat, .string s] w (TokRet (digTok s b) w) := by
  obtain ⟨hx0, hx1⟩ := byteFacts b
  obtain ⟨x, hx⟩ : ∃ x : Int, x = b.toNat := ⟨_, rfl⟩
  rw [← hx] at hx0 hx1 ⊢
  have h1 : x / 16 < 16 := by omega
  have h2 : x % 16 < 16 := by omega
  have h3 : IntKind.u8.wrap (x / 16) = x / 16 := by rw [IntKind.wrap_u8]; omega
  have h4 : IntKind.u8.wrap (x % 16) = x % 16 := by rw [IntKind.wrap_u8]; omega
  have h5 : 0 ≤ x / 16 := by omega
  have h6 : 0 ≤ x % 16 := by omega
  have h7 : (x / 16).toNat < s.size := by omega
  have h8 : (x % 16).toNat < s.size := by omega
  have ht : digTok s b = ⟨3, [61, s[(x / 16).toNat], s[(x % 16).toNat]], [b]⟩ := by
    have e1 : b.toNat / 16 = (x / 16).toNat := by omega
    have e2 : b.toNat % 16 = (x % 16).toNat := by omega
    unfold digTok
    rw [e1, e2, getElem!_pos s _ h7, getElem!_pos s _ h8]
  have hc2 : (#[.int .u8 x] : Array Value).toList = Lib.byteCells [b] := by rw [hx]; rfl
  have HA := Lib.hid (fun A => esc_one w b s[(x / 16).toNat] s[(x % 16).toNat] #[.int .u8 61, .int .u8 s[(x / 16).toNat].toNat, .int .u8 s[(x % 16).toNat].toNat] #[.int .u8 x] rfl hc2 _ ht A)
  have HB := Lib.hid (fun A => esc_two w b s[(x / 16).toNat] s[(x % 16).toNat] #[.int .u8 61, .int .u8 s[(x / 16).toNat].toNat, .int .u8 s[(x % 16).toNat].toNat] #[.int .u8 x] rfl hc2 _ ht A)
  clear hx ht hc2
  go_enter Tryd.func32, Tryd.ntmps32
  go_wp2
  go_region
  · go_wp2
    exact bodyPost_ret (v := .agg #[.int .i64 3, .slice (some ⟨w.heap.size + 1, 0, none⟩) 3 3, .slice (some ⟨w.heap.size + 1 + 1, 0, none⟩) 1 1]) (by simp [results, Tryd.results32, go_sem]) rfl (HA.out _)
  · go_wp2
    exact bodyPost_ret (v := .agg #[.int .i64 3, .slice (some ⟨w.heap.size + 1 + 1, 0, none⟩) 3 3, .slice (some ⟨w.heap.size + 1, 0, none⟩) 1 1]) (by simp [results, Tryd.results32, go_sem]) rfl (HB.out _)
end Go.Proofs.YthfkgancjpdodaaDoor

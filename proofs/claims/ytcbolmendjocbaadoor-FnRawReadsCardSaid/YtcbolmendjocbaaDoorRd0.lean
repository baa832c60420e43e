/- The Reader's small functions: errors.New, fromHex, readHexByte, isQPDiscardWhitespace. -/
import Derived.Test.YtcbolmendjocbaaDoorBs
import Derived.Test.YtcbolmendjocbaaDoorPlain
namespace Go.Proofs.YtcbolmendjocbaaDoor
open Go.RowKit Qp

/-- an error that errors.New has made: its text lies in block g -/
def errv (g : Nat) : Value := .iface 84 (.pointer (some ⟨g, 0, none⟩))

/-- an error of the package errors, at a -/
def eofv (a : Addr) : Value := .iface 84 (.pointer (some a))
theorem errv_eofv (g : Nat) : errv g = eofv ⟨g, 0, none⟩ := rfl

theorem errnew_any (s : ByteArray) (w : World) : Calls Tryd.prog 25 #[.string s] w fun e w' => e = .returned (errv w.heap.size) ∧ w.alloc (.cells #[.string s] 86) = w' := by
  unfold errv
  go_enter Tryd.func25, Tryd.ntmps25
  go_wp2
  go_ret
  exact ⟨rfl, rfl⟩

theorem hexAny_cases : ∀ b : UInt8, (48 ≤ b.toNat ∧ b.toNat ≤ 57 ∧ hexAny b = some (UInt8.ofNat (b.toNat - 48))) ∨ (65 ≤ b.toNat ∧ b.toNat ≤ 70 ∧ hexAny b = some (UInt8.ofNat (b.toNat - 55))) ∨
    (97 ≤ b.toNat ∧ b.toNat ≤ 102 ∧ hexAny b = some (UInt8.ofNat (b.toNat - 87))) ∨ (hexAny b = none ∧ (b.toNat < 48 ∨ 57 < b.toNat) ∧ (b.toNat < 65 ∨ 70 < b.toNat) ∧ (b.toNat < 97 ∨ 102 < b.toNat)) := u8_all (by decide +kernel)

theorem fromHex_some (b v : UInt8) (h : hexAny b = some v) (w : World) :
    Calls Tryd.prog 39 #[.int .u8 b.toNat] w fun e w' => e = .returned (.tuple #[.int .u8 v.toNat, .nilIface]) ∧ w = w' := by
  have hb := b.toNat_lt
  rcases hexAny_cases b with ⟨h1, h2, h3⟩ | ⟨h1, h2, h3⟩ | ⟨h1, h2, h3⟩ | ⟨h3, _⟩
  · rw [h3] at h
    have hv : (v.toNat : Int) = (b.toNat : Int) - 48 := by have := congrArg UInt8.toNat (Option.some.inj h); simp at this; omega
    rw [hv]
    obtain ⟨n, hn⟩ : ∃ n : Int, n = b.toNat := ⟨_, rfl⟩
    have g1 : 48 ≤ n := by omega
    have g2 : n ≤ 57 := by omega
    rw [← hn]
    clear hn hv h h3 h1 h2 hb
    go_enter Tryd.func39, Tryd.ntmps39
    go_wp2
    go_ret2
    exact ⟨rfl, rfl⟩
  · rw [h3] at h
    have hv : (v.toNat : Int) = (b.toNat : Int) - 65 + 10 := by have := congrArg UInt8.toNat (Option.some.inj h); simp at this; omega
    rw [hv]
    obtain ⟨n, hn⟩ : ∃ n : Int, n = b.toNat := ⟨_, rfl⟩
    have g1 : 65 ≤ n := by omega
    have g2 : n ≤ 70 := by omega
    rw [← hn]
    clear hn hv h h3 h1 h2 hb
    go_enter Tryd.func39, Tryd.ntmps39
    go_wp2
    go_ret2
    exact ⟨rfl, rfl⟩
  · rw [h3] at h
    have hv : (v.toNat : Int) = (b.toNat : Int) - 97 + 10 := by have := congrArg UInt8.toNat (Option.some.inj h); simp at this; omega
    rw [hv]
    obtain ⟨n, hn⟩ : ∃ n : Int, n = b.toNat := ⟨_, rfl⟩
    have g1 : 97 ≤ n := by omega
    have g2 : n ≤ 102 := by omega
    rw [← hn]
    clear hn hv h h3 h1 h2 hb
    go_enter Tryd.func39, Tryd.ntmps39
    go_wp2
    go_ret2
    exact ⟨rfl, rfl⟩
  · rw [h3] at h; cases h

/-- an error is returned; what was there lies as it lay -/
def ErrPost (v : Value) (w : World) (e : Ending) (w' : World) : Prop := (∃ g, w.heap.size ≤ g ∧ (g < w'.heap.size ∧ ∃ s, w'.heap[g]? = some (.cells #[.string s] 86 (0, 0))) ∧ e = .returned (.tuple #[v, errv g])) ∧ Below w.heap.size w w'

/-- the same of an error of which X is known -/
def ErrPostA (X : Addr → World → Prop) (v : Value) (w : World) (e : Ending) (w' : World) : Prop := (∃ a, X a w' ∧ e = .returned (.tuple #[v, eofv a])) ∧ Below w.heap.size w w'
/-- a new error lies at a -/
def NewErr (w : World) (a : Addr) (w' : World) : Prop := w.heap.size ≤ a.block ∧ ∃ s, w'.heap[a.block]? = some (.cells #[.string s] 86 (0, 0))
theorem ErrPost.toA {v : Value} {w w' : World} {e : Ending} (h : ErrPost v w e w') : ErrPostA (NewErr w) v w e w' :=
  let ⟨⟨g, h1, ⟨_, h2⟩, h3⟩, h4⟩ := h
  ⟨⟨⟨g, 0, none⟩, ⟨h1, h2⟩, h3⟩, h4⟩

theorem fromHex_none (b : UInt8) (h : hexAny b = none) (w : World) :
    Calls Tryd.prog 39 #[.int .u8 b.toNat] w (ErrPost (.int .u8 0) w) := by
  have hb := b.toNat_lt
  rcases hexAny_cases b with ⟨h1, h2, h3⟩ | ⟨h1, h2, h3⟩ | ⟨h1, h2, h3⟩ | ⟨h3, h4, h5, h6⟩
  · rw [h3] at h; cases h
  · rw [h3] at h; cases h
  · rw [h3] at h; cases h
  · obtain ⟨n, hn⟩ : ∃ n : Int, n = b.toNat := ⟨_, rfl⟩
    have g0 : 0 ≤ n := by omega
    have g9 : n ≤ 255 := by omega
    rw [← hn]
    have i4 : n < 48 ∨ 57 < n := by omega
    have i5 : n < 65 ∨ 70 < n := by omega
    have i6 : n < 97 ∨ 102 < n := by omega
    clear hn h h3 h4 h5 h6 hb
    have hend : ErrPost (.int .u8 0) w (.returned (.tuple #[.int .u8 0, errv w.heap.size])) (w.alloc (.cells #[.string ⟨#[113, 117, 111, 116, 101, 100, 112, 114, 105, 110, 116, 97, 98, 108, 101, 58, 32, 105, 110, 118, 97, 108, 105, 100, 32, 104, 101, 120, 32, 98, 121, 116, 101]⟩] 86)) :=
      ⟨⟨_, Nat.le_refl _, ⟨by rw [World.size_alloc]; omega, _, heap_alloc_new _ _⟩, rfl⟩, (Below.refl _ _).alloc (Nat.le_refl _) _⟩
    have HE := Lib.hid hend
    clear hend
    rcases i4 with i4 | i4 <;> rcases i5 with i5 | i5 <;> rcases i6 with i6 | i6 <;> first
      | (exfalso; omega)
      | (go_enter Tryd.func39, Tryd.ntmps39
         go_wp2_with (go_at_call 25; refine (errnew_any _ _).mono ?_; rintro e w' ⟨rfl, rfl⟩)
         go_ret2
         exact HE.out)

/-- what readHexByte reckons -/
theorem shl_or (h l : UInt8) (hh : h < 16) (hl : l < 16) : (h <<< 4 ||| l).toNat = h.toNat * 16 + l.toNat := by
  have : ∀ a b : Fin 16, ((UInt8.ofNat a.val <<< 4 ||| UInt8.ofNat b.val) : UInt8).toNat = a.val * 16 + b.val := by decide +kernel
  have hh' : h.toNat < 16 := by simpa [UInt8.lt_iff_toNat_lt] using hh
  have hl' : l.toNat < 16 := by simpa [UInt8.lt_iff_toNat_lt] using hl
  have := this ⟨h.toNat, hh'⟩ ⟨l.toNat, hl'⟩
  simpa using this
theorem hexAny_16 : ∀ x : UInt8, ∀ h, hexAny x = some h → h < 16 := by
  have : ∀ x : UInt8, hexAny x = none ∨ (hexAny x).getD 0 < 16 := u8_all (by decide +kernel)
  intro x h hx
  rcases this x with h1 | h1
  · rw [hx] at h1; cases h1
  · rw [hx] at h1; exact h1

end Go.Proofs.YtcbolmendjocbaaDoor

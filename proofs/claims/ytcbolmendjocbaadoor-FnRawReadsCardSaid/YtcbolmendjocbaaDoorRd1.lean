/- readHexByte, isQPDiscardWhitespace, lastIndexFunc, TrimRightFunc. -/
import Derived.Test.YtcbolmendjocbaaDoorRd0
namespace Go.Proofs.YtcbolmendjocbaaDoor
open Go.RowKit Qp

theorem bits_nib : ∀ a b : Fin 16, bits BinOp.or IntKind.u8 ((a.val : Int) * 16 % 256) (b.val : Int) = ((a.val * 16 + b.val : Nat) : Int) := by decide +kernel
theorem bits_hex (h l : UInt8) (hh : h < 16) (hl : l < 16) : bits BinOp.or IntKind.u8 ((h.toNat : Int) * 16 % 256) (l.toNat : Int) = ((h <<< 4 ||| l).toNat : Int) := by
  rw [shl_or h l hh hl]
  exact bits_nib ⟨h.toNat, by simpa [UInt8.lt_iff_toNat_lt] using hh⟩ ⟨l.toNat, by simpa [UInt8.lt_iff_toNat_lt] using hl⟩

section
variable (x y : UInt8) (b off n cap : Nat) (w : World)

set_option maxRecDepth 100000 in
set_option maxHeartbeats 800000 in
theorem readHex_some (h l : UInt8) (hx : hexAny x = some h) (hy : hexAny y = some l) (hn : 2 ≤ n)
    (c0 : w.cell? ⟨b, off, none⟩ = some (.int .u8 x.toNat)) (c1 : w.cell? ⟨b, off + 1, none⟩ = some (.int .u8 y.toNat)) :
    Calls Tryd.prog 26 #[.slice (some ⟨b, off, none⟩) n cap] w fun e w' => e = .returned (.tuple #[.int .u8 (h <<< 4 ||| l).toNat, .nilIface]) ∧ w = w' := by
  have H1 := Lib.hid (fromHex_some x h hx)
  have H2 := Lib.hid (fromHex_some y l hy)
  have HB := Lib.hid (bits_hex h l (hexAny_16 x h hx) (hexAny_16 y l hy))
  obtain ⟨v, hv⟩ : ∃ v : Int, v = (h <<< 4 ||| l).toNat := ⟨_, rfl⟩
  rw [← hv] at HB ⊢
  clear hx hy hv
  go_enter Tryd.func26, Tryd.ntmps26
  go_wp2_with fail
  refine (H1.out _).mono ?_
  rintro e w' ⟨rfl, rfl⟩
  go_wp2_with fail
  refine (H2.out _).mono ?_
  rintro e w' ⟨rfl, rfl⟩
  go_wp2
  go_ret2
  refine ⟨?_, rfl⟩
  show Ending.returned (.tuple #[.int .u8 (bits BinOp.or IntKind.u8 ((h.toNat : Int) * 16 % 256) (l.toNat : Int)), .nilIface]) = _
  rw [HB.out]

set_option maxRecDepth 100000 in
set_option maxHeartbeats 800000 in
theorem readHex_none1 (hx : hexAny x = none) (hn : 2 ≤ n) (c0 : w.cell? ⟨b, off, none⟩ = some (.int .u8 x.toNat)) :
    Calls Tryd.prog 26 #[.slice (some ⟨b, off, none⟩) n cap] w (ErrPost (.int .u8 0) w) := by
  have H1 := Lib.hid (fromHex_none x hx w)
  clear hx
  go_enter Tryd.func26, Tryd.ntmps26
  go_wp2_with fail
  refine H1.out.mono ?_
  rintro e w' ⟨⟨g, hg1, hg2, rfl⟩, hbel⟩
  have hend : ErrPost (.int .u8 0) w (.returned (.tuple #[.int .u8 0, errv g])) w' := ⟨⟨g, hg1, hg2, rfl⟩, hbel⟩
  have HE := Lib.hid hend
  clear hend hbel hg1 hg2
  unfold errv at HE ⊢
  go_wp2
  go_ret2
  exact HE.out

set_option maxRecDepth 100000 in
set_option maxHeartbeats 800000 in
theorem readHex_none2 (h : UInt8) (hx : hexAny x = some h) (hy : hexAny y = none) (hn : 2 ≤ n)
    (c0 : w.cell? ⟨b, off, none⟩ = some (.int .u8 x.toNat)) (c1 : w.cell? ⟨b, off + 1, none⟩ = some (.int .u8 y.toNat)) :
    Calls Tryd.prog 26 #[.slice (some ⟨b, off, none⟩) n cap] w (ErrPost (.int .u8 0) w) := by
  have H1 := Lib.hid (fromHex_some x h hx)
  have H2 := Lib.hid (fromHex_none y hy w)
  clear hx hy
  go_enter Tryd.func26, Tryd.ntmps26
  go_wp2_with fail
  refine (H1.out _).mono ?_
  rintro e w' ⟨rfl, rfl⟩
  go_wp2_with fail
  refine H2.out.mono ?_
  rintro e w' ⟨⟨g, hg1, hg2, rfl⟩, hbel⟩
  have hend : ErrPost (.int .u8 0) w (.returned (.tuple #[.int .u8 0, errv g])) w' := ⟨⟨g, hg1, hg2, rfl⟩, hbel⟩
  have HE := Lib.hid hend
  clear hend hbel hg1 hg2
  unfold errv at HE ⊢
  go_wp2
  go_ret2
  exact HE.out
end

/-- fewer than two bytes: io.ErrUnexpectedEOF -/
theorem readHex_short {w : World} {ao : Option Addr} {n cap : Nat} {ua : Addr} (hn : n < 2) (hU : w.cell? ⟨2, 0, none⟩ = some (eofv ua)) :
    Calls Tryd.prog 26 #[.slice ao n cap] w fun e w' => e = .returned (.tuple #[.int .u8 0, eofv ua]) ∧ Below w.heap.size w w' := by
  unfold eofv at hU ⊢
  have hn2 : (n : Int) < 2 := by omega
  go_enter Tryd.func26, Tryd.ntmps26
  go_wp2
  go_quiet (fail)
  go_wp2
  go_ret2
  exact ⟨rfl, rfl, rfl, rfl, Nat.le_refl _, fun _ _ => rfl⟩

theorem isSp_int : ∀ b : UInt8, isSp b = ((b.toNat : Int) == 10 || (b.toNat : Int) == 13 || (b.toNat : Int) == 32 || (b.toNat : Int) == 9) := u8_all (by decide +kernel)
theorem isQP_any (b : UInt8) (w : World) : Calls Tryd.prog 23 #[.int .i32 b.toNat] w fun e w' => e = .returned (.bool (isSp b)) ∧ w = w' := by
  rw [isSp_int]
  obtain ⟨n, hn⟩ : ∃ n : Int, n = b.toNat := ⟨_, rfl⟩
  rw [← hn]
  clear hn
  by_cases h1 : n = 10
  · subst h1
    go_enter Tryd.func23, Tryd.ntmps23
    go_wp2
    go_ret
    exact ⟨rfl, rfl⟩
  by_cases h2 : n = 13
  · subst h2
    go_enter Tryd.func23, Tryd.ntmps23
    go_wp2
    go_ret
    exact ⟨rfl, rfl⟩
  by_cases h3 : n = 32
  · subst h3
    go_enter Tryd.func23, Tryd.ntmps23
    go_wp2
    go_ret
    exact ⟨rfl, rfl⟩
  by_cases h4 : n = 9
  · subst h4
    go_enter Tryd.func23, Tryd.ntmps23
    go_wp2
    go_ret
    exact ⟨rfl, rfl⟩
  have e : (n == 10 || n == 13 || n == 32 || n == 9) = false := by simp [h1, h2, h3, h4]
  rw [e]
  have j1 : (n == 10) = false := by simpa using h1
  have j2 : (n == 13) = false := by simpa using h2
  have j3 : (n == 32) = false := by simpa using h3
  have j4 : (n == 9) = false := by simpa using h4
  clear e
  go_enter Tryd.func23, Tryd.ntmps23
  go_wp2
  go_ret
  exact ⟨rfl, rfl⟩

end Go.Proofs.YtcbolmendjocbaaDoor

/- The walks of (*bytes.Reader).Read . -/
import Derived.Test.YtcbolmendjocbaaDoorRd3
namespace Go.Proofs.YtcbolmendjocbaaDoor
open Go.RowKit Qp

set_option maxRecDepth 100000 in
set_option maxHeartbeats 1600000 in
theorem bread_end {w : World} {ea : Addr} {s D Bf off m mc : Nat} {buf d : List UInt8} (hE : EofAt w ea) (h : SrcAt false w s D d) (hd : d = []) :
    Calls Tryd.prog 63 #[.pointer (some ⟨s, 0, none⟩), .slice (some ⟨Bf, off, none⟩) m mc] w (SrcPost false ea s D Bf off m buf d w) := by
  have h0 := h
  obtain ⟨v, all, i, prev, hb, hv, hD, hi, e⟩ := h
  have hia : i = all.length := by
    have := congrArg List.length e
    rw [hd] at this; simp at this; omega
  have hend : ∀ w', Keep (fun _ => False) w w' → SrcPost false ea s D Bf off m buf d w (.returned (.tuple #[.int .i64 0, eofv ea])) w' :=
    fun w' hk => .inl ⟨hd, rfl, by rw [← hd]; exact h0.keep hk id id, hk⟩
  obtain ⟨c0, c1, -⟩ := cells3 hb
  obtain ⟨ao, cap, rfl, h2, h3, -⟩ := hv
  unfold EofAt at hE
  have HE := Lib.hid hend
  rw [hia] at c1
  obtain ⟨n, hn⟩ : ∃ n, n = all.length := ⟨_, rfl⟩
  rw [← hn] at c0 c1 h2
  clear hend h0 hb hD hi e hia hn hd
  unfold eofv at hE HE
  go_enter Tryd.func63, Tryd.ntmps63
  go_wp2
  go_region
  go_wp2
  go_region
  go_wp2
  go_ret2
  exact HE.out _ (Keep.refl _ w).drew.drew

set_option maxRecDepth 100000 in
set_option maxHeartbeats 1600000 in
theorem bread_more {w : World} {ea : Addr} {s D Bf off m mc : Nat} {buf d : List UInt8} (h : SrcAt false w s D d) (hd : d ≠ []) (hbf : RowB w Bf buf) (hm : 1 ≤ m) (hfit : off + m ≤ buf.length) (hmc : m ≤ mc) (hmm : mc ≤ 9223372036854775807)
    (n1 : Bf ≠ s) (n2 : Bf ≠ D) (n3 : s ≠ D) :
    Calls Tryd.prog 63 #[.pointer (some ⟨s, 0, none⟩), .slice (some ⟨Bf, off, none⟩) m mc] w (SrcPost false ea s D Bf off m buf d w) := by
  obtain ⟨v, all, i, prev, hb, hv, hD, hi, e⟩ := h
  have hil : i < all.length := by
    rcases Nat.lt_or_ge i all.length with h | h
    · exact h
    · exact absurd (by rw [e, List.drop_eq_nil_of_le h]) hd
  have hdl : d.length = all.length - i := by rw [e]; simp
  obtain ⟨k, hk⟩ : ∃ k, k = Nat.min (all.length - i) m := ⟨_, rfl⟩
  have hk1 : 1 ≤ k ∧ k ≤ m ∧ k ≤ all.length - i := by
    have h : k = min (all.length - i) m := hk
    omega
  obtain ⟨c0, c1, c2, f0, f1, f2⟩ := cells3 hb
  have hsrc : ∀ (ao : Option Addr) (cap : Nat), v = .slice ao all.length cap → ∃ o, ao = some ⟨D, o, none⟩ ∧ ∀ j u, (Lib.byteCells (d.take k))[j]? = some u → w.cell? ((⟨D, o + i, none⟩ : Addr).add j) = some u := by
    intro ao cap hvv
    obtain ⟨ao', cap', e', h2, h3, h4, h5⟩ := hv
    rw [hvv] at e'
    injection e' with e1 e2 e3
    subst e1
    obtain ⟨b, o, h6, h7⟩ := h5 (by rintro rfl; simp at hil)
    subst h6
    rw [hvv] at hD
    injection hD with hD
    subst hD
    refine ⟨o, rfl, fun j u hj => ?_⟩
    have hj' : j < k := by
      have := (List.getElem?_eq_some_iff.1 hj).1
      simp [Lib.byteCells] at this; omega
    rw [Lib.addr_add]
    show w.cell? ⟨b, o + i + j, none⟩ = _
    rw [Nat.add_assoc, h7 (i + j) (by omega), ← hj, e]
    simp [Lib.byteCells, hj', show i + j < all.length by omega]
  have hv0 := hv
  obtain ⟨ao, cap, hvv, h2, h3, -⟩ := hv
  obtain ⟨o, rfl, hsrc2⟩ := hsrc ao cap hvv
  clear hsrc
  -- the end
  have hend : ∀ (w' : World), RowB w' Bf (splice buf off (d.take k)) → Keep (fun b => b = s ∨ b = Bf) w w' → w'.heap[s]? = some (.cells #[v, .int .i64 (i + k : Nat), .int .i64 (-1)] 59 (0, 0)) →
      SrcPost false ea s D Bf off m buf d w (.returned (.tuple #[.int .i64 k, .nilIface])) w' := by
    intro w' q1 q2 q3
    refine .inr ⟨k, hd, hk1.1, hk1.2.1, by omega, rfl, q1, ⟨v, all, i + k, -1, q3, hv0.keepS q2 ?_, hD, by omega, ?_⟩, q2⟩
    · intro g hg
      rw [hD] at hg
      injection hg with hg
      subst hg
      rintro (h | h)
      · exact n3 h.symm
      · exact n2 h.symm
    · rw [e, List.drop_drop]
  subst hvv
  have hbf' : RowB (w.setCell ⟨s, 2, none⟩ (.int .i64 (-1))) Bf buf := (Below.heap_setCell _ _ _ _ n1).trans hbf
  have hs' : (w.setCell ⟨s, 2, none⟩ (.int .i64 (-1))).heap[s]? = some (.cells #[.slice (some ⟨D, o, none⟩) all.length cap, .int .i64 (i : Nat), .int .i64 (-1)] 59 (0, 0)) := by
    rw [Lib.heap_setCell_same hb]; rfl
  have HS := Lib.hid hs'
  have HBF := Lib.hid hbf'
  have hk0s : Keep (fun b => b = s) w (w.setCell ⟨s, 2, none⟩ (.int .i64 (-1))) := (Keep.refl (fun b => b = s) w).setCell _ rfl _
  have HSRC := Lib.hid (fun j u (h : (Lib.byteCells (d.take k))[j]? = some u) => hk0s.cell (p := (⟨D, o + i, none⟩ : Addr).add j) (by rw [Lib.addr_add]; exact fun e => n3 e.symm) (hsrc2 j u h))
  have HK0 := Lib.hid hk0s
  have HE := Lib.hid hend
  have HK := Lib.hid hk
  have hcsl : (Lib.byteCells (d.take k)).length = k := by simp [Lib.byteCells]; omega
  have HCSL := Lib.hid hcsl
  have hone : ∀ v ∈ Lib.byteCells (d.take k), v.oneCell' = true := Lib.byteCells_one _
  obtain ⟨n, hn⟩ : ∃ n, n = all.length := ⟨_, rfl⟩
  rw [← hn] at c0 h2 hil HS HK
  have hci : ¬ cap = i := by omega
  obtain ⟨cs, hcs⟩ : ∃ cs, cs = Lib.byteCells (d.take k) := ⟨_, rfl⟩
  have HCS := Lib.hid hcs
  rw [← hcs] at HSRC HCSL hone
  have hki : k ≤ n := by omega
  have hkm : k ≤ m := by omega
  have hin : i ≤ n := by omega
  have hk0 : 1 ≤ k := hk1.1
  have HNE := Lib.hid n1
  have HNL := Lib.hid hn
  have hik : (i : Int) + k ≤ 9223372036854775807 := by omega
  clear hend hs' hbf' hsrc2 hk0s hcsl hn hb hv0 hD hi e hd hdl hk hcs hk1 n1 n2 n3
  go_enter Tryd.func63, Tryd.ntmps63
  go_wp2
  go_region
  go_wp2
  go_region_law (refine step_copy_row rfl (.tmp 20) (.tmp 29) 22 22 rfl 5 Tryd.underlying22 info5b Bf off m mc ⟨D, o + i, none⟩ (n - i) (cap - i) rfl rfl (Lib.byteCells buf) 5 HBF.out cs k HCSL.out HK.out HSRC.out (by simpa [Lib.byteCells] using by omega) hone ?_; intro w4 hg4 hk4 hs4)
  all_goals (
    have q3 := (hk4.block s (by have := Lib.lt_of_heap HS.out; simpa using this) (fun e => HNE.out e.symm)).trans HS.out
    have q2 : Keep (fun b => b = s ∨ b = Bf) w (w4.setCell ⟨s, 1, none⟩ (.int .i64 (i + k))) := by
      refine Keep.setCell ?_ _ (.inl rfl) _
      exact (HK0.out.drew.drew.mono (fun _ _ e => .inl e)).trans (T := fun b => b = Bf) hk4 (fun _ _ e => .inr e)
    have q1 : RowB (w4.setCell ⟨s, 1, none⟩ (.int .i64 (i + k))) Bf (splice buf off (d.take k)) := by
      refine (Below.heap_setCell _ _ _ _ HNE.out).trans ?_
      rw [hg4, HCS.out, byteCells_splice]
    obtain ⟨-, c1', -, -, f1', -⟩ := cells3 q3
    have HEND := Lib.hid (HE.out _ q1 q2 (by rw [Lib.heap_setCell_same q3, HNL.out]; simp))
    clear q1 q2 q3 hg4 hk4 hs4
    go_wp2
    go_ret2
    exact HEND.out)

end Go.Proofs.YtcbolmendjocbaaDoor

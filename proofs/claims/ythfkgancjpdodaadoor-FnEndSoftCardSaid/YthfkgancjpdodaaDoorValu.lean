/- The walks of Value and Kept. -/
import Derived.Test.YthfkgancjpdodaaDoorVal
namespace Go.Proofs.YthfkgancjpdodaaDoor
open Go.RowKit Qp

set_option maxRecDepth 100000 in
set_option maxHeartbeats 1600000 in
theorem Value_anyL {w : World} {v : Value} {l : List Tok} (h : Ts w v l) (hl : ∀ t ∈ l, lenTok t) (hlim : l.length ≤ 1099511627776) :
    Calls Tryd.prog 28 #[v] w fun e w' => ∃ v', e = .returned v' ∧ Bs w' v' (value l) ∧ Below w.heap.size w w' := by
  have HV := Lib.hid (value_any h hl hlim)
  obtain ⟨hv1, hv2⟩ : (valueGo l).2 ≤ (valueGo l).1.length ∧ (valueGo l).1.length ≤ 2 * l.length := by
    have := valueGo_len l hl l.length (Nat.le_refl _)
    rw [List.take_length] at this
    exact this
  have hval : value l = (valueGo l).1.take ((valueGo l).1.length - (valueGo l).2) := rfl
  obtain ⟨ao, cap, rfl, -, -, -⟩ := h.at
  obtain ⟨acc, hacc⟩ : ∃ acc, acc = (valueGo l).1 := ⟨_, rfl⟩
  obtain ⟨n, hn⟩ : ∃ n, n = (valueGo l).2 := ⟨_, rfl⟩
  rw [← hacc, ← hn] at HV hv1 hval
  rw [← hacc] at hv2
  clear hacc hn h hl
  go_enter Tryd.func28, Tryd.ntmps28
  go_wp2_with fail
  refine HV.out.mono ?_
  rintro e w1 ⟨v1, rfl, hown, hb⟩
  have HB := Lib.hid hb
  have HVAL := Lib.hid hval
  obtain ⟨al, hal⟩ : ∃ al, al = acc.length := ⟨_, rfl⟩
  rw [← hal] at hv1 hv2
  have HAL := Lib.hid hal
  rcases own_form hown with ⟨rfl, h0⟩ | ⟨g, cap0, rfl, hc1, hc2⟩
  · have ha : acc = [] := List.eq_nil_of_length_eq_zero h0
    subst ha
    have hal0 : al = 0 := hal
    have hn0 : n = 0 := by omega
    subst hn0; subst hal0
    clear hb hval hown hal
    go_wp2
    go_ret
    exact ⟨_, rfl, by rw [HVAL.out]; exact ⟨none, 0, rfl, Nat.le_refl _, by omega, fun _ => rfl, fun h => absurd rfl h⟩, HB.out⟩
  · have HO := Lib.hid (Bs.of_own (own_cut (al - n) (by omega) hown))
    rw [← hal] at hc1 ⊢
    clear hb hval hown hal
    go_wp2
    go_ret
    exact ⟨_, rfl, by rw [HVAL.out, ← HAL.out]; exact HO.out, HB.out⟩

theorem okTok.lens {l : List Tok} (hl : ∀ t ∈ l, okTok t) : ∀ t ∈ l, lenTok t := fun t ht => okTok.value_len (hl t ht)
theorem Value_any {w : World} {v : Value} {l : List Tok} (h : Ts w v l) (hl : ∀ t ∈ l, okTok t) (hlim : l.length ≤ 1099511627776) :
    Calls Tryd.prog 28 #[v] w fun e w' => ∃ v', e = .returned v' ∧ Bs w' v' (value l) ∧ Below w.heap.size w w' := Value_anyL h (okTok.lens hl) hlim

theorem Ts.shape {w : World} {v : Value} {l : List Tok} (h : Ts w v l) : ∃ ao cap, v = .slice ao l.length cap := by
  obtain ⟨ao, cap, h, _⟩ := h.at; exact ⟨ao, cap, h⟩

theorem tokens_len {src : B} {l : List Tok} (h : tokens src = some l) : l.length ≤ src.length := by
  obtain ⟨h1, h2, -⟩ := tokens_some h
  rw [← h2]
  clear h h2
  induction l with
  | nil => simp
  | cons t r ih =>
    have := (h1 t (List.mem_cons_self ..)).text_pos
    have := ih (fun x hx => h1 x (List.mem_cons_of_mem _ hx))
    rw [textOf_cons, List.length_append, List.length_cons]
    omega

end Go.Proofs.YthfkgancjpdodaaDoor

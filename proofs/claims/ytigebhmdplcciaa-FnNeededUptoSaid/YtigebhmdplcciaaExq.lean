/- The walk of Value, and Tokens of what Encode returns. -/
import Derived.Test.YtigebhmdplcciaaVal
import Derived.Test.YtigebhmdplcciaaEnc2
namespace Go.Proofs.Ytigebhmdplcciaa
open Go.RowKit Qp

set_option maxHeartbeats 1600000 in
theorem Value_any {w : World} {v : Value} {l : List Tok} (h : Ts w v l) (hl : ∀ t ∈ l, okTok t) (hlim : l.length ≤ 1099511627776) :
    Calls Try.prog 16 #[v] w fun e w' => ∃ v', e = .returned v' ∧ Bs w' v' (value l) ∧ Below w.heap.size w w' := by
  have HV := Lib.hid (value_any h hl hlim)
  obtain ⟨hv1, hv2⟩ : (valueGo l).2 ≤ (valueGo l).1.length ∧ (valueGo l).1.length ≤ 2 * l.length := by
    have := valueGo_len l hl l.length (Nat.le_refl _)
    rw [List.take_length] at this
    exact this
  have hval : value l = (valueGo l).1.take ((valueGo l).1.length - (valueGo l).2) := rfl
  obtain ⟨ao, cap, rfl, -, -, -⟩ := h.at
  obtain ⟨acc, hacc⟩ : ∃ acc, acc = (valueGo l).1 := ⟨_, rfl⟩
  obtain ⟨n, hn⟩ : ∃ n, n = (valueGo l).2 := ⟨_, rfl⟩
  rw [← hacc, ← hn] at HV hv1 hval
  rw [← hacc] at hv2
  clear hacc hn h hl
  go_enter Try.func16, Try.ntmps16
  go_wp2_with fail
  refine HV.out.mono ?_
  rintro e w1 ⟨v1, rfl, hown, hb⟩
  have HB := Lib.hid hb
  have HVAL := Lib.hid hval
  obtain ⟨al, hal⟩ : ∃ al, al = acc.length := ⟨_, rfl⟩
  rw [← hal] at hv1 hv2
  have HAL := Lib.hid hal
  rcases own_form hown with ⟨rfl, h0⟩ | ⟨g, cap0, rfl, hc1, hc2⟩
  · have ha : acc = [] := List.eq_nil_of_length_eq_zero h0
    subst ha
    have hal0 : al = 0 := hal
    have hn0 : n = 0 := by omega
    subst hn0; subst hal0
    clear hb hval hown hal
    go_wp2
    go_ret
    exact ⟨_, rfl, by rw [HVAL.out]; exact ⟨none, 0, rfl, Nat.le_refl _, by omega, fun _ => rfl, fun h => absurd rfl h⟩, HB.out⟩
  · have HO := Lib.hid (Bs.of_own (own_cut (al - n) (by omega) hown))
    rw [← hal] at hc1 ⊢
    clear hb hval hown hal
    go_wp2
    go_ret
    exact ⟨_, rfl, by rw [HVAL.out, ← HAL.out]; exact HO.out, HB.out⟩

theorem encode_len (bin : Bool) (data : B) : (encode bin data).length ≤ 200 * data.length + 300 := by
  have h := fold_len (f := WS.step bin) (step_len bin) data WS.init (by simp [WS.init])
  have h0 : WS.init.out.length = 0 := rfl
  have h2 := last_len' _ h.1
  unfold encode WS.fin
  simp only [List.length_append]
  omega

theorem wtoks_len (bin : Bool) (data : B) : (wtoks bin data).length ≤ (encode bin data).length := by
  rw [encode_eq]
  have hok := (tokensGo_some _ _ _ _ (Nat.le_refl _) (encode_tokens bin data)).1
  generalize wtoks bin data = l at hok
  induction l with
  | nil => simp
  | cons t r ih =>
    have h1 := (hok t (List.mem_cons_self ..)).text_pos
    have h2 := ih (fun x hx => hok x (List.mem_cons_of_mem _ hx))
    rw [textOf_cons, List.length_append, List.length_cons]
    omega
theorem wtoks_ok (bin : Bool) (data : B) : ∀ t ∈ wtoks bin data, okTok t := (tokensGo_some _ _ _ _ (Nat.le_refl _) (encode_tokens bin data)).1

theorem Ts.shape {w : World} {v : Value} {l : List Tok} (h : Ts w v l) : ∃ ao cap, v = .slice ao l.length cap := by
  obtain ⟨ao, cap, h, _⟩ := h.at; exact ⟨ao, cap, h⟩

/-- Tokens, of what Encode returned -/
theorem Tokens_enc {w : World} {v : Value} (bin : Bool) {fl : B} (h : Bs w v (encode bin fl)) (hlim : fl.length ≤ 1048576) :
    Calls Try.prog 13 #[v] w fun e w' => ∃ v', e = .returned (.tuple #[v', .bool true]) ∧ Ts w' v' (wtoks bin fl) ∧ Below w.heap.size w w' := by
  have hle := encode_len bin fl
  refine (Tokens_any h (by omega)).mono ?_
  rintro e w' ⟨hb, hm⟩
  rw [encode_tokens] at hm
  obtain ⟨v', rfl, h'⟩ := hm
  exact ⟨v', rfl, h', hb⟩
theorem wtoks_lim (bin : Bool) {fl : B} (hlim : fl.length ≤ 1048576) : (wtoks bin fl).length ≤ 1099511627776 := by
  have h1 := wtoks_len bin fl
  have h2 := encode_len bin fl
  omega

end Go.Proofs.Ytigebhmdplcciaa

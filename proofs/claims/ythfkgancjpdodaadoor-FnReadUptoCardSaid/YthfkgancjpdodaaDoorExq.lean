/- The walk of Value, and Tokens of what Encode returns. -/
import Derived.Test.YthfkgancjpdodaaDoorBlank
import Derived.Test.YthfkgancjpdodaaDoorEnc
namespace Go.Proofs.YthfkgancjpdodaaDoor
open Go.RowKit Qp

theorem encode_len (bin : Bool) (data : B) : (encode bin data).length ≤ 200 * data.length + 300 := by
  have h := fold_len (f := WS.step bin) (step_len bin) data WS.init (by simp [WS.init])
  have h0 : WS.init.out.length = 0 := rfl
  have h2 := last_len' _ h.1
  unfold encode WS.fin
  simp only [List.length_append]
  omega

theorem wtoks_len (bin : Bool) (data : B) : (wtoks bin data).length ≤ (encode bin data).length := by
  rw [encode_eq]
  have hok := (tokensGo_some _ _ _ _ (Nat.le_refl _) (encode_tokens bin data)).1
  generalize wtoks bin data = l at hok
  induction l with
  | nil => simp
  | cons t r ih =>
    have h1 := (hok t (List.mem_cons_self ..)).text_pos
    have h2 := ih (fun x hx => hok x (List.mem_cons_of_mem _ hx))
    rw [textOf_cons, List.length_append, List.length_cons]
    omega
theorem wtoks_ok (bin : Bool) (data : B) : ∀ t ∈ wtoks bin data, okTok t := (tokensGo_some _ _ _ _ (Nat.le_refl _) (encode_tokens bin data)).1



/-- Tokens, of what Encode returned -/
theorem Tokens_enc {w : World} {v : Value} (bin : Bool) {fl : B} (h : Bs w v (encode bin fl)) (hlim : fl.length ≤ 1048576) :
    Calls Tryd.prog 26 #[v] w fun e w' => ∃ v', e = .returned (.tuple #[v', .bool true]) ∧ Ts w' v' (wtoks bin fl) ∧ Below w.heap.size w w' := by
  have hle := encode_len bin fl
  refine (Tokens_any h (by omega)).mono ?_
  rintro e w' ⟨hb, hm⟩
  rw [encode_tokens] at hm
  obtain ⟨v', rfl, h'⟩ := hm
  exact ⟨v', rfl, h', hb⟩
theorem wtoks_lim (bin : Bool) {fl : B} (hlim : fl.length ≤ 1048576) : (wtoks bin fl).length ≤ 1099511627776 := by
  have h1 := wtoks_len bin fl
  have h2 := encode_len bin fl
  omega

end Go.Proofs.YthfkgancjpdodaaDoor

/- Steps through a region that draws its order, over an act of which some slots are known. -/
import Derived.RegionTactic
import Derived.Great.Frames
namespace Go.Proofs.YtcbolmendjocbaaDoor
open Go

section
variable {P : Program} {ops : Array Oper} {Q : Exit → Act → World → Prop} {md : Region.Mode}

/-- a post that lets no panic by -/
def np (Q : Exit → Act → World → Prop) : Exit → Act → World → Prop
  | .panic _, _, _ => False
  | e, a, w => Q e a w
theorem wp_np {c : Code} {K : Act → World → Prop} {a : Act} {w : World} (h : c.wp P (Exit.then K (np Q)) a w) : c.wp P (Exit.then K Q) a w :=
  Code.wp_mono (fun e a w h => by cases e <;> first | exact h | exact h.elim) h

theorem want_none {o : Oper} {a : Act} (h : o.guard = none) : Region.wanted o (yielded ops a.tmps) = true := by simp [Region.wanted, h]
theorem want_at {o : Oper} {a : Act} {g : Nat} {want : Bool} {d : Tmp} {b c : Bool} (hg : o.guard = some (g, want)) (hd : (ops[g]?).bind (·.dst) = some d) (hs : d < a.tmps.size) (hb : a.eval (.tmp d) = .bool b) (hc : (b == want) = c) :
    Region.wanted o (yielded ops a.tmps) = c := by
  have ht : a.tmps[d]? = some (.bool b) := by
    rw [Array.getElem?_eq_getElem hs]
    simpa [Act.eval, hs] using hb
  subst hc
  unfold Region.wanted yielded
  rw [hg]
  simp only [hd, Option.bind_some, ht]
  cases b <;> cases want <;> rfl

theorem want_undef {o : Oper} {a : Act} {g : Nat} {want : Bool} {d : Tmp} (hg : o.guard = some (g, want)) (hd : (ops[g]?).bind (·.dst) = some d) (hs : d < a.tmps.size) (hb : a.eval (.tmp d) = undef) :
    Region.wanted o (yielded ops a.tmps) = false := by
  have ht : a.tmps[d]? = some undef := by
    rw [Array.getElem?_eq_getElem hs]
    simpa [Act.eval, hs] using hb
  unfold Region.wanted yielded
  rw [hg]
  simp only [hd, Option.bind_some, ht]
  rfl

variable {i fuel : Nat} {oi : Oper} {listed : Array Bool} {a : Act} {w : World}
/-- an operation whose guard is false, ahead of all others -/
theorem any_skip (hi : ops[i]? = some oi) (hs : Region.noSelect ops = true) (hf : Region.free md ops listed i = true) (hr : (Region.ready md ops listed).contains i = true) (hQ : ∀ c a a' w, Q (.panic c) a w → Q (.panic c) a' w)
    (hw : Region.wanted oi (yielded ops a.tmps) = false) (h : wpAny P md ops Q fuel (listed.setIfInBounds i true) (a.put oi.dst undef) w) : wpAny P md ops Q (fuel + 1) listed a w :=
  wpAny_take hi hs hf hr (fun c a w => hQ c _ a w) (.inr ⟨hw, rfl⟩) h
/-- an operation that looks at no world, ahead of all others -/
theorem any_val {v : Value} (hi : ops[i]? = some oi) (hs : Region.noSelect ops = true) (hf : Region.free md ops listed i = true) (hr : (Region.ready md ops listed).contains i = true) (hQ : ∀ c a a' w, Q (.panic c) a w → Q (.panic c) a' w)
    (hw : Region.wanted oi (yielded ops a.tmps) = true) (hv : ∀ w, (execOp a.eval oi).run P w = .ok (.value v) w) (h : wpAny P md ops Q fuel (listed.setIfInBounds i true) (a.put oi.dst v) w) : wpAny P md ops Q (fuel + 1) listed a w :=
  wpAny_take hi hs hf hr (fun c a w => hQ c _ a w) (.inl ⟨hw, hv⟩) h
/-- an operation that comes up alone -/
theorem any_one (hr : Region.ready md ops listed = [i]) (hi : ops[i]? = some oi) (hw : Region.wanted oi (yielded ops a.tmps) = true)
    (h : ∀ K : Act → World → Prop, (∀ a w, wpAny P md ops Q fuel (listed.setIfInBounds i true) a w → K a w) → oi.wp P a w K Q) : wpAny P md ops Q (fuel + 1) listed a w :=
  wpAny_ready hr (by simp) (AllReady.cons hi (fun K hK => by rw [if_pos hw]; exact h K hK) AllReady.nil)
theorem any_run {v : Value} {w' : World} (hr : Region.ready md ops listed = [i]) (hi : ops[i]? = some oi) (hw : Region.wanted oi (yielded ops a.tmps) = true)
    (hv : (execOp a.eval oi).run P w = .ok (.value v) w') (h : wpAny P md ops Q fuel (listed.setIfInBounds i true) (a.put oi.dst v) w') : wpAny P md ops Q (fuel + 1) listed a w :=
  any_one hr hi hw fun K hK => by unfold Oper.wp; rw [hv]; exact hK _ _ h
theorem any_call {f : FuncId} {args : Array Value} {φ : Ending → World → Prop} (hr : Region.ready md ops listed = [i]) (hi : ops[i]? = some oi) (hw : Region.wanted oi (yielded ops a.tmps) = true)
    (hv : (execOp a.eval oi).run P w = .ok (.enter f args) w) (hc : Calls P f args w φ) (h : ∀ e w', φ e w' → ∃ v, e = .returned v ∧ wpAny P md ops Q fuel (listed.setIfInBounds i true) (a.put oi.dst v) w') : wpAny P md ops Q (fuel + 1) listed a w :=
  any_one hr hi hw fun K hK => by
    unfold Oper.wp; rw [hv]
    refine Calls.mono hc fun e w' he => ?_
    obtain ⟨v, rfl, h'⟩ := h e w' he
    exact hK _ _ h'
/-- two operations that look at the world and leave it, apart from each other -/
theorem any_two {j : Nat} {oj : Oper} {vi vj : Value} (hi : ops[i]? = some oi) (hj : ops[j]? = some oj) (hsel : Region.noSelect ops = true) (hr : Region.ready md ops listed = [i, j]) (hap : oi.apart ops oj = true) (hri : Region.ready md ops (listed.setIfInBounds i true) = [j]) (hrj : Region.ready md ops (listed.setIfInBounds j true) = [i])
    (hwi : Region.wanted oi (yielded ops a.tmps) = true) (hwj : Region.wanted oj (yielded ops a.tmps) = true) (hvi : (execOp a.eval oi).run P w = .ok (.value vi) w) (hvj : (execOp a.eval oj).run P w = .ok (.value vj) w)
    (h : wpAny P md ops Q fuel ((listed.setIfInBounds i true).setIfInBounds j true) ((a.put oi.dst vi).put oj.dst vj) w) : wpAny P md ops Q (fuel + 1 + 1) listed a w := by
  obtain ⟨h1, h2, h3⟩ := Oper.apart_spec hap
  have si := fun cs b => Region.noSelect_spec hsel i oi cs b hi
  have sj := fun cs b => Region.noSelect_spec hsel j oj cs b hj
  have hne : i ≠ j := by
    rintro rfl
    have := congrArg (fun l => List.count i l) hr
    have hn : (Region.ready md ops listed).Nodup := (List.nodup_range).filter _
    rw [hr] at hn
    simp at hn
  refine wpAny_ready hr (by simp) (AllReady.cons hi (fun K hK => ?_) (AllReady.cons hj (fun K hK => ?_) AllReady.nil))
  · rw [if_pos hwi]
    unfold Oper.wp; rw [hvi]
    refine hK _ _ (any_run hri hj ?_ ?_ h)
    · rw [wanted_put oj a oi.dst vi h1]; exact hwj
    · rw [execOp_put oj sj a oi.dst vi h1]; exact hvj
  · rw [if_pos hwj]
    unfold Oper.wp; rw [hvj]
    refine hK _ _ (any_run (v := vi) (w' := w) hrj hi ?_ ?_ ?_)
    · rw [wanted_put oi a oj.dst vj h3]; exact hwi
    · rw [execOp_put oi si a oj.dst vj h3]; exact hvi
    · rw [Array.setIfInBounds_comm _ _ (Ne.symm hne), Act.put_comm a vj vi (fun d hd e => h2 d e hd)]
      exact h
theorem any_done (A : Act) (hr : Region.ready md ops listed = []) (hA : a = A) (h : Q .normal A w) : wpAny P md ops Q fuel listed a w := by
  subst hA; exact wpAny_done hr h fuel
end
end Go.Proofs.YtcbolmendjocbaaDoor

/- Plain laws of the Reader, whole texts. -/
import Derived.Test.YtcbolmendjocbaaDoorDlaw
namespace Go.Proofs.YtcbolmendjocbaaDoor.Qp

/-! values -/
theorem gTok.blank {t : Tok} (h : gTok t) (hk : t.kind = 2) : ∃ b, t = blankTok b := by
  rcases h with ⟨b, hb, rfl⟩ | ⟨b, hb, rfl⟩ | ⟨x, y, h, l, hx, hy, rfl⟩ | ⟨n, hn, rfl⟩ | ⟨n, hn, rfl⟩
  · simp [litTok] at hk
  · exact ⟨b, rfl⟩
  · simp at hk
  · simp at hk
  · simp at hk
theorem valueStep_le {s : B × Nat} {t : Tok} (ht : gTok t) (hs : s.2 ≤ s.1.length) : (valueStep s t).2 ≤ (valueStep s t).1.length := by
  unfold valueStep
  split
  · simp
  · split
    · rename_i h2
      obtain ⟨b, rfl⟩ := ht.blank h2
      simp [blankTok]; omega
    · simp
theorem foldl_le (l : List Tok) (hl : ∀ t ∈ l, gTok t) : ∀ s : B × Nat, s.2 ≤ s.1.length → (l.foldl valueStep s).2 ≤ (l.foldl valueStep s).1.length := by
  induction l with
  | nil => exact fun s h => h
  | cons t r ih => exact fun s h => ih (fun x hx => hl x (List.mem_cons_of_mem _ hx)) _ (valueStep_le (hl t (List.mem_cons_self ..)) h)
theorem foldl_shift (l : List Tok) (hl : ∀ t ∈ l, gTok t) (v : B) : ∀ s : B × Nat, s.2 ≤ s.1.length → l.foldl valueStep (v ++ s.1, s.2) = (v ++ (l.foldl valueStep s).1, (l.foldl valueStep s).2) := by
  induction l with
  | nil => exact fun s _ => rfl
  | cons t r ih =>
    intro s hs
    have ht := hl t (List.mem_cons_self ..)
    rw [List.foldl_cons, List.foldl_cons, ← ih (fun x hx => hl x (List.mem_cons_of_mem _ hx)) _ (valueStep_le ht hs)]
    congr 1
    unfold valueStep
    simp only
    split
    · have : (v ++ s.1).take ((v ++ s.1).length - s.2) = v ++ s.1.take (s.1.length - s.2) := by
        rw [List.take_append, List.take_of_length_le (by rw [List.length_append]; omega)]
        congr 2
        rw [List.length_append]; omega
      rw [this]; simp
    · split <;> simp

theorem value_of {l : List Tok} {v : B} {n : Nat} (h : valueGo l = (v, n)) : value l = v.take (v.length - n) := by unfold value; rw [h]
theorem valueGo_append (a b : List Tok) : valueGo (a ++ b) = b.foldl valueStep (valueGo a) := by unfold valueGo; rw [List.foldl_append]

/-- tokens that leave no blank to be dropped -/
def closed (l : List Tok) : Prop := l = [] ∨ ∃ r t, l = r ++ [t] ∧ t.kind ≠ 2
theorem closed_n {l : List Tok} (h : closed l) : (valueGo l).2 = 0 := by
  rcases h with rfl | ⟨r, t, rfl, h⟩
  · rfl
  · rw [valueGo_append]
    simp only [List.foldl_cons, List.foldl_nil, valueStep]
    split
    · rfl
    · first | rfl | simp [h]
theorem value_closed {l : List Tok} (h : closed l) : value l = (valueGo l).1 := by
  unfold value; rw [closed_n h, Nat.sub_zero, List.take_length]
theorem valueGo_closed_append {a b : List Tok} (h : closed a) (hb : ∀ t ∈ b, gTok t) : valueGo (a ++ b) = (value a ++ (valueGo b).1, (valueGo b).2) := by
  have e : valueGo a = ((valueGo a).1 ++ [], 0) := by rw [← closed_n h]; simp
  rw [valueGo_append, e, foldl_shift b hb _ ([], 0) (Nat.le_refl _), value_closed h]
  rfl
theorem value_closed_append {a b : List Tok} (h : closed a) (hb : ∀ t ∈ b, gTok t) : value (a ++ b) = value a ++ value b := by
  have h1 := foldl_le b hb ([], 0) (by simp)
  have e := valueGo_closed_append h hb
  rw [value_of e, value_of (l := b) (v := (valueGo b).1) (n := (valueGo b).2) rfl]
  have h2 : (valueGo b).2 ≤ (valueGo b).1.length := h1
  rw [List.take_append, List.take_of_length_le (by rw [List.length_append]; omega)]
  congr 2
  rw [List.length_append]; omega

section
variable {c : List Tok} (hc : ∀ t ∈ c, inTok t ∧ isEnd t = false)
include hc
theorem in_g : ∀ t ∈ c, gTok t := by
  intro t ht
  rcases (hc t ht).1 with h | h | h
  · exact .inl h
  · exact .inr (.inl h)
  · exact .inr (.inr (.inl h))
theorem foldl_in : ∀ s : B × Nat, (c.foldl valueStep s).1 = s.1 ++ vals c := by
  induction c with
  | nil => simp [vals]
  | cons t r ih =>
    intro s
    rw [List.foldl_cons, ih (fun x hx => hc x (List.mem_cons_of_mem _ hx))]
    have he := (hc t (List.mem_cons_self ..)).2
    have h5 : t.kind ≠ 5 := by intro h; simp [isEnd, h] at he
    unfold valueStep
    rw [if_neg h5]
    split <;> simp [vals]
theorem value_in : value c = vals (stripB c) ∧ (valueGo c).1 = vals c := by
  obtain ⟨w, e, hw, hn⟩ := stripB_split c
  have hsin := strip_in hc
  have h1 : (valueGo c).1 = vals c := by unfold valueGo; rw [foldl_in hc]; rfl
  refine ⟨?_, h1⟩
  have hcl : closed (stripB c) := by
    rcases List.eq_nil_or_concat (stripB c) with e0 | ⟨q, t, e0⟩
    · exact .inl e0
    · rw [List.concat_eq_append] at e0; exact .inr ⟨q, t, e0, hn q t e0⟩
  have hwg : ∀ t ∈ w, gTok t := fun t ht => in_g hc t (by rw [e]; exact List.mem_append_right _ ht)
  have hv : value (stripB c) = vals (stripB c) := by
    rw [value_closed hcl]; unfold valueGo; rw [foldl_in hsin]; rfl
  have hvw : ∀ (w : List Tok), (∀ t ∈ w, t.kind = 2) → (∀ t ∈ w, gTok t) → (valueGo w).2 = w.length ∧ (valueGo w).1.length = w.length := by
    intro w hw hg
    have : ∀ s : B × Nat, (w.foldl valueStep s).2 = s.2 + w.length ∧ (w.foldl valueStep s).1.length = s.1.length + w.length := by
      induction w with
      | nil => simp
      | cons t r ih =>
        intro s
        obtain ⟨i1, i2⟩ := ih (fun x hx => hw x (List.mem_cons_of_mem _ hx)) (fun x hx => hg x (List.mem_cons_of_mem _ hx)) (valueStep s t)
        have hk := hw t (List.mem_cons_self ..)
        obtain ⟨b, rfl⟩ := (hg t (List.mem_cons_self ..)).blank hk
        rw [List.foldl_cons, i1, i2]
        simp [valueStep, blankTok]; omega
    simpa [valueGo] using this ([], 0)
  obtain ⟨w1, w2⟩ := hvw w hw hwg
  have hvalw : value w = [] := by
    unfold value; rw [w1, w2]; simp
  conv => lhs; rw [e]
  rw [value_closed_append hcl hwg, hvalw, List.append_nil, hv]
end

/-! texts by their lines -/
/-- whole lines -/
def ended (l : List Tok) : Prop := l = [] ∨ ∃ r t, l = r ++ [t] ∧ isEnd t = true
theorem ended.closed {l : List Tok} (h : ended l) : closed l := by
  rcases h with h | ⟨r, t, h, he⟩
  · exact .inl h
  · refine .inr ⟨r, t, h, ?_⟩
    intro h2; simp [isEnd, h2] at he

theorem split_last (l : List Tok) (hl : ∀ t ∈ l, gTok t) : ∃ a c, l = a ++ c ∧ ended a ∧ ∀ t ∈ c, inTok t ∧ isEnd t = false := by
  induction l with
  | nil => exact ⟨[], [], rfl, .inl rfl, by simp⟩
  | cons t r ih =>
    obtain ⟨a, c, e, ha, hc⟩ := ih (fun x hx => hl x (List.mem_cons_of_mem _ hx))
    rcases (hl t (List.mem_cons_self ..)).cases with ⟨h1, h2⟩ | ⟨h1, h2⟩
    · rcases ha with rfl | ⟨r', u, rfl, hu⟩
      · refine ⟨[], t :: c, by rw [e]; rfl, .inl rfl, ?_⟩
        intro x hx
        rcases List.mem_cons.1 hx with rfl | hx
        · exact ⟨h1, h2⟩
        · exact hc x hx
      · exact ⟨t :: (r' ++ [u]), c, by rw [e]; rfl, .inr ⟨t :: r', u, rfl, hu⟩, hc⟩
    · refine ⟨t :: a, c, by rw [e]; rfl, ?_, hc⟩
      rcases ha with rfl | ⟨r', u, rfl, hu⟩
      · exact .inr ⟨[], t, rfl, h2⟩
      · exact .inr ⟨t :: r', u, rfl, hu⟩

theorem split_first (l : List Tok) (hl : ∀ t ∈ l, gTok t) : (∀ t ∈ l, inTok t ∧ isEnd t = false) ∨ ∃ c u r, l = c ++ u :: r ∧ (∀ t ∈ c, inTok t ∧ isEnd t = false) ∧
    ((∃ n, (n = [13, 10] ∨ n = [10]) ∧ u = ⟨4, 61 :: n, []⟩) ∨ (∃ n, (n = [13, 10] ∨ n = [10]) ∧ u = ⟨5, n, n⟩)) ∧ isEnd u = true := by
  induction l with
  | nil => left; simp
  | cons t r ih =>
    rcases (hl t (List.mem_cons_self ..)).cases with h | ⟨h1, h2⟩
    · rcases ih (fun x hx => hl x (List.mem_cons_of_mem _ hx)) with ih | ⟨c, u, q, e, hc, hu⟩
      · left
        intro x hx
        rcases List.mem_cons.1 hx with rfl | hx
        · exact h
        · exact ih x hx
      · right
        refine ⟨t :: c, u, q, by rw [e]; rfl, ?_, hu⟩
        intro x hx
        rcases List.mem_cons.1 hx with rfl | hx
        · exact h
        · exact hc x hx
    · exact .inr ⟨[], t, r, rfl, by simp, h1, h2⟩

/-- whole lines, and whatever stands behind them -/
theorem strm_ended (k : Nat) : ∀ a : List Tok, a.length ≤ k → (∀ t ∈ a, gTok t) → ended a → ∀ r, gline 0 (a ++ r) = true → gline 0 r = true ∧ ∀ X,
    strm ⟨[], 0, textOf a ++ X⟩ = (value a ++ (strm ⟨[], 0, X⟩).1, (strm ⟨[], 0, X⟩).2) := by
  induction k with
  | zero =>
    intro a ha _ _ r hg
    have : a = [] := List.eq_nil_of_length_eq_zero (by omega)
    subst this
    exact ⟨hg, fun X => by simp [textOf, value, valueGo]⟩
  | succ k ih =>
    intro a ha hl he r hg
    rcases split_first a hl with hin | ⟨c, u, q, e, hc, hu, hue⟩
    · -- no line ends: nothing is there
      rcases he with rfl | ⟨r', t, rfl, ht⟩
      · exact ⟨hg, fun X => by simp [textOf, value, valueGo]⟩
      · have := (hin t (by simp)).2
        rw [this] at ht; cases ht
    · subst e
      have hq : ∀ t ∈ q, gTok t := fun t ht => hl t (by simp [ht])
      have heq : ended q := by
        rcases he with he | ⟨r', t, he, ht⟩
        · simp at he
        · rcases List.eq_nil_or_concat q with e0 | ⟨q', t', e0⟩
          · exact .inl e0
          · rw [List.concat_eq_append] at e0
            subst e0
            refine .inr ⟨q', t', rfl, ?_⟩
            have h3 : c ++ u :: (q' ++ [t']) = (c ++ u :: q') ++ [t'] := by simp
            rw [h3] at he
            have := (List.append_inj' he rfl).2
            simp at this; rw [this]; exact ht
      rw [List.append_assoc, List.cons_append] at hg
      obtain ⟨g1, g2⟩ := gline_in c _ hc 0 hg (by omega)
      have g3 : gline 0 (q ++ r) = true := by
        unfold gline at g2
        rw [if_pos hue] at g2
        exact g2
      obtain ⟨i1, i2⟩ := ih q (by simp at ha; omega) hq heq r g3
      refine ⟨i1, fun X => ?_⟩
      have hlen : (textOf c).length ≤ 76 := by omega
      have hcg := in_g hc
      rcases hu with ⟨n, hn, rfl⟩ | ⟨n, hn, rfl⟩
      · have hcl : closed (c ++ [⟨4, 61 :: n, []⟩]) := .inr ⟨c, _, rfl, by simp⟩
        have hv : value (c ++ [⟨4, 61 :: n, []⟩]) = vals c := by
          rw [value_closed hcl, valueGo_append]
          simp only [List.foldl_cons, List.foldl_nil, valueStep]
          simp [(value_in hc).2]
        rw [show c ++ (⟨4, 61 :: n, []⟩ : Tok) :: q = (c ++ [⟨4, 61 :: n, []⟩]) ++ q by simp, value_closed_append hcl hq, hv, textOf_append, textOf_append, textOf_cons, textOf_nil, List.append_nil, List.append_assoc, List.append_assoc]
        have := line_soft hc n (textOf q ++ X) hn hlen
        rw [show textOf c ++ ((61 :: n) ++ (textOf q ++ X)) = textOf c ++ (61 :: n ++ (textOf q ++ X)) from rfl, this, i2 X]
        simp
      · have hcl : closed (c ++ [⟨5, n, n⟩]) := .inr ⟨c, _, rfl, by simp⟩
        have hv : value (c ++ [⟨5, n, n⟩]) = vals (stripB c) ++ n := by
          rw [value_closed hcl, valueGo_append]
          simp only [List.foldl_cons, List.foldl_nil, valueStep, if_true]
          rw [← (value_in hc).1]; rfl
        rw [show c ++ (⟨5, n, n⟩ : Tok) :: q = (c ++ [⟨5, n, n⟩]) ++ q by simp, value_closed_append hcl hq, hv, textOf_append, textOf_append, textOf_cons, textOf_nil, List.append_nil, List.append_assoc, List.append_assoc]
        have := line_brk hc n (textOf q ++ X) hn hlen
        rw [this, i2 X]
        simp

theorem split_good {l : List Tok} (hl : ∀ t ∈ l, gTok t) (hg : gline 0 l = true) : ∃ a c, l = a ++ c ∧ ended a ∧ (∀ t ∈ a, gTok t) ∧ (∀ t ∈ c, inTok t ∧ isEnd t = false) ∧ (textOf c).length ≤ 76 ∧
    ∀ X, strm ⟨[], 0, textOf a ++ X⟩ = (value a ++ (strm ⟨[], 0, X⟩).1, (strm ⟨[], 0, X⟩).2) := by
  obtain ⟨a, c, rfl, ha, hc⟩ := split_last l hl
  have hag : ∀ t ∈ a, gTok t := fun t ht => hl t (by simp [ht])
  obtain ⟨h1, h2⟩ := strm_ended _ a (Nat.le_refl _) hag ha c hg
  have h3 := gline_in c [] hc 0 (by simpa using h1) (by omega)
  exact ⟨a, c, rfl, ha, hag, hc, by omega, h2⟩

/-- WHAT A TEXT OF TOKENS GIVES IS WHAT IT STANDS FOR. -/
theorem decode_g {l : List Tok} (hl : ∀ t ∈ l, gTok t) (hg : gline 0 l = true) : decode (textOf l) = (value l, 1) := by
  obtain ⟨a, c, rfl, ha, hag, hc, hlen, hs⟩ := split_good hl hg
  unfold decode
  rw [textOf_append, hs, line_end hc hlen, value_closed_append ha.closed (in_g hc), (value_in hc).1]
theorem decode_tokens {src : B} {l : List Tok} (h : tokens src = some l) : decode src = (value l, 1) := by
  obtain ⟨h1, h2, h3⟩ := tokens_some h
  rw [← h2]
  exact decode_g (fun t ht => (h1 t ht).g) (gline_of_lineOk _ _ h3)

/-- an equals sign at the end, behind a byte of its line other than a blank -/
theorem decode_endsoft {src : B} {l : List Tok} (h : tokens src = some l) (he : ∃ r t, l = r ++ [t] ∧ (t.kind = 1 ∨ t.kind = 3)) : decode (src ++ [61]) = decode src := by
  rw [decode_tokens h]
  obtain ⟨h1, h2, h3⟩ := tokens_some h
  obtain ⟨a, c, rfl, ha, hag, hc, hlen, hs⟩ := split_good (fun t ht => (h1 t ht).g) (gline_of_lineOk _ _ h3)
  obtain ⟨r, t, e, hk⟩ := he
  have hce : ∃ r t, c = r ++ [t] ∧ t.kind ≠ 2 := by
    rcases List.eq_nil_or_concat c with e0 | ⟨q, u, e0⟩
    · subst e0
      rw [List.append_nil] at e
      rcases ha with rfl | ⟨r', u, rfl, hu⟩
      · simp at e
      · have := (List.append_inj' e rfl).2
        simp at this; subst this
        rcases hk with hk | hk <;> simp [isEnd, hk] at hu
    · rw [List.concat_eq_append] at e0
      subst e0
      rw [← List.append_assoc] at e
      have := (List.append_inj' e rfl).2
      simp at this; subst this
      exact ⟨q, u, rfl, by omega⟩
  have hcl : closed c := by obtain ⟨r, t, e, hk⟩ := hce; exact .inr ⟨r, t, e, hk⟩
  unfold decode
  rw [← h2, textOf_append, List.append_assoc, hs, line_endsoft hc hlen hce, value_closed_append ha.closed (in_g hc), value_closed hcl, (value_in hc).2]

/-- the line that bears a control byte -/
theorem ok_ctl {c d : List Tok} (hc : ∀ t ∈ c, inTok t ∧ isEnd t = false) (hl : (textOf c).length ≤ 76) (hd : ∀ t ∈ d, gTok t) (n : Nat) (hn : n ≤ 76) (hg : gline n d = true) (b : UInt8) (h10 : b ≠ 10) (h128 : b < 128) :
    okSlice (textOf c ++ b :: textOf d) = true := by
  have hb := in_bytes hc
  have h1 : ∀ x ∈ textOf c ++ [b], x ≠ 10 := app_ne (fun b h => (hb b h).1) (by simpa using h10)
  have h2 : ∀ x ∈ textOf c ++ [b], x < 128 := app_lt (in_lt hc) (by simpa using h128)
  have hl1 : (textOf c ++ [b]).length ≤ 77 := by simp; omega
  rw [show textOf c ++ b :: textOf d = (textOf c ++ [b]) ++ textOf d by simp]
  rcases split_first d hd with hin | ⟨c', u, r, e, hc', hu, _⟩
  · have := gline_in d [] hin n (by simpa using hg) hn
    exact ok_end _ (app_ne h1 (fun b h => (in_bytes hin b h).1)) (by rw [List.length_append]; omega) (app_lt h2 (in_lt hin))
  · subst e
    have := (gline_in c' _ hc' n hg hn).1
    have hm : ∃ m : B, u.text = m ++ [10] ∧ m.length ≤ 2 ∧ (∀ x ∈ m, x ≠ 10) ∧ ∀ x ∈ m, x < 128 := by
      rcases hu with ⟨n, rfl | rfl, rfl⟩ | ⟨n, rfl | rfl, rfl⟩
      · exact ⟨[61, 13], rfl, by simp, by decide, by decide⟩
      · exact ⟨[61], rfl, by simp, by decide, by decide⟩
      · exact ⟨[13], rfl, by simp, by decide, by decide⟩
      · exact ⟨[], rfl, by simp, by decide, by decide⟩
    obtain ⟨m, hm, hml, hm1, hm2⟩ := hm
    rw [textOf_append, textOf_cons, hm, show (textOf c ++ [b]) ++ (textOf c' ++ ((m ++ [10]) ++ textOf r)) = ((textOf c ++ [b]) ++ (textOf c' ++ m)) ++ 10 :: textOf r by simp]
    exact ok_lf _ _ (app_ne h1 (app_ne (fun b h => (in_bytes hc' b h).1) hm1)) (by simp only [List.length_append] at *; omega) (app_lt h2 (app_lt (in_lt hc') hm2))

/-- a control byte between tokens -/
theorem decode_control {src : B} {l : List Tok} (h : tokens src = some l) (k : Nat) (b : UInt8) (hb : (b < 32 ∨ b = 127) ∧ b ≠ 9 ∧ b ≠ 10 ∧ b ≠ 13) :
    decode (textOf (l.take k) ++ b :: textOf (l.drop k)) = (kept (l.take k), 5) := by
  obtain ⟨h1, h2, h3⟩ := tokens_some h
  have hl : ∀ t ∈ l.take k, gTok t := fun t ht => (h1 t (List.mem_of_mem_take ht)).g
  have hg : gline 0 (l.take k) = true := by
    refine gline_of_lineOk _ _ ?_
    rw [← List.take_append_drop k l, lineOk_append, Bool.and_eq_true] at h3
    exact h3.1
  obtain ⟨a, c, e, ha, hag, hc, hlen, hs⟩ := split_good hl hg
  have hd : ∀ t ∈ l.drop k, gTok t := fun t ht => (h1 t (List.mem_of_mem_drop ht)).g
  have hok : okSlice (textOf c ++ b :: textOf (l.drop k)) = true := by
    have g0 := gline_of_lineOk _ _ h3
    rw [← List.take_append_drop k l, e, List.append_assoc] at g0
    have g1 := (strm_ended _ a (Nat.le_refl _) hag ha _ g0).1
    obtain ⟨g2, g3⟩ := gline_in c _ hc 0 g1 (by omega)
    refine ok_ctl hc hlen hd _ g2 g3 b hb.2.2.1 ?_
    rcases hb.1 with h | h
    · rw [UInt8.lt_iff_toNat_lt] at h ⊢; simp at h ⊢; omega
    · subst h; decide
  rw [e]
  unfold decode kept
  rw [textOf_append, List.append_assoc, hs, line_bad hc b _ hok hb, valueGo_closed_append ha.closed (in_g hc), (value_in hc).2]

/-! changes that turn nothing -/
theorem value_drop_prefix (b : List Tok) (hb : ∀ t ∈ b, gTok t) : ∀ s : B × Nat, s.2 ≤ s.1.length →
    s.1.take (s.1.length - s.2) <+: (b.foldl valueStep s).1.take ((b.foldl valueStep s).1.length - (b.foldl valueStep s).2) := by
  induction b with
  | nil => exact fun s _ => List.prefix_refl _
  | cons t r ih =>
    intro s hs
    have ht := hb t (List.mem_cons_self ..)
    refine List.IsPrefix.trans ?_ (ih (fun x hx => hb x (List.mem_cons_of_mem _ hx)) _ (valueStep_le ht hs))
    unfold valueStep
    split
    · simp only [Nat.sub_zero, List.take_length]
      exact List.prefix_append _ _
    · split
      · rename_i h2
        obtain ⟨c, rfl⟩ := ht.blank h2
        have : (s.1 ++ (blankTok c).value).take ((s.1 ++ (blankTok c).value).length - (s.2 + 1)) = s.1.take (s.1.length - s.2) := by
          simp only [blankTok, List.length_append, List.length_cons, List.length_nil]
          rw [show s.1.length + (0 + 1) - (s.2 + 1) = s.1.length - s.2 by omega, List.take_append_of_le_length (by omega)]
        show _ <+: (s.1 ++ (blankTok c).value).take ((s.1 ++ (blankTok c).value).length - (s.2 + 1))
        rw [this]
        exact List.prefix_refl _
      · simp only [Nat.sub_zero, List.take_length]
        exact List.IsPrefix.trans (List.take_prefix _ _) (List.prefix_append _ _)
theorem value_take_prefix {l : List Tok} (hl : ∀ t ∈ l, gTok t) (k : Nat) : value (l.take k) <+: value l := by
  have h1 := value_drop_prefix (l.drop k) (fun t ht => hl t (List.mem_of_mem_drop ht)) (valueGo (l.take k)) (foldl_le _ (fun t ht => hl t (List.mem_of_mem_take ht)) _ (by simp))
  rw [← valueGo_append, List.take_append_drop] at h1
  exact h1

/-- the same kinds and values stand for the same -/
theorem value_congr {l l' : List Tok} (h : l.map (fun t => (t.kind, t.value)) = l'.map (fun t => (t.kind, t.value))) : value l = value l' := by
  have : ∀ (l l' : List Tok) (s : B × Nat), l.map (fun t => (t.kind, t.value)) = l'.map (fun t => (t.kind, t.value)) → l.foldl valueStep s = l'.foldl valueStep s := by
    intro l
    induction l with
    | nil => intro l' s h; cases l' with
      | nil => rfl
      | cons t r => simp at h
    | cons t r ih =>
      intro l' s h
      cases l' with
      | nil => simp at h
      | cons t' r' =>
        simp only [List.map_cons, List.cons.injEq, Prod.mk.injEq] at h
        obtain ⟨⟨h1, h2⟩, h3⟩ := h
        rw [List.foldl_cons, List.foldl_cons, show valueStep s t = valueStep s t' by unfold valueStep; rw [h1, h2]]
        exact ih r' _ h3
  unfold value valueGo
  rw [this l l' ([], 0) h]

theorem value_soft (a b : List Tok) (ha : closed a) (u : Tok) (hu : u.kind = 4) (hv : u.value = []) : value (a ++ u :: b) = value (a ++ b) := by
  unfold value
  rw [valueGo_append, valueGo_append, List.foldl_cons]
  have : valueStep (valueGo a) u = valueGo a := by
    have := closed_n ha
    unfold valueStep
    rw [if_neg (by omega), if_neg (by omega), hv, List.append_nil, ← this]
  rw [this]
/-- an escape in the place of a printable byte -/
theorem value_escape (a b : List Tok) (t u : Tok) (ht : t.kind = 1) (hu : u.kind = 3) (hv : u.value = t.value) : value (a ++ u :: b) = value (a ++ t :: b) := by
  unfold value
  rw [valueGo_append, valueGo_append, List.foldl_cons, List.foldl_cons]
  have : valueStep (valueGo a) u = valueStep (valueGo a) t := by
    unfold valueStep
    rw [if_neg (by omega), if_neg (by omega), if_neg (by omega), if_neg (by omega), hv]
  rw [this]
/-- blanks ahead of a line break, or of the end -/
theorem value_pad (a w b : List Tok) (ha : ∀ t ∈ a, gTok t) (hw : ∀ t ∈ w, ∃ c, t = blankTok c) (hb : b = [] ∨ ∃ u r, b = u :: r ∧ u.kind = 5) : value (a ++ (w ++ b)) = value (a ++ b) := by
  have hf : ∀ s : B × Nat, s.2 ≤ s.1.length → (w.foldl valueStep s).2 ≤ (w.foldl valueStep s).1.length ∧ (w.foldl valueStep s).1.take ((w.foldl valueStep s).1.length - (w.foldl valueStep s).2) = s.1.take (s.1.length - s.2) := by
    induction w with
    | nil => exact fun s hs => ⟨hs, rfl⟩
    | cons t r ih =>
      intro s hs
      obtain ⟨c, rfl⟩ := hw t (List.mem_cons_self ..)
      have e : valueStep s (blankTok c) = (s.1 ++ [c], s.2 + 1) := by simp [valueStep, blankTok]
      rw [List.foldl_cons, e]
      obtain ⟨i1, i2⟩ := ih (fun x hx => hw x (List.mem_cons_of_mem _ hx)) (s.1 ++ [c], s.2 + 1) (by simp; omega)
      refine ⟨i1, i2.trans ?_⟩
      simp only [List.length_append, List.length_cons, List.length_nil]
      rw [show s.1.length + (0 + 1) - (s.2 + 1) = s.1.length - s.2 by omega, List.take_append_of_le_length (by omega)]
  have hle := foldl_le a ha ([], 0) (by simp)
  obtain ⟨_, h2⟩ := hf (valueGo a) hle
  unfold value
  rw [valueGo_append, valueGo_append, List.foldl_append]
  rcases hb with rfl | ⟨u, r, rfl, hu⟩
  · exact h2
  · rw [List.foldl_cons, List.foldl_cons]
    have st5 : ∀ s, valueStep s u = (s.1.take (s.1.length - s.2) ++ u.value, 0) := fun s => by unfold valueStep; rw [if_pos hu]
    have : valueStep (w.foldl valueStep (valueGo a)) u = valueStep (valueGo a) u := by
      rw [st5, st5, h2]
    rw [this]

end Go.Proofs.YtcbolmendjocbaaDoor.Qp

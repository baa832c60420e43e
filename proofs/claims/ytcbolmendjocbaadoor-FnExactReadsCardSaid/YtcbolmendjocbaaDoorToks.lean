/- Plain laws of tokens: the tokens of a text are a code in which no token begins another. -/
import Derived.Test.YtcbolmendjocbaaDoorPlain
namespace Go.Proofs.YtcbolmendjocbaaDoor.Qp

def litTok (b : UInt8) : Tok := ⟨1, [b], [b]⟩
def blankTok (b : UInt8) : Tok := ⟨2, [b], [b]⟩
def softTok : Tok := ⟨4, [61, 13, 10], []⟩
def brkTok : Tok := ⟨5, [13, 10], [13, 10]⟩

/-- a token as the RFC has it -/
def okTok (t : Tok) : Prop :=
  (∃ b : UInt8, 33 ≤ b ∧ b ≤ 126 ∧ b ≠ 61 ∧ t = litTok b) ∨ (∃ b : UInt8, (b = 32 ∨ b = 9) ∧ t = blankTok b) ∨
  (∃ x y h l, hexV x = some h ∧ hexV y = some l ∧ t = ⟨3, [61, x, y], [UInt8.ofNat (h * 16 + l)]⟩) ∨ t = softTok ∨ t = brkTok

theorem hexV_ne {x : UInt8} {h : Nat} (hx : hexV x = some h) : x ≠ 13 ∧ x ≠ 10 := by
  constructor <;> (rintro rfl; simp [hexV] at hx)

theorem next_text {t : Tok} (ht : okTok t) (r : B) : next (t.text ++ r) = t := by
  rcases ht with ⟨b, h1, h2, h3, rfl⟩ | ⟨b, hb, rfl⟩ | ⟨x, y, h, l, hx, hy, rfl⟩ | rfl | rfl
  · have n13 : b ≠ 13 := by rintro rfl; exact absurd h1 (by decide)
    have n32 : b ≠ 32 := by rintro rfl; exact absurd h1 (by decide)
    have n9 : b ≠ 9 := by rintro rfl; exact absurd h1 (by decide)
    have g : (32 : UInt8) < b := by rw [UInt8.lt_iff_toNat_lt]; rw [UInt8.le_iff_toNat_le] at h1; simp at h1 ⊢; omega
    show next (b :: r) = _
    unfold next
    split <;> simp_all [litTok]
  · rcases hb with rfl | rfl <;> simp [blankTok, next]
  · have := hexV_ne hx
    show next (61 :: x :: y :: r) = _
    unfold next
    split <;> simp_all
    · rename_i hq
      obtain ⟨rfl, rfl⟩ := hq
      simp [hx, hy]
  · simp [softTok, next]
  · simp [brkTok, next]

theorem next_ok (src : B) (h : (next src).kind ≠ 0) : okTok (next src) ∧ src = (next src).text ++ src.drop (next src).text.length := by
  unfold next at h ⊢
  split
  · simp [Tok.none] at h
  · exact ⟨.inr (.inr (.inr (.inr rfl))), by simp⟩
  · exact ⟨.inr (.inr (.inr (.inl rfl))), by simp⟩
  · rename_i b r h1 h2
    simp only at h ⊢
    split at h
    · rename_i hb
      rw [if_pos hb]
      simp at hb
      exact ⟨.inr (.inl ⟨b, hb, rfl⟩), by simp⟩
    · rename_i hb
      rw [if_neg hb]
      split at h
      · rename_i hb2
        rw [if_pos hb2]
        simp at hb2
        subst hb2
        split at h
        · rename_i x y r'
          split at h
          · rename_i hh ll hx hy
            exact ⟨.inr (.inr (.inl ⟨x, y, hh, ll, hx, hy, rfl⟩)), by simp⟩
          · simp [Tok.none] at h
        · simp [Tok.none] at h
      · rename_i hb2
        rw [if_neg hb2]
        split at h
        · rename_i hb3
          rw [if_pos hb3]
          simp at hb3 hb2
          refine ⟨.inl ⟨b, ?_, hb3.2, hb2, rfl⟩, by simp⟩
          have := hb3.1
          rw [UInt8.lt_iff_toNat_lt] at this
          rw [UInt8.le_iff_toNat_le]
          simp at this ⊢; omega
        · simp [Tok.none] at h

theorem okTok.kind_pos {t : Tok} (h : okTok t) : t.kind ≠ 0 := by
  rcases h with ⟨b, _, _, _, rfl⟩ | ⟨b, _, rfl⟩ | ⟨x, y, h, l, _, _, rfl⟩ | rfl | rfl <;> simp [litTok, blankTok, softTok, brkTok]
theorem okTok.text_pos {t : Tok} (h : okTok t) : 0 < t.text.length := by
  rcases h with ⟨b, _, _, _, rfl⟩ | ⟨b, _, rfl⟩ | ⟨x, y, h, l, _, _, rfl⟩ | rfl | rfl <;> simp [litTok, blankTok, softTok, brkTok]

/-- no line is longer than 76 bytes, the first one begun with n bytes -/
def lineOk : Nat → List Tok → Bool
  | _, [] => true
  | n, t :: r => decide (t.adds n ≤ 76) && lineOk (t.leaves n) r
/-- how long the last line is -/
def lineEnd : Nat → List Tok → Nat
  | n, [] => n
  | n, t :: r => lineEnd (t.leaves n) r

theorem lineOk_append (n : Nat) (a b : List Tok) : lineOk n (a ++ b) = (lineOk n a && lineOk (lineEnd n a) b) := by
  induction a generalizing n with
  | nil => simp [lineOk, lineEnd]
  | cons t r ih => simp [lineOk, lineEnd, ih, Bool.and_assoc]
theorem lineEnd_append (n : Nat) (a b : List Tok) : lineEnd n (a ++ b) = lineEnd (lineEnd n a) b := by
  induction a generalizing n with
  | nil => rfl
  | cons t r ih => simp [lineEnd, ih]

theorem textOf_cons (t : Tok) (l : List Tok) : textOf (t :: l) = t.text ++ textOf l := by simp [textOf]
theorem textOf_append (a b : List Tok) : textOf (a ++ b) = textOf a ++ textOf b := by simp [textOf]
theorem textOf_nil : textOf [] = [] := rfl

theorem tokensGo_textOf (l : List Tok) (hl : ∀ t ∈ l, okTok t) : ∀ fuel n, (textOf l).length ≤ fuel → tokensGo fuel (textOf l) n = if lineOk n l then some l else none := by
  induction l with
  | nil => intro fuel n _; cases fuel <;> simp [tokensGo, textOf, lineOk]
  | cons t r ih =>
    intro fuel n hf
    have ht := hl t (List.mem_cons_self ..)
    have hp := ht.text_pos
    rw [textOf_cons] at hf ⊢
    rw [List.length_append] at hf
    cases fuel with
    | zero => omega
    | succ fuel =>
      have hn := next_text ht (textOf r)
      have hd : (t.text ++ textOf r).drop t.text.length = textOf r := by simp
      have e := ih (fun x hx => hl x (List.mem_cons_of_mem _ hx)) fuel (t.leaves n) (by omega)
      unfold tokensGo
      split
      · rename_i h0
        have := congrArg List.length h0
        rw [List.length_append, List.length_nil] at this
        omega
      · rename_i b r' h0
        simp only [hn]; rw [hd, e]
        simp only [ht.kind_pos, if_false, lineOk]
        by_cases h76 : t.adds n ≤ 76
        · rw [if_neg (by omega)]; simp only [h76, decide_true, Bool.true_and]; split <;> rfl
        · rw [if_pos (by omega)]; simp [h76]

theorem tokensGo_some : ∀ fuel src n l, src.length ≤ fuel → tokensGo fuel src n = some l → (∀ t ∈ l, okTok t) ∧ textOf l = src ∧ lineOk n l = true := by
  intro fuel
  induction fuel with
  | zero =>
    intro src n l hf h
    have : src = [] := List.eq_nil_of_length_eq_zero (by omega)
    simp [tokensGo] at h; subst h; subst this
    exact ⟨by simp, rfl, rfl⟩
  | succ fuel ih =>
    intro src n l hf h
    unfold tokensGo at h
    split at h
    · simp at h; subst h; exact ⟨by simp, rfl, rfl⟩
    · rename_i b r
      simp only at h
      split at h
      · cases h
      · rename_i hk
        split at h
        · cases h
        · rename_i h76
          obtain ⟨hok, hsrc⟩ := next_ok (b :: r) hk
          have hp := hok.text_pos
          rw [Option.map_eq_some_iff] at h
          obtain ⟨l', hl', rfl⟩ := h
          obtain ⟨i1, i2, i3⟩ := ih _ _ _ (by rw [List.length_drop]; omega) hl'
          refine ⟨?_, ?_, ?_⟩
          · intro t ht
            rcases List.mem_cons.1 ht with rfl | ht
            · exact hok
            · exact i1 t ht
          · rw [textOf_cons, i2]; exact hsrc.symm
          · simp [lineOk, i3]; omega

theorem tokens_textOf {l : List Tok} (hl : ∀ t ∈ l, okTok t) : tokens (textOf l) = if lineOk 0 l then some l else none :=
  tokensGo_textOf l hl _ _ (Nat.le_refl _)
theorem tokens_some {src : B} {l : List Tok} (h : tokens src = some l) : (∀ t ∈ l, okTok t) ∧ textOf l = src ∧ lineOk 0 l = true :=
  tokensGo_some _ _ _ _ (Nat.le_refl _) h

/-! what tokens stand for -/
def vals (l : List Tok) : B := l.flatMap (·.value)
theorem vals_append (a b : List Tok) : vals (a ++ b) = vals a ++ vals b := by simp [vals]

/-- a blank stands at the end of a line -/
def blankEnds : List Tok → Bool
  | [] => false
  | t :: r => (decide (t.kind = 2) && (match r with | [] => true | u :: _ => decide (u.kind = 5))) || blankEnds r

theorem valueStep_append (l : List Tok) (s : B × Nat) (hs : s.2 ≤ s.1.length) (hv : ∀ t ∈ l, okTok t) (h0 : s.2 = 0 ∨ ∃ t r, l = t :: r ∧ t.kind ≠ 5) (hb : blankEnds l = false) :
    (l.foldl valueStep s).1 = s.1 ++ vals l ∧ ((l.foldl valueStep s).2 = 0 ∨ l = [] ∧ (l.foldl valueStep s).2 = s.2) := by
  induction l generalizing s with
  | nil => simp [vals]
  | cons t r ih =>
    simp only [List.foldl_cons]
    have ht := hv t (List.mem_cons_self ..)
    have hr : ∀ x ∈ r, okTok x := fun x hx => hv x (List.mem_cons_of_mem _ hx)
    simp only [blankEnds, Bool.or_eq_false_iff, Bool.and_eq_false_iff, decide_eq_false_iff_not] at hb
    obtain ⟨hb1, hb2⟩ := hb
    have key : (valueStep s t).1 = s.1 ++ t.value ∧ (valueStep s t).2 ≤ (valueStep s t).1.length ∧ ((valueStep s t).2 = 0 ∨ t.kind = 2) := by
      rcases ht with ⟨b, _, _, _, rfl⟩ | ⟨b, _, rfl⟩ | ⟨x, y, h, l, _, _, rfl⟩ | rfl | rfl
      · simp [valueStep, litTok]
      · simp [valueStep, blankTok]; omega
      · simp [valueStep]
      · simp [valueStep, softTok]
      · rcases h0 with h0 | ⟨t', r', e, hk⟩
        · simp [valueStep, brkTok, h0]
        · injection e with e1 e2; subst e1; exact absurd rfl hk
    obtain ⟨k1, k2, k3⟩ := key
    have h0' : (valueStep s t).2 = 0 ∨ ∃ t' r', r = t' :: r' ∧ t'.kind ≠ 5 := by
      rcases k3 with k3 | k3
      · exact .inl k3
      · cases r with
        | nil => rcases hb1 with hb1 | hb1
                 · exact absurd k3 hb1
                 · cases hb1
        | cons u r' =>
          rcases hb1 with hb1 | hb1
          · exact absurd k3 hb1
          · exact .inr ⟨u, r', rfl, by simpa using hb1⟩
    obtain ⟨i1, i2⟩ := ih (valueStep s t) k2 hr h0' hb2
    refine ⟨by rw [i1, k1]; simp [vals], ?_⟩
    rcases i2 with i2 | ⟨rfl, i2⟩
    · exact .inl i2
    · simp only [List.foldl_nil] at i2 ⊢
      rcases k3 with k3 | k3
      · exact .inl k3
      · rcases hb1 with hb1 | hb1
        · exact absurd k3 hb1
        · cases hb1

theorem value_of_plain {l : List Tok} (hv : ∀ t ∈ l, okTok t) (hb : blankEnds l = false) : value l = vals l := by
  obtain ⟨h1, h2⟩ := valueStep_append l ([], 0) (by simp) hv (.inl rfl) hb
  have h3 : (valueGo l).2 = 0 := by
    rcases h2 with h2 | ⟨rfl, h2⟩
    · exact h2
    · rfl
  unfold value
  rw [h3]
  show ((valueGo l).1.take ((valueGo l).1.length - 0)) = _
  rw [Nat.sub_zero, List.take_length]
  simpa [valueGo] using h1

end Go.Proofs.YtcbolmendjocbaaDoor.Qp

/- Plain laws of the Reader: what it gives of the text of tokens. -/
import Derived.Test.YtcbolmendjocbaaDoorDec
import Derived.Test.YtcbolmendjocbaaDoorWlaw
namespace Go.Proofs.YtcbolmendjocbaaDoor.Qp

def isEnd (t : Tok) : Bool := t.kind == 4 || t.kind == 5

/-- a token as the Reader takes it: small hexadecimal digits too, LF alone at a line's end -/
def gTok (t : Tok) : Prop :=
  (∃ b : UInt8, (33 ≤ b ∧ b ≤ 126 ∧ b ≠ 61) ∧ t = litTok b) ∨ (∃ b : UInt8, (b = 32 ∨ b = 9) ∧ t = blankTok b) ∨
  (∃ x y h l, hexAny x = some h ∧ hexAny y = some l ∧ t = ⟨3, [61, x, y], [h <<< 4 ||| l]⟩) ∨
  (∃ n, (n = [13, 10] ∨ n = [10]) ∧ t = ⟨4, 61 :: n, []⟩) ∨ (∃ n, (n = [13, 10] ∨ n = [10]) ∧ t = ⟨5, n, n⟩)
/-- a token that ends no line -/
def inTok (t : Tok) : Prop :=
  (∃ b : UInt8, (33 ≤ b ∧ b ≤ 126 ∧ b ≠ 61) ∧ t = litTok b) ∨ (∃ b : UInt8, (b = 32 ∨ b = 9) ∧ t = blankTok b) ∨
  (∃ x y h l, hexAny x = some h ∧ hexAny y = some l ∧ t = ⟨3, [61, x, y], [h <<< 4 ||| l]⟩)

theorem gTok.cases {t : Tok} (h : gTok t) : (inTok t ∧ isEnd t = false) ∨ ((∃ n, (n = [13, 10] ∨ n = [10]) ∧ t = ⟨4, 61 :: n, []⟩) ∨ (∃ n, (n = [13, 10] ∨ n = [10]) ∧ t = ⟨5, n, n⟩)) ∧ isEnd t = true := by
  rcases h with ⟨b, hb, rfl⟩ | ⟨b, hb, rfl⟩ | ⟨x, y, h, l, hx, hy, rfl⟩ | ⟨n, hn, rfl⟩ | ⟨n, hn, rfl⟩
  · exact .inl ⟨.inl ⟨b, hb, rfl⟩, rfl⟩
  · exact .inl ⟨.inr (.inl ⟨b, hb, rfl⟩), rfl⟩
  · exact .inl ⟨.inr (.inr ⟨x, y, h, l, hx, hy, rfl⟩), rfl⟩
  · exact .inr ⟨.inl ⟨n, hn, rfl⟩, rfl⟩
  · exact .inr ⟨.inr ⟨n, hn, rfl⟩, rfl⟩

theorem hexV_any : ∀ x : UInt8, ∀ h, hexV x = some h → hexAny x = some (UInt8.ofNat h) ∧ h < 16 := by
  have : ∀ x : UInt8, hexV x = none ∨ (hexAny x = (hexV x).map UInt8.ofNat ∧ (hexV x).getD 0 < 16) := u8_all (by decide +kernel)
  intro x h hx
  rcases this x with h1 | ⟨h1, h2⟩
  · rw [hx] at h1; cases h1
  · rw [hx] at h1 h2; exact ⟨h1, h2⟩
theorem nib_or : ∀ h l : Fin 16, UInt8.ofNat h.val <<< 4 ||| UInt8.ofNat l.val = UInt8.ofNat (h.val * 16 + l.val) := by decide +kernel

theorem okTok.g {t : Tok} (h : okTok t) : gTok t := by
  rcases h with ⟨b, h1, h2, h3, rfl⟩ | ⟨b, hb, rfl⟩ | ⟨x, y, h, l, hx, hy, rfl⟩ | rfl | rfl
  · exact .inl ⟨b, ⟨h1, h2, h3⟩, rfl⟩
  · exact .inr (.inl ⟨b, hb, rfl⟩)
  · obtain ⟨x1, x2⟩ := hexV_any x h hx
    obtain ⟨y1, y2⟩ := hexV_any y l hy
    exact .inr (.inr (.inl ⟨x, y, _, _, x1, y1, by rw [nib_or ⟨h, x2⟩ ⟨l, y2⟩]⟩))
  · exact .inr (.inr (.inr (.inl ⟨_, .inl rfl, rfl⟩)))
  · exact .inr (.inr (.inr (.inr ⟨_, .inl rfl, rfl⟩)))

/-- no line is too long: only what ends no line counts -/
def gline : Nat → List Tok → Bool
  | _, [] => true
  | n, t :: r => if isEnd t then gline 0 r else decide (n + t.text.length ≤ 76) && gline (n + t.text.length) r

theorem gline_of_lineOk (l : List Tok) : ∀ n, lineOk n l = true → gline n l = true := by
  induction l with
  | nil => intro n _; rfl
  | cons t r ih =>
    intro n h
    simp only [lineOk, Bool.and_eq_true, decide_eq_true_eq] at h
    obtain ⟨h1, h2⟩ := h
    have h3 := ih _ h2
    unfold gline
    by_cases h4 : t.kind = 4
    · rw [if_pos (by simp [isEnd, h4])]
      simpa [Tok.leaves, h4] using h3
    · by_cases h5 : t.kind = 5
      · rw [if_pos (by simp [isEnd, h5])]
        simpa [Tok.leaves, h5] using h3
      · rw [if_neg (by simp [isEnd, h4, h5])]
        simp only [Tok.leaves, Tok.adds, h4, h5, or_self, if_false] at h1 h3
        simp [h1, h3]

theorem gline_congr (l l' : List Tok) (h : l.map (fun t => (isEnd t, if isEnd t then 0 else t.text.length)) = l'.map (fun t => (isEnd t, if isEnd t then 0 else t.text.length))) : ∀ n, gline n l = gline n l' := by
  induction l generalizing l' with
  | nil => intro n; cases l' with
    | nil => rfl
    | cons t r => simp at h
  | cons t r ih =>
    intro n
    cases l' with
    | nil => simp at h
    | cons t' r' =>
      simp only [List.map_cons, List.cons.injEq, Prod.mk.injEq] at h
      obtain ⟨⟨h1, h2⟩, h3⟩ := h
      unfold gline
      rw [h1]
      split
      · exact ih r' h3 0
      · rename_i he
        rw [h1, if_neg he, if_neg he] at h2
        rw [h2, ih r' h3]

theorem gline_in (c r : List Tok) (hc : ∀ t ∈ c, inTok t ∧ isEnd t = false) : ∀ n, gline n (c ++ r) = true → n ≤ 76 → n + (textOf c).length ≤ 76 ∧ gline (n + (textOf c).length) r = true := by
  induction c with
  | nil => intro n h hn; simpa [textOf] using ⟨hn, h⟩
  | cons t q ih =>
    intro n h hn
    have ht := (hc t (List.mem_cons_self ..)).2
    simp only [List.cons_append, gline, ht, Bool.false_eq_true, if_false, Bool.and_eq_true, decide_eq_true_eq] at h
    obtain ⟨i1, i2⟩ := ih (fun x hx => hc x (List.mem_cons_of_mem _ hx)) _ h.2 h.1
    rw [textOf_cons, List.length_append, ← Nat.add_assoc]
    exact ⟨i1, i2⟩

/-! bytes of a line's tokens -/
theorem hexAny_range : ∀ x : UInt8, hexAny x ≠ none → x ≠ 10 ∧ x ≠ 13 ∧ x ≠ 32 ∧ x ≠ 9 ∧ x ≠ 61 := u8_all (by decide +kernel)
theorem inTok.bytes {t : Tok} (h : inTok t) : ∀ b ∈ t.text, b ≠ 10 ∧ b ≠ 13 := by
  rcases h with ⟨b, hb, rfl⟩ | ⟨b, hb, rfl⟩ | ⟨x, y, h, l, hx, hy, rfl⟩
  · intro c hc
    simp [litTok] at hc; subst hc
    obtain ⟨h1, _, _⟩ := hb; constructor <;> (rintro rfl; exact absurd h1 (by decide))
  · intro c hc
    simp [blankTok] at hc; subst hc
    rcases hb with rfl | rfl <;> decide
  · intro c hc
    have h1 := hexAny_range x (by rw [hx]; simp)
    have h2 := hexAny_range y (by rw [hy]; simp)
    simp at hc
    rcases hc with rfl | rfl | rfl
    · decide
    · exact ⟨h1.1, h1.2.1⟩
    · exact ⟨h2.1, h2.2.1⟩
theorem hexAny_lt : ∀ x : UInt8, hexAny x ≠ none → x < 128 := u8_all (by decide +kernel)
theorem inTok.lt {t : Tok} (h : inTok t) : ∀ b ∈ t.text, b < 128 := by
  rcases h with ⟨b, hb, rfl⟩ | ⟨b, hb, rfl⟩ | ⟨x, y, h, l, hx, hy, rfl⟩
  · intro c hc
    simp [litTok] at hc; subst hc
    have h2 := hb.2.1
    rw [UInt8.le_iff_toNat_le] at h2; rw [UInt8.lt_iff_toNat_lt]; simp at h2 ⊢; omega
  · intro c hc
    simp [blankTok] at hc; subst hc
    rcases hb with rfl | rfl <;> decide
  · intro c hc
    simp at hc
    rcases hc with rfl | rfl | rfl
    · decide
    · exact hexAny_lt _ (by rw [hx]; simp)
    · exact hexAny_lt _ (by rw [hy]; simp)
theorem in_lt {c : List Tok} (h : ∀ t ∈ c, inTok t ∧ isEnd t = false) : ∀ b ∈ textOf c, b < 128 := by
  intro b hb
  simp only [textOf, List.mem_flatMap] at hb
  obtain ⟨t, ht, hb⟩ := hb
  exact (h t ht).1.lt b hb
theorem in_bytes {c : List Tok} (h : ∀ t ∈ c, inTok t ∧ isEnd t = false) : ∀ b ∈ textOf c, b ≠ 10 ∧ b ≠ 13 := by
  intro b hb
  simp only [textOf, List.mem_flatMap] at hb
  obtain ⟨t, ht, hb⟩ := hb
  exact (h t ht).1.bytes b hb

theorem inTok.last {t : Tok} (h : inTok t) : (t.kind = 2 → ∃ b, t.text = [b] ∧ t.value = [b] ∧ isWs b = true) ∧ (t.kind ≠ 2 → ∃ r b, t.text = r ++ [b] ∧ isSp b = false ∧ b ≠ 61) := by
  rcases h with ⟨b, hb, rfl⟩ | ⟨b, hb, rfl⟩ | ⟨x, y, h, l, hx, hy, rfl⟩
  · refine ⟨by simp [litTok], fun _ => ⟨[], b, rfl, ?_, ?_⟩⟩
    · unfold isSp
      rw [Bool.eq_false_iff]
      intro hs
      simp at hs
      rcases hs with ((rfl | rfl) | rfl) | rfl <;> (exact absurd hb.1 (by decide))
    · rintro rfl
      exact hb.2.2 rfl
  · exact ⟨fun _ => ⟨b, rfl, rfl, (isWs_iff b).2 hb⟩, by simp [blankTok]⟩
  · refine ⟨by simp, fun _ => ⟨[61, x], y, rfl, ?_, ?_⟩⟩
    · have h2 := hexAny_range y (by rw [hy]; simp)
      simp [isSp, h2]
    · exact (hexAny_range y (by rw [hy]; simp)).2.2.2.2

/-- what the Reader makes of a line's tokens, byte by byte -/
theorem emit_tok {t : Tok} (h : inTok t) (z : B) (e : Nat) (rest : B) : strm ⟨t.text ++ z, e, rest⟩ = (t.value ++ (strm ⟨z, e, rest⟩).1, (strm ⟨z, e, rest⟩).2) := by
  rcases h with ⟨b, hb, rfl⟩ | ⟨b, hb, rfl⟩ | ⟨x, y, h, l, hx, hy, rfl⟩
  · have he : emit b z = some (b, z) := by
      have n61 : b ≠ 61 := by
        rintro rfl
        exact hb.2.2 rfl
      unfold emit
      rw [if_neg (by simpa using n61)]
      split
      · rfl
      · split
        · rfl
        · obtain ⟨h1, h2, _⟩ := hb
          rw [if_neg]
          simp
          constructor
          · rw [UInt8.le_iff_toNat_le] at h1 ⊢; simp at h1 ⊢; omega
          · exact h2
    exact strm_byte (st := ⟨b :: z, e, rest⟩) rfl (fun e => absurd e hb.2.2) he
  · have he : emit b z = some (b, z) := by rcases hb with rfl | rfl <;> rfl
    exact strm_byte (st := ⟨b :: z, e, rest⟩) rfl (fun e => by rcases hb with rfl | rfl <;> cases e) he
  · have he : emit 61 (x :: y :: z) = some (h <<< 4 ||| l, z) := by simp [emit, hx, hy]
    exact strm_byte (st := ⟨61 :: x :: y :: z, e, rest⟩) rfl (fun _ => by simp) he

theorem emit_toks (c : List Tok) (h : ∀ t ∈ c, inTok t ∧ isEnd t = false) (z : B) (e : Nat) (rest : B) : strm ⟨textOf c ++ z, e, rest⟩ = (vals c ++ (strm ⟨z, e, rest⟩).1, (strm ⟨z, e, rest⟩).2) := by
  induction c with
  | nil => simp [textOf, vals]
  | cons t r ih =>
    rw [textOf_cons, List.append_assoc, emit_tok (h t (List.mem_cons_self ..)).1, ih (fun x hx => h x (List.mem_cons_of_mem _ hx))]
    simp [vals]

/-! lines -/
theorem app_ne {u v : B} {x : UInt8} (h1 : ∀ b ∈ u, b ≠ x) (h2 : ∀ b ∈ v, b ≠ x) : ∀ b ∈ u ++ v, b ≠ x := by
  intro b h
  rcases List.mem_append.1 h with h | h
  · exact h1 b h
  · exact h2 b h
theorem findIdx_at (u X : B) (h : ∀ b ∈ u, b ≠ 10) : (u ++ 10 :: X).findIdx (· == 10) = u.length := by
  induction u with
  | nil => simp [List.findIdx_cons]
  | cons b r ih =>
    have : (b == 10) = false := by simpa using h b (List.mem_cons_self ..)
    rw [List.cons_append, List.findIdx_cons, this, ih (fun x hx => h x (List.mem_cons_of_mem _ hx))]
    rfl
theorem findIdx_none (u : B) (h : ∀ b ∈ u, b ≠ 10) : u.findIdx (· == 10) = u.length := by
  rw [List.findIdx_eq_length]
  intro b hb
  simpa using h b hb

theorem slice_lf (u X : B) (h : ∀ b ∈ u, b ≠ 10) (hl : u.length < 4096) : slice (u ++ 10 :: X) = (u ++ [10], X, 0) := by
  have e := findIdx_at u X h
  unfold slice
  rw [if_pos (by rw [e]; simp; omega), e]
  have e1 : (u ++ 10 :: X).take (u.length + 1) = u ++ [10] := by
    rw [show u ++ 10 :: X = (u ++ [10]) ++ X by simp, List.take_left' (by simp)]
  have e2 : (u ++ 10 :: X).drop (u.length + 1) = X := by
    rw [show u ++ 10 :: X = (u ++ [10]) ++ X by simp, List.drop_left' (by simp)]
  rw [e1, e2]
theorem slice_end (u : B) (h : ∀ b ∈ u, b ≠ 10) (hl : u.length < 4096) : slice u = (u, [], 1) := by
  have e := findIdx_none u h
  unfold slice
  rw [if_neg (by rw [e]; omega), if_pos hl]

theorem ok_lf (u X : B) (h : ∀ b ∈ u, b ≠ 10) (hl : u.length < 4096) (h128 : ∀ b ∈ u, b < 128) : okSlice (u ++ 10 :: X) = true := by
  unfold okSlice
  rw [slice_lf u X h hl]
  simp only [Bool.and_eq_true, List.all_append, List.all_eq_true, decide_eq_true_eq]
  exact ⟨by decide, h128, by simp⟩
theorem ok_end (u : B) (h : ∀ b ∈ u, b ≠ 10) (hl : u.length < 4096) (h128 : ∀ b ∈ u, b < 128) : okSlice u = true := by
  unfold okSlice
  rw [slice_end u h hl]
  simp only [Bool.and_eq_true, List.all_eq_true, decide_eq_true_eq]
  exact ⟨by decide, h128⟩
theorem app_lt {u v : B} (h1 : ∀ b ∈ u, b < 128) (h2 : ∀ b ∈ v, b < 128) : ∀ b ∈ u ++ v, b < 128 := by
  intro b h
  rcases List.mem_append.1 h with h | h
  · exact h1 b h
  · exact h2 b h

theorem rstrip_at (p : UInt8 → Bool) (q w : B) (hw : ∀ b ∈ w, p b = true) (hq : ∀ r b, q = r ++ [b] → p b = false) : rstrip p (q ++ w) = q := by
  unfold rstrip
  rw [List.reverse_append]
  have h1 : ∀ (w' : B), (∀ b ∈ w', p b = true) → (w' ++ q.reverse).dropWhile p = q.reverse.dropWhile p := by
    intro w' hw'
    induction w' with
    | nil => rfl
    | cons b r ih =>
      rw [List.cons_append, List.dropWhile_cons, if_pos (hw' b (List.mem_cons_self ..))]
      exact ih (fun x hx => hw' x (List.mem_cons_of_mem _ hx))
  rw [h1 w.reverse (fun b hb => hw b (List.mem_reverse.1 hb))]
  rcases List.eq_nil_or_concat q with e | ⟨r, b, e⟩
  · subst e; rfl
  · rw [List.concat_eq_append] at e
    have := hq r b e
    subst e
    simp [this]

/-- tokens without the blanks at their end -/
def stripB (c : List Tok) : List Tok := (c.reverse.dropWhile (fun t => t.kind == 2)).reverse
theorem stripB_split (c : List Tok) : ∃ w, c = stripB c ++ w ∧ (∀ t ∈ w, t.kind = 2) ∧ (∀ r t, stripB c = r ++ [t] → t.kind ≠ 2) := by
  refine ⟨(c.reverse.takeWhile (fun t => t.kind == 2)).reverse, ?_, ?_, ?_⟩
  · unfold stripB
    rw [← List.reverse_append, List.takeWhile_append_dropWhile, List.reverse_reverse]
  · intro b hb
    rw [List.mem_reverse] at hb
    generalize c.reverse = m at hb
    induction m with
    | nil => simp at hb
    | cons x r ih =>
      rw [List.takeWhile_cons] at hb
      split at hb
      · rename_i hx
        rcases List.mem_cons.1 hb with rfl | hb
        · simpa using hx
        · exact ih hb
      · cases hb
  · intro r b h
    unfold stripB at h
    have h' : c.reverse.dropWhile (fun t => t.kind == 2) = b :: r.reverse := by
      have := congrArg List.reverse h
      simpa using this
    clear h
    generalize c.reverse = m at h'
    induction m with
    | nil => simp at h'
    | cons x q ih =>
      rw [List.dropWhile_cons] at h'
      split at h'
      · exact ih h'
      · rename_i hc
        injection h' with h1 h2
        subst h1
        simpa using hc

theorem sp_of_ws {b : UInt8} (h : isWs b = true) : isSp b = true := by
  rcases (isWs_iff b).1 h with rfl | rfl <;> decide

section
variable {c : List Tok} (hc : ∀ t ∈ c, inTok t ∧ isEnd t = false)
include hc

theorem strip_in : ∀ t ∈ stripB c, inTok t ∧ isEnd t = false := by
  obtain ⟨w, e, _, _⟩ := stripB_split c
  intro t ht
  exact hc t (by rw [e]; exact List.mem_append_left _ ht)

theorem strip_text : ∃ w : B, textOf c = textOf (stripB c) ++ w ∧ (∀ b ∈ w, isWs b = true) ∧ (∀ r b, textOf (stripB c) = r ++ [b] → isSp b = false ∧ b ≠ 61) := by
  obtain ⟨w, e, hw, hn⟩ := stripB_split c
  refine ⟨textOf w, ?_, ?_, ?_⟩
  · conv => lhs; rw [e]
    rw [textOf_append]
  · intro b hb
    simp only [textOf, List.mem_flatMap] at hb
    obtain ⟨t, ht, hb⟩ := hb
    obtain ⟨x, hx, _, hxw⟩ := (hc t (by rw [e]; exact List.mem_append_right _ ht)).1.last.1 (hw t ht)
    rw [hx] at hb
    simp at hb; subst hb; exact hxw
  · intro r b hb
    rcases List.eq_nil_or_concat (stripB c) with e0 | ⟨q, t, e0⟩
    · rw [e0] at hb
      have := congrArg List.length hb
      simp [textOf] at this
    · rw [List.concat_eq_append] at e0
      have hk := hn q t e0
      have ht := strip_in hc t (by rw [e0]; simp)
      obtain ⟨r', x, hx, h1, h2⟩ := ht.1.last.2 hk
      rw [e0, textOf_append, textOf_cons, textOf_nil, List.append_nil, hx, ← List.append_assoc] at hb
      have := (List.append_inj' hb rfl).2
      simp at this
      subst this
      exact ⟨h1, h2⟩

/-- a line that ends with a line break -/
theorem line_brk (n X : B) (hn : n = [13, 10] ∨ n = [10]) (hl : (textOf c).length ≤ 76) :
    strm ⟨[], 0, textOf c ++ (n ++ X)⟩ = (vals (stripB c) ++ (n ++ (strm ⟨[], 0, X⟩).1), (strm ⟨[], 0, X⟩).2) := by
  obtain ⟨w, e, hw, hlast⟩ := strip_text hc
  have hb := in_bytes hc
  have hsl : slice (textOf c ++ (n ++ X)) = (textOf c ++ n, X, 0) := by
    rcases hn with rfl | rfl
    · have := slice_lf (textOf c ++ [13]) X (app_ne (fun b h => (hb b h).1) (by decide)) (by simp; omega)
      simpa using this
    · have := slice_lf (textOf c) X (fun b h => (hb b h).1) (by omega)
      simpa using this
  have hst : rstrip isSp (textOf c ++ n) = textOf (stripB c) := by
    rw [e, List.append_assoc]
    refine rstrip_at isSp _ _ ?_ (fun r b h => (hlast r b h).1)
    intro b hb'
    rcases List.mem_append.1 hb' with h | h
    · exact sp_of_ws (hw b h)
    · rcases hn with rfl | rfl <;> (simp at h; first | (rcases h with rfl | rfl <;> decide) | (subst h; decide))
  have hne : (textOf (stripB c)).getLast? ≠ some 61 := by
    intro h
    rcases List.eq_nil_or_concat (textOf (stripB c)) with e0 | ⟨q, b, e0⟩
    · rw [e0] at h; simp at h
    · rw [List.concat_eq_append] at e0
      rw [e0] at h
      simp at h
      exact (hlast q b e0).2 h
  have hp : prep (textOf c ++ n) 0 = (textOf (stripB c) ++ n, 0) := by
    unfold prep
    simp only [hst]
    rw [if_neg hne]
    rcases hn with rfl | rfl
    · rw [if_pos (by simp [List.drop_append]), if_pos (by simp)]
    · rw [if_pos (by simp), if_neg]
      intro h13
      have : (13 : UInt8) ∈ textOf c ++ [10] := by
        have h : (13 : UInt8) ∈ (textOf c ++ [10]).drop ((textOf c ++ [10]).length - 2) := by rw [h13]; simp
        exact List.mem_of_mem_drop h
      rcases List.mem_append.1 this with h | h
      · exact (hb 13 h).2 rfl
      · simp at h
  have hok : okSlice (textOf c ++ (n ++ X)) = true := by
    rcases hn with rfl | rfl
    · have := ok_lf (textOf c ++ [13]) X (app_ne (fun b h => (hb b h).1) (by decide)) (by simp; omega) (app_lt (in_lt hc) (by decide))
      simpa using this
    · have := ok_lf (textOf c) X (fun b h => (hb b h).1) (by omega) (in_lt hc)
      simpa using this
  rw [strm_fill rfl rfl hok]
  unfold refill
  rw [hsl]
  simp only [hp]
  rw [emit_toks _ (strip_in hc)]
  have : strm ⟨n, 0, X⟩ = (n ++ (strm ⟨[], 0, X⟩).1, (strm ⟨[], 0, X⟩).2) := by
    rcases hn with rfl | rfl
    · rw [strm_byte (st := ⟨[13, 10], 0, X⟩) (b := 13) (r := [10]) rfl (fun e => by cases e) (show emit 13 [10] = some (13, [10]) from rfl)]
      rw [strm_byte (st := ⟨[10], 0, X⟩) (b := 10) (r := []) rfl (fun e => by cases e) (show emit 10 [] = some (10, []) from rfl)]
      rfl
    · rw [strm_byte (st := ⟨[10], 0, X⟩) (b := 10) (r := []) rfl (fun e => by cases e) (show emit 10 [] = some (10, []) from rfl)]
      rfl
  rw [this]

/-- a line that ends with a soft line break -/
theorem line_soft (n X : B) (hn : n = [13, 10] ∨ n = [10]) (hl : (textOf c).length ≤ 76) :
    strm ⟨[], 0, textOf c ++ (61 :: n ++ X)⟩ = (vals c ++ (strm ⟨[], 0, X⟩).1, (strm ⟨[], 0, X⟩).2) := by
  have hb := in_bytes hc
  have hsl : slice (textOf c ++ (61 :: n ++ X)) = (textOf c ++ 61 :: n, X, 0) := by
    rcases hn with rfl | rfl
    · have := slice_lf (textOf c ++ [61, 13]) X (app_ne (fun b h => (hb b h).1) (by decide)) (by simp; omega)
      simpa using this
    · have := slice_lf (textOf c ++ [61]) X (app_ne (fun b h => (hb b h).1) (by decide)) (by simp; omega)
      simpa using this
  have hst : rstrip isSp (textOf c ++ 61 :: n) = textOf c ++ [61] := by
    rw [show textOf c ++ 61 :: n = (textOf c ++ [61]) ++ n by simp]
    refine rstrip_at isSp _ _ ?_ ?_
    · intro b h
      rcases hn with rfl | rfl <;> (simp at h; first | (rcases h with rfl | rfl <;> decide) | (subst h; decide))
    · intro r b h
      have := (List.append_inj' h rfl).2
      simp at this
      subst this
      decide
  have hp : prep (textOf c ++ 61 :: n) 0 = (textOf c, 0) := by
    unfold prep
    simp only [hst]
    rw [if_pos (by simp)]
    have hd : (textOf c ++ 61 :: n).drop (textOf c ++ [61]).length = n := by
      rw [show textOf c ++ 61 :: n = (textOf c ++ [61]) ++ n by simp, List.drop_left' rfl]
    have hw : n.dropWhile isWs = n := by rcases hn with rfl | rfl <;> decide
    rw [hd, hw, List.dropLast_concat, if_pos]
    rcases hn with rfl | rfl
    · exact .inr (.inl rfl)
    · exact .inl rfl
  have hok : okSlice (textOf c ++ (61 :: n ++ X)) = true := by
    rcases hn with rfl | rfl
    · have := ok_lf (textOf c ++ [61, 13]) X (app_ne (fun b h => (hb b h).1) (by decide)) (by simp; omega) (app_lt (in_lt hc) (by decide))
      simpa using this
    · have := ok_lf (textOf c ++ [61]) X (app_ne (fun b h => (hb b h).1) (by decide)) (by simp; omega) (app_lt (in_lt hc) (by decide))
      simpa using this
  rw [strm_fill rfl rfl hok]
  unfold refill
  rw [hsl]
  simp only [hp]
  have := emit_toks c hc [] 0 X
  rw [List.append_nil] at this
  exact this

/-- the last line -/
theorem line_end (hl : (textOf c).length ≤ 76) : strm ⟨[], 0, textOf c⟩ = (vals (stripB c), 1) := by
  obtain ⟨w, e, hw, hlast⟩ := strip_text hc
  have hb := in_bytes hc
  have hsl := slice_end (textOf c) (fun b h => (hb b h).1) (by omega)
  have hst : rstrip isSp (textOf c) = textOf (stripB c) := by
    rw [e]
    exact rstrip_at isSp _ _ (fun b h => sp_of_ws (hw b h)) (fun r b h => (hlast r b h).1)
  have hne : (textOf (stripB c)).getLast? ≠ some 61 := by
    intro h
    rcases List.eq_nil_or_concat (textOf (stripB c)) with e0 | ⟨q, b, e0⟩
    · rw [e0] at h; simp at h
    · rw [List.concat_eq_append] at e0
      rw [e0] at h
      simp at h
      exact (hlast q b e0).2 h
  have hp : prep (textOf c) 1 = (textOf (stripB c), 1) := by
    unfold prep
    simp only [hst]
    rw [if_neg hne, if_neg]
    intro h10
    have h : (10 : UInt8) ∈ (textOf c).drop ((textOf c).length - 1) := by rw [h10]; simp
    exact (hb 10 (List.mem_of_mem_drop h)).1 rfl
  rw [strm_fill rfl rfl (ok_end (textOf c) (fun b h => (hb b h).1) (by omega) (in_lt hc))]
  unfold refill
  rw [hsl]
  simp only [hp]
  have := emit_toks (stripB c) (strip_in hc) [] 1 []
  rw [List.append_nil] at this
  rw [this, strm_done (st := ⟨[], 1, []⟩) rfl (by simp)]
  simp

/-- the last line with an equals sign at its end, no blank ahead of it -/
theorem line_endsoft (hl : (textOf c).length ≤ 76) (hne : ∃ r t, c = r ++ [t] ∧ t.kind ≠ 2) : strm ⟨[], 0, textOf c ++ [61]⟩ = (vals c, 1) := by
  have hb := in_bytes hc
  have hsl := slice_end (textOf c ++ [61]) (app_ne (fun b h => (hb b h).1) (by decide)) (by simp; omega)
  have hst : rstrip isSp (textOf c ++ [61]) = textOf c ++ [61] := by
    have := rstrip_at isSp (textOf c ++ [61]) [] (by simp) (fun r b h => by have := (List.append_inj' h rfl).2; simp at this; subst this; decide)
    rwa [List.append_nil] at this
  have hp : prep (textOf c ++ [61]) 1 = (textOf c, 1) := by
    unfold prep
    simp only [hst]
    rw [if_pos (by simp), List.drop_length, List.dropLast_concat, if_pos]
    refine .inr (.inr ⟨rfl, ?_, trivial⟩)
    obtain ⟨r, t, e, hk⟩ := hne
    have ht := hc t (by rw [e]; simp)
    obtain ⟨r', x, hx, _⟩ := ht.1.last.2 hk
    rw [e, textOf_append, textOf_cons, textOf_nil, hx]
    simp
  rw [strm_fill rfl rfl (ok_end (textOf c ++ [61]) (app_ne (fun b h => (hb b h).1) (by decide)) (by simp; omega) (app_lt (in_lt hc) (by decide)))]
  unfold refill
  rw [hsl]
  simp only [hp]
  have := emit_toks c hc [] 1 []
  rw [List.append_nil] at this
  rw [this, strm_done (st := ⟨[], 1, []⟩) rfl (by simp)]
  simp

/-- a byte that may not stand there -/
theorem line_bad (b : UInt8) (Y : B) (hok : okSlice (textOf c ++ b :: Y) = true) (hbad : (b < 32 ∨ b = 127) ∧ b ≠ 9 ∧ b ≠ 10 ∧ b ≠ 13) :
    strm ⟨[], 0, textOf c ++ b :: Y⟩ = (vals c, 5) := by
  have hby := in_bytes hc
  have h61 : b ≠ 61 := by rintro rfl; rcases hbad.1 with h | h <;> exact absurd h (by decide)
  have h32 : b ≠ 32 := by rintro rfl; rcases hbad.1 with h | h <;> exact absurd h (by decide)
  have hsp : isSp b = false := by simp [isSp, hbad.2, h32]
  -- the line begins with the tokens and that byte
  have hsl : ∃ z rest e, slice (textOf c ++ b :: Y) = (textOf c ++ b :: z, rest, e) := by
    have hpre : ∀ k, (textOf c).length + 1 ≤ k → (textOf c ++ b :: Y).take k = textOf c ++ b :: Y.take (k - ((textOf c).length + 1)) := by
      intro k hk
      rw [show textOf c ++ b :: Y = (textOf c ++ [b]) ++ Y by simp, List.take_append, List.take_of_length_le (by simp; omega)]
      simp
    have hidx : (textOf c).length + 1 ≤ (textOf c ++ b :: Y).findIdx (· == 10) := by
      rw [show textOf c ++ b :: Y = (textOf c ++ [b]) ++ Y by simp, List.findIdx_append]
      have : (textOf c ++ [b]).findIdx (· == 10) = (textOf c ++ [b]).length := findIdx_none _ (by
        intro x h; rcases List.mem_append.1 h with h | h
        · exact (hby x h).1
        · simp at h; subst h; exact hbad.2.2.1)
      rw [this]
      simp
    unfold okSlice slice at hok
    unfold slice
    split
    · exact ⟨_, _, _, by rw [hpre _ (by omega)]⟩
    · rename_i h1
      split
      · exact ⟨Y, [], 1, rfl⟩
      · rename_i h2
        rw [if_neg h1, if_neg h2] at hok
        simp at hok
  obtain ⟨z, rest, e, hsl⟩ := hsl
  have hst : ∃ z', rstrip isSp (textOf c ++ b :: z) = textOf c ++ b :: z' := by
    obtain ⟨w, hw, hwp, _⟩ := rstrip_split isSp z
    refine ⟨rstrip isSp z, ?_⟩
    conv => lhs; rw [hw]
    rw [show textOf c ++ b :: (rstrip isSp z ++ w) = (textOf c ++ b :: rstrip isSp z) ++ w by simp]
    refine rstrip_at isSp _ _ hwp ?_
    intro r x hx
    rcases List.eq_nil_or_concat (rstrip isSp z) with e0 | ⟨q, y, e0⟩
    · rw [e0] at hx
      have := (List.append_inj' hx rfl).2
      simp at this; subst this; exact hsp
    · rw [List.concat_eq_append] at e0
      obtain ⟨_, _, _, hn⟩ := rstrip_split isSp z
      have hy := hn q y e0
      rw [e0, show textOf c ++ b :: (q ++ [y]) = (textOf c ++ b :: q) ++ [y] by simp] at hx
      have := (List.append_inj' hx rfl).2
      simp at this; subst this; exact hy
  obtain ⟨z', hst⟩ := hst
  have hp : ∃ z'' e', prep (textOf c ++ b :: z) e = (textOf c ++ b :: z'', e') := by
    unfold prep
    simp only [hst]
    split
    · rename_i h
      rcases List.eq_nil_or_concat z' with e0 | ⟨q, y, e0⟩
      · subst e0
        simp at h
        exact absurd h h61
      · rw [List.concat_eq_append] at e0
        subst e0
        exact ⟨q, _, by rw [show textOf c ++ b :: (q ++ [y]) = (textOf c ++ b :: q) ++ [y] by simp, List.dropLast_concat]⟩
    · split
      · split
        · exact ⟨z' ++ [13, 10], e, by simp⟩
        · exact ⟨z' ++ [10], e, by simp⟩
      · exact ⟨z', e, rfl⟩
  obtain ⟨z'', e', hp⟩ := hp
  rw [strm_fill rfl rfl hok]
  unfold refill
  rw [hsl]
  simp only [hp]
  rw [emit_toks c hc, strm_bad (st := ⟨b :: z'', e', rest⟩) (b := b) (r := z'') rfl (fun e => absurd e h61)]
  · simp [h61]
  · unfold emit
    rw [if_neg (by simpa using h61), if_neg (by simp [hbad.2])]
    rcases hbad.1 with h | rfl
    · rw [if_neg, if_pos (by simp [h])]
      intro h128
      rw [UInt8.lt_iff_toNat_lt] at h; rw [UInt8.le_iff_toNat_le] at h128
      simp at h h128; omega
    · rfl

end
end Go.Proofs.YtcbolmendjocbaaDoor.Qp

/- Plain laws of the Reader, as the statements ask them: lists of bytes alone, no program. -/
import Derived.Test.YthfkgancjpdodaaDoorDfin
namespace Go.Proofs.YthfkgancjpdodaaDoor.Qp

theorem gline_append_ended {a b : List Tok} (ha : ended a) : ∀ n, gline n (a ++ b) = (gline n a && if a = [] then gline n b else gline 0 b) := by
  rcases ha with rfl | ⟨r, t, rfl, ht⟩
  · intro n; simp [gline]
  · induction r with
    | nil => intro n; simp [gline, ht]
    | cons u r ih =>
      intro n
      have e : ∀ m, gline m (r ++ [t] ++ b) = (gline m (r ++ [t]) && gline 0 b) := fun m => by rw [ih m]; simp
      simp only [List.cons_append, reduceCtorEq, if_false]
      rw [show gline n (u :: (r ++ [t] ++ b)) = if isEnd u then gline 0 (r ++ [t] ++ b) else decide (n + u.text.length ≤ 76) && gline (n + u.text.length) (r ++ [t] ++ b) from rfl,
        show gline n (u :: (r ++ [t])) = if isEnd u then gline 0 (r ++ [t]) else decide (n + u.text.length ≤ 76) && gline (n + u.text.length) (r ++ [t]) from rfl, e, e]
      split
      · rfl
      · rw [Bool.and_assoc]

/-- FnJoin -/
theorem law_join {a b : B} {la lb : List Tok} (ha : tokens a = some la) (hb : tokens b = some lb) (he : ended la) : decode (a ++ b) = (value la ++ value lb, 1) := by
  obtain ⟨a1, a2, a3⟩ := tokens_some ha
  obtain ⟨b1, b2, b3⟩ := tokens_some hb
  have g := decode_g (l := la ++ lb) (fun t ht => by
    rcases List.mem_append.1 ht with h | h
    · exact (a1 t h).g
    · exact (b1 t h).g) (by
    rw [gline_append_ended he, gline_of_lineOk _ _ a3, gline_of_lineOk _ _ b3]; simp)
  rw [textOf_append, a2, b2, value_closed_append he.closed (fun t ht => (b1 t ht).g)] at g
  exact g

/-- what is in a changed text, if it is one -/
theorem tokens_changed {l' : List Tok} (hl : ∀ t ∈ l', okTok t) (hm : tokens (textOf l') ≠ none) : tokens (textOf l') = some l' := by
  rw [tokens_textOf hl] at hm ⊢
  split at hm
  · rename_i h; rw [if_pos h]
  · exact absurd rfl hm

/-- FnSoft -/
theorem law_soft {src : B} {l : List Tok} (h : tokens src = some l) (k : Nat) (hk : closed (l.take k)) (hm : tokens (textOf (l.take k ++ softTok :: l.drop k)) ≠ none) : decode (textOf (l.take k ++ softTok :: l.drop k)) = (value l, 1) := by
  obtain ⟨h1, -, -⟩ := tokens_some h
  rw [decode_tokens (tokens_changed (fun t ht => ?_) hm), value_soft _ _ hk _ rfl rfl, List.take_append_drop]
  rcases List.mem_append.1 ht with ht | ht
  · exact h1 t (List.mem_of_mem_take ht)
  · rcases List.mem_cons.1 ht with rfl | ht
    · exact .inr (.inr (.inr (.inl rfl)))
    · exact h1 t (List.mem_of_mem_drop ht)

theorem split_at {l : List Tok} {k : Nat} {t : Tok} (h : l[k]? = some t) : l = l.take k ++ t :: l.drop (k + 1) := by
  obtain ⟨hk, rfl⟩ := List.getElem?_eq_some_iff.1 h
  rw [← List.drop_eq_getElem_cons hk, List.take_append_drop]
theorem set_split {l : List Tok} {k : Nat} (u : Tok) (hk : k < l.length) : l.set k u = l.take k ++ u :: l.drop (k + 1) := by
  rw [List.set_eq_take_append_cons_drop, if_pos hk]

/-- FnEscape -/
theorem law_escape {src : B} {l : List Tok} (h : tokens src = some l) (k : Nat) {t : Tok} (hk : l[k]? = some t) (h1 : t.kind = 1) (b : UInt8) (hb : t.value = [b]) (hm : tokens (textOf (l.set k (escTok b))) ≠ none) :
    decode (textOf (l.set k (escTok b))) = (value l, 1) := by
  obtain ⟨ho, -, -⟩ := tokens_some h
  have hlt := (List.getElem?_eq_some_iff.1 hk).1
  rw [decode_tokens (tokens_changed (fun u hu => ?_) hm), set_split _ hlt, value_escape _ _ t _ h1 rfl (by rw [hb]; rfl), ← split_at hk]
  rcases List.mem_or_eq_of_mem_set hu with hu | rfl
  · exact ho u hu
  · exact escTok_ok b

theorem pad_text (pad : B) : textOf (pad.map blankTok) = pad := by
  induction pad with
  | nil => rfl
  | cons b r ih => rw [List.map_cons, textOf_cons, ih]; rfl

/-- FnPadding -/
theorem law_padding {src : B} {l : List Tok} (h : tokens src = some l) (k : Nat) (pad : B) (hp : ∀ b ∈ pad, isWs b = true) (hb : l.drop k = [] ∨ ∃ u r, l.drop k = u :: r ∧ u.kind = 5)
    (hm : tokens (textOf (l.take k) ++ pad ++ textOf (l.drop k)) ≠ none) : decode (textOf (l.take k) ++ pad ++ textOf (l.drop k)) = (value l, 1) := by
  obtain ⟨ho, -, -⟩ := tokens_some h
  have e : textOf (l.take k) ++ pad ++ textOf (l.drop k) = textOf (l.take k ++ (pad.map blankTok ++ l.drop k)) := by
    rw [textOf_append, textOf_append, pad_text, List.append_assoc]
  rw [e] at hm ⊢
  have ha : ∀ t ∈ l.take k, okTok t := fun t ht => ho t (List.mem_of_mem_take ht)
  have hw : ∀ t ∈ pad.map blankTok, ∃ c, t = blankTok c := fun t ht => by
    obtain ⟨b, -, rfl⟩ := List.mem_map.1 ht
    exact ⟨b, rfl⟩
  rw [decode_tokens (tokens_changed (fun u hu => ?_) hm), value_pad _ _ _ (fun t ht => (ha t ht).g) hw hb, List.take_append_drop]
  rcases List.mem_append.1 hu with hu | hu
  · exact ha u hu
  · rcases List.mem_append.1 hu with hu | hu
    · obtain ⟨b, hb, rfl⟩ := List.mem_map.1 hu
      exact .inr (.inl ⟨b, (isWs_iff b).1 (hp b hb), rfl⟩)
    · exact ho u (List.mem_of_mem_drop hu)

/-- FnPrefix -/
theorem law_prefix {src : B} {l : List Tok} (h : tokens src = some l) (k : Nat) : decode (textOf (l.take k)) = (value (l.take k), 1) ∧ value (l.take k) <+: value l := by
  obtain ⟨h1, -, h3⟩ := tokens_some h
  have hg : gline 0 (l.take k) = true := by
    refine gline_of_lineOk _ _ ?_
    rw [← List.take_append_drop k l, lineOk_append, Bool.and_eq_true] at h3
    exact h3.1
  exact ⟨decode_g (fun t ht => (h1 t (List.mem_of_mem_take ht)).g) hg, value_take_prefix (fun t ht => (h1 t ht).g) k⟩

/-- FnPlain -/
theorem law_plain {src : B} {l : List Tok} (h : tokens src = some l) (hb : blankEnds l = false) (hk : ∀ t ∈ l, t.kind ≠ 3 ∧ t.kind ≠ 4) : decode src = (src, 1) := by
  obtain ⟨h1, h2, -⟩ := tokens_some h
  rw [decode_tokens h, value_of_plain h1 hb]
  congr 1
  rw [← h2]
  clear h hb h2
  induction l with
  | nil => rfl
  | cons t r ih =>
    have e : vals (t :: r) = t.value ++ vals r := by simp [vals]
    rw [e, textOf_cons, ih (fun x hx => hk x (List.mem_cons_of_mem _ hx)) (fun x hx => h1 x (List.mem_cons_of_mem _ hx))]
    obtain ⟨k3, k4⟩ := hk t (List.mem_cons_self ..)
    rcases h1 t (List.mem_cons_self ..) with ⟨b, _, _, _, rfl⟩ | ⟨b, _, rfl⟩ | ⟨x, y, h, l, _, _, rfl⟩ | rfl | rfl
    · rfl
    · rfl
    · exact absurd rfl k3
    · exact absurd rfl k4
    · rfl

/-- a small hexadecimal digit -/
def hexL (n : UInt8) : UInt8 := if n < 10 then 48 + n else 87 + n
def lowTok (b : UInt8) : Tok := ⟨3, [61, hexL (b >>> 4), hexL (b &&& 15)], [b]⟩
theorem hexL_any : ∀ n : UInt8, n < 16 → hexAny (hexL n) = some n := u8_all (by decide +kernel)
theorem nib_or8 : ∀ b : UInt8, (b >>> 4) <<< 4 ||| (b &&& 15) = b := u8_all (by decide +kernel)
theorem lowTok_g (b : UInt8) : gTok (lowTok b) :=
  .inr (.inr (.inl ⟨_, _, _, _, hexL_any _ (nib_hi b), hexL_any _ (nib_lo b), by rw [nib_or8]; rfl⟩))

/-- FnLower -/
theorem law_lower {src : B} {l : List Tok} (h : tokens src = some l) (k : Nat) {t : Tok} (hk : l[k]? = some t) (h3 : t.kind = 3) (b : UInt8) (hb : t.value = [b]) : decode (textOf (l.set k (lowTok b))) = (value l, 1) := by
  obtain ⟨ho, -, hl⟩ := tokens_some h
  obtain ⟨hlt, hkt⟩ := List.getElem?_eq_some_iff.1 hk
  have htl : t.text.length = 3 := by
    rcases ho t (hkt ▸ List.getElem_mem hlt) with ⟨b, _, _, _, rfl⟩ | ⟨b, _, rfl⟩ | ⟨x, y, h, l, _, _, rfl⟩ | rfl | rfl
    · cases h3
    · cases h3
    · rfl
    · cases h3
    · cases h3
  have hend : isEnd t = false := by simp [isEnd, h3]
  have same : ∀ {β : Type} (f : Tok → β), f (lowTok b) = f t → (l.set k (lowTok b)).map f = l.map f := fun f hf => by
    rw [List.map_set, hf, ← hkt, ← List.getElem_map f (h := by simpa using hlt), List.set_getElem_self]
  have hg : ∀ u ∈ l.set k (lowTok b), gTok u := fun u hu => by
    rcases List.mem_or_eq_of_mem_set hu with hu | rfl
    · exact (ho u hu).g
    · exact lowTok_g b
  have hn : gline 0 (l.set k (lowTok b)) = true := by
    rw [gline_congr _ l (same (fun t => (isEnd t, if isEnd t then 0 else t.text.length)) (by simp only [hend, htl]; rfl))]
    exact gline_of_lineOk _ _ hl
  rw [decode_g hg hn, value_congr (same (fun t => (t.kind, t.value)) (by simp only [lowTok, h3, hb]))]

/-- LF in the place of CR LF -/
def feed (t : Tok) : Tok := if t.kind = 5 then ⟨5, [10], [10]⟩ else if t.kind = 4 then ⟨4, [61, 10], []⟩ else t
theorem feed_end {t : Tok} (h : isEnd t = false) : feed t = t := by
  simp [isEnd] at h
  unfold feed
  rw [if_neg h.2, if_neg h.1]
/-- FnLineFeed -/
theorem law_feeds {src : B} {l : List Tok} (h : tokens src = some l) : decode (textOf (l.map feed)) = (value (l.map feed), 1) := by
  obtain ⟨ho, -, hl⟩ := tokens_some h
  refine decode_g (fun u hu => ?_) ?_
  · obtain ⟨t, ht, rfl⟩ := List.mem_map.1 hu
    rcases ho t ht with ⟨b, h1, h2, h3, rfl⟩ | ⟨b, hb, rfl⟩ | ⟨x, y, h, l, hx, hy, rfl⟩ | rfl | rfl
    · exact .inl ⟨b, ⟨h1, h2, h3⟩, rfl⟩
    · exact .inr (.inl ⟨b, hb, rfl⟩)
    · exact okTok.g (.inr (.inr (.inl ⟨x, y, h, l, hx, hy, rfl⟩)))
    · exact .inr (.inr (.inr (.inl ⟨[10], .inr rfl, rfl⟩)))
    · exact .inr (.inr (.inr (.inr ⟨[10], .inr rfl, rfl⟩)))
  · rw [gline_congr _ l ?_]
    · exact gline_of_lineOk _ _ hl
    · rw [List.map_map]
      refine List.map_congr_left fun t _ => ?_
      simp only [Function.comp]
      by_cases h5 : t.kind = 5
      · simp [feed, isEnd, h5]
      · by_cases h4 : t.kind = 4
        · simp [feed, isEnd, h4]
        · rw [feed_end (by simp [isEnd, h4, h5])]

/-- FnExactEscape -/
theorem law_esc1 (b : UInt8) : decode (escB b) = ([b], 1) := by
  have := decode_g (l := [escTok b]) (fun t ht => by rw [List.mem_singleton] at ht; subst ht; exact (escTok_ok b).g) rfl
  rw [show textOf [escTok b] = escB b by simp [textOf, escTok], show value [escTok b] = [b] from rfl] at this
  exact this

/-- escapes, 25 a line -/
def escapesGo : Nat → B → List Tok
  | _, [] => []
  | i, b :: r => if 0 < i ∧ i % 25 = 0 then softTok :: escTok b :: escapesGo (i + 1) r else escTok b :: escapesGo (i + 1) r
theorem escapes_ok (data : B) : ∀ i, ∀ t ∈ escapesGo i data, okTok t ∧ t.kind ≠ 2 ∧ t.kind ≠ 5 := by
  induction data with
  | nil => intro i t h; cases h
  | cons b r ih =>
    intro i t h
    have he : okTok (escTok b) ∧ (escTok b).kind ≠ 2 ∧ (escTok b).kind ≠ 5 := ⟨escTok_ok b, by simp [escTok], by simp [escTok]⟩
    unfold escapesGo at h
    split at h
    · rcases List.mem_cons.1 h with rfl | h
      · exact ⟨.inr (.inr (.inr (.inl rfl))), by simp [softTok], by simp [softTok]⟩
      · rcases List.mem_cons.1 h with rfl | h
        · exact he
        · exact ih _ t h
    · rcases List.mem_cons.1 h with rfl | h
      · exact he
      · exact ih _ t h
theorem escapes_vals (data : B) : ∀ i, vals (escapesGo i data) = data := by
  induction data with
  | nil => intro i; rfl
  | cons b r ih =>
    intro i
    unfold escapesGo
    have e : ∀ t l, vals (t :: l) = t.value ++ vals l := fun t l => by simp [vals]
    split
    · rw [e, e, ih]; rfl
    · rw [e, ih]; rfl
theorem escapes_line (data : B) : ∀ i n, (i = 0 → n = 0) → (0 < i → n = 3 * ((i - 1) % 25 + 1)) → gline n (escapesGo i data) = true := by
  induction data with
  | nil => intro i n _ _; rfl
  | cons b r ih =>
    intro i n h0 h1
    have step : ∀ m, m + 3 ≤ 76 → m + 3 = 3 * (i % 25 + 1) → gline m (escTok b :: escapesGo (i + 1) r) = true := fun m hm e => by
      rw [show gline m (escTok b :: escapesGo (i + 1) r) = (decide (m + 3 ≤ 76) && gline (m + 3) (escapesGo (i + 1) r)) from rfl, decide_eq_true hm, Bool.true_and]
      exact ih (i + 1) (m + 3) (by omega) (fun _ => by simpa using e)
    unfold escapesGo
    split
    · rename_i hc
      rw [show gline n (softTok :: escTok b :: escapesGo (i + 1) r) = gline 0 (escTok b :: escapesGo (i + 1) r) from rfl]
      exact step 0 (by omega) (by omega)
    · rename_i hc
      exact step n (by omega) (by omega)
theorem blankEnds_no {l : List Tok} (h : ∀ t ∈ l, t.kind ≠ 2) : blankEnds l = false := by
  induction l with
  | nil => rfl
  | cons t r ih =>
    unfold blankEnds
    rw [ih (fun x hx => h x (List.mem_cons_of_mem _ hx)), decide_eq_false (h t (List.mem_cons_self ..))]
    rfl
/-- FnExactEscapes -/
theorem law_escapes (data : B) : decode (textOf (escapesGo 0 data)) = (data, 1) := by
  have h := escapes_ok data 0
  rw [decode_g (fun t ht => (h t ht).1.g) (escapes_line data 0 0 (fun _ => rfl) (fun h => by omega)), value_of_plain (fun t ht => (h t ht).1) (blankEnds_no fun t ht => (h t ht).2.1), escapes_vals]

end Go.Proofs.YthfkgancjpdodaaDoor.Qp

/- The plain mathematics of the quoted-printable Writer and of tokens: lists of bytes alone, no program. Plain laws of tokens: the tokens of a text are a code in which no token begins another. Plain laws of the Writer: what it writes is the text of tokens. The plain mathematics of the quoted-printable Reader: lists of bytes alone, no program. Plain laws of lists that the Reader meets. -/
namespace Go.Proofs.YtcbolmendjocbaaDoor.Qp

abbrev B := List UInt8

/-- a blank -/
def isWs (b : UInt8) : Bool := b == 32 || b == 9
/-- a capital hexadecimal digit -/
def hexU (n : UInt8) : UInt8 := if n < 10 then 48 + n else 55 + n
/-- an escape -/
def escB (b : UInt8) : B := [61, hexU (b >>> 4), hexU (b &&& 15)]

/-- the Writer's state: what it has written, its line, and whether the last byte was CR -/
structure WS where
  out : B
  line : B
  cr : Bool

def WS.crlf (s : WS) : WS := { s with out := s.out ++ (s.line ++ [13, 10]), line := [] }
def WS.soft (s : WS) : WS := { s with out := s.out ++ (s.line ++ [61, 13, 10]), line := [] }
def WS.enc (s : WS) (b : UInt8) : WS :=
  if 72 < s.line.length then { s.soft with line := escB b } else { s with line := s.line ++ escB b }
def WS.last (s : WS) : WS :=
  match s.line.getLast? with
  | some b => if isWs b then ({ s with line := s.line.dropLast } : WS).enc b else s
  | none => s
def WS.wr (s : WS) (b : UInt8) : WS :=
  if b == 10 || b == 13 then
    if s.cr && b == 10 then { s with cr := false }
    else (({ s with cr := s.cr || b == 13 } : WS).last).crlf
  else
    if s.line.length == 75 then { s.soft with line := [b], cr := false } else { s with line := s.line ++ [b], cr := false }

/-- a byte that Write hands on in a batch -/
def simple (bin : Bool) (b : UInt8) : Bool := (33 ≤ b && b ≤ 126 && b != 61) || (isWs b || !bin && (b == 10 || b == 13))

def WS.step (bin : Bool) (s : WS) (b : UInt8) : WS := if simple bin b then s.wr b else s.enc b
def WS.fin (s : WS) : B := s.last.out ++ s.last.line
def WS.init : WS := ⟨[], [], false⟩
/-- what Encode returns -/
def encode (bin : Bool) (data : B) : B := (data.foldl (WS.step bin) WS.init).fin

/-! tokens -/

/-- the value of a capital hexadecimal digit, or none -/
def hexV (b : UInt8) : Option Nat :=
  if 48 ≤ b && b ≤ 57 then some (b.toNat - 48) else if 65 ≤ b && b ≤ 70 then some (b.toNat - 65 + 10) else none

structure Tok where
  kind : Nat
  text : B
  value : B
deriving DecidableEq

def Tok.none : Tok := ⟨0, [], []⟩

/-- the token with which a text begins -/
def next : B → Tok
  | [] => Tok.none
  | 13 :: 10 :: _ => ⟨5, [13, 10], [13, 10]⟩
  | 61 :: 13 :: 10 :: _ => ⟨4, [61, 13, 10], []⟩
  | b :: r =>
    if b == 32 || b == 9 then ⟨2, [b], [b]⟩
    else if b == 61 then
      match r with
      | x :: y :: _ =>
        match hexV x, hexV y with
        | some h, some l => ⟨3, [61, x, y], [UInt8.ofNat (h * 16 + l)]⟩
        | _, _ => Tok.none
      | _ => Tok.none
    else if 32 < b && b ≤ 126 then ⟨1, [b], [b]⟩
    else Tok.none

/-- how long a line is behind a token, ahead of the test -/
def Tok.adds (t : Tok) (line : Nat) : Nat := if t.kind = 4 then line + 1 else if t.kind = 5 then line else line + t.text.length
def Tok.leaves (t : Tok) (line : Nat) : Nat := if t.kind = 4 ∨ t.kind = 5 then 0 else t.adds line

def tokensGo : Nat → B → Nat → Option (List Tok)
  | 0, _, _ => some []
  | fuel + 1, src, line =>
    match src with
    | [] => some []
    | _ :: _ =>
      let t := next src
      if t.kind = 0 then none
      else if 76 < t.adds line then none
      else (tokensGo fuel (src.drop t.text.length) (t.leaves line)).map (t :: ·)

/-- the tokens of an encoded text -/
def tokens (src : B) : Option (List Tok) := tokensGo src.length src 0

def textOf (l : List Tok) : B := l.flatMap (·.text)

/-- what tokens stand for, with the blanks at the end, and how many these are -/
def valueStep (s : B × Nat) (t : Tok) : B × Nat :=
  if t.kind = 5 then (s.1.take (s.1.length - s.2) ++ t.value, 0)
  else if t.kind = 2 then (s.1 ++ t.value, s.2 + 1)
  else (s.1 ++ t.value, 0)
def valueGo (l : List Tok) : B × Nat := l.foldl valueStep ([], 0)
def value (l : List Tok) : B := (valueGo l).1.take ((valueGo l).1.length - (valueGo l).2)
def kept (l : List Tok) : B := (valueGo l).1

/-- data with CR LF in the place of each LF that has no CR ahead; none where a CR has no LF behind -/
def linesGo : Bool → B → Option B
  | cr, [] => if cr then none else some []
  | cr, b :: r =>
    if b == 10 then (linesGo false r).map (if cr then (10 :: ·) else (13 :: 10 :: ·))
    else if cr then none
    else if b == 13 then (linesGo true r).map (13 :: ·)
    else (linesGo false r).map (b :: ·)
def lines (data : B) : Option B := linesGo false data

end Go.Proofs.YtcbolmendjocbaaDoor.Qp

namespace Go.Proofs.YtcbolmendjocbaaDoor.Qp

def litTok (b : UInt8) : Tok := ⟨1, [b], [b]⟩
def blankTok (b : UInt8) : Tok := ⟨2, [b], [b]⟩
def softTok : Tok := ⟨4, [61, 13, 10], []⟩
def brkTok : Tok := ⟨5, [13, 10], [13, 10]⟩

/-- a token as the RFC has it -/
def okTok (t : Tok) : Prop :=
  (∃ b : UInt8, 33 ≤ b ∧ b ≤ 126 ∧ b ≠ 61 ∧ t = litTok b) ∨ (∃ b : UInt8, (b = 32 ∨ b = 9) ∧ t = blankTok b) ∨
  (∃ x y h l, hexV x = some h ∧ hexV y = some l ∧ t = ⟨3, [61, x, y], [UInt8.ofNat (h * 16 + l)]⟩) ∨ t = softTok ∨ t = brkTok

theorem hexV_ne {x : UInt8} {h : Nat} (hx : hexV x = some h) : x ≠ 13 ∧ x ≠ 10 := by
  constructor <;> (rintro rfl; simp [hexV] at hx)

theorem next_text {t : Tok} (ht : okTok t) (r : B) : next (t.text ++ r) = t := by
  rcases ht with ⟨b, h1, h2, h3, rfl⟩ | ⟨b, hb, rfl⟩ | ⟨x, y, h, l, hx, hy, rfl⟩ | rfl | rfl
  · have n13 : b ≠ 13 := by rintro rfl; exact absurd h1 (by decide)
    have n32 : b ≠ 32 := by rintro rfl; exact absurd h1 (by decide)
    have n9 : b ≠ 9 := by rintro rfl; exact absurd h1 (by decide)
    have g : (32 : UInt8) < b := by rw [UInt8.lt_iff_toNat_lt]; rw [UInt8.le_iff_toNat_le] at h1; simp at h1 ⊢; omega
    show next (b :: r) = _
    unfold next
    split <;> simp_all [litTok]
  · rcases hb with rfl | rfl <;> simp [blankTok, next]
  · have := hexV_ne hx
    show next (61 :: x :: y :: r) = _
    unfold next
    split <;> simp_all
    · rename_i hq
      obtain ⟨rfl, rfl⟩ := hq
      simp [hx, hy]
  · simp [softTok, next]
  · simp [brkTok, next]

theorem next_ok (src : B) (h : (next src).kind ≠ 0) : okTok (next src) ∧ src = (next src).text ++ src.drop (next src).text.length := by
  unfold next at h ⊢
  split
  · simp [Tok.none] at h
  · exact ⟨.inr (.inr (.inr (.inr rfl))), by simp⟩
  · exact ⟨.inr (.inr (.inr (.inl rfl))), by simp⟩
  · rename_i b r h1 h2
    simp only at h ⊢
    split at h
    · rename_i hb
      rw [if_pos hb]
      simp at hb
      exact ⟨.inr (.inl ⟨b, hb, rfl⟩), by simp⟩
    · rename_i hb
      rw [if_neg hb]
      split at h
      · rename_i hb2
        rw [if_pos hb2]
        simp at hb2
        subst hb2
        split at h
        · rename_i x y r'
          split at h
          · rename_i hh ll hx hy
            exact ⟨.inr (.inr (.inl ⟨x, y, hh, ll, hx, hy, rfl⟩)), by simp⟩
          · simp [Tok.none] at h
        · simp [Tok.none] at h
      · rename_i hb2
        rw [if_neg hb2]
        split at h
        · rename_i hb3
          rw [if_pos hb3]
          simp at hb3 hb2
          refine ⟨.inl ⟨b, ?_, hb3.2, hb2, rfl⟩, by simp⟩
          have := hb3.1
          rw [UInt8.lt_iff_toNat_lt] at this
          rw [UInt8.le_iff_toNat_le]
          simp at this ⊢; omega
        · simp [Tok.none] at h

theorem okTok.kind_pos {t : Tok} (h : okTok t) : t.kind ≠ 0 := by
  rcases h with ⟨b, _, _, _, rfl⟩ | ⟨b, _, rfl⟩ | ⟨x, y, h, l, _, _, rfl⟩ | rfl | rfl <;> simp [litTok, blankTok, softTok, brkTok]
theorem okTok.text_pos {t : Tok} (h : okTok t) : 0 < t.text.length := by
  rcases h with ⟨b, _, _, _, rfl⟩ | ⟨b, _, rfl⟩ | ⟨x, y, h, l, _, _, rfl⟩ | rfl | rfl <;> simp [litTok, blankTok, softTok, brkTok]

/-- no line is longer than 76 bytes, the first one begun with n bytes -/
def lineOk : Nat → List Tok → Bool
  | _, [] => true
  | n, t :: r => decide (t.adds n ≤ 76) && lineOk (t.leaves n) r
/-- how long the last line is -/
def lineEnd : Nat → List Tok → Nat
  | n, [] => n
  | n, t :: r => lineEnd (t.leaves n) r

theorem lineOk_append (n : Nat) (a b : List Tok) : lineOk n (a ++ b) = (lineOk n a && lineOk (lineEnd n a) b) := by
  induction a generalizing n with
  | nil => simp [lineOk, lineEnd]
  | cons t r ih => simp [lineOk, lineEnd, ih, Bool.and_assoc]
theorem lineEnd_append (n : Nat) (a b : List Tok) : lineEnd n (a ++ b) = lineEnd (lineEnd n a) b := by
  induction a generalizing n with
  | nil => rfl
  | cons t r ih => simp [lineEnd, ih]

theorem textOf_cons (t : Tok) (l : List Tok) : textOf (t :: l) = t.text ++ textOf l := by simp [textOf]
theorem textOf_append (a b : List Tok) : textOf (a ++ b) = textOf a ++ textOf b := by simp [textOf]
theorem textOf_nil : textOf [] = [] := rfl

theorem tokensGo_textOf (l : List Tok) (hl : ∀ t ∈ l, okTok t) : ∀ fuel n, (textOf l).length ≤ fuel → tokensGo fuel (textOf l) n = if lineOk n l then some l else none := by
  induction l with
  | nil => intro fuel n _; cases fuel <;> simp [tokensGo, textOf, lineOk]
  | cons t r ih =>
    intro fuel n hf
    have ht := hl t (List.mem_cons_self ..)
    have hp := ht.text_pos
    rw [textOf_cons] at hf ⊢
    rw [List.length_append] at hf
    cases fuel with
    | zero => omega
    | succ fuel =>
      have hn := next_text ht (textOf r)
      have hd : (t.text ++ textOf r).drop t.text.length = textOf r := by simp
      have e := ih (fun x hx => hl x (List.mem_cons_of_mem _ hx)) fuel (t.leaves n) (by omega)
      unfold tokensGo
      split
      · rename_i h0
        have := congrArg List.length h0
        rw [List.length_append, List.length_nil] at this
        omega
      · rename_i b r' h0
        simp only [hn]; rw [hd, e]
        simp only [ht.kind_pos, if_false, lineOk]
        by_cases h76 : t.adds n ≤ 76
        · rw [if_neg (by omega)]; simp only [h76, decide_true, Bool.true_and]; split <;> rfl
        · rw [if_pos (by omega)]; simp [h76]

theorem tokensGo_some : ∀ fuel src n l, src.length ≤ fuel → tokensGo fuel src n = some l → (∀ t ∈ l, okTok t) ∧ textOf l = src ∧ lineOk n l = true := by
  intro fuel
  induction fuel with
  | zero =>
    intro src n l hf h
    have : src = [] := List.eq_nil_of_length_eq_zero (by omega)
    simp [tokensGo] at h; subst h; subst this
    exact ⟨by simp, rfl, rfl⟩
  | succ fuel ih =>
    intro src n l hf h
    unfold tokensGo at h
    split at h
    · simp at h; subst h; exact ⟨by simp, rfl, rfl⟩
    · rename_i b r
      simp only at h
      split at h
      · cases h
      · rename_i hk
        split at h
        · cases h
        · rename_i h76
          obtain ⟨hok, hsrc⟩ := next_ok (b :: r) hk
          have hp := hok.text_pos
          rw [Option.map_eq_some_iff] at h
          obtain ⟨l', hl', rfl⟩ := h
          obtain ⟨i1, i2, i3⟩ := ih _ _ _ (by rw [List.length_drop]; omega) hl'
          refine ⟨?_, ?_, ?_⟩
          · intro t ht
            rcases List.mem_cons.1 ht with rfl | ht
            · exact hok
            · exact i1 t ht
          · rw [textOf_cons, i2]; exact hsrc.symm
          · simp [lineOk, i3]; omega

theorem tokens_textOf {l : List Tok} (hl : ∀ t ∈ l, okTok t) : tokens (textOf l) = if lineOk 0 l then some l else none :=
  tokensGo_textOf l hl _ _ (Nat.le_refl _)
theorem tokens_some {src : B} {l : List Tok} (h : tokens src = some l) : (∀ t ∈ l, okTok t) ∧ textOf l = src ∧ lineOk 0 l = true :=
  tokensGo_some _ _ _ _ (Nat.le_refl _) h

/-! what tokens stand for -/
def vals (l : List Tok) : B := l.flatMap (·.value)
theorem vals_append (a b : List Tok) : vals (a ++ b) = vals a ++ vals b := by simp [vals]

/-- a blank stands at the end of a line -/
def blankEnds : List Tok → Bool
  | [] => false
  | t :: r => (decide (t.kind = 2) && (match r with | [] => true | u :: _ => decide (u.kind = 5))) || blankEnds r

theorem valueStep_append (l : List Tok) (s : B × Nat) (hs : s.2 ≤ s.1.length) (hv : ∀ t ∈ l, okTok t) (h0 : s.2 = 0 ∨ ∃ t r, l = t :: r ∧ t.kind ≠ 5) (hb : blankEnds l = false) :
    (l.foldl valueStep s).1 = s.1 ++ vals l ∧ ((l.foldl valueStep s).2 = 0 ∨ l = [] ∧ (l.foldl valueStep s).2 = s.2) := by
  induction l generalizing s with
  | nil => simp [vals]
  | cons t r ih =>
    simp only [List.foldl_cons]
    have ht := hv t (List.mem_cons_self ..)
    have hr : ∀ x ∈ r, okTok x := fun x hx => hv x (List.mem_cons_of_mem _ hx)
    simp only [blankEnds, Bool.or_eq_false_iff, Bool.and_eq_false_iff, decide_eq_false_iff_not] at hb
    obtain ⟨hb1, hb2⟩ := hb
    have key : (valueStep s t).1 = s.1 ++ t.value ∧ (valueStep s t).2 ≤ (valueStep s t).1.length ∧ ((valueStep s t).2 = 0 ∨ t.kind = 2) := by
      rcases ht with ⟨b, _, _, _, rfl⟩ | ⟨b, _, rfl⟩ | ⟨x, y, h, l, _, _, rfl⟩ | rfl | rfl
      · simp [valueStep, litTok]
      · simp [valueStep, blankTok]; omega
      · simp [valueStep]
      · simp [valueStep, softTok]
      · rcases h0 with h0 | ⟨t', r', e, hk⟩
        · simp [valueStep, brkTok, h0]
        · injection e with e1 e2; subst e1; exact absurd rfl hk
    obtain ⟨k1, k2, k3⟩ := key
    have h0' : (valueStep s t).2 = 0 ∨ ∃ t' r', r = t' :: r' ∧ t'.kind ≠ 5 := by
      rcases k3 with k3 | k3
      · exact .inl k3
      · cases r with
        | nil => rcases hb1 with hb1 | hb1
                 · exact absurd k3 hb1
                 · cases hb1
        | cons u r' =>
          rcases hb1 with hb1 | hb1
          · exact absurd k3 hb1
          · exact .inr ⟨u, r', rfl, by simpa using hb1⟩
    obtain ⟨i1, i2⟩ := ih (valueStep s t) k2 hr h0' hb2
    refine ⟨by rw [i1, k1]; simp [vals], ?_⟩
    rcases i2 with i2 | ⟨rfl, i2⟩
    · exact .inl i2
    · simp only [List.foldl_nil] at i2 ⊢
      rcases k3 with k3 | k3
      · exact .inl k3
      · rcases hb1 with hb1 | hb1
        · exact absurd k3 hb1
        · cases hb1

theorem value_of_plain {l : List Tok} (hv : ∀ t ∈ l, okTok t) (hb : blankEnds l = false) : value l = vals l := by
  obtain ⟨h1, h2⟩ := valueStep_append l ([], 0) (by simp) hv (.inl rfl) hb
  have h3 : (valueGo l).2 = 0 := by
    rcases h2 with h2 | ⟨rfl, h2⟩
    · exact h2
    · rfl
  unfold value
  rw [h3]
  show ((valueGo l).1.take ((valueGo l).1.length - 0)) = _
  rw [Nat.sub_zero, List.take_length]
  simpa [valueGo] using h1

end Go.Proofs.YtcbolmendjocbaaDoor.Qp

namespace Go.Proofs.YtcbolmendjocbaaDoor.Qp

def escTok (b : UInt8) : Tok := ⟨3, escB b, [b]⟩
def chrTok (b : UInt8) : Tok := if isWs b then blankTok b else litTok b

theorem chrTok_text (b : UInt8) : (chrTok b).text = [b] := by unfold chrTok; split <;> rfl
theorem chrTok_value (b : UInt8) : (chrTok b).value = [b] := by unfold chrTok; split <;> rfl

theorem u8_all {p : UInt8 → Prop} (h : ∀ n : Fin 256, p (UInt8.ofFin n)) (b : UInt8) : p b := by
  have := h b.toFin
  simpa using this
theorem hexV_hexU : ∀ n : UInt8, n < 16 → hexV (hexU n) = some n.toNat := u8_all (by decide +kernel)
theorem nib_hi : ∀ b : UInt8, b >>> 4 < 16 := u8_all (by decide +kernel)
theorem nib_lo : ∀ b : UInt8, b &&& 15 < 16 := u8_all (by decide +kernel)
theorem nib_join : ∀ b : UInt8, UInt8.ofNat ((b >>> 4).toNat * 16 + (b &&& 15).toNat) = b := u8_all (by decide +kernel)

theorem escTok_ok (b : UInt8) : okTok (escTok b) :=
  .inr (.inr (.inl ⟨_, _, _, _, hexV_hexU _ (nib_hi b), hexV_hexU _ (nib_lo b), by rw [nib_join]; rfl⟩))

/-- the Writer over tokens: those of the lines that are written, those of its line -/
structure TS where
  dn : List Tok
  cur : List Tok
  cr : Bool

def TS.ws (s : TS) : WS := ⟨textOf s.dn, textOf s.cur, s.cr⟩
def TS.crlf (s : TS) : TS := { s with dn := s.dn ++ (s.cur ++ [brkTok]), cur := [] }
def TS.soft (s : TS) : TS := { s with dn := s.dn ++ (s.cur ++ [softTok]), cur := [] }
def TS.enc (s : TS) (b : UInt8) : TS :=
  if 72 < (textOf s.cur).length then { s.soft with cur := [escTok b] } else { s with cur := s.cur ++ [escTok b] }
def TS.last (s : TS) : TS :=
  match s.cur.getLast? with
  | some t => if t.kind = 2 then ({ s with cur := s.cur.dropLast } : TS).enc (t.value.headD 0) else s
  | none => s
def TS.wr (s : TS) (b : UInt8) : TS :=
  if b == 10 || b == 13 then
    if s.cr && b == 10 then { s with cr := false }
    else (({ s with cr := s.cr || b == 13 } : TS).last).crlf
  else
    if (textOf s.cur).length == 75 then { s.soft with cur := [chrTok b], cr := false } else { s with cur := s.cur ++ [chrTok b], cr := false }
def TS.step (bin : Bool) (s : TS) (b : UInt8) : TS := if simple bin b then s.wr b else s.enc b
def TS.init : TS := ⟨[], [], false⟩
def TS.fin (s : TS) : List Tok := s.last.dn ++ s.last.cur

/-- an escape may be needed there: its byte is not printable and no blank, or an equals sign -/
def hard (t : Tok) : Prop := ∃ b, t = escTok b ∧ isWs b = false ∧ ¬ (33 ≤ b ∧ b ≤ 126 ∧ b ≠ 61)
/-- a token of the Writer's line -/
def curTok (t : Tok) : Prop := (∃ b : UInt8, 33 ≤ b ∧ b ≤ 126 ∧ b ≠ 61 ∧ t = litTok b) ∨ (∃ b : UInt8, (b = 32 ∨ b = 9) ∧ t = blankTok b) ∨ hard t
/-- the tokens of lines that are written: each escape is of a hard byte or stands ahead of a line break -/
def dnOk : List Tok → Prop
  | [] => True
  | t :: r => (okTok t ∧ (t.kind = 3 → hard t ∨ (∃ b, t = escTok b ∧ isWs b = true) ∧ ∃ r', r = brkTok :: r') ∧ (t.kind = 2 → ∃ u r', r = u :: r' ∧ u.kind ≠ 5)) ∧ dnOk r

structure Inv (s : TS) : Prop where
  cur : ∀ t ∈ s.cur, curTok t
  dn : dnOk s.dn
  edge : s.dn = [] ∨ ∃ r t, s.dn = r ++ [t] ∧ (t.kind = 4 ∨ t.kind = 5)
  short : (textOf s.cur).length ≤ 75
  ok : lineOk 0 s.dn = true

theorem curTok.ok {t : Tok} (h : curTok t) : okTok t := by
  rcases h with h | h | ⟨b, rfl, _⟩
  · exact .inl h
  · exact .inr (.inl h)
  · exact escTok_ok b

theorem curTok.text3 {t : Tok} (h : curTok t) : t.kind ≠ 4 ∧ t.kind ≠ 5 := by
  rcases h with ⟨b, _, _, _, rfl⟩ | ⟨b, _, rfl⟩ | ⟨b, rfl, _⟩ <;> simp [litTok, blankTok, escTok]

theorem isWs_iff (b : UInt8) : isWs b = true ↔ b = 32 ∨ b = 9 := by simp [isWs]

theorem hexU_nws : ∀ n : UInt8, n < 16 → isWs (hexU n) = false := u8_all (by decide +kernel)

/-- the last byte of a token of the line is a blank where the token is one -/
theorem curTok.last {t : Tok} (h : curTok t) : ∃ r b, t.text = r ++ [b] ∧ (isWs b = true ↔ t.kind = 2) ∧ (t.kind = 2 → r = [] ∧ t.value = [b]) := by
  rcases h with ⟨b, h1, h2, h3, rfl⟩ | ⟨b, hb, rfl⟩ | ⟨b, rfl, _⟩
  · refine ⟨[], b, rfl, ?_, by simp [litTok]⟩
    have : isWs b = false := by
      rw [Bool.eq_false_iff]; intro hw
      rcases (isWs_iff b).1 hw with rfl | rfl <;> exact absurd h1 (by decide)
    simp [this, litTok]
  · exact ⟨[], b, rfl, by simp [blankTok, (isWs_iff b).2 hb], fun _ => ⟨rfl, rfl⟩⟩
  · exact ⟨[61, hexU (b >>> 4)], hexU (b &&& 15), rfl, by simp [escTok, hexU_nws _ (nib_lo b)], by simp [escTok]⟩

theorem enc_ws (s : TS) (b : UInt8) : (s.enc b).ws = s.ws.enc b := by
  unfold TS.enc WS.enc
  show (TS.ws (if _ then _ else _)) = if 72 < (textOf s.cur).length then _ else _
  split <;> simp [TS.ws, TS.soft, WS.soft, textOf_append, textOf_cons, textOf_nil, escTok, softTok]

theorem last_ws (s : TS) (h : ∀ t ∈ s.cur, curTok t) : s.last.ws = s.ws.last := by
  unfold TS.last WS.last
  rcases List.eq_nil_or_concat s.cur with e | ⟨r, t, e⟩
  · simp [e, TS.ws, textOf]
  · have ht := h t (by simp [e])
    obtain ⟨q, b, hq, hw, hk⟩ := ht.last
    have hgl : (textOf s.cur).getLast? = some b := by rw [e, List.concat_eq_append, textOf_append, textOf_cons, textOf_nil, List.append_nil, hq]; simp
    rw [show s.cur.getLast? = some t by rw [e]; simp]
    show TS.ws (if t.kind = 2 then _ else s) = match s.ws.line.getLast? with | some b => _ | none => _
    rw [show s.ws.line.getLast? = some b from hgl]
    by_cases h2 : t.kind = 2
    · obtain ⟨hq0, hv⟩ := hk h2
      subst hq0
      simp only [h2, if_true, hw.2 h2, enc_ws]
      congr 1
      · show (⟨textOf s.dn, textOf s.cur.dropLast, s.cr⟩ : WS) = ⟨textOf s.dn, (textOf s.cur).dropLast, s.cr⟩
        rw [e, List.concat_eq_append, List.dropLast_concat, textOf_append, textOf_cons, textOf_nil, hq, List.nil_append, List.append_nil, List.dropLast_concat]
      · rw [hv]; rfl
    · have : isWs b = false := by rw [Bool.eq_false_iff]; exact fun hb => h2 (hw.1 hb)
      simp [h2, this]

theorem wr_ws (s : TS) (b : UInt8) (h : ∀ t ∈ s.cur, curTok t) : (s.wr b).ws = s.ws.wr b := by
  have hl : ∀ cr, (({ s with cr := cr } : TS).last).crlf.ws = (({ s.ws with cr := cr } : WS).last).crlf := by
    intro cr
    rw [show ({ s.ws with cr := cr } : WS) = ({ s with cr := cr } : TS).ws from rfl, ← last_ws _ (by exact h)]
    simp [TS.crlf, WS.crlf, TS.ws, textOf_append, textOf_cons, textOf_nil, brkTok]
  unfold TS.wr WS.wr
  show TS.ws (if _ then (if s.cr && b == 10 then _ else _) else _) = if _ then (if s.cr && b == 10 then _ else _) else (if (textOf s.cur).length == 75 then _ else _)
  split
  · split
    · rfl
    · exact hl _
  · split <;> simp [TS.ws, TS.soft, WS.soft, textOf_append, textOf_cons, textOf_nil, chrTok_text, softTok]

theorem step_ws (bin : Bool) (s : TS) (b : UInt8) (h : ∀ t ∈ s.cur, curTok t) : (s.step bin b).ws = s.ws.step bin b := by
  unfold TS.step WS.step
  split
  · exact wr_ws s b h
  · exact enc_ws s b

/-! the invariant -/
theorem lineEnd_cur (l : List Tok) (h : ∀ t ∈ l, curTok t) (n : Nat) : lineEnd n l = n + (textOf l).length := by
  induction l generalizing n with
  | nil => simp [lineEnd, textOf]
  | cons t r ih =>
    have h3 := (h t (List.mem_cons_self ..)).text3
    rw [lineEnd, ih (fun x hx => h x (List.mem_cons_of_mem _ hx)), textOf_cons, List.length_append]
    simp [Tok.leaves, Tok.adds, h3]; omega
theorem lineOk_cur (l : List Tok) (h : ∀ t ∈ l, curTok t) (n : Nat) (hn : n + (textOf l).length ≤ 76) : lineOk n l = true := by
  induction l generalizing n with
  | nil => rfl
  | cons t r ih =>
    have h3 := (h t (List.mem_cons_self ..)).text3
    rw [textOf_cons, List.length_append] at hn
    have e : t.leaves n = n + t.text.length := by simp [Tok.leaves, Tok.adds, h3]
    rw [lineOk, e, ih (fun x hx => h x (List.mem_cons_of_mem _ hx)) _ (by omega)]
    simp [Tok.adds, h3]; omega
theorem lineEnd_edge {l : List Tok} (h : l = [] ∨ ∃ r t, l = r ++ [t] ∧ (t.kind = 4 ∨ t.kind = 5)) : lineEnd 0 l = 0 := by
  rcases h with rfl | ⟨r, t, rfl, h⟩
  · rfl
  · rw [lineEnd_append]; simp [lineEnd, Tok.leaves, h]

theorem Inv.init : Inv TS.init := ⟨by simp [TS.init], trivial, .inl rfl, by simp [TS.init, textOf], rfl⟩

theorem dnOk_append_edge {a c : List Tok} (ha : dnOk a) (he : a = [] ∨ ∃ r t, a = r ++ [t] ∧ (t.kind = 4 ∨ t.kind = 5)) (hc : dnOk c) : dnOk (a ++ c) := by
  induction a with
  | nil => exact hc
  | cons t r ih =>
    obtain ⟨⟨h1, h2, h3⟩, hr⟩ := ha
    have her : r = [] ∨ ∃ r' t, r = r' ++ [t] ∧ (t.kind = 4 ∨ t.kind = 5) := by
      rcases he with he | ⟨r', t', e, hk⟩
      · cases he
      · cases r' with
        | nil => simp at e; exact .inl e.2
        | cons x r'' => simp at e; exact .inr ⟨r'', t', e.2, hk⟩
    refine ⟨⟨h1, ?_, ?_⟩, ih hr her⟩
    · intro hk
      rcases h2 hk with h2 | ⟨hb, r', e⟩
      · exact .inl h2
      · exact .inr ⟨hb, r' ++ c, by rw [e]; rfl⟩
    · intro hk
      obtain ⟨u, r', e, hu⟩ := h3 hk
      exact ⟨u, r' ++ c, by rw [e]; rfl, hu⟩

/-- a line of the Writer with what ends it -/
theorem dnOk_line {l : List Tok} (h : ∀ t ∈ l, curTok t) (u : Tok) (hu : u = softTok ∨ u = brkTok ∧ (∀ r t, l = r ++ [t] → t.kind ≠ 2)) : dnOk (l ++ [u]) := by
  induction l with
  | nil =>
    rcases hu with rfl | ⟨rfl, _⟩
    · exact ⟨⟨.inr (.inr (.inr (.inl rfl))), by simp [softTok], by simp [softTok]⟩, trivial⟩
    · exact ⟨⟨.inr (.inr (.inr (.inr rfl))), by simp [brkTok], by simp [brkTok]⟩, trivial⟩
  | cons t r ih =>
    have ht := h t (List.mem_cons_self ..)
    refine ⟨⟨ht.ok, ?_, ?_⟩, ih (fun x hx => h x (List.mem_cons_of_mem _ hx)) ?_⟩
    · intro hk
      rcases ht with ⟨b, _, _, _, rfl⟩ | ⟨b, _, rfl⟩ | ht
      · simp [litTok] at hk
      · simp [blankTok] at hk
      · exact .inl ht
    · intro hk
      cases r with
      | nil =>
        refine ⟨u, [], rfl, ?_⟩
        rcases hu with rfl | ⟨rfl, hu⟩
        · simp [softTok]
        · exact absurd hk (hu [] t rfl)
      | cons x r' => exact ⟨x, r' ++ [u], rfl, (h x (by simp)).text3.2⟩
    · rcases hu with hu | ⟨hu, hb⟩
      · exact .inl hu
      · exact .inr ⟨hu, fun r' t' e => hb (t :: r') t' (by rw [e]; rfl)⟩

/-- the line with an escape of a blank at its end, ahead of a line break -/
theorem dnOk_esc {l : List Tok} (h : ∀ t ∈ l, curTok t) (b : UInt8) (hb : isWs b = true) : dnOk (l ++ [escTok b, brkTok]) := by
  induction l with
  | nil => exact ⟨⟨escTok_ok b, fun _ => .inr ⟨⟨b, rfl, hb⟩, [], rfl⟩, by simp [escTok]⟩, ⟨.inr (.inr (.inr (.inr rfl))), by simp [brkTok], by simp [brkTok]⟩, trivial⟩
  | cons t r ih =>
    have ht := h t (List.mem_cons_self ..)
    refine ⟨⟨ht.ok, ?_, ?_⟩, ih (fun x hx => h x (List.mem_cons_of_mem _ hx))⟩
    · intro hk
      rcases ht with ⟨b, _, _, _, rfl⟩ | ⟨b, _, rfl⟩ | ht
      · simp [litTok] at hk
      · simp [blankTok] at hk
      · exact .inl ht
    · intro hk
      cases r with
      | nil => exact ⟨escTok b, [brkTok], rfl, by simp [escTok]⟩
      | cons x r' => exact ⟨x, _, rfl, (h x (by simp)).text3.2⟩

theorem escB_len (b : UInt8) : (escB b).length = 3 := rfl

theorem Inv.soft {s : TS} (h : Inv s) : Inv s.soft := by
  have hl := dnOk_line h.cur softTok (.inl rfl)
  refine ⟨by simp [TS.soft], dnOk_append_edge h.dn h.edge hl, .inr ⟨s.dn ++ s.cur, softTok, by simp [TS.soft], .inl rfl⟩, by simp [TS.soft, textOf], ?_⟩
  show lineOk 0 (s.dn ++ (s.cur ++ [softTok])) = true
  have := h.short
  rw [lineOk_append, h.ok, lineEnd_edge h.edge, lineOk_append, lineOk_cur _ h.cur _ (by omega), lineEnd_cur _ h.cur]
  simp [lineOk, Tok.adds, softTok]; omega

theorem Inv.enc {s : TS} (h : Inv s) (b : UInt8) (hb : hard (escTok b)) : Inv (s.enc b) := by
  unfold TS.enc
  split
  · have hs := h.soft
    exact ⟨by simp; exact .inr (.inr hb), hs.dn, hs.edge, by simp [textOf, escTok, escB_len], hs.ok⟩
  · refine ⟨?_, h.dn, h.edge, ?_, h.ok⟩
    · intro t ht
      rcases List.mem_append.1 ht with ht | ht
      · exact h.cur t ht
      · simp at ht; subst ht; exact .inr (.inr hb)
    · show (textOf (s.cur ++ [escTok b])).length ≤ 75
      rw [textOf_append, List.length_append]
      have : (textOf [escTok b]).length = 3 := rfl
      omega

theorem Inv.chr {s : TS} (h : Inv s) (b : UInt8) (hb : curTok (chrTok b)) : Inv (if (textOf s.cur).length == 75 then { s.soft with cur := [chrTok b], cr := false } else { s with cur := s.cur ++ [chrTok b], cr := false }) := by
  split
  · have hs := h.soft
    exact ⟨by simp; exact hb, hs.dn, hs.edge, by simp [textOf, chrTok_text], hs.ok⟩
  · rename_i h75
    refine ⟨?_, h.dn, h.edge, ?_, h.ok⟩
    · intro t ht
      rcases List.mem_append.1 ht with ht | ht
      · exact h.cur t ht
      · simp at ht; subst ht; exact hb
    · show (textOf (s.cur ++ [chrTok b])).length ≤ 75
      rw [textOf_append, List.length_append]
      have e : (textOf [chrTok b]).length = 1 := by simp [textOf, chrTok_text]
      have := h.short
      simp at h75
      omega

/-- what 'last' leaves: the lines that are written, the line; its last token is no blank; an escape of a blank alone is not hard -/
theorem last_cases {s : TS} (h : Inv s) : (s.last = s ∧ ∀ r t, s.cur = r ++ [t] → t.kind ≠ 2) ∨
    ∃ s' : TS, ∃ b, Inv s' ∧ isWs b = true ∧ s.last = { s' with cur := s'.cur ++ [escTok b] } ∧ (textOf s'.cur).length ≤ 72 ∧ s'.cr = s.cr ∧ vals s.dn ++ vals s.cur = vals s'.dn ++ vals s'.cur ++ [b] := by
  unfold TS.last
  rcases List.eq_nil_or_concat s.cur with e | ⟨r, t, e⟩
  · left; simp [e]
  · rw [List.concat_eq_append] at e
    have ht := h.cur t (by simp [e])
    rw [show s.cur.getLast? = some t by rw [e]; simp]
    by_cases h2 : t.kind = 2
    · right
      simp only [h2, if_true]
      have hcur : ∀ x ∈ s.cur.dropLast, curTok x := fun x hx => h.cur x (List.dropLast_subset _ hx)
      have h1 : Inv { s with cur := s.cur.dropLast } := by
        refine ⟨hcur, h.dn, h.edge, ?_, h.ok⟩
        have := h.short
        rw [e, textOf_append, List.length_append] at this
        show (textOf s.cur.dropLast).length ≤ 75
        rw [e, List.dropLast_concat]; omega
      obtain ⟨q, b, hq, hw, hk⟩ := ht.last
      obtain ⟨_, hv⟩ := hk h2
      have hwb := hw.2 h2
      have hvs : vals s.cur = vals s.cur.dropLast ++ [b] := by rw [e, List.dropLast_concat, vals_append]; simp [vals, hv]
      unfold TS.enc
      split
      · refine ⟨({ s with cur := s.cur.dropLast } : TS).soft, b, h1.soft, hwb, by simp [TS.soft, hv], by simp [TS.soft, textOf], rfl, ?_⟩
        show vals s.dn ++ vals s.cur = vals (s.dn ++ (s.cur.dropLast ++ [softTok])) ++ vals [] ++ [b]
        rw [hvs]; simp [vals, softTok]
      · rename_i h72
        refine ⟨{ s with cur := s.cur.dropLast }, b, h1, hwb, by simp [hv], ?_, rfl, ?_⟩
        · show (textOf s.cur.dropLast).length ≤ 72
          have : ¬ 72 < (textOf s.cur.dropLast).length := h72
          omega
        · rw [hvs]; simp
    · left
      simp only [h2, if_false, true_and]
      intro r' t' e'
      rw [e] at e'
      have := (List.append_inj' e' rfl).2
      simp at this; rw [← this]; exact h2

theorem vals_nil : vals [] = [] := rfl
theorem vals_esc (b : UInt8) : vals [escTok b] = [b] := rfl

/-- the line break: the tokens stay good, and stand for two bytes more -/
theorem Inv.brk {s : TS} (h : Inv s) : Inv s.last.crlf ∧ vals s.last.crlf.dn ++ vals s.last.crlf.cur = vals s.dn ++ vals s.cur ++ [13, 10] := by
  rcases last_cases h with ⟨e, hb⟩ | ⟨s', b, h', hw, e, hl, _, hv⟩
  · rw [e]
    have hd := dnOk_line h.cur brkTok (.inr ⟨rfl, hb⟩)
    refine ⟨⟨by simp [TS.crlf], dnOk_append_edge h.dn h.edge hd, .inr ⟨s.dn ++ s.cur, brkTok, by simp [TS.crlf], .inr rfl⟩, by simp [TS.crlf, textOf], ?_⟩, ?_⟩
    · show lineOk 0 (s.dn ++ (s.cur ++ [brkTok])) = true
      have := h.short
      rw [lineOk_append, h.ok, lineEnd_edge h.edge, lineOk_append, lineOk_cur _ h.cur _ (by omega), lineEnd_cur _ h.cur]
      simp [lineOk, Tok.adds, brkTok]; omega
    · simp [TS.crlf, vals, brkTok]
  · rw [e]
    have hd := dnOk_esc h'.cur b hw
    refine ⟨⟨by simp [TS.crlf], ?_, .inr ⟨s'.dn ++ (s'.cur ++ [escTok b]), brkTok, by simp [TS.crlf], .inr rfl⟩, by simp [TS.crlf, textOf], ?_⟩, ?_⟩
    · show dnOk (s'.dn ++ (s'.cur ++ [escTok b] ++ [brkTok]))
      rw [List.append_assoc]
      exact dnOk_append_edge h'.dn h'.edge hd
    · show lineOk 0 (s'.dn ++ (s'.cur ++ [escTok b] ++ [brkTok])) = true
      rw [lineOk_append, h'.ok, lineEnd_edge h'.edge, List.append_assoc, lineOk_append, lineOk_cur _ h'.cur _ (by omega), lineEnd_cur _ h'.cur]
      simp [lineOk, Tok.adds, brkTok, Tok.leaves, escTok, escB_len]; omega
    · rw [hv]; simp [TS.crlf, vals, brkTok, escTok]

theorem simple_cases {bin : Bool} {b : UInt8} (h : simple bin b = true) : (b = 10 ∨ b = 13) ∧ bin = false ∨ b ≠ 10 ∧ b ≠ 13 ∧ curTok (chrTok b) := by
  unfold simple at h
  simp only [Bool.or_eq_true, Bool.and_eq_true, decide_eq_true_eq, bne_iff_ne, Bool.not_eq_true', beq_iff_eq] at h
  rcases h with ⟨⟨h1, h2⟩, h3⟩ | h | ⟨h1, h2⟩
  · right
    have hw : isWs b = false := by
      rw [Bool.eq_false_iff]; intro hw
      rcases (isWs_iff b).1 hw with rfl | rfl <;> exact absurd h1 (by decide)
    refine ⟨by rintro rfl; exact absurd h1 (by decide), by rintro rfl; exact absurd h1 (by decide), .inl ⟨b, h1, h2, h3, by simp [chrTok, hw]⟩⟩
  · right
    rcases (isWs_iff b).1 h with rfl | rfl
    · exact ⟨by decide, by decide, .inr (.inl ⟨32, .inl rfl, rfl⟩)⟩
    · exact ⟨by decide, by decide, .inr (.inl ⟨9, .inr rfl, rfl⟩)⟩
  · exact .inl ⟨h2, h1⟩

theorem not_simple {bin : Bool} {b : UInt8} (h : ¬ simple bin b = true) : hard (escTok b) ∧ (bin = false → b ≠ 10 ∧ b ≠ 13) := by
  unfold simple at h
  simp only [Bool.or_eq_true, Bool.and_eq_true, decide_eq_true_eq, bne_iff_ne, Bool.not_eq_true', beq_iff_eq, not_or] at h
  obtain ⟨h1, h2, h3⟩ := h
  refine ⟨⟨b, rfl, by simpa using h2, fun ⟨a, b, c⟩ => h1 ⟨⟨a, b⟩, c⟩⟩, fun hb => ?_⟩
  constructor <;> (rintro rfl; exact h3 ⟨hb, by simp⟩)

theorem vals_enc (s : TS) (b : UInt8) : vals (s.enc b).dn ++ vals (s.enc b).cur = vals s.dn ++ vals s.cur ++ [b] := by
  unfold TS.enc; split <;> simp [TS.soft, vals, softTok, escTok]
theorem vals_chr (s : TS) (b : UInt8) (x : TS) (hx : x = if (textOf s.cur).length == 75 then { s.soft with cur := [chrTok b], cr := false } else { s with cur := s.cur ++ [chrTok b], cr := false }) :
    vals x.dn ++ vals x.cur = vals s.dn ++ vals s.cur ++ [b] ∧ x.cr = false := by
  subst hx
  split <;> simp [TS.soft, vals, softTok, chrTok_value]

theorem Inv.step {s : TS} (h : Inv s) (bin : Bool) (b : UInt8) : Inv (s.step bin b) := by
  unfold TS.step
  split
  · rename_i hs
    unfold TS.wr
    rcases simple_cases hs with ⟨hb, _⟩ | ⟨h1, h2, hc⟩
    · rw [if_pos (by simpa using hb)]
      split
      · exact ⟨h.cur, h.dn, h.edge, h.short, h.ok⟩
      · exact (Inv.brk (s := { s with cr := s.cr || b == 13 }) ⟨h.cur, h.dn, h.edge, h.short, h.ok⟩).1
    · rw [if_neg (by simp [h1, h2])]
      exact h.chr b hc
  · rename_i hs
    exact h.enc b (not_simple hs).1

theorem foldl_inv (bin : Bool) (data : B) : ∀ s : TS, Inv s → Inv (data.foldl (TS.step bin) s) ∧ (data.foldl (TS.step bin) s).ws = data.foldl (WS.step bin) s.ws := by
  induction data with
  | nil => exact fun s h => ⟨h, rfl⟩
  | cons b r ih =>
    intro s h
    obtain ⟨i1, i2⟩ := ih _ (h.step bin b)
    exact ⟨i1, by rw [List.foldl_cons, i2, step_ws bin s b h.cur]; rfl⟩

/-- the tokens of what the Writer writes -/
def wtoks (bin : Bool) (data : B) : List Tok := (data.foldl (TS.step bin) TS.init).fin

theorem encode_eq (bin : Bool) (data : B) : encode bin data = textOf (wtoks bin data) := by
  obtain ⟨i1, i2⟩ := foldl_inv bin data TS.init Inv.init
  unfold encode wtoks WS.fin TS.fin
  rw [show WS.init = TS.init.ws from rfl, ← i2, ← last_ws _ i1.cur, textOf_append]
  rfl

theorem dnOk_ok {l : List Tok} (h : dnOk l) : ∀ t ∈ l, okTok t := by
  induction l with
  | nil => simp
  | cons t r ih =>
    intro x hx
    rcases List.mem_cons.1 hx with rfl | hx
    · exact h.1.1
    · exact ih h.2 x hx

/-- what may not stand for itself -/
def needed (b : UInt8) (r : List Tok) : Bool :=
  if b == 32 || b == 9 then (match r with | [] => true | u :: _ => decide (u.kind = 5)) else decide (b < 32) || decide (126 < b) || b == 61
/-- each escape is needed -/
def allNeeded : List Tok → Bool
  | [] => true
  | t :: r => (if t.kind = 3 then needed (t.value.headD 0) r else true) && allNeeded r

theorem hard_needed {t : Tok} (h : hard t) (r : List Tok) : needed (t.value.headD 0) r = true := by
  obtain ⟨b, rfl, hw, hb⟩ := h
  unfold needed
  have h1 : (b == 32 || b == 9) = false := hw
  have h2 : b ≠ 32 := by rintro rfl; simp at h1
  show (if (b == 32 || b == 9) = true then _ else decide (b < 32) || decide (126 < b) || b == 61) = true
  rw [h1]
  simp only [Bool.false_eq_true, if_false, Bool.or_eq_true, decide_eq_true_eq, beq_iff_eq]
  by_cases h61 : b = 61
  · exact .inr h61
  · left
    have h3 : ¬ (33 ≤ b ∧ b ≤ 126) := fun ⟨x, y⟩ => hb ⟨x, y, h61⟩
    rw [UInt8.lt_iff_toNat_lt, UInt8.lt_iff_toNat_lt]
    rw [UInt8.le_iff_toNat_le, UInt8.le_iff_toNat_le] at h3
    have h5 : b.toNat ≠ 32 := fun e => h2 (UInt8.toNat_inj.1 e)
    simp at h3 ⊢
    omega

theorem allNeeded_dn {a c : List Tok} (ha : dnOk a) (hc : allNeeded c = true) : allNeeded (a ++ c) = true := by
  induction a with
  | nil => exact hc
  | cons t r ih =>
    obtain ⟨⟨h1, h2, h3⟩, hr⟩ := ha
    simp only [List.cons_append, allNeeded, ih hr, Bool.and_true]
    split
    · rename_i hk
      rcases h2 hk with h2 | ⟨⟨b, rfl, hb⟩, r', e⟩
      · exact hard_needed h2 _
      · subst e
        have h1 : (b == 32 || b == 9) = true := hb
        simp [needed, escTok, h1, brkTok]
    · rfl

theorem blankEnds_dn {a c : List Tok} (ha : dnOk a) (hc : blankEnds c = false) : blankEnds (a ++ c) = false := by
  induction a with
  | nil => exact hc
  | cons t r ih =>
    obtain ⟨⟨h1, h2, h3⟩, hr⟩ := ha
    simp only [List.cons_append, blankEnds, ih hr, Bool.or_false]
    by_cases hk : t.kind = 2
    · obtain ⟨u, r', e, hu⟩ := h3 hk
      subst e
      simp [hu]
    · simp [hk]

/-- the last line, ended by nothing -/
theorem cur_end {l : List Tok} (h : ∀ t ∈ l, curTok t) (hb : ∀ r t, l = r ++ [t] → t.kind ≠ 2) : blankEnds l = false ∧ allNeeded l = true := by
  induction l with
  | nil => exact ⟨rfl, rfl⟩
  | cons t r ih =>
    obtain ⟨i1, i2⟩ := ih (fun x hx => h x (List.mem_cons_of_mem _ hx)) (fun r' t' e => hb (t :: r') t' (by rw [e]; rfl))
    refine ⟨?_, ?_⟩
    · simp only [blankEnds, i1, Bool.or_false, Bool.and_eq_false_iff, decide_eq_false_iff_not]
      cases r with
      | nil => exact .inl (hb [] t rfl)
      | cons u r' => right; simpa using (h u (by simp)).text3.2
    · simp only [allNeeded, i2, Bool.and_true]
      split
      · rename_i hk
        rcases h t (List.mem_cons_self ..) with ⟨b, _, _, _, rfl⟩ | ⟨b, _, rfl⟩ | ht
        · simp [litTok] at hk
        · simp [blankTok] at hk
        · exact hard_needed ht _
      · rfl
theorem cur_end_esc {l : List Tok} (h : ∀ t ∈ l, curTok t) (b : UInt8) (hb : isWs b = true) : blankEnds (l ++ [escTok b]) = false ∧ allNeeded (l ++ [escTok b]) = true := by
  induction l with
  | nil =>
    have h1 : (b == 32 || b == 9) = true := hb
    simp [blankEnds, allNeeded, needed, escTok, h1]
  | cons t r ih =>
    obtain ⟨i1, i2⟩ := ih (fun x hx => h x (List.mem_cons_of_mem _ hx))
    refine ⟨?_, ?_⟩
    · simp only [List.cons_append, blankEnds, i1, Bool.or_false, Bool.and_eq_false_iff, decide_eq_false_iff_not]
      right
      cases r with
      | nil => simp [escTok]
      | cons u r' => simpa using (h u (by simp)).text3.2
    · simp only [List.cons_append, allNeeded, i2, Bool.and_true]
      split
      · rename_i hk
        rcases h t (List.mem_cons_self ..) with ⟨b, _, _, _, rfl⟩ | ⟨b, _, rfl⟩ | ht
        · simp [litTok] at hk
        · simp [blankTok] at hk
        · exact hard_needed ht _
      · rfl

/-- WHAT CLOSE LEAVES. -/
theorem fin_ok {s : TS} (h : Inv s) : (∀ t ∈ s.fin, okTok t) ∧ lineOk 0 s.fin = true ∧ blankEnds s.fin = false ∧ allNeeded s.fin = true ∧ vals s.fin = vals s.dn ++ vals s.cur := by
  unfold TS.fin
  rcases last_cases h with ⟨e, hb⟩ | ⟨s', b, h', hw, e, hl, _, hv⟩
  · rw [e]
    obtain ⟨c1, c2⟩ := cur_end h.cur hb
    have := h.short
    refine ⟨?_, ?_, blankEnds_dn h.dn c1, allNeeded_dn h.dn c2, vals_append _ _⟩
    · intro t ht
      rcases List.mem_append.1 ht with ht | ht
      · exact dnOk_ok h.dn t ht
      · exact (h.cur t ht).ok
    · rw [lineOk_append, h.ok, lineEnd_edge h.edge, lineOk_cur _ h.cur _ (by omega)]; rfl
  · rw [e]
    obtain ⟨c1, c2⟩ := cur_end_esc h'.cur b hw
    refine ⟨?_, ?_, blankEnds_dn h'.dn c1, allNeeded_dn h'.dn c2, ?_⟩
    · intro t ht
      rcases List.mem_append.1 ht with ht | ht
      · exact dnOk_ok h'.dn t ht
      · rcases List.mem_append.1 ht with ht | ht
        · exact (h'.cur t ht).ok
        · simp at ht; subst ht; exact escTok_ok b
    · show lineOk 0 (s'.dn ++ (s'.cur ++ [escTok b])) = true
      rw [lineOk_append, h'.ok, lineEnd_edge h'.edge, lineOk_append, lineOk_cur _ h'.cur _ (by omega), lineEnd_cur _ h'.cur]
      simp [lineOk, Tok.adds, escTok, escB_len]; omega
    · rw [hv]; simp [vals, escTok]

/-! what the tokens stand for -/
theorem wr_nl {s : TS} (h : Inv s) (b : UInt8) (hb : b = 10 ∨ b = 13) (hc : ¬ (s.cr = true ∧ b = 10)) :
    vals (s.wr b).dn ++ vals (s.wr b).cur = vals s.dn ++ vals s.cur ++ [13, 10] ∧ (s.wr b).cr = (s.cr || b == 13) := by
  unfold TS.wr
  rw [if_pos (by simpa using hb), if_neg (by simpa using hc)]
  have h1 : Inv { s with cr := s.cr || b == 13 } := ⟨h.cur, h.dn, h.edge, h.short, h.ok⟩
  refine ⟨h1.brk.2, ?_⟩
  show ({ s with cr := s.cr || b == 13 } : TS).last.cr = _
  rcases last_cases h1 with ⟨e, _⟩ | ⟨s', b', _, _, e, _, hcr, _⟩
  · rw [e]
  · rw [e]; exact hcr

theorem step_vals_bin {s : TS} (b : UInt8) : vals (s.step true b).dn ++ vals (s.step true b).cur = vals s.dn ++ vals s.cur ++ [b] := by
  unfold TS.step
  split
  · rename_i hs
    rcases simple_cases hs with ⟨_, hb⟩ | ⟨h1, h2, hc⟩
    · cases hb
    · unfold TS.wr
      rw [if_neg (by simp [h1, h2])]
      exact (vals_chr s b _ rfl).1
  · exact vals_enc s b

theorem foldl_vals_bin (data : B) : ∀ s : TS, vals (data.foldl (TS.step true) s).dn ++ vals (data.foldl (TS.step true) s).cur = vals s.dn ++ vals s.cur ++ data := by
  induction data with
  | nil => intro s; simp
  | cons b r ih => intro s; rw [List.foldl_cons, ih, step_vals_bin]; simp

theorem foldl_vals_txt (data : B) : ∀ (s : TS) (o : B), Inv s → linesGo s.cr data = some o →
    vals (data.foldl (TS.step false) s).dn ++ vals (data.foldl (TS.step false) s).cur = vals s.dn ++ vals s.cur ++ (if s.cr then o.tail else o) := by
  induction data with
  | nil =>
    intro s o _ h
    cases hc : s.cr <;> rw [hc] at h <;> simp [linesGo] at h
    subst h; simp
  | cons b r ih =>
    intro s o hi h
    rw [List.foldl_cons]
    have hin := hi.step false b
    unfold linesGo at h
    by_cases h10 : b = 10
    · subst h10
      rw [if_pos (by rfl), Option.map_eq_some_iff] at h
      obtain ⟨o', ho', rfl⟩ := h
      cases hc : s.cr
      · have e : TS.step false s 10 = s.wr 10 := by unfold TS.step; rw [if_pos (by decide)]
        rw [e] at hin ⊢
        obtain ⟨w1, w2⟩ := wr_nl hi 10 (.inl rfl) (by simp [hc])
        have hcr : (s.wr 10).cr = false := by rw [w2, hc]; rfl
        rw [ih _ o' hin (by rw [hcr]; exact ho'), hcr, w1]
        simp
      · have e : TS.step false s 10 = { s with cr := false } := by unfold TS.step; rw [if_pos (by decide)]; unfold TS.wr; rw [if_pos (by decide), if_pos (by simp [hc])]
        rw [e] at hin ⊢
        rw [ih _ o' hin ho']
        simp
    · rw [if_neg (by simpa using h10)] at h
      cases hc : s.cr
      · rw [hc] at h
        simp only [Bool.false_eq_true, if_false] at h
        by_cases h13 : b = 13
        · subst h13
          rw [if_pos (by rfl), Option.map_eq_some_iff] at h
          obtain ⟨o', ho', rfl⟩ := h
          have e : TS.step false s 13 = s.wr 13 := by unfold TS.step; rw [if_pos (by decide)]
          rw [e] at hin ⊢
          obtain ⟨w1, w2⟩ := wr_nl hi 13 (.inr rfl) (by simp [hc])
          have hcr : (s.wr 13).cr = true := by rw [w2, hc]; rfl
          rw [ih _ o' hin (by rw [hcr]; exact ho'), hcr, w1]
          cases r with
          | nil => simp [linesGo] at ho'
          | cons c r' =>
            unfold linesGo at ho'
            by_cases h10' : c = 10
            · subst h10'
              rw [if_pos (by rfl), Option.map_eq_some_iff] at ho'
              obtain ⟨o'', _, rfl⟩ := ho'
              simp
            · rw [if_neg (by simpa using h10')] at ho'
              simp at ho'
        · rw [if_neg (by simpa using h13), Option.map_eq_some_iff] at h
          obtain ⟨o', ho', rfl⟩ := h
          have hst : vals (TS.step false s b).dn ++ vals (TS.step false s b).cur = vals s.dn ++ vals s.cur ++ [b] ∧ (TS.step false s b).cr = false := by
            unfold TS.step
            split
            · unfold TS.wr
              rw [if_neg (by simp [h10, h13])]
              exact vals_chr s b _ rfl
            · refine ⟨vals_enc s b, ?_⟩
              unfold TS.enc
              split
              · exact hc
              · exact hc
          rw [ih _ o' hin (by rw [hst.2]; exact ho'), hst.2, hst.1]
          simp
      · rw [hc] at h
        simp at h

/-! THE WRITER's LAWS -/
theorem wtoks_inv (bin : Bool) (data : B) : Inv (data.foldl (TS.step bin) TS.init) := (foldl_inv bin data TS.init Inv.init).1

theorem encode_tokens (bin : Bool) (data : B) : tokens (encode bin data) = some (wtoks bin data) := by
  obtain ⟨h1, h2, _⟩ := fin_ok (wtoks_inv bin data)
  rw [encode_eq]
  unfold wtoks
  rw [tokens_textOf h1]
  exact if_pos h2
theorem encode_blankEnds (bin : Bool) (data : B) : blankEnds (wtoks bin data) = false := (fin_ok (wtoks_inv bin data)).2.2.1
theorem encode_needed (bin : Bool) (data : B) : allNeeded (wtoks bin data) = true := (fin_ok (wtoks_inv bin data)).2.2.2.1
theorem encode_value_bin (data : B) : value (wtoks true data) = data := by
  obtain ⟨h1, h2, h3, h4, h5⟩ := fin_ok (wtoks_inv true data)
  unfold wtoks
  rw [value_of_plain h1 h3]
  rw [h5, foldl_vals_bin]
  rfl
theorem encode_value_txt (data o : B) (h : lines data = some o) : value (wtoks false data) = o := by
  obtain ⟨h1, h2, h3, h4, h5⟩ := fin_ok (wtoks_inv false data)
  unfold wtoks
  rw [value_of_plain h1 h3]
  rw [h5, foldl_vals_txt data TS.init o Inv.init h]
  rfl

/-- something is written of data that are not empty -/
def TS.some (s : TS) : Prop := (s.cr = true → s.dn ≠ []) ∧ (s.dn ≠ [] ∨ s.cur ≠ [])
theorem enc_some (s : TS) (b : UInt8) (hcr : s.cr = true → s.dn ≠ []) : (s.enc b).some := by
  unfold TS.enc
  split
  · exact ⟨by simp [TS.soft], by simp⟩
  · exact ⟨hcr, by simp⟩
theorem step_some (bin : Bool) (s : TS) (b : UInt8) (hcr : s.cr = true → s.dn ≠ []) : (s.step bin b).some := by
  unfold TS.step
  split
  · unfold TS.wr
    split
    · split
      · rename_i h
        simp at h
        exact ⟨by simp, .inl (hcr h.1)⟩
      · exact ⟨by simp [TS.crlf], .inl (by simp [TS.crlf])⟩
    · split
      · exact ⟨by simp, by simp⟩
      · exact ⟨by simp, by simp⟩
  · exact enc_some s b hcr
theorem foldl_some (bin : Bool) (data : B) : ∀ s : TS, s.some → (data.foldl (TS.step bin) s).some := by
  induction data with
  | nil => exact fun s h => h
  | cons b r ih => exact fun s h => ih _ (step_some bin s b h.1)
theorem last_some (s : TS) (h : s.some) : s.fin ≠ [] := by
  unfold TS.fin TS.last
  rcases h.2 with hd | hc
  · split
    · split
      · unfold TS.enc; split <;> simp [hd]
      · simp [hd]
    · simp [hd]
  · split
    · split
      · unfold TS.enc; split <;> simp
      · simp [hc]
    · simp [hc]
theorem wtoks_ne (bin : Bool) (data : B) (h : data ≠ []) : wtoks bin data ≠ [] := by
  cases data with
  | nil => exact absurd rfl h
  | cons b r => exact last_some _ (foldl_some bin r _ (step_some bin TS.init b (by simp [TS.init])))
theorem encode_ne (bin : Bool) (data : B) (h : data ≠ []) : encode bin data ≠ [] := by
  have h1 := wtoks_ne bin data h
  rw [encode_eq]
  have h2 := (fin_ok (wtoks_inv bin data)).1
  show textOf (wtoks bin data) ≠ []
  cases hl : wtoks bin data with
  | nil => exact absurd hl h1
  | cons t r =>
    have := (h2 t (by show t ∈ wtoks bin data; rw [hl]; simp)).text_pos
    rw [textOf_cons]
    intro e
    have := congrArg List.length e
    rw [List.length_append, List.length_nil] at this
    omega

end Go.Proofs.YtcbolmendjocbaaDoor.Qp

namespace Go.Proofs.YtcbolmendjocbaaDoor.Qp

/-- white space, as the Reader drops it at the end of a line -/
def isSp (b : UInt8) : Bool := b == 10 || b == 13 || b == 32 || b == 9
/-- a list without what stands at its end -/
def rstrip (p : UInt8 → Bool) (l : B) : B := (l.reverse.dropWhile p).reverse
/-- a hexadecimal digit's value, small letters too -/
def hexAny (b : UInt8) : Option UInt8 :=
  if 48 ≤ b && b ≤ 57 then some (b - 48) else if 65 ≤ b && b ≤ 70 then some (b - 65 + 10) else if 97 ≤ b && b ≤ 102 then some (b - 97 + 10) else none

/-- a line, what stands behind it, and how it ended: 0 with LF, 1 with the end, 2 longer than the buffer -/
def slice (src : B) : B × B × Nat :=
  if src.findIdx (· == 10) < src.length ∧ src.findIdx (· == 10) < 4096 then (src.take (src.findIdx (· == 10) + 1), src.drop (src.findIdx (· == 10) + 1), 0)
  else if src.length < 4096 then (src, [], 1)
  else (src.take 4096, src.drop 4096, 2)

/-- what the Reader makes of a line: its bytes, and how it ended -/
def prep (whole : B) (e : Nat) : B × Nat :=
  let t := rstrip isSp whole
  if t.getLast? = some 61 then
    let rs := (whole.drop t.length).dropWhile isWs
    (t.dropLast, if rs.take 1 = [10] ∨ rs.take 2 = [13, 10] ∨ (rs = [] ∧ t.dropLast ≠ [] ∧ e = 1) then e else 2)
  else if whole.drop (whole.length - 1) = [10] then
    if whole.drop (whole.length - 2) = [13, 10] then (t ++ [13, 10], e) else (t ++ [10], e)
  else (t, e)

/-- the Reader's state: its line, how it ended (0: more to come), and what is not yet read -/
structure RS where
  line : B
  rerr : Nat
  rest : B

def refill (rest : B) : RS := ⟨(prep (slice rest).1 (slice rest).2.2).1, (prep (slice rest).1 (slice rest).2.2).2, (slice rest).2.1⟩

/-- the byte with which a line begins to be read, and what is left of the line -/
def emit (b : UInt8) (r : B) : Option (UInt8 × B) :=
  if b == 61 then
    match (match r with
      | x :: y :: r' => (match hexAny x, hexAny y with | some h, some l => some (h <<< 4 ||| l, r') | _, _ => none)
      | _ => none) with
    | some v => some v
    | none => (match r with | c :: _ => if c == 13 || c == 10 then none else some (61, r) | [] => none)
  else if b == 9 || b == 13 || b == 10 then some (b, r)
  else if 128 ≤ b then some (b, r)
  else if b < 32 || 126 < b then none
  else some (b, r)

/-- all that the Reader gives, and how it ends: 1 with the end, 2 with another error -/
def strmGo : Nat → RS → B × Nat
  | 0, _ => ([], 0)
  | fuel + 1, st =>
    match st.line with
    | [] => if st.rerr ≠ 0 then ([], st.rerr) else strmGo fuel (refill st.rest)
    | b :: r => match emit b r with
      | some (v, r') => (v :: (strmGo fuel { st with line := r' }).1, (strmGo fuel { st with line := r' }).2)
      | none => ([], 2)
def meas (st : RS) : Nat := st.line.length + 2 * st.rest.length + (if st.rerr = 0 then 1 else 0)
def strm (st : RS) : B × Nat := strmGo (meas st + 1) st
def decode (src : B) : B × Nat := strm ⟨[], 0, src⟩

theorem dropWhile_len (p : UInt8 → Bool) (l : B) : (l.dropWhile p).length ≤ l.length := by
  induction l with
  | nil => simp
  | cons b r ih => simp only [List.dropWhile_cons]; split <;> simp <;> omega
theorem rstrip_len (p : UInt8 → Bool) (l : B) : (rstrip p l).length ≤ l.length := by
  unfold rstrip
  rw [List.length_reverse]
  have := dropWhile_len p l.reverse
  rw [List.length_reverse] at this
  exact this

theorem emit_len {b : UInt8} {r : B} {v : UInt8} {r' : B} (h : emit b r = some (v, r')) : r'.length ≤ r.length := by
  unfold emit at h
  split at h
  · split at h
    · rename_i x hx
      split at hx
      · split at hx
        · simp at hx h; rw [h] at hx; simp at hx; obtain ⟨_, rfl⟩ := hx; simp; omega
        · cases hx
      · cases hx
    · split at h
      · split at h
        · cases h
        · simp at h; obtain ⟨_, rfl⟩ := h; simp
      · cases h
  · split at h
    · simp at h; obtain ⟨_, rfl⟩ := h; simp
    · split at h
      · simp at h; obtain ⟨_, rfl⟩ := h; simp
      · split at h
        · cases h
        · simp at h; obtain ⟨_, rfl⟩ := h; simp

theorem slice_len (src : B) : (slice src).1.length + (slice src).2.1.length = src.length := by
  unfold slice
  split
  · simp; omega
  · split
    · simp
    · simp; omega
theorem slice_pos (src : B) (h : (slice src).2.2 = 0) : 1 ≤ (slice src).1.length := by
  unfold slice at h ⊢
  split
  · rename_i hc; simp; omega
  · rename_i hc; rw [if_neg hc] at h; split at h <;> simp at h

/-- dropping what a prefix test names from the end: the list is that prefix and what is dropped -/
theorem rstrip_split (p : UInt8 → Bool) (l : B) : ∃ w, l = rstrip p l ++ w ∧ (∀ b ∈ w, p b = true) ∧ (∀ r b, rstrip p l = r ++ [b] → p b = false) := by
  refine ⟨(l.reverse.takeWhile p).reverse, ?_, ?_, ?_⟩
  · unfold rstrip
    rw [← List.reverse_append, List.takeWhile_append_dropWhile, List.reverse_reverse]
  · intro b hb
    rw [List.mem_reverse] at hb
    generalize l.reverse = m at hb
    induction m with
    | nil => simp at hb
    | cons c r ih =>
      rw [List.takeWhile_cons] at hb
      split at hb
      · rcases List.mem_cons.1 hb with rfl | hb
        · assumption
        · exact ih hb
      · cases hb
  · intro r b h
    unfold rstrip at h
    have h' : l.reverse.dropWhile p = b :: r.reverse := by
      have := congrArg List.reverse h
      simpa using this
    clear h
    generalize l.reverse = m at h'
    induction m with
    | nil => simp at h'
    | cons c q ih =>
      rw [List.dropWhile_cons] at h'
      split at h'
      · exact ih h'
      · rename_i hc
        injection h' with h1 h2
        subst h1
        simpa using hc

theorem prep_len (whole : B) (e : Nat) : (prep whole e).1.length ≤ whole.length := by
  unfold prep
  have h1 := rstrip_len isSp whole
  simp only
  split
  · simp; omega
  · split
    · rename_i hlf
      obtain ⟨w, hw, hp, hn⟩ := rstrip_split isSp whole
      have hl : whole.length = (rstrip isSp whole).length + w.length := by
        have := congrArg List.length hw
        rwa [List.length_append] at this
      split
      · rename_i hcr
        simp
        -- the last two bytes are white space, so they are not in the part that is kept
        by_cases h2 : 2 ≤ w.length
        · omega
        · exfalso
          have hwl : 2 ≤ whole.length := by
            have := congrArg List.length hcr
            rw [List.length_drop] at this
            simp at this; omega
          have hk : 1 ≤ (rstrip isSp whole).length := by omega
          rcases List.eq_nil_or_concat (rstrip isSp whole) with e0 | ⟨q, b, e0⟩
          · rw [e0] at hk; simp at hk
          · rw [List.concat_eq_append] at e0
            have hb := hn q b e0
            have hq : (rstrip isSp whole).length = q.length + 1 := by rw [e0]; simp
            have hmem : b ∈ whole.drop (whole.length - 2) := by
              rw [hw, e0, List.append_assoc, List.drop_append]
              refine List.mem_append_right _ ?_
              have : (q ++ ([b] ++ w)).length - 2 - q.length = 0 := by simp; omega
              rw [this]
              simp
            rw [hcr] at hmem
            simp at hmem
            rcases hmem with rfl | rfl <;> simp [isSp] at hb
      · simp
        by_cases h2 : 1 ≤ w.length
        · omega
        · exfalso
          have hw0 : w = [] := List.eq_nil_of_length_eq_zero (by omega)
          subst hw0
          rw [List.append_nil] at hw
          have hwl : 1 ≤ whole.length := by
            have := congrArg List.length hlf
            rw [List.length_drop] at this
            simp at this; omega
          have := hn (whole.take (whole.length - 1)) 10 (by rw [← hw]; conv => lhs; rw [← List.take_append_drop (whole.length - 1) whole, hlf])
          simp [isSp] at this
    · exact h1

theorem meas_fill (rest : B) : meas (refill rest) < meas ⟨[], 0, rest⟩ := by
  have h1 := prep_len (slice rest).1 (slice rest).2.2
  have h2 := slice_len rest
  unfold meas refill
  simp only [List.length_nil, if_true]
  by_cases h0 : (slice rest).2.2 = 0
  · have h3 := slice_pos rest h0
    split <;> omega
  · have h4 : (prep (slice rest).1 (slice rest).2.2).2 ≠ 0 := by
      unfold prep
      simp only
      split
      · simp only; split
        · exact h0
        · simp
      · split
        · split <;> exact h0
        · exact h0
    rw [if_neg h4]
    omega

theorem strmGo_enough : ∀ fuel fuel' st, meas st < fuel → meas st < fuel' → strmGo fuel st = strmGo fuel' st := by
  intro fuel
  induction fuel with
  | zero => intro _ _ h; omega
  | succ fuel ih =>
    intro fuel' st h h'
    cases fuel' with
    | zero => omega
    | succ fuel' =>
      obtain ⟨line, rerr, rest⟩ := st
      unfold strmGo
      cases line with
      | nil =>
        simp only
        split
        · rfl
        · rename_i h0
          have h0 : rerr = 0 := by simpa using h0
          subst h0
          have := meas_fill rest
          exact ih _ _ (by omega) (by omega)
      | cons b r =>
        simp only
        split
        · rename_i v r' he
          have hl := emit_len he
          have hm : meas ⟨r', rerr, rest⟩ < meas ⟨b :: r, rerr, rest⟩ := by unfold meas; simp; omega
          rw [ih fuel' ⟨r', rerr, rest⟩ (by omega) (by omega)]
        · rfl

theorem strm_done {st : RS} (h1 : st.line = []) (h2 : st.rerr ≠ 0) : strm st = ([], st.rerr) := by
  unfold strm strmGo; rw [h1]; simp [h2]
theorem strm_fill {st : RS} (h1 : st.line = []) (h2 : st.rerr = 0) : strm st = strm (refill st.rest) := by
  obtain ⟨line, rerr, rest⟩ := st
  simp only at h1 h2
  subst h1; subst h2
  have := meas_fill rest
  show strmGo _ _ = strmGo _ _
  rw [strmGo]
  simp only [ne_eq, not_true_eq_false, if_false]
  exact strmGo_enough _ _ _ (by omega) (by omega)
theorem strm_byte {st : RS} {b : UInt8} {r : B} {v : UInt8} {r' : B} (h1 : st.line = b :: r) (h2 : emit b r = some (v, r')) :
    strm st = (v :: (strm { st with line := r' }).1, (strm { st with line := r' }).2) := by
  obtain ⟨line, rerr, rest⟩ := st
  simp only at h1
  subst h1
  have hl := emit_len h2
  have hm : meas ⟨r', rerr, rest⟩ < meas ⟨b :: r, rerr, rest⟩ := by unfold meas; simp; omega
  show strmGo _ _ = (v :: (strmGo _ _).1, (strmGo _ _).2)
  rw [strmGo]
  simp only [h2]
  rw [strmGo_enough (meas ⟨b :: r, rerr, rest⟩) (meas ⟨r', rerr, rest⟩ + 1) ⟨r', rerr, rest⟩ (by omega) (by omega)]
theorem strm_bad {st : RS} {b : UInt8} {r : B} (h1 : st.line = b :: r) (h2 : emit b r = none) : strm st = ([], 2) := by
  unfold strm strmGo; rw [h1]
  simp only [h2]

theorem slice_code (src : B) : (slice src).2.2 ≤ 2 := by
  unfold slice
  split
  · simp
  · split <;> simp
theorem prep_code (whole : B) (e : Nat) (he : e ≤ 2) : (prep whole e).2 ≤ 2 := by
  unfold prep
  simp only
  split
  · simp only; split
    · exact he
    · simp
  · split
    · split <;> exact he
    · exact he
/-- how a stream ends -/
theorem strm_code (n : Nat) : ∀ st : RS, meas st ≤ n → st.rerr ≤ 2 → (strm st).2 = 1 ∨ (strm st).2 = 2 := by
  induction n with
  | zero =>
    intro st h h2
    obtain ⟨line, rerr, rest⟩ := st
    have h' : line.length + 2 * rest.length + (if rerr = 0 then 1 else 0) ≤ 0 := h
    have hl : line = [] := List.eq_nil_of_length_eq_zero (by omega)
    have hr : rerr ≠ 0 := by intro e; rw [if_pos e] at h'; omega
    rw [strm_done hl hr]
    have h2 : rerr ≤ 2 := h2
    show rerr = 1 ∨ rerr = 2
    omega
  | succ n ih =>
    intro st h h2
    obtain ⟨line, rerr, rest⟩ := st
    have h2 : rerr ≤ 2 := h2
    cases line with
    | nil =>
      by_cases hr : rerr = 0
      · subst hr
        rw [strm_fill rfl rfl]
        exact ih (refill rest) (by have := meas_fill rest; omega) (prep_code _ _ (slice_code _))
      · rw [strm_done rfl hr]
        show rerr = 1 ∨ rerr = 2
        omega
    | cons b r =>
      cases he : emit b r with
      | none => rw [strm_bad rfl he]; exact .inr rfl
      | some x =>
        obtain ⟨v, r'⟩ := x
        rw [strm_byte rfl he]
        have hl := emit_len he
        exact ih _ (by unfold meas at h ⊢; simp at h ⊢; omega) h2

/-- no text gives more bytes than it has -/
theorem strm_size (n : Nat) : ∀ st : RS, meas st ≤ n → (strm st).1.length ≤ st.line.length + st.rest.length := by
  induction n with
  | zero =>
    intro st h
    obtain ⟨line, rerr, rest⟩ := st
    have h' : line.length + 2 * rest.length + (if rerr = 0 then 1 else 0) ≤ 0 := h
    have hl : line = [] := List.eq_nil_of_length_eq_zero (by omega)
    have hr : rerr ≠ 0 := by intro e; rw [if_pos e] at h'; omega
    rw [strm_done hl hr]; simp
  | succ n ih =>
    intro st h
    obtain ⟨line, rerr, rest⟩ := st
    cases line with
    | nil =>
      by_cases hr : rerr = 0
      · subst hr
        rw [strm_fill rfl rfl]
        have h1 := ih (refill rest) (by have := meas_fill rest; omega)
        have h2 := prep_len (slice rest).1 (slice rest).2.2
        have h3 := slice_len rest
        simp only [refill] at h1 ⊢
        simp only [List.length_nil] at *
        omega
      · rw [strm_done rfl hr]; simp
    | cons b r =>
      cases he : emit b r with
      | none => rw [strm_bad rfl he]; simp
      | some x =>
        obtain ⟨v, r'⟩ := x
        rw [strm_byte rfl he]
        have hl := emit_len he
        have := ih ⟨r', rerr, rest⟩ (by unfold meas at h ⊢; simp at h ⊢; omega)
        simp at this ⊢; omega

theorem decode_size (src : B) : (decode src).1.length ≤ src.length := by
  have := strm_size _ ⟨[], 0, src⟩ (Nat.le_refl _)
  simpa [decode] using this
theorem decode_code (src : B) : (decode src).2 = 1 ∨ (decode src).2 = 2 := strm_code _ ⟨[], 0, src⟩ (Nat.le_refl _) (by simp)
end Go.Proofs.YtcbolmendjocbaaDoor.Qp

namespace Go.Proofs.YtcbolmendjocbaaDoor.Qp

theorem hexAny_range : ∀ x : UInt8, hexAny x ≠ none → x ≠ 10 ∧ x ≠ 13 ∧ x ≠ 32 ∧ x ≠ 9 ∧ x ≠ 61 := u8_all (by decide +kernel)
theorem hexAny_lt : ∀ x : UInt8, hexAny x ≠ none → x < 128 := u8_all (by decide +kernel)
theorem app_ne {u v : B} {x : UInt8} (h1 : ∀ b ∈ u, b ≠ x) (h2 : ∀ b ∈ v, b ≠ x) : ∀ b ∈ u ++ v, b ≠ x := by
  intro b h
  rcases List.mem_append.1 h with h | h
  · exact h1 b h
  · exact h2 b h
theorem findIdx_at (u X : B) (h : ∀ b ∈ u, b ≠ 10) : (u ++ 10 :: X).findIdx (· == 10) = u.length := by
  induction u with
  | nil => simp [List.findIdx_cons]
  | cons b r ih =>
    have : (b == 10) = false := by simpa using h b (List.mem_cons_self ..)
    rw [List.cons_append, List.findIdx_cons, this, ih (fun x hx => h x (List.mem_cons_of_mem _ hx))]
    rfl
theorem findIdx_none (u : B) (h : ∀ b ∈ u, b ≠ 10) : u.findIdx (· == 10) = u.length := by
  rw [List.findIdx_eq_length]
  intro b hb
  simpa using h b hb

theorem slice_lf (u X : B) (h : ∀ b ∈ u, b ≠ 10) (hl : u.length < 4096) : slice (u ++ 10 :: X) = (u ++ [10], X, 0) := by
  have e := findIdx_at u X h
  unfold slice
  rw [if_pos (by rw [e]; simp; omega), e]
  have e1 : (u ++ 10 :: X).take (u.length + 1) = u ++ [10] := by
    rw [show u ++ 10 :: X = (u ++ [10]) ++ X by simp, List.take_left' (by simp)]
  have e2 : (u ++ 10 :: X).drop (u.length + 1) = X := by
    rw [show u ++ 10 :: X = (u ++ [10]) ++ X by simp, List.drop_left' (by simp)]
  rw [e1, e2]
theorem slice_end (u : B) (h : ∀ b ∈ u, b ≠ 10) (hl : u.length < 4096) : slice u = (u, [], 1) := by
  have e := findIdx_none u h
  unfold slice
  rw [if_neg (by rw [e]; omega), if_pos hl]

theorem app_lt {u v : B} (h1 : ∀ b ∈ u, b < 128) (h2 : ∀ b ∈ v, b < 128) : ∀ b ∈ u ++ v, b < 128 := by
  intro b h
  rcases List.mem_append.1 h with h | h
  · exact h1 b h
  · exact h2 b h

theorem rstrip_at (p : UInt8 → Bool) (q w : B) (hw : ∀ b ∈ w, p b = true) (hq : ∀ r b, q = r ++ [b] → p b = false) : rstrip p (q ++ w) = q := by
  unfold rstrip
  rw [List.reverse_append]
  have h1 : ∀ (w' : B), (∀ b ∈ w', p b = true) → (w' ++ q.reverse).dropWhile p = q.reverse.dropWhile p := by
    intro w' hw'
    induction w' with
    | nil => rfl
    | cons b r ih =>
      rw [List.cons_append, List.dropWhile_cons, if_pos (hw' b (List.mem_cons_self ..))]
      exact ih (fun x hx => hw' x (List.mem_cons_of_mem _ hx))
  rw [h1 w.reverse (fun b hb => hw b (List.mem_reverse.1 hb))]
  rcases List.eq_nil_or_concat q with e | ⟨r, b, e⟩
  · subst e; rfl
  · rw [List.concat_eq_append] at e
    have := hq r b e
    subst e
    simp [this]

theorem sp_of_ws {b : UInt8} (h : isWs b = true) : isSp b = true := by
  rcases (isWs_iff b).1 h with rfl | rfl <;> decide

end Go.Proofs.YtcbolmendjocbaaDoor.Qp

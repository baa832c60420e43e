/- Plain laws of the Writer: what it writes is the text of tokens. -/
import Derived.Test.YtcbolmendjocbaaDoorToks
namespace Go.Proofs.YtcbolmendjocbaaDoor.Qp

def escTok (b : UInt8) : Tok := ⟨3, escB b, [b]⟩
def chrTok (b : UInt8) : Tok := if isWs b then blankTok b else litTok b

theorem chrTok_text (b : UInt8) : (chrTok b).text = [b] := by unfold chrTok; split <;> rfl
theorem chrTok_value (b : UInt8) : (chrTok b).value = [b] := by unfold chrTok; split <;> rfl

theorem u8_all {p : UInt8 → Prop} (h : ∀ n : Fin 256, p (UInt8.ofFin n)) (b : UInt8) : p b := by
  have := h b.toFin
  simpa using this
theorem hexV_hexU : ∀ n : UInt8, n < 16 → hexV (hexU n) = some n.toNat := u8_all (by decide +kernel)
theorem nib_hi : ∀ b : UInt8, b >>> 4 < 16 := u8_all (by decide +kernel)
theorem nib_lo : ∀ b : UInt8, b &&& 15 < 16 := u8_all (by decide +kernel)
theorem nib_join : ∀ b : UInt8, UInt8.ofNat ((b >>> 4).toNat * 16 + (b &&& 15).toNat) = b := u8_all (by decide +kernel)

theorem escTok_ok (b : UInt8) : okTok (escTok b) :=
  .inr (.inr (.inl ⟨_, _, _, _, hexV_hexU _ (nib_hi b), hexV_hexU _ (nib_lo b), by rw [nib_join]; rfl⟩))

/-- the Writer over tokens: those of the lines that are written, those of its line -/
structure TS where
  dn : List Tok
  cur : List Tok
  cr : Bool

def TS.ws (s : TS) : WS := ⟨textOf s.dn, textOf s.cur, s.cr⟩
def TS.crlf (s : TS) : TS := { s with dn := s.dn ++ (s.cur ++ [brkTok]), cur := [] }
def TS.soft (s : TS) : TS := { s with dn := s.dn ++ (s.cur ++ [softTok]), cur := [] }
def TS.enc (s : TS) (b : UInt8) : TS :=
  if 72 < (textOf s.cur).length then { s.soft with cur := [escTok b] } else { s with cur := s.cur ++ [escTok b] }
def TS.last (s : TS) : TS :=
  match s.cur.getLast? with
  | some t => if t.kind = 2 then ({ s with cur := s.cur.dropLast } : TS).enc (t.value.headD 0) else s
  | none => s
def TS.wr (s : TS) (b : UInt8) : TS :=
  if b == 10 || b == 13 then
    if s.cr && b == 10 then { s with cr := false }
    else (({ s with cr := s.cr || b == 13 } : TS).last).crlf
  else
    if (textOf s.cur).length == 75 then { s.soft with cur := [chrTok b], cr := false } else { s with cur := s.cur ++ [chrTok b], cr := false }
def TS.step (bin : Bool) (s : TS) (b : UInt8) : TS := if simple bin b then s.wr b else s.enc b
def TS.init : TS := ⟨[], [], false⟩
def TS.fin (s : TS) : List Tok := s.last.dn ++ s.last.cur

/-- an escape may be needed there: its byte is not printable and no blank, or an equals sign -/
def hard (t : Tok) : Prop := ∃ b, t = escTok b ∧ isWs b = false ∧ ¬ (33 ≤ b ∧ b ≤ 126 ∧ b ≠ 61)
/-- a token of the Writer's line -/
def curTok (t : Tok) : Prop := (∃ b : UInt8, 33 ≤ b ∧ b ≤ 126 ∧ b ≠ 61 ∧ t = litTok b) ∨ (∃ b : UInt8, (b = 32 ∨ b = 9) ∧ t = blankTok b) ∨ hard t
/-- the tokens of lines that are written: each escape is of a hard byte or stands ahead of a line break -/
def dnOk : List Tok → Prop
  | [] => True
  | t :: r => (okTok t ∧ (t.kind = 3 → hard t ∨ (∃ b, t = escTok b ∧ isWs b = true) ∧ ∃ r', r = brkTok :: r') ∧ (t.kind = 2 → ∃ u r', r = u :: r' ∧ u.kind ≠ 5)) ∧ dnOk r

structure Inv (s : TS) : Prop where
  cur : ∀ t ∈ s.cur, curTok t
  dn : dnOk s.dn
  edge : s.dn = [] ∨ ∃ r t, s.dn = r ++ [t] ∧ (t.kind = 4 ∨ t.kind = 5)
  short : (textOf s.cur).length ≤ 75
  ok : lineOk 0 s.dn = true

theorem curTok.ok {t : Tok} (h : curTok t) : okTok t := by
  rcases h with h | h | ⟨b, rfl, _⟩
  · exact .inl h
  · exact .inr (.inl h)
  · exact escTok_ok b

theorem curTok.text3 {t : Tok} (h : curTok t) : t.kind ≠ 4 ∧ t.kind ≠ 5 := by
  rcases h with ⟨b, _, _, _, rfl⟩ | ⟨b, _, rfl⟩ | ⟨b, rfl, _⟩ <;> simp [litTok, blankTok, escTok]

theorem isWs_iff (b : UInt8) : isWs b = true ↔ b = 32 ∨ b = 9 := by simp [isWs]

theorem hexU_nws : ∀ n : UInt8, n < 16 → isWs (hexU n) = false := u8_all (by decide +kernel)

/-- the last byte of a token of the line is a blank where the token is one -/
theorem curTok.last {t : Tok} (h : curTok t) : ∃ r b, t.text = r ++ [b] ∧ (isWs b = true ↔ t.kind = 2) ∧ (t.kind = 2 → r = [] ∧ t.value = [b]) := by
  rcases h with ⟨b, h1, h2, h3, rfl⟩ | ⟨b, hb, rfl⟩ | ⟨b, rfl, _⟩
  · refine ⟨[], b, rfl, ?_, by simp [litTok]⟩
    have : isWs b = false := by
      rw [Bool.eq_false_iff]; intro hw
      rcases (isWs_iff b).1 hw with rfl | rfl <;> exact absurd h1 (by decide)
    simp [this, litTok]
  · exact ⟨[], b, rfl, by simp [blankTok, (isWs_iff b).2 hb], fun _ => ⟨rfl, rfl⟩⟩
  · exact ⟨[61, hexU (b >>> 4)], hexU (b &&& 15), rfl, by simp [escTok, hexU_nws _ (nib_lo b)], by simp [escTok]⟩

theorem enc_ws (s : TS) (b : UInt8) : (s.enc b).ws = s.ws.enc b := by
  unfold TS.enc WS.enc
  show (TS.ws (if _ then _ else _)) = if 72 < (textOf s.cur).length then _ else _
  split <;> simp [TS.ws, TS.soft, WS.soft, textOf_append, textOf_cons, textOf_nil, escTok, softTok]

theorem last_ws (s : TS) (h : ∀ t ∈ s.cur, curTok t) : s.last.ws = s.ws.last := by
  unfold TS.last WS.last
  rcases List.eq_nil_or_concat s.cur with e | ⟨r, t, e⟩
  · simp [e, TS.ws, textOf]
  · have ht := h t (by simp [e])
    obtain ⟨q, b, hq, hw, hk⟩ := ht.last
    have hgl : (textOf s.cur).getLast? = some b := by rw [e, List.concat_eq_append, textOf_append, textOf_cons, textOf_nil, List.append_nil, hq]; simp
    rw [show s.cur.getLast? = some t by rw [e]; simp]
    show TS.ws (if t.kind = 2 then _ else s) = match s.ws.line.getLast? with | some b => _ | none => _
    rw [show s.ws.line.getLast? = some b from hgl]
    by_cases h2 : t.kind = 2
    · obtain ⟨hq0, hv⟩ := hk h2
      subst hq0
      simp only [h2, if_true, hw.2 h2, enc_ws]
      congr 1
      · show (⟨textOf s.dn, textOf s.cur.dropLast, s.cr⟩ : WS) = ⟨textOf s.dn, (textOf s.cur).dropLast, s.cr⟩
        rw [e, List.concat_eq_append, List.dropLast_concat, textOf_append, textOf_cons, textOf_nil, hq, List.nil_append, List.append_nil, List.dropLast_concat]
      · rw [hv]; rfl
    · have : isWs b = false := by rw [Bool.eq_false_iff]; exact fun hb => h2 (hw.1 hb)
      simp [h2, this]

theorem wr_ws (s : TS) (b : UInt8) (h : ∀ t ∈ s.cur, curTok t) : (s.wr b).ws = s.ws.wr b := by
  have hl : ∀ cr, (({ s with cr := cr } : TS).last).crlf.ws = (({ s.ws with cr := cr } : WS).last).crlf := by
    intro cr
    rw [show ({ s.ws with cr := cr } : WS) = ({ s with cr := cr } : TS).ws from rfl, ← last_ws _ (by exact h)]
    simp [TS.crlf, WS.crlf, TS.ws, textOf_append, textOf_cons, textOf_nil, brkTok]
  unfold TS.wr WS.wr
  show TS.ws (if _ then (if s.cr && b == 10 then _ else _) else _) = if _ then (if s.cr && b == 10 then _ else _) else (if (textOf s.cur).length == 75 then _ else _)
  split
  · split
    · rfl
    · exact hl _
  · split <;> simp [TS.ws, TS.soft, WS.soft, textOf_append, textOf_cons, textOf_nil, chrTok_text, softTok]

theorem step_ws (bin : Bool) (s : TS) (b : UInt8) (h : ∀ t ∈ s.cur, curTok t) : (s.step bin b).ws = s.ws.step bin b := by
  unfold TS.step WS.step
  split
  · exact wr_ws s b h
  · exact enc_ws s b

/-! the invariant -/
theorem lineEnd_cur (l : List Tok) (h : ∀ t ∈ l, curTok t) (n : Nat) : lineEnd n l = n + (textOf l).length := by
  induction l generalizing n with
  | nil => simp [lineEnd, textOf]
  | cons t r ih =>
    have h3 := (h t (List.mem_cons_self ..)).text3
    rw [lineEnd, ih (fun x hx => h x (List.mem_cons_of_mem _ hx)), textOf_cons, List.length_append]
    simp [Tok.leaves, Tok.adds, h3]; omega
theorem lineOk_cur (l : List Tok) (h : ∀ t ∈ l, curTok t) (n : Nat) (hn : n + (textOf l).length ≤ 76) : lineOk n l = true := by
  induction l generalizing n with
  | nil => rfl
  | cons t r ih =>
    have h3 := (h t (List.mem_cons_self ..)).text3
    rw [textOf_cons, List.length_append] at hn
    have e : t.leaves n = n + t.text.length := by simp [Tok.leaves, Tok.adds, h3]
    rw [lineOk, e, ih (fun x hx => h x (List.mem_cons_of_mem _ hx)) _ (by omega)]
    simp [Tok.adds, h3]; omega
theorem lineEnd_edge {l : List Tok} (h : l = [] ∨ ∃ r t, l = r ++ [t] ∧ (t.kind = 4 ∨ t.kind = 5)) : lineEnd 0 l = 0 := by
  rcases h with rfl | ⟨r, t, rfl, h⟩
  · rfl
  · rw [lineEnd_append]; simp [lineEnd, Tok.leaves, h]

theorem Inv.init : Inv TS.init := ⟨by simp [TS.init], trivial, .inl rfl, by simp [TS.init, textOf], rfl⟩

theorem dnOk_append_edge {a c : List Tok} (ha : dnOk a) (he : a = [] ∨ ∃ r t, a = r ++ [t] ∧ (t.kind = 4 ∨ t.kind = 5)) (hc : dnOk c) : dnOk (a ++ c) := by
  induction a with
  | nil => exact hc
  | cons t r ih =>
    obtain ⟨⟨h1, h2, h3⟩, hr⟩ := ha
    have her : r = [] ∨ ∃ r' t, r = r' ++ [t] ∧ (t.kind = 4 ∨ t.kind = 5) := by
      rcases he with he | ⟨r', t', e, hk⟩
      · cases he
      · cases r' with
        | nil => simp at e; exact .inl e.2
        | cons x r'' => simp at e; exact .inr ⟨r'', t', e.2, hk⟩
    refine ⟨⟨h1, ?_, ?_⟩, ih hr her⟩
    · intro hk
      rcases h2 hk with h2 | ⟨hb, r', e⟩
      · exact .inl h2
      · exact .inr ⟨hb, r' ++ c, by rw [e]; rfl⟩
    · intro hk
      obtain ⟨u, r', e, hu⟩ := h3 hk
      exact ⟨u, r' ++ c, by rw [e]; rfl, hu⟩

/-- a line of the Writer with what ends it -/
theorem dnOk_line {l : List Tok} (h : ∀ t ∈ l, curTok t) (u : Tok) (hu : u = softTok ∨ u = brkTok ∧ (∀ r t, l = r ++ [t] → t.kind ≠ 2)) : dnOk (l ++ [u]) := by
  induction l with
  | nil =>
    rcases hu with rfl | ⟨rfl, _⟩
    · exact ⟨⟨.inr (.inr (.inr (.inl rfl))), by simp [softTok], by simp [softTok]⟩, trivial⟩
    · exact ⟨⟨.inr (.inr (.inr (.inr rfl))), by simp [brkTok], by simp [brkTok]⟩, trivial⟩
  | cons t r ih =>
    have ht := h t (List.mem_cons_self ..)
    refine ⟨⟨ht.ok, ?_, ?_⟩, ih (fun x hx => h x (List.mem_cons_of_mem _ hx)) ?_⟩
    · intro hk
      rcases ht with ⟨b, _, _, _, rfl⟩ | ⟨b, _, rfl⟩ | ht
      · simp [litTok] at hk
      · simp [blankTok] at hk
      · exact .inl ht
    · intro hk
      cases r with
      | nil =>
        refine ⟨u, [], rfl, ?_⟩
        rcases hu with rfl | ⟨rfl, hu⟩
        · simp [softTok]
        · exact absurd hk (hu [] t rfl)
      | cons x r' => exact ⟨x, r' ++ [u], rfl, (h x (by simp)).text3.2⟩
    · rcases hu with hu | ⟨hu, hb⟩
      · exact .inl hu
      · exact .inr ⟨hu, fun r' t' e => hb (t :: r') t' (by rw [e]; rfl)⟩

/-- the line with an escape of a blank at its end, ahead of a line break -/
theorem dnOk_esc {l : List Tok} (h : ∀ t ∈ l, curTok t) (b : UInt8) (hb : isWs b = true) : dnOk (l ++ [escTok b, brkTok]) := by
  induction l with
  | nil => exact ⟨⟨escTok_ok b, fun _ => .inr ⟨⟨b, rfl, hb⟩, [], rfl⟩, by simp [escTok]⟩, ⟨.inr (.inr (.inr (.inr rfl))), by simp [brkTok], by simp [brkTok]⟩, trivial⟩
  | cons t r ih =>
    have ht := h t (List.mem_cons_self ..)
    refine ⟨⟨ht.ok, ?_, ?_⟩, ih (fun x hx => h x (List.mem_cons_of_mem _ hx))⟩
    · intro hk
      rcases ht with ⟨b, _, _, _, rfl⟩ | ⟨b, _, rfl⟩ | ht
      · simp [litTok] at hk
      · simp [blankTok] at hk
      · exact .inl ht
    · intro hk
      cases r with
      | nil => exact ⟨escTok b, [brkTok], rfl, by simp [escTok]⟩
      | cons x r' => exact ⟨x, _, rfl, (h x (by simp)).text3.2⟩

theorem escB_len (b : UInt8) : (escB b).length = 3 := rfl

theorem Inv.soft {s : TS} (h : Inv s) : Inv s.soft := by
  have hl := dnOk_line h.cur softTok (.inl rfl)
  refine ⟨by simp [TS.soft], dnOk_append_edge h.dn h.edge hl, .inr ⟨s.dn ++ s.cur, softTok, by simp [TS.soft], .inl rfl⟩, by simp [TS.soft, textOf], ?_⟩
  show lineOk 0 (s.dn ++ (s.cur ++ [softTok])) = true
  have := h.short
  rw [lineOk_append, h.ok, lineEnd_edge h.edge, lineOk_append, lineOk_cur _ h.cur _ (by omega), lineEnd_cur _ h.cur]
  simp [lineOk, Tok.adds, softTok]; omega

theorem Inv.enc {s : TS} (h : Inv s) (b : UInt8) (hb : hard (escTok b)) : Inv (s.enc b) := by
  unfold TS.enc
  split
  · have hs := h.soft
    exact ⟨by simp; exact .inr (.inr hb), hs.dn, hs.edge, by simp [textOf, escTok, escB_len], hs.ok⟩
  · refine ⟨?_, h.dn, h.edge, ?_, h.ok⟩
    · intro t ht
      rcases List.mem_append.1 ht with ht | ht
      · exact h.cur t ht
      · simp at ht; subst ht; exact .inr (.inr hb)
    · show (textOf (s.cur ++ [escTok b])).length ≤ 75
      rw [textOf_append, List.length_append]
      have : (textOf [escTok b]).length = 3 := rfl
      omega

theorem Inv.chr {s : TS} (h : Inv s) (b : UInt8) (hb : curTok (chrTok b)) : Inv (if (textOf s.cur).length == 75 then { s.soft with cur := [chrTok b], cr := false } else { s with cur := s.cur ++ [chrTok b], cr := false }) := by
  split
  · have hs := h.soft
    exact ⟨by simp; exact hb, hs.dn, hs.edge, by simp [textOf, chrTok_text], hs.ok⟩
  · rename_i h75
    refine ⟨?_, h.dn, h.edge, ?_, h.ok⟩
    · intro t ht
      rcases List.mem_append.1 ht with ht | ht
      · exact h.cur t ht
      · simp at ht; subst ht; exact hb
    · show (textOf (s.cur ++ [chrTok b])).length ≤ 75
      rw [textOf_append, List.length_append]
      have e : (textOf [chrTok b]).length = 1 := by simp [textOf, chrTok_text]
      have := h.short
      simp at h75
      omega

/-- what 'last' leaves: the lines that are written, the line; its last token is no blank; an escape of a blank alone is not hard -/
theorem last_cases {s : TS} (h : Inv s) : (s.last = s ∧ ∀ r t, s.cur = r ++ [t] → t.kind ≠ 2) ∨
    ∃ s' : TS, ∃ b, Inv s' ∧ isWs b = true ∧ s.last = { s' with cur := s'.cur ++ [escTok b] } ∧ (textOf s'.cur).length ≤ 72 ∧ s'.cr = s.cr ∧ vals s.dn ++ vals s.cur = vals s'.dn ++ vals s'.cur ++ [b] := by
  unfold TS.last
  rcases List.eq_nil_or_concat s.cur with e | ⟨r, t, e⟩
  · left; simp [e]
  · rw [List.concat_eq_append] at e
    have ht := h.cur t (by simp [e])
    rw [show s.cur.getLast? = some t by rw [e]; simp]
    by_cases h2 : t.kind = 2
    · right
      simp only [h2, if_true]
      have hcur : ∀ x ∈ s.cur.dropLast, curTok x := fun x hx => h.cur x (List.dropLast_subset _ hx)
      have h1 : Inv { s with cur := s.cur.dropLast } := by
        refine ⟨hcur, h.dn, h.edge, ?_, h.ok⟩
        have := h.short
        rw [e, textOf_append, List.length_append] at this
        show (textOf s.cur.dropLast).length ≤ 75
        rw [e, List.dropLast_concat]; omega
      obtain ⟨q, b, hq, hw, hk⟩ := ht.last
      obtain ⟨_, hv⟩ := hk h2
      have hwb := hw.2 h2
      have hvs : vals s.cur = vals s.cur.dropLast ++ [b] := by rw [e, List.dropLast_concat, vals_append]; simp [vals, hv]
      unfold TS.enc
      split
      · refine ⟨({ s with cur := s.cur.dropLast } : TS).soft, b, h1.soft, hwb, by simp [TS.soft, hv], by simp [TS.soft, textOf], rfl, ?_⟩
        show vals s.dn ++ vals s.cur = vals (s.dn ++ (s.cur.dropLast ++ [softTok])) ++ vals [] ++ [b]
        rw [hvs]; simp [vals, softTok]
      · rename_i h72
        refine ⟨{ s with cur := s.cur.dropLast }, b, h1, hwb, by simp [hv], ?_, rfl, ?_⟩
        · show (textOf s.cur.dropLast).length ≤ 72
          have : ¬ 72 < (textOf s.cur.dropLast).length := h72
          omega
        · rw [hvs]; simp
    · left
      simp only [h2, if_false, true_and]
      intro r' t' e'
      rw [e] at e'
      have := (List.append_inj' e' rfl).2
      simp at this; rw [← this]; exact h2

theorem vals_nil : vals [] = [] := rfl
theorem vals_esc (b : UInt8) : vals [escTok b] = [b] := rfl

/-- the line break: the tokens stay good, and stand for two bytes more -/
theorem Inv.brk {s : TS} (h : Inv s) : Inv s.last.crlf ∧ vals s.last.crlf.dn ++ vals s.last.crlf.cur = vals s.dn ++ vals s.cur ++ [13, 10] := by
  rcases last_cases h with ⟨e, hb⟩ | ⟨s', b, h', hw, e, hl, _, hv⟩
  · rw [e]
    have hd := dnOk_line h.cur brkTok (.inr ⟨rfl, hb⟩)
    refine ⟨⟨by simp [TS.crlf], dnOk_append_edge h.dn h.edge hd, .inr ⟨s.dn ++ s.cur, brkTok, by simp [TS.crlf], .inr rfl⟩, by simp [TS.crlf, textOf], ?_⟩, ?_⟩
    · show lineOk 0 (s.dn ++ (s.cur ++ [brkTok])) = true
      have := h.short
      rw [lineOk_append, h.ok, lineEnd_edge h.edge, lineOk_append, lineOk_cur _ h.cur _ (by omega), lineEnd_cur _ h.cur]
      simp [lineOk, Tok.adds, brkTok]; omega
    · simp [TS.crlf, vals, brkTok]
  · rw [e]
    have hd := dnOk_esc h'.cur b hw
    refine ⟨⟨by simp [TS.crlf], ?_, .inr ⟨s'.dn ++ (s'.cur ++ [escTok b]), brkTok, by simp [TS.crlf], .inr rfl⟩, by simp [TS.crlf, textOf], ?_⟩, ?_⟩
    · show dnOk (s'.dn ++ (s'.cur ++ [escTok b] ++ [brkTok]))
      rw [List.append_assoc]
      exact dnOk_append_edge h'.dn h'.edge hd
    · show lineOk 0 (s'.dn ++ (s'.cur ++ [escTok b] ++ [brkTok])) = true
      rw [lineOk_append, h'.ok, lineEnd_edge h'.edge, List.append_assoc, lineOk_append, lineOk_cur _ h'.cur _ (by omega), lineEnd_cur _ h'.cur]
      simp [lineOk, Tok.adds, brkTok, Tok.leaves, escTok, escB_len]; omega
    · rw [hv]; simp [TS.crlf, vals, brkTok, escTok]

theorem simple_cases {bin : Bool} {b : UInt8} (h : simple bin b = true) : (b = 10 ∨ b = 13) ∧ bin = false ∨ b ≠ 10 ∧ b ≠ 13 ∧ curTok (chrTok b) := by
  unfold simple at h
  simp only [Bool.or_eq_true, Bool.and_eq_true, decide_eq_true_eq, bne_iff_ne, Bool.not_eq_true', beq_iff_eq] at h
  rcases h with ⟨⟨h1, h2⟩, h3⟩ | h | ⟨h1, h2⟩
  · right
    have hw : isWs b = false := by
      rw [Bool.eq_false_iff]; intro hw
      rcases (isWs_iff b).1 hw with rfl | rfl <;> exact absurd h1 (by decide)
    refine ⟨by rintro rfl; exact absurd h1 (by decide), by rintro rfl; exact absurd h1 (by decide), .inl ⟨b, h1, h2, h3, by simp [chrTok, hw]⟩⟩
  · right
    rcases (isWs_iff b).1 h with rfl | rfl
    · exact ⟨by decide, by decide, .inr (.inl ⟨32, .inl rfl, rfl⟩)⟩
    · exact ⟨by decide, by decide, .inr (.inl ⟨9, .inr rfl, rfl⟩)⟩
  · exact .inl ⟨h2, h1⟩

theorem not_simple {bin : Bool} {b : UInt8} (h : ¬ simple bin b = true) : hard (escTok b) ∧ (bin = false → b ≠ 10 ∧ b ≠ 13) := by
  unfold simple at h
  simp only [Bool.or_eq_true, Bool.and_eq_true, decide_eq_true_eq, bne_iff_ne, Bool.not_eq_true', beq_iff_eq, not_or] at h
  obtain ⟨h1, h2, h3⟩ := h
  refine ⟨⟨b, rfl, by simpa using h2, fun ⟨a, b, c⟩ => h1 ⟨⟨a, b⟩, c⟩⟩, fun hb => ?_⟩
  constructor <;> (rintro rfl; exact h3 ⟨hb, by simp⟩)

theorem vals_enc (s : TS) (b : UInt8) : vals (s.enc b).dn ++ vals (s.enc b).cur = vals s.dn ++ vals s.cur ++ [b] := by
  unfold TS.enc; split <;> simp [TS.soft, vals, softTok, escTok]
theorem vals_chr (s : TS) (b : UInt8) (x : TS) (hx : x = if (textOf s.cur).length == 75 then { s.soft with cur := [chrTok b], cr := false } else { s with cur := s.cur ++ [chrTok b], cr := false }) :
    vals x.dn ++ vals x.cur = vals s.dn ++ vals s.cur ++ [b] ∧ x.cr = false := by
  subst hx
  split <;> simp [TS.soft, vals, softTok, chrTok_value]

theorem Inv.step {s : TS} (h : Inv s) (bin : Bool) (b : UInt8) : Inv (s.step bin b) := by
  unfold TS.step
  split
  · rename_i hs
    unfold TS.wr
    rcases simple_cases hs with ⟨hb, _⟩ | ⟨h1, h2, hc⟩
    · rw [if_pos (by simpa using hb)]
      split
      · exact ⟨h.cur, h.dn, h.edge, h.short, h.ok⟩
      · exact (Inv.brk (s := { s with cr := s.cr || b == 13 }) ⟨h.cur, h.dn, h.edge, h.short, h.ok⟩).1
    · rw [if_neg (by simp [h1, h2])]
      exact h.chr b hc
  · rename_i hs
    exact h.enc b (not_simple hs).1

theorem foldl_inv (bin : Bool) (data : B) : ∀ s : TS, Inv s → Inv (data.foldl (TS.step bin) s) ∧ (data.foldl (TS.step bin) s).ws = data.foldl (WS.step bin) s.ws := by
  induction data with
  | nil => exact fun s h => ⟨h, rfl⟩
  | cons b r ih =>
    intro s h
    obtain ⟨i1, i2⟩ := ih _ (h.step bin b)
    exact ⟨i1, by rw [List.foldl_cons, i2, step_ws bin s b h.cur]; rfl⟩

/-- the tokens of what the Writer writes -/
def wtoks (bin : Bool) (data : B) : List Tok := (data.foldl (TS.step bin) TS.init).fin

theorem encode_eq (bin : Bool) (data : B) : encode bin data = textOf (wtoks bin data) := by
  obtain ⟨i1, i2⟩ := foldl_inv bin data TS.init Inv.init
  unfold encode wtoks WS.fin TS.fin
  rw [show WS.init = TS.init.ws from rfl, ← i2, ← last_ws _ i1.cur, textOf_append]
  rfl

theorem dnOk_ok {l : List Tok} (h : dnOk l) : ∀ t ∈ l, okTok t := by
  induction l with
  | nil => simp
  | cons t r ih =>
    intro x hx
    rcases List.mem_cons.1 hx with rfl | hx
    · exact h.1.1
    · exact ih h.2 x hx

/-- what may not stand for itself -/
def needed (b : UInt8) (r : List Tok) : Bool :=
  if b == 32 || b == 9 then (match r with | [] => true | u :: _ => decide (u.kind = 5)) else decide (b < 32) || decide (126 < b) || b == 61
/-- each escape is needed -/
def allNeeded : List Tok → Bool
  | [] => true
  | t :: r => (if t.kind = 3 then needed (t.value.headD 0) r else true) && allNeeded r

theorem hard_needed {t : Tok} (h : hard t) (r : List Tok) : needed (t.value.headD 0) r = true := by
  obtain ⟨b, rfl, hw, hb⟩ := h
  unfold needed
  have h1 : (b == 32 || b == 9) = false := hw
  have h2 : b ≠ 32 := by rintro rfl; simp at h1
  show (if (b == 32 || b == 9) = true then _ else decide (b < 32) || decide (126 < b) || b == 61) = true
  rw [h1]
  simp only [Bool.false_eq_true, if_false, Bool.or_eq_true, decide_eq_true_eq, beq_iff_eq]
  by_cases h61 : b = 61
  · exact .inr h61
  · left
    have h3 : ¬ (33 ≤ b ∧ b ≤ 126) := fun ⟨x, y⟩ => hb ⟨x, y, h61⟩
    rw [UInt8.lt_iff_toNat_lt, UInt8.lt_iff_toNat_lt]
    rw [UInt8.le_iff_toNat_le, UInt8.le_iff_toNat_le] at h3
    have h5 : b.toNat ≠ 32 := fun e => h2 (UInt8.toNat_inj.1 e)
    simp at h3 ⊢
    omega

theorem allNeeded_dn {a c : List Tok} (ha : dnOk a) (hc : allNeeded c = true) : allNeeded (a ++ c) = true := by
  induction a with
  | nil => exact hc
  | cons t r ih =>
    obtain ⟨⟨h1, h2, h3⟩, hr⟩ := ha
    simp only [List.cons_append, allNeeded, ih hr, Bool.and_true]
    split
    · rename_i hk
      rcases h2 hk with h2 | ⟨⟨b, rfl, hb⟩, r', e⟩
      · exact hard_needed h2 _
      · subst e
        have h1 : (b == 32 || b == 9) = true := hb
        simp [needed, escTok, h1, brkTok]
    · rfl

theorem blankEnds_dn {a c : List Tok} (ha : dnOk a) (hc : blankEnds c = false) : blankEnds (a ++ c) = false := by
  induction a with
  | nil => exact hc
  | cons t r ih =>
    obtain ⟨⟨h1, h2, h3⟩, hr⟩ := ha
    simp only [List.cons_append, blankEnds, ih hr, Bool.or_false]
    by_cases hk : t.kind = 2
    · obtain ⟨u, r', e, hu⟩ := h3 hk
      subst e
      simp [hu]
    · simp [hk]

/-- the last line, ended by nothing -/
theorem cur_end {l : List Tok} (h : ∀ t ∈ l, curTok t) (hb : ∀ r t, l = r ++ [t] → t.kind ≠ 2) : blankEnds l = false ∧ allNeeded l = true := by
  induction l with
  | nil => exact ⟨rfl, rfl⟩
  | cons t r ih =>
    obtain ⟨i1, i2⟩ := ih (fun x hx => h x (List.mem_cons_of_mem _ hx)) (fun r' t' e => hb (t :: r') t' (by rw [e]; rfl))
    refine ⟨?_, ?_⟩
    · simp only [blankEnds, i1, Bool.or_false, Bool.and_eq_false_iff, decide_eq_false_iff_not]
      cases r with
      | nil => exact .inl (hb [] t rfl)
      | cons u r' => right; simpa using (h u (by simp)).text3.2
    · simp only [allNeeded, i2, Bool.and_true]
      split
      · rename_i hk
        rcases h t (List.mem_cons_self ..) with ⟨b, _, _, _, rfl⟩ | ⟨b, _, rfl⟩ | ht
        · simp [litTok] at hk
        · simp [blankTok] at hk
        · exact hard_needed ht _
      · rfl
theorem cur_end_esc {l : List Tok} (h : ∀ t ∈ l, curTok t) (b : UInt8) (hb : isWs b = true) : blankEnds (l ++ [escTok b]) = false ∧ allNeeded (l ++ [escTok b]) = true := by
  induction l with
  | nil =>
    have h1 : (b == 32 || b == 9) = true := hb
    simp [blankEnds, allNeeded, needed, escTok, h1]
  | cons t r ih =>
    obtain ⟨i1, i2⟩ := ih (fun x hx => h x (List.mem_cons_of_mem _ hx))
    refine ⟨?_, ?_⟩
    · simp only [List.cons_append, blankEnds, i1, Bool.or_false, Bool.and_eq_false_iff, decide_eq_false_iff_not]
      right
      cases r with
      | nil => simp [escTok]
      | cons u r' => simpa using (h u (by simp)).text3.2
    · simp only [List.cons_append, allNeeded, i2, Bool.and_true]
      split
      · rename_i hk
        rcases h t (List.mem_cons_self ..) with ⟨b, _, _, _, rfl⟩ | ⟨b, _, rfl⟩ | ht
        · simp [litTok] at hk
        · simp [blankTok] at hk
        · exact hard_needed ht _
      · rfl

/-- WHAT CLOSE LEAVES. -/
theorem fin_ok {s : TS} (h : Inv s) : (∀ t ∈ s.fin, okTok t) ∧ lineOk 0 s.fin = true ∧ blankEnds s.fin = false ∧ allNeeded s.fin = true ∧ vals s.fin = vals s.dn ++ vals s.cur := by
  unfold TS.fin
  rcases last_cases h with ⟨e, hb⟩ | ⟨s', b, h', hw, e, hl, _, hv⟩
  · rw [e]
    obtain ⟨c1, c2⟩ := cur_end h.cur hb
    have := h.short
    refine ⟨?_, ?_, blankEnds_dn h.dn c1, allNeeded_dn h.dn c2, vals_append _ _⟩
    · intro t ht
      rcases List.mem_append.1 ht with ht | ht
      · exact dnOk_ok h.dn t ht
      · exact (h.cur t ht).ok
    · rw [lineOk_append, h.ok, lineEnd_edge h.edge, lineOk_cur _ h.cur _ (by omega)]; rfl
  · rw [e]
    obtain ⟨c1, c2⟩ := cur_end_esc h'.cur b hw
    refine ⟨?_, ?_, blankEnds_dn h'.dn c1, allNeeded_dn h'.dn c2, ?_⟩
    · intro t ht
      rcases List.mem_append.1 ht with ht | ht
      · exact dnOk_ok h'.dn t ht
      · rcases List.mem_append.1 ht with ht | ht
        · exact (h'.cur t ht).ok
        · simp at ht; subst ht; exact escTok_ok b
    · show lineOk 0 (s'.dn ++ (s'.cur ++ [escTok b])) = true
      rw [lineOk_append, h'.ok, lineEnd_edge h'.edge, lineOk_append, lineOk_cur _ h'.cur _ (by omega), lineEnd_cur _ h'.cur]
      simp [lineOk, Tok.adds, escTok, escB_len]; omega
    · rw [hv]; simp [vals, escTok]

/-! what the tokens stand for -/
theorem wr_nl {s : TS} (h : Inv s) (b : UInt8) (hb : b = 10 ∨ b = 13) (hc : ¬ (s.cr = true ∧ b = 10)) :
    vals (s.wr b).dn ++ vals (s.wr b).cur = vals s.dn ++ vals s.cur ++ [13, 10] ∧ (s.wr b).cr = (s.cr || b == 13) := by
  unfold TS.wr
  rw [if_pos (by simpa using hb), if_neg (by simpa using hc)]
  have h1 : Inv { s with cr := s.cr || b == 13 } := ⟨h.cur, h.dn, h.edge, h.short, h.ok⟩
  refine ⟨h1.brk.2, ?_⟩
  show ({ s with cr := s.cr || b == 13 } : TS).last.cr = _
  rcases last_cases h1 with ⟨e, _⟩ | ⟨s', b', _, _, e, _, hcr, _⟩
  · rw [e]
  · rw [e]; exact hcr

theorem step_vals_bin {s : TS} (b : UInt8) : vals (s.step true b).dn ++ vals (s.step true b).cur = vals s.dn ++ vals s.cur ++ [b] := by
  unfold TS.step
  split
  · rename_i hs
    rcases simple_cases hs with ⟨_, hb⟩ | ⟨h1, h2, hc⟩
    · cases hb
    · unfold TS.wr
      rw [if_neg (by simp [h1, h2])]
      exact (vals_chr s b _ rfl).1
  · exact vals_enc s b

theorem foldl_vals_bin (data : B) : ∀ s : TS, vals (data.foldl (TS.step true) s).dn ++ vals (data.foldl (TS.step true) s).cur = vals s.dn ++ vals s.cur ++ data := by
  induction data with
  | nil => intro s; simp
  | cons b r ih => intro s; rw [List.foldl_cons, ih, step_vals_bin]; simp

theorem foldl_vals_txt (data : B) : ∀ (s : TS) (o : B), Inv s → linesGo s.cr data = some o →
    vals (data.foldl (TS.step false) s).dn ++ vals (data.foldl (TS.step false) s).cur = vals s.dn ++ vals s.cur ++ (if s.cr then o.tail else o) := by
  induction data with
  | nil =>
    intro s o _ h
    cases hc : s.cr <;> rw [hc] at h <;> simp [linesGo] at h
    subst h; simp
  | cons b r ih =>
    intro s o hi h
    rw [List.foldl_cons]
    have hin := hi.step false b
    unfold linesGo at h
    by_cases h10 : b = 10
    · subst h10
      rw [if_pos (by rfl), Option.map_eq_some_iff] at h
      obtain ⟨o', ho', rfl⟩ := h
      cases hc : s.cr
      · have e : TS.step false s 10 = s.wr 10 := by unfold TS.step; rw [if_pos (by decide)]
        rw [e] at hin ⊢
        obtain ⟨w1, w2⟩ := wr_nl hi 10 (.inl rfl) (by simp [hc])
        have hcr : (s.wr 10).cr = false := by rw [w2, hc]; rfl
        rw [ih _ o' hin (by rw [hcr]; exact ho'), hcr, w1]
        simp
      · have e : TS.step false s 10 = { s with cr := false } := by unfold TS.step; rw [if_pos (by decide)]; unfold TS.wr; rw [if_pos (by decide), if_pos (by simp [hc])]
        rw [e] at hin ⊢
        rw [ih _ o' hin ho']
        simp
    · rw [if_neg (by simpa using h10)] at h
      cases hc : s.cr
      · rw [hc] at h
        simp only [Bool.false_eq_true, if_false] at h
        by_cases h13 : b = 13
        · subst h13
          rw [if_pos (by rfl), Option.map_eq_some_iff] at h
          obtain ⟨o', ho', rfl⟩ := h
          have e : TS.step false s 13 = s.wr 13 := by unfold TS.step; rw [if_pos (by decide)]
          rw [e] at hin ⊢
          obtain ⟨w1, w2⟩ := wr_nl hi 13 (.inr rfl) (by simp [hc])
          have hcr : (s.wr 13).cr = true := by rw [w2, hc]; rfl
          rw [ih _ o' hin (by rw [hcr]; exact ho'), hcr, w1]
          cases r with
          | nil => simp [linesGo] at ho'
          | cons c r' =>
            unfold linesGo at ho'
            by_cases h10' : c = 10
            · subst h10'
              rw [if_pos (by rfl), Option.map_eq_some_iff] at ho'
              obtain ⟨o'', _, rfl⟩ := ho'
              simp
            · rw [if_neg (by simpa using h10')] at ho'
              simp at ho'
        · rw [if_neg (by simpa using h13), Option.map_eq_some_iff] at h
          obtain ⟨o', ho', rfl⟩ := h
          have hst : vals (TS.step false s b).dn ++ vals (TS.step false s b).cur = vals s.dn ++ vals s.cur ++ [b] ∧ (TS.step false s b).cr = false := by
            unfold TS.step
            split
            · unfold TS.wr
              rw [if_neg (by simp [h10, h13])]
              exact vals_chr s b _ rfl
            · refine ⟨vals_enc s b, ?_⟩
              unfold TS.enc
              split
              · exact hc
              · exact hc
          rw [ih _ o' hin (by rw [hst.2]; exact ho'), hst.2, hst.1]
          simp
      · rw [hc] at h
        simp at h

/-! THE WRITER's LAWS -/
theorem wtoks_inv (bin : Bool) (data : B) : Inv (data.foldl (TS.step bin) TS.init) := (foldl_inv bin data TS.init Inv.init).1

theorem encode_tokens (bin : Bool) (data : B) : tokens (encode bin data) = some (wtoks bin data) := by
  obtain ⟨h1, h2, _⟩ := fin_ok (wtoks_inv bin data)
  rw [encode_eq]
  unfold wtoks
  rw [tokens_textOf h1]
  exact if_pos h2
theorem encode_blankEnds (bin : Bool) (data : B) : blankEnds (wtoks bin data) = false := (fin_ok (wtoks_inv bin data)).2.2.1
theorem encode_needed (bin : Bool) (data : B) : allNeeded (wtoks bin data) = true := (fin_ok (wtoks_inv bin data)).2.2.2.1
theorem encode_value_bin (data : B) : value (wtoks true data) = data := by
  obtain ⟨h1, h2, h3, h4, h5⟩ := fin_ok (wtoks_inv true data)
  unfold wtoks
  rw [value_of_plain h1 h3]
  rw [h5, foldl_vals_bin]
  rfl
theorem encode_value_txt (data o : B) (h : lines data = some o) : value (wtoks false data) = o := by
  obtain ⟨h1, h2, h3, h4, h5⟩ := fin_ok (wtoks_inv false data)
  unfold wtoks
  rw [value_of_plain h1 h3]
  rw [h5, foldl_vals_txt data TS.init o Inv.init h]
  rfl

/-- something is written of data that are not empty -/
def TS.some (s : TS) : Prop := (s.cr = true → s.dn ≠ []) ∧ (s.dn ≠ [] ∨ s.cur ≠ [])
theorem enc_some (s : TS) (b : UInt8) (hcr : s.cr = true → s.dn ≠ []) : (s.enc b).some := by
  unfold TS.enc
  split
  · exact ⟨by simp [TS.soft], by simp⟩
  · exact ⟨hcr, by simp⟩
theorem step_some (bin : Bool) (s : TS) (b : UInt8) (hcr : s.cr = true → s.dn ≠ []) : (s.step bin b).some := by
  unfold TS.step
  split
  · unfold TS.wr
    split
    · split
      · rename_i h
        simp at h
        exact ⟨by simp, .inl (hcr h.1)⟩
      · exact ⟨by simp [TS.crlf], .inl (by simp [TS.crlf])⟩
    · split
      · exact ⟨by simp, by simp⟩
      · exact ⟨by simp, by simp⟩
  · exact enc_some s b hcr
theorem foldl_some (bin : Bool) (data : B) : ∀ s : TS, s.some → (data.foldl (TS.step bin) s).some := by
  induction data with
  | nil => exact fun s h => h
  | cons b r ih => exact fun s h => ih _ (step_some bin s b h.1)
theorem last_some (s : TS) (h : s.some) : s.fin ≠ [] := by
  unfold TS.fin TS.last
  rcases h.2 with hd | hc
  · split
    · split
      · unfold TS.enc; split <;> simp [hd]
      · simp [hd]
    · simp [hd]
  · split
    · split
      · unfold TS.enc; split <;> simp
      · simp [hc]
    · simp [hc]
theorem wtoks_ne (bin : Bool) (data : B) (h : data ≠ []) : wtoks bin data ≠ [] := by
  cases data with
  | nil => exact absurd rfl h
  | cons b r => exact last_some _ (foldl_some bin r _ (step_some bin TS.init b (by simp [TS.init])))
theorem encode_ne (bin : Bool) (data : B) (h : data ≠ []) : encode bin data ≠ [] := by
  have h1 := wtoks_ne bin data h
  rw [encode_eq]
  have h2 := (fin_ok (wtoks_inv bin data)).1
  show textOf (wtoks bin data) ≠ []
  cases hl : wtoks bin data with
  | nil => exact absurd hl h1
  | cons t r =>
    have := (h2 t (by show t ∈ wtoks bin data; rw [hl]; simp)).text_pos
    rw [textOf_cons]
    intro e
    have := congrArg List.length e
    rw [List.length_append, List.length_nil] at this
    omega

end Go.Proofs.YtcbolmendjocbaaDoor.Qp

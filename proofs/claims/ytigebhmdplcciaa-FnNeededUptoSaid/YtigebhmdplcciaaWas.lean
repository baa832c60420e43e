/- A plain law of the Writer: a text with no escape, no soft line break, short lines and no blank at the end of a line is written as it stands. -/
import Derived.Test.YtigebhmdplcciaaWlaw
namespace Go.Proofs.Ytigebhmdplcciaa.Qp

/-- literal bytes and blanks alone, and no line of more than 75 tokens, the first one begun with n -/
def short : Nat → List Tok → Bool
  | _, [] => true
  | n, t :: r => if t.kind = 3 ∨ t.kind = 4 then false else if 75 < (if t.kind = 5 then 0 else n + 1) then false else short (if t.kind = 5 then 0 else n + 1) r

theorem last_plain (s : WS) (h : ∀ r b, s.line = r ++ [b] → isWs b = false) : s.last = s := by
  unfold WS.last
  rcases List.eq_nil_or_concat s.line with e | ⟨r, b, e⟩
  · rw [e]; rfl
  · rw [List.concat_eq_append] at e
    rw [e]
    simp [h r b e]

theorem asItStands (l : List Tok) : ∀ (s : WS) (n : Nat), (∀ t ∈ l, okTok t) → short n l = true → s.line.length = n → s.cr = false → blankEnds l = false →
    ((l = [] ∨ ∃ t r, l = t :: r ∧ t.kind = 5) → ∀ r b, s.line = r ++ [b] → isWs b = false) →
    ((textOf l).foldl (WS.step false) s).fin = s.out ++ s.line ++ textOf l := by
  induction l with
  | nil =>
    intro s n _ _ _ _ _ hl
    show s.fin = _
    unfold WS.fin
    rw [last_plain s (hl (.inl rfl))]
    simp [textOf]
  | cons t r ih =>
    intro s n hok hs hn hcr hb hl
    have hr := fun x hx => hok x (List.mem_cons_of_mem t hx)
    simp only [blankEnds, Bool.or_eq_false_iff, Bool.and_eq_false_iff, decide_eq_false_iff_not] at hb
    obtain ⟨hb1, hb2⟩ := hb
    have chr : ∀ b : UInt8, b ≠ 10 → b ≠ 13 → simple false b = true → t.text = [b] → t.kind ≠ 5 → (isWs b = true → t.kind = 2) → t.kind ≠ 3 → t.kind ≠ 4 →
        ((textOf (t :: r)).foldl (WS.step false) s).fin = s.out ++ s.line ++ textOf (t :: r) := by
      intro b h10 h13 hsim ht h5 hw h3 h4
      simp only [short, h3, h4, h5, or_self, if_false] at hs
      split at hs
      · cases hs
      rename_i h75
      have e : WS.step false s b = { s with line := s.line ++ [b], cr := false } := by
        unfold WS.step
        rw [if_pos hsim]
        unfold WS.wr
        rw [if_neg (by simp [h10, h13]), if_neg (by simp; omega)]
      rw [textOf_cons, ht]
      show ((textOf r).foldl (WS.step false) (WS.step false s b)).fin = _
      rw [e, ih _ (n + 1) hr hs (by simp; omega) rfl hb2]
      · simp
      · intro hrr q c hq
        have hc : c = b := by
          have := (List.append_inj' hq rfl).2
          simpa using this.symm
        subst hc
        rw [Bool.eq_false_iff]
        intro hcw
        have h2 := hw hcw
        rcases hrr with rfl | ⟨u, r', rfl, hu⟩
        · rcases hb1 with hb1 | hb1
          · exact hb1 h2
          · cases hb1
        · rcases hb1 with hb1 | hb1
          · exact hb1 h2
          · exact absurd hu (by simpa using hb1)
    rcases hok t (List.mem_cons_self ..) with ⟨b, h1, h2, h3, rfl⟩ | ⟨b, hbb, rfl⟩ | ⟨x, y, h, l', hx, hy, rfl⟩ | rfl | rfl
    · have n13 : b ≠ 13 := by rintro rfl; exact absurd h1 (by decide)
      have n10 : b ≠ 10 := by rintro rfl; exact absurd h1 (by decide)
      have hw : isWs b = false := by
        rw [Bool.eq_false_iff]; intro hw
        rcases (isWs_iff b).1 hw with rfl | rfl <;> exact absurd h1 (by decide)
      exact chr b n10 n13 (by simp [simple, h1, h2, h3]) rfl (by simp [litTok]) (by simp [hw]) (by simp [litTok]) (by simp [litTok])
    · rcases hbb with rfl | rfl
      · exact chr 32 (by decide) (by decide) (by decide) rfl (by simp [blankTok]) (fun _ => rfl) (by simp [blankTok]) (by simp [blankTok])
      · exact chr 9 (by decide) (by decide) (by decide) rfl (by simp [blankTok]) (fun _ => rfl) (by simp [blankTok]) (by simp [blankTok])
    · simp [short] at hs
    · simp [short, softTok] at hs
    · have hs' : short 0 r = true := by simpa [short, brkTok] using hs
      have hlp := hl (.inr ⟨_, _, rfl, rfl⟩)
      have e1 : WS.step false s 13 = ⟨s.out ++ (s.line ++ [13, 10]), [], true⟩ := by
        unfold WS.step
        rw [if_pos (by decide)]
        unfold WS.wr
        rw [if_pos (by decide), if_neg (by simp)]
        rw [last_plain _ (by exact hlp)]
        simp [WS.crlf]
      have e2 : WS.step false ⟨s.out ++ (s.line ++ [13, 10]), [], true⟩ 10 = ⟨s.out ++ (s.line ++ [13, 10]), [], false⟩ := by
        unfold WS.step
        rw [if_pos (by decide)]
        unfold WS.wr
        rw [if_pos (by decide), if_pos (by simp)]
      rw [textOf_cons]
      show ((textOf r).foldl (WS.step false) (WS.step false (WS.step false s 13) 10)).fin = _
      rw [e1, e2, ih _ 0 hr hs' rfl rfl hb2 (by simp)]
      simp [brkTok]

theorem encode_asItStands {src : B} {l : List Tok} (h : tokens src = some l) (hb : blankEnds l = false) (hs : short 0 l = true) : encode false src = src := by
  obtain ⟨h1, h2, _⟩ := tokens_some h
  have := asItStands l WS.init 0 h1 hs rfl rfl hb (by simp [WS.init])
  rw [h2] at this
  simpa [encode, WS.init] using this

end Go.Proofs.Ytigebhmdplcciaa.Qp

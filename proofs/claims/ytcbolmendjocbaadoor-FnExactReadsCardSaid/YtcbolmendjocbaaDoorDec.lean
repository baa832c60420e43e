/- The plain mathematics of the quoted-printable Reader: lists of bytes alone, no program. -/
import Derived.Test.YtcbolmendjocbaaDoorToks
namespace Go.Proofs.YtcbolmendjocbaaDoor.Qp

/-- white space, as the Reader drops it at the end of a line -/
def isSp (b : UInt8) : Bool := b == 10 || b == 13 || b == 32 || b == 9
/-- a list without what stands at its end -/
def rstrip (p : UInt8 → Bool) (l : B) : B := (l.reverse.dropWhile p).reverse
/-- a hexadecimal digit's value, small letters too -/
def hexAny (b : UInt8) : Option UInt8 :=
  if 48 ≤ b && b ≤ 57 then some (b - 48) else if 65 ≤ b && b ≤ 70 then some (b - 65 + 10) else if 97 ≤ b && b ≤ 102 then some (b - 97 + 10) else none

/-- a line, what stands behind it, and how it ended: 0 with LF, 1 with the end, 2 longer than the buffer -/
def slice (src : B) : B × B × Nat :=
  if src.findIdx (· == 10) < src.length ∧ src.findIdx (· == 10) < 4096 then (src.take (src.findIdx (· == 10) + 1), src.drop (src.findIdx (· == 10) + 1), 0)
  else if src.length < 4096 then (src, [], 1)
  else (src.take 4096, src.drop 4096, 2)

/-- what the Reader makes of a line: its bytes, and how it ended -/
def prep (whole : B) (e : Nat) : B × Nat :=
  let t := rstrip isSp whole
  if t.getLast? = some 61 then
    let rs := (whole.drop t.length).dropWhile isWs
    (t.dropLast, if rs.take 1 = [10] ∨ rs.take 2 = [13, 10] ∨ (rs = [] ∧ t.dropLast ≠ [] ∧ e = 1) then e else 2)
  else if whole.drop (whole.length - 1) = [10] then
    if whole.drop (whole.length - 2) = [13, 10] then (t ++ [13, 10], e) else (t ++ [10], e)
  else (t, e)

/-- the Reader's state: its line, how it ended (0: more to come), and what is not yet read -/
structure RS where
  line : B
  rerr : Nat
  rest : B

def refill (rest : B) : RS := ⟨(prep (slice rest).1 (slice rest).2.2).1, (prep (slice rest).1 (slice rest).2.2).2, (slice rest).2.1⟩

/-- the byte with which a line begins to be read, and what is left of the line -/
def emit (b : UInt8) (r : B) : Option (UInt8 × B) :=
  if b == 61 then
    match (match r with
      | x :: y :: r' => (match hexAny x, hexAny y with | some h, some l => some (h <<< 4 ||| l, r') | _, _ => none)
      | _ => none) with
    | some v => some v
    | none => (match r with | c :: _ => if c == 13 || c == 10 then none else some (61, r) | [] => none)
  else if b == 9 || b == 13 || b == 10 then some (b, r)
  else if 128 ≤ b then some (b, r)
  else if b < 32 || 126 < b then none
  else some (b, r)

/-- a line that fits the buffer, and that holds ASCII alone: of others this law says nothing -/
def okSlice (rest : B) : Bool := (slice rest).2.2 != 2 && (slice rest).1.all (· < 128)

/-- all that the Reader gives, and how it ends: 1 with the end, 2 with another error, 5 with the error of a byte that may not stand there, 3: this law says nothing -/
def strmGo : Nat → RS → B × Nat
  | 0, _ => ([], 0)
  | fuel + 1, st =>
    match st.line with
    | [] => if st.rerr ≠ 0 then ([], st.rerr) else if okSlice st.rest then strmGo fuel (refill st.rest) else ([], 3)
    | b :: r => if b == 61 && decide (r.length < 2) then ([], 3) else match emit b r with
      | some (v, r') => (v :: (strmGo fuel { st with line := r' }).1, (strmGo fuel { st with line := r' }).2)
      | none => ([], if b == 61 then 2 else 5)
def meas (st : RS) : Nat := st.line.length + 2 * st.rest.length + (if st.rerr = 0 then 1 else 0)
def strm (st : RS) : B × Nat := strmGo (meas st + 1) st
def decode (src : B) : B × Nat := strm ⟨[], 0, src⟩

theorem dropWhile_len (p : UInt8 → Bool) (l : B) : (l.dropWhile p).length ≤ l.length := by
  induction l with
  | nil => simp
  | cons b r ih => simp only [List.dropWhile_cons]; split <;> simp <;> omega
theorem rstrip_len (p : UInt8 → Bool) (l : B) : (rstrip p l).length ≤ l.length := by
  unfold rstrip
  rw [List.length_reverse]
  have := dropWhile_len p l.reverse
  rw [List.length_reverse] at this
  exact this

theorem emit_len {b : UInt8} {r : B} {v : UInt8} {r' : B} (h : emit b r = some (v, r')) : r'.length ≤ r.length := by
  unfold emit at h
  split at h
  · split at h
    · rename_i x hx
      split at hx
      · split at hx
        · simp at hx h; rw [h] at hx; simp at hx; obtain ⟨_, rfl⟩ := hx; simp; omega
        · cases hx
      · cases hx
    · split at h
      · split at h
        · cases h
        · simp at h; obtain ⟨_, rfl⟩ := h; simp
      · cases h
  · split at h
    · simp at h; obtain ⟨_, rfl⟩ := h; simp
    · split at h
      · simp at h; obtain ⟨_, rfl⟩ := h; simp
      · split at h
        · cases h
        · simp at h; obtain ⟨_, rfl⟩ := h; simp

theorem slice_len (src : B) : (slice src).1.length + (slice src).2.1.length = src.length := by
  unfold slice
  split
  · simp; omega
  · split
    · simp
    · simp; omega
theorem slice_pos (src : B) (h : (slice src).2.2 = 0) : 1 ≤ (slice src).1.length := by
  unfold slice at h ⊢
  split
  · rename_i hc; simp; omega
  · rename_i hc; rw [if_neg hc] at h; split at h <;> simp at h

/-- dropping what a prefix test names from the end: the list is that prefix and what is dropped -/
theorem rstrip_split (p : UInt8 → Bool) (l : B) : ∃ w, l = rstrip p l ++ w ∧ (∀ b ∈ w, p b = true) ∧ (∀ r b, rstrip p l = r ++ [b] → p b = false) := by
  refine ⟨(l.reverse.takeWhile p).reverse, ?_, ?_, ?_⟩
  · unfold rstrip
    rw [← List.reverse_append, List.takeWhile_append_dropWhile, List.reverse_reverse]
  · intro b hb
    rw [List.mem_reverse] at hb
    generalize l.reverse = m at hb
    induction m with
    | nil => simp at hb
    | cons c r ih =>
      rw [List.takeWhile_cons] at hb
      split at hb
      · rcases List.mem_cons.1 hb with rfl | hb
        · assumption
        · exact ih hb
      · cases hb
  · intro r b h
    unfold rstrip at h
    have h' : l.reverse.dropWhile p = b :: r.reverse := by
      have := congrArg List.reverse h
      simpa using this
    clear h
    generalize l.reverse = m at h'
    induction m with
    | nil => simp at h'
    | cons c q ih =>
      rw [List.dropWhile_cons] at h'
      split at h'
      · exact ih h'
      · rename_i hc
        injection h' with h1 h2
        subst h1
        simpa using hc

theorem prep_len (whole : B) (e : Nat) : (prep whole e).1.length ≤ whole.length := by
  unfold prep
  have h1 := rstrip_len isSp whole
  simp only
  split
  · simp; omega
  · split
    · rename_i hlf
      obtain ⟨w, hw, hp, hn⟩ := rstrip_split isSp whole
      have hl : whole.length = (rstrip isSp whole).length + w.length := by
        have := congrArg List.length hw
        rwa [List.length_append] at this
      split
      · rename_i hcr
        simp
        -- the last two bytes are white space, so they are not in the part that is kept
        by_cases h2 : 2 ≤ w.length
        · omega
        · exfalso
          have hwl : 2 ≤ whole.length := by
            have := congrArg List.length hcr
            rw [List.length_drop] at this
            simp at this; omega
          have hk : 1 ≤ (rstrip isSp whole).length := by omega
          rcases List.eq_nil_or_concat (rstrip isSp whole) with e0 | ⟨q, b, e0⟩
          · rw [e0] at hk; simp at hk
          · rw [List.concat_eq_append] at e0
            have hb := hn q b e0
            have hq : (rstrip isSp whole).length = q.length + 1 := by rw [e0]; simp
            have hmem : b ∈ whole.drop (whole.length - 2) := by
              rw [hw, e0, List.append_assoc, List.drop_append]
              refine List.mem_append_right _ ?_
              have : (q ++ ([b] ++ w)).length - 2 - q.length = 0 := by simp; omega
              rw [this]
              simp
            rw [hcr] at hmem
            simp at hmem
            rcases hmem with rfl | rfl <;> simp [isSp] at hb
      · simp
        by_cases h2 : 1 ≤ w.length
        · omega
        · exfalso
          have hw0 : w = [] := List.eq_nil_of_length_eq_zero (by omega)
          subst hw0
          rw [List.append_nil] at hw
          have hwl : 1 ≤ whole.length := by
            have := congrArg List.length hlf
            rw [List.length_drop] at this
            simp at this; omega
          have := hn (whole.take (whole.length - 1)) 10 (by rw [← hw]; conv => lhs; rw [← List.take_append_drop (whole.length - 1) whole, hlf])
          simp [isSp] at this
    · exact h1

theorem meas_fill (rest : B) : meas (refill rest) < meas ⟨[], 0, rest⟩ := by
  have h1 := prep_len (slice rest).1 (slice rest).2.2
  have h2 := slice_len rest
  unfold meas refill
  simp only [List.length_nil, if_true]
  by_cases h0 : (slice rest).2.2 = 0
  · have h3 := slice_pos rest h0
    split <;> omega
  · have h4 : (prep (slice rest).1 (slice rest).2.2).2 ≠ 0 := by
      unfold prep
      simp only
      split
      · simp only; split
        · exact h0
        · simp
      · split
        · split <;> exact h0
        · exact h0
    rw [if_neg h4]
    omega

theorem strmGo_enough : ∀ fuel fuel' st, meas st < fuel → meas st < fuel' → strmGo fuel st = strmGo fuel' st := by
  intro fuel
  induction fuel with
  | zero => intro _ _ h; omega
  | succ fuel ih =>
    intro fuel' st h h'
    cases fuel' with
    | zero => omega
    | succ fuel' =>
      obtain ⟨line, rerr, rest⟩ := st
      unfold strmGo
      cases line with
      | nil =>
        simp only
        split
        · rfl
        · rename_i h0
          have h0 : rerr = 0 := by simpa using h0
          subst h0
          have := meas_fill rest
          split
          · exact ih _ _ (by omega) (by omega)
          · rfl
      | cons b r =>
        simp only
        split
        · rfl
        split
        · rename_i v r' he
          have hl := emit_len he
          have hm : meas ⟨r', rerr, rest⟩ < meas ⟨b :: r, rerr, rest⟩ := by unfold meas; simp; omega
          rw [ih fuel' ⟨r', rerr, rest⟩ (by omega) (by omega)]
        · rfl

theorem strm_done {st : RS} (h1 : st.line = []) (h2 : st.rerr ≠ 0) : strm st = ([], st.rerr) := by
  unfold strm strmGo; rw [h1]; simp [h2]
theorem strm_fill {st : RS} (h1 : st.line = []) (h2 : st.rerr = 0) (h3 : okSlice st.rest = true) : strm st = strm (refill st.rest) := by
  obtain ⟨line, rerr, rest⟩ := st
  simp only at h1 h2 h3
  subst h1; subst h2
  have := meas_fill rest
  show strmGo _ _ = strmGo _ _
  rw [strmGo]
  simp only [ne_eq, not_true_eq_false, if_false, h3, if_true]
  exact strmGo_enough _ _ _ (by omega) (by omega)
theorem strm_byte {st : RS} {b : UInt8} {r : B} {v : UInt8} {r' : B} (h1 : st.line = b :: r) (h3 : b = 61 → 2 ≤ r.length) (h2 : emit b r = some (v, r')) :
    strm st = (v :: (strm { st with line := r' }).1, (strm { st with line := r' }).2) := by
  obtain ⟨line, rerr, rest⟩ := st
  simp only at h1
  subst h1
  have hl := emit_len h2
  have hm : meas ⟨r', rerr, rest⟩ < meas ⟨b :: r, rerr, rest⟩ := by unfold meas; simp; omega
  show strmGo _ _ = (v :: (strmGo _ _).1, (strmGo _ _).2)
  rw [strmGo]
  have hc : (b == 61 && decide (r.length < 2)) = false := by simpa using h3
  simp only [hc, h2, Bool.false_eq_true, if_false]
  rw [strmGo_enough (meas ⟨b :: r, rerr, rest⟩) (meas ⟨r', rerr, rest⟩ + 1) ⟨r', rerr, rest⟩ (by omega) (by omega)]
theorem strm_bad {st : RS} {b : UInt8} {r : B} (h1 : st.line = b :: r) (h3 : b = 61 → 2 ≤ r.length) (h2 : emit b r = none) : strm st = ([], if b == 61 then 2 else 5) := by
  unfold strm strmGo; rw [h1]
  have hc : (b == 61 && decide (r.length < 2)) = false := by simpa using h3
  simp only [hc, h2, Bool.false_eq_true, if_false]
theorem strm_long {st : RS} (h1 : st.line = []) (h2 : st.rerr = 0) (h3 : okSlice st.rest = false) : strm st = ([], 3) := by
  unfold strm strmGo; rw [h1]; simp [h2, h3]
theorem strm_short {st : RS} {r : B} (h1 : st.line = 61 :: r) (h2 : r.length < 2) : strm st = ([], 3) := by
  unfold strm strmGo; rw [h1]; simp [h2]
/-- a state of which the law speaks: what it comes to -/
theorem strm_line {st : RS} {b : UInt8} {r : B} (h1 : st.line = b :: r) (h : (strm st).2 ≠ 3) : b = 61 → 2 ≤ r.length := by
  intro e
  subst e
  by_cases h2 : r.length < 2
  · exact absurd (by rw [strm_short h1 h2]) h
  · omega
theorem strm_ok {st : RS} (h1 : st.line = []) (h2 : st.rerr = 0) (h : (strm st).2 ≠ 3) : okSlice st.rest = true := by
  cases h3 : okSlice st.rest with
  | true => rfl
  | false => exact absurd (by rw [strm_long h1 h2 h3]) h

/-- how a stream ends -/
theorem strm_pos (n : Nat) : ∀ st : RS, meas st ≤ n → (strm st).2 ≠ 0 := by
  induction n with
  | zero =>
    intro st h
    obtain ⟨line, rerr, rest⟩ := st
    have h' : line.length + 2 * rest.length + (if rerr = 0 then 1 else 0) ≤ 0 := h
    have hl : line = [] := List.eq_nil_of_length_eq_zero (by omega)
    have hr : rerr ≠ 0 := by intro e; rw [if_pos e] at h'; omega
    rw [strm_done hl hr]; exact hr
  | succ n ih =>
    intro st h
    obtain ⟨line, rerr, rest⟩ := st
    cases line with
    | nil =>
      by_cases hr : rerr = 0
      · subst hr
        cases hok : okSlice rest with
        | false => rw [strm_long rfl rfl hok]; simp
        | true =>
        rw [strm_fill rfl rfl hok]
        exact ih (refill rest) (by have := meas_fill rest; omega)
      · rw [strm_done rfl hr]; exact hr
    | cons b r =>
      by_cases h61 : b = 61 → 2 ≤ r.length
      case neg =>
        have hb : b = 61 := Classical.byContradiction fun h => h61 fun e => absurd e h
        subst hb
        rw [strm_short rfl (by omega)]; simp
      case pos =>
      cases he : emit b r with
      | none =>
        rw [strm_bad rfl h61 he]
        show (if (b == 61) = true then 2 else 5) ≠ 0
        split <;> omega
      | some x =>
        obtain ⟨v, r'⟩ := x
        rw [strm_byte rfl h61 he]
        have hl := emit_len he
        exact ih _ (by unfold meas at h ⊢; simp at h ⊢; omega)

/-- no text gives more bytes than it has -/
theorem strm_size (n : Nat) : ∀ st : RS, meas st ≤ n → (strm st).1.length ≤ st.line.length + st.rest.length := by
  induction n with
  | zero =>
    intro st h
    obtain ⟨line, rerr, rest⟩ := st
    have h' : line.length + 2 * rest.length + (if rerr = 0 then 1 else 0) ≤ 0 := h
    have hl : line = [] := List.eq_nil_of_length_eq_zero (by omega)
    have hr : rerr ≠ 0 := by intro e; rw [if_pos e] at h'; omega
    rw [strm_done hl hr]; simp
  | succ n ih =>
    intro st h
    obtain ⟨line, rerr, rest⟩ := st
    cases line with
    | nil =>
      by_cases hr : rerr = 0
      · subst hr
        cases hok : okSlice rest with
        | false => rw [strm_long rfl rfl hok]; simp
        | true =>
        rw [strm_fill rfl rfl hok]
        have h1 := ih (refill rest) (by have := meas_fill rest; omega)
        have h2 := prep_len (slice rest).1 (slice rest).2.2
        have h3 := slice_len rest
        simp only [refill] at h1 ⊢
        simp only [List.length_nil] at *
        omega
      · rw [strm_done rfl hr]; simp
    | cons b r =>
      by_cases h61 : b = 61 → 2 ≤ r.length
      case neg =>
        have hb : b = 61 := Classical.byContradiction fun h => h61 fun e => absurd e h
        subst hb
        rw [strm_short rfl (by omega)]; simp
      case pos =>
      cases he : emit b r with
      | none => rw [strm_bad rfl h61 he]; simp
      | some x =>
        obtain ⟨v, r'⟩ := x
        rw [strm_byte rfl h61 he]
        have hl := emit_len he
        have := ih ⟨r', rerr, rest⟩ (by unfold meas at h ⊢; simp at h ⊢; omega)
        simp at this ⊢; omega

theorem decode_size (src : B) : (decode src).1.length ≤ src.length := by
  have := strm_size _ ⟨[], 0, src⟩ (Nat.le_refl _)
  simpa [decode] using this
theorem decode_nil : decode [] = ([], 1) := by decide
end Go.Proofs.YtcbolmendjocbaaDoor.Qp

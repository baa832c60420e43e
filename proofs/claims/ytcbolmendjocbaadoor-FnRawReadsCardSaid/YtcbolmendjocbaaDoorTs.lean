/- Lists of tokens as they lie in memory, and the walk of Tokens. -/
import Derived.Test.YtcbolmendjocbaaDoorTok3
namespace Go.Proofs.YtcbolmendjocbaaDoor
open Go.RowKit Qp

/-- a token, with the slices that bear it -/
structure TV where
  t : Tok
  tv : Value
  vv : Value
def TV.cells (x : TV) : List Value := [.int .i64 x.t.kind, x.tv, x.vv]
def tcells (ts : List TV) : List Value := ts.flatMap TV.cells
def TV.lies (w : World) (x : TV) : Prop := Bs w x.tv x.t.text ∧ Bs w x.vv x.t.value
theorem TV.lies.below {w w' : World} {x : TV} (h : x.lies w) (hb : Below w.heap.size w w') : x.lies w' := ⟨h.1.below hb, h.2.below hb⟩

theorem tcells_length (ts : List TV) : (tcells ts).length = ts.length * 3 := by
  induction ts with
  | nil => rfl
  | cons x r ih => rw [tcells, List.flatMap_cons, List.length_append]; rw [tcells] at ih; rw [ih]; simp [TV.cells]; omega
theorem tcells_append (a b : List TV) : tcells (a ++ b) = tcells a ++ tcells b := by simp [tcells]
theorem tcells_get (ts : List TV) : ∀ (k : Nat) (hk : k < ts.length), (tcells ts)[3 * k]? = some (.int .i64 ts[k].t.kind) ∧ (tcells ts)[3 * k + 1]? = some ts[k].tv ∧ (tcells ts)[3 * k + 2]? = some ts[k].vv := by
  induction ts with
  | nil => intro k hk; simp at hk
  | cons x r ih =>
    intro k hk
    have e : tcells (x :: r) = [.int .i64 x.t.kind, x.tv, x.vv] ++ tcells r := rfl
    cases k with
    | zero => rw [e]; simp
    | succ k =>
      have hk' : k < r.length := by simpa using hk
      obtain ⟨h0, h1, h2⟩ := ih k hk'
      rw [e]
      refine ⟨?_, ?_, ?_⟩
      · rw [List.getElem?_append_right (by simp; omega)]; simpa [show 3 * (k + 1) - 3 = 3 * k by omega] using h0
      · rw [List.getElem?_append_right (by simp; omega)]; simpa [show 3 * (k + 1) + 1 - 3 = 3 * k + 1 by omega] using h1
      · rw [List.getElem?_append_right (by simp; omega)]; simpa [show 3 * (k + 1) + 2 - 3 = 3 * k + 2 by omega] using h2

/-- the slice v of tokens reads as l -/
def Ts (w : World) (v : Value) (l : List Tok) : Prop :=
  ∃ (ts : List TV) (ao : Option Addr) (cap : Nat), l = ts.map TV.t ∧ (∀ x ∈ ts, x.lies w) ∧ v = .slice ao ts.length cap ∧ ts.length ≤ cap ∧ (cap ≤ 9223372036854775807 ∧ (ao = none → cap = 0)) ∧
    ∀ k (hk : k < ts.length), ∃ b off, ao = some ⟨b, off, none⟩ ∧ w.cell? ⟨b, off + k * 3, none⟩ = some (.int .i64 ts[k].t.kind) ∧ w.cell? ⟨b, off + k * 3 + 1, none⟩ = some ts[k].tv ∧ w.cell? ⟨b, off + k * 3 + 2, none⟩ = some ts[k].vv
theorem Ts.below {w w' : World} {v : Value} {l : List Tok} (h : Ts w v l) (hb : Below w.heap.size w w') : Ts w' v l := by
  obtain ⟨ts, ao, cap, h1, h2, h3, h4, h5, h6⟩ := h
  refine ⟨ts, ao, cap, h1, fun x hx => (h2 x hx).below hb, h3, h4, h5, fun k hk => ?_⟩
  obtain ⟨b, off, h7, h8, h9, h10⟩ := h6 k hk
  exact ⟨b, off, h7, below_cell hb _ _ h8, below_cell hb _ _ h9, below_cell hb _ _ h10⟩

/-- an owned row reads as a slice of tokens -/
theorem Ts.of_own {w : World} {B e : Nat} {v : Value} {ts : List TV} (h : w.ownsRow B e 3 v ts.length (tcells ts)) (hl : ∀ x ∈ ts, x.lies w) : Ts w v (ts.map TV.t) := by
  obtain ⟨_, h⟩ := h
  rcases h with ⟨rfl, h⟩ | ⟨g, cap, cur, rfl, hB, hg, hlc, hcm, hcs, htk⟩
  · have : ts = [] := List.eq_nil_of_length_eq_zero h
    subst this
    exact ⟨[], none, 0, rfl, hl, rfl, Nat.le_refl _, ⟨by omega, fun _ => rfl⟩, fun k hk => absurd hk (by simp)⟩
  · refine ⟨ts, some ⟨g, 0, none⟩, cap, rfl, hl, rfl, hlc, ⟨by unfold maxLen at hcm; omega, (fun h => by cases h)⟩, fun k hk => ⟨g, 0, rfl, ?_⟩⟩
    obtain ⟨h0, h1, h2⟩ := tcells_get ts k hk
    have hc : ∀ j u, j < ts.length * 3 → (tcells ts)[j]? = some u → w.cell? ⟨g, 0 + j, none⟩ = some u := by
      intro j u hj hu
      rw [Lib.cell_of_heap hg, ← Array.getElem?_toList, ← hu, ← htk, List.getElem?_take, if_pos hj, Nat.zero_add]
    refine ⟨?_, ?_, ?_⟩
    · exact hc _ _ (by omega) (by rw [Nat.mul_comm]; exact h0)
    · have := hc (k * 3 + 1) _ (by omega) (by rw [Nat.mul_comm]; exact h1)
      rw [← Nat.add_assoc] at this
      exact this
    · have := hc (k * 3 + 2) _ (by omega) (by rw [Nat.mul_comm]; exact h2)
      rw [← Nat.add_assoc] at this
      exact this

theorem info38 : (Tryd.prog.info? 37).map (fun i => (i.zero, i.size, i.bytes)) = some (some (.agg #[.int .i64 0, .slice none 0 0, .slice none 0 0]), 3, 56) := by kernel_rfl
theorem infoT : ∃ i, Tryd.prog.info? 37 = some i ∧ i.zero = some (.agg #[.int .i64 0, .slice none 0 0, .slice none 0 0]) ∧ i.size = 3 ∧ i.bytes = 56 := by
  have h := info38
  cases hi : Tryd.prog.info? 37 with
  | none => rw [hi] at h; cases h
  | some i =>
    rw [hi] at h
    simp only [Option.map_some, Option.some.injEq, Prod.mk.injEq] at h
    exact ⟨i, rfl, h.1, h.2.1, h.2.2⟩

def lenOf : Value → Nat
  | .slice _ n _ => n
  | _ => 0

theorem Bs.len {w : World} {v : Value} {l : List UInt8} (h : Bs w v l) : lenOf v = l.length := by
  obtain ⟨ao, cap, rfl, _⟩ := h; rfl
/-- a text without its first k bytes -/
theorem Bs.drop {w : World} {ao : Option Addr} {n cap : Nat} {l : List UInt8} (h : Bs w (.slice ao n cap) l) (k : Nat) (hk : k < l.length) : ∃ b off, ao = some ⟨b, off, none⟩ ∧ Bs w (.slice (some ⟨b, off + k, none⟩) (n - k) (cap - k)) (l.drop k) := by
  obtain ⟨ao', cap', e, h2, h3, h4, h5⟩ := h
  injection e with e1 e2 e3
  subst e1; subst e2; subst e3
  obtain ⟨b, off, h6, h7⟩ := h5 (by rintro rfl; simp at hk)
  refine ⟨b, off, h6, some ⟨b, off + k, none⟩, cap - k, by rw [List.length_drop], by rw [List.length_drop]; omega, by omega, (fun h => by cases h), fun _ => ⟨b, off + k, rfl, fun j hj => ?_⟩⟩
  rw [List.length_drop] at hj
  rw [Nat.add_assoc, h7 (k + j) (by omega)]
  simp [List.getD]

/-- what Tokens returns -/
def TokPost (src : List UInt8) (w : World) (e : Ending) (w' : World) : Prop :=
  Below w.heap.size w w' ∧ match tokens src with
    | none => e = .returned (.tuple #[.slice none 0 0, .bool false])
    | some l => ∃ v', e = .returned (.tuple #[v', .bool true]) ∧ Ts w' v' l

/-- a token's slices lie below n, and not in the row of v -/
def TV.far (n : Nat) (v : Value) (x : TV) : Prop := ∀ g, (x.tv.ownBlock = some g ∨ x.vv.ownBlock = some g) → g < n ∧ v.ownBlock ≠ some g
/-- where Tokens stands -/
def TokRel (src : List UInt8) (w : World) (vs vo vl : Value) (wr : World) : Prop :=
  ∃ (ts : List TV) (rest : List UInt8) (n f : Nat), vl = .int .i64 n ∧ n ≤ 76 ∧ Bs wr vs rest ∧ (∀ x ∈ ts, x.lies wr) ∧ wr.ownsRow w.heap.size 37 3 vo ts.length (tcells ts) ∧ Below w.heap.size w wr ∧
    rest.length ≤ f ∧ tokens src = (tokensGo f rest n).map (ts.map TV.t ++ ·) ∧ ts.length + rest.length ≤ src.length ∧
    (rest ≠ [] → ∀ g, vs.ownBlock = some g → g < w.heap.size) ∧ (∀ x ∈ ts, x.far wr.heap.size vo)

theorem next_kind (src : B) : (next src).kind ≤ 5 := by
  by_cases h : (next src).kind = 0
  · omega
  · have := (next_ok src h).1
    rcases this with ⟨b, _, _, _, e⟩ | ⟨b, _, e⟩ | ⟨x, y, h, l, _, _, e⟩ | e | e <;> rw [e] <;> simp [litTok, blankTok, softTok, brkTok]
theorem next_tlen (src : B) (h : (next src).kind ≠ 0) : 1 ≤ (next src).text.length ∧ (next src).text.length ≤ 3 ∧ (next src).text.length ≤ src.length := by
  obtain ⟨h1, h2⟩ := next_ok src h
  refine ⟨h1.text_pos, ?_, ?_⟩
  · rcases h1 with ⟨b, _, _, _, e⟩ | ⟨b, _, e⟩ | ⟨x, y, h, l, _, _, e⟩ | e | e <;> rw [e] <;> simp [litTok, blankTok, softTok, brkTok]
  · have := congrArg List.length h2
    rw [List.length_append] at this
    omega
theorem tokensGo_nil (f n : Nat) : tokensGo f [] n = some [] := by cases f <;> rfl
theorem tokensGo_kind0 {f n : Nat} {r : B} (hr : r ≠ []) (hf : r.length ≤ f) (h : (next r).kind = 0) : tokensGo f r n = none := by
  cases f with
  | zero => exact absurd (List.eq_nil_of_length_eq_zero (by omega)) hr
  | succ f =>
    unfold tokensGo
    split
    · exact absurd rfl hr
    · simp [h]
theorem tokensGo_long {f n : Nat} {r : B} (hr : r ≠ []) (hf : r.length ≤ f) (h : 76 < (next r).adds n) : tokensGo f r n = none := by
  cases f with
  | zero => exact absurd (List.eq_nil_of_length_eq_zero (by omega)) hr
  | succ f =>
    unfold tokensGo
    split
    · exact absurd rfl hr
    · simp [h]
theorem tokensGo_step {f n : Nat} {r : B} (hr : r ≠ []) (hf : r.length ≤ f) (h : (next r).kind ≠ 0) (h' : ¬ 76 < (next r).adds n) :
    tokensGo f r n = (tokensGo (f - 1) (r.drop (next r).text.length) ((next r).leaves n)).map (next r :: ·) := by
  cases f with
  | zero => exact absurd (List.eq_nil_of_length_eq_zero (by omega)) hr
  | succ f =>
    conv => lhs; unfold tokensGo
    split
    · exact absurd rfl hr
    · simp [h, h']

end Go.Proofs.YtcbolmendjocbaaDoor

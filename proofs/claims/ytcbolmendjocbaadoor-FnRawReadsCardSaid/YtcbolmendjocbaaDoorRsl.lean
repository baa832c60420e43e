/- Plain lists: what stands in bufio's buffer, and the line that it begins with. -/
import Derived.Test.YtcbolmendjocbaaDoorPlain
namespace Go.Proofs.YtcbolmendjocbaaDoor.Qp

theorem findIdx_split (l : B) (h : l.findIdx (· == 10) < l.length) : l = l.take (l.findIdx (· == 10)) ++ 10 :: l.drop (l.findIdx (· == 10) + 1) ∧ (∀ b ∈ l.take (l.findIdx (· == 10)), b ≠ 10) ∧ l[l.findIdx (· == 10)] = 10 := by
  have h1 : l[l.findIdx (· == 10)] = 10 := by simpa using List.findIdx_getElem (xs := l) (p := (· == 10)) (w := h)
  refine ⟨?_, ?_, h1⟩
  · conv => lhs; rw [← List.take_append_drop (l.findIdx (· == 10)) l, List.drop_eq_getElem_cons h, h1]
  · intro b hb
    obtain ⟨j, hj, e⟩ := List.mem_iff_getElem.1 hb
    rw [List.length_take] at hj
    have := List.not_of_lt_findIdx (xs := l) (p := (· == 10)) (i := j) (by omega)
    rw [← e, List.getElem_take]
    simpa using this

section
variable {buf d rest : B} {r n q : Nat} (hl : buf.length = 4096) (hrn : r ≤ n) (hn : n ≤ 4096) (hrest : (buf.take n).drop r ++ d = rest) (hq : q ≤ n - r) (hno : ∀ b ∈ rest.take q, b ≠ 10)
include hl hrn hn hrest hq hno

theorem found_lists {i : Nat} (hi : i = ((buf.take n).drop (r + q)).findIdx (· == 10)) (hf : i < n - (r + q)) :
    slice rest = ((buf.drop r).take (i + q + 1), (buf.take n).drop (r + (i + q) + 1) ++ d, 0) ∧ ((buf.drop r).take (i + q + 1)).length = i + q + 1 ∧ buf.getD (r + (i + q)) 0 = 10 := by
  obtain ⟨X, hX⟩ : ∃ X, X = (buf.take n).drop r := ⟨_, rfl⟩
  have hXl : X.length = n - r := by rw [hX]; simp; omega
  have hseg : (buf.take n).drop (r + q) = X.drop q := by rw [hX, List.drop_drop]
  rw [hseg] at hi
  have hil : (X.drop q).findIdx (· == 10) < (X.drop q).length := by rw [List.length_drop]; omega
  obtain ⟨h1, h2, h3⟩ := findIdx_split (X.drop q) hil
  have h3' : (X.drop q)[i]? = some 10 := by rw [hi, List.getElem?_eq_getElem hil, h3]
  rw [← hi] at h1 h2
  rw [← hX] at hrest
  have hXq : rest.take q = X.take q := by rw [← hrest, List.take_append_of_le_length (by omega)]
  rw [hXq] at hno
  have hXs : X = (X.take q ++ (X.drop q).take i) ++ 10 :: X.drop (q + i + 1) := by
    conv => lhs; rw [← List.take_append_drop q X, h1]
    rw [List.append_assoc, List.drop_drop, Nat.add_assoc]
  have hpre : X.take q ++ (X.drop q).take i = X.take (q + i) := by rw [List.take_add]
  have hbx : (buf.drop r).take (i + q + 1) = X.take (q + i + 1) := by
    rw [hX, List.drop_take, List.take_take, Nat.min_eq_left (by omega), show i + q + 1 = q + i + 1 by omega]
  have h10 : X[q + i]? = some 10 := by
    rw [List.getElem?_drop] at h3'
    exact h3'
  have ht : X.take (q + i + 1) = X.take (q + i) ++ [10] := by
    rw [List.take_add_one, h10]; rfl
  have hlen : (X.take (q + i)).length = q + i := by rw [List.length_take]; omega
  refine ⟨?_, by rw [hbx, List.length_take]; omega, ?_⟩
  · rw [hbx, ht, show (buf.take n).drop (r + (i + q) + 1) = X.drop (q + i + 1) by rw [hX, List.drop_drop]; congr 1; omega]
    have : rest = X.take (q + i) ++ 10 :: (X.drop (q + i + 1) ++ d) := by
      rw [← hrest]
      conv => lhs; rw [hXs, hpre]
      simp
    rw [this]
    refine slice_lf _ _ ?_ (by rw [hlen]; omega)
    intro b hb
    rw [← hpre] at hb
    rcases List.mem_append.1 hb with h | h
    · exact hno b h
    · exact h2 b h
  · rw [hX, List.getElem?_drop, List.getElem?_take] at h10
    split at h10
    · rw [List.getD, show r + (i + q) = r + (q + i) by omega, h10]; rfl
    · cases h10

theorem none_lists (hf : ¬ ((buf.take n).drop (r + q)).findIdx (· == 10) < n - (r + q)) : (∀ b ∈ (buf.take n).drop r, b ≠ 10) := by
  obtain ⟨X, hX⟩ : ∃ X, X = (buf.take n).drop r := ⟨_, rfl⟩
  have hXl : X.length = n - r := by rw [hX]; simp; omega
  have hseg : (buf.take n).drop (r + q) = X.drop q := by rw [hX, List.drop_drop]
  rw [hseg] at hf
  rw [← hX] at hrest ⊢
  have hXq : rest.take q = X.take q := by rw [← hrest, List.take_append_of_le_length (by omega)]
  rw [hXq] at hno
  have h1 : (X.drop q).findIdx (· == 10) = (X.drop q).length := by
    have := List.findIdx_le_length (xs := X.drop q) (p := (· == 10))
    rw [List.length_drop] at this ⊢
    omega
  rw [List.findIdx_eq_length] at h1
  intro b hb
  rw [← List.take_append_drop q X] at hb
  rcases List.mem_append.1 hb with h | h
  · exact hno b h
  · simpa using h1 b h
end

/-- the buffer is full of it -/
theorem slice_full {X d rest : B} (hrest : X ++ d = rest) (hno : ∀ b ∈ X, b ≠ 10) (hX : X.length = 4096) : slice rest = (X, d, 2) := by
  have hr : 4096 ≤ rest.length := by rw [← hrest]; simp; omega
  have hi : 4096 ≤ rest.findIdx (· == 10) := by
    rw [← hrest, List.findIdx_append, findIdx_none X hno]
    simp
    omega
  unfold slice
  rw [if_neg (by omega), if_neg (by omega), ← hrest, ← hX, List.take_left, List.drop_left]
end Go.Proofs.YtcbolmendjocbaaDoor.Qp

/- The walk of Tokens. -/
import Derived.Test.YtcbolmendjocbaaDoorTs
import Derived.Deep.AppendLies
namespace Go.Proofs.YtcbolmendjocbaaDoor
open Go.RowKit Qp

theorem own_below {w w' : World} {B e s n : Nat} {v : Value} {xs : List Value} (h : w.ownsRow B e s v n xs) (hb : Below w.heap.size w w') : w'.ownsRow B e s v n xs := by
  refine ⟨h.1, ?_⟩
  rcases h.2 with h | ⟨g, cap, cur, h1, h2, h3, h4⟩
  · exact .inl h
  · exact .inr ⟨g, cap, cur, h1, h2, by rw [hb.block g (Lib.lt_of_heap h3)]; exact h3, h4⟩
theorem Bs.shape {w : World} {v : Value} {l : List UInt8} (h : Bs w v l) : ∃ ao cap, v = .slice ao l.length cap := by
  obtain ⟨ao, cap, h, _⟩ := h; exact ⟨ao, cap, h⟩

theorem Bs.keep {w w' : World} {v : Value} {l : List UInt8} (h : Bs w v l) (hc : ∀ p x, v.ownBlock = some p.block → w.cell? p = some x → w'.cell? p = some x) : Bs w' v l := by
  obtain ⟨ao, cap, rfl, h2, h3, h4, h5⟩ := h
  refine ⟨ao, cap, rfl, h2, h3, h4, fun hl => ?_⟩
  obtain ⟨b, off, rfl, h7⟩ := h5 hl
  exact ⟨b, off, rfl, fun k hk => hc _ _ rfl (h7 k hk)⟩

theorem Bs.block_lt {w : World} {v : Value} {l : List UInt8} (h : Bs w v l) (hne : l ≠ []) (g : Nat) (hg : v.ownBlock = some g) : g < w.heap.size := by
  obtain ⟨ao, cap, rfl, h2, h3, h4, h5⟩ := h
  obtain ⟨b, off, rfl, h7⟩ := h5 hne
  injection hg with hg
  subst hg
  exact cell_lt (h7 0 (List.length_pos_iff.2 hne))

/-- Tokens, behind one more token -/
theorem TokRel.step {src : B} {w wr w1 W2 w2 : World} {ts : List TV} {rest : List UInt8} {n f : Nat} {u4 tv vv : Value} {b off len cap m g2 cap2 : Nat}
    (hs : Bs wr (.slice (some ⟨b, off, none⟩) len cap) rest) (hts : ∀ x ∈ ts, x.lies wr) (hf : rest.length ≤ f) (htk : tokens src = (tokensGo f rest n).map (ts.map TV.t ++ ·)) (hle : ts.length + rest.length ≤ src.length)
    (hr : rest ≠ []) (hsb : b < w.heap.size) (hfar : ∀ x ∈ ts, x.far wr.heap.size u4) (hown : wr.ownsRow w.heap.size 37 3 u4 ts.length (tcells ts)) (hbel : Below w.heap.size w wr)
    (hk : (next rest).kind ≠ 0) (h76 : ¬ 76 < (next rest).adds n) (h1 : Bs w1 tv (next rest).text) (h2 : Bs w1 vv (next rest).value) (hb1 : Below wr.heap.size wr w1)
    (ht : ∀ g, tv.ownBlock = some g → (some b : Option Nat) = some g ∨ wr.heap.size ≤ g ∧ g < w1.heap.size) (hv : ∀ g, vv.ownBlock = some g → (some b : Option Nat) = some g ∨ wr.heap.size ≤ g ∧ g < w1.heap.size)
    (hb2 : Below w1.heap.size w1 W2)
    (hown2 : w2.ownsRow w.heap.size 37 3 (.slice (some ⟨g2, 0, none⟩) (ts.length + 1) cap2) (ts.length + 1) (tcells ts ++ [.int .i64 (next rest).kind, tv, vv])) (hg : W2.grownBy w2 u4.ownBlock) (hat : u4.ownBlock = some g2 ∨ g2 = W2.heap.size)
    (hm : m = (next rest).text.length) (nl : Int) (hnl : nl = ((next rest).leaves n : Nat)) :
    TokRel src w (.slice (if cap = m then some ⟨b, off, none⟩ else some ⟨b, off + m, none⟩) (len - m) (cap - m)) (.slice (some ⟨g2, 0, none⟩) (ts.length + 1) cap2) (.int .i64 nl) w2 := by
  subst hm; subst hnl
  have hs1 := hb1.size
  have hs2 := hb2.size
  have hs3 := hg.size
  have hs0 := hbel.size
  have hown' : ∀ g, u4.ownBlock = some g → w.heap.size ≤ g ∧ g < wr.heap.size := by
    intro g e
    rcases hown.2 with ⟨rfl, _⟩ | ⟨g', cap, cur, rfl, h, hg', _⟩
    · cases e
    · injection e with e
      subst e
      exact ⟨h, Lib.lt_of_heap hg'⟩
  -- what lies below, and not in the old row, is kept
  have hkeep : ∀ p x, p.block < w1.heap.size → u4.ownBlock ≠ some p.block → w1.cell? p = some x → w2.cell? p = some x := by
    intro p x hp hne hc
    exact hg.cell (below_cell hb2 _ _ hc) (Ne.symm hne)
  have hg2 : w.heap.size ≤ g2 := by
    rcases hat with h | h
    · exact (hown' _ h).1
    · omega
  have hlv : (next rest).leaves n ≤ 76 := by
    unfold Tok.leaves
    split <;> omega
  have htl := next_tlen rest hk
  have hsd : Bs w2 (.slice (if cap = (next rest).text.length then some ⟨b, off, none⟩ else some ⟨b, off + (next rest).text.length, none⟩) (len - (next rest).text.length) (cap - (next rest).text.length)) (rest.drop (next rest).text.length) := by
    obtain ⟨ao', cap', e, h2, h3, h4, h5⟩ := hs
    injection e with e1 e2 e3
    subst e1; subst e2; subst e3
    refine ⟨_, cap - (next rest).text.length, by rw [List.length_drop], by rw [List.length_drop]; omega, by omega, (fun h => by split at h <;> cases h), fun hne => ?_⟩
    have hne' : 0 < (rest.drop (next rest).text.length).length := List.length_pos_iff.2 hne
    rw [List.length_drop] at hne'
    rw [if_neg (by omega)]
    obtain ⟨b', off', h6, h7⟩ := h5 hr
    injection h6 with h6
    injection h6 with h6 h8
    subst h6; subst h8
    refine ⟨b, off + (next rest).text.length, rfl, fun j hj => ?_⟩
    rw [List.length_drop] at hj
    have hc := h7 ((next rest).text.length + j) (by omega)
    have := hkeep _ _ (by show b < _; omega) (fun e => by have := (hown' _ e).1; have : w.heap.size ≤ b := this; omega) (below_cell hb1 _ _ hc)
    rw [Nat.add_assoc, this]
    simp [List.getD]
  have hnew : ∀ v : Value, (∀ g, v.ownBlock = some g → (some b : Option Nat) = some g ∨ wr.heap.size ≤ g ∧ g < w1.heap.size) → ∀ g, v.ownBlock = some g → g < w1.heap.size ∧ u4.ownBlock ≠ some g ∧ g2 ≠ g := by
    intro v hv g e
    rcases hv g e with h | h
    · injection h with h
      subst h
      exact ⟨by omega, fun e => by have := (hown' _ e).1; omega, by omega⟩
    · refine ⟨h.2, fun e => by have := (hown' _ e).2; omega, ?_⟩
      rcases hat with h' | h'
      · have := (hown' _ h').2; omega
      · omega
  have hold : ∀ x ∈ ts, ∀ g, (x.tv.ownBlock = some g ∨ x.vv.ownBlock = some g) → g < wr.heap.size ∧ u4.ownBlock ≠ some g ∧ g2 ≠ g := by
    intro x hx g e
    obtain ⟨h1, h2⟩ := hfar x hx g e
    refine ⟨h1, h2, ?_⟩
    rcases hat with h' | h'
    · rintro rfl; exact h2 h'
    · omega
  refine ⟨ts ++ [⟨next rest, tv, vv⟩], rest.drop (next rest).text.length, (next rest).leaves n, f - 1, rfl, hlv, hsd, ?_, ?_, ?_, ?_, ?_, ?_, ?_, ?_⟩
  · intro x hx
    rcases List.mem_append.1 hx with hx | hx
    · refine ⟨(hts x hx).1.keep fun p y e hc => ?_, (hts x hx).2.keep fun p y e hc => ?_⟩
      · obtain ⟨q1, q2, _⟩ := hold x hx _ (.inl e)
        exact hkeep _ _ (by omega) q2 (below_cell hb1 _ _ hc)
      · obtain ⟨q1, q2, _⟩ := hold x hx _ (.inr e)
        exact hkeep _ _ (by omega) q2 (below_cell hb1 _ _ hc)
    · rw [List.mem_singleton] at hx
      subst hx
      refine ⟨h1.keep fun p y e hc => ?_, h2.keep fun p y e hc => ?_⟩
      · obtain ⟨q1, q2, _⟩ := hnew _ ht _ e
        exact hkeep _ _ q1 q2 hc
      · obtain ⟨q1, q2, _⟩ := hnew _ hv _ e
        exact hkeep _ _ q1 q2 hc
  · rw [List.length_append, tcells_append]
    exact hown2
  · exact ((hbel.trans (hb1.mono hs0)).trans (hb2.mono (by omega))).grown hg (by omega) fun k e => (hown' k e).1
  · rw [List.length_drop]; omega
  · rw [htk, tokensGo_step hr hf hk h76, Option.map_map]
    congr 1
    funext l
    simp
  · rw [List.length_append, List.length_drop, List.length_singleton]; omega
  · intro _ g e
    have : g = b := by
      split at e <;> (injection e with e; exact e.symm)
    rw [this]
    exact hsb
  · intro x hx g e
    rcases List.mem_append.1 hx with hx | hx
    · obtain ⟨q1, q2, q3⟩ := hold x hx _ e
      exact ⟨by omega, fun e => q3 (Option.some.inj e)⟩
    · rw [List.mem_singleton] at hx
      subst hx
      have : g < w1.heap.size ∧ u4.ownBlock ≠ some g ∧ g2 ≠ g := by
        rcases e with e | e
        · exact hnew _ ht _ e
        · exact hnew _ hv _ e
      exact ⟨by omega, fun e => this.2.2 (Option.some.inj e)⟩

set_option maxRecDepth 100000 in
set_option maxHeartbeats 1600000 in
theorem Tokens_any {w : World} {v : Value} {src : List UInt8} (h : Bs w v src) (hlim : src.length ≤ 1099511627776) :
    Calls Tryd.prog 5 #[v] w (TokPost src w) := by
  obtain ⟨i0, hi, hz0, hz1, hz2⟩ := infoT
  have hst : TokRel src w v (.slice none 0 0) (.int .i64 0) w := ⟨[], src, 0, src.length, rfl, by omega, h, by simp, World.ownsRow_nil _ _ _ _, Below.refl _ _, Nat.le_refl _, by rw [tokens]; simp, by simp, fun hne g hg => Bs.block_lt h hne g hg, by simp⟩
  have HST := Lib.hid hst
  obtain ⟨ao, cap, rfl⟩ := Bs.shape h
  have HLIM := Lib.hid hlim
  clear h hst hlim
  go_enter Tryd.func5, Tryd.ntmps5
  go_wp2
  go_loopw [0, 4, 5] (fun vs vo vl wr => TokRel src w vs vo vl wr) (fun vs _ _ _ => lenOf vs)
  case atStart => exact HST.out
  case round =>
    obtain ⟨ts, rest, n, f, rfl, hn, hs, hts, hown, hbel, hf, htk, hle, hsb, hfar⟩ := hrel
    obtain ⟨a0, c0, rfl⟩ := Bs.shape hs
    by_cases hr : rest = []
    · subst hr
      rw [tokensGo_nil] at htk
      have hend : TokPost src w (.returned (.tuple #[_, .bool true])) wr := ⟨hbel, by rw [htk]; exact ⟨_, rfl, by simpa using Ts.of_own hown hts⟩⟩
      have HE := Lib.hid hend
      clear htk hs hts hown hbel hend
      go_wp2
      go_ret2
      exact HE.out
    · have HX := Lib.hid (next_any hs hr)
      have hpos : 0 < rest.length := List.length_pos_iff.2 hr
      obtain ⟨b, off, rfl, -⟩ := hs.drop 0 hpos
      have hcm : rest.length ≤ c0 ∧ c0 ≤ 9223372036854775807 := by
        obtain ⟨ao', cap', e, h2, h3, _⟩ := hs
        injection e with e1 e2 e3
        omega
      obtain ⟨hc0, hc1⟩ := hcm
      have HS := Lib.hid hs
      have HT := Lib.hid hts
      have HO := Lib.hid hown
      have HBE := Lib.hid hbel
      have HTK := Lib.hid htk
      have hsb := hsb hr b rfl
      have HFAR := Lib.hid hfar
      have HSB := Lib.hid hsb
      obtain ⟨len, hlen⟩ : ∃ len, len = rest.length := ⟨_, rfl⟩
      rw [← hlen] at hpos hc0 HX HS hf hle ⊢
      have HL := Lib.hid hlen
      have HR := Lib.hid hr
      clear hs hts hown hbel htk hlen hr hsb hfar
      go_wp2_with fail
      refine HX.out.mono ?_
      rintro e w1 ⟨tv, vv, rfl, h1, h2, hb1, ht1, ht2⟩
      obtain ⟨a1, c1, rfl⟩ := Bs.shape h1
      obtain ⟨a2, c2, rfl⟩ := Bs.shape h2
      obtain ⟨kd, hkd⟩ : ∃ kd, kd = (next rest).kind := ⟨_, rfl⟩
      obtain ⟨tl, htl⟩ : ∃ tl, tl = (next rest).text.length := ⟨_, rfl⟩
      obtain ⟨vl, hvl⟩ : ∃ vl, vl = (next rest).value.length := ⟨_, rfl⟩
      have hkd5 := next_kind rest
      have htl3 := next_tlen rest
      rw [← hkd] at hkd5 htl3 ⊢
      rw [← htl] at htl3 h1 ht1 ⊢
      rw [← hvl] at h2 ht2 ⊢
      rw [← HL.out] at htl3
      have H1 := Lib.hid h1
      have H2 := Lib.hid h2
      have HB1 := Lib.hid hb1
      have hb01 := HBE.out.trans (hb1.mono HBE.out.size)
      have hbW : ∀ o1, Below w.heap.size w (w1.alloc o1) := fun o1 => hb01.alloc hb01.size _
      have hend : (tokens src = none) → TokPost src w (.returned (.tuple #[.slice none 0 0, .bool false])) (w1.alloc (.cells #[.int .i64 kd, .slice a1 tl c1, .slice a2 vl c2] 37)) := fun hn => ⟨hbW _, by rw [hn]⟩
      have HE := Lib.hid hend
      have hb2 : Below w1.heap.size w1 ((w1.alloc (.cells #[.int .i64 kd, .slice a1 tl c1, .slice a2 vl c2] 37)).alloc (.cells #[.int .i64 kd, .slice a1 tl c1, .slice a2 vl c2] 37)) := ((Below.refl _ _).alloc (Nat.le_refl _) _).alloc (by simp) _
      have HB2 := Lib.hid hb2
      have HOW := Lib.hid (own_below (own_below HO.out hb1) hb2)
      have HU := Lib.hid (show ∀ u ∈ [Value.int .i64 kd, .slice a1 tl c1, .slice a2 vl c2], u.oneCell' = true by simp [Value.oneCell'])
      have HN := Lib.hid (show ∀ (j : Nat) u, [Value.int .i64 kd, .slice a1 tl c1, .slice a2 vl c2][j]? = some u → ((w1.alloc (.cells #[.int .i64 kd, .slice a1 tl c1, .slice a2 vl c2] 37)).alloc (.cells #[.int .i64 kd, .slice a1 tl c1, .slice a2 vl c2] 37)).cell? ((⟨w1.heap.size + 1, 0, none⟩ : Addr).add j) = some u by
        intro j u hj
        rw [Lib.addr_add, Lib.cell_of_heap (show (World.alloc _ _).heap[w1.heap.size + 1]? = _ from by rw [← World.size_alloc w1]; exact heap_alloc_new _ _), Nat.zero_add, ← Array.getElem?_toList]
        exact hj)
      have HSZ := Lib.hid (show w.heap.size ≤ ((w1.alloc (.cells #[.int .i64 kd, .slice a1 tl c1, .slice a2 vl c2] 37)).alloc (.cells #[.int .i64 kd, .slice a1 tl c1, .slice a2 vl c2] 37)).heap.size by
        have := hb01.size
        simp only [World.size_alloc]; omega)
      have hlim := HLIM.out
      -- what the round gives
      have hround : kd ≠ 0 → ¬ 76 < (next rest).adds n → ∀ (g2 cap2 : Nat) w2 (nl : Int), w2.ownsRow w.heap.size 37 3 (.slice (some ⟨g2, 0, none⟩) (ts.length + 1) cap2) (ts.length + 1) (tcells ts ++ [Value.int .i64 kd, .slice a1 tl c1, .slice a2 vl c2]) →
          World.grownBy ((w1.alloc (.cells #[.int .i64 kd, .slice a1 tl c1, .slice a2 vl c2] 37)).alloc (.cells #[.int .i64 kd, .slice a1 tl c1, .slice a2 vl c2] 37)) w2 u4.ownBlock → (u4.ownBlock = some g2 ∨ g2 = (World.heap ((w1.alloc (.cells #[.int .i64 kd, .slice a1 tl c1, .slice a2 vl c2] 37)).alloc (.cells #[.int .i64 kd, .slice a1 tl c1, .slice a2 vl c2] 37))).size) →
          nl = ((next rest).leaves n : Nat) → TokRel src w (.slice (if c0 = tl then some ⟨b, off, none⟩ else some ⟨b, off + tl, none⟩) (len - tl) (c0 - tl)) (.slice (some ⟨g2, 0, none⟩) (ts.length + 1) cap2) (.int .i64 nl) w2 := by
        intro hk h76 g2 cap2 w2 nl hown' hgrow hat hnl
        exact TokRel.step HS.out HT.out (by rw [← HL.out]; exact hf) HTK.out (by rw [← HL.out]; exact hle) HR.out HSB.out HFAR.out HO.out HBE.out (by rw [← hkd]; exact hk) h76 h1 h2 hb1 ht1 ht2 hb2 (by rw [← hkd]; exact hown') hgrow hat htl _ hnl
      have hcl : ∀ w2 : World, World.grownBy ((w1.alloc (.cells #[.int .i64 kd, .slice a1 tl c1, .slice a2 vl c2] 37)).alloc (.cells #[.int .i64 kd, .slice a1 tl c1, .slice a2 vl c2] 37)) w2 u4.ownBlock → w2.cell? ⟨w1.heap.size, 1, none⟩ = some (.slice a1 tl c1) := by
        intro w2 hgrow
        refine hgrow.cell ?_ (fun e => ?_)
        · refine below_cell (Below.alloc (Below.refl _ _) (Nat.le_refl _) _) _ _ ?_
          rw [Lib.cell_of_heap (heap_alloc_new _ _)]
          rfl
        · rcases HO.out.2 with ⟨hq, _⟩ | ⟨g', cap, cur, hq, _, hg', _⟩
          · rw [hq] at e; cases e
          · rw [hq] at e
            injection e with e
            have := Lib.lt_of_heap hg'
            have := hb1.size
            have : w1.heap.size = g' := e
            omega
      have HRD := Lib.hid hround
      have HCL := Lib.hid hcl
      clear ht1 ht2 hcl
      clear h1 h2 hb1 hb01 hbW hend hb2 hround
      by_cases hk0 : kd = 0
      · have hend := HE.out (by rw [HTK.out, tokensGo_kind0 HR.out (by rw [← HL.out]; exact hf) (by rw [← hkd]; exact hk0)]; rfl)
        have HE := Lib.hid hend
        subst hk0
        clear hkd htl hvl hkd5 htl3 hend
        go_wp2
        go_ret2
        exact HE.out
      have htl3 := htl3 hk0
      by_cases hk4 : kd = 4
      · have hadds : (next rest).adds n = n + 1 := by unfold Tok.adds; rw [← hkd, if_pos hk4]
        have hleaves : (next rest).leaves n = 0 := by unfold Tok.leaves; rw [← hkd, if_pos (.inl hk4)]
        rw [hadds] at HRD
        rw [hleaves] at HRD
        have HL76 := Lib.hid (show 76 < n + 1 → tokens src = none from fun h => by rw [HTK.out, tokensGo_long HR.out (by rw [← HL.out]; exact hf) (by rw [hadds]; exact h)]; rfl)
        subst hk4
        clear hkd htl hvl hadds hleaves
        by_cases h76 : 76 < n + 1
        · have HE := Lib.hid (HE.out (HL76.out h76))
          go_wp2
          go_ret2
          exact HE.out
        · go_wp2_with (at_builtin; refine wpList_append_lies _ rfl (.tmp 37) (.tmp 39) 24 rfl w.heap.size 37 i0 (.agg #[.int .i64 0, .slice none 0 0, .slice none 0 0]) 3 56 Tryd.underlying24 hi hz0 hz1 hz2 rfl (by decide) _ _ _ rfl HOW.out ⟨w1.heap.size + 1, 0, none⟩ 1 1 [.int .i64 (4 : Nat), .slice a1 tl c1, .slice a2 vl c2] rfl rfl HN.out HU.out (by decide) (by unfold maxLen; omega) (by omega) HSZ.out _ rfl ?_; intro g2 cap2 w2 hown' hgrow hat _; have HCL := HCL.out _ hgrow)
          go_roundw
          case rel => exact HRD.out (by omega) h76 _ _ _ _ hown' hgrow hat rfl
          case measure => simp [lenOf]; omega
      by_cases hk5 : kd = 5
      · have hadds : (next rest).adds n = n := by unfold Tok.adds; rw [← hkd, if_neg (by omega), if_pos hk5]
        have hleaves : (next rest).leaves n = 0 := by unfold Tok.leaves; rw [← hkd, if_pos (.inr hk5)]
        rw [hadds] at HRD
        rw [hleaves] at HRD
        have HL76 := Lib.hid (show 76 < n → tokens src = none from fun h => by rw [HTK.out, tokensGo_long HR.out (by rw [← HL.out]; exact hf) (by rw [hadds]; exact h)]; rfl)
        subst hk5
        clear hkd htl hvl hadds hleaves
        by_cases h76 : 76 < n
        · exact absurd hn (by omega)
        · go_wp2_with (at_builtin; refine wpList_append_lies _ rfl (.tmp 37) (.tmp 39) 24 rfl w.heap.size 37 i0 (.agg #[.int .i64 0, .slice none 0 0, .slice none 0 0]) 3 56 Tryd.underlying24 hi hz0 hz1 hz2 rfl (by decide) _ _ _ rfl HOW.out ⟨w1.heap.size + 1, 0, none⟩ 1 1 [.int .i64 (5 : Nat), .slice a1 tl c1, .slice a2 vl c2] rfl rfl HN.out HU.out (by decide) (by unfold maxLen; omega) (by omega) HSZ.out _ rfl ?_; intro g2 cap2 w2 hown' hgrow hat _; have HCL := HCL.out _ hgrow)
          go_roundw
          case rel => exact HRD.out (by omega) h76 _ _ _ _ hown' hgrow hat rfl
          case measure => simp [lenOf]; omega
      · have hadds : (next rest).adds n = n + tl := by unfold Tok.adds; rw [← hkd, if_neg hk4, if_neg hk5, ← htl]
        have hleaves : (next rest).leaves n = n + tl := by unfold Tok.leaves; rw [← hkd, if_neg (by omega), hadds]
        rw [hadds] at HRD
        rw [hleaves] at HRD
        have HL76 := Lib.hid (show 76 < n + tl → tokens src = none from fun h => by rw [HTK.out, tokensGo_long HR.out (by rw [← HL.out]; exact hf) (by rw [hadds]; exact h)]; rfl)
        clear hkd htl hvl hadds hleaves
        have i0' : ¬ (kd : Int) = 0 := by omega
        have i4 : ¬ (kd : Int) = 4 := by omega
        have i5 : ¬ (kd : Int) = 5 := by omega
        have j0 : ((kd : Int) == 0) = false := beq_eq_false_iff_ne.2 i0'
        have j4 : ((kd : Int) == 4) = false := beq_eq_false_iff_ne.2 i4
        have j5 : ((kd : Int) == 5) = false := beq_eq_false_iff_ne.2 i5
        by_cases h76 : 76 < n + tl
        · have HE := Lib.hid (HE.out (HL76.out h76))
          go_wp2
          go_ret2
          exact HE.out
        · go_wp2_with (at_builtin; refine wpList_append_lies _ rfl (.tmp 37) (.tmp 39) 24 rfl w.heap.size 37 i0 (.agg #[.int .i64 0, .slice none 0 0, .slice none 0 0]) 3 56 Tryd.underlying24 hi hz0 hz1 hz2 rfl (by decide) _ _ _ rfl HOW.out ⟨w1.heap.size + 1, 0, none⟩ 1 1 [.int .i64 kd, .slice a1 tl c1, .slice a2 vl c2] rfl rfl HN.out HU.out (by decide) (by unfold maxLen; omega) (by omega) HSZ.out _ rfl ?_; intro g2 cap2 w2 hown' hgrow hat _; have HCL := HCL.out _ hgrow)
          go_roundw
          case rel => exact HRD.out (by omega) h76 _ _ _ ((n : Int) + tl) hown' hgrow hat (by simp)
          case measure => simp [lenOf]; omega
end Go.Proofs.YtcbolmendjocbaaDoor

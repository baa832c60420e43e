/- The walks of impl.Decode and impl.Slow. -/
import Derived.Test.YtcbolmendjocbaaDoorRa0
import Derived.Test.YtcbolmendjocbaaDoorApp
namespace Go.Proofs.YtcbolmendjocbaaDoor
open Go.RowKit Qp

theorem ibs_nil (w : World) : Bs w (.slice none 0 0) [] := ⟨none, 0, rfl, Nat.le_refl _, by omega, fun _ => rfl, fun h => absurd rfl h⟩

/-- what lies at the start: errors, tables -/
structure Env0 (ea fa ua : Addr) (w : World) : Prop where
  full : w.cell? ⟨1, 0, none⟩ = some (eofv fa)
  unex : w.cell? ⟨2, 0, none⟩ = some (eofv ua)
  fb : fa ≠ ea ∧ ∃ cs t, w.heap[fa.block]? = some (.cells cs t (0, 0))
  ub : ua ≠ ea ∧ ∃ cs t, w.heap[ua.block]? = some (.cells cs t (0, 0))
  eac : ∃ x, w.cell? ea = some x
  tabs : Lib.Utf8Tabs 6 7 w
theorem Env0.env {ea fa ua : Addr} {w w4 : World} {R Bu Bf s : Nat} (h : Env0 ea fa ua w) (hb : Below w.heap.size w w4) (h1 : w.heap.size ≤ R) (h2 : w.heap.size ≤ Bu) (h3 : w.heap.size ≤ Bf) (h4 : w.heap.size ≤ s) : Env R Bu Bf s ea fa ua w4 := by
  have old : ∀ b, b < w.heap.size → Old R Bu Bf s b := fun b hb => ⟨by omega, by omega, by omega, by omega⟩
  have err : ∀ a : Addr, (a ≠ ea ∧ ∃ cs t, w.heap[a.block]? = some (.cells cs t (0, 0))) → ErrB R Bu Bf s ea w4 a := fun a ⟨q1, cs, t, q2⟩ =>
    ⟨q1, cs, t, (hb.block a.block (Lib.lt_of_heap q2)).trans q2, .inl (old _ (Lib.lt_of_heap q2))⟩
  refine ⟨below_cell hb _ _ h.full, below_cell hb _ _ h.unex, err fa h.fb, err ua h.ub, ?_, ⟨fun c hc => below_cell hb _ _ (h.tabs.1 c hc), fun i hi => ⟨below_cell hb _ _ (h.tabs.2 i hi).1, below_cell hb _ _ (h.tabs.2 i hi).2⟩⟩, ?_, old _ (cell_lt h.full), old _ (cell_lt h.unex), old _ (cell_lt (h.tabs.1 0 (by omega))), old _ (cell_lt (h.tabs.2 0 (by omega)).1)⟩
  · obtain ⟨x, hx⟩ := h.eac
    exact ⟨x, below_cell hb _ _ hx⟩
  · obtain ⟨x, hx⟩ := h.eac
    exact old _ (cell_lt hx)

/-- A NEW READER IS READ TO ITS END. -/
theorem all_start {k : Bool} {w w3 w4 : World} {ea fa ua : Addr} {s D R : Nat} {src out : List UInt8} {code : Nat} (hen : Env0 ea fa ua w) (hw3 : Below w.heap.size w w3) (hws : w.heap.size ≤ s) (hsrc : SrcAt k w3 s D src) (hD : D < w3.heap.size) (hsD : s ≠ D) (hE : EofAt w3 ea) (hs0 : s ≠ 0) (hea : ea.block < w3.heap.size)
    (hR1 : w3.heap.size + 1 < R) (hR2 : RdrAt w4 R w3.heap.size .nilIface (.slice none 0 0)) (hbu : BuAt w4 w3.heap.size (w3.heap.size + 1) (rdv k s) 0 0 .nilIface) (hbf : RowB w4 (w3.heap.size + 1) (List.replicate 4096 0)) (hb : Below w3.heap.size w3 w4)
    (hdec : Qp.decode src = (out, code)) (hlim : src.length ≤ 140737488355000) :
    Calls Tryd.prog 16 #[.iface 41 (.pointer (some ⟨R, 0, none⟩))] w4 fun e w' =>
      ∃ v, e = .returned (.tuple #[v, .bool (code == 1)]) ∧ w'.ownsRow w4.heap.size 5 1 v out.length (Lib.byteCells out) ∧ Keep (fun b => b = s ∨ w3.heap.size ≤ b) w4 w' := by
  have hs := hsrc.lt
  have hz : 0 < w3.heap.size := cell_lt hE
  have hRl := Lib.lt_of_heap hR2
  have kb : Keep (fun _ => False) w3 w4 := Keep.new hb
  have hol : out.length ≤ src.length := by have := decode_size src; rw [hdec] at this; exact this
  have hB : Blocks R w3.heap.size (w3.heap.size + 1) s D w4.heap.size := by
    refine ⟨⟨?_, ?_, ?_, ?_, ?_, hsD⟩, ?_, ?_, ?_, ?_, ?_, ?_, ?_, ?_, ?_, ?_, ?_, ?_, hs0, ?_, ?_⟩ <;> omega
  have hq : QAt k ea R w3.heap.size (w3.heap.size + 1) s D w4 ⟨[], 0, src⟩ .nilIface (.slice none 0 0) 0 0 (List.replicate 4096 0) src :=
    ⟨hR2, ibs_nil w4, fun h => absurd rfl h, ⟨hbu, hbf, List.length_replicate, Nat.le_refl _, by omega, hsrc.keep kb id id, Keep.refl _ _⟩, rfl, .inl ⟨rfl, rfl⟩, hE.keep kb id, Nat.lt_of_lt_of_le hea hb.size, ⟨fa, ua, hen.env (hw3.trans (hb.mono hw3.size)) (by have := hw3.size; omega) hw3.size (by have := hw3.size; omega) hws⟩, (fun e => by cases e)⟩
  have hc := decode_code src
  rw [hdec] at hc
  refine (all_any hB hq (Nat.lt_of_lt_of_le hD hb.size) hdec hc (by omega)).mono ?_
  rintro e w' ⟨v, rfl, h1, h2⟩
  refine ⟨v, rfl, own_mono h1 (by omega), h2.mono (fun b _ e => ?_)⟩
  rcases e with e | e | e | e | e
  · exact .inr (by omega)
  · exact .inr (by omega)
  · exact .inr (by omega)
  · exact .inl e
  · exact .inr (by have := hb.size; omega)

/-- what Decode and Slow leave -/
def DecOwn (out : List UInt8) (code : Nat) (w : World) (e : Ending) (w' : World) : Prop := ∃ v, e = .returned (.tuple #[v, .bool (code == 1)]) ∧ w'.ownsRow w.heap.size 5 1 v out.length (Lib.byteCells out) ∧ Below w.heap.size w w'
def DecPost (out : List UInt8) (code : Nat) (w : World) (e : Ending) (w' : World) : Prop := ∃ v, e = .returned (.tuple #[v, .bool (code == 1)]) ∧ Bs w' v out ∧ Below w.heap.size w w'
theorem DecOwn.post {out : List UInt8} {code : Nat} {w w' : World} {e : Ending} (h : DecOwn out code w e w') : DecPost out code w e w' :=
  let ⟨v, h1, h2, h3⟩ := h
  ⟨v, h1, Bs.of_own h2, h3⟩

/-- from the copy on -/
theorem dec_tail {k : Bool} {w w3 : World} {ea fa ua : Addr} {s D : Nat} {src out : List UInt8} {code : Nat} (hen : Env0 ea fa ua w) (hsrc : SrcAt k w3 s D src) (hD : D < w3.heap.size) (hsD : s ≠ D) (hE : EofAt w ea) (hea : ea.block < w.heap.size)
    (hws : w.heap.size ≤ s) (hb3 : Below w.heap.size w w3) (hdec : Qp.decode src = (out, code)) (hlim : src.length ≤ 140737488355000) :
    Calls Tryd.prog 12 #[rdv k s] w3 fun e w4 => ∃ R, e = .returned (.pointer (some ⟨R, 0, none⟩)) ∧
      Calls Tryd.prog 16 #[.iface 41 (.pointer (some ⟨R, 0, none⟩))] w4 (DecOwn out code w) := by
  have hE3 : EofAt w3 ea := hE.keep (Keep.new (S := fun _ => False) hb3) id
  have hz : 0 < w.heap.size := cell_lt hE
  refine (newQ_any (k := k) (w := w3) s).mono ?_
  rintro e w4 ⟨R, _, rfl, h2, h3, h4, h5, h6⟩
  refine ⟨R, rfl, (all_start hen hb3 hws hsrc hD hsD hE3 (by omega) (Nat.lt_of_lt_of_le hea hb3.size) h2 h3 h4 h5 h6 hdec hlim).mono ?_⟩
  rintro e w5 ⟨v, rfl, h7, h8⟩
  refine ⟨v, rfl, own_mono h7 (Nat.le_trans hb3.size h6.size), (hb3.trans (h6.mono hb3.size)).trans (h8.to_below ?_ ?_)⟩
  · exact Nat.le_trans hb3.size h6.size
  · rintro b hb (e | e)
    · omega
    · have := hb3.size; omega

/-- a copy of src has been made -/
def Copied (src : List UInt8) (w w2 : World) (v : Value) : Prop := ∃ g cap, v = .slice (some ⟨g, 0, none⟩) src.length cap ∧ w.heap.size ≤ g ∧ g < w2.heap.size ∧ Bs w2 v src ∧ Below w.heap.size w w2

theorem copied_dec {w w2 : World} {ea fa ua : Addr} {v : Value} {src out : List UInt8} {code : Nat} (hen : Env0 ea fa ua w) (h : Copied src w w2 v) (hE : EofAt w ea) (hea : ea.block < w.heap.size) (hdec : Qp.decode src = (out, code)) (hlim : src.length ≤ 140737488355000) :
    Calls Tryd.prog 12 #[.iface 43 (.pointer (some ⟨w2.heap.size, 0, none⟩))] (w2.alloc (.cells #[v, .int .i64 0, .int .i64 (-1)] 59)) fun e w4 => ∃ R, e = .returned (.pointer (some ⟨R, 0, none⟩)) ∧
      Calls Tryd.prog 16 #[.iface 41 (.pointer (some ⟨R, 0, none⟩))] w4 (DecOwn out code w) := by
  obtain ⟨g, cap, rfl, hg, hg2, hbs, hb⟩ := h
  have hb2 : Below w2.heap.size w2 (w2.alloc (.cells #[.slice (some ⟨g, 0, none⟩) src.length cap, .int .i64 0, .int .i64 (-1)] 59)) := (Below.refl _ _).alloc (Nat.le_refl _) _
  refine dec_tail (k := false) hen (s := w2.heap.size) (D := g) (src := src) ⟨_, src, 0, -1, heap_alloc_new _ _, hbs.below hb2, rfl, Nat.zero_le _, rfl⟩ (by rw [World.size_alloc]; omega) (by omega) hE hea hb.size (hb.trans (hb2.mono hb.size)) hdec hlim
theorem copied_nil (w : World) : Copied [] w (w.alloc (.cells #[] 5)) (.slice (some ⟨w.heap.size, 0, none⟩) 0 0) :=
  ⟨w.heap.size, 0, rfl, Nat.le_refl _, by rw [World.size_alloc]; omega, ⟨some ⟨w.heap.size, 0, none⟩, 0, rfl, Nat.le_refl _, by omega, (fun h => by cases h), fun h => absurd rfl h⟩, (Below.refl _ _).alloc (Nat.le_refl _) _⟩

theorem copied_own {w w2 : World} {v' : Value} {src : List UInt8} (hown : w2.ownsRow w.heap.size 5 1 v' (0 + src.length) ([] ++ Lib.byteCells src)) (hgrow : (w.alloc (.cells #[] 5)).grownBy w2 (some w.heap.size)) (hne : ¬ v' = .slice none 0 0) : Copied src w w2 v' := by
  rw [Nat.zero_add, List.nil_append] at hown
  have hbs := Bs.of_own hown
  rcases hown.2 with ⟨e, _⟩ | ⟨g, cap, cur, rfl, hg, hh, _⟩
  · exact absurd e hne
  · refine ⟨g, cap, rfl, hg, Lib.lt_of_heap hh, hbs, ?_⟩
    exact (((Below.refl _ _).alloc (Nat.le_refl _) _).grown hgrow (by rw [World.size_alloc]; omega) (fun r hr => by injection hr with hr; omega))

set_option maxRecDepth 100000 in
set_option maxHeartbeats 1600000 in
theorem Decode_own {w : World} {ea fa ua : Addr} {v : Value} {src out : List UInt8} {code : Nat} (hen : Env0 ea fa ua w) (h : Bs w v src) (hE : EofAt w ea) (hea : ea.block < w.heap.size) (hdec : Qp.decode src = (out, code)) (hlim : src.length ≤ 140737488355000) :
    Calls Tryd.prog 9 #[v] w (DecOwn out code w) := by
  obtain ⟨i0, hi, hz0, hz1, hz2⟩ := info_parts info5
  have HC := Lib.hid (fun (w2 : World) (v : Value) (h : Copied src w w2 v) => copied_dec hen h hE hea hdec hlim)
  clear hE hea hdec hen
  rcases h.src with ⟨rfl, rfl⟩ | ⟨ad, cap1, rfl, hpc, hpm, hnews⟩
  · clear h
    go_enter Tryd.func9, Tryd.ntmps9
    go_wp2_with fail
    refine newBytes_any.mono ?_
    rintro e w3 ⟨rfl, hw3⟩
    have HN := Lib.hid (HC.out _ _ (copied_nil w))
    rw [hw3, World.size_alloc] at HN
    clear HC hw3
    go_wp2_with fail
    refine HN.out.mono ?_
    rintro e w4 ⟨R, rfl, hall⟩
    have HA := Lib.hid hall
    clear hall HN
    go_wp2_with fail
    refine HA.out.mono ?_
    rintro e w5 ⟨v5, rfl, h5, h6⟩
    have H5 := Lib.hid h5
    have H6 := Lib.hid h6
    clear h5 h6 HA
    go_wp2
    go_ret2
    exact ⟨v5, rfl, H5.out, H6.out⟩
  · clear h
    have hown : (w.alloc (.cells #[] 5)).ownsRow w.heap.size 5 1 (.slice (some ⟨w.heap.size, 0, none⟩) 0 0) 0 [] :=
      ⟨rfl, .inr ⟨w.heap.size, 0, #[], rfl, Nat.le_refl _, heap_alloc_new _ _, Nat.le_refl _, Nat.zero_le _, rfl, rfl⟩⟩
    have HN := Lib.hid (fun j u (hj : (Lib.byteCells src)[j]? = some u) => below_cell (w := w) (w' := w.alloc (.cells #[] 5)) ((Below.refl _ _).alloc (Nat.le_refl _) _) _ _ (hnews j u hj))
    have hl1 : (Lib.byteCells src).length = src.length * 1 := by simp [byteCells_length]
    have hsz : w.heap.size ≤ (w.alloc (.cells #[] 5)).heap.size := by rw [World.size_alloc]; omega
    clear hnews
    go_enter Tryd.func9, Tryd.ntmps9
    go_wp2_with (at_builtin; refine wpList_append_own _ rfl (.tmp 4) (.tmp 5) 22 rfl w.heap.size 5 i0 (.int .u8 0) 1 1 Tryd.underlying22 hi hz0 hz1 hz2 rfl (by decide) _ _ _ rfl hown ad src.length cap1 (Lib.byteCells src) rfl hl1 HN.out (Lib.byteCells_one _) (by unfold maxLen; omega) (by omega) hsz ?_; intro v' w2 hown' hgrow hnil; have hcp := copied_own hown' hgrow (fun e => by have := (hnil.1 e).1; cases this); obtain ⟨g, cap2, rfl, -⟩ := id hcp; have HCP := Lib.hid hcp; clear hown' hgrow hnil hcp)
    go_wp2_with fail
    refine newBytes_any.mono ?_
    rintro e w3 ⟨rfl, hw3⟩
    have HN3 := Lib.hid (HC.out _ _ HCP.out)
    rw [hw3] at HN3
    clear HC hw3 HCP
    go_wp2_with fail
    refine HN3.out.mono ?_
    rintro e w4 ⟨R, rfl, hall⟩
    have HA := Lib.hid hall
    clear hall HN3
    go_wp2_with fail
    refine HA.out.mono ?_
    rintro e w5 ⟨v5, rfl, h5, h6⟩
    have H5 := Lib.hid h5
    have H6 := Lib.hid h6
    clear h5 h6 HA
    go_wp2
    go_ret2
    exact ⟨v5, rfl, H5.out, H6.out⟩
theorem Decode_any {w : World} {ea fa ua : Addr} {v : Value} {src out : List UInt8} {code : Nat} (hen : Env0 ea fa ua w) (h : Bs w v src) (hE : EofAt w ea) (hea : ea.block < w.heap.size) (hdec : Qp.decode src = (out, code)) (hlim : src.length ≤ 140737488355000) :
    Calls Tryd.prog 9 #[v] w (DecPost out code w) := (Decode_own hen h hE hea hdec hlim).mono fun _ _ h => h.post
end Go.Proofs.YtcbolmendjocbaaDoor

/- What lies at the start of FnRawReads: errors and tables, out of the row's list of variables. -/
import Derived.Test.YtcbolmendjocbaaDoorCm3
import Derived.Lib.LaidU8T
namespace Go.Proofs.YtcbolmendjocbaaDoor
open Go.ChangeShapes Go.WideShapes Go.ChangeAt Go.RowKit Qp

/-- the tables' numbers -/
def tabRen : Go.Shelf.Ren := ⟨fun n => n, fun | 5 => 5 | 119 => 93 | 138 => 95 | 139 => 96 | n => n, fun | 3 => 6 | 4 => 7 | n => n⟩
set_option maxRecDepth 1000000 in
theorem tabs_of_laid {W : World} (h : laidMet Tryd.prog laidL W) : Lib.Utf8Tabs 6 7 W :=
  utf8Tabs_of_readsT (P := Tryd.prog) (ρ := tabRen) ⟨Tryd.underlying5, Tryd.underlying93, Tryd.underlying95, Tryd.underlying96⟩ ⟨by kernel_rfl, by kernel_rfl, by kernel_rfl, by kernel_rfl, by kernel_rfl, by kernel_rfl, by kernel_rfl⟩
    (Lib.laidMet.reads h (.tail _ (.tail _ (.tail _ (.tail _ (.tail _ (.tail _ (.head _)))))))) (Lib.laidMet.reads h (.head _))

/-- an error variable of the row: what it holds, and where it lies -/
theorem err_row {n : String} {text : List UInt8} {r : List (String × DataW Unit)} {W : World} {g : Nat} {ps : List MemPlace}
    (h : DataW.LaidVars Tryd.prog W ((n, .iface nameE (.ptr (.agg [.lit (.string text)]))) :: r) ps)
    (hrows : ∀ b off, MemPlace.cell b off ∈ ps → (∃ c t, W.heap[b]? = some (.cells c t (0, 0))) ∧ ∀ u v, W.cell? ⟨b, off, none⟩ = some (.iface u v) → Value.okWide Tryd.prog W .any 0 u v)
    (hg : Tryd.prog.globalNamed n = some g) (ht : (Tryd.prog.globals[g]?).map (·.type) = some 46) :
    ∃ (a : Addr) (x : Value) (pre q : List MemPlace), W.cell? ⟨g, 0, none⟩ = some (eofv a) ∧ W.cell? a = some x ∧ ps = pre ++ (MemPlace.row a 1 ++ q) ∧ DataW.LaidVars Tryd.prog W r q := by
  obtain ⟨g0, t0, cs0, f0, p0, q0, hg0, ht0, hv0, hd0, hr, e0⟩ := h
  obtain rfl := Option.some.inj (hg.symm.trans hg0)
  obtain rfl := Option.some.inj (ht.symm.trans ht0)
  subst e0
  obtain ⟨l0⟩ := cs0
  have ok0 : ∀ u v, l0 = [.iface u v] → Value.okWide Tryd.prog W .any 0 u v := fun u v e => by
    subst e
    exact (hrows g 0 (by simp [MemPlace.row])).2 u v (by simpa using World.var?_cell hg0 hv0 0)
  obtain ⟨a0, s0, rfl, hc0, -, -, hp⟩ := errorString_of_trod Tryd.underlying46 rowE Tryd.underlying84 Tryd.underlying86 rfl rfl Tryd.underlying9 cellsE cellsS hd0 ok0
  subst hp
  exact ⟨a0, _, MemPlace.row ⟨g, 0, none⟩ 1, q0, by simpa [eofv] using World.var?_cell hg0 hv0 0, hc0, by simp [List.append_assoc], hr⟩
theorem LaidVars_tail {W : World} {x : String × DataW Unit} {r : List (String × DataW Unit)} {ps : List MemPlace} (h : DataW.LaidVars Tryd.prog W (x :: r) ps) : ∃ pre q, ps = pre ++ q ∧ DataW.LaidVars Tryd.prog W r q := by
  obtain ⟨n, d⟩ := x
  obtain ⟨g, t, cs, f, p, q, -, -, -, -, hr, rfl⟩ := h
  exact ⟨_, q, rfl, hr⟩
theorem row_mem (a : Addr) : MemPlace.cell a.block a.off ∈ MemPlace.row a 1 := by simp [MemPlace.row]
theorem place_ne {a b : Addr} {q : List MemPlace} (h : (MemPlace.row a 1 ++ q).Nodup) (hb : MemPlace.cell b.block b.off ∈ q) : a ≠ b := fun e => by
  subst e
  exact (List.nodup_append.1 h).2.2 _ (row_mem a) _ hb rfl
theorem gU : Tryd.prog.globalNamed "io.ErrUnexpectedEOF" = some 2 := by kernel_rfl
theorem gUType : (Tryd.prog.globals[2]?).map (·.type) = some 46 := by kernel_rfl
theorem gF : Tryd.prog.globalNamed "bufio.ErrBufferFull" = some 1 := by kernel_rfl
theorem gFType : (Tryd.prog.globals[1]?).map (·.type) = some 46 := by kernel_rfl
/-- ALL THAT LIES AT THE START -/
theorem env_of_laid {W : World} (h : laidMetH Tryd.prog laidL W) : ∃ ea fa ua, EofW W ea ∧ Env0 ea fa ua W := by
  rw [MakeChecks.laidMetH_plain _ _ _ (by kernel_rfl)] at h
  have htab := tabs_of_laid h
  obtain ⟨ps, hv, hnd, hrows⟩ := h
  obtain ⟨p1, q1, rfl, v1⟩ := LaidVars_tail hv
  have r1 := fun b off (hm : MemPlace.cell b off ∈ q1) => hrows b off (List.mem_append_right _ hm)
  have n1 := (List.nodup_append.1 hnd).2.1
  obtain ⟨ea, xe, p2, q2, ce, cxe, rfl, v2⟩ := err_row v1 r1 gE gEType
  have n2 := (List.nodup_append.1 n1).2.1
  have r2 := fun b off (hm : MemPlace.cell b off ∈ q2) => r1 b off (List.mem_append_right _ (List.mem_append_right _ hm))
  obtain ⟨ua, xu, p3, q3, cu, cxu, rfl, v3⟩ := err_row v2 r2 gU gUType
  have r3 := fun b off (hm : MemPlace.cell b off ∈ q3) => r2 b off (List.mem_append_right _ (List.mem_append_right _ hm))
  obtain ⟨p4, q4, rfl, v4⟩ := LaidVars_tail v3
  have r4 := fun b off (hm : MemPlace.cell b off ∈ q4) => r3 b off (List.mem_append_right _ hm)
  obtain ⟨fa, xf, p5, q5, cf, cxf, rfl, -⟩ := err_row v4 r4 gF gFType
  have hue : ea ≠ ua := place_ne n2 (List.mem_append_right _ (List.mem_append_left _ (row_mem ua)))
  have hfe : ea ≠ fa := place_ne n2 (List.mem_append_right _ (List.mem_append_right _ (List.mem_append_right _ (List.mem_append_right _ (List.mem_append_left _ (row_mem fa))))))
  refine ⟨ea, fa, ua, ⟨ce, cell_lt cxe⟩, cf, cu, ⟨fun e => hfe e.symm, ?_⟩, ⟨fun e => hue e.symm, ?_⟩, ⟨_, cxe⟩, htab⟩
  · exact (r4 _ _ (List.mem_append_right _ (List.mem_append_left _ (row_mem fa)))).1
  · exact (r2 _ _ (List.mem_append_right _ (List.mem_append_left _ (row_mem ua)))).1
end Go.Proofs.YtcbolmendjocbaaDoor

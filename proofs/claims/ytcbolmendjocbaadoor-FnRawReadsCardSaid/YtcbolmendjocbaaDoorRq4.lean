/- The Reader's round that reads a line, up to the test whether it ends with an equals sign (printed by genread.py). -/
import Derived.Test.YtcbolmendjocbaaDoorRq1
import Derived.Test.YtcbolmendjocbaaDoorRtr
import Derived.Deep.Cut
namespace Go.Proofs.YtcbolmendjocbaaDoor
open Go.RowKit Qp

/-- the test on slot 73, and what hangs on it -/
def cond73 : Code → Option Code
  | .cond (.tmp 73) a b => some (.cond (.tmp 73) a b)
  | .cond _ a b => match cond73 a with
    | some c => some c
    | none => cond73 b
  | .loop c => cond73 c
  | .seq a b => match cond73 a with
    | some c => some c
    | none => cond73 b
  | .block _ c => cond73 c
  | .scope c => cond73 c
  | _ => none
noncomputable def rcond : Code := (cond73 rbody).getD .skip

/-- a line has been read: it lies in the buffer, and the Reader's line is v -/
structure Lined (R Bu Bf a L cap : Nat) (whole : List UInt8) (ev : Value) (w : World) (v : Value) : Prop where
  rdr : RdrAt w R Bu ev v
  bs : Bs w (.slice (some ⟨Bf, a, none⟩) L cap) whole
theorem Lined.cells {R Bu Bf a L cap : Nat} {whole : List UInt8} {ev v : Value} {w : World} (h : Lined R Bu Bf a L cap whole ev w v) :
    w.cell? ⟨R, 0, none⟩ = some (.pointer (some ⟨Bu, 0, none⟩)) ∧ w.cell? ⟨R, 1, none⟩ = some ev ∧ w.cell? ⟨R, 2, none⟩ = some v ∧ w.frozen? ⟨R, 1, none⟩ = false ∧ w.frozen? ⟨R, 2, none⟩ = false := by
  obtain ⟨h0, h1, h2, h3, h4, h5⟩ := cells3 h.rdr
  exact ⟨h0, h1, h2, h4, h5⟩
theorem Lined.keep {S : Nat → Prop} {R Bu Bf a L cap : Nat} {whole : List UInt8} {ev v : Value} {w w' : World} (h : Lined R Bu Bf a L cap whole ev w v) (hk : Keep S w w') (h1 : ¬ S R) (h2 : ¬ S Bf) : Lined R Bu Bf a L cap whole ev w' v :=
  ⟨h.rdr.keep hk h1, h.bs.keepS hk (fun g e => by injection e with e; subst e; exact h2)⟩
theorem Lined.line {R Bu Bf a L cap : Nat} {whole : List UInt8} {ev v : Value} {w : World} (h : Lined R Bu Bf a L cap whole ev w v) (hne : Bf ≠ R) (v' : Value) : Lined R Bu Bf a L cap whole ev (w.setCell ⟨R, 2, none⟩ v') v' :=
  ⟨h.rdr.line v', h.bs.keepS ((Keep.refl (fun b => b = R) w).setCell _ rfl _) (fun g e => by injection e with e; subst e; exact hne)⟩
theorem Lined.serr {R Bu Bf a L cap : Nat} {whole : List UInt8} {ev v : Value} {w : World} (h : Lined R Bu Bf a L cap whole ev w v) (hne : Bf ≠ R) (ev' : Value) : Lined R Bu Bf a L cap whole ev' (w.setCell ⟨R, 1, none⟩ ev') v :=
  ⟨h.rdr.serr ev', h.bs.keepS ((Keep.refl (fun b => b = R) w).setCell _ rfl _) (fun g e => by injection e with e; subst e; exact hne)⟩

/-- ReadSlice has given a line -/
def LineIn (R Bu Bf : Nat) (ev' : Value) (whole : List UInt8) (G : Nat → Nat → World → Prop) (_wr : World) (e : Ending) (w1 : World) : Prop :=
  ∃ a cap, e = .returned (.tuple #[.slice (some ⟨Bf, a, none⟩) whole.length cap, ev']) ∧ (∃ lv, RdrAt w1 R Bu .nilIface lv) ∧ Bs w1 (.slice (some ⟨Bf, a, none⟩) whole.length cap) whole ∧ G a cap w1

theorem rstrip_take (p : UInt8 → Bool) (l : List UInt8) : rstrip p l = l.take (rstrip p l).length := by
  obtain ⟨w, h, _, _⟩ := rstrip_split p l
  conv => rhs; arg 2; rw [h]
  rw [List.take_left' rfl]

theorem tabs_keep {S : Nat → Prop} {g1 g2 : Nat} {w w' : World} (h : Lib.Utf8Tabs g1 g2 w) (hk : Keep S w w') (n1 : ¬ S g1) (n2 : ¬ S g2) : Lib.Utf8Tabs g1 g2 w' :=
  ⟨fun c hc => hk.cell n1 (h.1 c hc), fun i hi => ⟨hk.cell n2 (h.2 i hi).1, hk.cell n2 (h.2 i hi).2⟩⟩

section
variable {k : Bool} {ea : Addr} {R Bu Bf s D P po m mc : Nat} {pb out : List UInt8} {code : Nat} {w wr : World} {gk : Nat}

set_option maxRecDepth 1000000 in
set_option maxHeartbeats 6400000 in
theorem fill_prefix (K : Act → World → Prop) (Q : Exit → Act → World → Prop) (u5 u6 u7 u8 u9 u10 u11 u12 u13 u14 u15 u16 u17 u18 u19 u20 u21 u22 u23 u24 u25 u26 u27 u28 u29 u30 u31 u32 u33 u34 u35 u36 u37 u38 u39 u40 u41 u42 u43 u44 u45 u46 u47 u48 u49 u50 u51 u52 u53 u54 u55 u56 u57 u58 u59 u60 u61 u62 u63 u64 u65 u66 u67 u68 u69 u70 u71 u72 u73 u74 u75 u76 u77 u78 u79 u80 u81 u82 u83 u84 u85 u86 u87 u88 u89 u90 u91 u92 u93 u94 u95 u96 u97 u98 u99 u100 u101 u102 u103 u104 u105 u106 u107 u108 u109 u110 u111 u112 u113 u114 u115 u116 u117 u118 u119 u120 u121 u122 u123 u124 u125 u126 u127 u128 u129 u130 u131 u132 u133 u134 u135 u136 u137 u138 u139 u140 u141 u142 u143 u144 u145 u146 u147 u148 u149 u150 u151 u152 u153 u154 u155 u156 u157 u158 u159 u160 u161 u162 u163 u164 u165 u166 u167 u168 u169 u170 u171 u172 u173 u174 u175 u176 u177 u178 u179 u180 u181 u182 u183 u184 u185 u186 u187 u188 u189 u190 u191 u192 u193 u194 u195 u196 u197 u198 u199 u200 u201 u202 u203 u204 u205 u206 u207 u208 u209 u210 u211 u212 u213 u214 u215 u216 u217 u218 u219 u220 u221 u222 u223 u224 u225 u226 u227 u228 u229 u230 u231 u232 u233 u234 u235 u236 u237 u238 u239 u240 u241 u242 u243 u244 u245 : Value) (i μ κ _q lc : Nat) (ap al : Option Addr) (ev' : Value) (evT : TypeId) (evA : Option Addr) (whole : List UInt8) (G : Nat → Nat → World → Prop) (hasLF hasCR has61 : Bool)
    (hK : ∀ (pv nv u5 u6 u7 u8 u9 u10 u11 u12 u13 u14 u15 u16 u17 u18 u19 u20 u21 u22 u23 u24 u25 u26 u27 u28 u29 u30 u31 u32 u33 u34 u35 u36 u37 u38 u39 u40 u41 u42 u43 u44 u45 u46 u47 u48 u49 u50 u51 u52 u53 u54 u55 u56 u57 u58 u59 u60 u61 u62 u63 u64 u65 u66 u67 u68 u69 u70 u71 u72 u73 u74 u75 u76 u77 u78 u79 u80 u81 u82 u83 u84 u85 u86 u87 u88 u89 u90 u91 u92 u93 u94 u95 u96 u97 u98 u99 u100 u101 u102 u103 u104 u105 u106 u107 u108 u109 u110 u111 u112 u113 u114 u115 u116 u117 u118 u119 u120 u121 u122 u123 u124 u125 u126 u127 u128 u129 u130 u131 u132 u133 u134 u135 u136 u137 u138 u139 u140 u141 u142 u143 u144 u145 u146 u147 u148 u149 u150 u151 u152 u153 u154 u155 u156 u157 u158 u159 u160 u161 u162 u163 u164 u165 u166 u167 u168 u169 u170 u171 u172 u173 u174 u175 u176 u177 u178 u179 u180 u181 u182 u183 u184 u185 u186 u187 u188 u189 u190 u191 u192 u193 u194 u195 u196 u197 u198 u199 u200 u201 u202 u203 u204 u205 u206 u207 u208 u209 u210 u211 u212 u213 u214 u215 u216 u217 u218 u219 u220 u221 u222 u223 u224 u225 u226 u227 u228 u229 u230 u231 u232 u233 u234 u235 u236 u237 u238 u239 u240 u241 u242 u243 u244 u245 : Value) (w' : World), RdNext k ea R Bu Bf s D P po m mc pb out code w gk pv nv w' → K ⟨#[Value.pointer (some ⟨R, 0, none⟩), pv, undef, undef, nv, u5, u6, u7, u8, u9, u10, u11, u12, u13, u14, u15, u16, u17, u18, u19, u20, u21, u22, u23, u24, u25, u26, u27, u28, u29, u30, u31, u32, u33, u34, u35, u36, u37, u38, u39, u40, u41, u42, u43, u44, u45, u46, u47, u48, u49, u50, u51, u52, u53, u54, u55, u56, u57, u58, u59, u60, u61, u62, u63, u64, u65, u66, u67, u68, u69, u70, u71, u72, u73, u74, u75, u76, u77, u78, u79, u80, u81, u82, u83, u84, u85, u86, u87, u88, u89, u90, u91, u92, u93, u94, u95, u96, u97, u98, u99, u100, u101, u102, u103, u104, u105, u106, u107, u108, u109, u110, u111, u112, u113, u114, u115, u116, u117, u118, u119, u120, u121, u122, u123, u124, u125, u126, u127, u128, u129, u130, u131, u132, u133, u134, u135, u136, u137, u138, u139, u140, u141, u142, u143, u144, u145, u146, u147, u148, u149, u150, u151, u152, u153, u154, u155, u156, u157, u158, u159, u160, u161, u162, u163, u164, u165, u166, u167, u168, u169, u170, u171, u172, u173, u174, u175, u176, u177, u178, u179, u180, u181, u182, u183, u184, u185, u186, u187, u188, u189, u190, u191, u192, u193, u194, u195, u196, u197, u198, u199, u200, u201, u202, u203, u204, u205, u206, u207, u208, u209, u210, u211, u212, u213, u214, u215, u216, u217, u218, u219, u220, u221, u222, u223, u224, u225, u226, u227, u228, u229, u230, u231, u232, u233, u234, u235, u236, u237, u238, u239, u240, u241, u242, u243, u244, u245, undef], []⟩ w')
    (c0 : wr.cell? ⟨R, 0, none⟩ = some (.pointer (some ⟨Bu, 0, none⟩))) (c1 : wr.cell? ⟨R, 1, none⟩ = some .nilIface) (c2 : wr.cell? ⟨R, 2, none⟩ = some (.slice al 0 lc)) (hμ : 1 ≤ μ)
    (hev : ev' = .nilIface ∨ ev' = .iface evT (.pointer evA)) (htabs : ∀ a cap w1, G a cap w1 → Lib.Utf8Tabs 6 7 w1) (hgr1 : R ≠ 6) (hgr2 : R ≠ 7) (hne : Bf ≠ R)
    (hLF : ([10] : List UInt8).isSuffixOf whole = hasLF) (hCR : ([13, 10] : List UInt8).isSuffixOf whole = hasCR) (h61 : ([61] : List UInt8).isSuffixOf (rstrip isSp whole) = has61)
    (hrs : Calls Tryd.prog 20 #[.pointer (some ⟨Bu, 0, none⟩), .int .u8 10] wr (LineIn R Bu Bf ev' whole G wr))
    (hT : ∀ (K' : Act → World → Prop) (Q' : Exit → Act → World → Prop) (_ : ∀ (pv nv u5 u6 u7 u8 u9 u10 u11 u12 u13 u14 u15 u16 u17 u18 u19 u20 u21 u22 u23 u24 u25 u26 u27 u28 u29 u30 u31 u32 u33 u34 u35 u36 u37 u38 u39 u40 u41 u42 u43 u44 u45 u46 u47 u48 u49 u50 u51 u52 u53 u54 u55 u56 u57 u58 u59 u60 u61 u62 u63 u64 u65 u66 u67 u68 u69 u70 u71 u72 u73 u74 u75 u76 u77 u78 u79 u80 u81 u82 u83 u84 u85 u86 u87 u88 u89 u90 u91 u92 u93 u94 u95 u96 u97 u98 u99 u100 u101 u102 u103 u104 u105 u106 u107 u108 u109 u110 u111 u112 u113 u114 u115 u116 u117 u118 u119 u120 u121 u122 u123 u124 u125 u126 u127 u128 u129 u130 u131 u132 u133 u134 u135 u136 u137 u138 u139 u140 u141 u142 u143 u144 u145 u146 u147 u148 u149 u150 u151 u152 u153 u154 u155 u156 u157 u158 u159 u160 u161 u162 u163 u164 u165 u166 u167 u168 u169 u170 u171 u172 u173 u174 u175 u176 u177 u178 u179 u180 u181 u182 u183 u184 u185 u186 u187 u188 u189 u190 u191 u192 u193 u194 u195 u196 u197 u198 u199 u200 u201 u202 u203 u204 u205 u206 u207 u208 u209 u210 u211 u212 u213 u214 u215 u216 u217 u218 u219 u220 u221 u222 u223 u224 u225 u226 u227 u228 u229 u230 u231 u232 u233 u234 u235 u236 u237 u238 u239 u240 u241 u242 u243 u244 u245 : Value) (w' : World), RdNext k ea R Bu Bf s D P po m mc pb out code w gk pv nv w' → K' ⟨#[Value.pointer (some ⟨R, 0, none⟩), pv, undef, undef, nv, u5, u6, u7, u8, u9, u10, u11, u12, u13, u14, u15, u16, u17, u18, u19, u20, u21, u22, u23, u24, u25, u26, u27, u28, u29, u30, u31, u32, u33, u34, u35, u36, u37, u38, u39, u40, u41, u42, u43, u44, u45, u46, u47, u48, u49, u50, u51, u52, u53, u54, u55, u56, u57, u58, u59, u60, u61, u62, u63, u64, u65, u66, u67, u68, u69, u70, u71, u72, u73, u74, u75, u76, u77, u78, u79, u80, u81, u82, u83, u84, u85, u86, u87, u88, u89, u90, u91, u92, u93, u94, u95, u96, u97, u98, u99, u100, u101, u102, u103, u104, u105, u106, u107, u108, u109, u110, u111, u112, u113, u114, u115, u116, u117, u118, u119, u120, u121, u122, u123, u124, u125, u126, u127, u128, u129, u130, u131, u132, u133, u134, u135, u136, u137, u138, u139, u140, u141, u142, u143, u144, u145, u146, u147, u148, u149, u150, u151, u152, u153, u154, u155, u156, u157, u158, u159, u160, u161, u162, u163, u164, u165, u166, u167, u168, u169, u170, u171, u172, u173, u174, u175, u176, u177, u178, u179, u180, u181, u182, u183, u184, u185, u186, u187, u188, u189, u190, u191, u192, u193, u194, u195, u196, u197, u198, u199, u200, u201, u202, u203, u204, u205, u206, u207, u208, u209, u210, u211, u212, u213, u214, u215, u216, u217, u218, u219, u220, u221, u222, u223, u224, u225, u226, u227, u228, u229, u230, u231, u232, u233, u234, u235, u236, u237, u238, u239, u240, u241, u242, u243, u244, u245, undef], []⟩ w')
      (a cap : Nat) (u5 u9 u10 u11 u12 u13 u14 u15 u16 u17 u18 u19 u20 u21 u22 u23 u24 u25 u26 u27 u28 u29 u30 u31 u32 u33 u34 u35 u36 u37 u38 u39 u40 u41 u42 u43 u44 u45 u46 u47 u48 u49 u50 u51 u52 u53 u54 u55 u56 u57 u58 u59 u60 u61 u62 u63 u64 u65 u66 u67 u68 u69 u70 u71 u72 u74 u75 u76 u77 u78 u79 u80 u81 u82 u83 u84 u85 u86 u87 u88 u89 u90 u91 u92 u93 u94 u95 u96 u97 u98 u99 u100 u101 u102 u103 u104 u105 u106 u107 u108 u109 u110 u111 u112 u113 u114 u115 u116 u117 u118 u119 u120 u121 u122 u123 u124 u125 u126 u127 u128 u129 u130 u131 u132 u133 u134 u135 u136 u137 u138 u139 u140 u141 u142 u143 u144 u145 u146 u147 u148 u149 u150 u151 u152 u153 u154 u155 u156 u157 u158 u159 u160 u161 u162 u163 u164 u165 u166 u167 u168 u169 u170 u171 u172 u173 u174 u175 u176 u177 u178 u179 u180 u181 u182 u183 u184 u185 u186 u187 u188 u189 u190 u191 u192 u193 u194 u195 u196 u197 u198 u199 u200 u201 u202 u203 u204 u205 u206 u207 u208 u209 u210 u211 u212 u213 u214 u215 u216 u217 u218 u219 u220 u221 u222 u223 u224 u225 u226 u227 u228 u229 u230 u231 u232 u233 u234 u235 u236 u237 u238 u239 u240 u241 u242 u243 u244 u245 : Value) (w1 w6 : World), G a cap w1 → Keep (fun b => b = R) w1 w6 → Lined R Bu Bf a whole.length cap whole ev' w6 (.slice (some ⟨Bf, a, none⟩) (rstrip isSp whole).length cap) →
      Code.wp Tryd.prog rcond (Exit.then K' Q') ⟨#[Value.pointer (some ⟨R, 0, none⟩), .slice ap μ κ, undef, undef, .int .i64 i, u5, .bool hasLF, .bool hasCR, .slice (some ⟨Bf, a, none⟩) whole.length cap, u9, u10, u11, u12, u13, u14, u15, u16, u17, u18, u19, u20, u21, u22, u23, u24, u25, u26, u27, u28, u29, u30, u31, u32, u33, u34, u35, u36, u37, u38, u39, u40, u41, u42, u43, u44, u45, u46, u47, u48, u49, u50, u51, u52, u53, u54, u55, u56, u57, u58, u59, u60, u61, u62, u63, u64, u65, u66, u67, u68, u69, u70, u71, u72, .bool has61, u74, u75, u76, u77, u78, u79, u80, u81, u82, u83, u84, u85, u86, u87, u88, u89, u90, u91, u92, u93, u94, u95, u96, u97, u98, u99, u100, u101, u102, u103, u104, u105, u106, u107, u108, u109, u110, u111, u112, u113, u114, u115, u116, u117, u118, u119, u120, u121, u122, u123, u124, u125, u126, u127, u128, u129, u130, u131, u132, u133, u134, u135, u136, u137, u138, u139, u140, u141, u142, u143, u144, u145, u146, u147, u148, u149, u150, u151, u152, u153, u154, u155, u156, u157, u158, u159, u160, u161, u162, u163, u164, u165, u166, u167, u168, u169, u170, u171, u172, u173, u174, u175, u176, u177, u178, u179, u180, u181, u182, u183, u184, u185, u186, u187, u188, u189, u190, u191, u192, u193, u194, u195, u196, u197, u198, u199, u200, u201, u202, u203, u204, u205, u206, u207, u208, u209, u210, u211, u212, u213, u214, u215, u216, u217, u218, u219, u220, u221, u222, u223, u224, u225, u226, u227, u228, u229, u230, u231, u232, u233, u234, u235, u236, u237, u238, u239, u240, u241, u242, u243, u244, u245, undef], []⟩ w6) :
    Code.wp Tryd.prog rbody (Exit.then K Q) ⟨#[Value.pointer (some ⟨R, 0, none⟩), .slice ap μ κ, undef, undef, .int .i64 i, u5, u6, u7, u8, u9, u10, u11, u12, u13, u14, u15, u16, u17, u18, u19, u20, u21, u22, u23, u24, u25, u26, u27, u28, u29, u30, u31, u32, u33, u34, u35, u36, u37, u38, u39, u40, u41, u42, u43, u44, u45, u46, u47, u48, u49, u50, u51, u52, u53, u54, u55, u56, u57, u58, u59, u60, u61, u62, u63, u64, u65, u66, u67, u68, u69, u70, u71, u72, u73, u74, u75, u76, u77, u78, u79, u80, u81, u82, u83, u84, u85, u86, u87, u88, u89, u90, u91, u92, u93, u94, u95, u96, u97, u98, u99, u100, u101, u102, u103, u104, u105, u106, u107, u108, u109, u110, u111, u112, u113, u114, u115, u116, u117, u118, u119, u120, u121, u122, u123, u124, u125, u126, u127, u128, u129, u130, u131, u132, u133, u134, u135, u136, u137, u138, u139, u140, u141, u142, u143, u144, u145, u146, u147, u148, u149, u150, u151, u152, u153, u154, u155, u156, u157, u158, u159, u160, u161, u162, u163, u164, u165, u166, u167, u168, u169, u170, u171, u172, u173, u174, u175, u176, u177, u178, u179, u180, u181, u182, u183, u184, u185, u186, u187, u188, u189, u190, u191, u192, u193, u194, u195, u196, u197, u198, u199, u200, u201, u202, u203, u204, u205, u206, u207, u208, u209, u210, u211, u212, u213, u214, u215, u216, u217, u218, u219, u220, u221, u222, u223, u224, u225, u226, u227, u228, u229, u230, u231, u232, u233, u234, u235, u236, u237, u238, u239, u240, u241, u242, u243, u244, u245, undef], []⟩ wr := by
  have HK := Lib.hid hK
  have HT := Lib.hid hT
  have HRS := Lib.hid hrs
  have HLF := Lib.hid hLF
  have HCR := Lib.hid hCR
  have H61 := Lib.hid h61
  have HTB := Lib.hid htabs
  have HG1 := Lib.hid hgr1
  have HG2 := Lib.hid hgr2
  have HEV := Lib.hid hev
  have hμ1 : (1 : Int) ≤ μ := by omega
  clear hK hT hrs hLF hCR h61 htabs hgr1 hgr2 hev
  conv => arg 2; whnf
  go_wp2_with fail
  refine HRS.out.mono ?_
  rintro e w1 ⟨a, cap, rfl, ⟨lv, hrd⟩, hbs, hG⟩
  have HG := Lib.hid hG
  have HRD := Lib.hid hrd
  have HBS := Lib.hid hbs
  obtain ⟨d0, d1, d2, g0, g1, g2⟩ := cells3 hrd
  have kc1 := kconst ((w1.setCell ⟨R, 2, none⟩ (.slice (some ⟨Bf, a, none⟩) whole.length cap)).setCell ⟨R, 1, none⟩ ev') w1.heap.size 1 1 2 (by simp) #[.int .u8 10] rfl rfl
  clear HRS hG hrd hbs c0 c1 c2
  rcases HEV.out with rfl | rfl
  · dsimp only
    go_wp2_with fail
    have L1 : Lined R Bu Bf a whole.length cap whole .nilIface w1 lv := ⟨HRD.out, HBS.out⟩
    have L2 := (L1.line hne (.slice (some ⟨Bf, a, none⟩) whole.length cap)).serr hne .nilIface
    have k2 : Keep (fun b => b = R) w1 ((w1.setCell ⟨R, 2, none⟩ (.slice (some ⟨Bf, a, none⟩) whole.length cap)).setCell ⟨R, 1, none⟩ .nilIface) := ((Keep.refl (fun b => b = R) w1).setCell ⟨R, 2, none⟩ rfl _).setCell ⟨R, 1, none⟩ rfl _
    have k3 := k2.alloc (.cells #[.int .u8 10] 5 (1, 2))
    have L3 := L2.keep ((Keep.refl (fun _ => False) ((w1.setCell ⟨R, 2, none⟩ (.slice (some ⟨Bf, a, none⟩) whole.length cap)).setCell ⟨R, 1, none⟩ .nilIface)).alloc (.cells #[.int .u8 10] 5 (1, 2))) id id
    have hs1 := hasSuffix_bs L3.bs (lit_bs ((w1.setCell ⟨R, 2, none⟩ (.slice (some ⟨Bf, a, none⟩) whole.length cap)).setCell ⟨R, 1, none⟩ .nilIface) [10] (1, 2) 1 rfl (by omega) #[.int .u8 10] rfl)
    rw [show ((w1.setCell ⟨R, 2, none⟩ (.slice (some ⟨Bf, a, none⟩) whole.length cap)).setCell ⟨R, 1, none⟩ .nilIface).heap.size = w1.heap.size by simp, HLF.out] at hs1
    refine hs1.mono ?_
    rintro e w3 ⟨rfl, hw3⟩
    dsimp only
    rw [hw3] at L3 k3
    clear hs1 hw3 L1 L2 k2 kc1 d0 d1 d2 g0 g1 g2 HRD HBS
    obtain ⟨c0, c1, c2, f1, f2⟩ := L3.cells
    have kc2 := kconst w3 w3.heap.size 2 2 3 rfl #[.int .u8 13, .int .u8 10] rfl rfl
    have hs2 := hasSuffix_bs (L3.keep ((Keep.refl (fun _ => False) w3).alloc (.cells #[.int .u8 13, .int .u8 10] 5 (2, 3))) id id).bs (lit_bs w3 [13, 10] (2, 3) 2 rfl (by omega) #[.int .u8 13, .int .u8 10] rfl)
    rw [HCR.out] at hs2
    have k4 := k3.alloc (.cells #[.int .u8 13, .int .u8 10] 5 (2, 3))
    have L4 := L3.keep ((Keep.refl (fun _ => False) w3).alloc (.cells #[.int .u8 13, .int .u8 10] 5 (2, 3))) id id
    have HS2 := Lib.hid hs2
    have HK4 := Lib.hid k4
    have HL4 := Lib.hid L4
    clear hs2 k4 L4 k3 L3
    go_wp2_with fail
    refine HS2.out.mono ?_
    rintro e w4 ⟨rfl, hw4⟩
    dsimp only
    have k4 := HK4.out
    have L4 := HL4.out
    rw [hw4] at k4 L4
    clear HS2 HK4 HL4 hw4 kc2 c0 c1 c2 f1 f2
    obtain ⟨c0, c1, c2, f1, f2⟩ := L4.cells
    obtain ⟨-, hcap, hcapm, hcell⟩ := bs_at L4.bs
    have ht := trimR_all (b := Bf) (off := a) (n := whole.length) (cap := cap) (w := w4) (l := whole) rfl hcap hcapm (fun j hj => by
      obtain ⟨b', o', e1, e2⟩ := hcell (by rintro rfl; simp at hj)
      injection e1 with e1
      injection e1 with e3 e4
      subst e3; subst e4
      exact e2 j hj) (tabs_keep (HTB.out _ _ _ HG.out) k4 (fun e => HG1.out e.symm) (fun e => HG2.out e.symm))
    unfold isQPv at ht
    have HTR := Lib.hid ht
    have HK4 := Lib.hid k4
    have HL4 := Lib.hid L4
    clear ht hcell hcap hcapm k4 L4
    go_wp2_with fail
    refine HTR.out.mono ?_
    rintro e w5 ⟨rfl, hb5⟩
    dsimp only
    have k4 := HK4.out.trans (Keep.new (S := fun _ => False) hb5) (fun _ _ h => h.elim)
    have L4 := HL4.out.keep (Keep.new (S := fun _ => False) hb5) id id
    clear HTR HK4 HL4 hb5 c0 c1 c2 f1 f2
    obtain ⟨c0, c1, c2, f1, f2⟩ := L4.cells
    have kc3 := kconst (w5.setCell ⟨R, 2, none⟩ (.slice (some ⟨Bf, a, none⟩) (rstrip isSp whole).length cap)) w5.heap.size 1 1 2 (by simp) #[.int .u8 61] rfl rfl
    have L5 := L4.line hne (.slice (some ⟨Bf, a, none⟩) (rstrip isSp whole).length cap)
    have k5 := k4.setCell ⟨R, 2, none⟩ rfl (.slice (some ⟨Bf, a, none⟩) (rstrip isSp whole).length cap)
    have k6 := k5.alloc (.cells #[.int .u8 61] 5 (1, 2))
    have L6 := L5.keep ((Keep.refl (fun _ => False) (w5.setCell ⟨R, 2, none⟩ (.slice (some ⟨Bf, a, none⟩) (rstrip isSp whole).length cap))).alloc (.cells #[.int .u8 61] 5 (1, 2))) id id
    have hb6 := Bs.take L6.bs (rstrip isSp whole).length (rstrip_len isSp whole)
    rw [← rstrip_take] at hb6
    have hs3 := hasSuffix_bs hb6 (lit_bs (w5.setCell ⟨R, 2, none⟩ (.slice (some ⟨Bf, a, none⟩) (rstrip isSp whole).length cap)) [61] (1, 2) 1 rfl (by omega) #[.int .u8 61] rfl)
    rw [show (w5.setCell ⟨R, 2, none⟩ (.slice (some ⟨Bf, a, none⟩) (rstrip isSp whole).length cap)).heap.size = w5.heap.size by simp, H61.out] at hs3
    have HS3 := Lib.hid hs3
    have HK6 := Lib.hid k6
    have HL6 := Lib.hid L6
    clear hs3 k6 L6 hb6 k5 L5 k4 L4
    go_wp2_with fail
    refine HS3.out.mono ?_
    rintro e w6 ⟨rfl, hw6⟩
    dsimp only
    have k6 := HK6.out
    have L6 := HL6.out
    rw [hw6] at k6 L6
    clear HS3 HK6 HL6 hw6 kc3 c0 c1 c2 f1 f2
    go_upto_if 73 with (fail)
    refine HT.out _ _ ?_ a cap _ _ _ _ _ _ _ _ _ _ _ _ _ _ _ _ _ _ _ _ _ _ _ _ _ _ _ _ _ _ _ _ _ _ _ _ _ _ _ _ _ _ _ _ _ _ _ _ _ _ _ _ _ _ _ _ _ _ _ _ _ _ _ _ _ _ _ _ _ _ _ _ _ _ _ _ _ _ _ _ _ _ _ _ _ _ _ _ _ _ _ _ _ _ _ _ _ _ _ _ _ _ _ _ _ _ _ _ _ _ _ _ _ _ _ _ _ _ _ _ _ _ _ _ _ _ _ _ _ _ _ _ _ _ _ _ _ _ _ _ _ _ _ _ _ _ _ _ _ _ _ _ _ _ _ _ _ _ _ _ _ _ _ _ _ _ _ _ _ _ _ _ _ _ _ _ _ _ _ _ _ _ _ _ _ _ _ _ _ _ _ _ _ _ _ _ _ _ _ _ _ _ _ _ _ _ _ _ _ _ _ _ _ _ _ _ _ _ _ _ _ _ _ _ _ _ _ _ _ _ _ _ _ _ _ _ _ w1 w6 HG.out k6 L6
    intro pv nv u5 u6 u7 u8 u9 u10 u11 u12 u13 u14 u15 u16 u17 u18 u19 u20 u21 u22 u23 u24 u25 u26 u27 u28 u29 u30 u31 u32 u33 u34 u35 u36 u37 u38 u39 u40 u41 u42 u43 u44 u45 u46 u47 u48 u49 u50 u51 u52 u53 u54 u55 u56 u57 u58 u59 u60 u61 u62 u63 u64 u65 u66 u67 u68 u69 u70 u71 u72 u73 u74 u75 u76 u77 u78 u79 u80 u81 u82 u83 u84 u85 u86 u87 u88 u89 u90 u91 u92 u93 u94 u95 u96 u97 u98 u99 u100 u101 u102 u103 u104 u105 u106 u107 u108 u109 u110 u111 u112 u113 u114 u115 u116 u117 u118 u119 u120 u121 u122 u123 u124 u125 u126 u127 u128 u129 u130 u131 u132 u133 u134 u135 u136 u137 u138 u139 u140 u141 u142 u143 u144 u145 u146 u147 u148 u149 u150 u151 u152 u153 u154 u155 u156 u157 u158 u159 u160 u161 u162 u163 u164 u165 u166 u167 u168 u169 u170 u171 u172 u173 u174 u175 u176 u177 u178 u179 u180 u181 u182 u183 u184 u185 u186 u187 u188 u189 u190 u191 u192 u193 u194 u195 u196 u197 u198 u199 u200 u201 u202 u203 u204 u205 u206 u207 u208 u209 u210 u211 u212 u213 u214 u215 u216 u217 u218 u219 u220 u221 u222 u223 u224 u225 u226 u227 u228 u229 u230 u231 u232 u233 u234 u235 u236 u237 u238 u239 u240 u241 u242 u243 u244 u245 w' hnext
    have HN := Lib.hid hnext
    clear hnext L6 k6
    go_wp2
    exact HK.out _ _ _ _ _ _ _ _ _ _ _ _ _ _ _ _ _ _ _ _ _ _ _ _ _ _ _ _ _ _ _ _ _ _ _ _ _ _ _ _ _ _ _ _ _ _ _ _ _ _ _ _ _ _ _ _ _ _ _ _ _ _ _ _ _ _ _ _ _ _ _ _ _ _ _ _ _ _ _ _ _ _ _ _ _ _ _ _ _ _ _ _ _ _ _ _ _ _ _ _ _ _ _ _ _ _ _ _ _ _ _ _ _ _ _ _ _ _ _ _ _ _ _ _ _ _ _ _ _ _ _ _ _ _ _ _ _ _ _ _ _ _ _ _ _ _ _ _ _ _ _ _ _ _ _ _ _ _ _ _ _ _ _ _ _ _ _ _ _ _ _ _ _ _ _ _ _ _ _ _ _ _ _ _ _ _ _ _ _ _ _ _ _ _ _ _ _ _ _ _ _ _ _ _ _ _ _ _ _ _ _ _ _ _ _ _ _ _ _ _ _ _ _ _ _ _ _ _ _ _ _ _ _ _ _ _ _ _ _ _ _ _ _ _ HN.out
  · dsimp only
    go_wp2_with fail
    have L1 : Lined R Bu Bf a whole.length cap whole .nilIface w1 lv := ⟨HRD.out, HBS.out⟩
    have L2 := (L1.line hne (.slice (some ⟨Bf, a, none⟩) whole.length cap)).serr hne (.iface evT (.pointer evA))
    have k2 : Keep (fun b => b = R) w1 ((w1.setCell ⟨R, 2, none⟩ (.slice (some ⟨Bf, a, none⟩) whole.length cap)).setCell ⟨R, 1, none⟩ (.iface evT (.pointer evA))) := ((Keep.refl (fun b => b = R) w1).setCell ⟨R, 2, none⟩ rfl _).setCell ⟨R, 1, none⟩ rfl _
    have k3 := k2.alloc (.cells #[.int .u8 10] 5 (1, 2))
    have L3 := L2.keep ((Keep.refl (fun _ => False) ((w1.setCell ⟨R, 2, none⟩ (.slice (some ⟨Bf, a, none⟩) whole.length cap)).setCell ⟨R, 1, none⟩ (.iface evT (.pointer evA)))).alloc (.cells #[.int .u8 10] 5 (1, 2))) id id
    have hs1 := hasSuffix_bs L3.bs (lit_bs ((w1.setCell ⟨R, 2, none⟩ (.slice (some ⟨Bf, a, none⟩) whole.length cap)).setCell ⟨R, 1, none⟩ (.iface evT (.pointer evA))) [10] (1, 2) 1 rfl (by omega) #[.int .u8 10] rfl)
    rw [show ((w1.setCell ⟨R, 2, none⟩ (.slice (some ⟨Bf, a, none⟩) whole.length cap)).setCell ⟨R, 1, none⟩ (.iface evT (.pointer evA))).heap.size = w1.heap.size by simp, HLF.out] at hs1
    refine hs1.mono ?_
    rintro e w3 ⟨rfl, hw3⟩
    dsimp only
    rw [hw3] at L3 k3
    clear hs1 hw3 L1 L2 k2 kc1 d0 d1 d2 g0 g1 g2 HRD HBS
    obtain ⟨c0, c1, c2, f1, f2⟩ := L3.cells
    have kc2 := kconst w3 w3.heap.size 2 2 3 rfl #[.int .u8 13, .int .u8 10] rfl rfl
    have hs2 := hasSuffix_bs (L3.keep ((Keep.refl (fun _ => False) w3).alloc (.cells #[.int .u8 13, .int .u8 10] 5 (2, 3))) id id).bs (lit_bs w3 [13, 10] (2, 3) 2 rfl (by omega) #[.int .u8 13, .int .u8 10] rfl)
    rw [HCR.out] at hs2
    have k4 := k3.alloc (.cells #[.int .u8 13, .int .u8 10] 5 (2, 3))
    have L4 := L3.keep ((Keep.refl (fun _ => False) w3).alloc (.cells #[.int .u8 13, .int .u8 10] 5 (2, 3))) id id
    have HS2 := Lib.hid hs2
    have HK4 := Lib.hid k4
    have HL4 := Lib.hid L4
    clear hs2 k4 L4 k3 L3
    go_wp2_with fail
    refine HS2.out.mono ?_
    rintro e w4 ⟨rfl, hw4⟩
    dsimp only
    have k4 := HK4.out
    have L4 := HL4.out
    rw [hw4] at k4 L4
    clear HS2 HK4 HL4 hw4 kc2 c0 c1 c2 f1 f2
    obtain ⟨c0, c1, c2, f1, f2⟩ := L4.cells
    obtain ⟨-, hcap, hcapm, hcell⟩ := bs_at L4.bs
    have ht := trimR_all (b := Bf) (off := a) (n := whole.length) (cap := cap) (w := w4) (l := whole) rfl hcap hcapm (fun j hj => by
      obtain ⟨b', o', e1, e2⟩ := hcell (by rintro rfl; simp at hj)
      injection e1 with e1
      injection e1 with e3 e4
      subst e3; subst e4
      exact e2 j hj) (tabs_keep (HTB.out _ _ _ HG.out) k4 (fun e => HG1.out e.symm) (fun e => HG2.out e.symm))
    unfold isQPv at ht
    have HTR := Lib.hid ht
    have HK4 := Lib.hid k4
    have HL4 := Lib.hid L4
    clear ht hcell hcap hcapm k4 L4
    go_wp2_with fail
    refine HTR.out.mono ?_
    rintro e w5 ⟨rfl, hb5⟩
    dsimp only
    have k4 := HK4.out.trans (Keep.new (S := fun _ => False) hb5) (fun _ _ h => h.elim)
    have L4 := HL4.out.keep (Keep.new (S := fun _ => False) hb5) id id
    clear HTR HK4 HL4 hb5 c0 c1 c2 f1 f2
    obtain ⟨c0, c1, c2, f1, f2⟩ := L4.cells
    have kc3 := kconst (w5.setCell ⟨R, 2, none⟩ (.slice (some ⟨Bf, a, none⟩) (rstrip isSp whole).length cap)) w5.heap.size 1 1 2 (by simp) #[.int .u8 61] rfl rfl
    have L5 := L4.line hne (.slice (some ⟨Bf, a, none⟩) (rstrip isSp whole).length cap)
    have k5 := k4.setCell ⟨R, 2, none⟩ rfl (.slice (some ⟨Bf, a, none⟩) (rstrip isSp whole).length cap)
    have k6 := k5.alloc (.cells #[.int .u8 61] 5 (1, 2))
    have L6 := L5.keep ((Keep.refl (fun _ => False) (w5.setCell ⟨R, 2, none⟩ (.slice (some ⟨Bf, a, none⟩) (rstrip isSp whole).length cap))).alloc (.cells #[.int .u8 61] 5 (1, 2))) id id
    have hb6 := Bs.take L6.bs (rstrip isSp whole).length (rstrip_len isSp whole)
    rw [← rstrip_take] at hb6
    have hs3 := hasSuffix_bs hb6 (lit_bs (w5.setCell ⟨R, 2, none⟩ (.slice (some ⟨Bf, a, none⟩) (rstrip isSp whole).length cap)) [61] (1, 2) 1 rfl (by omega) #[.int .u8 61] rfl)
    rw [show (w5.setCell ⟨R, 2, none⟩ (.slice (some ⟨Bf, a, none⟩) (rstrip isSp whole).length cap)).heap.size = w5.heap.size by simp, H61.out] at hs3
    have HS3 := Lib.hid hs3
    have HK6 := Lib.hid k6
    have HL6 := Lib.hid L6
    clear hs3 k6 L6 hb6 k5 L5 k4 L4
    go_wp2_with fail
    refine HS3.out.mono ?_
    rintro e w6 ⟨rfl, hw6⟩
    dsimp only
    have k6 := HK6.out
    have L6 := HL6.out
    rw [hw6] at k6 L6
    clear HS3 HK6 HL6 hw6 kc3 c0 c1 c2 f1 f2
    go_upto_if 73 with (fail)
    refine HT.out _ _ ?_ a cap _ _ _ _ _ _ _ _ _ _ _ _ _ _ _ _ _ _ _ _ _ _ _ _ _ _ _ _ _ _ _ _ _ _ _ _ _ _ _ _ _ _ _ _ _ _ _ _ _ _ _ _ _ _ _ _ _ _ _ _ _ _ _ _ _ _ _ _ _ _ _ _ _ _ _ _ _ _ _ _ _ _ _ _ _ _ _ _ _ _ _ _ _ _ _ _ _ _ _ _ _ _ _ _ _ _ _ _ _ _ _ _ _ _ _ _ _ _ _ _ _ _ _ _ _ _ _ _ _ _ _ _ _ _ _ _ _ _ _ _ _ _ _ _ _ _ _ _ _ _ _ _ _ _ _ _ _ _ _ _ _ _ _ _ _ _ _ _ _ _ _ _ _ _ _ _ _ _ _ _ _ _ _ _ _ _ _ _ _ _ _ _ _ _ _ _ _ _ _ _ _ _ _ _ _ _ _ _ _ _ _ _ _ _ _ _ _ _ _ _ _ _ _ _ _ _ _ _ _ _ _ _ _ _ _ _ _ w1 w6 HG.out k6 L6
    intro pv nv u5 u6 u7 u8 u9 u10 u11 u12 u13 u14 u15 u16 u17 u18 u19 u20 u21 u22 u23 u24 u25 u26 u27 u28 u29 u30 u31 u32 u33 u34 u35 u36 u37 u38 u39 u40 u41 u42 u43 u44 u45 u46 u47 u48 u49 u50 u51 u52 u53 u54 u55 u56 u57 u58 u59 u60 u61 u62 u63 u64 u65 u66 u67 u68 u69 u70 u71 u72 u73 u74 u75 u76 u77 u78 u79 u80 u81 u82 u83 u84 u85 u86 u87 u88 u89 u90 u91 u92 u93 u94 u95 u96 u97 u98 u99 u100 u101 u102 u103 u104 u105 u106 u107 u108 u109 u110 u111 u112 u113 u114 u115 u116 u117 u118 u119 u120 u121 u122 u123 u124 u125 u126 u127 u128 u129 u130 u131 u132 u133 u134 u135 u136 u137 u138 u139 u140 u141 u142 u143 u144 u145 u146 u147 u148 u149 u150 u151 u152 u153 u154 u155 u156 u157 u158 u159 u160 u161 u162 u163 u164 u165 u166 u167 u168 u169 u170 u171 u172 u173 u174 u175 u176 u177 u178 u179 u180 u181 u182 u183 u184 u185 u186 u187 u188 u189 u190 u191 u192 u193 u194 u195 u196 u197 u198 u199 u200 u201 u202 u203 u204 u205 u206 u207 u208 u209 u210 u211 u212 u213 u214 u215 u216 u217 u218 u219 u220 u221 u222 u223 u224 u225 u226 u227 u228 u229 u230 u231 u232 u233 u234 u235 u236 u237 u238 u239 u240 u241 u242 u243 u244 u245 w' hnext
    have HN := Lib.hid hnext
    clear hnext L6 k6
    go_wp2
    exact HK.out _ _ _ _ _ _ _ _ _ _ _ _ _ _ _ _ _ _ _ _ _ _ _ _ _ _ _ _ _ _ _ _ _ _ _ _ _ _ _ _ _ _ _ _ _ _ _ _ _ _ _ _ _ _ _ _ _ _ _ _ _ _ _ _ _ _ _ _ _ _ _ _ _ _ _ _ _ _ _ _ _ _ _ _ _ _ _ _ _ _ _ _ _ _ _ _ _ _ _ _ _ _ _ _ _ _ _ _ _ _ _ _ _ _ _ _ _ _ _ _ _ _ _ _ _ _ _ _ _ _ _ _ _ _ _ _ _ _ _ _ _ _ _ _ _ _ _ _ _ _ _ _ _ _ _ _ _ _ _ _ _ _ _ _ _ _ _ _ _ _ _ _ _ _ _ _ _ _ _ _ _ _ _ _ _ _ _ _ _ _ _ _ _ _ _ _ _ _ _ _ _ _ _ _ _ _ _ _ _ _ _ _ _ _ _ _ _ _ _ _ _ _ _ _ _ _ _ _ _ _ _ _ _ _ _ _ _ _ _ _ _ _ _ _ HN.out
end
end Go.Proofs.YtcbolmendjocbaaDoor

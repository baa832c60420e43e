/- The Reader's ways at an equals sign (printed by genread.py). -/
import Derived.Test.YtcbolmendjocbaaDoorRq1
namespace Go.Proofs.YtcbolmendjocbaaDoor
open Go.RowKit Qp

section
variable {k : Bool} {ea : Addr} {R Bu Bf s D P po m mc : Nat} {pb out : List UInt8} {code : Nat} {w wr : World} {gk : Nat}

set_option maxRecDepth 1000000 in
set_option maxHeartbeats 6400000 in
theorem way_hex (K : Act → World → Prop) (Q : Exit → Act → World → Prop) (u5 u6 u7 u8 u9 u10 u11 u12 u13 u14 u15 u16 u17 u18 u19 u20 u21 u22 u23 u24 u25 u26 u27 u28 u29 u30 u31 u32 u33 u34 u35 u36 u37 u38 u39 u40 u41 u42 u43 u44 u45 u46 u47 u48 u49 u50 u51 u52 u53 u54 u55 u56 u57 u58 u59 u60 u61 u62 u63 u64 u65 u66 u67 u68 u69 u70 u71 u72 u73 u74 u75 u76 u77 u78 u79 u80 u81 u82 u83 u84 u85 u86 u87 u88 u89 u90 u91 u92 u93 u94 u95 u96 u97 u98 u99 u100 u101 u102 u103 u104 u105 u106 u107 u108 u109 u110 u111 u112 u113 u114 u115 u116 u117 u118 u119 u120 u121 u122 u123 u124 u125 u126 u127 u128 u129 u130 u131 u132 u133 u134 u135 u136 u137 u138 u139 u140 u141 u142 u143 u144 u145 u146 u147 u148 u149 u150 u151 u152 u153 u154 u155 u156 u157 u158 u159 u160 u161 u162 u163 u164 u165 u166 u167 u168 u169 u170 u171 u172 u173 u174 u175 u176 u177 u178 u179 u180 u181 u182 u183 u184 u185 u186 u187 u188 u189 u190 u191 u192 u193 u194 u195 u196 u197 u198 u199 u200 u201 u202 u203 u204 u205 u206 u207 u208 u209 u210 u211 u212 u213 u214 u215 u216 u217 u218 u219 u220 u221 u222 u223 u224 u225 u226 u227 u228 u229 u230 u231 u232 u233 u234 u235 u236 u237 u238 u239 u240 u241 u242 u243 u244 u245 : Value) (i μ κ q lo ℓ lc : Nat) (x y h l : UInt8)
    (hK : ∀ (pv nv u5 u6 u7 u8 u9 u10 u11 u12 u13 u14 u15 u16 u17 u18 u19 u20 u21 u22 u23 u24 u25 u26 u27 u28 u29 u30 u31 u32 u33 u34 u35 u36 u37 u38 u39 u40 u41 u42 u43 u44 u45 u46 u47 u48 u49 u50 u51 u52 u53 u54 u55 u56 u57 u58 u59 u60 u61 u62 u63 u64 u65 u66 u67 u68 u69 u70 u71 u72 u73 u74 u75 u76 u77 u78 u79 u80 u81 u82 u83 u84 u85 u86 u87 u88 u89 u90 u91 u92 u93 u94 u95 u96 u97 u98 u99 u100 u101 u102 u103 u104 u105 u106 u107 u108 u109 u110 u111 u112 u113 u114 u115 u116 u117 u118 u119 u120 u121 u122 u123 u124 u125 u126 u127 u128 u129 u130 u131 u132 u133 u134 u135 u136 u137 u138 u139 u140 u141 u142 u143 u144 u145 u146 u147 u148 u149 u150 u151 u152 u153 u154 u155 u156 u157 u158 u159 u160 u161 u162 u163 u164 u165 u166 u167 u168 u169 u170 u171 u172 u173 u174 u175 u176 u177 u178 u179 u180 u181 u182 u183 u184 u185 u186 u187 u188 u189 u190 u191 u192 u193 u194 u195 u196 u197 u198 u199 u200 u201 u202 u203 u204 u205 u206 u207 u208 u209 u210 u211 u212 u213 u214 u215 u216 u217 u218 u219 u220 u221 u222 u223 u224 u225 u226 u227 u228 u229 u230 u231 u232 u233 u234 u235 u236 u237 u238 u239 u240 u241 u242 u243 u244 u245 : Value) (w' : World), RdNext k ea R Bu Bf s D P po m mc pb out code w gk pv nv w' → K ⟨#[Value.pointer (some ⟨R, 0, none⟩), pv, undef, undef, nv, u5, u6, u7, u8, u9, u10, u11, u12, u13, u14, u15, u16, u17, u18, u19, u20, u21, u22, u23, u24, u25, u26, u27, u28, u29, u30, u31, u32, u33, u34, u35, u36, u37, u38, u39, u40, u41, u42, u43, u44, u45, u46, u47, u48, u49, u50, u51, u52, u53, u54, u55, u56, u57, u58, u59, u60, u61, u62, u63, u64, u65, u66, u67, u68, u69, u70, u71, u72, u73, u74, u75, u76, u77, u78, u79, u80, u81, u82, u83, u84, u85, u86, u87, u88, u89, u90, u91, u92, u93, u94, u95, u96, u97, u98, u99, u100, u101, u102, u103, u104, u105, u106, u107, u108, u109, u110, u111, u112, u113, u114, u115, u116, u117, u118, u119, u120, u121, u122, u123, u124, u125, u126, u127, u128, u129, u130, u131, u132, u133, u134, u135, u136, u137, u138, u139, u140, u141, u142, u143, u144, u145, u146, u147, u148, u149, u150, u151, u152, u153, u154, u155, u156, u157, u158, u159, u160, u161, u162, u163, u164, u165, u166, u167, u168, u169, u170, u171, u172, u173, u174, u175, u176, u177, u178, u179, u180, u181, u182, u183, u184, u185, u186, u187, u188, u189, u190, u191, u192, u193, u194, u195, u196, u197, u198, u199, u200, u201, u202, u203, u204, u205, u206, u207, u208, u209, u210, u211, u212, u213, u214, u215, u216, u217, u218, u219, u220, u221, u222, u223, u224, u225, u226, u227, u228, u229, u230, u231, u232, u233, u234, u235, u236, u237, u238, u239, u240, u241, u242, u243, u244, u245, undef], []⟩ w')
    (c2 : wr.cell? ⟨R, 2, none⟩ = some (.slice (some ⟨Bf, lo, none⟩) ℓ lc)) (f2 : wr.frozen? ⟨R, 2, none⟩ = false)
    (cp : ∃ v, wr.cell? ⟨P, q, none⟩ = some v) (fp : wr.frozen? ⟨P, q, none⟩ = false)
    (hμ : 1 ≤ μ) (hℓ : 3 ≤ ℓ) (hlc : ℓ ≤ lc) (hi : (i : Int) ≤ 1099511627776)
    (hrp : ¬ R = P)
    (cx : wr.cell? ⟨Bf, lo, none⟩ = some (.int .u8 61)) (cy : wr.cell? ⟨Bf, lo + 1, none⟩ = some (.int .u8 x.toNat)) (cz : wr.cell? ⟨Bf, lo + 1 + 1, none⟩ = some (.int .u8 y.toNat)) (hx : hexAny x = some h) (hy : hexAny y = some l)
    (hend : ∀ pv lv v2, ((κ = 1 ∧ pv = .slice (some ⟨P, q, none⟩) (μ - 1) 0) ∨ (¬ κ = 1 ∧ pv = .slice (some ⟨P, q + 1, none⟩) (μ - 1) (κ - 1))) → (lc - 2 = 1 ∧ lv = .slice (some ⟨Bf, lo + 2, none⟩) (ℓ - 2 - 1) 0 ∨ ¬ lc - 2 = 1 ∧ lv = .slice (some ⟨Bf, lo + 2 + 1, none⟩) (ℓ - 2 - 1) (lc - 2 - 1)) →
      RdNext k ea R Bu Bf s D P po m mc pb out code w gk pv (.int .i64 ((i : Int) + 1)) (((wr.setCell ⟨R, 2, none⟩ v2).setCell ⟨P, q, none⟩ (.int .u8 (h <<< 4 ||| l).toNat)).setCell ⟨R, 2, none⟩ lv)) :
    Code.wp Tryd.prog rbody (Exit.then K Q) ⟨#[Value.pointer (some ⟨R, 0, none⟩), .slice (some ⟨P, q, none⟩) μ κ, undef, undef, .int .i64 i, u5, u6, u7, u8, u9, u10, u11, u12, u13, u14, u15, u16, u17, u18, u19, u20, u21, u22, u23, u24, u25, u26, u27, u28, u29, u30, u31, u32, u33, u34, u35, u36, u37, u38, u39, u40, u41, u42, u43, u44, u45, u46, u47, u48, u49, u50, u51, u52, u53, u54, u55, u56, u57, u58, u59, u60, u61, u62, u63, u64, u65, u66, u67, u68, u69, u70, u71, u72, u73, u74, u75, u76, u77, u78, u79, u80, u81, u82, u83, u84, u85, u86, u87, u88, u89, u90, u91, u92, u93, u94, u95, u96, u97, u98, u99, u100, u101, u102, u103, u104, u105, u106, u107, u108, u109, u110, u111, u112, u113, u114, u115, u116, u117, u118, u119, u120, u121, u122, u123, u124, u125, u126, u127, u128, u129, u130, u131, u132, u133, u134, u135, u136, u137, u138, u139, u140, u141, u142, u143, u144, u145, u146, u147, u148, u149, u150, u151, u152, u153, u154, u155, u156, u157, u158, u159, u160, u161, u162, u163, u164, u165, u166, u167, u168, u169, u170, u171, u172, u173, u174, u175, u176, u177, u178, u179, u180, u181, u182, u183, u184, u185, u186, u187, u188, u189, u190, u191, u192, u193, u194, u195, u196, u197, u198, u199, u200, u201, u202, u203, u204, u205, u206, u207, u208, u209, u210, u211, u212, u213, u214, u215, u216, u217, u218, u219, u220, u221, u222, u223, u224, u225, u226, u227, u228, u229, u230, u231, u232, u233, u234, u235, u236, u237, u238, u239, u240, u241, u242, u243, u244, u245, undef], []⟩ wr := by
  have HE := Lib.hid hend
  have HK := Lib.hid hK
  obtain ⟨vp, cp⟩ := cp
  have hℓ1 : (1 : Int) ≤ ℓ := by omega
  have hμ1 : (1 : Int) ≤ μ := by omega
  have hℓ0 : ((ℓ : Int) == 0) = false := beq_eq_false_iff_ne.2 (by omega)
  have i0 : (0 : Int) ≤ i := by omega
  have hℓ2 : (2 : Int) ≤ ℓ := by omega
  have hℓ3 : 1 ≤ ℓ := by omega
  have hℓ4 : 2 ≤ ℓ := by omega
  have hl1 : ¬ lc = 1 := by omega
  have hl2 : ¬ lc = 2 := by omega
  have HX := Lib.hid (readHex_some x y Bf (lo + 1) (ℓ - 1) (lc - 1) wr h l hx hy (by omega) cy cz)
  obtain ⟨z, hz⟩ : ∃ z : Int, z = (h <<< 4 ||| l).toNat := ⟨_, rfl⟩
  rw [← hz] at HE HX
  clear hend hK cy cz hx hy hz
  conv => arg 2; whnf
  go_wp2_with fail
  refine HX.out.mono ?_
  rintro e w' ⟨rfl, rfl⟩
  clear HX
  dsimp only
  go_wp2
  all_goals exact HK.out _ _ _ _ _ _ _ _ _ _ _ _ _ _ _ _ _ _ _ _ _ _ _ _ _ _ _ _ _ _ _ _ _ _ _ _ _ _ _ _ _ _ _ _ _ _ _ _ _ _ _ _ _ _ _ _ _ _ _ _ _ _ _ _ _ _ _ _ _ _ _ _ _ _ _ _ _ _ _ _ _ _ _ _ _ _ _ _ _ _ _ _ _ _ _ _ _ _ _ _ _ _ _ _ _ _ _ _ _ _ _ _ _ _ _ _ _ _ _ _ _ _ _ _ _ _ _ _ _ _ _ _ _ _ _ _ _ _ _ _ _ _ _ _ _ _ _ _ _ _ _ _ _ _ _ _ _ _ _ _ _ _ _ _ _ _ _ _ _ _ _ _ _ _ _ _ _ _ _ _ _ _ _ _ _ _ _ _ _ _ _ _ _ _ _ _ _ _ _ _ _ _ _ _ _ _ _ _ _ _ _ _ _ _ _ _ _ _ _ _ _ _ _ _ _ _ _ _ _ _ _ _ _ _ _ _ _ _ _ _ _ _ _ _ (HE.out _ _ _ (by first | exact .inl ⟨by assumption, rfl⟩ | exact .inr ⟨by assumption, rfl⟩) (by first | exact .inl ⟨by assumption, rfl⟩ | exact .inr ⟨by assumption, rfl⟩))

set_option maxRecDepth 1000000 in
set_option maxHeartbeats 6400000 in
theorem way_lit {X : Addr → World → Prop} (K : Act → World → Prop) (Q : Exit → Act → World → Prop) (u5 u6 u7 u8 u9 u10 u11 u12 u13 u14 u15 u16 u17 u18 u19 u20 u21 u22 u23 u24 u25 u26 u27 u28 u29 u30 u31 u32 u33 u34 u35 u36 u37 u38 u39 u40 u41 u42 u43 u44 u45 u46 u47 u48 u49 u50 u51 u52 u53 u54 u55 u56 u57 u58 u59 u60 u61 u62 u63 u64 u65 u66 u67 u68 u69 u70 u71 u72 u73 u74 u75 u76 u77 u78 u79 u80 u81 u82 u83 u84 u85 u86 u87 u88 u89 u90 u91 u92 u93 u94 u95 u96 u97 u98 u99 u100 u101 u102 u103 u104 u105 u106 u107 u108 u109 u110 u111 u112 u113 u114 u115 u116 u117 u118 u119 u120 u121 u122 u123 u124 u125 u126 u127 u128 u129 u130 u131 u132 u133 u134 u135 u136 u137 u138 u139 u140 u141 u142 u143 u144 u145 u146 u147 u148 u149 u150 u151 u152 u153 u154 u155 u156 u157 u158 u159 u160 u161 u162 u163 u164 u165 u166 u167 u168 u169 u170 u171 u172 u173 u174 u175 u176 u177 u178 u179 u180 u181 u182 u183 u184 u185 u186 u187 u188 u189 u190 u191 u192 u193 u194 u195 u196 u197 u198 u199 u200 u201 u202 u203 u204 u205 u206 u207 u208 u209 u210 u211 u212 u213 u214 u215 u216 u217 u218 u219 u220 u221 u222 u223 u224 u225 u226 u227 u228 u229 u230 u231 u232 u233 u234 u235 u236 u237 u238 u239 u240 u241 u242 u243 u244 u245 : Value) (i μ κ q lo ℓ lc : Nat) (y : Int)
    (hK : ∀ (pv nv u5 u6 u7 u8 u9 u10 u11 u12 u13 u14 u15 u16 u17 u18 u19 u20 u21 u22 u23 u24 u25 u26 u27 u28 u29 u30 u31 u32 u33 u34 u35 u36 u37 u38 u39 u40 u41 u42 u43 u44 u45 u46 u47 u48 u49 u50 u51 u52 u53 u54 u55 u56 u57 u58 u59 u60 u61 u62 u63 u64 u65 u66 u67 u68 u69 u70 u71 u72 u73 u74 u75 u76 u77 u78 u79 u80 u81 u82 u83 u84 u85 u86 u87 u88 u89 u90 u91 u92 u93 u94 u95 u96 u97 u98 u99 u100 u101 u102 u103 u104 u105 u106 u107 u108 u109 u110 u111 u112 u113 u114 u115 u116 u117 u118 u119 u120 u121 u122 u123 u124 u125 u126 u127 u128 u129 u130 u131 u132 u133 u134 u135 u136 u137 u138 u139 u140 u141 u142 u143 u144 u145 u146 u147 u148 u149 u150 u151 u152 u153 u154 u155 u156 u157 u158 u159 u160 u161 u162 u163 u164 u165 u166 u167 u168 u169 u170 u171 u172 u173 u174 u175 u176 u177 u178 u179 u180 u181 u182 u183 u184 u185 u186 u187 u188 u189 u190 u191 u192 u193 u194 u195 u196 u197 u198 u199 u200 u201 u202 u203 u204 u205 u206 u207 u208 u209 u210 u211 u212 u213 u214 u215 u216 u217 u218 u219 u220 u221 u222 u223 u224 u225 u226 u227 u228 u229 u230 u231 u232 u233 u234 u235 u236 u237 u238 u239 u240 u241 u242 u243 u244 u245 : Value) (w' : World), RdNext k ea R Bu Bf s D P po m mc pb out code w gk pv nv w' → K ⟨#[Value.pointer (some ⟨R, 0, none⟩), pv, undef, undef, nv, u5, u6, u7, u8, u9, u10, u11, u12, u13, u14, u15, u16, u17, u18, u19, u20, u21, u22, u23, u24, u25, u26, u27, u28, u29, u30, u31, u32, u33, u34, u35, u36, u37, u38, u39, u40, u41, u42, u43, u44, u45, u46, u47, u48, u49, u50, u51, u52, u53, u54, u55, u56, u57, u58, u59, u60, u61, u62, u63, u64, u65, u66, u67, u68, u69, u70, u71, u72, u73, u74, u75, u76, u77, u78, u79, u80, u81, u82, u83, u84, u85, u86, u87, u88, u89, u90, u91, u92, u93, u94, u95, u96, u97, u98, u99, u100, u101, u102, u103, u104, u105, u106, u107, u108, u109, u110, u111, u112, u113, u114, u115, u116, u117, u118, u119, u120, u121, u122, u123, u124, u125, u126, u127, u128, u129, u130, u131, u132, u133, u134, u135, u136, u137, u138, u139, u140, u141, u142, u143, u144, u145, u146, u147, u148, u149, u150, u151, u152, u153, u154, u155, u156, u157, u158, u159, u160, u161, u162, u163, u164, u165, u166, u167, u168, u169, u170, u171, u172, u173, u174, u175, u176, u177, u178, u179, u180, u181, u182, u183, u184, u185, u186, u187, u188, u189, u190, u191, u192, u193, u194, u195, u196, u197, u198, u199, u200, u201, u202, u203, u204, u205, u206, u207, u208, u209, u210, u211, u212, u213, u214, u215, u216, u217, u218, u219, u220, u221, u222, u223, u224, u225, u226, u227, u228, u229, u230, u231, u232, u233, u234, u235, u236, u237, u238, u239, u240, u241, u242, u243, u244, u245, undef], []⟩ w')
    (c2 : wr.cell? ⟨R, 2, none⟩ = some (.slice (some ⟨Bf, lo, none⟩) ℓ lc)) (_f2 : wr.frozen? ⟨R, 2, none⟩ = false)
    (cp : ∃ v, wr.cell? ⟨P, q, none⟩ = some v) (_fp : wr.frozen? ⟨P, q, none⟩ = false)
    (hμ : 1 ≤ μ) (hℓ : 2 ≤ ℓ) (hlc : ℓ ≤ lc) (hi : (i : Int) ≤ 1099511627776)
    (hrp : ¬ R = P)
    (cx : wr.cell? ⟨Bf, lo, none⟩ = some (.int .u8 61)) (hx : Calls Tryd.prog 26 #[.slice (some ⟨Bf, lo + 1, none⟩) (ℓ - 1) (lc - 1)] wr (ErrPostA X (.int .u8 0) wr)) (hy13 : ¬ y = 13) (hy10 : ¬ y = 10)
    (hlater : ∀ w1, Below wr.heap.size wr w1 → w1.cell? ⟨R, 2, none⟩ = some (.slice (some ⟨Bf, lo, none⟩) ℓ lc) ∧ w1.frozen? ⟨R, 2, none⟩ = false ∧ (∃ v, w1.cell? ⟨P, q, none⟩ = some v) ∧ w1.frozen? ⟨P, q, none⟩ = false ∧ w1.cell? ⟨Bf, lo + 1, none⟩ = some (.int .u8 y))
    (hend : ∀ pv lv w1, Below wr.heap.size wr w1 → ((κ = 1 ∧ pv = .slice (some ⟨P, q, none⟩) (μ - 1) 0) ∨ (¬ κ = 1 ∧ pv = .slice (some ⟨P, q + 1, none⟩) (μ - 1) (κ - 1))) → ((lc = 1 ∧ lv = .slice (some ⟨Bf, lo, none⟩) (ℓ - 1) 0) ∨ (¬ lc = 1 ∧ lv = .slice (some ⟨Bf, lo + 1, none⟩) (ℓ - 1) (lc - 1))) →
      RdNext k ea R Bu Bf s D P po m mc pb out code w gk pv (.int .i64 ((i : Int) + 1)) ((w1.setCell ⟨P, q, none⟩ (.int .u8 61)).setCell ⟨R, 2, none⟩ lv)) :
    Code.wp Tryd.prog rbody (Exit.then K Q) ⟨#[Value.pointer (some ⟨R, 0, none⟩), .slice (some ⟨P, q, none⟩) μ κ, undef, undef, .int .i64 i, u5, u6, u7, u8, u9, u10, u11, u12, u13, u14, u15, u16, u17, u18, u19, u20, u21, u22, u23, u24, u25, u26, u27, u28, u29, u30, u31, u32, u33, u34, u35, u36, u37, u38, u39, u40, u41, u42, u43, u44, u45, u46, u47, u48, u49, u50, u51, u52, u53, u54, u55, u56, u57, u58, u59, u60, u61, u62, u63, u64, u65, u66, u67, u68, u69, u70, u71, u72, u73, u74, u75, u76, u77, u78, u79, u80, u81, u82, u83, u84, u85, u86, u87, u88, u89, u90, u91, u92, u93, u94, u95, u96, u97, u98, u99, u100, u101, u102, u103, u104, u105, u106, u107, u108, u109, u110, u111, u112, u113, u114, u115, u116, u117, u118, u119, u120, u121, u122, u123, u124, u125, u126, u127, u128, u129, u130, u131, u132, u133, u134, u135, u136, u137, u138, u139, u140, u141, u142, u143, u144, u145, u146, u147, u148, u149, u150, u151, u152, u153, u154, u155, u156, u157, u158, u159, u160, u161, u162, u163, u164, u165, u166, u167, u168, u169, u170, u171, u172, u173, u174, u175, u176, u177, u178, u179, u180, u181, u182, u183, u184, u185, u186, u187, u188, u189, u190, u191, u192, u193, u194, u195, u196, u197, u198, u199, u200, u201, u202, u203, u204, u205, u206, u207, u208, u209, u210, u211, u212, u213, u214, u215, u216, u217, u218, u219, u220, u221, u222, u223, u224, u225, u226, u227, u228, u229, u230, u231, u232, u233, u234, u235, u236, u237, u238, u239, u240, u241, u242, u243, u244, u245, undef], []⟩ wr := by
  have HE := Lib.hid hend
  have HK := Lib.hid hK
  obtain ⟨vp, cp⟩ := cp
  have hℓ1 : (1 : Int) ≤ ℓ := by omega
  have hμ1 : (1 : Int) ≤ μ := by omega
  have hℓ0 : ((ℓ : Int) == 0) = false := beq_eq_false_iff_ne.2 (by omega)
  have i0 : (0 : Int) ≤ i := by omega
  have hℓ2 : (2 : Int) ≤ ℓ := by omega
  have hℓ3 : 1 ≤ ℓ := by omega
  have hℓ4 : 2 ≤ ℓ := by omega
  have hl1 : ¬ lc = 1 := by omega
  have HX := Lib.hid hx
  have HL := Lib.hid hlater
  have jy13 : (y == 13) = false := beq_eq_false_iff_ne.2 hy13
  have jy10 : (y == 10) = false := beq_eq_false_iff_ne.2 hy10
  have jn13 : (y != 13) = true := by simpa using hy13
  have jn10 : (y != 10) = true := by simpa using hy10
  clear hend hK hx hlater
  conv => arg 2; whnf
  go_wp2_with fail
  refine HX.out.mono ?_
  rintro e w1 ⟨⟨g, hXa, rfl⟩, hbel⟩
  obtain ⟨c2', f2', ⟨vp', cp'⟩, fp', cy'⟩ := HL.out w1 hbel
  have HE1 := Lib.hid (fun pv lv => HE.out pv lv w1 hbel)
  clear HX HL HE hbel hXa c2 cp cx
  unfold eofv
  dsimp only
  go_wp2
  all_goals exact HK.out _ _ _ _ _ _ _ _ _ _ _ _ _ _ _ _ _ _ _ _ _ _ _ _ _ _ _ _ _ _ _ _ _ _ _ _ _ _ _ _ _ _ _ _ _ _ _ _ _ _ _ _ _ _ _ _ _ _ _ _ _ _ _ _ _ _ _ _ _ _ _ _ _ _ _ _ _ _ _ _ _ _ _ _ _ _ _ _ _ _ _ _ _ _ _ _ _ _ _ _ _ _ _ _ _ _ _ _ _ _ _ _ _ _ _ _ _ _ _ _ _ _ _ _ _ _ _ _ _ _ _ _ _ _ _ _ _ _ _ _ _ _ _ _ _ _ _ _ _ _ _ _ _ _ _ _ _ _ _ _ _ _ _ _ _ _ _ _ _ _ _ _ _ _ _ _ _ _ _ _ _ _ _ _ _ _ _ _ _ _ _ _ _ _ _ _ _ _ _ _ _ _ _ _ _ _ _ _ _ _ _ _ _ _ _ _ _ _ _ _ _ _ _ _ _ _ _ _ _ _ _ _ _ _ _ _ _ _ _ _ _ _ _ _ (HE1.out _ _ (by first | exact .inl ⟨by assumption, rfl⟩ | exact .inr ⟨by assumption, rfl⟩) (by first | exact .inl ⟨by assumption, rfl⟩ | exact .inr ⟨by assumption, rfl⟩))

set_option maxRecDepth 1000000 in
set_option maxHeartbeats 6400000 in
theorem way_bad61 {X : Addr → World → Prop} (K : Act → World → Prop) (Q : Exit → Act → World → Prop) (u5 u6 u7 u8 u9 u10 u11 u12 u13 u14 u15 u16 u17 u18 u19 u20 u21 u22 u23 u24 u25 u26 u27 u28 u29 u30 u31 u32 u33 u34 u35 u36 u37 u38 u39 u40 u41 u42 u43 u44 u45 u46 u47 u48 u49 u50 u51 u52 u53 u54 u55 u56 u57 u58 u59 u60 u61 u62 u63 u64 u65 u66 u67 u68 u69 u70 u71 u72 u73 u74 u75 u76 u77 u78 u79 u80 u81 u82 u83 u84 u85 u86 u87 u88 u89 u90 u91 u92 u93 u94 u95 u96 u97 u98 u99 u100 u101 u102 u103 u104 u105 u106 u107 u108 u109 u110 u111 u112 u113 u114 u115 u116 u117 u118 u119 u120 u121 u122 u123 u124 u125 u126 u127 u128 u129 u130 u131 u132 u133 u134 u135 u136 u137 u138 u139 u140 u141 u142 u143 u144 u145 u146 u147 u148 u149 u150 u151 u152 u153 u154 u155 u156 u157 u158 u159 u160 u161 u162 u163 u164 u165 u166 u167 u168 u169 u170 u171 u172 u173 u174 u175 u176 u177 u178 u179 u180 u181 u182 u183 u184 u185 u186 u187 u188 u189 u190 u191 u192 u193 u194 u195 u196 u197 u198 u199 u200 u201 u202 u203 u204 u205 u206 u207 u208 u209 u210 u211 u212 u213 u214 u215 u216 u217 u218 u219 u220 u221 u222 u223 u224 u225 u226 u227 u228 u229 u230 u231 u232 u233 u234 u235 u236 u237 u238 u239 u240 u241 u242 u243 u244 u245 : Value) (i μ κ q lo ℓ lc : Nat) (y : Int)
    (hQ : ∀ (u1 n' v5 u6 u7 u8 u9 u10 u11 u12 u13 u14 u15 u16 u17 u18 u19 u20 u21 u22 u23 u24 u25 u26 u27 u28 u29 u30 u31 u32 u33 u34 u35 u36 u37 u38 u39 u40 u41 u42 u43 u44 u45 u46 u47 u48 u49 u50 u51 u52 u53 u54 u55 u56 u57 u58 u59 u60 u61 u62 u63 u64 u65 u66 u67 u68 u69 u70 u71 u72 u73 u74 u75 u76 u77 u78 u79 u80 u81 u82 u83 u84 u85 u86 u87 u88 u89 u90 u91 u92 u93 u94 u95 u96 u97 u98 u99 u100 u101 u102 u103 u104 u105 u106 u107 u108 u109 u110 u111 u112 u113 u114 u115 u116 u117 u118 u119 u120 u121 u122 u123 u124 u125 u126 u127 u128 u129 u130 u131 u132 u133 u134 u135 u136 u137 u138 u139 u140 u141 u142 u143 u144 u145 u146 u147 u148 u149 u150 u151 u152 u153 u154 u155 u156 u157 u158 u159 u160 u161 u162 u163 u164 u165 u166 u167 u168 u169 u170 u171 u172 u173 u174 u175 u176 u177 u178 u179 u180 u181 u182 u183 u184 u185 u186 u187 u188 u189 u190 u191 u192 u193 u194 u195 u196 u197 u198 u199 u200 u201 u202 u203 u204 u205 u206 u207 u208 u209 u210 u211 u212 u213 u214 u215 u216 u217 u218 u219 u220 u221 u222 u223 u224 u225 u226 u227 u228 u229 u230 u231 u232 u233 u234 u235 u236 u237 u238 u239 u240 u241 u242 u243 u244 u245 : Value) (w' : World), ReadPost k ea R Bu Bf s D P po m pb out code w (.returned (.tuple #[n', v5])) w' → Q .ret ⟨#[Value.pointer (some ⟨R, 0, none⟩), u1, undef, undef, n', v5, u6, u7, u8, u9, u10, u11, u12, u13, u14, u15, u16, u17, u18, u19, u20, u21, u22, u23, u24, u25, u26, u27, u28, u29, u30, u31, u32, u33, u34, u35, u36, u37, u38, u39, u40, u41, u42, u43, u44, u45, u46, u47, u48, u49, u50, u51, u52, u53, u54, u55, u56, u57, u58, u59, u60, u61, u62, u63, u64, u65, u66, u67, u68, u69, u70, u71, u72, u73, u74, u75, u76, u77, u78, u79, u80, u81, u82, u83, u84, u85, u86, u87, u88, u89, u90, u91, u92, u93, u94, u95, u96, u97, u98, u99, u100, u101, u102, u103, u104, u105, u106, u107, u108, u109, u110, u111, u112, u113, u114, u115, u116, u117, u118, u119, u120, u121, u122, u123, u124, u125, u126, u127, u128, u129, u130, u131, u132, u133, u134, u135, u136, u137, u138, u139, u140, u141, u142, u143, u144, u145, u146, u147, u148, u149, u150, u151, u152, u153, u154, u155, u156, u157, u158, u159, u160, u161, u162, u163, u164, u165, u166, u167, u168, u169, u170, u171, u172, u173, u174, u175, u176, u177, u178, u179, u180, u181, u182, u183, u184, u185, u186, u187, u188, u189, u190, u191, u192, u193, u194, u195, u196, u197, u198, u199, u200, u201, u202, u203, u204, u205, u206, u207, u208, u209, u210, u211, u212, u213, u214, u215, u216, u217, u218, u219, u220, u221, u222, u223, u224, u225, u226, u227, u228, u229, u230, u231, u232, u233, u234, u235, u236, u237, u238, u239, u240, u241, u242, u243, u244, u245, undef], []⟩ w')
    (c2 : wr.cell? ⟨R, 2, none⟩ = some (.slice (some ⟨Bf, lo, none⟩) ℓ lc)) 
    
    (hμ : 1 ≤ μ) (hℓ : 2 ≤ ℓ) (hlc : ℓ ≤ lc) 
    
    (cx : wr.cell? ⟨Bf, lo, none⟩ = some (.int .u8 61)) (hx : Calls Tryd.prog 26 #[.slice (some ⟨Bf, lo + 1, none⟩) (ℓ - 1) (lc - 1)] wr (ErrPostA X (.int .u8 0) wr)) (hy : y = 13 ∨ y = 10)
    (hlater : ∀ w1, Below wr.heap.size wr w1 → w1.cell? ⟨R, 2, none⟩ = some (.slice (some ⟨Bf, lo, none⟩) ℓ lc) ∧ w1.frozen? ⟨R, 2, none⟩ = false ∧ (∃ v, w1.cell? ⟨P, q, none⟩ = some v) ∧ w1.frozen? ⟨P, q, none⟩ = false ∧ w1.cell? ⟨Bf, lo + 1, none⟩ = some (.int .u8 y))
    (hend : ∀ w1 g, Below wr.heap.size wr w1 → X g w1 → ReadPost k ea R Bu Bf s D P po m pb out code w (.returned (.tuple #[.int .i64 i, eofv g])) w1) :
    Code.wp Tryd.prog rbody (Exit.then K Q) ⟨#[Value.pointer (some ⟨R, 0, none⟩), .slice (some ⟨P, q, none⟩) μ κ, undef, undef, .int .i64 i, u5, u6, u7, u8, u9, u10, u11, u12, u13, u14, u15, u16, u17, u18, u19, u20, u21, u22, u23, u24, u25, u26, u27, u28, u29, u30, u31, u32, u33, u34, u35, u36, u37, u38, u39, u40, u41, u42, u43, u44, u45, u46, u47, u48, u49, u50, u51, u52, u53, u54, u55, u56, u57, u58, u59, u60, u61, u62, u63, u64, u65, u66, u67, u68, u69, u70, u71, u72, u73, u74, u75, u76, u77, u78, u79, u80, u81, u82, u83, u84, u85, u86, u87, u88, u89, u90, u91, u92, u93, u94, u95, u96, u97, u98, u99, u100, u101, u102, u103, u104, u105, u106, u107, u108, u109, u110, u111, u112, u113, u114, u115, u116, u117, u118, u119, u120, u121, u122, u123, u124, u125, u126, u127, u128, u129, u130, u131, u132, u133, u134, u135, u136, u137, u138, u139, u140, u141, u142, u143, u144, u145, u146, u147, u148, u149, u150, u151, u152, u153, u154, u155, u156, u157, u158, u159, u160, u161, u162, u163, u164, u165, u166, u167, u168, u169, u170, u171, u172, u173, u174, u175, u176, u177, u178, u179, u180, u181, u182, u183, u184, u185, u186, u187, u188, u189, u190, u191, u192, u193, u194, u195, u196, u197, u198, u199, u200, u201, u202, u203, u204, u205, u206, u207, u208, u209, u210, u211, u212, u213, u214, u215, u216, u217, u218, u219, u220, u221, u222, u223, u224, u225, u226, u227, u228, u229, u230, u231, u232, u233, u234, u235, u236, u237, u238, u239, u240, u241, u242, u243, u244, u245, undef], []⟩ wr := by
  have HE := Lib.hid hend
  have HQ := Lib.hid hQ
  have hμ1 : (1 : Int) ≤ μ := by omega
  have hℓ0 : ((ℓ : Int) == 0) = false := beq_eq_false_iff_ne.2 (by omega)
  have hℓ2 : (2 : Int) ≤ ℓ := by omega
  have hℓ3 : 1 ≤ ℓ := by omega
  have hℓ4 : 2 ≤ ℓ := by omega
  have hl1 : ¬ lc = 1 := by omega
  have HX := Lib.hid hx
  have HL := Lib.hid hlater
  clear hend hQ hx hlater
  rcases hy with rfl | rfl
  all_goals (
    conv => arg 2; whnf
    go_wp2_with fail
    refine HX.out.mono ?_
    rintro e w1 ⟨⟨g, hXa, rfl⟩, hbel⟩
    obtain ⟨c2', f2', ⟨vp', cp'⟩, fp', cy'⟩ := HL.out w1 hbel
    have HE1 := Lib.hid (HE.out w1 g hbel hXa)
    clear HX HL HE hbel hXa c2 cx
    unfold eofv at HE1 ⊢
    dsimp only
    go_wp2
    exact HQ.out _ _ _ _ _ _ _ _ _ _ _ _ _ _ _ _ _ _ _ _ _ _ _ _ _ _ _ _ _ _ _ _ _ _ _ _ _ _ _ _ _ _ _ _ _ _ _ _ _ _ _ _ _ _ _ _ _ _ _ _ _ _ _ _ _ _ _ _ _ _ _ _ _ _ _ _ _ _ _ _ _ _ _ _ _ _ _ _ _ _ _ _ _ _ _ _ _ _ _ _ _ _ _ _ _ _ _ _ _ _ _ _ _ _ _ _ _ _ _ _ _ _ _ _ _ _ _ _ _ _ _ _ _ _ _ _ _ _ _ _ _ _ _ _ _ _ _ _ _ _ _ _ _ _ _ _ _ _ _ _ _ _ _ _ _ _ _ _ _ _ _ _ _ _ _ _ _ _ _ _ _ _ _ _ _ _ _ _ _ _ _ _ _ _ _ _ _ _ _ _ _ _ _ _ _ _ _ _ _ _ _ _ _ _ _ _ _ _ _ _ _ _ _ _ _ _ _ _ _ _ _ _ _ _ _ _ _ _ _ _ _ _ _ _ HE1.out)

set_option maxRecDepth 1000000 in
set_option maxHeartbeats 6400000 in
theorem way_bad1 {X : Addr → World → Prop} (K : Act → World → Prop) (Q : Exit → Act → World → Prop) (u5 u6 u7 u8 u9 u10 u11 u12 u13 u14 u15 u16 u17 u18 u19 u20 u21 u22 u23 u24 u25 u26 u27 u28 u29 u30 u31 u32 u33 u34 u35 u36 u37 u38 u39 u40 u41 u42 u43 u44 u45 u46 u47 u48 u49 u50 u51 u52 u53 u54 u55 u56 u57 u58 u59 u60 u61 u62 u63 u64 u65 u66 u67 u68 u69 u70 u71 u72 u73 u74 u75 u76 u77 u78 u79 u80 u81 u82 u83 u84 u85 u86 u87 u88 u89 u90 u91 u92 u93 u94 u95 u96 u97 u98 u99 u100 u101 u102 u103 u104 u105 u106 u107 u108 u109 u110 u111 u112 u113 u114 u115 u116 u117 u118 u119 u120 u121 u122 u123 u124 u125 u126 u127 u128 u129 u130 u131 u132 u133 u134 u135 u136 u137 u138 u139 u140 u141 u142 u143 u144 u145 u146 u147 u148 u149 u150 u151 u152 u153 u154 u155 u156 u157 u158 u159 u160 u161 u162 u163 u164 u165 u166 u167 u168 u169 u170 u171 u172 u173 u174 u175 u176 u177 u178 u179 u180 u181 u182 u183 u184 u185 u186 u187 u188 u189 u190 u191 u192 u193 u194 u195 u196 u197 u198 u199 u200 u201 u202 u203 u204 u205 u206 u207 u208 u209 u210 u211 u212 u213 u214 u215 u216 u217 u218 u219 u220 u221 u222 u223 u224 u225 u226 u227 u228 u229 u230 u231 u232 u233 u234 u235 u236 u237 u238 u239 u240 u241 u242 u243 u244 u245 : Value) (i μ κ q lo ℓ lc : Nat)
    (hQ : ∀ (u1 n' v5 u6 u7 u8 u9 u10 u11 u12 u13 u14 u15 u16 u17 u18 u19 u20 u21 u22 u23 u24 u25 u26 u27 u28 u29 u30 u31 u32 u33 u34 u35 u36 u37 u38 u39 u40 u41 u42 u43 u44 u45 u46 u47 u48 u49 u50 u51 u52 u53 u54 u55 u56 u57 u58 u59 u60 u61 u62 u63 u64 u65 u66 u67 u68 u69 u70 u71 u72 u73 u74 u75 u76 u77 u78 u79 u80 u81 u82 u83 u84 u85 u86 u87 u88 u89 u90 u91 u92 u93 u94 u95 u96 u97 u98 u99 u100 u101 u102 u103 u104 u105 u106 u107 u108 u109 u110 u111 u112 u113 u114 u115 u116 u117 u118 u119 u120 u121 u122 u123 u124 u125 u126 u127 u128 u129 u130 u131 u132 u133 u134 u135 u136 u137 u138 u139 u140 u141 u142 u143 u144 u145 u146 u147 u148 u149 u150 u151 u152 u153 u154 u155 u156 u157 u158 u159 u160 u161 u162 u163 u164 u165 u166 u167 u168 u169 u170 u171 u172 u173 u174 u175 u176 u177 u178 u179 u180 u181 u182 u183 u184 u185 u186 u187 u188 u189 u190 u191 u192 u193 u194 u195 u196 u197 u198 u199 u200 u201 u202 u203 u204 u205 u206 u207 u208 u209 u210 u211 u212 u213 u214 u215 u216 u217 u218 u219 u220 u221 u222 u223 u224 u225 u226 u227 u228 u229 u230 u231 u232 u233 u234 u235 u236 u237 u238 u239 u240 u241 u242 u243 u244 u245 : Value) (w' : World), ReadPost k ea R Bu Bf s D P po m pb out code w (.returned (.tuple #[n', v5])) w' → Q .ret ⟨#[Value.pointer (some ⟨R, 0, none⟩), u1, undef, undef, n', v5, u6, u7, u8, u9, u10, u11, u12, u13, u14, u15, u16, u17, u18, u19, u20, u21, u22, u23, u24, u25, u26, u27, u28, u29, u30, u31, u32, u33, u34, u35, u36, u37, u38, u39, u40, u41, u42, u43, u44, u45, u46, u47, u48, u49, u50, u51, u52, u53, u54, u55, u56, u57, u58, u59, u60, u61, u62, u63, u64, u65, u66, u67, u68, u69, u70, u71, u72, u73, u74, u75, u76, u77, u78, u79, u80, u81, u82, u83, u84, u85, u86, u87, u88, u89, u90, u91, u92, u93, u94, u95, u96, u97, u98, u99, u100, u101, u102, u103, u104, u105, u106, u107, u108, u109, u110, u111, u112, u113, u114, u115, u116, u117, u118, u119, u120, u121, u122, u123, u124, u125, u126, u127, u128, u129, u130, u131, u132, u133, u134, u135, u136, u137, u138, u139, u140, u141, u142, u143, u144, u145, u146, u147, u148, u149, u150, u151, u152, u153, u154, u155, u156, u157, u158, u159, u160, u161, u162, u163, u164, u165, u166, u167, u168, u169, u170, u171, u172, u173, u174, u175, u176, u177, u178, u179, u180, u181, u182, u183, u184, u185, u186, u187, u188, u189, u190, u191, u192, u193, u194, u195, u196, u197, u198, u199, u200, u201, u202, u203, u204, u205, u206, u207, u208, u209, u210, u211, u212, u213, u214, u215, u216, u217, u218, u219, u220, u221, u222, u223, u224, u225, u226, u227, u228, u229, u230, u231, u232, u233, u234, u235, u236, u237, u238, u239, u240, u241, u242, u243, u244, u245, undef], []⟩ w')
    (c2 : wr.cell? ⟨R, 2, none⟩ = some (.slice (some ⟨Bf, lo, none⟩) ℓ lc)) 
    
    (hμ : 1 ≤ μ) (hℓ : ℓ = 1) (hlc : ℓ ≤ lc) 
    
    (cx : wr.cell? ⟨Bf, lo, none⟩ = some (.int .u8 61)) (hx : ∀ ad, Calls Tryd.prog 26 #[.slice (some ad) 0 (lc - 1)] wr (ErrPostA X (.int .u8 0) wr))
    (hlater : ∀ w1, Below wr.heap.size wr w1 → w1.cell? ⟨R, 2, none⟩ = some (.slice (some ⟨Bf, lo, none⟩) 1 lc))
    (hend : ∀ w1 g, Below wr.heap.size wr w1 → X g w1 → ReadPost k ea R Bu Bf s D P po m pb out code w (.returned (.tuple #[.int .i64 i, eofv g])) w1) :
    Code.wp Tryd.prog rbody (Exit.then K Q) ⟨#[Value.pointer (some ⟨R, 0, none⟩), .slice (some ⟨P, q, none⟩) μ κ, undef, undef, .int .i64 i, u5, u6, u7, u8, u9, u10, u11, u12, u13, u14, u15, u16, u17, u18, u19, u20, u21, u22, u23, u24, u25, u26, u27, u28, u29, u30, u31, u32, u33, u34, u35, u36, u37, u38, u39, u40, u41, u42, u43, u44, u45, u46, u47, u48, u49, u50, u51, u52, u53, u54, u55, u56, u57, u58, u59, u60, u61, u62, u63, u64, u65, u66, u67, u68, u69, u70, u71, u72, u73, u74, u75, u76, u77, u78, u79, u80, u81, u82, u83, u84, u85, u86, u87, u88, u89, u90, u91, u92, u93, u94, u95, u96, u97, u98, u99, u100, u101, u102, u103, u104, u105, u106, u107, u108, u109, u110, u111, u112, u113, u114, u115, u116, u117, u118, u119, u120, u121, u122, u123, u124, u125, u126, u127, u128, u129, u130, u131, u132, u133, u134, u135, u136, u137, u138, u139, u140, u141, u142, u143, u144, u145, u146, u147, u148, u149, u150, u151, u152, u153, u154, u155, u156, u157, u158, u159, u160, u161, u162, u163, u164, u165, u166, u167, u168, u169, u170, u171, u172, u173, u174, u175, u176, u177, u178, u179, u180, u181, u182, u183, u184, u185, u186, u187, u188, u189, u190, u191, u192, u193, u194, u195, u196, u197, u198, u199, u200, u201, u202, u203, u204, u205, u206, u207, u208, u209, u210, u211, u212, u213, u214, u215, u216, u217, u218, u219, u220, u221, u222, u223, u224, u225, u226, u227, u228, u229, u230, u231, u232, u233, u234, u235, u236, u237, u238, u239, u240, u241, u242, u243, u244, u245, undef], []⟩ wr := by
  have HE := Lib.hid hend
  have HQ := Lib.hid hQ
  subst hℓ
  have hμ1 : (1 : Int) ≤ μ := by omega
  have HX := Lib.hid hx
  have HL := Lib.hid hlater
  clear hend hQ hx hlater
  by_cases hl1 : lc = 1
  · subst hl1
    conv => arg 2; whnf
    go_wp2_with fail
    refine (HX.out _).mono ?_
    rintro e w1 ⟨⟨g, hXa, rfl⟩, hbel⟩
    have c2' := HL.out w1 hbel
    have HE1 := Lib.hid (HE.out w1 g hbel hXa)
    clear HX HL HE hbel hXa c2 cx
    unfold eofv at HE1 ⊢
    dsimp only
    go_wp2
    exact HQ.out _ _ _ _ _ _ _ _ _ _ _ _ _ _ _ _ _ _ _ _ _ _ _ _ _ _ _ _ _ _ _ _ _ _ _ _ _ _ _ _ _ _ _ _ _ _ _ _ _ _ _ _ _ _ _ _ _ _ _ _ _ _ _ _ _ _ _ _ _ _ _ _ _ _ _ _ _ _ _ _ _ _ _ _ _ _ _ _ _ _ _ _ _ _ _ _ _ _ _ _ _ _ _ _ _ _ _ _ _ _ _ _ _ _ _ _ _ _ _ _ _ _ _ _ _ _ _ _ _ _ _ _ _ _ _ _ _ _ _ _ _ _ _ _ _ _ _ _ _ _ _ _ _ _ _ _ _ _ _ _ _ _ _ _ _ _ _ _ _ _ _ _ _ _ _ _ _ _ _ _ _ _ _ _ _ _ _ _ _ _ _ _ _ _ _ _ _ _ _ _ _ _ _ _ _ _ _ _ _ _ _ _ _ _ _ _ _ _ _ _ _ _ _ _ _ _ _ _ _ _ _ _ _ _ _ _ _ _ _ _ _ _ _ _ HE1.out
  · skip
    conv => arg 2; whnf
    go_wp2_with fail
    refine (HX.out _).mono ?_
    rintro e w1 ⟨⟨g, hXa, rfl⟩, hbel⟩
    have c2' := HL.out w1 hbel
    have HE1 := Lib.hid (HE.out w1 g hbel hXa)
    clear HX HL HE hbel hXa c2 cx
    unfold eofv at HE1 ⊢
    dsimp only
    go_wp2
    exact HQ.out _ _ _ _ _ _ _ _ _ _ _ _ _ _ _ _ _ _ _ _ _ _ _ _ _ _ _ _ _ _ _ _ _ _ _ _ _ _ _ _ _ _ _ _ _ _ _ _ _ _ _ _ _ _ _ _ _ _ _ _ _ _ _ _ _ _ _ _ _ _ _ _ _ _ _ _ _ _ _ _ _ _ _ _ _ _ _ _ _ _ _ _ _ _ _ _ _ _ _ _ _ _ _ _ _ _ _ _ _ _ _ _ _ _ _ _ _ _ _ _ _ _ _ _ _ _ _ _ _ _ _ _ _ _ _ _ _ _ _ _ _ _ _ _ _ _ _ _ _ _ _ _ _ _ _ _ _ _ _ _ _ _ _ _ _ _ _ _ _ _ _ _ _ _ _ _ _ _ _ _ _ _ _ _ _ _ _ _ _ _ _ _ _ _ _ _ _ _ _ _ _ _ _ _ _ _ _ _ _ _ _ _ _ _ _ _ _ _ _ _ _ _ _ _ _ _ _ _ _ _ _ _ _ _ _ _ _ _ _ _ _ _ _ _ HE1.out

set_option maxRecDepth 1000000 in
set_option maxHeartbeats 6400000 in
theorem way_bad (K : Act → World → Prop) (Q : Exit → Act → World → Prop) (u5 u6 u7 u8 u9 u10 u11 u12 u13 u14 u15 u16 u17 u18 u19 u20 u21 u22 u23 u24 u25 u26 u27 u28 u29 u30 u31 u32 u33 u34 u35 u36 u37 u38 u39 u40 u41 u42 u43 u44 u45 u46 u47 u48 u49 u50 u51 u52 u53 u54 u55 u56 u57 u58 u59 u60 u61 u62 u63 u64 u65 u66 u67 u68 u69 u70 u71 u72 u73 u74 u75 u76 u77 u78 u79 u80 u81 u82 u83 u84 u85 u86 u87 u88 u89 u90 u91 u92 u93 u94 u95 u96 u97 u98 u99 u100 u101 u102 u103 u104 u105 u106 u107 u108 u109 u110 u111 u112 u113 u114 u115 u116 u117 u118 u119 u120 u121 u122 u123 u124 u125 u126 u127 u128 u129 u130 u131 u132 u133 u134 u135 u136 u137 u138 u139 u140 u141 u142 u143 u144 u145 u146 u147 u148 u149 u150 u151 u152 u153 u154 u155 u156 u157 u158 u159 u160 u161 u162 u163 u164 u165 u166 u167 u168 u169 u170 u171 u172 u173 u174 u175 u176 u177 u178 u179 u180 u181 u182 u183 u184 u185 u186 u187 u188 u189 u190 u191 u192 u193 u194 u195 u196 u197 u198 u199 u200 u201 u202 u203 u204 u205 u206 u207 u208 u209 u210 u211 u212 u213 u214 u215 u216 u217 u218 u219 u220 u221 u222 u223 u224 u225 u226 u227 u228 u229 u230 u231 u232 u233 u234 u235 u236 u237 u238 u239 u240 u241 u242 u243 u244 u245 : Value) (i μ κ q lo ℓ lc : Nat) (x : Int)
    (hQ : ∀ (u1 n' v5 u6 u7 u8 u9 u10 u11 u12 u13 u14 u15 u16 u17 u18 u19 u20 u21 u22 u23 u24 u25 u26 u27 u28 u29 u30 u31 u32 u33 u34 u35 u36 u37 u38 u39 u40 u41 u42 u43 u44 u45 u46 u47 u48 u49 u50 u51 u52 u53 u54 u55 u56 u57 u58 u59 u60 u61 u62 u63 u64 u65 u66 u67 u68 u69 u70 u71 u72 u73 u74 u75 u76 u77 u78 u79 u80 u81 u82 u83 u84 u85 u86 u87 u88 u89 u90 u91 u92 u93 u94 u95 u96 u97 u98 u99 u100 u101 u102 u103 u104 u105 u106 u107 u108 u109 u110 u111 u112 u113 u114 u115 u116 u117 u118 u119 u120 u121 u122 u123 u124 u125 u126 u127 u128 u129 u130 u131 u132 u133 u134 u135 u136 u137 u138 u139 u140 u141 u142 u143 u144 u145 u146 u147 u148 u149 u150 u151 u152 u153 u154 u155 u156 u157 u158 u159 u160 u161 u162 u163 u164 u165 u166 u167 u168 u169 u170 u171 u172 u173 u174 u175 u176 u177 u178 u179 u180 u181 u182 u183 u184 u185 u186 u187 u188 u189 u190 u191 u192 u193 u194 u195 u196 u197 u198 u199 u200 u201 u202 u203 u204 u205 u206 u207 u208 u209 u210 u211 u212 u213 u214 u215 u216 u217 u218 u219 u220 u221 u222 u223 u224 u225 u226 u227 u228 u229 u230 u231 u232 u233 u234 u235 u236 u237 u238 u239 u240 u241 u242 u243 u244 u245 : Value) (w' : World), ReadPost k ea R Bu Bf s D P po m pb out code w (.returned (.tuple #[n', v5])) w' → Q .ret ⟨#[Value.pointer (some ⟨R, 0, none⟩), u1, undef, undef, n', v5, u6, u7, u8, u9, u10, u11, u12, u13, u14, u15, u16, u17, u18, u19, u20, u21, u22, u23, u24, u25, u26, u27, u28, u29, u30, u31, u32, u33, u34, u35, u36, u37, u38, u39, u40, u41, u42, u43, u44, u45, u46, u47, u48, u49, u50, u51, u52, u53, u54, u55, u56, u57, u58, u59, u60, u61, u62, u63, u64, u65, u66, u67, u68, u69, u70, u71, u72, u73, u74, u75, u76, u77, u78, u79, u80, u81, u82, u83, u84, u85, u86, u87, u88, u89, u90, u91, u92, u93, u94, u95, u96, u97, u98, u99, u100, u101, u102, u103, u104, u105, u106, u107, u108, u109, u110, u111, u112, u113, u114, u115, u116, u117, u118, u119, u120, u121, u122, u123, u124, u125, u126, u127, u128, u129, u130, u131, u132, u133, u134, u135, u136, u137, u138, u139, u140, u141, u142, u143, u144, u145, u146, u147, u148, u149, u150, u151, u152, u153, u154, u155, u156, u157, u158, u159, u160, u161, u162, u163, u164, u165, u166, u167, u168, u169, u170, u171, u172, u173, u174, u175, u176, u177, u178, u179, u180, u181, u182, u183, u184, u185, u186, u187, u188, u189, u190, u191, u192, u193, u194, u195, u196, u197, u198, u199, u200, u201, u202, u203, u204, u205, u206, u207, u208, u209, u210, u211, u212, u213, u214, u215, u216, u217, u218, u219, u220, u221, u222, u223, u224, u225, u226, u227, u228, u229, u230, u231, u232, u233, u234, u235, u236, u237, u238, u239, u240, u241, u242, u243, u244, u245, undef], []⟩ w')
    (c2 : wr.cell? ⟨R, 2, none⟩ = some (.slice (some ⟨Bf, lo, none⟩) ℓ lc)) (hμ : 1 ≤ μ) (hℓ : 1 ≤ ℓ)
    (cx : wr.cell? ⟨Bf, lo, none⟩ = some (.int .u8 x)) (hx : (x < 32 ∧ ¬ x = 9 ∧ ¬ x = 10 ∧ ¬ x = 13) ∨ x = 127)
    (hend : ∀ w1 g, Below wr.heap.size wr w1 → wr.heap.size ≤ g → (∃ s, w1.heap[g]? = some (.cells #[.string s] 86 (0, 0))) → ReadPost k ea R Bu Bf s D P po m pb out code w (.returned (.tuple #[.int .i64 i, errv g])) w1) :
    Code.wp Tryd.prog rbody (Exit.then K Q) ⟨#[Value.pointer (some ⟨R, 0, none⟩), .slice (some ⟨P, q, none⟩) μ κ, undef, undef, .int .i64 i, u5, u6, u7, u8, u9, u10, u11, u12, u13, u14, u15, u16, u17, u18, u19, u20, u21, u22, u23, u24, u25, u26, u27, u28, u29, u30, u31, u32, u33, u34, u35, u36, u37, u38, u39, u40, u41, u42, u43, u44, u45, u46, u47, u48, u49, u50, u51, u52, u53, u54, u55, u56, u57, u58, u59, u60, u61, u62, u63, u64, u65, u66, u67, u68, u69, u70, u71, u72, u73, u74, u75, u76, u77, u78, u79, u80, u81, u82, u83, u84, u85, u86, u87, u88, u89, u90, u91, u92, u93, u94, u95, u96, u97, u98, u99, u100, u101, u102, u103, u104, u105, u106, u107, u108, u109, u110, u111, u112, u113, u114, u115, u116, u117, u118, u119, u120, u121, u122, u123, u124, u125, u126, u127, u128, u129, u130, u131, u132, u133, u134, u135, u136, u137, u138, u139, u140, u141, u142, u143, u144, u145, u146, u147, u148, u149, u150, u151, u152, u153, u154, u155, u156, u157, u158, u159, u160, u161, u162, u163, u164, u165, u166, u167, u168, u169, u170, u171, u172, u173, u174, u175, u176, u177, u178, u179, u180, u181, u182, u183, u184, u185, u186, u187, u188, u189, u190, u191, u192, u193, u194, u195, u196, u197, u198, u199, u200, u201, u202, u203, u204, u205, u206, u207, u208, u209, u210, u211, u212, u213, u214, u215, u216, u217, u218, u219, u220, u221, u222, u223, u224, u225, u226, u227, u228, u229, u230, u231, u232, u233, u234, u235, u236, u237, u238, u239, u240, u241, u242, u243, u244, u245, undef], []⟩ wr := by
  have HE := Lib.hid (fun s => hend (wr.alloc (.cells #[.string s] 86)) wr.heap.size ((Below.refl _ _).alloc (Nat.le_refl _) _) (Nat.le_refl _) ⟨s, heap_alloc_new _ _⟩)
  have HQ := Lib.hid hQ
  have hμ1 : (1 : Int) ≤ μ := by omega
  have hℓ1 : (1 : Int) ≤ ℓ := by omega
  have hℓ0 : ((ℓ : Int) == 0) = false := beq_eq_false_iff_ne.2 (by omega)
  have j61 : (x == 61) = false := beq_eq_false_iff_ne.2 (by omega)
  have j9 : (x == 9) = false := beq_eq_false_iff_ne.2 (by omega)
  have j10 : (x == 10) = false := beq_eq_false_iff_ne.2 (by omega)
  have j13 : (x == 13) = false := beq_eq_false_iff_ne.2 (by omega)
  have j128 : x < 128 := by omega
  have hx' : x < 32 ∨ 126 < x := by omega
  clear hend hQ hx
  rcases hx' with hx' | hx'
  all_goals (
    conv => arg 2; whnf
    go_wp2_with fail
    refine (errnew_any _ _).mono ?_
    rintro e w1 ⟨rfl, rfl⟩
    unfold errv at HE ⊢
    dsimp only
    go_wp2
    exact HQ.out _ _ _ _ _ _ _ _ _ _ _ _ _ _ _ _ _ _ _ _ _ _ _ _ _ _ _ _ _ _ _ _ _ _ _ _ _ _ _ _ _ _ _ _ _ _ _ _ _ _ _ _ _ _ _ _ _ _ _ _ _ _ _ _ _ _ _ _ _ _ _ _ _ _ _ _ _ _ _ _ _ _ _ _ _ _ _ _ _ _ _ _ _ _ _ _ _ _ _ _ _ _ _ _ _ _ _ _ _ _ _ _ _ _ _ _ _ _ _ _ _ _ _ _ _ _ _ _ _ _ _ _ _ _ _ _ _ _ _ _ _ _ _ _ _ _ _ _ _ _ _ _ _ _ _ _ _ _ _ _ _ _ _ _ _ _ _ _ _ _ _ _ _ _ _ _ _ _ _ _ _ _ _ _ _ _ _ _ _ _ _ _ _ _ _ _ _ _ _ _ _ _ _ _ _ _ _ _ _ _ _ _ _ _ _ _ _ _ _ _ _ _ _ _ _ _ _ _ _ _ _ _ _ _ _ _ _ _ _ _ _ _ _ _ (HE.out _))

end
end Go.Proofs.YtcbolmendjocbaaDoor

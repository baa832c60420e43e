/- Read's other ways: the end of p, the end of the text, a byte (printed by new64.py). -/
import Derived.Test.YtcbolmendjocbaaDoorRq2
import Derived.Test.YtcbolmendjocbaaDoorRq3
import Derived.Test.YtcbolmendjocbaaDoorRq9
namespace Go.Proofs.YtcbolmendjocbaaDoor
open Go.RowKit Qp

theorem lv_rest {w : World} {Bf lo n c : Nat} {y : UInt8} {r : List UInt8} {lv : Value} (h : Bs w (.slice (some ⟨Bf, lo, none⟩) n c) (y :: r))
    (hlv : (c = 1 ∧ lv = .slice (some ⟨Bf, lo, none⟩) (n - 1) 0) ∨ (¬ c = 1 ∧ lv = .slice (some ⟨Bf, lo + 1, none⟩) (n - 1) (c - 1))) : Bs w lv r ∧ lv.ownBlock = some Bf := by
  obtain ⟨hn, hc, hm, -⟩ := bs_at h
  have hr := Bs.rest h 1 (by simp)
  simp only [List.length_cons] at hn
  rcases hlv with ⟨h1, rfl⟩ | ⟨h1, rfl⟩
  · have : r = [] := List.eq_nil_of_length_eq_zero (by omega)
    subst this
    subst hn
    exact ⟨⟨some ⟨Bf, lo, none⟩, 0, rfl, Nat.le_refl _, by omega, (fun e => by cases e), fun e => absurd rfl e⟩, rfl⟩
  · exact ⟨hr, rfl⟩
theorem pv_rest {P po i m mc : Nat} {pv : Value} (_hi : i < m) (hm : m ≤ mc)
    (h : (mc - i = 1 ∧ pv = .slice (some ⟨P, po + i, none⟩) (m - i - 1) 0) ∨ (¬ mc - i = 1 ∧ pv = .slice (some ⟨P, po + i + 1, none⟩) (m - i - 1) (mc - i - 1))) :
    ∃ ap', pv = .slice ap' (m - (i + 1)) (mc - (i + 1)) ∧ (i + 1 < m → ap' = some ⟨P, po + (i + 1), none⟩) := by
  rcases h with ⟨h1, rfl⟩ | ⟨h1, rfl⟩
  · refine ⟨some ⟨P, po + i, none⟩, ?_, fun h => by omega⟩
    rw [show m - i - 1 = m - (i + 1) by omega, show mc - (i + 1) = 0 by omega]
  · exact ⟨some ⟨P, po + i + 1, none⟩, by rw [Nat.sub_sub, Nat.sub_sub], fun _ => by rw [Nat.add_assoc]⟩

section
variable {k : Bool} {ea : Addr} {R Bu Bf s D P po m mc : Nat} {pb out : List UInt8} {code : Nat} {w wr : World} {gk : Nat}

theorem stop_post {st : RS} {ev lv v : Value} {r n i : Nat} {buf d : List UInt8} {w1 : World} (_hB : Blocks R Bu Bf s D P) (_h : QAt k ea R Bu Bf s D wr st ev lv r n buf d) (hst : strm st = (out.drop i, code)) (hio : i ≤ out.length) (him : i < m)
    (hs : (strm st).1 = []) (hc : code ≠ 0) (hv : ErrIs ea code v ∧ (code = 2 → ErrV R Bu Bf s ea w1 v)) (hrow : RowB wr P (splice pb po (out.take i))) (hkeep : Keep (Rmay R Bu Bf s P) w wr) (hk : Keep (fun _ => False) wr w1) :
    ReadPost k ea R Bu Bf s D P po m pb out code w (.returned (.tuple #[.int .i64 i, v])) w1 := by
  rw [hst] at hs
  have hl : out.length = i := by
    have := congrArg List.length hs
    simp at this; omega
  have e : out.take m = out.take i := by rw [List.take_of_length_le (by omega), List.take_of_length_le (by omega)]
  exact ⟨by rw [e]; exact hrow.keep hk id, hkeep.trans hk (fun _ _ h => h.elim), .inr ⟨by omega, v, hv, hc, by rw [hl]⟩⟩

set_option maxRecDepth 1000000 in
set_option maxHeartbeats 6400000 in
theorem way_exit (K : Act → World → Prop) (Q : Exit → Act → World → Prop) (u5 u6 u7 u8 u9 u10 u11 u12 u13 u14 u15 u16 u17 u18 u19 u20 u21 u22 u23 u24 u25 u26 u27 u28 u29 u30 u31 u32 u33 u34 u35 u36 u37 u38 u39 u40 u41 u42 u43 u44 u45 u46 u47 u48 u49 u50 u51 u52 u53 u54 u55 u56 u57 u58 u59 u60 u61 u62 u63 u64 u65 u66 u67 u68 u69 u70 u71 u72 u73 u74 u75 u76 u77 u78 u79 u80 u81 u82 u83 u84 u85 u86 u87 u88 u89 u90 u91 u92 u93 u94 u95 u96 u97 u98 u99 u100 u101 u102 u103 u104 u105 u106 u107 u108 u109 u110 u111 u112 u113 u114 u115 u116 u117 u118 u119 u120 u121 u122 u123 u124 u125 u126 u127 u128 u129 u130 u131 u132 u133 u134 u135 u136 u137 u138 u139 u140 u141 u142 u143 u144 u145 u146 u147 u148 u149 u150 u151 u152 u153 u154 u155 u156 u157 u158 u159 u160 u161 u162 u163 u164 u165 u166 u167 u168 u169 u170 u171 u172 u173 u174 u175 u176 u177 u178 u179 u180 u181 u182 u183 u184 u185 u186 u187 u188 u189 u190 u191 u192 u193 u194 u195 u196 u197 u198 u199 u200 u201 u202 u203 u204 u205 u206 u207 u208 u209 u210 u211 u212 u213 u214 u215 u216 u217 u218 u219 u220 u221 u222 u223 u224 u225 u226 u227 u228 u229 u230 u231 u232 u233 u234 u235 u236 u237 u238 u239 u240 u241 u242 u243 u244 u245 : Value) (κ : Nat) (ap : Option Addr) (nv : Value)
    (hX : ∀ (u5 u6 u7 u8 u9 u10 u11 u12 u13 u14 u15 u16 u17 u18 u19 u20 u21 u22 u23 u24 u25 u26 u27 u28 u29 u30 u31 u32 u33 u34 u35 u36 u37 u38 u39 u40 u41 u42 u43 u44 u45 u46 u47 u48 u49 u50 u51 u52 u53 u54 u55 u56 u57 u58 u59 u60 u61 u62 u63 u64 u65 u66 u67 u68 u69 u70 u71 u72 u73 u74 u75 u76 u77 u78 u79 u80 u81 u82 u83 u84 u85 u86 u87 u88 u89 u90 u91 u92 u93 u94 u95 u96 u97 u98 u99 u100 u101 u102 u103 u104 u105 u106 u107 u108 u109 u110 u111 u112 u113 u114 u115 u116 u117 u118 u119 u120 u121 u122 u123 u124 u125 u126 u127 u128 u129 u130 u131 u132 u133 u134 u135 u136 u137 u138 u139 u140 u141 u142 u143 u144 u145 u146 u147 u148 u149 u150 u151 u152 u153 u154 u155 u156 u157 u158 u159 u160 u161 u162 u163 u164 u165 u166 u167 u168 u169 u170 u171 u172 u173 u174 u175 u176 u177 u178 u179 u180 u181 u182 u183 u184 u185 u186 u187 u188 u189 u190 u191 u192 u193 u194 u195 u196 u197 u198 u199 u200 u201 u202 u203 u204 u205 u206 u207 u208 u209 u210 u211 u212 u213 u214 u215 u216 u217 u218 u219 u220 u221 u222 u223 u224 u225 u226 u227 u228 u229 u230 u231 u232 u233 u234 u235 u236 u237 u238 u239 u240 u241 u242 u243 u244 u245 : Value), Q (.exit 0) ⟨#[Value.pointer (some ⟨R, 0, none⟩), .slice ap 0 κ, undef, undef, nv, u5, u6, u7, u8, u9, u10, u11, u12, u13, u14, u15, u16, u17, u18, u19, u20, u21, u22, u23, u24, u25, u26, u27, u28, u29, u30, u31, u32, u33, u34, u35, u36, u37, u38, u39, u40, u41, u42, u43, u44, u45, u46, u47, u48, u49, u50, u51, u52, u53, u54, u55, u56, u57, u58, u59, u60, u61, u62, u63, u64, u65, u66, u67, u68, u69, u70, u71, u72, u73, u74, u75, u76, u77, u78, u79, u80, u81, u82, u83, u84, u85, u86, u87, u88, u89, u90, u91, u92, u93, u94, u95, u96, u97, u98, u99, u100, u101, u102, u103, u104, u105, u106, u107, u108, u109, u110, u111, u112, u113, u114, u115, u116, u117, u118, u119, u120, u121, u122, u123, u124, u125, u126, u127, u128, u129, u130, u131, u132, u133, u134, u135, u136, u137, u138, u139, u140, u141, u142, u143, u144, u145, u146, u147, u148, u149, u150, u151, u152, u153, u154, u155, u156, u157, u158, u159, u160, u161, u162, u163, u164, u165, u166, u167, u168, u169, u170, u171, u172, u173, u174, u175, u176, u177, u178, u179, u180, u181, u182, u183, u184, u185, u186, u187, u188, u189, u190, u191, u192, u193, u194, u195, u196, u197, u198, u199, u200, u201, u202, u203, u204, u205, u206, u207, u208, u209, u210, u211, u212, u213, u214, u215, u216, u217, u218, u219, u220, u221, u222, u223, u224, u225, u226, u227, u228, u229, u230, u231, u232, u233, u234, u235, u236, u237, u238, u239, u240, u241, u242, u243, u244, u245, undef], []⟩ wr) :
    Code.wp Tryd.prog rbody (Exit.then K Q) ⟨#[Value.pointer (some ⟨R, 0, none⟩), .slice ap 0 κ, undef, undef, nv, u5, u6, u7, u8, u9, u10, u11, u12, u13, u14, u15, u16, u17, u18, u19, u20, u21, u22, u23, u24, u25, u26, u27, u28, u29, u30, u31, u32, u33, u34, u35, u36, u37, u38, u39, u40, u41, u42, u43, u44, u45, u46, u47, u48, u49, u50, u51, u52, u53, u54, u55, u56, u57, u58, u59, u60, u61, u62, u63, u64, u65, u66, u67, u68, u69, u70, u71, u72, u73, u74, u75, u76, u77, u78, u79, u80, u81, u82, u83, u84, u85, u86, u87, u88, u89, u90, u91, u92, u93, u94, u95, u96, u97, u98, u99, u100, u101, u102, u103, u104, u105, u106, u107, u108, u109, u110, u111, u112, u113, u114, u115, u116, u117, u118, u119, u120, u121, u122, u123, u124, u125, u126, u127, u128, u129, u130, u131, u132, u133, u134, u135, u136, u137, u138, u139, u140, u141, u142, u143, u144, u145, u146, u147, u148, u149, u150, u151, u152, u153, u154, u155, u156, u157, u158, u159, u160, u161, u162, u163, u164, u165, u166, u167, u168, u169, u170, u171, u172, u173, u174, u175, u176, u177, u178, u179, u180, u181, u182, u183, u184, u185, u186, u187, u188, u189, u190, u191, u192, u193, u194, u195, u196, u197, u198, u199, u200, u201, u202, u203, u204, u205, u206, u207, u208, u209, u210, u211, u212, u213, u214, u215, u216, u217, u218, u219, u220, u221, u222, u223, u224, u225, u226, u227, u228, u229, u230, u231, u232, u233, u234, u235, u236, u237, u238, u239, u240, u241, u242, u243, u244, u245, undef], []⟩ wr := by
  have HX := Lib.hid hX
  clear hX
  conv => arg 2; whnf
  go_wp2
  exact HX.out _ _ _ _ _ _ _ _ _ _ _ _ _ _ _ _ _ _ _ _ _ _ _ _ _ _ _ _ _ _ _ _ _ _ _ _ _ _ _ _ _ _ _ _ _ _ _ _ _ _ _ _ _ _ _ _ _ _ _ _ _ _ _ _ _ _ _ _ _ _ _ _ _ _ _ _ _ _ _ _ _ _ _ _ _ _ _ _ _ _ _ _ _ _ _ _ _ _ _ _ _ _ _ _ _ _ _ _ _ _ _ _ _ _ _ _ _ _ _ _ _ _ _ _ _ _ _ _ _ _ _ _ _ _ _ _ _ _ _ _ _ _ _ _ _ _ _ _ _ _ _ _ _ _ _ _ _ _ _ _ _ _ _ _ _ _ _ _ _ _ _ _ _ _ _ _ _ _ _ _ _ _ _ _ _ _ _ _ _ _ _ _ _ _ _ _ _ _ _ _ _ _ _ _ _ _ _ _ _ _ _ _ _ _ _ _ _ _ _ _ _ _ _ _ _ _ _ _ _ _ _ _ _ _ _ _ _ _ _ _ _

set_option maxRecDepth 1000000 in
set_option maxHeartbeats 6400000 in
theorem way_end (K : Act → World → Prop) (Q : Exit → Act → World → Prop) (u5 u6 u7 u8 u9 u10 u11 u12 u13 u14 u15 u16 u17 u18 u19 u20 u21 u22 u23 u24 u25 u26 u27 u28 u29 u30 u31 u32 u33 u34 u35 u36 u37 u38 u39 u40 u41 u42 u43 u44 u45 u46 u47 u48 u49 u50 u51 u52 u53 u54 u55 u56 u57 u58 u59 u60 u61 u62 u63 u64 u65 u66 u67 u68 u69 u70 u71 u72 u73 u74 u75 u76 u77 u78 u79 u80 u81 u82 u83 u84 u85 u86 u87 u88 u89 u90 u91 u92 u93 u94 u95 u96 u97 u98 u99 u100 u101 u102 u103 u104 u105 u106 u107 u108 u109 u110 u111 u112 u113 u114 u115 u116 u117 u118 u119 u120 u121 u122 u123 u124 u125 u126 u127 u128 u129 u130 u131 u132 u133 u134 u135 u136 u137 u138 u139 u140 u141 u142 u143 u144 u145 u146 u147 u148 u149 u150 u151 u152 u153 u154 u155 u156 u157 u158 u159 u160 u161 u162 u163 u164 u165 u166 u167 u168 u169 u170 u171 u172 u173 u174 u175 u176 u177 u178 u179 u180 u181 u182 u183 u184 u185 u186 u187 u188 u189 u190 u191 u192 u193 u194 u195 u196 u197 u198 u199 u200 u201 u202 u203 u204 u205 u206 u207 u208 u209 u210 u211 u212 u213 u214 u215 u216 u217 u218 u219 u220 u221 u222 u223 u224 u225 u226 u227 u228 u229 u230 u231 u232 u233 u234 u235 u236 u237 u238 u239 u240 u241 u242 u243 u244 u245 : Value) (i μ κ lc : Nat) (ap al ad : Option Addr) (T : TypeId)
    (hQ : ∀ (u1 n' v5 u6 u7 u8 u9 u10 u11 u12 u13 u14 u15 u16 u17 u18 u19 u20 u21 u22 u23 u24 u25 u26 u27 u28 u29 u30 u31 u32 u33 u34 u35 u36 u37 u38 u39 u40 u41 u42 u43 u44 u45 u46 u47 u48 u49 u50 u51 u52 u53 u54 u55 u56 u57 u58 u59 u60 u61 u62 u63 u64 u65 u66 u67 u68 u69 u70 u71 u72 u73 u74 u75 u76 u77 u78 u79 u80 u81 u82 u83 u84 u85 u86 u87 u88 u89 u90 u91 u92 u93 u94 u95 u96 u97 u98 u99 u100 u101 u102 u103 u104 u105 u106 u107 u108 u109 u110 u111 u112 u113 u114 u115 u116 u117 u118 u119 u120 u121 u122 u123 u124 u125 u126 u127 u128 u129 u130 u131 u132 u133 u134 u135 u136 u137 u138 u139 u140 u141 u142 u143 u144 u145 u146 u147 u148 u149 u150 u151 u152 u153 u154 u155 u156 u157 u158 u159 u160 u161 u162 u163 u164 u165 u166 u167 u168 u169 u170 u171 u172 u173 u174 u175 u176 u177 u178 u179 u180 u181 u182 u183 u184 u185 u186 u187 u188 u189 u190 u191 u192 u193 u194 u195 u196 u197 u198 u199 u200 u201 u202 u203 u204 u205 u206 u207 u208 u209 u210 u211 u212 u213 u214 u215 u216 u217 u218 u219 u220 u221 u222 u223 u224 u225 u226 u227 u228 u229 u230 u231 u232 u233 u234 u235 u236 u237 u238 u239 u240 u241 u242 u243 u244 u245 : Value) (w' : World), ReadPost k ea R Bu Bf s D P po m pb out code w (.returned (.tuple #[n', v5])) w' → Q .ret ⟨#[Value.pointer (some ⟨R, 0, none⟩), u1, undef, undef, n', v5, u6, u7, u8, u9, u10, u11, u12, u13, u14, u15, u16, u17, u18, u19, u20, u21, u22, u23, u24, u25, u26, u27, u28, u29, u30, u31, u32, u33, u34, u35, u36, u37, u38, u39, u40, u41, u42, u43, u44, u45, u46, u47, u48, u49, u50, u51, u52, u53, u54, u55, u56, u57, u58, u59, u60, u61, u62, u63, u64, u65, u66, u67, u68, u69, u70, u71, u72, u73, u74, u75, u76, u77, u78, u79, u80, u81, u82, u83, u84, u85, u86, u87, u88, u89, u90, u91, u92, u93, u94, u95, u96, u97, u98, u99, u100, u101, u102, u103, u104, u105, u106, u107, u108, u109, u110, u111, u112, u113, u114, u115, u116, u117, u118, u119, u120, u121, u122, u123, u124, u125, u126, u127, u128, u129, u130, u131, u132, u133, u134, u135, u136, u137, u138, u139, u140, u141, u142, u143, u144, u145, u146, u147, u148, u149, u150, u151, u152, u153, u154, u155, u156, u157, u158, u159, u160, u161, u162, u163, u164, u165, u166, u167, u168, u169, u170, u171, u172, u173, u174, u175, u176, u177, u178, u179, u180, u181, u182, u183, u184, u185, u186, u187, u188, u189, u190, u191, u192, u193, u194, u195, u196, u197, u198, u199, u200, u201, u202, u203, u204, u205, u206, u207, u208, u209, u210, u211, u212, u213, u214, u215, u216, u217, u218, u219, u220, u221, u222, u223, u224, u225, u226, u227, u228, u229, u230, u231, u232, u233, u234, u235, u236, u237, u238, u239, u240, u241, u242, u243, u244, u245, undef], []⟩ w')
    (c1 : wr.cell? ⟨R, 1, none⟩ = some (.iface T (.pointer ad))) (c2 : wr.cell? ⟨R, 2, none⟩ = some (.slice al 0 lc)) (hμ : 1 ≤ μ)
    (hend : ∀ w', Keep (fun _ => False) wr w' → ReadPost k ea R Bu Bf s D P po m pb out code w (.returned (.tuple #[.int .i64 i, .iface T (.pointer ad)])) w') :
    Code.wp Tryd.prog rbody (Exit.then K Q) ⟨#[Value.pointer (some ⟨R, 0, none⟩), .slice ap μ κ, undef, undef, .int .i64 i, u5, u6, u7, u8, u9, u10, u11, u12, u13, u14, u15, u16, u17, u18, u19, u20, u21, u22, u23, u24, u25, u26, u27, u28, u29, u30, u31, u32, u33, u34, u35, u36, u37, u38, u39, u40, u41, u42, u43, u44, u45, u46, u47, u48, u49, u50, u51, u52, u53, u54, u55, u56, u57, u58, u59, u60, u61, u62, u63, u64, u65, u66, u67, u68, u69, u70, u71, u72, u73, u74, u75, u76, u77, u78, u79, u80, u81, u82, u83, u84, u85, u86, u87, u88, u89, u90, u91, u92, u93, u94, u95, u96, u97, u98, u99, u100, u101, u102, u103, u104, u105, u106, u107, u108, u109, u110, u111, u112, u113, u114, u115, u116, u117, u118, u119, u120, u121, u122, u123, u124, u125, u126, u127, u128, u129, u130, u131, u132, u133, u134, u135, u136, u137, u138, u139, u140, u141, u142, u143, u144, u145, u146, u147, u148, u149, u150, u151, u152, u153, u154, u155, u156, u157, u158, u159, u160, u161, u162, u163, u164, u165, u166, u167, u168, u169, u170, u171, u172, u173, u174, u175, u176, u177, u178, u179, u180, u181, u182, u183, u184, u185, u186, u187, u188, u189, u190, u191, u192, u193, u194, u195, u196, u197, u198, u199, u200, u201, u202, u203, u204, u205, u206, u207, u208, u209, u210, u211, u212, u213, u214, u215, u216, u217, u218, u219, u220, u221, u222, u223, u224, u225, u226, u227, u228, u229, u230, u231, u232, u233, u234, u235, u236, u237, u238, u239, u240, u241, u242, u243, u244, u245, undef], []⟩ wr := by
  have HE := Lib.hid hend
  have HQ := Lib.hid hQ
  have hμ1 : (1 : Int) ≤ μ := by omega
  clear hend hQ
  conv => arg 2; whnf
  go_wp2
  go_quiet (fail)
  go_wp2
  exact HQ.out _ _ _ _ _ _ _ _ _ _ _ _ _ _ _ _ _ _ _ _ _ _ _ _ _ _ _ _ _ _ _ _ _ _ _ _ _ _ _ _ _ _ _ _ _ _ _ _ _ _ _ _ _ _ _ _ _ _ _ _ _ _ _ _ _ _ _ _ _ _ _ _ _ _ _ _ _ _ _ _ _ _ _ _ _ _ _ _ _ _ _ _ _ _ _ _ _ _ _ _ _ _ _ _ _ _ _ _ _ _ _ _ _ _ _ _ _ _ _ _ _ _ _ _ _ _ _ _ _ _ _ _ _ _ _ _ _ _ _ _ _ _ _ _ _ _ _ _ _ _ _ _ _ _ _ _ _ _ _ _ _ _ _ _ _ _ _ _ _ _ _ _ _ _ _ _ _ _ _ _ _ _ _ _ _ _ _ _ _ _ _ _ _ _ _ _ _ _ _ _ _ _ _ _ _ _ _ _ _ _ _ _ _ _ _ _ _ _ _ _ _ _ _ _ _ _ _ _ _ _ _ _ _ _ _ _ _ _ _ _ _ _ _ _ (HE.out _ ((Keep.refl _ _).drewN _))

set_option maxRecDepth 1000000 in
set_option maxHeartbeats 6400000 in
theorem byte_next (K : Act → World → Prop) (Q : Exit → Act → World → Prop) (u5 u6 u7 u8 u9 u10 u11 u12 u13 u14 u15 u16 u17 u18 u19 u20 u21 u22 u23 u24 u25 u26 u27 u28 u29 u30 u31 u32 u33 u34 u35 u36 u37 u38 u39 u40 u41 u42 u43 u44 u45 u46 u47 u48 u49 u50 u51 u52 u53 u54 u55 u56 u57 u58 u59 u60 u61 u62 u63 u64 u65 u66 u67 u68 u69 u70 u71 u72 u73 u74 u75 u76 u77 u78 u79 u80 u81 u82 u83 u84 u85 u86 u87 u88 u89 u90 u91 u92 u93 u94 u95 u96 u97 u98 u99 u100 u101 u102 u103 u104 u105 u106 u107 u108 u109 u110 u111 u112 u113 u114 u115 u116 u117 u118 u119 u120 u121 u122 u123 u124 u125 u126 u127 u128 u129 u130 u131 u132 u133 u134 u135 u136 u137 u138 u139 u140 u141 u142 u143 u144 u145 u146 u147 u148 u149 u150 u151 u152 u153 u154 u155 u156 u157 u158 u159 u160 u161 u162 u163 u164 u165 u166 u167 u168 u169 u170 u171 u172 u173 u174 u175 u176 u177 u178 u179 u180 u181 u182 u183 u184 u185 u186 u187 u188 u189 u190 u191 u192 u193 u194 u195 u196 u197 u198 u199 u200 u201 u202 u203 u204 u205 u206 u207 u208 u209 u210 u211 u212 u213 u214 u215 u216 u217 u218 u219 u220 u221 u222 u223 u224 u225 u226 u227 u228 u229 u230 u231 u232 u233 u234 u235 u236 u237 u238 u239 u240 u241 u242 u243 u244 u245 : Value) {st : RS} {ev lv : Value} {r n : Nat} {buf d : List UInt8} (i : Nat)
    (hB : Blocks R Bu Bf s D P) (h : QAt k ea R Bu Bf s D wr st ev lv r n buf d) (hst : strm st = (out.drop i, code))
    (hi : i < m) (hio : i ≤ out.length) (hmc : m ≤ mc) (hm : m ≤ 1099511627776) (hpm : po + m ≤ pb.length) (hrow : RowB wr P (splice pb po (out.take i))) (hkeep : Keep (Rmay R Bu Bf s P) w wr) (hgk : gk = meas st) {b : UInt8} {r' : List UInt8} (hl : st.line = b :: r')
    (hK : ∀ (pv nv u5 u6 u7 u8 u9 u10 u11 u12 u13 u14 u15 u16 u17 u18 u19 u20 u21 u22 u23 u24 u25 u26 u27 u28 u29 u30 u31 u32 u33 u34 u35 u36 u37 u38 u39 u40 u41 u42 u43 u44 u45 u46 u47 u48 u49 u50 u51 u52 u53 u54 u55 u56 u57 u58 u59 u60 u61 u62 u63 u64 u65 u66 u67 u68 u69 u70 u71 u72 u73 u74 u75 u76 u77 u78 u79 u80 u81 u82 u83 u84 u85 u86 u87 u88 u89 u90 u91 u92 u93 u94 u95 u96 u97 u98 u99 u100 u101 u102 u103 u104 u105 u106 u107 u108 u109 u110 u111 u112 u113 u114 u115 u116 u117 u118 u119 u120 u121 u122 u123 u124 u125 u126 u127 u128 u129 u130 u131 u132 u133 u134 u135 u136 u137 u138 u139 u140 u141 u142 u143 u144 u145 u146 u147 u148 u149 u150 u151 u152 u153 u154 u155 u156 u157 u158 u159 u160 u161 u162 u163 u164 u165 u166 u167 u168 u169 u170 u171 u172 u173 u174 u175 u176 u177 u178 u179 u180 u181 u182 u183 u184 u185 u186 u187 u188 u189 u190 u191 u192 u193 u194 u195 u196 u197 u198 u199 u200 u201 u202 u203 u204 u205 u206 u207 u208 u209 u210 u211 u212 u213 u214 u215 u216 u217 u218 u219 u220 u221 u222 u223 u224 u225 u226 u227 u228 u229 u230 u231 u232 u233 u234 u235 u236 u237 u238 u239 u240 u241 u242 u243 u244 u245 : Value) (w' : World), RdNext k ea R Bu Bf s D P po m mc pb out code w gk pv nv w' → K ⟨#[Value.pointer (some ⟨R, 0, none⟩), pv, undef, undef, nv, u5, u6, u7, u8, u9, u10, u11, u12, u13, u14, u15, u16, u17, u18, u19, u20, u21, u22, u23, u24, u25, u26, u27, u28, u29, u30, u31, u32, u33, u34, u35, u36, u37, u38, u39, u40, u41, u42, u43, u44, u45, u46, u47, u48, u49, u50, u51, u52, u53, u54, u55, u56, u57, u58, u59, u60, u61, u62, u63, u64, u65, u66, u67, u68, u69, u70, u71, u72, u73, u74, u75, u76, u77, u78, u79, u80, u81, u82, u83, u84, u85, u86, u87, u88, u89, u90, u91, u92, u93, u94, u95, u96, u97, u98, u99, u100, u101, u102, u103, u104, u105, u106, u107, u108, u109, u110, u111, u112, u113, u114, u115, u116, u117, u118, u119, u120, u121, u122, u123, u124, u125, u126, u127, u128, u129, u130, u131, u132, u133, u134, u135, u136, u137, u138, u139, u140, u141, u142, u143, u144, u145, u146, u147, u148, u149, u150, u151, u152, u153, u154, u155, u156, u157, u158, u159, u160, u161, u162, u163, u164, u165, u166, u167, u168, u169, u170, u171, u172, u173, u174, u175, u176, u177, u178, u179, u180, u181, u182, u183, u184, u185, u186, u187, u188, u189, u190, u191, u192, u193, u194, u195, u196, u197, u198, u199, u200, u201, u202, u203, u204, u205, u206, u207, u208, u209, u210, u211, u212, u213, u214, u215, u216, u217, u218, u219, u220, u221, u222, u223, u224, u225, u226, u227, u228, u229, u230, u231, u232, u233, u234, u235, u236, u237, u238, u239, u240, u241, u242, u243, u244, u245, undef], []⟩ w')
    (hQ : ∀ (u1 n' v5 u6 u7 u8 u9 u10 u11 u12 u13 u14 u15 u16 u17 u18 u19 u20 u21 u22 u23 u24 u25 u26 u27 u28 u29 u30 u31 u32 u33 u34 u35 u36 u37 u38 u39 u40 u41 u42 u43 u44 u45 u46 u47 u48 u49 u50 u51 u52 u53 u54 u55 u56 u57 u58 u59 u60 u61 u62 u63 u64 u65 u66 u67 u68 u69 u70 u71 u72 u73 u74 u75 u76 u77 u78 u79 u80 u81 u82 u83 u84 u85 u86 u87 u88 u89 u90 u91 u92 u93 u94 u95 u96 u97 u98 u99 u100 u101 u102 u103 u104 u105 u106 u107 u108 u109 u110 u111 u112 u113 u114 u115 u116 u117 u118 u119 u120 u121 u122 u123 u124 u125 u126 u127 u128 u129 u130 u131 u132 u133 u134 u135 u136 u137 u138 u139 u140 u141 u142 u143 u144 u145 u146 u147 u148 u149 u150 u151 u152 u153 u154 u155 u156 u157 u158 u159 u160 u161 u162 u163 u164 u165 u166 u167 u168 u169 u170 u171 u172 u173 u174 u175 u176 u177 u178 u179 u180 u181 u182 u183 u184 u185 u186 u187 u188 u189 u190 u191 u192 u193 u194 u195 u196 u197 u198 u199 u200 u201 u202 u203 u204 u205 u206 u207 u208 u209 u210 u211 u212 u213 u214 u215 u216 u217 u218 u219 u220 u221 u222 u223 u224 u225 u226 u227 u228 u229 u230 u231 u232 u233 u234 u235 u236 u237 u238 u239 u240 u241 u242 u243 u244 u245 : Value) (w' : World), ReadPost k ea R Bu Bf s D P po m pb out code w (.returned (.tuple #[n', v5])) w' → Q .ret ⟨#[Value.pointer (some ⟨R, 0, none⟩), u1, undef, undef, n', v5, u6, u7, u8, u9, u10, u11, u12, u13, u14, u15, u16, u17, u18, u19, u20, u21, u22, u23, u24, u25, u26, u27, u28, u29, u30, u31, u32, u33, u34, u35, u36, u37, u38, u39, u40, u41, u42, u43, u44, u45, u46, u47, u48, u49, u50, u51, u52, u53, u54, u55, u56, u57, u58, u59, u60, u61, u62, u63, u64, u65, u66, u67, u68, u69, u70, u71, u72, u73, u74, u75, u76, u77, u78, u79, u80, u81, u82, u83, u84, u85, u86, u87, u88, u89, u90, u91, u92, u93, u94, u95, u96, u97, u98, u99, u100, u101, u102, u103, u104, u105, u106, u107, u108, u109, u110, u111, u112, u113, u114, u115, u116, u117, u118, u119, u120, u121, u122, u123, u124, u125, u126, u127, u128, u129, u130, u131, u132, u133, u134, u135, u136, u137, u138, u139, u140, u141, u142, u143, u144, u145, u146, u147, u148, u149, u150, u151, u152, u153, u154, u155, u156, u157, u158, u159, u160, u161, u162, u163, u164, u165, u166, u167, u168, u169, u170, u171, u172, u173, u174, u175, u176, u177, u178, u179, u180, u181, u182, u183, u184, u185, u186, u187, u188, u189, u190, u191, u192, u193, u194, u195, u196, u197, u198, u199, u200, u201, u202, u203, u204, u205, u206, u207, u208, u209, u210, u211, u212, u213, u214, u215, u216, u217, u218, u219, u220, u221, u222, u223, u224, u225, u226, u227, u228, u229, u230, u231, u232, u233, u234, u235, u236, u237, u238, u239, u240, u241, u242, u243, u244, u245, undef], []⟩ w') :
    Code.wp Tryd.prog rbody (Exit.then K Q) ⟨#[Value.pointer (some ⟨R, 0, none⟩), .slice (some ⟨P, po + i, none⟩) (m - i) (mc - i), undef, undef, .int .i64 i, u5, u6, u7, u8, u9, u10, u11, u12, u13, u14, u15, u16, u17, u18, u19, u20, u21, u22, u23, u24, u25, u26, u27, u28, u29, u30, u31, u32, u33, u34, u35, u36, u37, u38, u39, u40, u41, u42, u43, u44, u45, u46, u47, u48, u49, u50, u51, u52, u53, u54, u55, u56, u57, u58, u59, u60, u61, u62, u63, u64, u65, u66, u67, u68, u69, u70, u71, u72, u73, u74, u75, u76, u77, u78, u79, u80, u81, u82, u83, u84, u85, u86, u87, u88, u89, u90, u91, u92, u93, u94, u95, u96, u97, u98, u99, u100, u101, u102, u103, u104, u105, u106, u107, u108, u109, u110, u111, u112, u113, u114, u115, u116, u117, u118, u119, u120, u121, u122, u123, u124, u125, u126, u127, u128, u129, u130, u131, u132, u133, u134, u135, u136, u137, u138, u139, u140, u141, u142, u143, u144, u145, u146, u147, u148, u149, u150, u151, u152, u153, u154, u155, u156, u157, u158, u159, u160, u161, u162, u163, u164, u165, u166, u167, u168, u169, u170, u171, u172, u173, u174, u175, u176, u177, u178, u179, u180, u181, u182, u183, u184, u185, u186, u187, u188, u189, u190, u191, u192, u193, u194, u195, u196, u197, u198, u199, u200, u201, u202, u203, u204, u205, u206, u207, u208, u209, u210, u211, u212, u213, u214, u215, u216, u217, u218, u219, u220, u221, u222, u223, u224, u225, u226, u227, u228, u229, u230, u231, u232, u233, u234, u235, u236, u237, u238, u239, u240, u241, u242, u243, u244, u245, undef], []⟩ wr := by
  have hne : st.line ≠ [] := by rw [hl]; simp
  have hbs := h.bs
  have hown := h.own hne
  rw [hl] at hbs
  obtain ⟨ao, lc, hlv, hlc, hcm, -, hcell⟩ := id hbs
  obtain ⟨b0, lo, hao, hat⟩ := hcell (by simp)
  subst hao; subst hlv
  have hb0 : b0 = Bf := by injection hown
  subst hb0
  obtain ⟨ℓ, hℓe⟩ : ∃ ℓ, ℓ = (b :: r').length := ⟨_, rfl⟩
  have hℓe2 : ℓ = r'.length + 1 := by rw [hℓe]; simp
  have hbl := hbs
  rw [← hℓe] at hbl hlc
  obtain ⟨_, _, c2, _, _, f2⟩ := cells3 h.rdr
  rw [← hℓe] at c2
  have hsl : (splice pb po (out.take i)).length = pb.length := by unfold splice; simp; omega
  have cp : ∃ v, wr.cell? ⟨P, po + i, none⟩ = some v := ⟨_, hrow.cell (po + i) (by omega)⟩
  have fp := hrow.fr (po + i)
  have hμ : 1 ≤ m - i := by omega
  have hℓ : 1 ≤ ℓ := by omega
  have hi' : (i : Int) ≤ 1099511627776 := by omega
  have hrp : ¬ R = P := fun e => hB.pr e.symm
  have cx : wr.cell? ⟨b0, lo, none⟩ = some (.int .u8 b.toNat) := hat 0 (by simp)
  have hbt := b.toNat_lt
  have hstop : ∀ (w1 : World) (a : Addr), Below wr.heap.size wr w1 → ErrB R Bu b0 s ea w1 a → emit b r' = none → ReadPost k ea R Bu b0 s D P po m pb out code w (.returned (.tuple #[.int .i64 i, eofv a])) w1 := by
    intro w1 a hb ha he
    have hs := strm_bad hl he
    have hc2 : code = 2 := by rw [hs] at hst; injection hst with _ e; exact e.symm
    exact stop_post hB h hst hio hi (by rw [hs]) (by omega) ⟨.inr (.inr ⟨hc2, a, ha.1, rfl⟩), fun _ => ⟨a, rfl, ha⟩⟩ hrow hkeep (Keep.new hb)
  have hmild : Mild R Bu b0 s wr (fun _ => False) := fun _ h => h.elim
  by_cases e61 : b = 61
  · subst e61
    obtain ⟨fa, ua, hen⟩ := h.env
    rcases r' with _ | ⟨x, rest⟩
    · have hℓ1 : ℓ = 1 := by simpa using hℓe2
      have hlater : ∀ w1, Below wr.heap.size wr w1 → w1.cell? ⟨R, 2, none⟩ = some (.slice (some ⟨b0, lo, none⟩) 1 lc) := by
        intro w1 hb
        have := below_cell hb _ _ c2
        rwa [hℓ1] at this
      exact way_bad1 (X := fun a _ => a = ua) K Q _ _ _ _ _ _ _ _ _ _ _ _ _ _ _ _ _ _ _ _ _ _ _ _ _ _ _ _ _ _ _ _ _ _ _ _ _ _ _ _ _ _ _ _ _ _ _ _ _ _ _ _ _ _ _ _ _ _ _ _ _ _ _ _ _ _ _ _ _ _ _ _ _ _ _ _ _ _ _ _ _ _ _ _ _ _ _ _ _ _ _ _ _ _ _ _ _ _ _ _ _ _ _ _ _ _ _ _ _ _ _ _ _ _ _ _ _ _ _ _ _ _ _ _ _ _ _ _ _ _ _ _ _ _ _ _ _ _ _ _ _ _ _ _ _ _ _ _ _ _ _ _ _ _ _ _ _ _ _ _ _ _ _ _ _ _ _ _ _ _ _ _ _ _ _ _ _ _ _ _ _ _ _ _ _ _ _ _ _ _ _ _ _ _ _ _ _ _ _ _ _ _ _ _ _ _ _ _ _ _ _ _ _ _ _ _ _ _ _ _ _ _ _ _ _ _ _ _ _ _ _ _ _ _ _ _ _ _ _ _ _ i (m - i) (mc - i) (po + i) lo ℓ lc hQ c2 hμ hℓ1 hlc cx (fun ad => (readHex_short (by omega) hen.unex).mono (fun e w' q => ⟨⟨ua, rfl, q.1⟩, q.2⟩)) hlater (fun w1 g hb hg => by
        subst hg
        exact hstop w1 _ hb (hen.ub.keep (Keep.new hb) hmild) rfl)
    simp only [List.length_cons] at hℓe2
    have hℓ2' : 2 ≤ ℓ := by omega
    have cx1 : wr.cell? ⟨b0, lo + 1, none⟩ = some (.int .u8 x.toNat) := hat 1 (by simp)
    have hlater : ∀ w1, Below wr.heap.size wr w1 → w1.cell? ⟨R, 2, none⟩ = some (.slice (some ⟨b0, lo, none⟩) ℓ lc) ∧ w1.frozen? ⟨R, 2, none⟩ = false ∧ (∃ v, w1.cell? ⟨P, po + i, none⟩ = some v) ∧ w1.frozen? ⟨P, po + i, none⟩ = false ∧ w1.cell? ⟨b0, lo + 1, none⟩ = some (.int .u8 x.toNat) := by
      intro w1 hb
      obtain ⟨vp, hvp⟩ := cp
      exact ⟨below_cell hb _ _ c2, keep_frozen (Keep.new (S := fun _ => False) hb) (Lib.lt_of_heap h.rdr) id f2, ⟨vp, below_cell hb _ _ hvp⟩, keep_frozen (Keep.new (S := fun _ => False) hb) hrow.lt id fp, below_cell hb _ _ cx1⟩
    by_cases hgood : ∃ y r'' hv lv2, rest = y :: r'' ∧ hexAny x = some hv ∧ hexAny y = some lv2
    · obtain ⟨y, r'', hv, lv2, rfl, hx, hy⟩ := hgood
      simp only [List.length_cons] at hℓe2
      have hℓ3 : 3 ≤ ℓ := by omega
      have cx2 : wr.cell? ⟨b0, lo + 1 + 1, none⟩ = some (.int .u8 y.toNat) := hat 2 (by simp)
      have he : emit 61 (x :: y :: r'') = some (hv <<< 4 ||| lv2, r'') := by unfold emit; simp [hx, hy]
      have hbl2 := Bs.rest hbl 2 (by simp)
      exact way_hex K Q _ _ _ _ _ _ _ _ _ _ _ _ _ _ _ _ _ _ _ _ _ _ _ _ _ _ _ _ _ _ _ _ _ _ _ _ _ _ _ _ _ _ _ _ _ _ _ _ _ _ _ _ _ _ _ _ _ _ _ _ _ _ _ _ _ _ _ _ _ _ _ _ _ _ _ _ _ _ _ _ _ _ _ _ _ _ _ _ _ _ _ _ _ _ _ _ _ _ _ _ _ _ _ _ _ _ _ _ _ _ _ _ _ _ _ _ _ _ _ _ _ _ _ _ _ _ _ _ _ _ _ _ _ _ _ _ _ _ _ _ _ _ _ _ _ _ _ _ _ _ _ _ _ _ _ _ _ _ _ _ _ _ _ _ _ _ _ _ _ _ _ _ _ _ _ _ _ _ _ _ _ _ _ _ _ _ _ _ _ _ _ _ _ _ _ _ _ _ _ _ _ _ _ _ _ _ _ _ _ _ _ _ _ _ _ _ _ _ _ _ _ _ _ _ _ _ _ _ _ _ _ _ _ _ _ _ _ _ _ _ _ i (m - i) (mc - i) (po + i) lo ℓ lc x y hv lv2 hK c2 f2 cp fp hμ hℓ3 hlc hi' hrp cx cx1 cx2 hx hy (fun pv lv' v2 hpv hlv => by
          obtain ⟨ap', e1, e2⟩ := pv_rest hi hmc hpv
          obtain ⟨e3, e4⟩ := lv_rest hbl2 hlv
          exact emit_next hB h hst hl he hi hpm hrow hkeep hgk ((Keep.refl (fun b => b = R) wr).setCell ⟨R, 2, none⟩ rfl v2) ⟨_, h.rdr.line v2⟩ lv' e3 (fun _ => e4) pv ap' e1 e2 (po + i) rfl _ rfl)
    · have hem : emit 61 (x :: rest) = if x == 13 || x == 10 then none else some (61, x :: rest) := by
        rcases rest with _ | ⟨y, r''⟩
        · rfl
        · unfold emit
          cases hx : hexAny x with
          | none => simp [hx]
          | some hv =>
            cases hy : hexAny y with
            | none => simp [hx, hy]
            | some lv2 => exact absurd ⟨y, r'', hv, lv2, rfl, hx, hy⟩ hgood
      obtain ⟨X, hx, hXB⟩ : ∃ X : Addr → World → Prop, Calls Tryd.prog 26 #[.slice (some ⟨b0, lo + 1, none⟩) (ℓ - 1) (lc - 1)] wr (ErrPostA X (.int .u8 0) wr) ∧ ∀ w1 g, Below wr.heap.size wr w1 → X g w1 → ErrB R Bu b0 s ea w1 g := by
        rcases rest with _ | ⟨y, r''⟩
        · exact ⟨fun a _ => a = ua, (readHex_short (by simp at hℓe2; omega) hen.unex).mono (fun e w' q => ⟨⟨ua, rfl, q.1⟩, q.2⟩), fun w1 g hb hg => by subst hg; exact hen.ub.keep (Keep.new hb) hmild⟩
        · simp only [List.length_cons] at hℓe2
          have cx2 : wr.cell? ⟨b0, lo + 1 + 1, none⟩ = some (.int .u8 y.toNat) := hat 2 (by simp)
          refine ⟨NewErr wr, Calls.mono ?_ (fun e w' q => ErrPost.toA q), fun w1 g hb hg => ?_⟩
          · cases hx : hexAny x with
            | none => exact readHex_none1 x b0 (lo + 1) (ℓ - 1) (lc - 1) wr hx (by omega) cx1
            | some hv =>
              cases hy : hexAny y with
              | none => exact readHex_none2 x y b0 (lo + 1) (ℓ - 1) (lc - 1) wr hv hx hy (by omega) cx1 cx2
              | some lv2 => exact absurd ⟨y, r'', hv, lv2, rfl, hx, hy⟩ hgood
          · obtain ⟨hg1, sx, hg2⟩ := hg
            exact ⟨(fun e => by have := h.ebl; have := congrArg Addr.block e; omega), _, _, hg2, .inr rfl⟩
      by_cases hn : x = 13 ∨ x = 10
      · have he : emit 61 (x :: rest) = none := by rw [hem]; rcases hn with rfl | rfl <;> rfl
        refine way_bad61 K Q _ _ _ _ _ _ _ _ _ _ _ _ _ _ _ _ _ _ _ _ _ _ _ _ _ _ _ _ _ _ _ _ _ _ _ _ _ _ _ _ _ _ _ _ _ _ _ _ _ _ _ _ _ _ _ _ _ _ _ _ _ _ _ _ _ _ _ _ _ _ _ _ _ _ _ _ _ _ _ _ _ _ _ _ _ _ _ _ _ _ _ _ _ _ _ _ _ _ _ _ _ _ _ _ _ _ _ _ _ _ _ _ _ _ _ _ _ _ _ _ _ _ _ _ _ _ _ _ _ _ _ _ _ _ _ _ _ _ _ _ _ _ _ _ _ _ _ _ _ _ _ _ _ _ _ _ _ _ _ _ _ _ _ _ _ _ _ _ _ _ _ _ _ _ _ _ _ _ _ _ _ _ _ _ _ _ _ _ _ _ _ _ _ _ _ _ _ _ _ _ _ _ _ _ _ _ _ _ _ _ _ _ _ _ _ _ _ _ _ _ _ _ _ _ _ _ _ _ _ _ _ _ _ _ _ _ _ _ _ _ _ i (m - i) (mc - i) (po + i) lo ℓ lc x.toNat hQ c2 hμ hℓ2' hlc cx hx ?_ hlater (fun w1 g hb hg => hstop w1 g hb (hXB w1 g hb hg) he)
        rcases hn with rfl | rfl
        · exact .inl rfl
        · exact .inr rfl
      · have he : emit 61 (x :: rest) = some (61, x :: rest) := by
          rw [hem, if_neg]
          simp only [Bool.or_eq_true, beq_iff_eq]; exact hn
        have hn13 : ¬ (x.toNat : Int) = 13 := fun e => hn (.inl ((u8_eq 13 (by omega)).2 e))
        have hn10 : ¬ (x.toNat : Int) = 10 := fun e => hn (.inr ((u8_eq 10 (by omega)).2 e))
        exact way_lit K Q _ _ _ _ _ _ _ _ _ _ _ _ _ _ _ _ _ _ _ _ _ _ _ _ _ _ _ _ _ _ _ _ _ _ _ _ _ _ _ _ _ _ _ _ _ _ _ _ _ _ _ _ _ _ _ _ _ _ _ _ _ _ _ _ _ _ _ _ _ _ _ _ _ _ _ _ _ _ _ _ _ _ _ _ _ _ _ _ _ _ _ _ _ _ _ _ _ _ _ _ _ _ _ _ _ _ _ _ _ _ _ _ _ _ _ _ _ _ _ _ _ _ _ _ _ _ _ _ _ _ _ _ _ _ _ _ _ _ _ _ _ _ _ _ _ _ _ _ _ _ _ _ _ _ _ _ _ _ _ _ _ _ _ _ _ _ _ _ _ _ _ _ _ _ _ _ _ _ _ _ _ _ _ _ _ _ _ _ _ _ _ _ _ _ _ _ _ _ _ _ _ _ _ _ _ _ _ _ _ _ _ _ _ _ _ _ _ _ _ _ _ _ _ _ _ _ _ _ _ _ _ _ _ _ _ _ _ _ _ _ _ i (m - i) (mc - i) (po + i) lo ℓ lc x.toNat hK c2 f2 cp fp hμ hℓ2' hlc hi' hrp cx hx hn13 hn10 hlater (fun pv lv' w1 hb hpv hlv => by
          obtain ⟨ap', e1, e2⟩ := pv_rest hi hmc hpv
          obtain ⟨e3, e4⟩ := lv_rest hbl hlv
          exact emit_next hB h hst hl he hi hpm hrow hkeep hgk (Keep.new hb) ⟨_, h.rdr.keep (Keep.new (S := fun _ => False) hb) id⟩ lv' e3 (fun _ => e4) pv ap' e1 e2 (po + i) rfl 61 rfl)
  by_cases e9 : b = 9
  · subst e9
    have he : emit 9 r' = some (9, r') := rfl
    exact way_t9 K Q _ _ _ _ _ _ _ _ _ _ _ _ _ _ _ _ _ _ _ _ _ _ _ _ _ _ _ _ _ _ _ _ _ _ _ _ _ _ _ _ _ _ _ _ _ _ _ _ _ _ _ _ _ _ _ _ _ _ _ _ _ _ _ _ _ _ _ _ _ _ _ _ _ _ _ _ _ _ _ _ _ _ _ _ _ _ _ _ _ _ _ _ _ _ _ _ _ _ _ _ _ _ _ _ _ _ _ _ _ _ _ _ _ _ _ _ _ _ _ _ _ _ _ _ _ _ _ _ _ _ _ _ _ _ _ _ _ _ _ _ _ _ _ _ _ _ _ _ _ _ _ _ _ _ _ _ _ _ _ _ _ _ _ _ _ _ _ _ _ _ _ _ _ _ _ _ _ _ _ _ _ _ _ _ _ _ _ _ _ _ _ _ _ _ _ _ _ _ _ _ _ _ _ _ _ _ _ _ _ _ _ _ _ _ _ _ _ _ _ _ _ _ _ _ _ _ _ _ _ _ _ _ _ _ _ _ _ _ _ _ _ i (m - i) (mc - i) (po + i) lo ℓ lc hK c2 f2 cp fp hμ hℓ hi' hrp cx (fun pv lv' hpv hlv => by
      obtain ⟨ap', e1, e2⟩ := pv_rest hi hmc hpv
      obtain ⟨e3, e4⟩ := lv_rest hbl hlv
      exact emit_next hB h hst hl he hi hpm hrow hkeep hgk (Keep.refl _ wr) ⟨_, h.rdr⟩ lv' e3 (fun _ => e4) pv ap' e1 e2 (po + i) rfl 9 rfl)
  by_cases e13 : b = 13
  · subst e13
    have he : emit 13 r' = some (13, r') := rfl
    exact way_t13 K Q _ _ _ _ _ _ _ _ _ _ _ _ _ _ _ _ _ _ _ _ _ _ _ _ _ _ _ _ _ _ _ _ _ _ _ _ _ _ _ _ _ _ _ _ _ _ _ _ _ _ _ _ _ _ _ _ _ _ _ _ _ _ _ _ _ _ _ _ _ _ _ _ _ _ _ _ _ _ _ _ _ _ _ _ _ _ _ _ _ _ _ _ _ _ _ _ _ _ _ _ _ _ _ _ _ _ _ _ _ _ _ _ _ _ _ _ _ _ _ _ _ _ _ _ _ _ _ _ _ _ _ _ _ _ _ _ _ _ _ _ _ _ _ _ _ _ _ _ _ _ _ _ _ _ _ _ _ _ _ _ _ _ _ _ _ _ _ _ _ _ _ _ _ _ _ _ _ _ _ _ _ _ _ _ _ _ _ _ _ _ _ _ _ _ _ _ _ _ _ _ _ _ _ _ _ _ _ _ _ _ _ _ _ _ _ _ _ _ _ _ _ _ _ _ _ _ _ _ _ _ _ _ _ _ _ _ _ _ _ _ _ i (m - i) (mc - i) (po + i) lo ℓ lc hK c2 f2 cp fp hμ hℓ hi' hrp cx (fun pv lv' hpv hlv => by
      obtain ⟨ap', e1, e2⟩ := pv_rest hi hmc hpv
      obtain ⟨e3, e4⟩ := lv_rest hbl hlv
      exact emit_next hB h hst hl he hi hpm hrow hkeep hgk (Keep.refl _ wr) ⟨_, h.rdr⟩ lv' e3 (fun _ => e4) pv ap' e1 e2 (po + i) rfl 13 rfl)
  by_cases e10 : b = 10
  · subst e10
    have he : emit 10 r' = some (10, r') := rfl
    exact way_t10 K Q _ _ _ _ _ _ _ _ _ _ _ _ _ _ _ _ _ _ _ _ _ _ _ _ _ _ _ _ _ _ _ _ _ _ _ _ _ _ _ _ _ _ _ _ _ _ _ _ _ _ _ _ _ _ _ _ _ _ _ _ _ _ _ _ _ _ _ _ _ _ _ _ _ _ _ _ _ _ _ _ _ _ _ _ _ _ _ _ _ _ _ _ _ _ _ _ _ _ _ _ _ _ _ _ _ _ _ _ _ _ _ _ _ _ _ _ _ _ _ _ _ _ _ _ _ _ _ _ _ _ _ _ _ _ _ _ _ _ _ _ _ _ _ _ _ _ _ _ _ _ _ _ _ _ _ _ _ _ _ _ _ _ _ _ _ _ _ _ _ _ _ _ _ _ _ _ _ _ _ _ _ _ _ _ _ _ _ _ _ _ _ _ _ _ _ _ _ _ _ _ _ _ _ _ _ _ _ _ _ _ _ _ _ _ _ _ _ _ _ _ _ _ _ _ _ _ _ _ _ _ _ _ _ _ _ _ _ _ _ _ _ i (m - i) (mc - i) (po + i) lo ℓ lc hK c2 f2 cp fp hμ hℓ hi' hrp cx (fun pv lv' hpv hlv => by
      obtain ⟨ap', e1, e2⟩ := pv_rest hi hmc hpv
      obtain ⟨e3, e4⟩ := lv_rest hbl hlv
      exact emit_next hB h hst hl he hi hpm hrow hkeep hgk (Keep.refl _ wr) ⟨_, h.rdr⟩ lv' e3 (fun _ => e4) pv ap' e1 e2 (po + i) rfl 10 rfl)
  have t61 : ¬ (b.toNat : Int) = 61 := fun e => e61 ((u8_eq 61 (by omega)).2 e)
  have t9 : ¬ (b.toNat : Int) = 9 := fun e => e9 ((u8_eq 9 (by omega)).2 e)
  have t13 : ¬ (b.toNat : Int) = 13 := fun e => e13 ((u8_eq 13 (by omega)).2 e)
  have t10 : ¬ (b.toNat : Int) = 10 := fun e => e10 ((u8_eq 10 (by omega)).2 e)
  have hem : emit b r' = if 128 ≤ b then some (b, r') else if (b < 32 || 126 < b) = true then none else some (b, r') := by
    unfold emit
    simp [e61, e9, e13, e10]
  by_cases e128 : 128 ≤ b
  · have he : emit b r' = some (b, r') := by rw [hem, if_pos e128]
    have hx0 : (128 : Int) ≤ b.toNat := by rw [UInt8.le_iff_toNat_le] at e128; simp at e128; omega
    exact way_high K Q _ _ _ _ _ _ _ _ _ _ _ _ _ _ _ _ _ _ _ _ _ _ _ _ _ _ _ _ _ _ _ _ _ _ _ _ _ _ _ _ _ _ _ _ _ _ _ _ _ _ _ _ _ _ _ _ _ _ _ _ _ _ _ _ _ _ _ _ _ _ _ _ _ _ _ _ _ _ _ _ _ _ _ _ _ _ _ _ _ _ _ _ _ _ _ _ _ _ _ _ _ _ _ _ _ _ _ _ _ _ _ _ _ _ _ _ _ _ _ _ _ _ _ _ _ _ _ _ _ _ _ _ _ _ _ _ _ _ _ _ _ _ _ _ _ _ _ _ _ _ _ _ _ _ _ _ _ _ _ _ _ _ _ _ _ _ _ _ _ _ _ _ _ _ _ _ _ _ _ _ _ _ _ _ _ _ _ _ _ _ _ _ _ _ _ _ _ _ _ _ _ _ _ _ _ _ _ _ _ _ _ _ _ _ _ _ _ _ _ _ _ _ _ _ _ _ _ _ _ _ _ _ _ _ _ _ _ _ _ _ _ i (m - i) (mc - i) (po + i) lo ℓ lc b.toNat hK c2 f2 cp fp hμ hℓ hi' hrp cx hx0 (by omega) (fun pv lv' hpv hlv => by
      obtain ⟨ap', e1, e2⟩ := pv_rest hi hmc hpv
      obtain ⟨e3, e4⟩ := lv_rest hbl hlv
      exact emit_next hB h hst hl he hi hpm hrow hkeep hgk (Keep.refl _ wr) ⟨_, h.rdr⟩ lv' e3 (fun _ => e4) pv ap' e1 e2 (po + i) rfl b.toNat rfl)
  by_cases ebad : (b < 32 || 126 < b) = true
  · have he : emit b r' = none := by rw [hem, if_neg e128, if_pos ebad]
    refine way_bad K Q _ _ _ _ _ _ _ _ _ _ _ _ _ _ _ _ _ _ _ _ _ _ _ _ _ _ _ _ _ _ _ _ _ _ _ _ _ _ _ _ _ _ _ _ _ _ _ _ _ _ _ _ _ _ _ _ _ _ _ _ _ _ _ _ _ _ _ _ _ _ _ _ _ _ _ _ _ _ _ _ _ _ _ _ _ _ _ _ _ _ _ _ _ _ _ _ _ _ _ _ _ _ _ _ _ _ _ _ _ _ _ _ _ _ _ _ _ _ _ _ _ _ _ _ _ _ _ _ _ _ _ _ _ _ _ _ _ _ _ _ _ _ _ _ _ _ _ _ _ _ _ _ _ _ _ _ _ _ _ _ _ _ _ _ _ _ _ _ _ _ _ _ _ _ _ _ _ _ _ _ _ _ _ _ _ _ _ _ _ _ _ _ _ _ _ _ _ _ _ _ _ _ _ _ _ _ _ _ _ _ _ _ _ _ _ _ _ _ _ _ _ _ _ _ _ _ _ _ _ _ _ _ _ _ _ _ _ _ _ _ _ i (m - i) (mc - i) (po + i) lo ℓ lc b.toNat hQ c2 hμ hℓ cx ?_ (fun w1 g hb hg hs => hstop w1 ⟨g, 0, none⟩ hb (let ⟨_, hs⟩ := hs; ⟨(fun e => Nat.ne_of_gt (Nat.lt_of_lt_of_le h.ebl hg) (congrArg Addr.block e)), _, _, hs, .inr rfl⟩) he)
    simp only [Bool.or_eq_true, decide_eq_true_eq, UInt8.lt_iff_toNat_lt, UInt8.le_iff_toNat_le] at ebad e128
    simp at ebad e128
    omega
  · have he : emit b r' = some (b, r') := by rw [hem, if_neg e128, if_neg ebad]
    have hx2 : ((b.toNat : Int) == 61) = false := beq_eq_false_iff_ne.2 t61
    have hx01 : (32 : Int) ≤ b.toNat ∧ (b.toNat : Int) ≤ 126 := by
      simp only [Bool.or_eq_true, decide_eq_true_eq, UInt8.lt_iff_toNat_lt] at ebad
      simp at ebad
      omega
    exact way_plain K Q _ _ _ _ _ _ _ _ _ _ _ _ _ _ _ _ _ _ _ _ _ _ _ _ _ _ _ _ _ _ _ _ _ _ _ _ _ _ _ _ _ _ _ _ _ _ _ _ _ _ _ _ _ _ _ _ _ _ _ _ _ _ _ _ _ _ _ _ _ _ _ _ _ _ _ _ _ _ _ _ _ _ _ _ _ _ _ _ _ _ _ _ _ _ _ _ _ _ _ _ _ _ _ _ _ _ _ _ _ _ _ _ _ _ _ _ _ _ _ _ _ _ _ _ _ _ _ _ _ _ _ _ _ _ _ _ _ _ _ _ _ _ _ _ _ _ _ _ _ _ _ _ _ _ _ _ _ _ _ _ _ _ _ _ _ _ _ _ _ _ _ _ _ _ _ _ _ _ _ _ _ _ _ _ _ _ _ _ _ _ _ _ _ _ _ _ _ _ _ _ _ _ _ _ _ _ _ _ _ _ _ _ _ _ _ _ _ _ _ _ _ _ _ _ _ _ _ _ _ _ _ _ _ _ _ _ _ _ _ _ _ i (m - i) (mc - i) (po + i) lo ℓ lc b.toNat hK c2 f2 cp fp hμ hℓ hi' hrp cx hx01.1 hx01.2 hx2 (fun pv lv' hpv hlv => by
      obtain ⟨ap', e1, e2⟩ := pv_rest hi hmc hpv
      obtain ⟨e3, e4⟩ := lv_rest hbl hlv
      exact emit_next hB h hst hl he hi hpm hrow hkeep hgk (Keep.refl _ wr) ⟨_, h.rdr⟩ lv' e3 (fun _ => e4) pv ap' e1 e2 (po + i) rfl b.toNat rfl)

end
end Go.Proofs.YtcbolmendjocbaaDoor

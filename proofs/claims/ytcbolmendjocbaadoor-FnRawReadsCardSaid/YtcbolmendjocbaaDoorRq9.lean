/- The round of Read that reads a line (printed by new63.py). -/
import Derived.Test.YtcbolmendjocbaaDoorRq6
import Derived.Test.YtcbolmendjocbaaDoorRq7
import Derived.Test.YtcbolmendjocbaaDoorRq7c
import Derived.Test.YtcbolmendjocbaaDoorRq8
namespace Go.Proofs.YtcbolmendjocbaaDoor
open Go.RowKit Qp

theorem behind_c {rest : B} (h : behind (slice rest).1 = []) : (slice rest).2.2 ≠ 0 := fun e => by
  obtain ⟨u, hu⟩ := slice_lf0 e
  exact behind_nil hu h
theorem slice_2 {rest : B} (h : (slice rest).2.2 = 2) : (slice rest).1.length = 4096 := by
  unfold slice at h ⊢
  split
  · rename_i hc; rw [if_pos hc] at h; cases h
  · rename_i hc
    rw [if_neg hc] at h
    split
    · rename_i hd; rw [if_pos hd] at h; cases h
    · simp; omega

section
variable {k : Bool} {ea : Addr} {R Bu Bf s D P po m mc : Nat} {pb out : List UInt8} {code : Nat} {w wr : World} {gk : Nat}

set_option maxRecDepth 1000000 in
set_option maxHeartbeats 6400000 in
theorem fin_none_true (K : Act → World → Prop) (Q : Exit → Act → World → Prop) (u5 u9 u10 u11 u12 u13 u14 u15 u16 u17 u18 u19 u20 u21 u22 u23 u24 u25 u26 u27 u28 u29 u30 u31 u32 u33 u34 u35 u36 u37 u38 u39 u40 u41 u42 u43 u44 u45 u46 u47 u48 u49 u50 u51 u52 u53 u54 u55 u56 u57 u58 u59 u60 u61 u62 u63 u64 u65 u66 u67 u68 u69 u70 u71 u72 u74 u75 u76 u77 u78 u79 u80 u81 u82 u83 u84 u85 u86 u87 u88 u89 u90 u91 u92 u93 u94 u95 u96 u97 u98 u99 u100 u101 u102 u103 u104 u105 u106 u107 u108 u109 u110 u111 u112 u113 u114 u115 u116 u117 u118 u119 u120 u121 u122 u123 u124 u125 u126 u127 u128 u129 u130 u131 u132 u133 u134 u135 u136 u137 u138 u139 u140 u141 u142 u143 u144 u145 u146 u147 u148 u149 u150 u151 u152 u153 u154 u155 u156 u157 u158 u159 u160 u161 u162 u163 u164 u165 u166 u167 u168 u169 u170 u171 u172 u173 u174 u175 u176 u177 u178 u179 u180 u181 u182 u183 u184 u185 u186 u187 u188 u189 u190 u191 u192 u193 u194 u195 u196 u197 u198 u199 u200 u201 u202 u203 u204 u205 u206 u207 u208 u209 u210 u211 u212 u213 u214 u215 u216 u217 u218 u219 u220 u221 u222 u223 u224 u225 u226 u227 u228 u229 u230 u231 u232 u233 u234 u235 u236 u237 u238 u239 u240 u241 u242 u243 u244 u245 : Value) {st : RS} {ev lv : Value} {r n : Nat} {buf d : List UInt8} (i μ κ : Nat) (ap : Option Addr)
    (hB : Blocks R Bu Bf s D P) (h : QAt k ea R Bu Bf s D wr st ev lv r n buf d) (hl : st.line = []) (hr : st.rerr = 0) (hst : strm st = (out.drop i, code))
    (hi : i ≤ m) (hio : i ≤ out.length) (hμ : μ = m - i) (hκ : κ = mc - i) (hap : i < m → ap = some ⟨P, po + i, none⟩) (hrow : RowB wr P (splice pb po (out.take i))) (hkeep : Keep (Rmay R Bu Bf s P) w wr) (hgk : gk = meas st)
    (fa ua : Addr) (hen : Env R Bu Bf s ea fa ua wr) (a cap : Nat) (w1 w6 : World) (hG : LinePost k ea Bu Bf s D st.rest wr a cap w1) (k16 : Keep (fun b => b = R) w1 w6)
    (hL : Lined R Bu Bf a (slice st.rest).1.length cap (slice st.rest).1 (slErr ea fa (slice st.rest).2.2) w6 (.slice (some ⟨Bf, a, none⟩) (rstrip isSp (slice st.rest).1).length cap))
    (h61 : ([61] : List UInt8).isSuffixOf (rstrip isSp (slice st.rest).1) = false) (hLF : ([10] : List UInt8).isSuffixOf (slice st.rest).1 = false)
    (hK : ∀ (pv nv u5 u6 u7 u8 u9 u10 u11 u12 u13 u14 u15 u16 u17 u18 u19 u20 u21 u22 u23 u24 u25 u26 u27 u28 u29 u30 u31 u32 u33 u34 u35 u36 u37 u38 u39 u40 u41 u42 u43 u44 u45 u46 u47 u48 u49 u50 u51 u52 u53 u54 u55 u56 u57 u58 u59 u60 u61 u62 u63 u64 u65 u66 u67 u68 u69 u70 u71 u72 u73 u74 u75 u76 u77 u78 u79 u80 u81 u82 u83 u84 u85 u86 u87 u88 u89 u90 u91 u92 u93 u94 u95 u96 u97 u98 u99 u100 u101 u102 u103 u104 u105 u106 u107 u108 u109 u110 u111 u112 u113 u114 u115 u116 u117 u118 u119 u120 u121 u122 u123 u124 u125 u126 u127 u128 u129 u130 u131 u132 u133 u134 u135 u136 u137 u138 u139 u140 u141 u142 u143 u144 u145 u146 u147 u148 u149 u150 u151 u152 u153 u154 u155 u156 u157 u158 u159 u160 u161 u162 u163 u164 u165 u166 u167 u168 u169 u170 u171 u172 u173 u174 u175 u176 u177 u178 u179 u180 u181 u182 u183 u184 u185 u186 u187 u188 u189 u190 u191 u192 u193 u194 u195 u196 u197 u198 u199 u200 u201 u202 u203 u204 u205 u206 u207 u208 u209 u210 u211 u212 u213 u214 u215 u216 u217 u218 u219 u220 u221 u222 u223 u224 u225 u226 u227 u228 u229 u230 u231 u232 u233 u234 u235 u236 u237 u238 u239 u240 u241 u242 u243 u244 u245 : Value) (w' : World), RdNext k ea R Bu Bf s D P po m mc pb out code w gk pv nv w' → K ⟨#[Value.pointer (some ⟨R, 0, none⟩), pv, undef, undef, nv, u5, u6, u7, u8, u9, u10, u11, u12, u13, u14, u15, u16, u17, u18, u19, u20, u21, u22, u23, u24, u25, u26, u27, u28, u29, u30, u31, u32, u33, u34, u35, u36, u37, u38, u39, u40, u41, u42, u43, u44, u45, u46, u47, u48, u49, u50, u51, u52, u53, u54, u55, u56, u57, u58, u59, u60, u61, u62, u63, u64, u65, u66, u67, u68, u69, u70, u71, u72, u73, u74, u75, u76, u77, u78, u79, u80, u81, u82, u83, u84, u85, u86, u87, u88, u89, u90, u91, u92, u93, u94, u95, u96, u97, u98, u99, u100, u101, u102, u103, u104, u105, u106, u107, u108, u109, u110, u111, u112, u113, u114, u115, u116, u117, u118, u119, u120, u121, u122, u123, u124, u125, u126, u127, u128, u129, u130, u131, u132, u133, u134, u135, u136, u137, u138, u139, u140, u141, u142, u143, u144, u145, u146, u147, u148, u149, u150, u151, u152, u153, u154, u155, u156, u157, u158, u159, u160, u161, u162, u163, u164, u165, u166, u167, u168, u169, u170, u171, u172, u173, u174, u175, u176, u177, u178, u179, u180, u181, u182, u183, u184, u185, u186, u187, u188, u189, u190, u191, u192, u193, u194, u195, u196, u197, u198, u199, u200, u201, u202, u203, u204, u205, u206, u207, u208, u209, u210, u211, u212, u213, u214, u215, u216, u217, u218, u219, u220, u221, u222, u223, u224, u225, u226, u227, u228, u229, u230, u231, u232, u233, u234, u235, u236, u237, u238, u239, u240, u241, u242, u243, u244, u245, undef], []⟩ w') :
    Code.wp Tryd.prog rcond (Exit.then K Q) ⟨#[Value.pointer (some ⟨R, 0, none⟩), .slice ap μ κ, undef, undef, .int .i64 i, u5, .bool false, .bool true, .slice (some ⟨Bf, a, none⟩) (slice st.rest).1.length cap, u9, u10, u11, u12, u13, u14, u15, u16, u17, u18, u19, u20, u21, u22, u23, u24, u25, u26, u27, u28, u29, u30, u31, u32, u33, u34, u35, u36, u37, u38, u39, u40, u41, u42, u43, u44, u45, u46, u47, u48, u49, u50, u51, u52, u53, u54, u55, u56, u57, u58, u59, u60, u61, u62, u63, u64, u65, u66, u67, u68, u69, u70, u71, u72, .bool false, u74, u75, u76, u77, u78, u79, u80, u81, u82, u83, u84, u85, u86, u87, u88, u89, u90, u91, u92, u93, u94, u95, u96, u97, u98, u99, u100, u101, u102, u103, u104, u105, u106, u107, u108, u109, u110, u111, u112, u113, u114, u115, u116, u117, u118, u119, u120, u121, u122, u123, u124, u125, u126, u127, u128, u129, u130, u131, u132, u133, u134, u135, u136, u137, u138, u139, u140, u141, u142, u143, u144, u145, u146, u147, u148, u149, u150, u151, u152, u153, u154, u155, u156, u157, u158, u159, u160, u161, u162, u163, u164, u165, u166, u167, u168, u169, u170, u171, u172, u173, u174, u175, u176, u177, u178, u179, u180, u181, u182, u183, u184, u185, u186, u187, u188, u189, u190, u191, u192, u193, u194, u195, u196, u197, u198, u199, u200, u201, u202, u203, u204, u205, u206, u207, u208, u209, u210, u211, u212, u213, u214, u215, u216, u217, u218, u219, u220, u221, u222, u223, u224, u225, u226, u227, u228, u229, u230, u231, u232, u233, u234, u235, u236, u237, u238, u239, u240, u241, u242, u243, u244, u245, undef], []⟩ w6 := by
  obtain ⟨lo, r', n', buf', d', hG1, hG2, hG3, hG4, hG5, hG6, hG7, hG8, hG9⟩ := hG
  have hfr : Bf ≠ R := fun e => hB.rf e.symm
  have row6 : RowB w6 Bf buf' := hG1.bf.keep k16 hfr
  have hlen := hG1.len
  have hrn := hG1.rn
  have hn4 := hG1.n4
  have k16' : Keep (fun b => b = R ∨ b = Bf) w1 w6 := k16.mono (fun _ _ e => .inl e)
  have herr : ErrIs ea (slice st.rest).2.2 (slErr ea fa (slice st.rest).2.2) := slErr_is hen.fb.1 hG3
  have htake := rstrip_take isSp (slice st.rest).1
  have htl := rstrip_len isSp (slice st.rest).1
  have hpl := prep_len (slice st.rest).1 (slice st.rest).2.2
  have hp : prep (slice st.rest).1 (slice st.rest).2.2 = (rstrip isSp (slice st.rest).1, (slice st.rest).2.2) := by
    rw [prep_no61 _ h61, hLF]; rfl
  refine tail_none_true K Q _ _ _ _ _ _ _ _ _ _ _ _ _ _ _ _ _ _ _ _ _ _ _ _ _ _ _ _ _ _ _ _ _ _ _ _ _ _ _ _ _ _ _ _ _ _ _ _ _ _ _ _ _ _ _ _ _ _ _ _ _ _ _ _ _ _ _ _ _ _ _ _ _ _ _ _ _ _ _ _ _ _ _ _ _ _ _ _ _ _ _ _ _ _ _ _ _ _ _ _ _ _ _ _ _ _ _ _ _ _ _ _ _ _ _ _ _ _ _ _ _ _ _ _ _ _ _ _ _ _ _ _ _ _ _ _ _ _ _ _ _ _ _ _ _ _ _ _ _ _ _ _ _ _ _ _ _ _ _ _ _ _ _ _ _ _ _ _ _ _ _ _ _ _ _ _ _ _ _ _ _ _ _ _ _ _ _ _ _ _ _ _ _ _ _ _ _ _ _ _ _ _ _ _ _ _ _ _ _ _ _ _ _ _ _ _ _ _ _ _ _ _ _ _ _ _ _ _ _ _ _ _ _ _ _ _ _ i μ κ ap a (slice st.rest).1.length cap 0 w6 hK ?_
  refine line_next hB h hl hr hst hi hio hμ hκ hap hrow hkeep hgk hG1 hG2 k16' row6 hlen rfl hL.rdr ?_ (fun _ => rfl) ?_ ?_
  · show Bs w6 _ (prep (slice st.rest).1 (slice st.rest).2.2).1
    rw [hp]
    have := Bs.take hL.bs (rstrip isSp (slice st.rest).1).length htl
    rw [← htake] at this
    exact this
  · show ErrIs ea (prep (slice st.rest).1 (slice st.rest).2.2).2 _
    rw [hp]; exact herr
  · intro e; exact line_sv hB h hrow hen hG1 k16' ((congrArg Prod.snd hp).symm.trans e)

set_option maxRecDepth 1000000 in
set_option maxHeartbeats 6400000 in
theorem fin_none_false (K : Act → World → Prop) (Q : Exit → Act → World → Prop) (u5 u9 u10 u11 u12 u13 u14 u15 u16 u17 u18 u19 u20 u21 u22 u23 u24 u25 u26 u27 u28 u29 u30 u31 u32 u33 u34 u35 u36 u37 u38 u39 u40 u41 u42 u43 u44 u45 u46 u47 u48 u49 u50 u51 u52 u53 u54 u55 u56 u57 u58 u59 u60 u61 u62 u63 u64 u65 u66 u67 u68 u69 u70 u71 u72 u74 u75 u76 u77 u78 u79 u80 u81 u82 u83 u84 u85 u86 u87 u88 u89 u90 u91 u92 u93 u94 u95 u96 u97 u98 u99 u100 u101 u102 u103 u104 u105 u106 u107 u108 u109 u110 u111 u112 u113 u114 u115 u116 u117 u118 u119 u120 u121 u122 u123 u124 u125 u126 u127 u128 u129 u130 u131 u132 u133 u134 u135 u136 u137 u138 u139 u140 u141 u142 u143 u144 u145 u146 u147 u148 u149 u150 u151 u152 u153 u154 u155 u156 u157 u158 u159 u160 u161 u162 u163 u164 u165 u166 u167 u168 u169 u170 u171 u172 u173 u174 u175 u176 u177 u178 u179 u180 u181 u182 u183 u184 u185 u186 u187 u188 u189 u190 u191 u192 u193 u194 u195 u196 u197 u198 u199 u200 u201 u202 u203 u204 u205 u206 u207 u208 u209 u210 u211 u212 u213 u214 u215 u216 u217 u218 u219 u220 u221 u222 u223 u224 u225 u226 u227 u228 u229 u230 u231 u232 u233 u234 u235 u236 u237 u238 u239 u240 u241 u242 u243 u244 u245 : Value) {st : RS} {ev lv : Value} {r n : Nat} {buf d : List UInt8} (i μ κ : Nat) (ap : Option Addr)
    (hB : Blocks R Bu Bf s D P) (h : QAt k ea R Bu Bf s D wr st ev lv r n buf d) (hl : st.line = []) (hr : st.rerr = 0) (hst : strm st = (out.drop i, code))
    (hi : i ≤ m) (hio : i ≤ out.length) (hμ : μ = m - i) (hκ : κ = mc - i) (hap : i < m → ap = some ⟨P, po + i, none⟩) (hrow : RowB wr P (splice pb po (out.take i))) (hkeep : Keep (Rmay R Bu Bf s P) w wr) (hgk : gk = meas st)
    (fa ua : Addr) (hen : Env R Bu Bf s ea fa ua wr) (a cap : Nat) (w1 w6 : World) (hG : LinePost k ea Bu Bf s D st.rest wr a cap w1) (k16 : Keep (fun b => b = R) w1 w6)
    (hL : Lined R Bu Bf a (slice st.rest).1.length cap (slice st.rest).1 (slErr ea fa (slice st.rest).2.2) w6 (.slice (some ⟨Bf, a, none⟩) (rstrip isSp (slice st.rest).1).length cap))
    (h61 : ([61] : List UInt8).isSuffixOf (rstrip isSp (slice st.rest).1) = false) (hLF : ([10] : List UInt8).isSuffixOf (slice st.rest).1 = false)
    (hK : ∀ (pv nv u5 u6 u7 u8 u9 u10 u11 u12 u13 u14 u15 u16 u17 u18 u19 u20 u21 u22 u23 u24 u25 u26 u27 u28 u29 u30 u31 u32 u33 u34 u35 u36 u37 u38 u39 u40 u41 u42 u43 u44 u45 u46 u47 u48 u49 u50 u51 u52 u53 u54 u55 u56 u57 u58 u59 u60 u61 u62 u63 u64 u65 u66 u67 u68 u69 u70 u71 u72 u73 u74 u75 u76 u77 u78 u79 u80 u81 u82 u83 u84 u85 u86 u87 u88 u89 u90 u91 u92 u93 u94 u95 u96 u97 u98 u99 u100 u101 u102 u103 u104 u105 u106 u107 u108 u109 u110 u111 u112 u113 u114 u115 u116 u117 u118 u119 u120 u121 u122 u123 u124 u125 u126 u127 u128 u129 u130 u131 u132 u133 u134 u135 u136 u137 u138 u139 u140 u141 u142 u143 u144 u145 u146 u147 u148 u149 u150 u151 u152 u153 u154 u155 u156 u157 u158 u159 u160 u161 u162 u163 u164 u165 u166 u167 u168 u169 u170 u171 u172 u173 u174 u175 u176 u177 u178 u179 u180 u181 u182 u183 u184 u185 u186 u187 u188 u189 u190 u191 u192 u193 u194 u195 u196 u197 u198 u199 u200 u201 u202 u203 u204 u205 u206 u207 u208 u209 u210 u211 u212 u213 u214 u215 u216 u217 u218 u219 u220 u221 u222 u223 u224 u225 u226 u227 u228 u229 u230 u231 u232 u233 u234 u235 u236 u237 u238 u239 u240 u241 u242 u243 u244 u245 : Value) (w' : World), RdNext k ea R Bu Bf s D P po m mc pb out code w gk pv nv w' → K ⟨#[Value.pointer (some ⟨R, 0, none⟩), pv, undef, undef, nv, u5, u6, u7, u8, u9, u10, u11, u12, u13, u14, u15, u16, u17, u18, u19, u20, u21, u22, u23, u24, u25, u26, u27, u28, u29, u30, u31, u32, u33, u34, u35, u36, u37, u38, u39, u40, u41, u42, u43, u44, u45, u46, u47, u48, u49, u50, u51, u52, u53, u54, u55, u56, u57, u58, u59, u60, u61, u62, u63, u64, u65, u66, u67, u68, u69, u70, u71, u72, u73, u74, u75, u76, u77, u78, u79, u80, u81, u82, u83, u84, u85, u86, u87, u88, u89, u90, u91, u92, u93, u94, u95, u96, u97, u98, u99, u100, u101, u102, u103, u104, u105, u106, u107, u108, u109, u110, u111, u112, u113, u114, u115, u116, u117, u118, u119, u120, u121, u122, u123, u124, u125, u126, u127, u128, u129, u130, u131, u132, u133, u134, u135, u136, u137, u138, u139, u140, u141, u142, u143, u144, u145, u146, u147, u148, u149, u150, u151, u152, u153, u154, u155, u156, u157, u158, u159, u160, u161, u162, u163, u164, u165, u166, u167, u168, u169, u170, u171, u172, u173, u174, u175, u176, u177, u178, u179, u180, u181, u182, u183, u184, u185, u186, u187, u188, u189, u190, u191, u192, u193, u194, u195, u196, u197, u198, u199, u200, u201, u202, u203, u204, u205, u206, u207, u208, u209, u210, u211, u212, u213, u214, u215, u216, u217, u218, u219, u220, u221, u222, u223, u224, u225, u226, u227, u228, u229, u230, u231, u232, u233, u234, u235, u236, u237, u238, u239, u240, u241, u242, u243, u244, u245, undef], []⟩ w') :
    Code.wp Tryd.prog rcond (Exit.then K Q) ⟨#[Value.pointer (some ⟨R, 0, none⟩), .slice ap μ κ, undef, undef, .int .i64 i, u5, .bool false, .bool false, .slice (some ⟨Bf, a, none⟩) (slice st.rest).1.length cap, u9, u10, u11, u12, u13, u14, u15, u16, u17, u18, u19, u20, u21, u22, u23, u24, u25, u26, u27, u28, u29, u30, u31, u32, u33, u34, u35, u36, u37, u38, u39, u40, u41, u42, u43, u44, u45, u46, u47, u48, u49, u50, u51, u52, u53, u54, u55, u56, u57, u58, u59, u60, u61, u62, u63, u64, u65, u66, u67, u68, u69, u70, u71, u72, .bool false, u74, u75, u76, u77, u78, u79, u80, u81, u82, u83, u84, u85, u86, u87, u88, u89, u90, u91, u92, u93, u94, u95, u96, u97, u98, u99, u100, u101, u102, u103, u104, u105, u106, u107, u108, u109, u110, u111, u112, u113, u114, u115, u116, u117, u118, u119, u120, u121, u122, u123, u124, u125, u126, u127, u128, u129, u130, u131, u132, u133, u134, u135, u136, u137, u138, u139, u140, u141, u142, u143, u144, u145, u146, u147, u148, u149, u150, u151, u152, u153, u154, u155, u156, u157, u158, u159, u160, u161, u162, u163, u164, u165, u166, u167, u168, u169, u170, u171, u172, u173, u174, u175, u176, u177, u178, u179, u180, u181, u182, u183, u184, u185, u186, u187, u188, u189, u190, u191, u192, u193, u194, u195, u196, u197, u198, u199, u200, u201, u202, u203, u204, u205, u206, u207, u208, u209, u210, u211, u212, u213, u214, u215, u216, u217, u218, u219, u220, u221, u222, u223, u224, u225, u226, u227, u228, u229, u230, u231, u232, u233, u234, u235, u236, u237, u238, u239, u240, u241, u242, u243, u244, u245, undef], []⟩ w6 := by
  obtain ⟨lo, r', n', buf', d', hG1, hG2, hG3, hG4, hG5, hG6, hG7, hG8, hG9⟩ := hG
  have hfr : Bf ≠ R := fun e => hB.rf e.symm
  have row6 : RowB w6 Bf buf' := hG1.bf.keep k16 hfr
  have hlen := hG1.len
  have hrn := hG1.rn
  have hn4 := hG1.n4
  have k16' : Keep (fun b => b = R ∨ b = Bf) w1 w6 := k16.mono (fun _ _ e => .inl e)
  have herr : ErrIs ea (slice st.rest).2.2 (slErr ea fa (slice st.rest).2.2) := slErr_is hen.fb.1 hG3
  have htake := rstrip_take isSp (slice st.rest).1
  have htl := rstrip_len isSp (slice st.rest).1
  have hpl := prep_len (slice st.rest).1 (slice st.rest).2.2
  have hp : prep (slice st.rest).1 (slice st.rest).2.2 = (rstrip isSp (slice st.rest).1, (slice st.rest).2.2) := by
    rw [prep_no61 _ h61, hLF]; rfl
  refine tail_none_false K Q _ _ _ _ _ _ _ _ _ _ _ _ _ _ _ _ _ _ _ _ _ _ _ _ _ _ _ _ _ _ _ _ _ _ _ _ _ _ _ _ _ _ _ _ _ _ _ _ _ _ _ _ _ _ _ _ _ _ _ _ _ _ _ _ _ _ _ _ _ _ _ _ _ _ _ _ _ _ _ _ _ _ _ _ _ _ _ _ _ _ _ _ _ _ _ _ _ _ _ _ _ _ _ _ _ _ _ _ _ _ _ _ _ _ _ _ _ _ _ _ _ _ _ _ _ _ _ _ _ _ _ _ _ _ _ _ _ _ _ _ _ _ _ _ _ _ _ _ _ _ _ _ _ _ _ _ _ _ _ _ _ _ _ _ _ _ _ _ _ _ _ _ _ _ _ _ _ _ _ _ _ _ _ _ _ _ _ _ _ _ _ _ _ _ _ _ _ _ _ _ _ _ _ _ _ _ _ _ _ _ _ _ _ _ _ _ _ _ _ _ _ _ _ _ _ _ _ _ _ _ _ _ _ _ _ _ _ i μ κ ap a (slice st.rest).1.length cap 0 w6 hK ?_
  refine line_next hB h hl hr hst hi hio hμ hκ hap hrow hkeep hgk hG1 hG2 k16' row6 hlen rfl hL.rdr ?_ (fun _ => rfl) ?_ ?_
  · show Bs w6 _ (prep (slice st.rest).1 (slice st.rest).2.2).1
    rw [hp]
    have := Bs.take hL.bs (rstrip isSp (slice st.rest).1).length htl
    rw [← htake] at this
    exact this
  · show ErrIs ea (prep (slice st.rest).1 (slice st.rest).2.2).2 _
    rw [hp]; exact herr
  · intro e; exact line_sv hB h hrow hen hG1 k16' ((congrArg Prod.snd hp).symm.trans e)

set_option maxRecDepth 1000000 in
set_option maxHeartbeats 6400000 in
theorem fin_crlf (K : Act → World → Prop) (Q : Exit → Act → World → Prop) (u5 u9 u10 u11 u12 u13 u14 u15 u16 u17 u18 u19 u20 u21 u22 u23 u24 u25 u26 u27 u28 u29 u30 u31 u32 u33 u34 u35 u36 u37 u38 u39 u40 u41 u42 u43 u44 u45 u46 u47 u48 u49 u50 u51 u52 u53 u54 u55 u56 u57 u58 u59 u60 u61 u62 u63 u64 u65 u66 u67 u68 u69 u70 u71 u72 u74 u75 u76 u77 u78 u79 u80 u81 u82 u83 u84 u85 u86 u87 u88 u89 u90 u91 u92 u93 u94 u95 u96 u97 u98 u99 u100 u101 u102 u103 u104 u105 u106 u107 u108 u109 u110 u111 u112 u113 u114 u115 u116 u117 u118 u119 u120 u121 u122 u123 u124 u125 u126 u127 u128 u129 u130 u131 u132 u133 u134 u135 u136 u137 u138 u139 u140 u141 u142 u143 u144 u145 u146 u147 u148 u149 u150 u151 u152 u153 u154 u155 u156 u157 u158 u159 u160 u161 u162 u163 u164 u165 u166 u167 u168 u169 u170 u171 u172 u173 u174 u175 u176 u177 u178 u179 u180 u181 u182 u183 u184 u185 u186 u187 u188 u189 u190 u191 u192 u193 u194 u195 u196 u197 u198 u199 u200 u201 u202 u203 u204 u205 u206 u207 u208 u209 u210 u211 u212 u213 u214 u215 u216 u217 u218 u219 u220 u221 u222 u223 u224 u225 u226 u227 u228 u229 u230 u231 u232 u233 u234 u235 u236 u237 u238 u239 u240 u241 u242 u243 u244 u245 : Value) {st : RS} {ev lv : Value} {r n : Nat} {buf d : List UInt8} (i μ κ : Nat) (ap : Option Addr)
    (hB : Blocks R Bu Bf s D P) (h : QAt k ea R Bu Bf s D wr st ev lv r n buf d) (hl : st.line = []) (hr : st.rerr = 0) (hst : strm st = (out.drop i, code))
    (hi : i ≤ m) (hio : i ≤ out.length) (hμ : μ = m - i) (hκ : κ = mc - i) (hap : i < m → ap = some ⟨P, po + i, none⟩) (hrow : RowB wr P (splice pb po (out.take i))) (hkeep : Keep (Rmay R Bu Bf s P) w wr) (hgk : gk = meas st)
    (fa ua : Addr) (hen : Env R Bu Bf s ea fa ua wr) (a cap : Nat) (w1 w6 : World) (hG : LinePost k ea Bu Bf s D st.rest wr a cap w1) (k16 : Keep (fun b => b = R) w1 w6)
    (hL : Lined R Bu Bf a (slice st.rest).1.length cap (slice st.rest).1 (slErr ea fa (slice st.rest).2.2) w6 (.slice (some ⟨Bf, a, none⟩) (rstrip isSp (slice st.rest).1).length cap))
    (h61 : ([61] : List UInt8).isSuffixOf (rstrip isSp (slice st.rest).1) = false) (hLF : ([10] : List UInt8).isSuffixOf (slice st.rest).1 = true) (hCR : ([13, 10] : List UInt8).isSuffixOf (slice st.rest).1 = true)
    (hK : ∀ (pv nv u5 u6 u7 u8 u9 u10 u11 u12 u13 u14 u15 u16 u17 u18 u19 u20 u21 u22 u23 u24 u25 u26 u27 u28 u29 u30 u31 u32 u33 u34 u35 u36 u37 u38 u39 u40 u41 u42 u43 u44 u45 u46 u47 u48 u49 u50 u51 u52 u53 u54 u55 u56 u57 u58 u59 u60 u61 u62 u63 u64 u65 u66 u67 u68 u69 u70 u71 u72 u73 u74 u75 u76 u77 u78 u79 u80 u81 u82 u83 u84 u85 u86 u87 u88 u89 u90 u91 u92 u93 u94 u95 u96 u97 u98 u99 u100 u101 u102 u103 u104 u105 u106 u107 u108 u109 u110 u111 u112 u113 u114 u115 u116 u117 u118 u119 u120 u121 u122 u123 u124 u125 u126 u127 u128 u129 u130 u131 u132 u133 u134 u135 u136 u137 u138 u139 u140 u141 u142 u143 u144 u145 u146 u147 u148 u149 u150 u151 u152 u153 u154 u155 u156 u157 u158 u159 u160 u161 u162 u163 u164 u165 u166 u167 u168 u169 u170 u171 u172 u173 u174 u175 u176 u177 u178 u179 u180 u181 u182 u183 u184 u185 u186 u187 u188 u189 u190 u191 u192 u193 u194 u195 u196 u197 u198 u199 u200 u201 u202 u203 u204 u205 u206 u207 u208 u209 u210 u211 u212 u213 u214 u215 u216 u217 u218 u219 u220 u221 u222 u223 u224 u225 u226 u227 u228 u229 u230 u231 u232 u233 u234 u235 u236 u237 u238 u239 u240 u241 u242 u243 u244 u245 : Value) (w' : World), RdNext k ea R Bu Bf s D P po m mc pb out code w gk pv nv w' → K ⟨#[Value.pointer (some ⟨R, 0, none⟩), pv, undef, undef, nv, u5, u6, u7, u8, u9, u10, u11, u12, u13, u14, u15, u16, u17, u18, u19, u20, u21, u22, u23, u24, u25, u26, u27, u28, u29, u30, u31, u32, u33, u34, u35, u36, u37, u38, u39, u40, u41, u42, u43, u44, u45, u46, u47, u48, u49, u50, u51, u52, u53, u54, u55, u56, u57, u58, u59, u60, u61, u62, u63, u64, u65, u66, u67, u68, u69, u70, u71, u72, u73, u74, u75, u76, u77, u78, u79, u80, u81, u82, u83, u84, u85, u86, u87, u88, u89, u90, u91, u92, u93, u94, u95, u96, u97, u98, u99, u100, u101, u102, u103, u104, u105, u106, u107, u108, u109, u110, u111, u112, u113, u114, u115, u116, u117, u118, u119, u120, u121, u122, u123, u124, u125, u126, u127, u128, u129, u130, u131, u132, u133, u134, u135, u136, u137, u138, u139, u140, u141, u142, u143, u144, u145, u146, u147, u148, u149, u150, u151, u152, u153, u154, u155, u156, u157, u158, u159, u160, u161, u162, u163, u164, u165, u166, u167, u168, u169, u170, u171, u172, u173, u174, u175, u176, u177, u178, u179, u180, u181, u182, u183, u184, u185, u186, u187, u188, u189, u190, u191, u192, u193, u194, u195, u196, u197, u198, u199, u200, u201, u202, u203, u204, u205, u206, u207, u208, u209, u210, u211, u212, u213, u214, u215, u216, u217, u218, u219, u220, u221, u222, u223, u224, u225, u226, u227, u228, u229, u230, u231, u232, u233, u234, u235, u236, u237, u238, u239, u240, u241, u242, u243, u244, u245, undef], []⟩ w') :
    Code.wp Tryd.prog rcond (Exit.then K Q) ⟨#[Value.pointer (some ⟨R, 0, none⟩), .slice ap μ κ, undef, undef, .int .i64 i, u5, .bool true, .bool true, .slice (some ⟨Bf, a, none⟩) (slice st.rest).1.length cap, u9, u10, u11, u12, u13, u14, u15, u16, u17, u18, u19, u20, u21, u22, u23, u24, u25, u26, u27, u28, u29, u30, u31, u32, u33, u34, u35, u36, u37, u38, u39, u40, u41, u42, u43, u44, u45, u46, u47, u48, u49, u50, u51, u52, u53, u54, u55, u56, u57, u58, u59, u60, u61, u62, u63, u64, u65, u66, u67, u68, u69, u70, u71, u72, .bool false, u74, u75, u76, u77, u78, u79, u80, u81, u82, u83, u84, u85, u86, u87, u88, u89, u90, u91, u92, u93, u94, u95, u96, u97, u98, u99, u100, u101, u102, u103, u104, u105, u106, u107, u108, u109, u110, u111, u112, u113, u114, u115, u116, u117, u118, u119, u120, u121, u122, u123, u124, u125, u126, u127, u128, u129, u130, u131, u132, u133, u134, u135, u136, u137, u138, u139, u140, u141, u142, u143, u144, u145, u146, u147, u148, u149, u150, u151, u152, u153, u154, u155, u156, u157, u158, u159, u160, u161, u162, u163, u164, u165, u166, u167, u168, u169, u170, u171, u172, u173, u174, u175, u176, u177, u178, u179, u180, u181, u182, u183, u184, u185, u186, u187, u188, u189, u190, u191, u192, u193, u194, u195, u196, u197, u198, u199, u200, u201, u202, u203, u204, u205, u206, u207, u208, u209, u210, u211, u212, u213, u214, u215, u216, u217, u218, u219, u220, u221, u222, u223, u224, u225, u226, u227, u228, u229, u230, u231, u232, u233, u234, u235, u236, u237, u238, u239, u240, u241, u242, u243, u244, u245, undef], []⟩ w6 := by
  obtain ⟨lo, r', n', buf', d', hG1, hG2, hG3, hG4, hG5, hG6, hG7, hG8, hG9⟩ := hG
  have hfr : Bf ≠ R := fun e => hB.rf e.symm
  have row6 : RowB w6 Bf buf' := hG1.bf.keep k16 hfr
  have hlen := hG1.len
  have hrn := hG1.rn
  have hn4 := hG1.n4
  have k16' : Keep (fun b => b = R ∨ b = Bf) w1 w6 := k16.mono (fun _ _ e => .inl e)
  have herr : ErrIs ea (slice st.rest).2.2 (slErr ea fa (slice st.rest).2.2) := slErr_is hen.fb.1 hG3
  have htake := rstrip_take isSp (slice st.rest).1
  have htl := rstrip_len isSp (slice st.rest).1
  have hpl := prep_len (slice st.rest).1 (slice st.rest).2.2
  have hp : prep (slice st.rest).1 (slice st.rest).2.2 = (rstrip isSp (slice st.rest).1 ++ [13, 10], (slice st.rest).2.2) := by
    rw [prep_no61 _ h61, hLF, hCR]; rfl
  have hne : (slice st.rest).1 ≠ [] := by intro e; rw [e] at hLF; cases hLF
  obtain ⟨rfl, hcap⟩ := hG8 hne
  have hroom : (rstrip isSp (slice st.rest).1).length + 2 ≤ (slice st.rest).1.length := by rw [hp] at hpl; simpa using hpl
  obtain ⟨c0, c1, c2, f0, f1, f2⟩ := cells3 hL.rdr
  refine tail_crlf K Q _ _ _ _ _ _ _ _ _ _ _ _ _ _ _ _ _ _ _ _ _ _ _ _ _ _ _ _ _ _ _ _ _ _ _ _ _ _ _ _ _ _ _ _ _ _ _ _ _ _ _ _ _ _ _ _ _ _ _ _ _ _ _ _ _ _ _ _ _ _ _ _ _ _ _ _ _ _ _ _ _ _ _ _ _ _ _ _ _ _ _ _ _ _ _ _ _ _ _ _ _ _ _ _ _ _ _ _ _ _ _ _ _ _ _ _ _ _ _ _ _ _ _ _ _ _ _ _ _ _ _ _ _ _ _ _ _ _ _ _ _ _ _ _ _ _ _ _ _ _ _ _ _ _ _ _ _ _ _ _ _ _ _ _ _ _ _ _ _ _ _ _ _ _ _ _ _ _ _ _ _ _ _ _ _ _ _ _ _ _ _ _ _ _ _ _ _ _ _ _ _ _ _ _ _ _ _ _ _ _ _ _ _ _ _ _ _ _ _ _ _ _ _ _ _ _ _ _ _ _ _ _ _ _ _ _ _ i μ κ ap a (slice st.rest).1.length cap (rstrip isSp (slice st.rest).1).length w6 buf' hK c2 f2 hfr (Lib.lt_of_heap hL.rdr) row6 (by omega) (by omega) (fun w7 r7 k7 => ?_)
  have hl7 : (splice buf' (a + (rstrip isSp (slice st.rest).1).length) [13, 10]).length = 4096 := by unfold splice; simp; omega
  have k79 : Keep (fun b => b = R) w7 (w7.setCell ⟨R, 2, none⟩ (.slice (some ⟨Bf, a, none⟩) ((rstrip isSp (slice st.rest).1).length + 2) cap)) := (Keep.refl (fun b => b = R) w7).setCell ⟨R, 2, none⟩ rfl _
  refine line_next hB h hl hr hst hi hio hμ hκ hap hrow hkeep hgk hG1 hG2 (w9 := w7.setCell ⟨R, 2, none⟩ (.slice (some ⟨Bf, a, none⟩) ((rstrip isSp (slice st.rest).1).length + 2) cap)) (buf9 := splice buf' (a + (rstrip isSp (slice st.rest).1).length) [13, 10]) ?_ (r7.keep k79 hfr) hl7 ?_ ((hL.rdr.keep k7 (fun e => hfr e.symm)).line _) ?_ (fun _ => rfl) ?_ ?_
  · exact ((k16'.trans (T := fun b => b = Bf) k7 (fun _ _ e => .inr e)).trans (T := fun b => b = R) k79 (fun _ _ e => .inl e))
  · exact splice_behind _ _ _ _ (by simp; omega) (by simp; omega)
  · show Bs _ _ (prep (slice st.rest).1 (slice st.rest).2.2).1
    rw [hp]
    have hx := splice_at buf' [13, 10] a (rstrip isSp (slice st.rest).1).length (by simp; omega)
    have hy : (buf'.drop a).take (rstrip isSp (slice st.rest).1).length = rstrip isSp (slice st.rest).1 := by
      have h5 := congrArg (List.take (rstrip isSp (slice st.rest).1).length) hG5
      rw [List.take_take, Nat.min_eq_left htl, ← htake] at h5
      exact h5
    rw [hy] at hx
    exact (r7.keep k79 hfr).bs a _ cap _ (by simp) hx.symm (by omega) (by omega)
  · show ErrIs ea (prep (slice st.rest).1 (slice st.rest).2.2).2 _
    rw [hp]; exact herr
  · intro e; exact line_sv hB h hrow hen hG1 ((k16'.trans (T := fun b => b = Bf) k7 (fun _ _ e => .inr e)).trans (T := fun b => b = R) k79 (fun _ _ e => .inl e)) ((congrArg Prod.snd hp).symm.trans e)

set_option maxRecDepth 1000000 in
set_option maxHeartbeats 6400000 in
theorem fin_lf (K : Act → World → Prop) (Q : Exit → Act → World → Prop) (u5 u9 u10 u11 u12 u13 u14 u15 u16 u17 u18 u19 u20 u21 u22 u23 u24 u25 u26 u27 u28 u29 u30 u31 u32 u33 u34 u35 u36 u37 u38 u39 u40 u41 u42 u43 u44 u45 u46 u47 u48 u49 u50 u51 u52 u53 u54 u55 u56 u57 u58 u59 u60 u61 u62 u63 u64 u65 u66 u67 u68 u69 u70 u71 u72 u74 u75 u76 u77 u78 u79 u80 u81 u82 u83 u84 u85 u86 u87 u88 u89 u90 u91 u92 u93 u94 u95 u96 u97 u98 u99 u100 u101 u102 u103 u104 u105 u106 u107 u108 u109 u110 u111 u112 u113 u114 u115 u116 u117 u118 u119 u120 u121 u122 u123 u124 u125 u126 u127 u128 u129 u130 u131 u132 u133 u134 u135 u136 u137 u138 u139 u140 u141 u142 u143 u144 u145 u146 u147 u148 u149 u150 u151 u152 u153 u154 u155 u156 u157 u158 u159 u160 u161 u162 u163 u164 u165 u166 u167 u168 u169 u170 u171 u172 u173 u174 u175 u176 u177 u178 u179 u180 u181 u182 u183 u184 u185 u186 u187 u188 u189 u190 u191 u192 u193 u194 u195 u196 u197 u198 u199 u200 u201 u202 u203 u204 u205 u206 u207 u208 u209 u210 u211 u212 u213 u214 u215 u216 u217 u218 u219 u220 u221 u222 u223 u224 u225 u226 u227 u228 u229 u230 u231 u232 u233 u234 u235 u236 u237 u238 u239 u240 u241 u242 u243 u244 u245 : Value) {st : RS} {ev lv : Value} {r n : Nat} {buf d : List UInt8} (i μ κ : Nat) (ap : Option Addr)
    (hB : Blocks R Bu Bf s D P) (h : QAt k ea R Bu Bf s D wr st ev lv r n buf d) (hl : st.line = []) (hr : st.rerr = 0) (hst : strm st = (out.drop i, code))
    (hi : i ≤ m) (hio : i ≤ out.length) (hμ : μ = m - i) (hκ : κ = mc - i) (hap : i < m → ap = some ⟨P, po + i, none⟩) (hrow : RowB wr P (splice pb po (out.take i))) (hkeep : Keep (Rmay R Bu Bf s P) w wr) (hgk : gk = meas st)
    (fa ua : Addr) (hen : Env R Bu Bf s ea fa ua wr) (a cap : Nat) (w1 w6 : World) (hG : LinePost k ea Bu Bf s D st.rest wr a cap w1) (k16 : Keep (fun b => b = R) w1 w6)
    (hL : Lined R Bu Bf a (slice st.rest).1.length cap (slice st.rest).1 (slErr ea fa (slice st.rest).2.2) w6 (.slice (some ⟨Bf, a, none⟩) (rstrip isSp (slice st.rest).1).length cap))
    (h61 : ([61] : List UInt8).isSuffixOf (rstrip isSp (slice st.rest).1) = false) (hLF : ([10] : List UInt8).isSuffixOf (slice st.rest).1 = true) (hCR : ([13, 10] : List UInt8).isSuffixOf (slice st.rest).1 = false)
    (hK : ∀ (pv nv u5 u6 u7 u8 u9 u10 u11 u12 u13 u14 u15 u16 u17 u18 u19 u20 u21 u22 u23 u24 u25 u26 u27 u28 u29 u30 u31 u32 u33 u34 u35 u36 u37 u38 u39 u40 u41 u42 u43 u44 u45 u46 u47 u48 u49 u50 u51 u52 u53 u54 u55 u56 u57 u58 u59 u60 u61 u62 u63 u64 u65 u66 u67 u68 u69 u70 u71 u72 u73 u74 u75 u76 u77 u78 u79 u80 u81 u82 u83 u84 u85 u86 u87 u88 u89 u90 u91 u92 u93 u94 u95 u96 u97 u98 u99 u100 u101 u102 u103 u104 u105 u106 u107 u108 u109 u110 u111 u112 u113 u114 u115 u116 u117 u118 u119 u120 u121 u122 u123 u124 u125 u126 u127 u128 u129 u130 u131 u132 u133 u134 u135 u136 u137 u138 u139 u140 u141 u142 u143 u144 u145 u146 u147 u148 u149 u150 u151 u152 u153 u154 u155 u156 u157 u158 u159 u160 u161 u162 u163 u164 u165 u166 u167 u168 u169 u170 u171 u172 u173 u174 u175 u176 u177 u178 u179 u180 u181 u182 u183 u184 u185 u186 u187 u188 u189 u190 u191 u192 u193 u194 u195 u196 u197 u198 u199 u200 u201 u202 u203 u204 u205 u206 u207 u208 u209 u210 u211 u212 u213 u214 u215 u216 u217 u218 u219 u220 u221 u222 u223 u224 u225 u226 u227 u228 u229 u230 u231 u232 u233 u234 u235 u236 u237 u238 u239 u240 u241 u242 u243 u244 u245 : Value) (w' : World), RdNext k ea R Bu Bf s D P po m mc pb out code w gk pv nv w' → K ⟨#[Value.pointer (some ⟨R, 0, none⟩), pv, undef, undef, nv, u5, u6, u7, u8, u9, u10, u11, u12, u13, u14, u15, u16, u17, u18, u19, u20, u21, u22, u23, u24, u25, u26, u27, u28, u29, u30, u31, u32, u33, u34, u35, u36, u37, u38, u39, u40, u41, u42, u43, u44, u45, u46, u47, u48, u49, u50, u51, u52, u53, u54, u55, u56, u57, u58, u59, u60, u61, u62, u63, u64, u65, u66, u67, u68, u69, u70, u71, u72, u73, u74, u75, u76, u77, u78, u79, u80, u81, u82, u83, u84, u85, u86, u87, u88, u89, u90, u91, u92, u93, u94, u95, u96, u97, u98, u99, u100, u101, u102, u103, u104, u105, u106, u107, u108, u109, u110, u111, u112, u113, u114, u115, u116, u117, u118, u119, u120, u121, u122, u123, u124, u125, u126, u127, u128, u129, u130, u131, u132, u133, u134, u135, u136, u137, u138, u139, u140, u141, u142, u143, u144, u145, u146, u147, u148, u149, u150, u151, u152, u153, u154, u155, u156, u157, u158, u159, u160, u161, u162, u163, u164, u165, u166, u167, u168, u169, u170, u171, u172, u173, u174, u175, u176, u177, u178, u179, u180, u181, u182, u183, u184, u185, u186, u187, u188, u189, u190, u191, u192, u193, u194, u195, u196, u197, u198, u199, u200, u201, u202, u203, u204, u205, u206, u207, u208, u209, u210, u211, u212, u213, u214, u215, u216, u217, u218, u219, u220, u221, u222, u223, u224, u225, u226, u227, u228, u229, u230, u231, u232, u233, u234, u235, u236, u237, u238, u239, u240, u241, u242, u243, u244, u245, undef], []⟩ w') :
    Code.wp Tryd.prog rcond (Exit.then K Q) ⟨#[Value.pointer (some ⟨R, 0, none⟩), .slice ap μ κ, undef, undef, .int .i64 i, u5, .bool true, .bool false, .slice (some ⟨Bf, a, none⟩) (slice st.rest).1.length cap, u9, u10, u11, u12, u13, u14, u15, u16, u17, u18, u19, u20, u21, u22, u23, u24, u25, u26, u27, u28, u29, u30, u31, u32, u33, u34, u35, u36, u37, u38, u39, u40, u41, u42, u43, u44, u45, u46, u47, u48, u49, u50, u51, u52, u53, u54, u55, u56, u57, u58, u59, u60, u61, u62, u63, u64, u65, u66, u67, u68, u69, u70, u71, u72, .bool false, u74, u75, u76, u77, u78, u79, u80, u81, u82, u83, u84, u85, u86, u87, u88, u89, u90, u91, u92, u93, u94, u95, u96, u97, u98, u99, u100, u101, u102, u103, u104, u105, u106, u107, u108, u109, u110, u111, u112, u113, u114, u115, u116, u117, u118, u119, u120, u121, u122, u123, u124, u125, u126, u127, u128, u129, u130, u131, u132, u133, u134, u135, u136, u137, u138, u139, u140, u141, u142, u143, u144, u145, u146, u147, u148, u149, u150, u151, u152, u153, u154, u155, u156, u157, u158, u159, u160, u161, u162, u163, u164, u165, u166, u167, u168, u169, u170, u171, u172, u173, u174, u175, u176, u177, u178, u179, u180, u181, u182, u183, u184, u185, u186, u187, u188, u189, u190, u191, u192, u193, u194, u195, u196, u197, u198, u199, u200, u201, u202, u203, u204, u205, u206, u207, u208, u209, u210, u211, u212, u213, u214, u215, u216, u217, u218, u219, u220, u221, u222, u223, u224, u225, u226, u227, u228, u229, u230, u231, u232, u233, u234, u235, u236, u237, u238, u239, u240, u241, u242, u243, u244, u245, undef], []⟩ w6 := by
  obtain ⟨lo, r', n', buf', d', hG1, hG2, hG3, hG4, hG5, hG6, hG7, hG8, hG9⟩ := hG
  have hfr : Bf ≠ R := fun e => hB.rf e.symm
  have row6 : RowB w6 Bf buf' := hG1.bf.keep k16 hfr
  have hlen := hG1.len
  have hrn := hG1.rn
  have hn4 := hG1.n4
  have k16' : Keep (fun b => b = R ∨ b = Bf) w1 w6 := k16.mono (fun _ _ e => .inl e)
  have herr : ErrIs ea (slice st.rest).2.2 (slErr ea fa (slice st.rest).2.2) := slErr_is hen.fb.1 hG3
  have htake := rstrip_take isSp (slice st.rest).1
  have htl := rstrip_len isSp (slice st.rest).1
  have hpl := prep_len (slice st.rest).1 (slice st.rest).2.2
  have hp : prep (slice st.rest).1 (slice st.rest).2.2 = (rstrip isSp (slice st.rest).1 ++ [10], (slice st.rest).2.2) := by
    rw [prep_no61 _ h61, hLF, hCR]; rfl
  have hne : (slice st.rest).1 ≠ [] := by intro e; rw [e] at hLF; cases hLF
  obtain ⟨rfl, hcap⟩ := hG8 hne
  have hroom : (rstrip isSp (slice st.rest).1).length + 1 ≤ (slice st.rest).1.length := by rw [hp] at hpl; simpa using hpl
  obtain ⟨c0, c1, c2, f0, f1, f2⟩ := cells3 hL.rdr
  refine tail_lf K Q _ _ _ _ _ _ _ _ _ _ _ _ _ _ _ _ _ _ _ _ _ _ _ _ _ _ _ _ _ _ _ _ _ _ _ _ _ _ _ _ _ _ _ _ _ _ _ _ _ _ _ _ _ _ _ _ _ _ _ _ _ _ _ _ _ _ _ _ _ _ _ _ _ _ _ _ _ _ _ _ _ _ _ _ _ _ _ _ _ _ _ _ _ _ _ _ _ _ _ _ _ _ _ _ _ _ _ _ _ _ _ _ _ _ _ _ _ _ _ _ _ _ _ _ _ _ _ _ _ _ _ _ _ _ _ _ _ _ _ _ _ _ _ _ _ _ _ _ _ _ _ _ _ _ _ _ _ _ _ _ _ _ _ _ _ _ _ _ _ _ _ _ _ _ _ _ _ _ _ _ _ _ _ _ _ _ _ _ _ _ _ _ _ _ _ _ _ _ _ _ _ _ _ _ _ _ _ _ _ _ _ _ _ _ _ _ _ _ _ _ _ _ _ _ _ _ _ _ _ _ _ _ _ _ _ _ _ i μ κ ap a (slice st.rest).1.length cap (rstrip isSp (slice st.rest).1).length w6 buf' hK c2 f2 hfr (Lib.lt_of_heap hL.rdr) row6 (by omega) (by omega) (fun w7 r7 k7 => ?_)
  have hl7 : (splice buf' (a + (rstrip isSp (slice st.rest).1).length) [10]).length = 4096 := by unfold splice; simp; omega
  have k79 : Keep (fun b => b = R) w7 (w7.setCell ⟨R, 2, none⟩ (.slice (some ⟨Bf, a, none⟩) ((rstrip isSp (slice st.rest).1).length + 1) cap)) := (Keep.refl (fun b => b = R) w7).setCell ⟨R, 2, none⟩ rfl _
  refine line_next hB h hl hr hst hi hio hμ hκ hap hrow hkeep hgk hG1 hG2 (w9 := w7.setCell ⟨R, 2, none⟩ (.slice (some ⟨Bf, a, none⟩) ((rstrip isSp (slice st.rest).1).length + 1) cap)) (buf9 := splice buf' (a + (rstrip isSp (slice st.rest).1).length) [10]) ?_ (r7.keep k79 hfr) hl7 ?_ ((hL.rdr.keep k7 (fun e => hfr e.symm)).line _) ?_ (fun _ => rfl) ?_ ?_
  · exact ((k16'.trans (T := fun b => b = Bf) k7 (fun _ _ e => .inr e)).trans (T := fun b => b = R) k79 (fun _ _ e => .inl e))
  · exact splice_behind _ _ _ _ (by simp; omega) (by simp; omega)
  · show Bs _ _ (prep (slice st.rest).1 (slice st.rest).2.2).1
    rw [hp]
    have hx := splice_at buf' [10] a (rstrip isSp (slice st.rest).1).length (by simp; omega)
    have hy : (buf'.drop a).take (rstrip isSp (slice st.rest).1).length = rstrip isSp (slice st.rest).1 := by
      have h5 := congrArg (List.take (rstrip isSp (slice st.rest).1).length) hG5
      rw [List.take_take, Nat.min_eq_left htl, ← htake] at h5
      exact h5
    rw [hy] at hx
    exact (r7.keep k79 hfr).bs a _ cap _ (by simp) hx.symm (by omega) (by omega)
  · show ErrIs ea (prep (slice st.rest).1 (slice st.rest).2.2).2 _
    rw [hp]; exact herr
  · intro e; exact line_sv hB h hrow hen hG1 ((k16'.trans (T := fun b => b = Bf) k7 (fun _ _ e => .inr e)).trans (T := fun b => b = R) k79 (fun _ _ e => .inl e)) ((congrArg Prod.snd hp).symm.trans e)

set_option maxRecDepth 1000000 in
set_option maxHeartbeats 6400000 in
theorem fin_61 (K : Act → World → Prop) (Q : Exit → Act → World → Prop) (u5 u9 u10 u11 u12 u13 u14 u15 u16 u17 u18 u19 u20 u21 u22 u23 u24 u25 u26 u27 u28 u29 u30 u31 u32 u33 u34 u35 u36 u37 u38 u39 u40 u41 u42 u43 u44 u45 u46 u47 u48 u49 u50 u51 u52 u53 u54 u55 u56 u57 u58 u59 u60 u61 u62 u63 u64 u65 u66 u67 u68 u69 u70 u71 u72 u74 u75 u76 u77 u78 u79 u80 u81 u82 u83 u84 u85 u86 u87 u88 u89 u90 u91 u92 u93 u94 u95 u96 u97 u98 u99 u100 u101 u102 u103 u104 u105 u106 u107 u108 u109 u110 u111 u112 u113 u114 u115 u116 u117 u118 u119 u120 u121 u122 u123 u124 u125 u126 u127 u128 u129 u130 u131 u132 u133 u134 u135 u136 u137 u138 u139 u140 u141 u142 u143 u144 u145 u146 u147 u148 u149 u150 u151 u152 u153 u154 u155 u156 u157 u158 u159 u160 u161 u162 u163 u164 u165 u166 u167 u168 u169 u170 u171 u172 u173 u174 u175 u176 u177 u178 u179 u180 u181 u182 u183 u184 u185 u186 u187 u188 u189 u190 u191 u192 u193 u194 u195 u196 u197 u198 u199 u200 u201 u202 u203 u204 u205 u206 u207 u208 u209 u210 u211 u212 u213 u214 u215 u216 u217 u218 u219 u220 u221 u222 u223 u224 u225 u226 u227 u228 u229 u230 u231 u232 u233 u234 u235 u236 u237 u238 u239 u240 u241 u242 u243 u244 u245 : Value) {st : RS} {ev lv : Value} {r n : Nat} {buf d : List UInt8} (i μ κ : Nat) (ap : Option Addr)
    (hB : Blocks R Bu Bf s D P) (h : QAt k ea R Bu Bf s D wr st ev lv r n buf d) (hl : st.line = []) (hr : st.rerr = 0) (hst : strm st = (out.drop i, code))
    (hi : i ≤ m) (hio : i ≤ out.length) (hμ : μ = m - i) (hκ : κ = mc - i) (hap : i < m → ap = some ⟨P, po + i, none⟩) (hrow : RowB wr P (splice pb po (out.take i))) (hkeep : Keep (Rmay R Bu Bf s P) w wr) (hgk : gk = meas st)
    (fa ua : Addr) (hen : Env R Bu Bf s ea fa ua wr) (a cap : Nat) (w1 w6 : World) (hG : LinePost k ea Bu Bf s D st.rest wr a cap w1) (k16 : Keep (fun b => b = R) w1 w6)
    (hL : Lined R Bu Bf a (slice st.rest).1.length cap (slice st.rest).1 (slErr ea fa (slice st.rest).2.2) w6 (.slice (some ⟨Bf, a, none⟩) (rstrip isSp (slice st.rest).1).length cap))
    (hasLF hasCR : Bool) (h61 : ([61] : List UInt8).isSuffixOf (rstrip isSp (slice st.rest).1) = true)
    (hK : ∀ (pv nv u5 u6 u7 u8 u9 u10 u11 u12 u13 u14 u15 u16 u17 u18 u19 u20 u21 u22 u23 u24 u25 u26 u27 u28 u29 u30 u31 u32 u33 u34 u35 u36 u37 u38 u39 u40 u41 u42 u43 u44 u45 u46 u47 u48 u49 u50 u51 u52 u53 u54 u55 u56 u57 u58 u59 u60 u61 u62 u63 u64 u65 u66 u67 u68 u69 u70 u71 u72 u73 u74 u75 u76 u77 u78 u79 u80 u81 u82 u83 u84 u85 u86 u87 u88 u89 u90 u91 u92 u93 u94 u95 u96 u97 u98 u99 u100 u101 u102 u103 u104 u105 u106 u107 u108 u109 u110 u111 u112 u113 u114 u115 u116 u117 u118 u119 u120 u121 u122 u123 u124 u125 u126 u127 u128 u129 u130 u131 u132 u133 u134 u135 u136 u137 u138 u139 u140 u141 u142 u143 u144 u145 u146 u147 u148 u149 u150 u151 u152 u153 u154 u155 u156 u157 u158 u159 u160 u161 u162 u163 u164 u165 u166 u167 u168 u169 u170 u171 u172 u173 u174 u175 u176 u177 u178 u179 u180 u181 u182 u183 u184 u185 u186 u187 u188 u189 u190 u191 u192 u193 u194 u195 u196 u197 u198 u199 u200 u201 u202 u203 u204 u205 u206 u207 u208 u209 u210 u211 u212 u213 u214 u215 u216 u217 u218 u219 u220 u221 u222 u223 u224 u225 u226 u227 u228 u229 u230 u231 u232 u233 u234 u235 u236 u237 u238 u239 u240 u241 u242 u243 u244 u245 : Value) (w' : World), RdNext k ea R Bu Bf s D P po m mc pb out code w gk pv nv w' → K ⟨#[Value.pointer (some ⟨R, 0, none⟩), pv, undef, undef, nv, u5, u6, u7, u8, u9, u10, u11, u12, u13, u14, u15, u16, u17, u18, u19, u20, u21, u22, u23, u24, u25, u26, u27, u28, u29, u30, u31, u32, u33, u34, u35, u36, u37, u38, u39, u40, u41, u42, u43, u44, u45, u46, u47, u48, u49, u50, u51, u52, u53, u54, u55, u56, u57, u58, u59, u60, u61, u62, u63, u64, u65, u66, u67, u68, u69, u70, u71, u72, u73, u74, u75, u76, u77, u78, u79, u80, u81, u82, u83, u84, u85, u86, u87, u88, u89, u90, u91, u92, u93, u94, u95, u96, u97, u98, u99, u100, u101, u102, u103, u104, u105, u106, u107, u108, u109, u110, u111, u112, u113, u114, u115, u116, u117, u118, u119, u120, u121, u122, u123, u124, u125, u126, u127, u128, u129, u130, u131, u132, u133, u134, u135, u136, u137, u138, u139, u140, u141, u142, u143, u144, u145, u146, u147, u148, u149, u150, u151, u152, u153, u154, u155, u156, u157, u158, u159, u160, u161, u162, u163, u164, u165, u166, u167, u168, u169, u170, u171, u172, u173, u174, u175, u176, u177, u178, u179, u180, u181, u182, u183, u184, u185, u186, u187, u188, u189, u190, u191, u192, u193, u194, u195, u196, u197, u198, u199, u200, u201, u202, u203, u204, u205, u206, u207, u208, u209, u210, u211, u212, u213, u214, u215, u216, u217, u218, u219, u220, u221, u222, u223, u224, u225, u226, u227, u228, u229, u230, u231, u232, u233, u234, u235, u236, u237, u238, u239, u240, u241, u242, u243, u244, u245, undef], []⟩ w') :
    Code.wp Tryd.prog rcond (Exit.then K Q) ⟨#[Value.pointer (some ⟨R, 0, none⟩), .slice ap μ κ, undef, undef, .int .i64 i, u5, .bool hasLF, .bool hasCR, .slice (some ⟨Bf, a, none⟩) (slice st.rest).1.length cap, u9, u10, u11, u12, u13, u14, u15, u16, u17, u18, u19, u20, u21, u22, u23, u24, u25, u26, u27, u28, u29, u30, u31, u32, u33, u34, u35, u36, u37, u38, u39, u40, u41, u42, u43, u44, u45, u46, u47, u48, u49, u50, u51, u52, u53, u54, u55, u56, u57, u58, u59, u60, u61, u62, u63, u64, u65, u66, u67, u68, u69, u70, u71, u72, .bool true, u74, u75, u76, u77, u78, u79, u80, u81, u82, u83, u84, u85, u86, u87, u88, u89, u90, u91, u92, u93, u94, u95, u96, u97, u98, u99, u100, u101, u102, u103, u104, u105, u106, u107, u108, u109, u110, u111, u112, u113, u114, u115, u116, u117, u118, u119, u120, u121, u122, u123, u124, u125, u126, u127, u128, u129, u130, u131, u132, u133, u134, u135, u136, u137, u138, u139, u140, u141, u142, u143, u144, u145, u146, u147, u148, u149, u150, u151, u152, u153, u154, u155, u156, u157, u158, u159, u160, u161, u162, u163, u164, u165, u166, u167, u168, u169, u170, u171, u172, u173, u174, u175, u176, u177, u178, u179, u180, u181, u182, u183, u184, u185, u186, u187, u188, u189, u190, u191, u192, u193, u194, u195, u196, u197, u198, u199, u200, u201, u202, u203, u204, u205, u206, u207, u208, u209, u210, u211, u212, u213, u214, u215, u216, u217, u218, u219, u220, u221, u222, u223, u224, u225, u226, u227, u228, u229, u230, u231, u232, u233, u234, u235, u236, u237, u238, u239, u240, u241, u242, u243, u244, u245, undef], []⟩ w6 := by
  obtain ⟨lo, r', n', buf', d', hG1, hG2, hG3, hG4, hG5, hG6, hG7, hG8, hG9⟩ := hG
  have hfr : Bf ≠ R := fun e => hB.rf e.symm
  have row6 : RowB w6 Bf buf' := hG1.bf.keep k16 hfr
  have hlen := hG1.len
  have hrn := hG1.rn
  have hn4 := hG1.n4
  have k16' : Keep (fun b => b = R ∨ b = Bf) w1 w6 := k16.mono (fun _ _ e => .inl e)
  have herr : ErrIs ea (slice st.rest).2.2 (slErr ea fa (slice st.rest).2.2) := slErr_is hen.fb.1 hG3
  have htake := rstrip_take isSp (slice st.rest).1
  have htl := rstrip_len isSp (slice st.rest).1
  have hpl := prep_len (slice st.rest).1 (slice st.rest).2.2
  have hp := prep_61 (slice st.rest).2.2 h61
  have hL0 := hL
  have htp : 1 ≤ (rstrip isSp (slice st.rest).1).length := by
    rcases Nat.eq_zero_or_pos (rstrip isSp (slice st.rest).1).length with e | e
    · rw [List.eq_nil_of_length_eq_zero e] at h61; cases h61
    · exact e
  have hne : (slice st.rest).1 ≠ [] := by
    intro e
    have := congrArg List.length e
    rw [List.length_nil] at this
    omega
  obtain ⟨rfl, hcap⟩ := hG8 hne
  have htc1 : cap = (rstrip isSp (slice st.rest).1).length → (slice st.rest).2.2 = 2 := by
    intro e
    by_cases h0 : (slice st.rest).2.2 = 0
    · obtain ⟨u, hu⟩ := slice_lf0 h0
      have e1 : (rstrip isSp (slice st.rest).1).length = (slice st.rest).1.length := by omega
      rw [e1, List.take_length] at htake
      obtain ⟨v, hv⟩ := List.getLast?_eq_some_iff.1 ((last_iff _).2 h61)
      rw [htake, hu] at hv
      have := (List.append_inj' hv rfl).2
      simp at this
    · by_cases h1 : (slice st.rest).2.2 = 1
      · have := hG9 h1
        omega
      · omega
  have hdl : (rstrip isSp (slice st.rest).1).dropLast = (slice st.rest).1.take ((rstrip isSp (slice st.rest).1).length - 1) := by
    rw [List.dropLast_eq_take]
    conv => lhs; rw [htake]
    rw [List.take_take, List.length_take, Nat.min_eq_left (by omega)]
    congr 1
    omega
  have htrim : Calls Tryd.prog 24 #[.slice (some ⟨Bf, a + (rstrip isSp (slice st.rest).1).length, none⟩) ((slice st.rest).1.length - (rstrip isSp (slice st.rest).1).length) (cap - (rstrip isSp (slice st.rest).1).length), .string ⟨#[32, 9]⟩] w6
      fun e w' => (∃ v, e = .returned v ∧ (∀ w8, Keep (fun b => b = R) w' w8 → Bs w8 v (behind (slice st.rest).1)) ∧ Below w6.heap.size w6 w') := by
    refine (trimL_any (Bs.rest hL.bs (rstrip isSp (slice st.rest).1).length htl)).mono ?_
    rintro e w' ⟨v, rfl, hv, hb⟩
    refine ⟨v, rfl, fun w8 k8 => hv.notR (hL.rdr.keep (Keep.new (S := fun _ => False) hb) id) ?_ ?_ k8, hb⟩
    · intro x; rcases slErr_or ea fa (slice st.rest).2.2 with e | e <;> (rw [e]; intro e; cases e)
    · intro x e; cases e
  -- what the round leaves
  have hend : ∀ (w9 : World) (er : Value), ErrIs ea (prep (slice st.rest).1 (slice st.rest).2.2).2 er → ((prep (slice st.rest).1 (slice st.rest).2.2).2 = 2 → ErrV R Bu Bf s ea w9 er) → Keep (fun b => b = R) w6 w9 → RdrAt w9 R Bu er (.slice (some ⟨Bf, a, none⟩) ((rstrip isSp (slice st.rest).1).length - 1) cap) →
      RdNext k ea R Bu Bf s D P po m mc pb out code w gk (.slice ap μ κ) (.int .i64 i) w9 := by
    intro w9 er h1 h1v k69 h2
    refine line_next hB h hl hr hst hi hio hμ hκ hap hrow hkeep hgk hG1 hG2 (k16'.trans (T := fun b => b = R) k69 (fun _ _ e => .inl e)) (row6.keep k69 hfr) hlen rfl h2 ?_ (fun _ => rfl) h1 h1v
    show Bs _ _ (prep (slice st.rest).1 (slice st.rest).2.2).1
    rw [hp]
    show Bs _ _ (rstrip isSp (slice st.rest).1).dropLast
    rw [hdl]
    exact Bs.take (hL.bs.keepS k69 (fun g e => by injection e with e; subst e; exact hfr)) _ (by omega)
  have hend2 : ∀ (w9 : World) (er : Value), (prep (slice st.rest).1 (slice st.rest).2.2).2 = 2 → ErrIs ea 2 er → ErrF ea w9 er → Keep (fun b => b = R) w6 w9 → RdrAt w9 R Bu er (.slice (some ⟨Bf, a, none⟩) ((rstrip isSp (slice st.rest).1).length - 1) cap) →
      RdNext k ea R Bu Bf s D P po m mc pb out code w gk (.slice ap μ κ) (.int .i64 i) w9 := fun w9 er e h1 h1f => hend w9 er (by rw [e]; exact h1) (fun _ => h1f.v)
  have hea : ea.block < w6.heap.size := Nat.lt_of_lt_of_le h.ebl (Nat.le_trans hG1.kp.size k16.size)
  have hwc : (slice st.rest).1.length ≤ cap := hG6
  have heof : EofAt w6 ea := (h.eof.keep hG1.kp (by
    rintro (e | e | e)
    · exact hB.zu e.symm
    · exact hB.zf e.symm
    · exact hB.zs e.symm)).keep k16 (fun e => hB.zr e.symm)
  have hfar : ∀ w', Keep (fun b => b = R) w6 w' → (binOp .eql 46 (eofv fa) (eofv ea)).run Tryd.prog w' = .ok (.bool false) w' := by
    intro w' k6
    have hen' := line_env hB h hrow hen hG1 (k16'.trans (T := fun b => b = R) k6 (fun _ _ e => .inl e))
    obtain ⟨cs, t, hq, -⟩ := hen'.fb.2
    exact eof_far w' hq hen'.eac hen'.fb.1
  by_cases htc : cap = (rstrip isSp (slice st.rest).1).length
  · have h2' := htc1 htc
    have e1 : (rstrip isSp (slice st.rest).1).length = (slice st.rest).1.length := by omega
    have hr0 : behind (slice st.rest).1 = [] := by unfold behind; rw [e1, List.drop_length]; rfl
    have he : (prep (slice st.rest).1 (slice st.rest).2.2).2 = 2 := by rw [hp]; exact if_neg (by simp [hr0, h2'])
    have h4096 := slice_2 h2'
    have htrim0 : Calls Tryd.prog 24 #[.slice (some ⟨Bf, a, none⟩) 0 0, .string ⟨#[32, 9]⟩] w6
        fun e w' => (∃ v, e = .returned v ∧ (∀ w8, Keep (fun b => b = R) w' w8 → Bs w8 v []) ∧ Below w6.heap.size w6 w') := by
      refine (trimL_any (l := []) ⟨some ⟨Bf, a, none⟩, 0, rfl, Nat.le_refl _, by omega, (fun h => by cases h), fun h => absurd rfl h⟩).mono ?_
      rintro e w' ⟨v, rfl, hv, hb⟩
      refine ⟨v, rfl, fun w8 k8 => hv.notR (hL.rdr.keep (Keep.new (S := fun _ => False) hb) id) ?_ ?_ k8, hb⟩
      · intro x; rcases slErr_or ea fa (slice st.rest).2.2 with e | e <;> (rw [e]; intro e; cases e)
      · intro x e; cases e
    subst htc
    rw [← e1]
    exact tail61_c2d K Q _ _ _ _ _ _ _ _ _ _ _ _ _ _ _ _ _ _ _ _ _ _ _ _ _ _ _ _ _ _ _ _ _ _ _ _ _ _ _ _ _ _ _ _ _ _ _ _ _ _ _ _ _ _ _ _ _ _ _ _ _ _ _ _ _ _ _ _ _ _ _ _ _ _ _ _ _ _ _ _ _ _ _ _ _ _ _ _ _ _ _ _ _ _ _ _ _ _ _ _ _ _ _ _ _ _ _ _ _ _ _ _ _ _ _ _ _ _ _ _ _ _ _ _ _ _ _ _ _ _ _ _ _ _ _ _ _ _ _ _ _ _ _ _ _ _ _ _ _ _ _ _ _ _ _ _ _ _ _ _ _ _ _ _ _ _ _ _ _ _ _ _ _ _ _ _ _ _ _ _ _ _ _ _ _ _ _ _ _ _ _ _ _ _ _ _ _ _ _ _ _ _ _ _ _ _ _ _ _ _ _ _ _ _ _ _ _ _ _ _ _ _ _ _ _ _ _ _ _ _ _ _ _ _ _ _ _ i μ κ ap a (rstrip isSp (slice st.rest).1).length hasLF hasCR w6 _ [] hK hL.rdr htp hG7 htrim0 rfl rfl rfl (by omega) fa (by rw [h2']; rfl) heof hB.zr hfar hea (fun w9 er h1 h1f k69 h2 => hend2 w9 er he h1 h1f k69 h2)
  cases hp1 : ([10] : List UInt8).isPrefixOf (behind (slice st.rest).1) with
  | true =>
    have he : (prep (slice st.rest).1 (slice st.rest).2.2).2 = (slice st.rest).2.2 := by rw [hp, if_pos (.inl hp1)]
    exact tail61_a K Q _ _ _ _ _ _ _ _ _ _ _ _ _ _ _ _ _ _ _ _ _ _ _ _ _ _ _ _ _ _ _ _ _ _ _ _ _ _ _ _ _ _ _ _ _ _ _ _ _ _ _ _ _ _ _ _ _ _ _ _ _ _ _ _ _ _ _ _ _ _ _ _ _ _ _ _ _ _ _ _ _ _ _ _ _ _ _ _ _ _ _ _ _ _ _ _ _ _ _ _ _ _ _ _ _ _ _ _ _ _ _ _ _ _ _ _ _ _ _ _ _ _ _ _ _ _ _ _ _ _ _ _ _ _ _ _ _ _ _ _ _ _ _ _ _ _ _ _ _ _ _ _ _ _ _ _ _ _ _ _ _ _ _ _ _ _ _ _ _ _ _ _ _ _ _ _ _ _ _ _ _ _ _ _ _ _ _ _ _ _ _ _ _ _ _ _ _ _ _ _ _ _ _ _ _ _ _ _ _ _ _ _ _ _ _ _ _ _ _ _ _ _ _ _ _ _ _ _ _ _ _ _ _ _ _ _ _ i μ κ ap a (slice st.rest).1.length cap (rstrip isSp (slice st.rest).1).length hasLF hasCR w6 _ (behind (slice st.rest).1) hK hL.rdr htp htl hwc hG7 htc htrim hp1 (fun w9 k69 h2 => hend w9 _ (by rw [he]; exact herr) (fun e => line_sv hB h hrow hen hG1 (k16'.trans (T := fun b => b = R) k69 (fun _ _ e => .inl e)) (he.symm.trans e)) k69 h2)
  | false =>
  cases hp2 : ([13, 10] : List UInt8).isPrefixOf (behind (slice st.rest).1) with
  | true =>
    have he : (prep (slice st.rest).1 (slice st.rest).2.2).2 = (slice st.rest).2.2 := by rw [hp, if_pos (.inr (.inl hp2))]
    exact tail61_b K Q _ _ _ _ _ _ _ _ _ _ _ _ _ _ _ _ _ _ _ _ _ _ _ _ _ _ _ _ _ _ _ _ _ _ _ _ _ _ _ _ _ _ _ _ _ _ _ _ _ _ _ _ _ _ _ _ _ _ _ _ _ _ _ _ _ _ _ _ _ _ _ _ _ _ _ _ _ _ _ _ _ _ _ _ _ _ _ _ _ _ _ _ _ _ _ _ _ _ _ _ _ _ _ _ _ _ _ _ _ _ _ _ _ _ _ _ _ _ _ _ _ _ _ _ _ _ _ _ _ _ _ _ _ _ _ _ _ _ _ _ _ _ _ _ _ _ _ _ _ _ _ _ _ _ _ _ _ _ _ _ _ _ _ _ _ _ _ _ _ _ _ _ _ _ _ _ _ _ _ _ _ _ _ _ _ _ _ _ _ _ _ _ _ _ _ _ _ _ _ _ _ _ _ _ _ _ _ _ _ _ _ _ _ _ _ _ _ _ _ _ _ _ _ _ _ _ _ _ _ _ _ _ _ _ _ _ _ i μ κ ap a (slice st.rest).1.length cap (rstrip isSp (slice st.rest).1).length hasLF hasCR w6 _ (behind (slice st.rest).1) hK hL.rdr htp htl hwc hG7 htc htrim hp1 hp2 (fun w9 k69 h2 => hend w9 _ (by rw [he]; exact herr) (fun e => line_sv hB h hrow hen hG1 (k16'.trans (T := fun b => b = R) k69 (fun _ _ e => .inl e)) (he.symm.trans e)) k69 h2)
  | false =>
  by_cases hr0 : behind (slice st.rest).1 = []
  · by_cases ht1 : (rstrip isSp (slice st.rest).1).length = 1
    · have hd0 : (rstrip isSp (slice st.rest).1).dropLast = [] := by rw [hdl, ht1]; rfl
      have he : (prep (slice st.rest).1 (slice st.rest).2.2).2 = 2 := by rw [hp]; exact if_neg (by simp [hp1, hp2, hd0])
      exact tail61_c2a K Q _ _ _ _ _ _ _ _ _ _ _ _ _ _ _ _ _ _ _ _ _ _ _ _ _ _ _ _ _ _ _ _ _ _ _ _ _ _ _ _ _ _ _ _ _ _ _ _ _ _ _ _ _ _ _ _ _ _ _ _ _ _ _ _ _ _ _ _ _ _ _ _ _ _ _ _ _ _ _ _ _ _ _ _ _ _ _ _ _ _ _ _ _ _ _ _ _ _ _ _ _ _ _ _ _ _ _ _ _ _ _ _ _ _ _ _ _ _ _ _ _ _ _ _ _ _ _ _ _ _ _ _ _ _ _ _ _ _ _ _ _ _ _ _ _ _ _ _ _ _ _ _ _ _ _ _ _ _ _ _ _ _ _ _ _ _ _ _ _ _ _ _ _ _ _ _ _ _ _ _ _ _ _ _ _ _ _ _ _ _ _ _ _ _ _ _ _ _ _ _ _ _ _ _ _ _ _ _ _ _ _ _ _ _ _ _ _ _ _ _ _ _ _ _ _ _ _ _ _ _ _ _ _ _ _ _ _ i μ κ ap a (slice st.rest).1.length cap (rstrip isSp (slice st.rest).1).length hasLF hasCR w6 _ (behind (slice st.rest).1) hK hL.rdr htp htl hwc hG7 htc htrim hp1 hp2 hr0 ht1 hea (fun w9 er h1 h1f k69 h2 => hend2 w9 er he h1 h1f k69 h2)
    · have hd0 : (rstrip isSp (slice st.rest).1).dropLast ≠ [] := by
        intro e
        have := congrArg List.length e
        rw [List.length_dropLast] at this
        simp at this; omega
      by_cases h1 : (slice st.rest).2.2 = 1
      · have he : (prep (slice st.rest).1 (slice st.rest).2.2).2 = (slice st.rest).2.2 := by rw [hp]; exact if_pos (.inr (.inr ⟨hr0, hd0, h1⟩))
        exact tail61_c2b K Q _ _ _ _ _ _ _ _ _ _ _ _ _ _ _ _ _ _ _ _ _ _ _ _ _ _ _ _ _ _ _ _ _ _ _ _ _ _ _ _ _ _ _ _ _ _ _ _ _ _ _ _ _ _ _ _ _ _ _ _ _ _ _ _ _ _ _ _ _ _ _ _ _ _ _ _ _ _ _ _ _ _ _ _ _ _ _ _ _ _ _ _ _ _ _ _ _ _ _ _ _ _ _ _ _ _ _ _ _ _ _ _ _ _ _ _ _ _ _ _ _ _ _ _ _ _ _ _ _ _ _ _ _ _ _ _ _ _ _ _ _ _ _ _ _ _ _ _ _ _ _ _ _ _ _ _ _ _ _ _ _ _ _ _ _ _ _ _ _ _ _ _ _ _ _ _ _ _ _ _ _ _ _ _ _ _ _ _ _ _ _ _ _ _ _ _ _ _ _ _ _ _ _ _ _ _ _ _ _ _ _ _ _ _ _ _ _ _ _ _ _ _ _ _ _ _ _ _ _ _ _ _ _ _ _ _ _ i μ κ ap a (slice st.rest).1.length cap (rstrip isSp (slice st.rest).1).length hasLF hasCR w6 _ (behind (slice st.rest).1) hK hL.rdr htp htl hwc hG7 htc htrim hp1 hp2 hr0 (by omega) (by rw [h1]; rfl) heof hB.zr (fun w9 k69 h2 => hend w9 _ (by rw [he]; exact herr) (fun e => line_sv hB h hrow hen hG1 (k16'.trans (T := fun b => b = R) k69 (fun _ _ e => .inl e)) (he.symm.trans e)) k69 h2)
      · have h2' : (slice st.rest).2.2 = 2 := by have := behind_c hr0; omega
        have he : (prep (slice st.rest).1 (slice st.rest).2.2).2 = 2 := by rw [hp]; exact if_neg (by simp [hp1, hp2, h2'])
        exact tail61_c2c K Q _ _ _ _ _ _ _ _ _ _ _ _ _ _ _ _ _ _ _ _ _ _ _ _ _ _ _ _ _ _ _ _ _ _ _ _ _ _ _ _ _ _ _ _ _ _ _ _ _ _ _ _ _ _ _ _ _ _ _ _ _ _ _ _ _ _ _ _ _ _ _ _ _ _ _ _ _ _ _ _ _ _ _ _ _ _ _ _ _ _ _ _ _ _ _ _ _ _ _ _ _ _ _ _ _ _ _ _ _ _ _ _ _ _ _ _ _ _ _ _ _ _ _ _ _ _ _ _ _ _ _ _ _ _ _ _ _ _ _ _ _ _ _ _ _ _ _ _ _ _ _ _ _ _ _ _ _ _ _ _ _ _ _ _ _ _ _ _ _ _ _ _ _ _ _ _ _ _ _ _ _ _ _ _ _ _ _ _ _ _ _ _ _ _ _ _ _ _ _ _ _ _ _ _ _ _ _ _ _ _ _ _ _ _ _ _ _ _ _ _ _ _ _ _ _ _ _ _ _ _ _ _ _ _ _ _ _ i μ κ ap a (slice st.rest).1.length cap (rstrip isSp (slice st.rest).1).length hasLF hasCR w6 _ (behind (slice st.rest).1) hK hL.rdr htp htl hwc hG7 htc htrim hp1 hp2 hr0 (by omega) fa (by rw [h2']; rfl) heof hB.zr hfar hea (fun w9 er h1 h1f k69 h2 => hend2 w9 er he h1 h1f k69 h2)
  · have he : (prep (slice st.rest).1 (slice st.rest).2.2).2 = 2 := by rw [hp]; exact if_neg (by simp [hp1, hp2, hr0])
    exact tail61_c1 K Q _ _ _ _ _ _ _ _ _ _ _ _ _ _ _ _ _ _ _ _ _ _ _ _ _ _ _ _ _ _ _ _ _ _ _ _ _ _ _ _ _ _ _ _ _ _ _ _ _ _ _ _ _ _ _ _ _ _ _ _ _ _ _ _ _ _ _ _ _ _ _ _ _ _ _ _ _ _ _ _ _ _ _ _ _ _ _ _ _ _ _ _ _ _ _ _ _ _ _ _ _ _ _ _ _ _ _ _ _ _ _ _ _ _ _ _ _ _ _ _ _ _ _ _ _ _ _ _ _ _ _ _ _ _ _ _ _ _ _ _ _ _ _ _ _ _ _ _ _ _ _ _ _ _ _ _ _ _ _ _ _ _ _ _ _ _ _ _ _ _ _ _ _ _ _ _ _ _ _ _ _ _ _ _ _ _ _ _ _ _ _ _ _ _ _ _ _ _ _ _ _ _ _ _ _ _ _ _ _ _ _ _ _ _ _ _ _ _ _ _ _ _ _ _ _ _ _ _ _ _ _ _ _ _ _ _ _ i μ κ ap a (slice st.rest).1.length cap (rstrip isSp (slice st.rest).1).length hasLF hasCR w6 _ (behind (slice st.rest).1) hK hL.rdr htp htl hwc hG7 htc htrim hp1 hp2 hr0 hea (fun w9 er h1 h1f k69 h2 => hend2 w9 er he h1 h1f k69 h2)

set_option maxRecDepth 1000000 in
set_option maxHeartbeats 6400000 in
theorem fill_next (K : Act → World → Prop) (Q : Exit → Act → World → Prop) (u5 u6 u7 u8 u9 u10 u11 u12 u13 u14 u15 u16 u17 u18 u19 u20 u21 u22 u23 u24 u25 u26 u27 u28 u29 u30 u31 u32 u33 u34 u35 u36 u37 u38 u39 u40 u41 u42 u43 u44 u45 u46 u47 u48 u49 u50 u51 u52 u53 u54 u55 u56 u57 u58 u59 u60 u61 u62 u63 u64 u65 u66 u67 u68 u69 u70 u71 u72 u73 u74 u75 u76 u77 u78 u79 u80 u81 u82 u83 u84 u85 u86 u87 u88 u89 u90 u91 u92 u93 u94 u95 u96 u97 u98 u99 u100 u101 u102 u103 u104 u105 u106 u107 u108 u109 u110 u111 u112 u113 u114 u115 u116 u117 u118 u119 u120 u121 u122 u123 u124 u125 u126 u127 u128 u129 u130 u131 u132 u133 u134 u135 u136 u137 u138 u139 u140 u141 u142 u143 u144 u145 u146 u147 u148 u149 u150 u151 u152 u153 u154 u155 u156 u157 u158 u159 u160 u161 u162 u163 u164 u165 u166 u167 u168 u169 u170 u171 u172 u173 u174 u175 u176 u177 u178 u179 u180 u181 u182 u183 u184 u185 u186 u187 u188 u189 u190 u191 u192 u193 u194 u195 u196 u197 u198 u199 u200 u201 u202 u203 u204 u205 u206 u207 u208 u209 u210 u211 u212 u213 u214 u215 u216 u217 u218 u219 u220 u221 u222 u223 u224 u225 u226 u227 u228 u229 u230 u231 u232 u233 u234 u235 u236 u237 u238 u239 u240 u241 u242 u243 u244 u245 : Value) {st : RS} {ev lv : Value} {r n : Nat} {buf d : List UInt8} (i μ κ : Nat) (ap : Option Addr)
    (hB : Blocks R Bu Bf s D P) (h : QAt k ea R Bu Bf s D wr st ev lv r n buf d) (hl : st.line = []) (hr : st.rerr = 0) (hst : strm st = (out.drop i, code))
    (hi : i ≤ m) (hio : i ≤ out.length) (hμ : μ = m - i) (hκ : κ = mc - i) (hap : i < m → ap = some ⟨P, po + i, none⟩) (hrow : RowB wr P (splice pb po (out.take i))) (hkeep : Keep (Rmay R Bu Bf s P) w wr) (hgk : gk = meas st) (hμ1 : 1 ≤ μ)
    (hK : ∀ (pv nv u5 u6 u7 u8 u9 u10 u11 u12 u13 u14 u15 u16 u17 u18 u19 u20 u21 u22 u23 u24 u25 u26 u27 u28 u29 u30 u31 u32 u33 u34 u35 u36 u37 u38 u39 u40 u41 u42 u43 u44 u45 u46 u47 u48 u49 u50 u51 u52 u53 u54 u55 u56 u57 u58 u59 u60 u61 u62 u63 u64 u65 u66 u67 u68 u69 u70 u71 u72 u73 u74 u75 u76 u77 u78 u79 u80 u81 u82 u83 u84 u85 u86 u87 u88 u89 u90 u91 u92 u93 u94 u95 u96 u97 u98 u99 u100 u101 u102 u103 u104 u105 u106 u107 u108 u109 u110 u111 u112 u113 u114 u115 u116 u117 u118 u119 u120 u121 u122 u123 u124 u125 u126 u127 u128 u129 u130 u131 u132 u133 u134 u135 u136 u137 u138 u139 u140 u141 u142 u143 u144 u145 u146 u147 u148 u149 u150 u151 u152 u153 u154 u155 u156 u157 u158 u159 u160 u161 u162 u163 u164 u165 u166 u167 u168 u169 u170 u171 u172 u173 u174 u175 u176 u177 u178 u179 u180 u181 u182 u183 u184 u185 u186 u187 u188 u189 u190 u191 u192 u193 u194 u195 u196 u197 u198 u199 u200 u201 u202 u203 u204 u205 u206 u207 u208 u209 u210 u211 u212 u213 u214 u215 u216 u217 u218 u219 u220 u221 u222 u223 u224 u225 u226 u227 u228 u229 u230 u231 u232 u233 u234 u235 u236 u237 u238 u239 u240 u241 u242 u243 u244 u245 : Value) (w' : World), RdNext k ea R Bu Bf s D P po m mc pb out code w gk pv nv w' → K ⟨#[Value.pointer (some ⟨R, 0, none⟩), pv, undef, undef, nv, u5, u6, u7, u8, u9, u10, u11, u12, u13, u14, u15, u16, u17, u18, u19, u20, u21, u22, u23, u24, u25, u26, u27, u28, u29, u30, u31, u32, u33, u34, u35, u36, u37, u38, u39, u40, u41, u42, u43, u44, u45, u46, u47, u48, u49, u50, u51, u52, u53, u54, u55, u56, u57, u58, u59, u60, u61, u62, u63, u64, u65, u66, u67, u68, u69, u70, u71, u72, u73, u74, u75, u76, u77, u78, u79, u80, u81, u82, u83, u84, u85, u86, u87, u88, u89, u90, u91, u92, u93, u94, u95, u96, u97, u98, u99, u100, u101, u102, u103, u104, u105, u106, u107, u108, u109, u110, u111, u112, u113, u114, u115, u116, u117, u118, u119, u120, u121, u122, u123, u124, u125, u126, u127, u128, u129, u130, u131, u132, u133, u134, u135, u136, u137, u138, u139, u140, u141, u142, u143, u144, u145, u146, u147, u148, u149, u150, u151, u152, u153, u154, u155, u156, u157, u158, u159, u160, u161, u162, u163, u164, u165, u166, u167, u168, u169, u170, u171, u172, u173, u174, u175, u176, u177, u178, u179, u180, u181, u182, u183, u184, u185, u186, u187, u188, u189, u190, u191, u192, u193, u194, u195, u196, u197, u198, u199, u200, u201, u202, u203, u204, u205, u206, u207, u208, u209, u210, u211, u212, u213, u214, u215, u216, u217, u218, u219, u220, u221, u222, u223, u224, u225, u226, u227, u228, u229, u230, u231, u232, u233, u234, u235, u236, u237, u238, u239, u240, u241, u242, u243, u244, u245, undef], []⟩ w') :
    Code.wp Tryd.prog rbody (Exit.then K Q) ⟨#[Value.pointer (some ⟨R, 0, none⟩), .slice ap μ κ, undef, undef, .int .i64 i, u5, u6, u7, u8, u9, u10, u11, u12, u13, u14, u15, u16, u17, u18, u19, u20, u21, u22, u23, u24, u25, u26, u27, u28, u29, u30, u31, u32, u33, u34, u35, u36, u37, u38, u39, u40, u41, u42, u43, u44, u45, u46, u47, u48, u49, u50, u51, u52, u53, u54, u55, u56, u57, u58, u59, u60, u61, u62, u63, u64, u65, u66, u67, u68, u69, u70, u71, u72, u73, u74, u75, u76, u77, u78, u79, u80, u81, u82, u83, u84, u85, u86, u87, u88, u89, u90, u91, u92, u93, u94, u95, u96, u97, u98, u99, u100, u101, u102, u103, u104, u105, u106, u107, u108, u109, u110, u111, u112, u113, u114, u115, u116, u117, u118, u119, u120, u121, u122, u123, u124, u125, u126, u127, u128, u129, u130, u131, u132, u133, u134, u135, u136, u137, u138, u139, u140, u141, u142, u143, u144, u145, u146, u147, u148, u149, u150, u151, u152, u153, u154, u155, u156, u157, u158, u159, u160, u161, u162, u163, u164, u165, u166, u167, u168, u169, u170, u171, u172, u173, u174, u175, u176, u177, u178, u179, u180, u181, u182, u183, u184, u185, u186, u187, u188, u189, u190, u191, u192, u193, u194, u195, u196, u197, u198, u199, u200, u201, u202, u203, u204, u205, u206, u207, u208, u209, u210, u211, u212, u213, u214, u215, u216, u217, u218, u219, u220, u221, u222, u223, u224, u225, u226, u227, u228, u229, u230, u231, u232, u233, u234, u235, u236, u237, u238, u239, u240, u241, u242, u243, u244, u245, undef], []⟩ wr := by
  have hb := h.bs
  rw [hl] at hb
  obtain ⟨al, lc, hlv, -⟩ := hb
  have hev : ev = .nilIface := by
    rcases h.err with ⟨_, e⟩ | ⟨e, _⟩ | ⟨e, _⟩
    · exact e
    · rw [hr] at e; cases e
    · rw [hr] at e; cases e
  subst hlv; subst hev
  obtain ⟨fa, ua, hen⟩ := h.env
  obtain ⟨c0, c1, c2, f0, f1, f2⟩ := cells3 h.rdr
  refine fill_prefix K Q _ _ _ _ _ _ _ _ _ _ _ _ _ _ _ _ _ _ _ _ _ _ _ _ _ _ _ _ _ _ _ _ _ _ _ _ _ _ _ _ _ _ _ _ _ _ _ _ _ _ _ _ _ _ _ _ _ _ _ _ _ _ _ _ _ _ _ _ _ _ _ _ _ _ _ _ _ _ _ _ _ _ _ _ _ _ _ _ _ _ _ _ _ _ _ _ _ _ _ _ _ _ _ _ _ _ _ _ _ _ _ _ _ _ _ _ _ _ _ _ _ _ _ _ _ _ _ _ _ _ _ _ _ _ _ _ _ _ _ _ _ _ _ _ _ _ _ _ _ _ _ _ _ _ _ _ _ _ _ _ _ _ _ _ _ _ _ _ _ _ _ _ _ _ _ _ _ _ _ _ _ _ _ _ _ _ _ _ _ _ _ _ _ _ _ _ _ _ _ _ _ _ _ _ _ _ _ _ _ _ _ _ _ _ _ _ _ _ _ _ _ _ _ _ _ _ _ _ _ _ _ _ _ _ _ _ _ _ _ _ _ i μ κ 0 lc ap al (slErr ea fa (slice st.rest).2.2) 84 (some (if (slice st.rest).2.2 = 1 then ea else fa)) (slice st.rest).1 (LinePost k ea Bu Bf s D st.rest wr) _ _ _ hK c0 c1 c2 hμ1 ?_ ?_ (Nat.ne_of_gt hen.go3.1) (Nat.ne_of_gt hen.go4.1) (fun e => hB.rf e.symm) rfl rfl rfl (readSlice_line hB h rfl hen) ?_
  · exact slErr_or ea fa _
  · intro a cap w1 hG
    obtain ⟨lo, r', n', buf', d', hG1, -⟩ := hG
    exact (line_env hB h hrow hen hG1 (Keep.refl _ w1)).tabs
  · intro K' Q' hK' a cap u5 u9 u10 u11 u12 u13 u14 u15 u16 u17 u18 u19 u20 u21 u22 u23 u24 u25 u26 u27 u28 u29 u30 u31 u32 u33 u34 u35 u36 u37 u38 u39 u40 u41 u42 u43 u44 u45 u46 u47 u48 u49 u50 u51 u52 u53 u54 u55 u56 u57 u58 u59 u60 u61 u62 u63 u64 u65 u66 u67 u68 u69 u70 u71 u72 u74 u75 u76 u77 u78 u79 u80 u81 u82 u83 u84 u85 u86 u87 u88 u89 u90 u91 u92 u93 u94 u95 u96 u97 u98 u99 u100 u101 u102 u103 u104 u105 u106 u107 u108 u109 u110 u111 u112 u113 u114 u115 u116 u117 u118 u119 u120 u121 u122 u123 u124 u125 u126 u127 u128 u129 u130 u131 u132 u133 u134 u135 u136 u137 u138 u139 u140 u141 u142 u143 u144 u145 u146 u147 u148 u149 u150 u151 u152 u153 u154 u155 u156 u157 u158 u159 u160 u161 u162 u163 u164 u165 u166 u167 u168 u169 u170 u171 u172 u173 u174 u175 u176 u177 u178 u179 u180 u181 u182 u183 u184 u185 u186 u187 u188 u189 u190 u191 u192 u193 u194 u195 u196 u197 u198 u199 u200 u201 u202 u203 u204 u205 u206 u207 u208 u209 u210 u211 u212 u213 u214 u215 u216 u217 u218 u219 u220 u221 u222 u223 u224 u225 u226 u227 u228 u229 u230 u231 u232 u233 u234 u235 u236 u237 u238 u239 u240 u241 u242 u243 u244 u245 w1 w6 hG k16 hL
    cases h61 : ([61] : List UInt8).isSuffixOf (rstrip isSp (slice st.rest).1) with
    | true => exact fin_61 K' Q' _ _ _ _ _ _ _ _ _ _ _ _ _ _ _ _ _ _ _ _ _ _ _ _ _ _ _ _ _ _ _ _ _ _ _ _ _ _ _ _ _ _ _ _ _ _ _ _ _ _ _ _ _ _ _ _ _ _ _ _ _ _ _ _ _ _ _ _ _ _ _ _ _ _ _ _ _ _ _ _ _ _ _ _ _ _ _ _ _ _ _ _ _ _ _ _ _ _ _ _ _ _ _ _ _ _ _ _ _ _ _ _ _ _ _ _ _ _ _ _ _ _ _ _ _ _ _ _ _ _ _ _ _ _ _ _ _ _ _ _ _ _ _ _ _ _ _ _ _ _ _ _ _ _ _ _ _ _ _ _ _ _ _ _ _ _ _ _ _ _ _ _ _ _ _ _ _ _ _ _ _ _ _ _ _ _ _ _ _ _ _ _ _ _ _ _ _ _ _ _ _ _ _ _ _ _ _ _ _ _ _ _ _ _ _ _ _ _ _ _ _ _ _ _ _ _ _ _ _ _ _ _ _ _ _ _ _ i μ κ ap hB h hl hr hst hi hio hμ hκ hap hrow hkeep hgk fa ua hen a cap w1 w6 hG k16 hL _ _ h61 hK'
    | false =>
      cases hLF : ([10] : List UInt8).isSuffixOf (slice st.rest).1 with
      | true =>
        cases hCR : ([13, 10] : List UInt8).isSuffixOf (slice st.rest).1 with
        | true => exact fin_crlf K' Q' _ _ _ _ _ _ _ _ _ _ _ _ _ _ _ _ _ _ _ _ _ _ _ _ _ _ _ _ _ _ _ _ _ _ _ _ _ _ _ _ _ _ _ _ _ _ _ _ _ _ _ _ _ _ _ _ _ _ _ _ _ _ _ _ _ _ _ _ _ _ _ _ _ _ _ _ _ _ _ _ _ _ _ _ _ _ _ _ _ _ _ _ _ _ _ _ _ _ _ _ _ _ _ _ _ _ _ _ _ _ _ _ _ _ _ _ _ _ _ _ _ _ _ _ _ _ _ _ _ _ _ _ _ _ _ _ _ _ _ _ _ _ _ _ _ _ _ _ _ _ _ _ _ _ _ _ _ _ _ _ _ _ _ _ _ _ _ _ _ _ _ _ _ _ _ _ _ _ _ _ _ _ _ _ _ _ _ _ _ _ _ _ _ _ _ _ _ _ _ _ _ _ _ _ _ _ _ _ _ _ _ _ _ _ _ _ _ _ _ _ _ _ _ _ _ _ _ _ _ _ _ _ _ _ _ _ _ i μ κ ap hB h hl hr hst hi hio hμ hκ hap hrow hkeep hgk fa ua hen a cap w1 w6 hG k16 hL h61 hLF hCR hK'
        | false => exact fin_lf K' Q' _ _ _ _ _ _ _ _ _ _ _ _ _ _ _ _ _ _ _ _ _ _ _ _ _ _ _ _ _ _ _ _ _ _ _ _ _ _ _ _ _ _ _ _ _ _ _ _ _ _ _ _ _ _ _ _ _ _ _ _ _ _ _ _ _ _ _ _ _ _ _ _ _ _ _ _ _ _ _ _ _ _ _ _ _ _ _ _ _ _ _ _ _ _ _ _ _ _ _ _ _ _ _ _ _ _ _ _ _ _ _ _ _ _ _ _ _ _ _ _ _ _ _ _ _ _ _ _ _ _ _ _ _ _ _ _ _ _ _ _ _ _ _ _ _ _ _ _ _ _ _ _ _ _ _ _ _ _ _ _ _ _ _ _ _ _ _ _ _ _ _ _ _ _ _ _ _ _ _ _ _ _ _ _ _ _ _ _ _ _ _ _ _ _ _ _ _ _ _ _ _ _ _ _ _ _ _ _ _ _ _ _ _ _ _ _ _ _ _ _ _ _ _ _ _ _ _ _ _ _ _ _ _ _ _ _ _ i μ κ ap hB h hl hr hst hi hio hμ hκ hap hrow hkeep hgk fa ua hen a cap w1 w6 hG k16 hL h61 hLF hCR hK'
      | false =>
        cases hCR : ([13, 10] : List UInt8).isSuffixOf (slice st.rest).1 with
        | true => exact fin_none_true K' Q' _ _ _ _ _ _ _ _ _ _ _ _ _ _ _ _ _ _ _ _ _ _ _ _ _ _ _ _ _ _ _ _ _ _ _ _ _ _ _ _ _ _ _ _ _ _ _ _ _ _ _ _ _ _ _ _ _ _ _ _ _ _ _ _ _ _ _ _ _ _ _ _ _ _ _ _ _ _ _ _ _ _ _ _ _ _ _ _ _ _ _ _ _ _ _ _ _ _ _ _ _ _ _ _ _ _ _ _ _ _ _ _ _ _ _ _ _ _ _ _ _ _ _ _ _ _ _ _ _ _ _ _ _ _ _ _ _ _ _ _ _ _ _ _ _ _ _ _ _ _ _ _ _ _ _ _ _ _ _ _ _ _ _ _ _ _ _ _ _ _ _ _ _ _ _ _ _ _ _ _ _ _ _ _ _ _ _ _ _ _ _ _ _ _ _ _ _ _ _ _ _ _ _ _ _ _ _ _ _ _ _ _ _ _ _ _ _ _ _ _ _ _ _ _ _ _ _ _ _ _ _ _ _ _ _ _ _ i μ κ ap hB h hl hr hst hi hio hμ hκ hap hrow hkeep hgk fa ua hen a cap w1 w6 hG k16 hL h61 hLF hK'
        | false => exact fin_none_false K' Q' _ _ _ _ _ _ _ _ _ _ _ _ _ _ _ _ _ _ _ _ _ _ _ _ _ _ _ _ _ _ _ _ _ _ _ _ _ _ _ _ _ _ _ _ _ _ _ _ _ _ _ _ _ _ _ _ _ _ _ _ _ _ _ _ _ _ _ _ _ _ _ _ _ _ _ _ _ _ _ _ _ _ _ _ _ _ _ _ _ _ _ _ _ _ _ _ _ _ _ _ _ _ _ _ _ _ _ _ _ _ _ _ _ _ _ _ _ _ _ _ _ _ _ _ _ _ _ _ _ _ _ _ _ _ _ _ _ _ _ _ _ _ _ _ _ _ _ _ _ _ _ _ _ _ _ _ _ _ _ _ _ _ _ _ _ _ _ _ _ _ _ _ _ _ _ _ _ _ _ _ _ _ _ _ _ _ _ _ _ _ _ _ _ _ _ _ _ _ _ _ _ _ _ _ _ _ _ _ _ _ _ _ _ _ _ _ _ _ _ _ _ _ _ _ _ _ _ _ _ _ _ _ _ _ _ _ _ i μ κ ap hB h hl hr hst hi hio hμ hκ hap hrow hkeep hgk fa ua hen a cap w1 w6 hG k16 hL h61 hLF hK'

end
end Go.Proofs.YtcbolmendjocbaaDoor

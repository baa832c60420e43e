/- What the Reader makes of a line that ends with an equals sign and is longer than the buffer (printed by mkc2c.py). -/
import Derived.Test.YtcbolmendjocbaaDoorRq7
import Derived.Test.YtcbolmendjocbaaDoorR13c
namespace Go.Proofs.YtcbolmendjocbaaDoor
open Go.RowKit Qp

section
variable {k : Bool} {ea : Addr} {R Bu Bf s D P po m mc : Nat} {pb out : List UInt8} {code : Nat} {w wr : World} {gk : Nat}

set_option maxRecDepth 1000000 in
set_option maxHeartbeats 6400000 in
theorem tail61_c2c (K : Act → World → Prop) (Q : Exit → Act → World → Prop) (u5 u9 u10 u11 u12 u13 u14 u15 u16 u17 u18 u19 u20 u21 u22 u23 u24 u25 u26 u27 u28 u29 u30 u31 u32 u33 u34 u35 u36 u37 u38 u39 u40 u41 u42 u43 u44 u45 u46 u47 u48 u49 u50 u51 u52 u53 u54 u55 u56 u57 u58 u59 u60 u61 u62 u63 u64 u65 u66 u67 u68 u69 u70 u71 u72 u74 u75 u76 u77 u78 u79 u80 u81 u82 u83 u84 u85 u86 u87 u88 u89 u90 u91 u92 u93 u94 u95 u96 u97 u98 u99 u100 u101 u102 u103 u104 u105 u106 u107 u108 u109 u110 u111 u112 u113 u114 u115 u116 u117 u118 u119 u120 u121 u122 u123 u124 u125 u126 u127 u128 u129 u130 u131 u132 u133 u134 u135 u136 u137 u138 u139 u140 u141 u142 u143 u144 u145 u146 u147 u148 u149 u150 u151 u152 u153 u154 u155 u156 u157 u158 u159 u160 u161 u162 u163 u164 u165 u166 u167 u168 u169 u170 u171 u172 u173 u174 u175 u176 u177 u178 u179 u180 u181 u182 u183 u184 u185 u186 u187 u188 u189 u190 u191 u192 u193 u194 u195 u196 u197 u198 u199 u200 u201 u202 u203 u204 u205 u206 u207 u208 u209 u210 u211 u212 u213 u214 u215 u216 u217 u218 u219 u220 u221 u222 u223 u224 u225 u226 u227 u228 u229 u230 u231 u232 u233 u234 u235 u236 u237 u238 u239 u240 u241 u242 u243 u244 u245 : Value) (i μ κ : Nat) (ap : Option Addr) (a wl cap tl : Nat) (hasLF hasCR : Bool) (w6 : World) (ev' : Value) (rs : List UInt8)
    (hK : ∀ (pv nv u5 u6 u7 u8 u9 u10 u11 u12 u13 u14 u15 u16 u17 u18 u19 u20 u21 u22 u23 u24 u25 u26 u27 u28 u29 u30 u31 u32 u33 u34 u35 u36 u37 u38 u39 u40 u41 u42 u43 u44 u45 u46 u47 u48 u49 u50 u51 u52 u53 u54 u55 u56 u57 u58 u59 u60 u61 u62 u63 u64 u65 u66 u67 u68 u69 u70 u71 u72 u73 u74 u75 u76 u77 u78 u79 u80 u81 u82 u83 u84 u85 u86 u87 u88 u89 u90 u91 u92 u93 u94 u95 u96 u97 u98 u99 u100 u101 u102 u103 u104 u105 u106 u107 u108 u109 u110 u111 u112 u113 u114 u115 u116 u117 u118 u119 u120 u121 u122 u123 u124 u125 u126 u127 u128 u129 u130 u131 u132 u133 u134 u135 u136 u137 u138 u139 u140 u141 u142 u143 u144 u145 u146 u147 u148 u149 u150 u151 u152 u153 u154 u155 u156 u157 u158 u159 u160 u161 u162 u163 u164 u165 u166 u167 u168 u169 u170 u171 u172 u173 u174 u175 u176 u177 u178 u179 u180 u181 u182 u183 u184 u185 u186 u187 u188 u189 u190 u191 u192 u193 u194 u195 u196 u197 u198 u199 u200 u201 u202 u203 u204 u205 u206 u207 u208 u209 u210 u211 u212 u213 u214 u215 u216 u217 u218 u219 u220 u221 u222 u223 u224 u225 u226 u227 u228 u229 u230 u231 u232 u233 u234 u235 u236 u237 u238 u239 u240 u241 u242 u243 u244 u245 : Value) (w' : World), RdNext k ea R Bu Bf s D P po m mc pb out code w gk pv nv w' → K ⟨#[Value.pointer (some ⟨R, 0, none⟩), pv, undef, undef, nv, u5, u6, u7, u8, u9, u10, u11, u12, u13, u14, u15, u16, u17, u18, u19, u20, u21, u22, u23, u24, u25, u26, u27, u28, u29, u30, u31, u32, u33, u34, u35, u36, u37, u38, u39, u40, u41, u42, u43, u44, u45, u46, u47, u48, u49, u50, u51, u52, u53, u54, u55, u56, u57, u58, u59, u60, u61, u62, u63, u64, u65, u66, u67, u68, u69, u70, u71, u72, u73, u74, u75, u76, u77, u78, u79, u80, u81, u82, u83, u84, u85, u86, u87, u88, u89, u90, u91, u92, u93, u94, u95, u96, u97, u98, u99, u100, u101, u102, u103, u104, u105, u106, u107, u108, u109, u110, u111, u112, u113, u114, u115, u116, u117, u118, u119, u120, u121, u122, u123, u124, u125, u126, u127, u128, u129, u130, u131, u132, u133, u134, u135, u136, u137, u138, u139, u140, u141, u142, u143, u144, u145, u146, u147, u148, u149, u150, u151, u152, u153, u154, u155, u156, u157, u158, u159, u160, u161, u162, u163, u164, u165, u166, u167, u168, u169, u170, u171, u172, u173, u174, u175, u176, u177, u178, u179, u180, u181, u182, u183, u184, u185, u186, u187, u188, u189, u190, u191, u192, u193, u194, u195, u196, u197, u198, u199, u200, u201, u202, u203, u204, u205, u206, u207, u208, u209, u210, u211, u212, u213, u214, u215, u216, u217, u218, u219, u220, u221, u222, u223, u224, u225, u226, u227, u228, u229, u230, u231, u232, u233, u234, u235, u236, u237, u238, u239, u240, u241, u242, u243, u244, u245, undef], []⟩ w')
    (hrd : RdrAt w6 R Bu ev' (.slice (some ⟨Bf, a, none⟩) tl cap))
    (_htl : 1 ≤ tl) (htw : tl ≤ wl) (hwc : wl ≤ cap) (hcap : cap ≤ 4096) (htc : ¬ cap = tl)
    (htrim : Calls Tryd.prog 24 #[.slice (some ⟨Bf, a + tl, none⟩) (wl - tl) (cap - tl), .string ⟨#[32, 9]⟩] w6 fun e w' => (∃ v, e = .returned v ∧ (∀ w8, Keep (fun b => b = R) w' w8 → Bs w8 v rs) ∧ Below w6.heap.size w6 w'))
    (hp1 : ([10] : List UInt8).isPrefixOf rs = false) (hp2 : ([13, 10] : List UInt8).isPrefixOf rs = false) (hrs0 : rs = []) (ht1 : 2 ≤ tl) (fa : Addr) (hev : ev' = eofv fa) (heof : EofAt w6 ea) (hzR : R ≠ 0) (hfar : ∀ w', Keep (fun b => b = R) w6 w' → (binOp .eql 46 (eofv fa) (eofv ea)).run Tryd.prog w' = .ok (.bool false) w')
    (hea : ea.block < w6.heap.size) (hend : ∀ w9 er, ErrIs ea 2 er → ErrF ea w9 er → Keep (fun b => b = R) w6 w9 → RdrAt w9 R Bu er (.slice (some ⟨Bf, a, none⟩) (tl - 1) cap) → RdNext k ea R Bu Bf s D P po m mc pb out code w gk (.slice ap μ κ) (.int .i64 i) w9) :
    Code.wp Tryd.prog rcond (Exit.then K Q) ⟨#[Value.pointer (some ⟨R, 0, none⟩), .slice ap μ κ, undef, undef, .int .i64 i, u5, .bool hasLF, .bool hasCR, .slice (some ⟨Bf, a, none⟩) wl cap, u9, u10, u11, u12, u13, u14, u15, u16, u17, u18, u19, u20, u21, u22, u23, u24, u25, u26, u27, u28, u29, u30, u31, u32, u33, u34, u35, u36, u37, u38, u39, u40, u41, u42, u43, u44, u45, u46, u47, u48, u49, u50, u51, u52, u53, u54, u55, u56, u57, u58, u59, u60, u61, u62, u63, u64, u65, u66, u67, u68, u69, u70, u71, u72, .bool true, u74, u75, u76, u77, u78, u79, u80, u81, u82, u83, u84, u85, u86, u87, u88, u89, u90, u91, u92, u93, u94, u95, u96, u97, u98, u99, u100, u101, u102, u103, u104, u105, u106, u107, u108, u109, u110, u111, u112, u113, u114, u115, u116, u117, u118, u119, u120, u121, u122, u123, u124, u125, u126, u127, u128, u129, u130, u131, u132, u133, u134, u135, u136, u137, u138, u139, u140, u141, u142, u143, u144, u145, u146, u147, u148, u149, u150, u151, u152, u153, u154, u155, u156, u157, u158, u159, u160, u161, u162, u163, u164, u165, u166, u167, u168, u169, u170, u171, u172, u173, u174, u175, u176, u177, u178, u179, u180, u181, u182, u183, u184, u185, u186, u187, u188, u189, u190, u191, u192, u193, u194, u195, u196, u197, u198, u199, u200, u201, u202, u203, u204, u205, u206, u207, u208, u209, u210, u211, u212, u213, u214, u215, u216, u217, u218, u219, u220, u221, u222, u223, u224, u225, u226, u227, u228, u229, u230, u231, u232, u233, u234, u235, u236, u237, u238, u239, u240, u241, u242, u243, u244, u245, undef], []⟩ w6 := by
  refine wp_np ?_
  have HE := Lib.hid hend
  have HK := Lib.hid hK
  have HTR := Lib.hid htrim
  have HP1 := Lib.hid hp1
  have HRD := Lib.hid hrd
  obtain ⟨c0, c1, c2, f0, f1, f2⟩ := cells3 hrd
  have g1 : (1 : Int) ≤ tl := by omega
  have g2 : (tl : Int) ≤ wl := by omega
  have g3 : (wl : Int) ≤ cap := by omega
  have g4 : (cap : Int) ≤ 4096 := by omega
  have htc2 : tl ≤ cap := by omega
  have htc3 : tl - 1 ≤ cap := by omega
  have HP2 := Lib.hid hp2
  clear hp2
  have HL0 := Lib.hid (show (((rs.length : Nat) : Int) == 0) = true by simp [hrs0])
  have HGT := Lib.hid (show 0 < tl - 1 by omega)
  have HEO := Lib.hid heof
  have HZ := Lib.hid hzR
  subst hev
  have HFAR := Lib.hid hfar
  have HEA := Lib.hid hea
  clear hrs0 heof hzR hfar hea
  clear hend hK htrim hp1 hrd
  conv => arg 2; whnf
  go_wp2_with fail
  refine HTR.out.mono ?_
  rintro e w7 ⟨v, rfl, hv, hbel⟩
  dsimp only
  obtain ⟨av, cv, hvs, -⟩ := hv _ (Keep.refl _ w7)
  subst hvs
  have r7 : RdrAt w7 R Bu _ _ := HRD.out.keep (Keep.new (S := fun _ => False) hbel) id
  have K67 := Lib.hid (Keep.new (S := fun b => b = R) hbel)
  have R7 := Lib.hid r7
  have HV := Lib.hid hv
  clear HTR hv hbel c0 c1 c2 f0 f1 f2 r7
  obtain ⟨c0, c1, c2, f0, f1, f2⟩ := cells3 R7.out
  go_wp2
  go_region
  obtain ⟨w8, hw8⟩ : ∃ w8, w8 = (w7.setCell ⟨R, 2, none⟩ (.slice (some ⟨Bf, a, none⟩) (tl - 1) cap)).drew := ⟨_, rfl⟩
  rw [← hw8]
  obtain ⟨k8, r8⟩ := eq61_world hw8 K67.out R7.out
  have h78 : Keep (fun b => b = R) w7 w8 := (eq61_world hw8 (Keep.refl _ w7) R7.out).1
  have hb8 := HV.out w8 h78
  have K8 := Lib.hid k8
  have R8 := Lib.hid r8
  have B8 := Lib.hid hb8
  clear c0 c1 c2 f0 f1 f2 hw8 k8 r8 h78 hb8 HV
  go_wp2
  show Code.wp Tryd.prog reg13 _ _ _
  obtain ⟨c0, c1, c2, f0, f1, f2⟩ := cells3 R8.out
  have e8 : EofAt w8 ea := K8.out.cell (S := fun b => b = R) (fun e => HZ.out e.symm) HEO.out
  refine r13_c2c (ea := ea) (fa := fa) (R := R) (rs := rs) (fun _ _ _ _ h => h) rfl rfl rfl B8.out HP1.out HP2.out HL0.out _ _ _ c2 HGT.out c1 e8 (fun w' k' => HFAR.out w' (K8.out.trans k' (fun _ _ h => h.elim))) (fun y96 y97 y98 y99 y100 y101 y102 y103 y104 y105 y106 y107 y108 y109 y110 y111 y112 y113 y114 y115 y116 y117 y118 y119 y120 y121 y122 y123 y124 y125 y126 y127 y128 w9 k9 => ?_)
  rw [put13]
  have K9 := Lib.hid (K8.out.trans k9 (fun _ _ h => h.elim))
  have R9 := Lib.hid (R8.out.keep k9 id)
  clear k9 c0 c1 c2 f0 f1 f2 e8
  obtain ⟨c0, c1, c2, f0, f1, f2⟩ := cells3 R9.out
  go_wp2_with fail
  refine (errnew_any _ _).mono ?_
  rintro e w11 ⟨rfl, hw11⟩
  have k11 : Keep (fun _ => False) w9 w11 := hw11 ▸ (Keep.refl (fun _ => False) w9).alloc _
  have F11 := Lib.hid (errF_at hw11)
  have R11 := Lib.hid (R9.out.keep k11 id)
  have K11 := Lib.hid (K9.out.trans k11 (fun _ _ h => h.elim))
  clear c0 c1 c2 f0 f1 f2 k11 hw11
  obtain ⟨c0, c1, c2, f0, f1, f2⟩ := cells3 R11.out
  unfold errv
  dsimp only
  go_wp2
  exact HK.out _ _ _ _ _ _ _ _ _ _ _ _ _ _ _ _ _ _ _ _ _ _ _ _ _ _ _ _ _ _ _ _ _ _ _ _ _ _ _ _ _ _ _ _ _ _ _ _ _ _ _ _ _ _ _ _ _ _ _ _ _ _ _ _ _ _ _ _ _ _ _ _ _ _ _ _ _ _ _ _ _ _ _ _ _ _ _ _ _ _ _ _ _ _ _ _ _ _ _ _ _ _ _ _ _ _ _ _ _ _ _ _ _ _ _ _ _ _ _ _ _ _ _ _ _ _ _ _ _ _ _ _ _ _ _ _ _ _ _ _ _ _ _ _ _ _ _ _ _ _ _ _ _ _ _ _ _ _ _ _ _ _ _ _ _ _ _ _ _ _ _ _ _ _ _ _ _ _ _ _ _ _ _ _ _ _ _ _ _ _ _ _ _ _ _ _ _ _ _ _ _ _ _ _ _ _ _ _ _ _ _ _ _ _ _ _ _ _ _ _ _ _ _ _ _ _ _ _ _ _ _ _ _ _ _ _ _ _ _ _ _ _ _ _ (HE.out _ _ (.inr (.inr ⟨rfl, ⟨w9.heap.size, 0, none⟩, fun e => absurd (congrArg Addr.block e) (Nat.ne_of_gt (Nat.lt_of_lt_of_le HEA.out K9.out.size)), rfl⟩)) (errF_new (Nat.ne_of_lt (Lib.lt_of_heap R9.out)) rfl (Nat.ne_of_gt (Nat.lt_of_lt_of_le HEA.out K9.out.size)) F11.out) (K11.out.setCell ⟨R, 1, none⟩ rfl _) (R11.out.serr _))


set_option maxRecDepth 1000000 in
set_option maxHeartbeats 6400000 in
theorem tail61_c2d (K : Act → World → Prop) (Q : Exit → Act → World → Prop) (u5 u9 u10 u11 u12 u13 u14 u15 u16 u17 u18 u19 u20 u21 u22 u23 u24 u25 u26 u27 u28 u29 u30 u31 u32 u33 u34 u35 u36 u37 u38 u39 u40 u41 u42 u43 u44 u45 u46 u47 u48 u49 u50 u51 u52 u53 u54 u55 u56 u57 u58 u59 u60 u61 u62 u63 u64 u65 u66 u67 u68 u69 u70 u71 u72 u74 u75 u76 u77 u78 u79 u80 u81 u82 u83 u84 u85 u86 u87 u88 u89 u90 u91 u92 u93 u94 u95 u96 u97 u98 u99 u100 u101 u102 u103 u104 u105 u106 u107 u108 u109 u110 u111 u112 u113 u114 u115 u116 u117 u118 u119 u120 u121 u122 u123 u124 u125 u126 u127 u128 u129 u130 u131 u132 u133 u134 u135 u136 u137 u138 u139 u140 u141 u142 u143 u144 u145 u146 u147 u148 u149 u150 u151 u152 u153 u154 u155 u156 u157 u158 u159 u160 u161 u162 u163 u164 u165 u166 u167 u168 u169 u170 u171 u172 u173 u174 u175 u176 u177 u178 u179 u180 u181 u182 u183 u184 u185 u186 u187 u188 u189 u190 u191 u192 u193 u194 u195 u196 u197 u198 u199 u200 u201 u202 u203 u204 u205 u206 u207 u208 u209 u210 u211 u212 u213 u214 u215 u216 u217 u218 u219 u220 u221 u222 u223 u224 u225 u226 u227 u228 u229 u230 u231 u232 u233 u234 u235 u236 u237 u238 u239 u240 u241 u242 u243 u244 u245 : Value) (i μ κ : Nat) (ap : Option Addr) (a tl : Nat) (hasLF hasCR : Bool) (w6 : World) (ev' : Value) (rs : List UInt8)
    (hK : ∀ (pv nv u5 u6 u7 u8 u9 u10 u11 u12 u13 u14 u15 u16 u17 u18 u19 u20 u21 u22 u23 u24 u25 u26 u27 u28 u29 u30 u31 u32 u33 u34 u35 u36 u37 u38 u39 u40 u41 u42 u43 u44 u45 u46 u47 u48 u49 u50 u51 u52 u53 u54 u55 u56 u57 u58 u59 u60 u61 u62 u63 u64 u65 u66 u67 u68 u69 u70 u71 u72 u73 u74 u75 u76 u77 u78 u79 u80 u81 u82 u83 u84 u85 u86 u87 u88 u89 u90 u91 u92 u93 u94 u95 u96 u97 u98 u99 u100 u101 u102 u103 u104 u105 u106 u107 u108 u109 u110 u111 u112 u113 u114 u115 u116 u117 u118 u119 u120 u121 u122 u123 u124 u125 u126 u127 u128 u129 u130 u131 u132 u133 u134 u135 u136 u137 u138 u139 u140 u141 u142 u143 u144 u145 u146 u147 u148 u149 u150 u151 u152 u153 u154 u155 u156 u157 u158 u159 u160 u161 u162 u163 u164 u165 u166 u167 u168 u169 u170 u171 u172 u173 u174 u175 u176 u177 u178 u179 u180 u181 u182 u183 u184 u185 u186 u187 u188 u189 u190 u191 u192 u193 u194 u195 u196 u197 u198 u199 u200 u201 u202 u203 u204 u205 u206 u207 u208 u209 u210 u211 u212 u213 u214 u215 u216 u217 u218 u219 u220 u221 u222 u223 u224 u225 u226 u227 u228 u229 u230 u231 u232 u233 u234 u235 u236 u237 u238 u239 u240 u241 u242 u243 u244 u245 : Value) (w' : World), RdNext k ea R Bu Bf s D P po m mc pb out code w gk pv nv w' → K ⟨#[Value.pointer (some ⟨R, 0, none⟩), pv, undef, undef, nv, u5, u6, u7, u8, u9, u10, u11, u12, u13, u14, u15, u16, u17, u18, u19, u20, u21, u22, u23, u24, u25, u26, u27, u28, u29, u30, u31, u32, u33, u34, u35, u36, u37, u38, u39, u40, u41, u42, u43, u44, u45, u46, u47, u48, u49, u50, u51, u52, u53, u54, u55, u56, u57, u58, u59, u60, u61, u62, u63, u64, u65, u66, u67, u68, u69, u70, u71, u72, u73, u74, u75, u76, u77, u78, u79, u80, u81, u82, u83, u84, u85, u86, u87, u88, u89, u90, u91, u92, u93, u94, u95, u96, u97, u98, u99, u100, u101, u102, u103, u104, u105, u106, u107, u108, u109, u110, u111, u112, u113, u114, u115, u116, u117, u118, u119, u120, u121, u122, u123, u124, u125, u126, u127, u128, u129, u130, u131, u132, u133, u134, u135, u136, u137, u138, u139, u140, u141, u142, u143, u144, u145, u146, u147, u148, u149, u150, u151, u152, u153, u154, u155, u156, u157, u158, u159, u160, u161, u162, u163, u164, u165, u166, u167, u168, u169, u170, u171, u172, u173, u174, u175, u176, u177, u178, u179, u180, u181, u182, u183, u184, u185, u186, u187, u188, u189, u190, u191, u192, u193, u194, u195, u196, u197, u198, u199, u200, u201, u202, u203, u204, u205, u206, u207, u208, u209, u210, u211, u212, u213, u214, u215, u216, u217, u218, u219, u220, u221, u222, u223, u224, u225, u226, u227, u228, u229, u230, u231, u232, u233, u234, u235, u236, u237, u238, u239, u240, u241, u242, u243, u244, u245, undef], []⟩ w')
    (hrd : RdrAt w6 R Bu ev' (.slice (some ⟨Bf, a, none⟩) tl tl))
    (_htl : 1 ≤ tl) (hcap : tl ≤ 4096)
    (htrim : Calls Tryd.prog 24 #[.slice (some ⟨Bf, a, none⟩) 0 0, .string ⟨#[32, 9]⟩] w6 fun e w' => (∃ v, e = .returned v ∧ (∀ w8, Keep (fun b => b = R) w' w8 → Bs w8 v rs) ∧ Below w6.heap.size w6 w'))
    (hp1 : ([10] : List UInt8).isPrefixOf rs = false) (hp2 : ([13, 10] : List UInt8).isPrefixOf rs = false) (hrs0 : rs = []) (ht1 : 2 ≤ tl) (fa : Addr) (hev : ev' = eofv fa) (heof : EofAt w6 ea) (hzR : R ≠ 0) (hfar : ∀ w', Keep (fun b => b = R) w6 w' → (binOp .eql 46 (eofv fa) (eofv ea)).run Tryd.prog w' = .ok (.bool false) w')
    (hea : ea.block < w6.heap.size) (hend : ∀ w9 er, ErrIs ea 2 er → ErrF ea w9 er → Keep (fun b => b = R) w6 w9 → RdrAt w9 R Bu er (.slice (some ⟨Bf, a, none⟩) (tl - 1) tl) → RdNext k ea R Bu Bf s D P po m mc pb out code w gk (.slice ap μ κ) (.int .i64 i) w9) :
    Code.wp Tryd.prog rcond (Exit.then K Q) ⟨#[Value.pointer (some ⟨R, 0, none⟩), .slice ap μ κ, undef, undef, .int .i64 i, u5, .bool hasLF, .bool hasCR, .slice (some ⟨Bf, a, none⟩) tl tl, u9, u10, u11, u12, u13, u14, u15, u16, u17, u18, u19, u20, u21, u22, u23, u24, u25, u26, u27, u28, u29, u30, u31, u32, u33, u34, u35, u36, u37, u38, u39, u40, u41, u42, u43, u44, u45, u46, u47, u48, u49, u50, u51, u52, u53, u54, u55, u56, u57, u58, u59, u60, u61, u62, u63, u64, u65, u66, u67, u68, u69, u70, u71, u72, .bool true, u74, u75, u76, u77, u78, u79, u80, u81, u82, u83, u84, u85, u86, u87, u88, u89, u90, u91, u92, u93, u94, u95, u96, u97, u98, u99, u100, u101, u102, u103, u104, u105, u106, u107, u108, u109, u110, u111, u112, u113, u114, u115, u116, u117, u118, u119, u120, u121, u122, u123, u124, u125, u126, u127, u128, u129, u130, u131, u132, u133, u134, u135, u136, u137, u138, u139, u140, u141, u142, u143, u144, u145, u146, u147, u148, u149, u150, u151, u152, u153, u154, u155, u156, u157, u158, u159, u160, u161, u162, u163, u164, u165, u166, u167, u168, u169, u170, u171, u172, u173, u174, u175, u176, u177, u178, u179, u180, u181, u182, u183, u184, u185, u186, u187, u188, u189, u190, u191, u192, u193, u194, u195, u196, u197, u198, u199, u200, u201, u202, u203, u204, u205, u206, u207, u208, u209, u210, u211, u212, u213, u214, u215, u216, u217, u218, u219, u220, u221, u222, u223, u224, u225, u226, u227, u228, u229, u230, u231, u232, u233, u234, u235, u236, u237, u238, u239, u240, u241, u242, u243, u244, u245, undef], []⟩ w6 := by
  refine wp_np ?_
  have HE := Lib.hid hend
  have HK := Lib.hid hK
  have HTR := Lib.hid htrim
  have HP1 := Lib.hid hp1
  have HRD := Lib.hid hrd
  obtain ⟨c0, c1, c2, f0, f1, f2⟩ := cells3 hrd
  have g1 : (1 : Int) ≤ tl := by omega
  have g4 : (tl : Int) ≤ 4096 := by omega
  have htc3 : tl - 1 ≤ tl := by omega
  have HP2 := Lib.hid hp2
  clear hp2
  have HL0 := Lib.hid (show (((rs.length : Nat) : Int) == 0) = true by simp [hrs0])
  have HGT := Lib.hid (show 0 < tl - 1 by omega)
  have HEO := Lib.hid heof
  have HZ := Lib.hid hzR
  subst hev
  have HFAR := Lib.hid hfar
  have HEA := Lib.hid hea
  clear hrs0 heof hzR hfar hea
  clear hend hK htrim hp1 hrd
  conv => arg 2; whnf
  go_wp2_with fail
  refine HTR.out.mono ?_
  rintro e w7 ⟨v, rfl, hv, hbel⟩
  dsimp only
  obtain ⟨av, cv, hvs, -⟩ := hv _ (Keep.refl _ w7)
  subst hvs
  have r7 : RdrAt w7 R Bu _ _ := HRD.out.keep (Keep.new (S := fun _ => False) hbel) id
  have K67 := Lib.hid (Keep.new (S := fun b => b = R) hbel)
  have R7 := Lib.hid r7
  have HV := Lib.hid hv
  clear HTR hv hbel c0 c1 c2 f0 f1 f2 r7
  obtain ⟨c0, c1, c2, f0, f1, f2⟩ := cells3 R7.out
  go_wp2
  go_region
  obtain ⟨w8, hw8⟩ : ∃ w8, w8 = (w7.setCell ⟨R, 2, none⟩ (.slice (some ⟨Bf, a, none⟩) (tl - 1) tl)).drew := ⟨_, rfl⟩
  rw [← hw8]
  obtain ⟨k8, r8⟩ := eq61_world hw8 K67.out R7.out
  have h78 : Keep (fun b => b = R) w7 w8 := (eq61_world hw8 (Keep.refl _ w7) R7.out).1
  have hb8 := HV.out w8 h78
  have K8 := Lib.hid k8
  have R8 := Lib.hid r8
  have B8 := Lib.hid hb8
  clear c0 c1 c2 f0 f1 f2 hw8 k8 r8 h78 hb8 HV
  go_wp2
  show Code.wp Tryd.prog reg13 _ _ _
  obtain ⟨c0, c1, c2, f0, f1, f2⟩ := cells3 R8.out
  have e8 : EofAt w8 ea := K8.out.cell (S := fun b => b = R) (fun e => HZ.out e.symm) HEO.out
  refine r13_c2c (ea := ea) (fa := fa) (R := R) (rs := rs) (fun _ _ _ _ h => h) rfl rfl rfl B8.out HP1.out HP2.out HL0.out _ _ _ c2 HGT.out c1 e8 (fun w' k' => HFAR.out w' (K8.out.trans k' (fun _ _ h => h.elim))) (fun y96 y97 y98 y99 y100 y101 y102 y103 y104 y105 y106 y107 y108 y109 y110 y111 y112 y113 y114 y115 y116 y117 y118 y119 y120 y121 y122 y123 y124 y125 y126 y127 y128 w9 k9 => ?_)
  rw [put13]
  have K9 := Lib.hid (K8.out.trans k9 (fun _ _ h => h.elim))
  have R9 := Lib.hid (R8.out.keep k9 id)
  clear k9 c0 c1 c2 f0 f1 f2 e8
  obtain ⟨c0, c1, c2, f0, f1, f2⟩ := cells3 R9.out
  go_wp2_with fail
  refine (errnew_any _ _).mono ?_
  rintro e w11 ⟨rfl, hw11⟩
  have k11 : Keep (fun _ => False) w9 w11 := hw11 ▸ (Keep.refl (fun _ => False) w9).alloc _
  have F11 := Lib.hid (errF_at hw11)
  have R11 := Lib.hid (R9.out.keep k11 id)
  have K11 := Lib.hid (K9.out.trans k11 (fun _ _ h => h.elim))
  clear c0 c1 c2 f0 f1 f2 k11 hw11
  obtain ⟨c0, c1, c2, f0, f1, f2⟩ := cells3 R11.out
  unfold errv
  dsimp only
  go_wp2
  exact HK.out _ _ _ _ _ _ _ _ _ _ _ _ _ _ _ _ _ _ _ _ _ _ _ _ _ _ _ _ _ _ _ _ _ _ _ _ _ _ _ _ _ _ _ _ _ _ _ _ _ _ _ _ _ _ _ _ _ _ _ _ _ _ _ _ _ _ _ _ _ _ _ _ _ _ _ _ _ _ _ _ _ _ _ _ _ _ _ _ _ _ _ _ _ _ _ _ _ _ _ _ _ _ _ _ _ _ _ _ _ _ _ _ _ _ _ _ _ _ _ _ _ _ _ _ _ _ _ _ _ _ _ _ _ _ _ _ _ _ _ _ _ _ _ _ _ _ _ _ _ _ _ _ _ _ _ _ _ _ _ _ _ _ _ _ _ _ _ _ _ _ _ _ _ _ _ _ _ _ _ _ _ _ _ _ _ _ _ _ _ _ _ _ _ _ _ _ _ _ _ _ _ _ _ _ _ _ _ _ _ _ _ _ _ _ _ _ _ _ _ _ _ _ _ _ _ _ _ _ _ _ _ _ _ _ _ _ _ _ _ _ _ _ _ _ (HE.out _ _ (.inr (.inr ⟨rfl, ⟨w9.heap.size, 0, none⟩, fun e => absurd (congrArg Addr.block e) (Nat.ne_of_gt (Nat.lt_of_lt_of_le HEA.out K9.out.size)), rfl⟩)) (errF_new (Nat.ne_of_lt (Lib.lt_of_heap R9.out)) rfl (Nat.ne_of_gt (Nat.lt_of_lt_of_le HEA.out K9.out.size)) F11.out) (K11.out.setCell ⟨R, 1, none⟩ rfl _) (R11.out.serr _))

end
end Go.Proofs.YtcbolmendjocbaaDoor

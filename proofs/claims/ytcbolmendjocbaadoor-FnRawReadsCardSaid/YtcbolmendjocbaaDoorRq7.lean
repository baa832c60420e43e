/- What the Reader makes of a line that ends with an equals sign (printed by new62.py). -/
import Derived.Test.YtcbolmendjocbaaDoorRq4
import Derived.Test.YtcbolmendjocbaaDoorRq5
import Derived.Test.YtcbolmendjocbaaDoorR13
namespace Go.Proofs.YtcbolmendjocbaaDoor
open Go.RowKit Qp

set_option maxRecDepth 1000000 in
theorem put13 (x0 x1 x2 x3 x4 x5 x6 x7 x8 x9 x10 x11 x12 x13 x14 x15 x16 x17 x18 x19 x20 x21 x22 x23 x24 x25 x26 x27 x28 x29 x30 x31 x32 x33 x34 x35 x36 x37 x38 x39 x40 x41 x42 x43 x44 x45 x46 x47 x48 x49 x50 x51 x52 x53 x54 x55 x56 x57 x58 x59 x60 x61 x62 x63 x64 x65 x66 x67 x68 x69 x70 x71 x72 x73 x74 x75 x76 x77 x78 x79 x80 x81 x82 x83 x84 x85 x86 x87 x88 x89 x90 x91 x92 x93 x94 x95 x96 x97 x98 x99 x100 x101 x102 x103 x104 x105 x106 x107 x108 x109 x110 x111 x112 x113 x114 x115 x116 x117 x118 x119 x120 x121 x122 x123 x124 x125 x126 x127 x128 x129 x130 x131 x132 x133 x134 x135 x136 x137 x138 x139 x140 x141 x142 x143 x144 x145 x146 x147 x148 x149 x150 x151 x152 x153 x154 x155 x156 x157 x158 x159 x160 x161 x162 x163 x164 x165 x166 x167 x168 x169 x170 x171 x172 x173 x174 x175 x176 x177 x178 x179 x180 x181 x182 x183 x184 x185 x186 x187 x188 x189 x190 x191 x192 x193 x194 x195 x196 x197 x198 x199 x200 x201 x202 x203 x204 x205 x206 x207 x208 x209 x210 x211 x212 x213 x214 x215 x216 x217 x218 x219 x220 x221 x222 x223 x224 x225 x226 x227 x228 x229 x230 x231 x232 x233 x234 x235 x236 x237 x238 x239 x240 x241 x242 x243 x244 x245 x246 y96 y97 y98 y99 y100 y101 y102 y103 y104 y105 y106 y107 y108 y109 y110 y111 y112 y113 y114 y115 y116 y117 y118 y119 y120 y121 y122 y123 y124 y125 y126 y127 y128 y129 : Value) : (((((((((((((((((((((((((((((((((((⟨#[x0, x1, x2, x3, x4, x5, x6, x7, x8, x9, x10, x11, x12, x13, x14, x15, x16, x17, x18, x19, x20, x21, x22, x23, x24, x25, x26, x27, x28, x29, x30, x31, x32, x33, x34, x35, x36, x37, x38, x39, x40, x41, x42, x43, x44, x45, x46, x47, x48, x49, x50, x51, x52, x53, x54, x55, x56, x57, x58, x59, x60, x61, x62, x63, x64, x65, x66, x67, x68, x69, x70, x71, x72, x73, x74, x75, x76, x77, x78, x79, x80, x81, x82, x83, x84, x85, x86, x87, x88, x89, x90, x91, x92, x93, x94, x95, x96, x97, x98, x99, x100, x101, x102, x103, x104, x105, x106, x107, x108, x109, x110, x111, x112, x113, x114, x115, x116, x117, x118, x119, x120, x121, x122, x123, x124, x125, x126, x127, x128, x129, x130, x131, x132, x133, x134, x135, x136, x137, x138, x139, x140, x141, x142, x143, x144, x145, x146, x147, x148, x149, x150, x151, x152, x153, x154, x155, x156, x157, x158, x159, x160, x161, x162, x163, x164, x165, x166, x167, x168, x169, x170, x171, x172, x173, x174, x175, x176, x177, x178, x179, x180, x181, x182, x183, x184, x185, x186, x187, x188, x189, x190, x191, x192, x193, x194, x195, x196, x197, x198, x199, x200, x201, x202, x203, x204, x205, x206, x207, x208, x209, x210, x211, x212, x213, x214, x215, x216, x217, x218, x219, x220, x221, x222, x223, x224, x225, x226, x227, x228, x229, x230, x231, x232, x233, x234, x235, x236, x237, x238, x239, x240, x241, x242, x243, x244, x245, x246], []⟩ : Act).put (some 96) y96).put (some 97) y97).put (some 98) y98).put (some 99) y99).put (some 100) y100).put (some 101) y101).put (some 102) y102).put (some 103) y103).put (some 104) y104).put (some 105) y105).put (some 106) y106).put (some 107) y107).put (some 108) y108).put (some 109) y109).put (some 110) y110).put (some 111) y111).put (some 112) y112).put (some 113) y113).put (some 114) y114).put (some 115) y115).put (some 116) y116).put (some 117) y117).put (some 118) y118).put (some 119) y119).put (some 120) y120).put (some 121) y121).put (some 122) y122).put (some 123) y123).put (some 124) y124).put (some 125) y125).put (some 126) y126).put (some 127) y127).put (some 128) y128).put (some 129) y129) = ⟨#[x0, x1, x2, x3, x4, x5, x6, x7, x8, x9, x10, x11, x12, x13, x14, x15, x16, x17, x18, x19, x20, x21, x22, x23, x24, x25, x26, x27, x28, x29, x30, x31, x32, x33, x34, x35, x36, x37, x38, x39, x40, x41, x42, x43, x44, x45, x46, x47, x48, x49, x50, x51, x52, x53, x54, x55, x56, x57, x58, x59, x60, x61, x62, x63, x64, x65, x66, x67, x68, x69, x70, x71, x72, x73, x74, x75, x76, x77, x78, x79, x80, x81, x82, x83, x84, x85, x86, x87, x88, x89, x90, x91, x92, x93, x94, x95, y96, y97, y98, y99, y100, y101, y102, y103, y104, y105, y106, y107, y108, y109, y110, y111, y112, y113, y114, y115, y116, y117, y118, y119, y120, y121, y122, y123, y124, y125, y126, y127, y128, y129, x130, x131, x132, x133, x134, x135, x136, x137, x138, x139, x140, x141, x142, x143, x144, x145, x146, x147, x148, x149, x150, x151, x152, x153, x154, x155, x156, x157, x158, x159, x160, x161, x162, x163, x164, x165, x166, x167, x168, x169, x170, x171, x172, x173, x174, x175, x176, x177, x178, x179, x180, x181, x182, x183, x184, x185, x186, x187, x188, x189, x190, x191, x192, x193, x194, x195, x196, x197, x198, x199, x200, x201, x202, x203, x204, x205, x206, x207, x208, x209, x210, x211, x212, x213, x214, x215, x216, x217, x218, x219, x220, x221, x222, x223, x224, x225, x226, x227, x228, x229, x230, x231, x232, x233, x234, x235, x236, x237, x238, x239, x240, x241, x242, x243, x244, x245, x246], []⟩ := by kernel_rfl

/-- the world in which the equals sign has been cut off -/
theorem eq61_world {R Bu : Nat} {w6 w7 w8 : World} {ev' v v' : Value} (hw : w8 = (w7.setCell ⟨R, 2, none⟩ v').drew) (hk : Keep (fun b => b = R) w6 w7) (h : RdrAt w7 R Bu ev' v) :
    Keep (fun b => b = R) w6 w8 ∧ RdrAt w8 R Bu ev' v' := by
  subst hw
  exact ⟨(hk.setCell ⟨R, 2, none⟩ rfl v').drew, h.line v'⟩

theorem errF_at {w9 w11 : World} {s : ByteArray} (h : w9.alloc (.cells #[.string s] 86) = w11) : ∃ s, w11.heap[w9.heap.size]? = some (.cells #[.string s] 86 (0, 0)) := by
  subst h
  exact ⟨s, heap_alloc_new _ _⟩
theorem errF_new {ea : Addr} {R g : Nat} {w : World} {v x : Value} (hR : R ≠ g) (hv : v = eofv ⟨g, 0, none⟩) (hne : g ≠ ea.block) (h : ∃ s, w.heap[g]? = some (.cells #[.string s] 86 (0, 0))) : ErrF ea (w.setCell ⟨R, 1, none⟩ x) v :=
  let ⟨s, h⟩ := h
  ⟨g, s, hv, (((Keep.refl (fun b => b = R) w).setCell ⟨R, 1, none⟩ rfl x).block g (Lib.lt_of_heap h) (fun e => hR e.symm)).trans h, hne⟩

section
variable {k : Bool} {ea : Addr} {R Bu Bf s D P po m mc : Nat} {pb out : List UInt8} {code : Nat} {w wr : World} {gk : Nat}

set_option maxRecDepth 1000000 in
set_option maxHeartbeats 6400000 in
theorem tail61_a (K : Act → World → Prop) (Q : Exit → Act → World → Prop) (u5 u9 u10 u11 u12 u13 u14 u15 u16 u17 u18 u19 u20 u21 u22 u23 u24 u25 u26 u27 u28 u29 u30 u31 u32 u33 u34 u35 u36 u37 u38 u39 u40 u41 u42 u43 u44 u45 u46 u47 u48 u49 u50 u51 u52 u53 u54 u55 u56 u57 u58 u59 u60 u61 u62 u63 u64 u65 u66 u67 u68 u69 u70 u71 u72 u74 u75 u76 u77 u78 u79 u80 u81 u82 u83 u84 u85 u86 u87 u88 u89 u90 u91 u92 u93 u94 u95 u96 u97 u98 u99 u100 u101 u102 u103 u104 u105 u106 u107 u108 u109 u110 u111 u112 u113 u114 u115 u116 u117 u118 u119 u120 u121 u122 u123 u124 u125 u126 u127 u128 u129 u130 u131 u132 u133 u134 u135 u136 u137 u138 u139 u140 u141 u142 u143 u144 u145 u146 u147 u148 u149 u150 u151 u152 u153 u154 u155 u156 u157 u158 u159 u160 u161 u162 u163 u164 u165 u166 u167 u168 u169 u170 u171 u172 u173 u174 u175 u176 u177 u178 u179 u180 u181 u182 u183 u184 u185 u186 u187 u188 u189 u190 u191 u192 u193 u194 u195 u196 u197 u198 u199 u200 u201 u202 u203 u204 u205 u206 u207 u208 u209 u210 u211 u212 u213 u214 u215 u216 u217 u218 u219 u220 u221 u222 u223 u224 u225 u226 u227 u228 u229 u230 u231 u232 u233 u234 u235 u236 u237 u238 u239 u240 u241 u242 u243 u244 u245 : Value) (i μ κ : Nat) (ap : Option Addr) (a wl cap tl : Nat) (hasLF hasCR : Bool) (w6 : World) (ev' : Value) (rs : List UInt8)
    (hK : ∀ (pv nv u5 u6 u7 u8 u9 u10 u11 u12 u13 u14 u15 u16 u17 u18 u19 u20 u21 u22 u23 u24 u25 u26 u27 u28 u29 u30 u31 u32 u33 u34 u35 u36 u37 u38 u39 u40 u41 u42 u43 u44 u45 u46 u47 u48 u49 u50 u51 u52 u53 u54 u55 u56 u57 u58 u59 u60 u61 u62 u63 u64 u65 u66 u67 u68 u69 u70 u71 u72 u73 u74 u75 u76 u77 u78 u79 u80 u81 u82 u83 u84 u85 u86 u87 u88 u89 u90 u91 u92 u93 u94 u95 u96 u97 u98 u99 u100 u101 u102 u103 u104 u105 u106 u107 u108 u109 u110 u111 u112 u113 u114 u115 u116 u117 u118 u119 u120 u121 u122 u123 u124 u125 u126 u127 u128 u129 u130 u131 u132 u133 u134 u135 u136 u137 u138 u139 u140 u141 u142 u143 u144 u145 u146 u147 u148 u149 u150 u151 u152 u153 u154 u155 u156 u157 u158 u159 u160 u161 u162 u163 u164 u165 u166 u167 u168 u169 u170 u171 u172 u173 u174 u175 u176 u177 u178 u179 u180 u181 u182 u183 u184 u185 u186 u187 u188 u189 u190 u191 u192 u193 u194 u195 u196 u197 u198 u199 u200 u201 u202 u203 u204 u205 u206 u207 u208 u209 u210 u211 u212 u213 u214 u215 u216 u217 u218 u219 u220 u221 u222 u223 u224 u225 u226 u227 u228 u229 u230 u231 u232 u233 u234 u235 u236 u237 u238 u239 u240 u241 u242 u243 u244 u245 : Value) (w' : World), RdNext k ea R Bu Bf s D P po m mc pb out code w gk pv nv w' → K ⟨#[Value.pointer (some ⟨R, 0, none⟩), pv, undef, undef, nv, u5, u6, u7, u8, u9, u10, u11, u12, u13, u14, u15, u16, u17, u18, u19, u20, u21, u22, u23, u24, u25, u26, u27, u28, u29, u30, u31, u32, u33, u34, u35, u36, u37, u38, u39, u40, u41, u42, u43, u44, u45, u46, u47, u48, u49, u50, u51, u52, u53, u54, u55, u56, u57, u58, u59, u60, u61, u62, u63, u64, u65, u66, u67, u68, u69, u70, u71, u72, u73, u74, u75, u76, u77, u78, u79, u80, u81, u82, u83, u84, u85, u86, u87, u88, u89, u90, u91, u92, u93, u94, u95, u96, u97, u98, u99, u100, u101, u102, u103, u104, u105, u106, u107, u108, u109, u110, u111, u112, u113, u114, u115, u116, u117, u118, u119, u120, u121, u122, u123, u124, u125, u126, u127, u128, u129, u130, u131, u132, u133, u134, u135, u136, u137, u138, u139, u140, u141, u142, u143, u144, u145, u146, u147, u148, u149, u150, u151, u152, u153, u154, u155, u156, u157, u158, u159, u160, u161, u162, u163, u164, u165, u166, u167, u168, u169, u170, u171, u172, u173, u174, u175, u176, u177, u178, u179, u180, u181, u182, u183, u184, u185, u186, u187, u188, u189, u190, u191, u192, u193, u194, u195, u196, u197, u198, u199, u200, u201, u202, u203, u204, u205, u206, u207, u208, u209, u210, u211, u212, u213, u214, u215, u216, u217, u218, u219, u220, u221, u222, u223, u224, u225, u226, u227, u228, u229, u230, u231, u232, u233, u234, u235, u236, u237, u238, u239, u240, u241, u242, u243, u244, u245, undef], []⟩ w')
    (hrd : RdrAt w6 R Bu ev' (.slice (some ⟨Bf, a, none⟩) tl cap))
    (htl : 1 ≤ tl) (htw : tl ≤ wl) (hwc : wl ≤ cap) (hcap : cap ≤ 4096) (htc : ¬ cap = tl)
    (htrim : Calls Tryd.prog 24 #[.slice (some ⟨Bf, a + tl, none⟩) (wl - tl) (cap - tl), .string ⟨#[32, 9]⟩] w6 fun e w' => (∃ v, e = .returned v ∧ (∀ w8, Keep (fun b => b = R) w' w8 → Bs w8 v rs) ∧ Below w6.heap.size w6 w'))
    (hp1 : ([10] : List UInt8).isPrefixOf rs = true)
    (hend : ∀ w9, Keep (fun b => b = R) w6 w9 → RdrAt w9 R Bu ev' (.slice (some ⟨Bf, a, none⟩) (tl - 1) cap) → RdNext k ea R Bu Bf s D P po m mc pb out code w gk (.slice ap μ κ) (.int .i64 i) w9) :
    Code.wp Tryd.prog rcond (Exit.then K Q) ⟨#[Value.pointer (some ⟨R, 0, none⟩), .slice ap μ κ, undef, undef, .int .i64 i, u5, .bool hasLF, .bool hasCR, .slice (some ⟨Bf, a, none⟩) wl cap, u9, u10, u11, u12, u13, u14, u15, u16, u17, u18, u19, u20, u21, u22, u23, u24, u25, u26, u27, u28, u29, u30, u31, u32, u33, u34, u35, u36, u37, u38, u39, u40, u41, u42, u43, u44, u45, u46, u47, u48, u49, u50, u51, u52, u53, u54, u55, u56, u57, u58, u59, u60, u61, u62, u63, u64, u65, u66, u67, u68, u69, u70, u71, u72, .bool true, u74, u75, u76, u77, u78, u79, u80, u81, u82, u83, u84, u85, u86, u87, u88, u89, u90, u91, u92, u93, u94, u95, u96, u97, u98, u99, u100, u101, u102, u103, u104, u105, u106, u107, u108, u109, u110, u111, u112, u113, u114, u115, u116, u117, u118, u119, u120, u121, u122, u123, u124, u125, u126, u127, u128, u129, u130, u131, u132, u133, u134, u135, u136, u137, u138, u139, u140, u141, u142, u143, u144, u145, u146, u147, u148, u149, u150, u151, u152, u153, u154, u155, u156, u157, u158, u159, u160, u161, u162, u163, u164, u165, u166, u167, u168, u169, u170, u171, u172, u173, u174, u175, u176, u177, u178, u179, u180, u181, u182, u183, u184, u185, u186, u187, u188, u189, u190, u191, u192, u193, u194, u195, u196, u197, u198, u199, u200, u201, u202, u203, u204, u205, u206, u207, u208, u209, u210, u211, u212, u213, u214, u215, u216, u217, u218, u219, u220, u221, u222, u223, u224, u225, u226, u227, u228, u229, u230, u231, u232, u233, u234, u235, u236, u237, u238, u239, u240, u241, u242, u243, u244, u245, undef], []⟩ w6 := by
  refine wp_np ?_
  have HE := Lib.hid hend
  have HK := Lib.hid hK
  have HTR := Lib.hid htrim
  have HP1 := Lib.hid hp1
  have HRD := Lib.hid hrd
  obtain ⟨c0, c1, c2, f0, f1, f2⟩ := cells3 hrd
  have g1 : (1 : Int) ≤ tl := by omega
  have g2 : (tl : Int) ≤ wl := by omega
  have g3 : (wl : Int) ≤ cap := by omega
  have g4 : (cap : Int) ≤ 4096 := by omega
  have htc2 : tl ≤ cap := by omega
  have htc3 : tl - 1 ≤ cap := by omega
  clear hend hK htrim hp1 hrd
  conv => arg 2; whnf
  go_wp2_with fail
  refine HTR.out.mono ?_
  rintro e w7 ⟨v, rfl, hv, hbel⟩
  dsimp only
  obtain ⟨av, cv, hvs, -⟩ := hv _ (Keep.refl _ w7)
  subst hvs
  have r7 : RdrAt w7 R Bu _ _ := HRD.out.keep (Keep.new (S := fun _ => False) hbel) id
  have K67 := Lib.hid (Keep.new (S := fun b => b = R) hbel)
  have R7 := Lib.hid r7
  have HV := Lib.hid hv
  clear HTR hv hbel c0 c1 c2 f0 f1 f2 r7
  obtain ⟨c0, c1, c2, f0, f1, f2⟩ := cells3 R7.out
  go_wp2
  go_region
  obtain ⟨w8, hw8⟩ : ∃ w8, w8 = (w7.setCell ⟨R, 2, none⟩ (.slice (some ⟨Bf, a, none⟩) (tl - 1) cap)).drew := ⟨_, rfl⟩
  rw [← hw8]
  obtain ⟨k8, r8⟩ := eq61_world hw8 K67.out R7.out
  have h78 : Keep (fun b => b = R) w7 w8 := (eq61_world hw8 (Keep.refl _ w7) R7.out).1
  have hb8 := HV.out w8 h78
  have K8 := Lib.hid k8
  have R8 := Lib.hid r8
  have B8 := Lib.hid hb8
  clear c0 c1 c2 f0 f1 f2 hw8 k8 r8 h78 hb8 HV
  go_wp2
  show Code.wp Tryd.prog reg13 _ _ _
  refine r13_a (ea := ea) (R := R) (rs := rs) (fun _ _ _ _ h => h) rfl rfl rfl B8.out HP1.out (fun y96 y97 y98 y99 y100 y101 y102 y103 y104 y105 y106 y107 y108 y109 y110 y111 y112 y113 y114 y115 y116 y117 y118 y119 y120 y121 y122 y123 y124 y125 y126 y127 y128 w9 k9 => ?_)
  rw [put13]
  have K9 := Lib.hid (K8.out.trans k9 (fun _ _ h => h.elim))
  have R9 := Lib.hid (R8.out.keep k9 id)
  clear k9
  go_wp2
  exact HK.out _ _ _ _ _ _ _ _ _ _ _ _ _ _ _ _ _ _ _ _ _ _ _ _ _ _ _ _ _ _ _ _ _ _ _ _ _ _ _ _ _ _ _ _ _ _ _ _ _ _ _ _ _ _ _ _ _ _ _ _ _ _ _ _ _ _ _ _ _ _ _ _ _ _ _ _ _ _ _ _ _ _ _ _ _ _ _ _ _ _ _ _ _ _ _ _ _ _ _ _ _ _ _ _ _ _ _ _ _ _ _ _ _ _ _ _ _ _ _ _ _ _ _ _ _ _ _ _ _ _ _ _ _ _ _ _ _ _ _ _ _ _ _ _ _ _ _ _ _ _ _ _ _ _ _ _ _ _ _ _ _ _ _ _ _ _ _ _ _ _ _ _ _ _ _ _ _ _ _ _ _ _ _ _ _ _ _ _ _ _ _ _ _ _ _ _ _ _ _ _ _ _ _ _ _ _ _ _ _ _ _ _ _ _ _ _ _ _ _ _ _ _ _ _ _ _ _ _ _ _ _ _ _ _ _ _ _ _ _ _ _ _ _ _ (HE.out _ K9.out R9.out)

set_option maxRecDepth 1000000 in
set_option maxHeartbeats 6400000 in
theorem tail61_b (K : Act → World → Prop) (Q : Exit → Act → World → Prop) (u5 u9 u10 u11 u12 u13 u14 u15 u16 u17 u18 u19 u20 u21 u22 u23 u24 u25 u26 u27 u28 u29 u30 u31 u32 u33 u34 u35 u36 u37 u38 u39 u40 u41 u42 u43 u44 u45 u46 u47 u48 u49 u50 u51 u52 u53 u54 u55 u56 u57 u58 u59 u60 u61 u62 u63 u64 u65 u66 u67 u68 u69 u70 u71 u72 u74 u75 u76 u77 u78 u79 u80 u81 u82 u83 u84 u85 u86 u87 u88 u89 u90 u91 u92 u93 u94 u95 u96 u97 u98 u99 u100 u101 u102 u103 u104 u105 u106 u107 u108 u109 u110 u111 u112 u113 u114 u115 u116 u117 u118 u119 u120 u121 u122 u123 u124 u125 u126 u127 u128 u129 u130 u131 u132 u133 u134 u135 u136 u137 u138 u139 u140 u141 u142 u143 u144 u145 u146 u147 u148 u149 u150 u151 u152 u153 u154 u155 u156 u157 u158 u159 u160 u161 u162 u163 u164 u165 u166 u167 u168 u169 u170 u171 u172 u173 u174 u175 u176 u177 u178 u179 u180 u181 u182 u183 u184 u185 u186 u187 u188 u189 u190 u191 u192 u193 u194 u195 u196 u197 u198 u199 u200 u201 u202 u203 u204 u205 u206 u207 u208 u209 u210 u211 u212 u213 u214 u215 u216 u217 u218 u219 u220 u221 u222 u223 u224 u225 u226 u227 u228 u229 u230 u231 u232 u233 u234 u235 u236 u237 u238 u239 u240 u241 u242 u243 u244 u245 : Value) (i μ κ : Nat) (ap : Option Addr) (a wl cap tl : Nat) (hasLF hasCR : Bool) (w6 : World) (ev' : Value) (rs : List UInt8)
    (hK : ∀ (pv nv u5 u6 u7 u8 u9 u10 u11 u12 u13 u14 u15 u16 u17 u18 u19 u20 u21 u22 u23 u24 u25 u26 u27 u28 u29 u30 u31 u32 u33 u34 u35 u36 u37 u38 u39 u40 u41 u42 u43 u44 u45 u46 u47 u48 u49 u50 u51 u52 u53 u54 u55 u56 u57 u58 u59 u60 u61 u62 u63 u64 u65 u66 u67 u68 u69 u70 u71 u72 u73 u74 u75 u76 u77 u78 u79 u80 u81 u82 u83 u84 u85 u86 u87 u88 u89 u90 u91 u92 u93 u94 u95 u96 u97 u98 u99 u100 u101 u102 u103 u104 u105 u106 u107 u108 u109 u110 u111 u112 u113 u114 u115 u116 u117 u118 u119 u120 u121 u122 u123 u124 u125 u126 u127 u128 u129 u130 u131 u132 u133 u134 u135 u136 u137 u138 u139 u140 u141 u142 u143 u144 u145 u146 u147 u148 u149 u150 u151 u152 u153 u154 u155 u156 u157 u158 u159 u160 u161 u162 u163 u164 u165 u166 u167 u168 u169 u170 u171 u172 u173 u174 u175 u176 u177 u178 u179 u180 u181 u182 u183 u184 u185 u186 u187 u188 u189 u190 u191 u192 u193 u194 u195 u196 u197 u198 u199 u200 u201 u202 u203 u204 u205 u206 u207 u208 u209 u210 u211 u212 u213 u214 u215 u216 u217 u218 u219 u220 u221 u222 u223 u224 u225 u226 u227 u228 u229 u230 u231 u232 u233 u234 u235 u236 u237 u238 u239 u240 u241 u242 u243 u244 u245 : Value) (w' : World), RdNext k ea R Bu Bf s D P po m mc pb out code w gk pv nv w' → K ⟨#[Value.pointer (some ⟨R, 0, none⟩), pv, undef, undef, nv, u5, u6, u7, u8, u9, u10, u11, u12, u13, u14, u15, u16, u17, u18, u19, u20, u21, u22, u23, u24, u25, u26, u27, u28, u29, u30, u31, u32, u33, u34, u35, u36, u37, u38, u39, u40, u41, u42, u43, u44, u45, u46, u47, u48, u49, u50, u51, u52, u53, u54, u55, u56, u57, u58, u59, u60, u61, u62, u63, u64, u65, u66, u67, u68, u69, u70, u71, u72, u73, u74, u75, u76, u77, u78, u79, u80, u81, u82, u83, u84, u85, u86, u87, u88, u89, u90, u91, u92, u93, u94, u95, u96, u97, u98, u99, u100, u101, u102, u103, u104, u105, u106, u107, u108, u109, u110, u111, u112, u113, u114, u115, u116, u117, u118, u119, u120, u121, u122, u123, u124, u125, u126, u127, u128, u129, u130, u131, u132, u133, u134, u135, u136, u137, u138, u139, u140, u141, u142, u143, u144, u145, u146, u147, u148, u149, u150, u151, u152, u153, u154, u155, u156, u157, u158, u159, u160, u161, u162, u163, u164, u165, u166, u167, u168, u169, u170, u171, u172, u173, u174, u175, u176, u177, u178, u179, u180, u181, u182, u183, u184, u185, u186, u187, u188, u189, u190, u191, u192, u193, u194, u195, u196, u197, u198, u199, u200, u201, u202, u203, u204, u205, u206, u207, u208, u209, u210, u211, u212, u213, u214, u215, u216, u217, u218, u219, u220, u221, u222, u223, u224, u225, u226, u227, u228, u229, u230, u231, u232, u233, u234, u235, u236, u237, u238, u239, u240, u241, u242, u243, u244, u245, undef], []⟩ w')
    (hrd : RdrAt w6 R Bu ev' (.slice (some ⟨Bf, a, none⟩) tl cap))
    (htl : 1 ≤ tl) (htw : tl ≤ wl) (hwc : wl ≤ cap) (hcap : cap ≤ 4096) (htc : ¬ cap = tl)
    (htrim : Calls Tryd.prog 24 #[.slice (some ⟨Bf, a + tl, none⟩) (wl - tl) (cap - tl), .string ⟨#[32, 9]⟩] w6 fun e w' => (∃ v, e = .returned v ∧ (∀ w8, Keep (fun b => b = R) w' w8 → Bs w8 v rs) ∧ Below w6.heap.size w6 w'))
    (hp1 : ([10] : List UInt8).isPrefixOf rs = false) (hp2 : ([13, 10] : List UInt8).isPrefixOf rs = true)
    (hend : ∀ w9, Keep (fun b => b = R) w6 w9 → RdrAt w9 R Bu ev' (.slice (some ⟨Bf, a, none⟩) (tl - 1) cap) → RdNext k ea R Bu Bf s D P po m mc pb out code w gk (.slice ap μ κ) (.int .i64 i) w9) :
    Code.wp Tryd.prog rcond (Exit.then K Q) ⟨#[Value.pointer (some ⟨R, 0, none⟩), .slice ap μ κ, undef, undef, .int .i64 i, u5, .bool hasLF, .bool hasCR, .slice (some ⟨Bf, a, none⟩) wl cap, u9, u10, u11, u12, u13, u14, u15, u16, u17, u18, u19, u20, u21, u22, u23, u24, u25, u26, u27, u28, u29, u30, u31, u32, u33, u34, u35, u36, u37, u38, u39, u40, u41, u42, u43, u44, u45, u46, u47, u48, u49, u50, u51, u52, u53, u54, u55, u56, u57, u58, u59, u60, u61, u62, u63, u64, u65, u66, u67, u68, u69, u70, u71, u72, .bool true, u74, u75, u76, u77, u78, u79, u80, u81, u82, u83, u84, u85, u86, u87, u88, u89, u90, u91, u92, u93, u94, u95, u96, u97, u98, u99, u100, u101, u102, u103, u104, u105, u106, u107, u108, u109, u110, u111, u112, u113, u114, u115, u116, u117, u118, u119, u120, u121, u122, u123, u124, u125, u126, u127, u128, u129, u130, u131, u132, u133, u134, u135, u136, u137, u138, u139, u140, u141, u142, u143, u144, u145, u146, u147, u148, u149, u150, u151, u152, u153, u154, u155, u156, u157, u158, u159, u160, u161, u162, u163, u164, u165, u166, u167, u168, u169, u170, u171, u172, u173, u174, u175, u176, u177, u178, u179, u180, u181, u182, u183, u184, u185, u186, u187, u188, u189, u190, u191, u192, u193, u194, u195, u196, u197, u198, u199, u200, u201, u202, u203, u204, u205, u206, u207, u208, u209, u210, u211, u212, u213, u214, u215, u216, u217, u218, u219, u220, u221, u222, u223, u224, u225, u226, u227, u228, u229, u230, u231, u232, u233, u234, u235, u236, u237, u238, u239, u240, u241, u242, u243, u244, u245, undef], []⟩ w6 := by
  refine wp_np ?_
  have HE := Lib.hid hend
  have HK := Lib.hid hK
  have HTR := Lib.hid htrim
  have HP1 := Lib.hid hp1
  have HRD := Lib.hid hrd
  obtain ⟨c0, c1, c2, f0, f1, f2⟩ := cells3 hrd
  have g1 : (1 : Int) ≤ tl := by omega
  have g2 : (tl : Int) ≤ wl := by omega
  have g3 : (wl : Int) ≤ cap := by omega
  have g4 : (cap : Int) ≤ 4096 := by omega
  have htc2 : tl ≤ cap := by omega
  have htc3 : tl - 1 ≤ cap := by omega
  have HP2 := Lib.hid hp2
  clear hp2
  clear hend hK htrim hp1 hrd
  conv => arg 2; whnf
  go_wp2_with fail
  refine HTR.out.mono ?_
  rintro e w7 ⟨v, rfl, hv, hbel⟩
  dsimp only
  obtain ⟨av, cv, hvs, -⟩ := hv _ (Keep.refl _ w7)
  subst hvs
  have r7 : RdrAt w7 R Bu _ _ := HRD.out.keep (Keep.new (S := fun _ => False) hbel) id
  have K67 := Lib.hid (Keep.new (S := fun b => b = R) hbel)
  have R7 := Lib.hid r7
  have HV := Lib.hid hv
  clear HTR hv hbel c0 c1 c2 f0 f1 f2 r7
  obtain ⟨c0, c1, c2, f0, f1, f2⟩ := cells3 R7.out
  go_wp2
  go_region
  obtain ⟨w8, hw8⟩ : ∃ w8, w8 = (w7.setCell ⟨R, 2, none⟩ (.slice (some ⟨Bf, a, none⟩) (tl - 1) cap)).drew := ⟨_, rfl⟩
  rw [← hw8]
  obtain ⟨k8, r8⟩ := eq61_world hw8 K67.out R7.out
  have h78 : Keep (fun b => b = R) w7 w8 := (eq61_world hw8 (Keep.refl _ w7) R7.out).1
  have hb8 := HV.out w8 h78
  have K8 := Lib.hid k8
  have R8 := Lib.hid r8
  have B8 := Lib.hid hb8
  clear c0 c1 c2 f0 f1 f2 hw8 k8 r8 h78 hb8 HV
  go_wp2
  show Code.wp Tryd.prog reg13 _ _ _
  refine r13_b (ea := ea) (R := R) (rs := rs) (fun _ _ _ _ h => h) rfl rfl rfl B8.out HP1.out HP2.out (fun y96 y97 y98 y99 y100 y101 y102 y103 y104 y105 y106 y107 y108 y109 y110 y111 y112 y113 y114 y115 y116 y117 y118 y119 y120 y121 y122 y123 y124 y125 y126 y127 y128 w9 k9 => ?_)
  rw [put13]
  have K9 := Lib.hid (K8.out.trans k9 (fun _ _ h => h.elim))
  have R9 := Lib.hid (R8.out.keep k9 id)
  clear k9
  go_wp2
  exact HK.out _ _ _ _ _ _ _ _ _ _ _ _ _ _ _ _ _ _ _ _ _ _ _ _ _ _ _ _ _ _ _ _ _ _ _ _ _ _ _ _ _ _ _ _ _ _ _ _ _ _ _ _ _ _ _ _ _ _ _ _ _ _ _ _ _ _ _ _ _ _ _ _ _ _ _ _ _ _ _ _ _ _ _ _ _ _ _ _ _ _ _ _ _ _ _ _ _ _ _ _ _ _ _ _ _ _ _ _ _ _ _ _ _ _ _ _ _ _ _ _ _ _ _ _ _ _ _ _ _ _ _ _ _ _ _ _ _ _ _ _ _ _ _ _ _ _ _ _ _ _ _ _ _ _ _ _ _ _ _ _ _ _ _ _ _ _ _ _ _ _ _ _ _ _ _ _ _ _ _ _ _ _ _ _ _ _ _ _ _ _ _ _ _ _ _ _ _ _ _ _ _ _ _ _ _ _ _ _ _ _ _ _ _ _ _ _ _ _ _ _ _ _ _ _ _ _ _ _ _ _ _ _ _ _ _ _ _ _ _ _ _ _ _ _ (HE.out _ K9.out R9.out)

set_option maxRecDepth 1000000 in
set_option maxHeartbeats 6400000 in
theorem tail61_c1 (K : Act → World → Prop) (Q : Exit → Act → World → Prop) (u5 u9 u10 u11 u12 u13 u14 u15 u16 u17 u18 u19 u20 u21 u22 u23 u24 u25 u26 u27 u28 u29 u30 u31 u32 u33 u34 u35 u36 u37 u38 u39 u40 u41 u42 u43 u44 u45 u46 u47 u48 u49 u50 u51 u52 u53 u54 u55 u56 u57 u58 u59 u60 u61 u62 u63 u64 u65 u66 u67 u68 u69 u70 u71 u72 u74 u75 u76 u77 u78 u79 u80 u81 u82 u83 u84 u85 u86 u87 u88 u89 u90 u91 u92 u93 u94 u95 u96 u97 u98 u99 u100 u101 u102 u103 u104 u105 u106 u107 u108 u109 u110 u111 u112 u113 u114 u115 u116 u117 u118 u119 u120 u121 u122 u123 u124 u125 u126 u127 u128 u129 u130 u131 u132 u133 u134 u135 u136 u137 u138 u139 u140 u141 u142 u143 u144 u145 u146 u147 u148 u149 u150 u151 u152 u153 u154 u155 u156 u157 u158 u159 u160 u161 u162 u163 u164 u165 u166 u167 u168 u169 u170 u171 u172 u173 u174 u175 u176 u177 u178 u179 u180 u181 u182 u183 u184 u185 u186 u187 u188 u189 u190 u191 u192 u193 u194 u195 u196 u197 u198 u199 u200 u201 u202 u203 u204 u205 u206 u207 u208 u209 u210 u211 u212 u213 u214 u215 u216 u217 u218 u219 u220 u221 u222 u223 u224 u225 u226 u227 u228 u229 u230 u231 u232 u233 u234 u235 u236 u237 u238 u239 u240 u241 u242 u243 u244 u245 : Value) (i μ κ : Nat) (ap : Option Addr) (a wl cap tl : Nat) (hasLF hasCR : Bool) (w6 : World) (ev' : Value) (rs : List UInt8)
    (hK : ∀ (pv nv u5 u6 u7 u8 u9 u10 u11 u12 u13 u14 u15 u16 u17 u18 u19 u20 u21 u22 u23 u24 u25 u26 u27 u28 u29 u30 u31 u32 u33 u34 u35 u36 u37 u38 u39 u40 u41 u42 u43 u44 u45 u46 u47 u48 u49 u50 u51 u52 u53 u54 u55 u56 u57 u58 u59 u60 u61 u62 u63 u64 u65 u66 u67 u68 u69 u70 u71 u72 u73 u74 u75 u76 u77 u78 u79 u80 u81 u82 u83 u84 u85 u86 u87 u88 u89 u90 u91 u92 u93 u94 u95 u96 u97 u98 u99 u100 u101 u102 u103 u104 u105 u106 u107 u108 u109 u110 u111 u112 u113 u114 u115 u116 u117 u118 u119 u120 u121 u122 u123 u124 u125 u126 u127 u128 u129 u130 u131 u132 u133 u134 u135 u136 u137 u138 u139 u140 u141 u142 u143 u144 u145 u146 u147 u148 u149 u150 u151 u152 u153 u154 u155 u156 u157 u158 u159 u160 u161 u162 u163 u164 u165 u166 u167 u168 u169 u170 u171 u172 u173 u174 u175 u176 u177 u178 u179 u180 u181 u182 u183 u184 u185 u186 u187 u188 u189 u190 u191 u192 u193 u194 u195 u196 u197 u198 u199 u200 u201 u202 u203 u204 u205 u206 u207 u208 u209 u210 u211 u212 u213 u214 u215 u216 u217 u218 u219 u220 u221 u222 u223 u224 u225 u226 u227 u228 u229 u230 u231 u232 u233 u234 u235 u236 u237 u238 u239 u240 u241 u242 u243 u244 u245 : Value) (w' : World), RdNext k ea R Bu Bf s D P po m mc pb out code w gk pv nv w' → K ⟨#[Value.pointer (some ⟨R, 0, none⟩), pv, undef, undef, nv, u5, u6, u7, u8, u9, u10, u11, u12, u13, u14, u15, u16, u17, u18, u19, u20, u21, u22, u23, u24, u25, u26, u27, u28, u29, u30, u31, u32, u33, u34, u35, u36, u37, u38, u39, u40, u41, u42, u43, u44, u45, u46, u47, u48, u49, u50, u51, u52, u53, u54, u55, u56, u57, u58, u59, u60, u61, u62, u63, u64, u65, u66, u67, u68, u69, u70, u71, u72, u73, u74, u75, u76, u77, u78, u79, u80, u81, u82, u83, u84, u85, u86, u87, u88, u89, u90, u91, u92, u93, u94, u95, u96, u97, u98, u99, u100, u101, u102, u103, u104, u105, u106, u107, u108, u109, u110, u111, u112, u113, u114, u115, u116, u117, u118, u119, u120, u121, u122, u123, u124, u125, u126, u127, u128, u129, u130, u131, u132, u133, u134, u135, u136, u137, u138, u139, u140, u141, u142, u143, u144, u145, u146, u147, u148, u149, u150, u151, u152, u153, u154, u155, u156, u157, u158, u159, u160, u161, u162, u163, u164, u165, u166, u167, u168, u169, u170, u171, u172, u173, u174, u175, u176, u177, u178, u179, u180, u181, u182, u183, u184, u185, u186, u187, u188, u189, u190, u191, u192, u193, u194, u195, u196, u197, u198, u199, u200, u201, u202, u203, u204, u205, u206, u207, u208, u209, u210, u211, u212, u213, u214, u215, u216, u217, u218, u219, u220, u221, u222, u223, u224, u225, u226, u227, u228, u229, u230, u231, u232, u233, u234, u235, u236, u237, u238, u239, u240, u241, u242, u243, u244, u245, undef], []⟩ w')
    (hrd : RdrAt w6 R Bu ev' (.slice (some ⟨Bf, a, none⟩) tl cap))
    (htl : 1 ≤ tl) (htw : tl ≤ wl) (hwc : wl ≤ cap) (hcap : cap ≤ 4096) (htc : ¬ cap = tl)
    (htrim : Calls Tryd.prog 24 #[.slice (some ⟨Bf, a + tl, none⟩) (wl - tl) (cap - tl), .string ⟨#[32, 9]⟩] w6 fun e w' => (∃ v, e = .returned v ∧ (∀ w8, Keep (fun b => b = R) w' w8 → Bs w8 v rs) ∧ Below w6.heap.size w6 w'))
    (hp1 : ([10] : List UInt8).isPrefixOf rs = false) (hp2 : ([13, 10] : List UInt8).isPrefixOf rs = false) (hrs0 : rs ≠ [])
    (hea : ea.block < w6.heap.size) (hend : ∀ w9 er, ErrIs ea 2 er → ErrF ea w9 er → Keep (fun b => b = R) w6 w9 → RdrAt w9 R Bu er (.slice (some ⟨Bf, a, none⟩) (tl - 1) cap) → RdNext k ea R Bu Bf s D P po m mc pb out code w gk (.slice ap μ κ) (.int .i64 i) w9) :
    Code.wp Tryd.prog rcond (Exit.then K Q) ⟨#[Value.pointer (some ⟨R, 0, none⟩), .slice ap μ κ, undef, undef, .int .i64 i, u5, .bool hasLF, .bool hasCR, .slice (some ⟨Bf, a, none⟩) wl cap, u9, u10, u11, u12, u13, u14, u15, u16, u17, u18, u19, u20, u21, u22, u23, u24, u25, u26, u27, u28, u29, u30, u31, u32, u33, u34, u35, u36, u37, u38, u39, u40, u41, u42, u43, u44, u45, u46, u47, u48, u49, u50, u51, u52, u53, u54, u55, u56, u57, u58, u59, u60, u61, u62, u63, u64, u65, u66, u67, u68, u69, u70, u71, u72, .bool true, u74, u75, u76, u77, u78, u79, u80, u81, u82, u83, u84, u85, u86, u87, u88, u89, u90, u91, u92, u93, u94, u95, u96, u97, u98, u99, u100, u101, u102, u103, u104, u105, u106, u107, u108, u109, u110, u111, u112, u113, u114, u115, u116, u117, u118, u119, u120, u121, u122, u123, u124, u125, u126, u127, u128, u129, u130, u131, u132, u133, u134, u135, u136, u137, u138, u139, u140, u141, u142, u143, u144, u145, u146, u147, u148, u149, u150, u151, u152, u153, u154, u155, u156, u157, u158, u159, u160, u161, u162, u163, u164, u165, u166, u167, u168, u169, u170, u171, u172, u173, u174, u175, u176, u177, u178, u179, u180, u181, u182, u183, u184, u185, u186, u187, u188, u189, u190, u191, u192, u193, u194, u195, u196, u197, u198, u199, u200, u201, u202, u203, u204, u205, u206, u207, u208, u209, u210, u211, u212, u213, u214, u215, u216, u217, u218, u219, u220, u221, u222, u223, u224, u225, u226, u227, u228, u229, u230, u231, u232, u233, u234, u235, u236, u237, u238, u239, u240, u241, u242, u243, u244, u245, undef], []⟩ w6 := by
  refine wp_np ?_
  have HE := Lib.hid hend
  have HK := Lib.hid hK
  have HTR := Lib.hid htrim
  have HP1 := Lib.hid hp1
  have HRD := Lib.hid hrd
  obtain ⟨c0, c1, c2, f0, f1, f2⟩ := cells3 hrd
  have g1 : (1 : Int) ≤ tl := by omega
  have g2 : (tl : Int) ≤ wl := by omega
  have g3 : (wl : Int) ≤ cap := by omega
  have g4 : (cap : Int) ≤ 4096 := by omega
  have htc2 : tl ≤ cap := by omega
  have htc3 : tl - 1 ≤ cap := by omega
  have HP2 := Lib.hid hp2
  clear hp2
  have HL0 := Lib.hid (show (((rs.length : Nat) : Int) == 0) = false from beq_eq_false_iff_ne.2 (by have := List.length_pos_iff.2 hrs0; omega))
  clear hrs0
  have HEA := Lib.hid hea
  clear hea
  clear hend hK htrim hp1 hrd
  conv => arg 2; whnf
  go_wp2_with fail
  refine HTR.out.mono ?_
  rintro e w7 ⟨v, rfl, hv, hbel⟩
  dsimp only
  obtain ⟨av, cv, hvs, -⟩ := hv _ (Keep.refl _ w7)
  subst hvs
  have r7 : RdrAt w7 R Bu _ _ := HRD.out.keep (Keep.new (S := fun _ => False) hbel) id
  have K67 := Lib.hid (Keep.new (S := fun b => b = R) hbel)
  have R7 := Lib.hid r7
  have HV := Lib.hid hv
  clear HTR hv hbel c0 c1 c2 f0 f1 f2 r7
  obtain ⟨c0, c1, c2, f0, f1, f2⟩ := cells3 R7.out
  go_wp2
  go_region
  obtain ⟨w8, hw8⟩ : ∃ w8, w8 = (w7.setCell ⟨R, 2, none⟩ (.slice (some ⟨Bf, a, none⟩) (tl - 1) cap)).drew := ⟨_, rfl⟩
  rw [← hw8]
  obtain ⟨k8, r8⟩ := eq61_world hw8 K67.out R7.out
  have h78 : Keep (fun b => b = R) w7 w8 := (eq61_world hw8 (Keep.refl _ w7) R7.out).1
  have hb8 := HV.out w8 h78
  have K8 := Lib.hid k8
  have R8 := Lib.hid r8
  have B8 := Lib.hid hb8
  clear c0 c1 c2 f0 f1 f2 hw8 k8 r8 h78 hb8 HV
  go_wp2
  show Code.wp Tryd.prog reg13 _ _ _
  refine r13_c1 (ea := ea) (R := R) (rs := rs) (fun _ _ _ _ h => h) rfl rfl rfl B8.out HP1.out HP2.out HL0.out (fun y96 y97 y98 y99 y100 y101 y102 y103 y104 y105 y106 y107 y108 y109 y110 y111 y112 y113 y114 y115 y116 y117 y118 y119 y120 y121 y122 y123 y124 y125 y126 y127 y128 w9 k9 => ?_)
  rw [put13]
  have K9 := Lib.hid (K8.out.trans k9 (fun _ _ h => h.elim))
  have R9 := Lib.hid (R8.out.keep k9 id)
  clear k9
  obtain ⟨c0, c1, c2, f0, f1, f2⟩ := cells3 R9.out
  go_wp2_with fail
  refine (errnew_any _ _).mono ?_
  rintro e w11 ⟨rfl, hw11⟩
  have k11 : Keep (fun _ => False) w9 w11 := hw11 ▸ (Keep.refl (fun _ => False) w9).alloc _
  have F11 := Lib.hid (errF_at hw11)
  have R11 := Lib.hid (R9.out.keep k11 id)
  have K11 := Lib.hid (K9.out.trans k11 (fun _ _ h => h.elim))
  clear c0 c1 c2 f0 f1 f2 k11 hw11
  obtain ⟨c0, c1, c2, f0, f1, f2⟩ := cells3 R11.out
  unfold errv
  dsimp only
  go_wp2
  exact HK.out _ _ _ _ _ _ _ _ _ _ _ _ _ _ _ _ _ _ _ _ _ _ _ _ _ _ _ _ _ _ _ _ _ _ _ _ _ _ _ _ _ _ _ _ _ _ _ _ _ _ _ _ _ _ _ _ _ _ _ _ _ _ _ _ _ _ _ _ _ _ _ _ _ _ _ _ _ _ _ _ _ _ _ _ _ _ _ _ _ _ _ _ _ _ _ _ _ _ _ _ _ _ _ _ _ _ _ _ _ _ _ _ _ _ _ _ _ _ _ _ _ _ _ _ _ _ _ _ _ _ _ _ _ _ _ _ _ _ _ _ _ _ _ _ _ _ _ _ _ _ _ _ _ _ _ _ _ _ _ _ _ _ _ _ _ _ _ _ _ _ _ _ _ _ _ _ _ _ _ _ _ _ _ _ _ _ _ _ _ _ _ _ _ _ _ _ _ _ _ _ _ _ _ _ _ _ _ _ _ _ _ _ _ _ _ _ _ _ _ _ _ _ _ _ _ _ _ _ _ _ _ _ _ _ _ _ _ _ _ _ _ _ _ _ (HE.out _ _ (.inr (.inr ⟨rfl, ⟨w9.heap.size, 0, none⟩, fun e => absurd (congrArg Addr.block e) (Nat.ne_of_gt (Nat.lt_of_lt_of_le HEA.out K9.out.size)), rfl⟩)) (errF_new (Nat.ne_of_lt (Lib.lt_of_heap R9.out)) rfl (Nat.ne_of_gt (Nat.lt_of_lt_of_le HEA.out K9.out.size)) F11.out) (K11.out.setCell ⟨R, 1, none⟩ rfl _) (R11.out.serr _))

set_option maxRecDepth 1000000 in
set_option maxHeartbeats 6400000 in
theorem tail61_c2a (K : Act → World → Prop) (Q : Exit → Act → World → Prop) (u5 u9 u10 u11 u12 u13 u14 u15 u16 u17 u18 u19 u20 u21 u22 u23 u24 u25 u26 u27 u28 u29 u30 u31 u32 u33 u34 u35 u36 u37 u38 u39 u40 u41 u42 u43 u44 u45 u46 u47 u48 u49 u50 u51 u52 u53 u54 u55 u56 u57 u58 u59 u60 u61 u62 u63 u64 u65 u66 u67 u68 u69 u70 u71 u72 u74 u75 u76 u77 u78 u79 u80 u81 u82 u83 u84 u85 u86 u87 u88 u89 u90 u91 u92 u93 u94 u95 u96 u97 u98 u99 u100 u101 u102 u103 u104 u105 u106 u107 u108 u109 u110 u111 u112 u113 u114 u115 u116 u117 u118 u119 u120 u121 u122 u123 u124 u125 u126 u127 u128 u129 u130 u131 u132 u133 u134 u135 u136 u137 u138 u139 u140 u141 u142 u143 u144 u145 u146 u147 u148 u149 u150 u151 u152 u153 u154 u155 u156 u157 u158 u159 u160 u161 u162 u163 u164 u165 u166 u167 u168 u169 u170 u171 u172 u173 u174 u175 u176 u177 u178 u179 u180 u181 u182 u183 u184 u185 u186 u187 u188 u189 u190 u191 u192 u193 u194 u195 u196 u197 u198 u199 u200 u201 u202 u203 u204 u205 u206 u207 u208 u209 u210 u211 u212 u213 u214 u215 u216 u217 u218 u219 u220 u221 u222 u223 u224 u225 u226 u227 u228 u229 u230 u231 u232 u233 u234 u235 u236 u237 u238 u239 u240 u241 u242 u243 u244 u245 : Value) (i μ κ : Nat) (ap : Option Addr) (a wl cap tl : Nat) (hasLF hasCR : Bool) (w6 : World) (ev' : Value) (rs : List UInt8)
    (hK : ∀ (pv nv u5 u6 u7 u8 u9 u10 u11 u12 u13 u14 u15 u16 u17 u18 u19 u20 u21 u22 u23 u24 u25 u26 u27 u28 u29 u30 u31 u32 u33 u34 u35 u36 u37 u38 u39 u40 u41 u42 u43 u44 u45 u46 u47 u48 u49 u50 u51 u52 u53 u54 u55 u56 u57 u58 u59 u60 u61 u62 u63 u64 u65 u66 u67 u68 u69 u70 u71 u72 u73 u74 u75 u76 u77 u78 u79 u80 u81 u82 u83 u84 u85 u86 u87 u88 u89 u90 u91 u92 u93 u94 u95 u96 u97 u98 u99 u100 u101 u102 u103 u104 u105 u106 u107 u108 u109 u110 u111 u112 u113 u114 u115 u116 u117 u118 u119 u120 u121 u122 u123 u124 u125 u126 u127 u128 u129 u130 u131 u132 u133 u134 u135 u136 u137 u138 u139 u140 u141 u142 u143 u144 u145 u146 u147 u148 u149 u150 u151 u152 u153 u154 u155 u156 u157 u158 u159 u160 u161 u162 u163 u164 u165 u166 u167 u168 u169 u170 u171 u172 u173 u174 u175 u176 u177 u178 u179 u180 u181 u182 u183 u184 u185 u186 u187 u188 u189 u190 u191 u192 u193 u194 u195 u196 u197 u198 u199 u200 u201 u202 u203 u204 u205 u206 u207 u208 u209 u210 u211 u212 u213 u214 u215 u216 u217 u218 u219 u220 u221 u222 u223 u224 u225 u226 u227 u228 u229 u230 u231 u232 u233 u234 u235 u236 u237 u238 u239 u240 u241 u242 u243 u244 u245 : Value) (w' : World), RdNext k ea R Bu Bf s D P po m mc pb out code w gk pv nv w' → K ⟨#[Value.pointer (some ⟨R, 0, none⟩), pv, undef, undef, nv, u5, u6, u7, u8, u9, u10, u11, u12, u13, u14, u15, u16, u17, u18, u19, u20, u21, u22, u23, u24, u25, u26, u27, u28, u29, u30, u31, u32, u33, u34, u35, u36, u37, u38, u39, u40, u41, u42, u43, u44, u45, u46, u47, u48, u49, u50, u51, u52, u53, u54, u55, u56, u57, u58, u59, u60, u61, u62, u63, u64, u65, u66, u67, u68, u69, u70, u71, u72, u73, u74, u75, u76, u77, u78, u79, u80, u81, u82, u83, u84, u85, u86, u87, u88, u89, u90, u91, u92, u93, u94, u95, u96, u97, u98, u99, u100, u101, u102, u103, u104, u105, u106, u107, u108, u109, u110, u111, u112, u113, u114, u115, u116, u117, u118, u119, u120, u121, u122, u123, u124, u125, u126, u127, u128, u129, u130, u131, u132, u133, u134, u135, u136, u137, u138, u139, u140, u141, u142, u143, u144, u145, u146, u147, u148, u149, u150, u151, u152, u153, u154, u155, u156, u157, u158, u159, u160, u161, u162, u163, u164, u165, u166, u167, u168, u169, u170, u171, u172, u173, u174, u175, u176, u177, u178, u179, u180, u181, u182, u183, u184, u185, u186, u187, u188, u189, u190, u191, u192, u193, u194, u195, u196, u197, u198, u199, u200, u201, u202, u203, u204, u205, u206, u207, u208, u209, u210, u211, u212, u213, u214, u215, u216, u217, u218, u219, u220, u221, u222, u223, u224, u225, u226, u227, u228, u229, u230, u231, u232, u233, u234, u235, u236, u237, u238, u239, u240, u241, u242, u243, u244, u245, undef], []⟩ w')
    (hrd : RdrAt w6 R Bu ev' (.slice (some ⟨Bf, a, none⟩) tl cap))
    (htl : 1 ≤ tl) (htw : tl ≤ wl) (hwc : wl ≤ cap) (hcap : cap ≤ 4096) (htc : ¬ cap = tl)
    (htrim : Calls Tryd.prog 24 #[.slice (some ⟨Bf, a + tl, none⟩) (wl - tl) (cap - tl), .string ⟨#[32, 9]⟩] w6 fun e w' => (∃ v, e = .returned v ∧ (∀ w8, Keep (fun b => b = R) w' w8 → Bs w8 v rs) ∧ Below w6.heap.size w6 w'))
    (hp1 : ([10] : List UInt8).isPrefixOf rs = false) (hp2 : ([13, 10] : List UInt8).isPrefixOf rs = false) (hrs0 : rs = []) (ht1 : tl = 1)
    (hea : ea.block < w6.heap.size) (hend : ∀ w9 er, ErrIs ea 2 er → ErrF ea w9 er → Keep (fun b => b = R) w6 w9 → RdrAt w9 R Bu er (.slice (some ⟨Bf, a, none⟩) (tl - 1) cap) → RdNext k ea R Bu Bf s D P po m mc pb out code w gk (.slice ap μ κ) (.int .i64 i) w9) :
    Code.wp Tryd.prog rcond (Exit.then K Q) ⟨#[Value.pointer (some ⟨R, 0, none⟩), .slice ap μ κ, undef, undef, .int .i64 i, u5, .bool hasLF, .bool hasCR, .slice (some ⟨Bf, a, none⟩) wl cap, u9, u10, u11, u12, u13, u14, u15, u16, u17, u18, u19, u20, u21, u22, u23, u24, u25, u26, u27, u28, u29, u30, u31, u32, u33, u34, u35, u36, u37, u38, u39, u40, u41, u42, u43, u44, u45, u46, u47, u48, u49, u50, u51, u52, u53, u54, u55, u56, u57, u58, u59, u60, u61, u62, u63, u64, u65, u66, u67, u68, u69, u70, u71, u72, .bool true, u74, u75, u76, u77, u78, u79, u80, u81, u82, u83, u84, u85, u86, u87, u88, u89, u90, u91, u92, u93, u94, u95, u96, u97, u98, u99, u100, u101, u102, u103, u104, u105, u106, u107, u108, u109, u110, u111, u112, u113, u114, u115, u116, u117, u118, u119, u120, u121, u122, u123, u124, u125, u126, u127, u128, u129, u130, u131, u132, u133, u134, u135, u136, u137, u138, u139, u140, u141, u142, u143, u144, u145, u146, u147, u148, u149, u150, u151, u152, u153, u154, u155, u156, u157, u158, u159, u160, u161, u162, u163, u164, u165, u166, u167, u168, u169, u170, u171, u172, u173, u174, u175, u176, u177, u178, u179, u180, u181, u182, u183, u184, u185, u186, u187, u188, u189, u190, u191, u192, u193, u194, u195, u196, u197, u198, u199, u200, u201, u202, u203, u204, u205, u206, u207, u208, u209, u210, u211, u212, u213, u214, u215, u216, u217, u218, u219, u220, u221, u222, u223, u224, u225, u226, u227, u228, u229, u230, u231, u232, u233, u234, u235, u236, u237, u238, u239, u240, u241, u242, u243, u244, u245, undef], []⟩ w6 := by
  refine wp_np ?_
  have HE := Lib.hid hend
  have HK := Lib.hid hK
  have HTR := Lib.hid htrim
  have HP1 := Lib.hid hp1
  have HRD := Lib.hid hrd
  obtain ⟨c0, c1, c2, f0, f1, f2⟩ := cells3 hrd
  have g1 : (1 : Int) ≤ tl := by omega
  have g2 : (tl : Int) ≤ wl := by omega
  have g3 : (wl : Int) ≤ cap := by omega
  have g4 : (cap : Int) ≤ 4096 := by omega
  have htc2 : tl ≤ cap := by omega
  have htc3 : tl - 1 ≤ cap := by omega
  have HP2 := Lib.hid hp2
  clear hp2
  have HL0 := Lib.hid (show (((rs.length : Nat) : Int) == 0) = true by simp [hrs0])
  have HGT := Lib.hid (show tl - 1 = 0 by omega)
  clear hrs0 ht1
  have HEA := Lib.hid hea
  clear hea
  clear hend hK htrim hp1 hrd
  conv => arg 2; whnf
  go_wp2_with fail
  refine HTR.out.mono ?_
  rintro e w7 ⟨v, rfl, hv, hbel⟩
  dsimp only
  obtain ⟨av, cv, hvs, -⟩ := hv _ (Keep.refl _ w7)
  subst hvs
  have r7 : RdrAt w7 R Bu _ _ := HRD.out.keep (Keep.new (S := fun _ => False) hbel) id
  have K67 := Lib.hid (Keep.new (S := fun b => b = R) hbel)
  have R7 := Lib.hid r7
  have HV := Lib.hid hv
  clear HTR hv hbel c0 c1 c2 f0 f1 f2 r7
  obtain ⟨c0, c1, c2, f0, f1, f2⟩ := cells3 R7.out
  go_wp2
  go_region
  obtain ⟨w8, hw8⟩ : ∃ w8, w8 = (w7.setCell ⟨R, 2, none⟩ (.slice (some ⟨Bf, a, none⟩) (tl - 1) cap)).drew := ⟨_, rfl⟩
  rw [← hw8]
  obtain ⟨k8, r8⟩ := eq61_world hw8 K67.out R7.out
  have h78 : Keep (fun b => b = R) w7 w8 := (eq61_world hw8 (Keep.refl _ w7) R7.out).1
  have hb8 := HV.out w8 h78
  have K8 := Lib.hid k8
  have R8 := Lib.hid r8
  have B8 := Lib.hid hb8
  clear c0 c1 c2 f0 f1 f2 hw8 k8 r8 h78 hb8 HV
  go_wp2
  show Code.wp Tryd.prog reg13 _ _ _
  obtain ⟨c0, c1, c2, f0, f1, f2⟩ := cells3 R8.out
  refine r13_c2a (ea := ea) (R := R) (rs := rs) (fun _ _ _ _ h => h) rfl rfl rfl B8.out HP1.out HP2.out HL0.out _ _ _ c2 HGT.out (fun y96 y97 y98 y99 y100 y101 y102 y103 y104 y105 y106 y107 y108 y109 y110 y111 y112 y113 y114 y115 y116 y117 y118 y119 y120 y121 y122 y123 y124 y125 y126 y127 y128 w9 k9 => ?_)
  rw [put13]
  have K9 := Lib.hid (K8.out.trans k9 (fun _ _ h => h.elim))
  have R9 := Lib.hid (R8.out.keep k9 id)
  clear k9 c0 c1 c2 f0 f1 f2
  obtain ⟨c0, c1, c2, f0, f1, f2⟩ := cells3 R9.out
  go_wp2_with fail
  refine (errnew_any _ _).mono ?_
  rintro e w11 ⟨rfl, hw11⟩
  have k11 : Keep (fun _ => False) w9 w11 := hw11 ▸ (Keep.refl (fun _ => False) w9).alloc _
  have F11 := Lib.hid (errF_at hw11)
  have R11 := Lib.hid (R9.out.keep k11 id)
  have K11 := Lib.hid (K9.out.trans k11 (fun _ _ h => h.elim))
  clear c0 c1 c2 f0 f1 f2 k11 hw11
  obtain ⟨c0, c1, c2, f0, f1, f2⟩ := cells3 R11.out
  unfold errv
  dsimp only
  go_wp2
  exact HK.out _ _ _ _ _ _ _ _ _ _ _ _ _ _ _ _ _ _ _ _ _ _ _ _ _ _ _ _ _ _ _ _ _ _ _ _ _ _ _ _ _ _ _ _ _ _ _ _ _ _ _ _ _ _ _ _ _ _ _ _ _ _ _ _ _ _ _ _ _ _ _ _ _ _ _ _ _ _ _ _ _ _ _ _ _ _ _ _ _ _ _ _ _ _ _ _ _ _ _ _ _ _ _ _ _ _ _ _ _ _ _ _ _ _ _ _ _ _ _ _ _ _ _ _ _ _ _ _ _ _ _ _ _ _ _ _ _ _ _ _ _ _ _ _ _ _ _ _ _ _ _ _ _ _ _ _ _ _ _ _ _ _ _ _ _ _ _ _ _ _ _ _ _ _ _ _ _ _ _ _ _ _ _ _ _ _ _ _ _ _ _ _ _ _ _ _ _ _ _ _ _ _ _ _ _ _ _ _ _ _ _ _ _ _ _ _ _ _ _ _ _ _ _ _ _ _ _ _ _ _ _ _ _ _ _ _ _ _ _ _ _ _ _ _ (HE.out _ _ (.inr (.inr ⟨rfl, ⟨w9.heap.size, 0, none⟩, fun e => absurd (congrArg Addr.block e) (Nat.ne_of_gt (Nat.lt_of_lt_of_le HEA.out K9.out.size)), rfl⟩)) (errF_new (Nat.ne_of_lt (Lib.lt_of_heap R9.out)) rfl (Nat.ne_of_gt (Nat.lt_of_lt_of_le HEA.out K9.out.size)) F11.out) (K11.out.setCell ⟨R, 1, none⟩ rfl _) (R11.out.serr _))

set_option maxRecDepth 1000000 in
set_option maxHeartbeats 6400000 in
theorem tail61_c2b (K : Act → World → Prop) (Q : Exit → Act → World → Prop) (u5 u9 u10 u11 u12 u13 u14 u15 u16 u17 u18 u19 u20 u21 u22 u23 u24 u25 u26 u27 u28 u29 u30 u31 u32 u33 u34 u35 u36 u37 u38 u39 u40 u41 u42 u43 u44 u45 u46 u47 u48 u49 u50 u51 u52 u53 u54 u55 u56 u57 u58 u59 u60 u61 u62 u63 u64 u65 u66 u67 u68 u69 u70 u71 u72 u74 u75 u76 u77 u78 u79 u80 u81 u82 u83 u84 u85 u86 u87 u88 u89 u90 u91 u92 u93 u94 u95 u96 u97 u98 u99 u100 u101 u102 u103 u104 u105 u106 u107 u108 u109 u110 u111 u112 u113 u114 u115 u116 u117 u118 u119 u120 u121 u122 u123 u124 u125 u126 u127 u128 u129 u130 u131 u132 u133 u134 u135 u136 u137 u138 u139 u140 u141 u142 u143 u144 u145 u146 u147 u148 u149 u150 u151 u152 u153 u154 u155 u156 u157 u158 u159 u160 u161 u162 u163 u164 u165 u166 u167 u168 u169 u170 u171 u172 u173 u174 u175 u176 u177 u178 u179 u180 u181 u182 u183 u184 u185 u186 u187 u188 u189 u190 u191 u192 u193 u194 u195 u196 u197 u198 u199 u200 u201 u202 u203 u204 u205 u206 u207 u208 u209 u210 u211 u212 u213 u214 u215 u216 u217 u218 u219 u220 u221 u222 u223 u224 u225 u226 u227 u228 u229 u230 u231 u232 u233 u234 u235 u236 u237 u238 u239 u240 u241 u242 u243 u244 u245 : Value) (i μ κ : Nat) (ap : Option Addr) (a wl cap tl : Nat) (hasLF hasCR : Bool) (w6 : World) (ev' : Value) (rs : List UInt8)
    (hK : ∀ (pv nv u5 u6 u7 u8 u9 u10 u11 u12 u13 u14 u15 u16 u17 u18 u19 u20 u21 u22 u23 u24 u25 u26 u27 u28 u29 u30 u31 u32 u33 u34 u35 u36 u37 u38 u39 u40 u41 u42 u43 u44 u45 u46 u47 u48 u49 u50 u51 u52 u53 u54 u55 u56 u57 u58 u59 u60 u61 u62 u63 u64 u65 u66 u67 u68 u69 u70 u71 u72 u73 u74 u75 u76 u77 u78 u79 u80 u81 u82 u83 u84 u85 u86 u87 u88 u89 u90 u91 u92 u93 u94 u95 u96 u97 u98 u99 u100 u101 u102 u103 u104 u105 u106 u107 u108 u109 u110 u111 u112 u113 u114 u115 u116 u117 u118 u119 u120 u121 u122 u123 u124 u125 u126 u127 u128 u129 u130 u131 u132 u133 u134 u135 u136 u137 u138 u139 u140 u141 u142 u143 u144 u145 u146 u147 u148 u149 u150 u151 u152 u153 u154 u155 u156 u157 u158 u159 u160 u161 u162 u163 u164 u165 u166 u167 u168 u169 u170 u171 u172 u173 u174 u175 u176 u177 u178 u179 u180 u181 u182 u183 u184 u185 u186 u187 u188 u189 u190 u191 u192 u193 u194 u195 u196 u197 u198 u199 u200 u201 u202 u203 u204 u205 u206 u207 u208 u209 u210 u211 u212 u213 u214 u215 u216 u217 u218 u219 u220 u221 u222 u223 u224 u225 u226 u227 u228 u229 u230 u231 u232 u233 u234 u235 u236 u237 u238 u239 u240 u241 u242 u243 u244 u245 : Value) (w' : World), RdNext k ea R Bu Bf s D P po m mc pb out code w gk pv nv w' → K ⟨#[Value.pointer (some ⟨R, 0, none⟩), pv, undef, undef, nv, u5, u6, u7, u8, u9, u10, u11, u12, u13, u14, u15, u16, u17, u18, u19, u20, u21, u22, u23, u24, u25, u26, u27, u28, u29, u30, u31, u32, u33, u34, u35, u36, u37, u38, u39, u40, u41, u42, u43, u44, u45, u46, u47, u48, u49, u50, u51, u52, u53, u54, u55, u56, u57, u58, u59, u60, u61, u62, u63, u64, u65, u66, u67, u68, u69, u70, u71, u72, u73, u74, u75, u76, u77, u78, u79, u80, u81, u82, u83, u84, u85, u86, u87, u88, u89, u90, u91, u92, u93, u94, u95, u96, u97, u98, u99, u100, u101, u102, u103, u104, u105, u106, u107, u108, u109, u110, u111, u112, u113, u114, u115, u116, u117, u118, u119, u120, u121, u122, u123, u124, u125, u126, u127, u128, u129, u130, u131, u132, u133, u134, u135, u136, u137, u138, u139, u140, u141, u142, u143, u144, u145, u146, u147, u148, u149, u150, u151, u152, u153, u154, u155, u156, u157, u158, u159, u160, u161, u162, u163, u164, u165, u166, u167, u168, u169, u170, u171, u172, u173, u174, u175, u176, u177, u178, u179, u180, u181, u182, u183, u184, u185, u186, u187, u188, u189, u190, u191, u192, u193, u194, u195, u196, u197, u198, u199, u200, u201, u202, u203, u204, u205, u206, u207, u208, u209, u210, u211, u212, u213, u214, u215, u216, u217, u218, u219, u220, u221, u222, u223, u224, u225, u226, u227, u228, u229, u230, u231, u232, u233, u234, u235, u236, u237, u238, u239, u240, u241, u242, u243, u244, u245, undef], []⟩ w')
    (hrd : RdrAt w6 R Bu ev' (.slice (some ⟨Bf, a, none⟩) tl cap))
    (_htl : 1 ≤ tl) (htw : tl ≤ wl) (hwc : wl ≤ cap) (hcap : cap ≤ 4096) (htc : ¬ cap = tl)
    (htrim : Calls Tryd.prog 24 #[.slice (some ⟨Bf, a + tl, none⟩) (wl - tl) (cap - tl), .string ⟨#[32, 9]⟩] w6 fun e w' => (∃ v, e = .returned v ∧ (∀ w8, Keep (fun b => b = R) w' w8 → Bs w8 v rs) ∧ Below w6.heap.size w6 w'))
    (hp1 : ([10] : List UInt8).isPrefixOf rs = false) (hp2 : ([13, 10] : List UInt8).isPrefixOf rs = false) (hrs0 : rs = []) (ht1 : 2 ≤ tl) (hev : ev' = eofv ea) (heof : EofAt w6 ea) (hzR : R ≠ 0)
    (hend : ∀ w9, Keep (fun b => b = R) w6 w9 → RdrAt w9 R Bu ev' (.slice (some ⟨Bf, a, none⟩) (tl - 1) cap) → RdNext k ea R Bu Bf s D P po m mc pb out code w gk (.slice ap μ κ) (.int .i64 i) w9) :
    Code.wp Tryd.prog rcond (Exit.then K Q) ⟨#[Value.pointer (some ⟨R, 0, none⟩), .slice ap μ κ, undef, undef, .int .i64 i, u5, .bool hasLF, .bool hasCR, .slice (some ⟨Bf, a, none⟩) wl cap, u9, u10, u11, u12, u13, u14, u15, u16, u17, u18, u19, u20, u21, u22, u23, u24, u25, u26, u27, u28, u29, u30, u31, u32, u33, u34, u35, u36, u37, u38, u39, u40, u41, u42, u43, u44, u45, u46, u47, u48, u49, u50, u51, u52, u53, u54, u55, u56, u57, u58, u59, u60, u61, u62, u63, u64, u65, u66, u67, u68, u69, u70, u71, u72, .bool true, u74, u75, u76, u77, u78, u79, u80, u81, u82, u83, u84, u85, u86, u87, u88, u89, u90, u91, u92, u93, u94, u95, u96, u97, u98, u99, u100, u101, u102, u103, u104, u105, u106, u107, u108, u109, u110, u111, u112, u113, u114, u115, u116, u117, u118, u119, u120, u121, u122, u123, u124, u125, u126, u127, u128, u129, u130, u131, u132, u133, u134, u135, u136, u137, u138, u139, u140, u141, u142, u143, u144, u145, u146, u147, u148, u149, u150, u151, u152, u153, u154, u155, u156, u157, u158, u159, u160, u161, u162, u163, u164, u165, u166, u167, u168, u169, u170, u171, u172, u173, u174, u175, u176, u177, u178, u179, u180, u181, u182, u183, u184, u185, u186, u187, u188, u189, u190, u191, u192, u193, u194, u195, u196, u197, u198, u199, u200, u201, u202, u203, u204, u205, u206, u207, u208, u209, u210, u211, u212, u213, u214, u215, u216, u217, u218, u219, u220, u221, u222, u223, u224, u225, u226, u227, u228, u229, u230, u231, u232, u233, u234, u235, u236, u237, u238, u239, u240, u241, u242, u243, u244, u245, undef], []⟩ w6 := by
  refine wp_np ?_
  have HE := Lib.hid hend
  have HK := Lib.hid hK
  have HTR := Lib.hid htrim
  have HP1 := Lib.hid hp1
  have HRD := Lib.hid hrd
  obtain ⟨c0, c1, c2, f0, f1, f2⟩ := cells3 hrd
  have g1 : (1 : Int) ≤ tl := by omega
  have g2 : (tl : Int) ≤ wl := by omega
  have g3 : (wl : Int) ≤ cap := by omega
  have g4 : (cap : Int) ≤ 4096 := by omega
  have htc2 : tl ≤ cap := by omega
  have htc3 : tl - 1 ≤ cap := by omega
  have HP2 := Lib.hid hp2
  clear hp2
  have HL0 := Lib.hid (show (((rs.length : Nat) : Int) == 0) = true by simp [hrs0])
  have HGT := Lib.hid (show 0 < tl - 1 by omega)
  have HEO := Lib.hid heof
  have HZ := Lib.hid hzR
  subst hev
  clear hrs0 heof hzR
  clear hend hK htrim hp1 hrd
  conv => arg 2; whnf
  go_wp2_with fail
  refine HTR.out.mono ?_
  rintro e w7 ⟨v, rfl, hv, hbel⟩
  dsimp only
  obtain ⟨av, cv, hvs, -⟩ := hv _ (Keep.refl _ w7)
  subst hvs
  have r7 : RdrAt w7 R Bu _ _ := HRD.out.keep (Keep.new (S := fun _ => False) hbel) id
  have K67 := Lib.hid (Keep.new (S := fun b => b = R) hbel)
  have R7 := Lib.hid r7
  have HV := Lib.hid hv
  clear HTR hv hbel c0 c1 c2 f0 f1 f2 r7
  obtain ⟨c0, c1, c2, f0, f1, f2⟩ := cells3 R7.out
  go_wp2
  go_region
  obtain ⟨w8, hw8⟩ : ∃ w8, w8 = (w7.setCell ⟨R, 2, none⟩ (.slice (some ⟨Bf, a, none⟩) (tl - 1) cap)).drew := ⟨_, rfl⟩
  rw [← hw8]
  obtain ⟨k8, r8⟩ := eq61_world hw8 K67.out R7.out
  have h78 : Keep (fun b => b = R) w7 w8 := (eq61_world hw8 (Keep.refl _ w7) R7.out).1
  have hb8 := HV.out w8 h78
  have K8 := Lib.hid k8
  have R8 := Lib.hid r8
  have B8 := Lib.hid hb8
  clear c0 c1 c2 f0 f1 f2 hw8 k8 r8 h78 hb8 HV
  go_wp2
  show Code.wp Tryd.prog reg13 _ _ _
  obtain ⟨c0, c1, c2, f0, f1, f2⟩ := cells3 R8.out
  have e8 : EofAt w8 ea := K8.out.cell (S := fun b => b = R) (fun e => HZ.out e.symm) HEO.out
  refine r13_c2b (ea := ea) (R := R) (rs := rs) (fun _ _ _ _ h => h) rfl rfl rfl B8.out HP1.out HP2.out HL0.out _ _ _ c2 HGT.out c1 e8 (fun y96 y97 y98 y99 y100 y101 y102 y103 y104 y105 y106 y107 y108 y109 y110 y111 y112 y113 y114 y115 y116 y117 y118 y119 y120 y121 y122 y123 y124 y125 y126 y127 y128 w9 k9 => ?_)
  rw [put13]
  have K9 := Lib.hid (K8.out.trans k9 (fun _ _ h => h.elim))
  have R9 := Lib.hid (R8.out.keep k9 id)
  clear k9 c0 c1 c2 f0 f1 f2 e8
  go_wp2
  exact HK.out _ _ _ _ _ _ _ _ _ _ _ _ _ _ _ _ _ _ _ _ _ _ _ _ _ _ _ _ _ _ _ _ _ _ _ _ _ _ _ _ _ _ _ _ _ _ _ _ _ _ _ _ _ _ _ _ _ _ _ _ _ _ _ _ _ _ _ _ _ _ _ _ _ _ _ _ _ _ _ _ _ _ _ _ _ _ _ _ _ _ _ _ _ _ _ _ _ _ _ _ _ _ _ _ _ _ _ _ _ _ _ _ _ _ _ _ _ _ _ _ _ _ _ _ _ _ _ _ _ _ _ _ _ _ _ _ _ _ _ _ _ _ _ _ _ _ _ _ _ _ _ _ _ _ _ _ _ _ _ _ _ _ _ _ _ _ _ _ _ _ _ _ _ _ _ _ _ _ _ _ _ _ _ _ _ _ _ _ _ _ _ _ _ _ _ _ _ _ _ _ _ _ _ _ _ _ _ _ _ _ _ _ _ _ _ _ _ _ _ _ _ _ _ _ _ _ _ _ _ _ _ _ _ _ _ _ _ _ _ _ _ _ _ _ (HE.out _ K9.out R9.out)

end
end Go.Proofs.YtcbolmendjocbaaDoor

/-
  The law's second copy: the attributes.
-/
import Derived.Test.Qxb6617593aCopyA
namespace Go.Proofs.Qxb6617593a
open Go.RowKit Go.Maps

set_option maxRecDepth 100000 in
set_option maxHeartbeats 8000000 in
theorem copyAttrs_wp {a' : Option Addr} {m c' : Nat} {M : List Attr} {w' W1 : World} (HM : Hid (m = M.length ∧ attrsAt w' a' M)) (hnil : a' = none → m = 0) (hm4' : (m : Int) ≤ 65536) (hb1 : Below w'.heap.size w' W1) {x0 x2 x3 x4 x5 x6 x7 x8 x9 x10 x11 x13 x14 x15 x16 x17 x18 x19 x20 x21 x22 x23 x24 x25 x26 x27 x28 x29 x30 x31 x32 x33 x34 x35 x36 x37 x38 x39 x40 x41 x42 x43 x44 x45 x46 x47 x48 x49 x50 x51 x52 x53 x54 x55 x56 x57 x58 x59 x60 x61 x62 x63 x64 x65 x66 x67 x68 x69 x70 x71 x72 x73 x74 x75 x76 x77 x78 x79 x80 x81 x82 x83 x84 x85 x86 x87 x88 x89 x90 x91 x92 x93 x94 x95 x96 x97 x98 x99 x100 x101 x102 x103 x104 x105 x106 x107 x108 x109 x110 x111 x112 x113 x114 x115 x116 x117 x118 x119 x120 x121 x122 x123 x124 x125 x126 x127 x128 x129 x130 x131 x132 x133 x134 x135 x136 x137 x138 x139 x140 x141 x142 x143 x144 x145 x146 x147 x148 x150 x151 x152 x153 x154 x155 x156 x157 x158 x159 x160 x161 x162 x163 x164 x165 x166 x167 x168 x169 x170 x171 x172 x173 x174 x175 x176 x177 x178 x179 x180 x181 x182 x183 x184 x185 x186 x187 x188 x189 x190 x191 x192 x193 x194 x195 x196 x197 x198 x199 x200 x201 x202 x203 x204 x205 x206 x207 x208 x209 x210 x211 x212 x213 x214 x215 x216 x217 x218 x219 x220 x221 x222 x223 x224 x225 x226 x227 x228 x229 x230 x231 x232 x233 x234 x235 x236 x237 x238 x239 x240 x241 x242 x243 x244 x245 x246 x247 x248 x249 x250 x251 x252 x253 x254 x255 x256 x257 x258 x259 x260 x261 x262 x263 x264 x265 x266 x267 x268 x269 x270 x271 x272 x273 x274 : Value} {J K' : Act → World → Prop} {R0 : Ending → World → Prop}
    (hJ : ∀ (aj : Act) (wj : World), (∃ u12 u13 u14 u26 u27 u28 u29 u30 u31 u32 u33 u34 u35 u36 u37 u38 u39 u40 u41 u42 u43 u44 u45 u46 u47 u48 u49 u50 u51 u52 u53 u54 u55 u56 u57 u58 u59 u60 u61 u62 u63 u64 u65 u66 u67 u68 u69 u70 u71 u72 u73 u74 u75 u76 u77 u78 u79 u80 u81 u82 u83 u84 u85 u86 u87 u88 u89 u90 u91 u92 u93 u94 u95 u96 u97 u98 u99 u100 u101 u102 u103 u104 u105 u106 u107 u108 u109 u110 u111 u112 u113 u114 u115 u116 u117 u118 u119 u120 u121 u122 u123 u124 u125 u126 u127 u128 u129 u130 u131 u132 u133 u134 u135 u136 u137 u138 u139 u140 u141 u142 u143 u144 u145 u146 u147 u148 u149 u150 u151 u152 u153 u154 u155 u156 u157 u158 u159 u160 u161 u162 u163 u164 u165 u166 u167 u168 u169 u170 u171 u172 u173 u174 u175 u176 u177 u178 u179 u180 u181 u182 u183 u184 u185 u186 u187 u188 u189 u190 u191 u192 u193 u194 u195 u196 u197 u198 u199 u200 u201 u202 u203 u204 u205 u206 u207 u208 u209 u210 u211 u212 u213 u214 u215 u216 u217 u218 u219 u220 u221 u222 u223 u224 u225 u226 u227 u228 u229 u230 u231 u232 u233 u234 u235 u236 u237 u238 u239 u240 u241 u242 u243 u244 u245 u246 u247 u248 u249 u250 u251 u252 u253 u254 u255 u256 u257 u258 u259 u260 u261 u262 u263 u264 u265 u266 u267 u268 u269 u270 u271 u272 u273 u274 : Value, (∃ (a2 : Option Addr) (c2 : Nat), u12 = .slice a2 m c2 ∧ Below W1.heap.size W1 wj) ∧ aj = ⟨#[x0, .slice a' m c', x2, x3, x4, x5, x6, x7, x8, x9, x10, x11, u12, u13, u14, x15, x16, x17, x18, x19, x20, x21, x22, x23, x24, x25, u26, u27, u28, u29, u30, u31, u32, u33, u34, u35, u36, u37, u38, u39, u40, u41, u42, u43, u44, u45, u46, u47, u48, u49, u50, u51, u52, u53, u54, u55, u56, u57, u58, u59, u60, u61, u62, u63, u64, u65, u66, u67, u68, u69, u70, u71, u72, u73, u74, u75, u76, u77, u78, u79, u80, u81, u82, u83, u84, u85, u86, u87, u88, u89, u90, u91, u92, u93, u94, u95, u96, u97, u98, u99, u100, u101, u102, u103, u104, u105, u106, u107, u108, u109, u110, u111, u112, u113, u114, u115, u116, u117, u118, u119, u120, u121, u122, u123, u124, u125, u126, u127, u128, u129, u130, u131, u132, u133, u134, u135, u136, u137, u138, u139, u140, u141, u142, u143, u144, u145, u146, u147, u148, u149, u150, u151, u152, u153, u154, u155, u156, u157, u158, u159, u160, u161, u162, u163, u164, u165, u166, u167, u168, u169, u170, u171, u172, u173, u174, u175, u176, u177, u178, u179, u180, u181, u182, u183, u184, u185, u186, u187, u188, u189, u190, u191, u192, u193, u194, u195, u196, u197, u198, u199, u200, u201, u202, u203, u204, u205, u206, u207, u208, u209, u210, u211, u212, u213, u214, u215, u216, u217, u218, u219, u220, u221, u222, u223, u224, u225, u226, u227, u228, u229, u230, u231, u232, u233, u234, u235, u236, u237, u238, u239, u240, u241, u242, u243, u244, u245, u246, u247, u248, u249, u250, u251, u252, u253, u254, u255, u256, u257, u258, u259, u260, u261, u262, u263, u264, u265, u266, u267, u268, u269, u270, u271, u272, u273, u274], []⟩) → J aj wj)
    (hMt : ∀ (am : Act) (wm : World), Met J am wm → K' am wm) :
    Code.wp Try.prog copyAttrs (Exit.then K' (bodyPost Try.prog Try.f3 R0)) ⟨#[x0, .slice a' m c', x2, x3, x4, x5, x6, x7, x8, x9, x10, x11, .slice none 0 0, x13, x14, x15, x16, x17, x18, x19, x20, x21, x22, x23, x24, x25, x26, x27, x28, x29, x30, x31, x32, x33, x34, x35, x36, x37, x38, x39, x40, x41, x42, x43, x44, x45, x46, x47, x48, x49, x50, x51, x52, x53, x54, x55, x56, x57, x58, x59, x60, x61, x62, x63, x64, x65, x66, x67, x68, x69, x70, x71, x72, x73, x74, x75, x76, x77, x78, x79, x80, x81, x82, x83, x84, x85, x86, x87, x88, x89, x90, x91, x92, x93, x94, x95, x96, x97, x98, x99, x100, x101, x102, x103, x104, x105, x106, x107, x108, x109, x110, x111, x112, x113, x114, x115, x116, x117, x118, x119, x120, x121, x122, x123, x124, x125, x126, x127, x128, x129, x130, x131, x132, x133, x134, x135, x136, x137, x138, x139, x140, x141, x142, x143, x144, x145, x146, x147, x148, .bool a'.isSome, x150, x151, x152, x153, x154, x155, x156, x157, x158, x159, x160, x161, x162, x163, x164, x165, x166, x167, x168, x169, x170, x171, x172, x173, x174, x175, x176, x177, x178, x179, x180, x181, x182, x183, x184, x185, x186, x187, x188, x189, x190, x191, x192, x193, x194, x195, x196, x197, x198, x199, x200, x201, x202, x203, x204, x205, x206, x207, x208, x209, x210, x211, x212, x213, x214, x215, x216, x217, x218, x219, x220, x221, x222, x223, x224, x225, x226, x227, x228, x229, x230, x231, x232, x233, x234, x235, x236, x237, x238, x239, x240, x241, x242, x243, x244, x245, x246, x247, x248, x249, x250, x251, x252, x253, x254, x255, x256, x257, x258, x259, x260, x261, x262, x263, x264, x265, x266, x267, x268, x269, x270, x271, x272, x273, x274], []⟩ W1 := by
  conv => arg 2; whnf
  cases a' with
  | none =>
    have hm0 : m = 0 := hnil rfl
    subst hm0
    go_wp2_with fail
    go_meet
    case rel => exact ⟨none, 0, rfl, Below.refl _ _⟩
  | some ad =>
    obtain ⟨cs, hcs, hmk⟩ := make33 m (by omega) W1
    go_wp2_with fail
    go_loopw [13] (fun i wr => ∃ x : Nat, x ≤ m ∧ i = .int .i64 (x : Int) ∧ (∃ f, wr.rowIs W1.heap.size 36 (m * 11) f) ∧ Below W1.heap.size W1 wr) (fun i _ => m - (intOf i).toNat)
    case atStart =>
      refine ⟨0, Nat.zero_le _, rfl, ⟨fun i => cs.getD i undef, ?_⟩, (Below.refl _ _).alloc (Nat.le_refl _) _⟩
      have := World.rowIs_alloc W1 cs 36 (fun i => cs.getD i undef) (fun i hi => by simp [hi])
      rw [hcs] at this
      exact this
    case round =>
      clear hmk hcs
      obtain ⟨x, hx, rfl, ⟨f, hrow⟩, hbel⟩ := hrel
      by_cases hxn : x < m
      · obtain ⟨hm, hM⟩ := HM.out
        have hxM : x < M.length := by omega
        obtain ⟨b, o, ha, s0, s1, s2, s3, s4, s5, s6, s7, s8, s9, s10⟩ := attrsAt_below (attrsAt_below hM hb1) hbel x hxM
        obtain ⟨rfl⟩ : ad = ⟨b, o, none⟩ := by simpa using ha
        have e0 := hrow.cell (i := x * 11) (by omega)
        have e1 := hrow.cell (i := x * 11 + 1) (by omega)
        have e2 := hrow.cell (i := x * 11 + 2) (by omega)
        have e3 := hrow.cell (i := x * 11 + 3) (by omega)
        have e4 := hrow.cell (i := x * 11 + 4) (by omega)
        have e5 := hrow.cell (i := x * 11 + 5) (by omega)
        have e6 := hrow.cell (i := x * 11 + 6) (by omega)
        have e7 := hrow.cell (i := x * 11 + 7) (by omega)
        have e8 := hrow.cell (i := x * 11 + 8) (by omega)
        have e9 := hrow.cell (i := x * 11 + 9) (by omega)
        have e10 := hrow.cell (i := x * 11 + 10) (by omega)
        have g0 := hrow.frozen
        have HROW : Hid (wr.rowIs W1.heap.size 36 (m * 11) f) := hrow
        have hlt36 := hrow.lt
        clear hm hM ha hrow
        go_wp2_with fail
        refine ⟨⟨x + 1, by omega, by go_num, ?_, ?_⟩, by simp [intOf]; omega⟩
        · apply row_alloc
          repeat apply row_set
          exact ⟨f, HROW.out⟩
        · apply bel_alloc
          repeat apply bel_set
          exact hbel
      · go_wp2_with fail
        go_meet
        case rel => exact ⟨_, _, rfl, hbel⟩
end Go.Proofs.Qxb6617593a

/-
  The law's first copy: the roles.
-/
import Derived.Test.Qxb6617593aBase
import Derived.Deep.DeepCutAuto
import Derived.Deep.OwnRows
import Derived.RegionTactic
import Derived.BigRegion
import Derived.Laws.MakeOwn
import Derived.Test.Qxb6617593aSlices
namespace Go.Proofs.Qxb6617593a
open Go.RowKit Go.Maps

/-- The first k roles lie copied in block b. -/
def copied (w : World) (b n : Nat) (L : List Role) (k : Nat) : Prop :=
  ∃ f, w.rowIs b 32 (n * 2) f ∧ ∀ i, ∀ h : i < L.length, i < k → f (i * 2) = .int .i64 L[i].1 ∧ f (i * 2 + 1) = .string L[i].2
theorem copied_step {w : World} {b n k : Nat} {L : List Role} (h : copied w b n L k) (hk : k < L.length) :
    copied ((w.setCell ⟨b, k * 2, none⟩ (.int .i64 L[k].1)).setCell ⟨b, k * 2 + 1, none⟩ (.string L[k].2)) b n L (k + 1) := by
  obtain ⟨f, hr, hf⟩ := h
  refine ⟨_, (hr.set (k * 2) _).set (k * 2 + 1) _, fun i hi hik => ?_⟩
  by_cases e : i = k
  · subst e
    constructor
    · show (if i * 2 = i * 2 + 1 then _ else if i * 2 = i * 2 then _ else _) = _
      rw [if_neg (by omega), if_pos rfl]
    · show (if i * 2 + 1 = i * 2 + 1 then _ else _) = _
      rw [if_pos rfl]
  · have := hf i hi (by omega)
    constructor
    · show (if i * 2 = k * 2 + 1 then _ else if i * 2 = k * 2 then _ else _) = _
      rw [if_neg (by omega), if_neg (by omega)]; exact this.1
    · show (if i * 2 + 1 = k * 2 + 1 then _ else if i * 2 + 1 = k * 2 then _ else _) = _
      rw [if_neg (by omega), if_neg (by omega)]; exact this.2
theorem copied_roles {w : World} {b n : Nat} {L : List Role} (h : copied w b n L n) (hn : n = L.length) : rolesAt w (some ⟨b, 0, none⟩) L := by
  intro i hi
  obtain ⟨f, hr, hf⟩ := h
  obtain ⟨e0, e1⟩ := hf i hi (by omega)
  refine ⟨b, 0, rfl, ?_, ?_⟩
  · rw [Nat.zero_add, hr.cell (i := i * 2) (by omega), e0]
  · rw [Nat.zero_add, hr.cell (i := i * 2 + 1) (by omega), e1]
theorem copied_block {w w' : World} {b n k : Nat} {L : List Role} (h : copied w b n L k) (e : w'.heap[b]? = w.heap[b]?) : copied w' b n L k := by
  obtain ⟨f, hr, hf⟩ := h
  exact ⟨f, hr.of_block e, hf⟩
theorem info32 : (Try.prog.info? 32).map (fun i => (i.zero, i.size, i.bytes)) = some (some (.agg #[.int .i64 0, .string ⟨#[]⟩]), 2, 24) := by kernel_rfl
theorem info36 : (Try.prog.info? 36).map (fun i => (i.size, i.bytes, i.zero.isSome)) = some (11, 96, true) := by kernel_rfl
theorem make29 (n : Nat) (hn : n ≤ 4096) (w : World) : ∃ cs : Array Value, cs.size = n * 2 ∧ (Instr.makeSlice 29 (.int .i64 (n : Int)) (.int .i64 (n : Int))).run Try.prog w = .ok (.slice (some ⟨w.heap.size, 0, none⟩) n n) (w.alloc (.cells cs 32)) := by
  obtain ⟨i, hi, hz⟩ := Option.map_eq_some_iff.1 info32
  simp only [Prod.mk.injEq] at hz
  obtain ⟨hz, hs, hb⟩ := hz
  have := run_make (P := Try.prog) w 29 32 i _ Try.underlying29 hi hz .i64 .i64 n n (by omega) (Int.le_refl _) (by rw [hb]; omega) (by omega)
  rw [hs, Int.toNat_natCast] at this
  exact ⟨_, size_madeCells _ _, this⟩
theorem make33 (n : Nat) (hn : n ≤ 65536) (w : World) : ∃ cs : Array Value, cs.size = n * 11 ∧ (Instr.makeSlice 33 (.int .i64 (n : Int)) (.int .i64 (n : Int))).run Try.prog w = .ok (.slice (some ⟨w.heap.size, 0, none⟩) n n) (w.alloc (.cells cs 36)) := by
  obtain ⟨i, hi, hz⟩ := Option.map_eq_some_iff.1 info36
  simp only [Prod.mk.injEq] at hz
  obtain ⟨hs, hb, hz⟩ := hz
  obtain ⟨z, hz⟩ := Option.isSome_iff_exists.1 hz
  have := run_make (P := Try.prog) w 33 36 i z Try.underlying33 hi hz .i64 .i64 n n (by omega) (Int.le_refl _) (by rw [hb]; omega) (by omega)
  rw [hs, Int.toNat_natCast] at this
  exact ⟨_, size_madeCells _ _, this⟩

theorem seg_all (L : List Role) {n : Nat} (h : n = L.length) : seg L 0 n = L := by
  unfold seg; rw [List.drop_zero, List.take_of_length_le (by omega)]
theorem seg_take (L : List Role) (q : Nat) : seg L 0 q = L.take q := by
  unfold seg; rw [List.drop_zero]
theorem seg_drop (L : List Role) {n : Nat} (h : n = L.length) (q : Nat) : seg L q n = L.drop q := by
  unfold seg; rw [List.take_of_length_le (by omega)]
theorem has_rev (R : List Role) (a : Int) : hasR R.reverse a = hasR R a := by
  unfold hasR; rw [List.any_reverse]
theorem row_set {w : World} {b n : Nat} {t : TypeId} (h : ∃ f, w.rowIs b t n f) {i : Nat} {v : Value} : ∃ f, (w.setCell ⟨b, i, none⟩ v).rowIs b t n f := by
  obtain ⟨f, h⟩ := h; exact ⟨_, h.set i v⟩
theorem row_alloc {w : World} {b n : Nat} {t : TypeId} (h : ∃ f, w.rowIs b t n f) {o : Obj} : ∃ f, (w.alloc o).rowIs b t n f := by
  obtain ⟨f, h⟩ := h; exact ⟨_, h.alloc o⟩
theorem bel_set {w w' : World} (h : Below w.heap.size w w') {i : Nat} {v : Value} : Below w.heap.size w (w'.setCell ⟨w.heap.size, i, none⟩ v) := h.setCell (Nat.le_refl _) _
theorem bel_alloc {w w' : World} (h : Below w.heap.size w w') {o : Obj} : Below w.heap.size w (w'.alloc o) := h.alloc h.size o

/-- The condition on temporary t within a code. -/
def findCond (t : Nat) : Code → Option Code
  | .cond c a b => match c with
    | .tmp i => if i = t then some (.cond c a b) else match findCond t a with
      | some r => some r
      | none => findCond t b
    | _ => match findCond t a with
      | some r => some r
      | none => findCond t b
  | .seq a b => match findCond t a with
    | some r => some r
    | none => findCond t b
  | .block _ r => findCond t r
  | .loop r => findCond t r
  | .scope r => findCond t r
  | _ => none
noncomputable def copyRoles : Code := ((Try.f3.body.bind (findCond 124)).getD .skip)
noncomputable def copyAttrs : Code := ((Try.f3.body.bind (findCond 149)).getD .skip)

set_option maxRecDepth 100000 in
set_option maxHeartbeats 8000000 in
theorem copyRoles_wp {a : Option Addr} {n c : Nat} {L : List Role} {w' : World} (HL : Hid (n = L.length ∧ rolesAt w' a L ∧ okRoles L)) (hnil : a = none → n = 0) (hn4' : (n : Int) ≤ 4096) {x1 x2 x3 x4 x5 x6 x7 x8 x9 x11 x12 x13 x14 x15 x16 x17 x18 x19 x20 x21 x22 x23 x24 x25 x26 x27 x28 x29 x30 x31 x32 x33 x34 x35 x36 x37 x38 x39 x40 x41 x42 x43 x44 x45 x46 x47 x48 x49 x50 x51 x52 x53 x54 x55 x56 x57 x58 x59 x60 x61 x62 x63 x64 x65 x66 x67 x68 x69 x70 x71 x72 x73 x74 x75 x76 x77 x78 x79 x80 x81 x82 x83 x84 x85 x86 x87 x88 x89 x90 x91 x92 x93 x94 x95 x96 x97 x98 x99 x100 x101 x102 x103 x104 x105 x106 x107 x108 x109 x110 x111 x112 x113 x114 x115 x116 x117 x118 x119 x120 x121 x122 x123 x125 x126 x127 x128 x129 x130 x131 x132 x133 x134 x135 x136 x137 x138 x139 x140 x141 x142 x143 x144 x145 x146 x147 x148 x149 x150 x151 x152 x153 x154 x155 x156 x157 x158 x159 x160 x161 x162 x163 x164 x165 x166 x167 x168 x169 x170 x171 x172 x173 x174 x175 x176 x177 x178 x179 x180 x181 x182 x183 x184 x185 x186 x187 x188 x189 x190 x191 x192 x193 x194 x195 x196 x197 x198 x199 x200 x201 x202 x203 x204 x205 x206 x207 x208 x209 x210 x211 x212 x213 x214 x215 x216 x217 x218 x219 x220 x221 x222 x223 x224 x225 x226 x227 x228 x229 x230 x231 x232 x233 x234 x235 x236 x237 x238 x239 x240 x241 x242 x243 x244 x245 x246 x247 x248 x249 x250 x251 x252 x253 x254 x255 x256 x257 x258 x259 x260 x261 x262 x263 x264 x265 x266 x267 x268 x269 x270 x271 x272 x273 x274 : Value} {J K' : Act → World → Prop} {R0 : Ending → World → Prop}
    (hJ : ∀ (aj : Act) (wj : World), (∃ u10 u11 u26 u27 u28 u29 u30 u31 u32 u33 u34 u35 u36 u37 u38 u39 u40 u41 u42 u43 u44 u45 u46 u47 u48 u49 u50 u51 u52 u53 u54 u55 u56 u57 u58 u59 u60 u61 u62 u63 u64 u65 u66 u67 u68 u69 u70 u71 u72 u73 u74 u75 u76 u77 u78 u79 u80 u81 u82 u83 u84 u85 u86 u87 u88 u89 u90 u91 u92 u93 u94 u95 u96 u97 u98 u99 u100 u101 u102 u103 u104 u105 u106 u107 u108 u109 u110 u111 u112 u113 u114 u115 u116 u117 u118 u119 u120 u121 u122 u123 u124 u125 u126 u127 u128 u129 u130 u131 u132 u133 u134 u135 u136 u137 u138 u139 u140 u141 u142 u143 u144 u145 u146 u147 u148 u149 u150 u151 u152 u153 u154 u155 u156 u157 u158 u159 u160 u161 u162 u163 u164 u165 u166 u167 u168 u169 u170 u171 u172 u173 u174 u175 u176 u177 u178 u179 u180 u181 u182 u183 u184 u185 u186 u187 u188 u189 u190 u191 u192 u193 u194 u195 u196 u197 u198 u199 u200 u201 u202 u203 u204 u205 u206 u207 u208 u209 u210 u211 u212 u213 u214 u215 u216 u217 u218 u219 u220 u221 u222 u223 u224 u225 u226 u227 u228 u229 u230 u231 u232 u233 u234 u235 u236 u237 u238 u239 u240 u241 u242 u243 u244 u245 u246 u247 u248 u249 u250 u251 u252 u253 u254 u255 u256 u257 u258 u259 u260 u261 u262 u263 u264 u265 u266 u267 u268 u269 u270 u271 u272 u273 u274 : Value, (∃ (a1 : Option Addr) (c1 : Nat), u10 = .slice a1 n c1 ∧ n ≤ c1 ∧ c1 ≤ 4096 ∧ rolesAt wj a1 L ∧ Below w'.heap.size w' wj) ∧ aj = ⟨#[.slice a n c, x1, x2, x3, x4, x5, x6, x7, x8, x9, u10, u11, x12, x13, x14, x15, x16, x17, x18, x19, x20, x21, x22, x23, x24, x25, u26, u27, u28, u29, u30, u31, u32, u33, u34, u35, u36, u37, u38, u39, u40, u41, u42, u43, u44, u45, u46, u47, u48, u49, u50, u51, u52, u53, u54, u55, u56, u57, u58, u59, u60, u61, u62, u63, u64, u65, u66, u67, u68, u69, u70, u71, u72, u73, u74, u75, u76, u77, u78, u79, u80, u81, u82, u83, u84, u85, u86, u87, u88, u89, u90, u91, u92, u93, u94, u95, u96, u97, u98, u99, u100, u101, u102, u103, u104, u105, u106, u107, u108, u109, u110, u111, u112, u113, u114, u115, u116, u117, u118, u119, u120, u121, u122, u123, u124, u125, u126, u127, u128, u129, u130, u131, u132, u133, u134, u135, u136, u137, u138, u139, u140, u141, u142, u143, u144, u145, u146, u147, u148, u149, u150, u151, u152, u153, u154, u155, u156, u157, u158, u159, u160, u161, u162, u163, u164, u165, u166, u167, u168, u169, u170, u171, u172, u173, u174, u175, u176, u177, u178, u179, u180, u181, u182, u183, u184, u185, u186, u187, u188, u189, u190, u191, u192, u193, u194, u195, u196, u197, u198, u199, u200, u201, u202, u203, u204, u205, u206, u207, u208, u209, u210, u211, u212, u213, u214, u215, u216, u217, u218, u219, u220, u221, u222, u223, u224, u225, u226, u227, u228, u229, u230, u231, u232, u233, u234, u235, u236, u237, u238, u239, u240, u241, u242, u243, u244, u245, u246, u247, u248, u249, u250, u251, u252, u253, u254, u255, u256, u257, u258, u259, u260, u261, u262, u263, u264, u265, u266, u267, u268, u269, u270, u271, u272, u273, u274], []⟩) → J aj wj)
    (hMt : ∀ (am : Act) (wm : World), Met J am wm → K' am wm) :
    Code.wp Try.prog copyRoles (Exit.then K' (bodyPost Try.prog Try.f3 R0)) ⟨#[.slice a n c, x1, x2, x3, x4, x5, x6, x7, x8, x9, .slice none 0 0, x11, x12, x13, x14, x15, x16, x17, x18, x19, x20, x21, x22, x23, x24, x25, x26, x27, x28, x29, x30, x31, x32, x33, x34, x35, x36, x37, x38, x39, x40, x41, x42, x43, x44, x45, x46, x47, x48, x49, x50, x51, x52, x53, x54, x55, x56, x57, x58, x59, x60, x61, x62, x63, x64, x65, x66, x67, x68, x69, x70, x71, x72, x73, x74, x75, x76, x77, x78, x79, x80, x81, x82, x83, x84, x85, x86, x87, x88, x89, x90, x91, x92, x93, x94, x95, x96, x97, x98, x99, x100, x101, x102, x103, x104, x105, x106, x107, x108, x109, x110, x111, x112, x113, x114, x115, x116, x117, x118, x119, x120, x121, x122, x123, .bool a.isSome, x125, x126, x127, x128, x129, x130, x131, x132, x133, x134, x135, x136, x137, x138, x139, x140, x141, x142, x143, x144, x145, x146, x147, x148, x149, x150, x151, x152, x153, x154, x155, x156, x157, x158, x159, x160, x161, x162, x163, x164, x165, x166, x167, x168, x169, x170, x171, x172, x173, x174, x175, x176, x177, x178, x179, x180, x181, x182, x183, x184, x185, x186, x187, x188, x189, x190, x191, x192, x193, x194, x195, x196, x197, x198, x199, x200, x201, x202, x203, x204, x205, x206, x207, x208, x209, x210, x211, x212, x213, x214, x215, x216, x217, x218, x219, x220, x221, x222, x223, x224, x225, x226, x227, x228, x229, x230, x231, x232, x233, x234, x235, x236, x237, x238, x239, x240, x241, x242, x243, x244, x245, x246, x247, x248, x249, x250, x251, x252, x253, x254, x255, x256, x257, x258, x259, x260, x261, x262, x263, x264, x265, x266, x267, x268, x269, x270, x271, x272, x273, x274], []⟩ w' := by
  conv => arg 2; whnf
  cases a with
  | none =>
    have hn0 : n = 0 := hnil rfl
    subst hn0
    go_wp2_with fail
    go_meet
    case rel => exact ⟨none, 0, rfl, Nat.le_refl _, Nat.zero_le _, fun i hi => by have := HL.out.1; omega, Below.refl _ _⟩
  | some ad =>
    obtain ⟨cs, hcs, hmk⟩ := make29 n (by omega) w'
    go_wp2_with fail
    go_loopw [11] (fun i wr => ∃ x : Nat, x ≤ n ∧ i = .int .i64 (x : Int) ∧ copied wr w'.heap.size n L x ∧ Below w'.heap.size w' wr) (fun i _ => n - (intOf i).toNat)
    case atStart =>
      refine ⟨0, Nat.zero_le _, rfl, ⟨fun i => cs.getD i undef, ?_, fun i _ h => absurd h (Nat.not_lt_zero _)⟩, (Below.refl _ _).alloc (Nat.le_refl _) _⟩
      have := World.rowIs_alloc w' cs 32 (fun i => cs.getD i undef) (fun i hi => by simp [hi])
      rw [hcs] at this
      exact this
    case round =>
      clear hmk hcs
      obtain ⟨x, hx, rfl, hcop, hbel⟩ := hrel
      by_cases hxn : x < n
      · obtain ⟨hn, hL, hok⟩ := HL.out
        have hxL : x < L.length := by omega
        obtain ⟨b, o, ha, c0, c1⟩ := rolesAt_below hL hbel x hxL
        obtain ⟨rfl⟩ : ad = ⟨b, o, none⟩ := by simpa using ha
        obtain ⟨f, hrow, hf⟩ := hcop
        have e0 := hrow.cell (i := x * 2) (by omega)
        have e1 := hrow.cell (i := x * 2 + 1) (by omega)
        have g0 := hrow.frozen (x * 2)
        have g1 := hrow.frozen (x * 2 + 1)
        have HCOP : Hid (copied wr w'.heap.size n L x) := ⟨f, hrow, hf⟩
        have hbn : ¬ b = w'.heap.size := by have := hL x hxL; obtain ⟨b2, o2, e, c2, _⟩ := this; have := cell_lt c2; simp at e; omega
        clear hn hL hok ha hf hrow
        go_wp2_with fail
        go_region
        go_wp2_with fail
        exact ⟨⟨x + 1, by omega, by go_num, copied_step HCOP.out hxL, ((hbel.setCell (Nat.le_refl _) _).setCell (Nat.le_refl _) _).drew⟩, by simp [intOf]; omega⟩
      · have hxe : x = n := by omega
        subst hxe
        go_wp2_with fail
        go_meet
        case rel => exact ⟨_, _, rfl, Nat.le_refl _, by omega, copied_roles hcop HL.out.1, hbel⟩
end Go.Proofs.Qxb6617593a

/- blockGeneric: a word behind the first sixteen. -/
import Derived.Test.YtkmjjoffamdnfaaGreatDoorMi04
import Derived.Deep.CutBlock
import Derived.Deep.DeepCutAuto
import Derived.Deep.RegionHeld3
import Derived.Deep.DrawnRows
import Derived.BigRegion
import Derived.StillTailTactics
namespace Go.Proofs.YtkmjjoffamdnfaaGreatDoor
open Go.RowKit
set_option maxRecDepth 1000000
attribute [local go_sem ↓] Go.wp_at_zero Go.wp_at_succ
attribute [local irreducible] Sha.sched
set_option maxHeartbeats 60000000 in
theorem bgWayB (x0 x2 x3 x5 x6 x7 x8 x9 x10 x11 x12 x13 x14 x15 x16 x17 x18 x19 x20 x22 x23 x24 x25 x26 x27 x28 x29 x30 x31 x32 x33 x34 x35 x36 x37 x38 x39 x40 x41 x42 x43 x44 x45 x46 x47 x48 x49 x50 x51 x52 x53 x54 x55 x56 x57 x58 x59 x60 x61 x62 x63 x64 x65 x66 x67 x68 x69 x70 x71 x72 x73 x74 x75 x76 x77 x78 x79 x80 x81 x82 x83 x85 x86 x87 x88 x89 x90 x91 x92 x93 x94 x95 x96 x97 x98 x99 x100 x101 x102 x103 x104 x105 x106 x107 x108 x109 x110 x111 x112 x113 x114 x115 x116 x117 x118 x119 x120 x121 x122 x123 x124 x125 x126 x127 x128 x129 x130 x131 x132 x133 x134 x135 x136 x137 x138 x139 x140 x141 x142 x143 x144 x145 x146 x147 x148 x149 x150 x151 x152 x153 x154 x155 x156 x157 x158 x159 x160 x161 x162 x163 x164 x165 x166 x167 x168 x169 x170 x171 x172 x173 x174 x175 x176 x177 x178 x179 x180 x181 x182 x183 x184 x185 x186 x187 x188 x189 x190 x191 x192 x193 x194 x195 x196 x197 x198 x199 x200 x201 x202 x203 x204 x205 x206 x207 x208 x209 x210 x211 x212 x213 x214 x215 x216 x217 x218 x219 x220 x221 x222 x223 x224 x225 x226 x227 x228 x229 x230 x231 x232 x233 x234 x235 x236 x237 x238 x239 x240 x241 x242 x243 x244 x245 x246 x247 x248 x249 x250 x251 x252 x253 x254 x255 x256 x257 x258 x259 x260 x261 x262 x263 x264 x265 x266 x267 x268 x269 x270 x271 x272 x273 x274 x275 x276 x277 x278 x279 x280 x281 x282 : Value) {wr : World} {gw i n' c' : Nat} {A' : Option Addr} {lb lx : List UInt8} {WL : List Nat} {J : Act → World → Prop} {Q : Exit → Act → World → Prop} (hi64 : i < 64) (h16 : ¬ i < 16)
    (HWL : Hid (WL.length = 64)) (HP : Hid (Sha.Pre WL lb i)) (KW : Hid (Blk wr gw 100 (u32s WL).toArray))
    (hJ : ∀ (u22 u23 u24 u25 u26 u85 u86 u87 u88 u89 u90 u91 u92 u93 u94 u95 u96 u97 u98 u99 u100 u101 u102 u103 u104 u105 u106 u107 u108 u109 u110 u111 u112 u113 u114 u115 u116 u117 u118 u119 u120 u121 u122 u123 u124 u125 u126 u127 u128 u129 u130 u131 u132 u133 u134 u135 u136 u137 u138 u139 u140 u141 u142 u143 u144 u145 u146 u147 u148 u149 u150 u151 u152 u153 u154 u155 u156 : Value) (wx : World), (∃ WL : List Nat, Hid (WL.length = 64) ∧ Hid (Sha.Pre WL lb (i + 1)) ∧ Hid (Blk wx gw 100 (u32s WL).toArray) ∧ Hid (wr.grownBy wx (some gw))) → J ⟨#[x0, .slice A' n' c', x2, x3, .pointer (some ⟨gw, 0, none⟩), x5, x6, x7, x8, x9, x10, x11, x12, x13, x14, x15, x16, x17, x18, x19, x20, .int .i64 (i : Int), u22, u23, u24, u25, u26, x27, x28, x29, x30, x31, x32, x33, x34, x35, x36, x37, x38, x39, x40, x41, x42, x43, x44, x45, x46, x47, x48, x49, x50, x51, x52, x53, x54, x55, x56, x57, x58, x59, x60, x61, x62, x63, x64, x65, x66, x67, x68, x69, x70, x71, x72, x73, x74, x75, x76, x77, x78, x79, x80, x81, x82, x83, .bool false, u85, u86, u87, u88, u89, u90, u91, u92, u93, u94, u95, u96, u97, u98, u99, u100, u101, u102, u103, u104, u105, u106, u107, u108, u109, u110, u111, u112, u113, u114, u115, u116, u117, u118, u119, u120, u121, u122, u123, u124, u125, u126, u127, u128, u129, u130, u131, u132, u133, u134, u135, u136, u137, u138, u139, u140, u141, u142, u143, u144, u145, u146, u147, u148, u149, u150, u151, u152, u153, u154, u155, u156, x157, x158, x159, x160, x161, x162, x163, x164, x165, x166, x167, x168, x169, x170, x171, x172, x173, x174, x175, x176, x177, x178, x179, x180, x181, x182, x183, x184, x185, x186, x187, x188, x189, x190, x191, x192, x193, x194, x195, x196, x197, x198, x199, x200, x201, x202, x203, x204, x205, x206, x207, x208, x209, x210, x211, x212, x213, x214, x215, x216, x217, x218, x219, x220, x221, x222, x223, x224, x225, x226, x227, x228, x229, x230, x231, x232, x233, x234, x235, x236, x237, x238, x239, x240, x241, x242, x243, x244, x245, x246, x247, x248, x249, x250, x251, x252, x253, x254, x255, x256, x257, x258, x259, x260, x261, x262, x263, x264, x265, x266, x267, x268, x269, x270, x271, x272, x273, x274, x275, x276, x277, x278, x279, x280, x281, x282], []⟩ wx) :
    Code.wp Tryz.prog bgIf (Exit.then J Q) ⟨#[x0, .slice A' n' c', x2, x3, .pointer (some ⟨gw, 0, none⟩), x5, x6, x7, x8, x9, x10, x11, x12, x13, x14, x15, x16, x17, x18, x19, x20, .int .i64 (i : Int), x22, x23, x24, x25, x26, x27, x28, x29, x30, x31, x32, x33, x34, x35, x36, x37, x38, x39, x40, x41, x42, x43, x44, x45, x46, x47, x48, x49, x50, x51, x52, x53, x54, x55, x56, x57, x58, x59, x60, x61, x62, x63, x64, x65, x66, x67, x68, x69, x70, x71, x72, x73, x74, x75, x76, x77, x78, x79, x80, x81, x82, x83, .bool false, x85, x86, x87, x88, x89, x90, x91, x92, x93, x94, x95, x96, x97, x98, x99, x100, x101, x102, x103, x104, x105, x106, x107, x108, x109, x110, x111, x112, x113, x114, x115, x116, x117, x118, x119, x120, x121, x122, x123, x124, x125, x126, x127, x128, x129, x130, x131, x132, x133, x134, x135, x136, x137, x138, x139, x140, x141, x142, x143, x144, x145, x146, x147, x148, x149, x150, x151, x152, x153, x154, x155, x156, x157, x158, x159, x160, x161, x162, x163, x164, x165, x166, x167, x168, x169, x170, x171, x172, x173, x174, x175, x176, x177, x178, x179, x180, x181, x182, x183, x184, x185, x186, x187, x188, x189, x190, x191, x192, x193, x194, x195, x196, x197, x198, x199, x200, x201, x202, x203, x204, x205, x206, x207, x208, x209, x210, x211, x212, x213, x214, x215, x216, x217, x218, x219, x220, x221, x222, x223, x224, x225, x226, x227, x228, x229, x230, x231, x232, x233, x234, x235, x236, x237, x238, x239, x240, x241, x242, x243, x244, x245, x246, x247, x248, x249, x250, x251, x252, x253, x254, x255, x256, x257, x258, x259, x260, x261, x262, x263, x264, x265, x266, x267, x268, x269, x270, x271, x272, x273, x274, x275, x276, x277, x278, x279, x280, x281, x282], []⟩ wr := by
  conv => arg 2; whnf
  obtain ⟨kk, hkk⟩ : ∃ kk, i = kk + 16 := ⟨i - 16, by omega⟩
  subst hkk
  have hk48 : kk < 48 := by omega
  have hcell : ∀ j, (h : j < kk + 16) → wr.cell? ⟨gw, j, none⟩ = some (.int .u32 (((Sha.sched lb 48).getD j 0 : Nat) : Int)) := fun j hj => by
    have hj' : j < WL.length := by rw [HWL.out]; omega
    rw [wCell KW.out (k := j) hj', ← HP.out j hj]
    simp [List.getD, hj']
  have x0 := hcell kk (by omega)
  have x9 := hcell (kk + 9) (by omega)
  have x1 := hcell (kk + 1) (by omega)
  have x14 := hcell (kk + 14) (by omega)
  have m0 := sched_all_small (b := lb) kk
  have m9 := sched_all_small (b := lb) (kk + 9)
  have m1 := sched_all_small (b := lb) (kk + 1)
  have m14 := sched_all_small (b := lb) (kk + 14)
  have HN := Lib.hid (sched_high (b := lb) hk48)
  clear hcell
  have hst0 : ∃ u, wr.cell? ⟨gw, kk + 16, none⟩ = some u := ⟨_, wCell KW.out (k := kk + 16) (by rw [HWL.out]; omega)⟩
  generalize (Sha.sched lb 48).getD kk 0 = a0 at *
  generalize (Sha.sched lb 48).getD (kk + 9) 0 = a9 at *
  generalize (Sha.sched lb 48).getD (kk + 1) 0 = a1 at *
  generalize (Sha.sched lb 48).getD (kk + 14) 0 = a14 at *
  obtain ⟨dv, hst⟩ := hst0
  have hfree := KW.out.free (kk + 16)
  have e16 : ((kk + 16 : Nat) : Int) = (kk : Int) + 16 := by omega
  rw [e16]
  have Hh16 := Lib.hid h16
  clear h16 e16 hi64
  have v15 : IntKind.i64.wrap ((kk : Int) + 16 - 15) = (kk : Int) + 1 := by rw [IntKind.wrap_i64]; omega
  have v2 : IntKind.i64.wrap ((kk : Int) + 16 - 2) = (kk : Int) + 14 := by rw [IntKind.wrap_i64]; omega
  have v16 : IntKind.i64.wrap ((kk : Int) + 16 - 16) = (kk : Int) := by rw [IntKind.wrap_i64]; omega
  have v7 : IntKind.i64.wrap ((kk : Int) + 16 - 7) = (kk : Int) + 9 := by rw [IntKind.wrap_i64]; omega
  have vk : IntKind.i64.wrap (kk : Int) = (kk : Int) := by rw [IntKind.wrap_i64]; omega
  have vk9 : IntKind.i64.wrap ((kk : Int) + 9) = (kk : Int) + 9 := by rw [IntKind.wrap_i64]; omega
  have u0 : (0 : Int) ≤ (kk : Int) := by omega
  have u1 : (0 : Int) ≤ (kk : Int) + 1 := by omega
  have u9 : (0 : Int) ≤ (kk : Int) + 9 := by omega
  have u14 : (0 : Int) ≤ (kk : Int) + 14 := by omega
  have u16 : (0 : Int) ≤ (kk : Int) + 16 := by omega
  have q0 : (kk : Int) < 64 := by omega
  have q1 : (kk : Int) + 1 < 64 := by omega
  have q9 : (kk : Int) + 9 < 64 := by omega
  have q14 : (kk : Int) + 14 < 64 := by omega
  have q16 : (kk : Int) + 16 < 64 := by omega
  have t1 : ((kk : Int) + 1).toNat = kk + 1 := by omega
  have t9 : ((kk : Int) + 9).toNat = kk + 9 := by omega
  have t14 : ((kk : Int) + 14).toNat = kk + 14 := by omega
  have t16 : ((kk : Int) + 16).toNat = kk + 16 := by omega
  go_wp2_with fail
  refine (rl17 _ m14).mono ?_
  rintro e we ⟨rfl, hwe⟩
  subst hwe
  go_wp2_with fail
  refine (rl19 _ m14).mono ?_
  rintro e we ⟨rfl, hwe⟩
  subst hwe
  go_wp2_with fail
  refine (rl7 _ m1).mono ?_
  rintro e we ⟨rfl, hwe⟩
  subst hwe
  go_wp2_with fail
  refine (rl18 _ m1).mono ?_
  rintro e we ⟨rfl, hwe⟩
  subst hwe
  go_wp2_with fail
  have y0 := keepD x0
  have y9 := keepD x9
  go_region_held3 (fun W => W.cell? ⟨gw, kk, none⟩ = some (.int .u32 (a0 : Int)) ∧ W.cell? ⟨gw, kk + 9, none⟩ = some (.int .u32 (a9 : Int))) (first | exact ⟨y0, y9⟩ | exact keepV (by omega) (by omega) y0 y9) (fail)
  go_wp2_with fail
  have hv := nextL_val (a0 := a0) (a9 := a9) m1 m14
  exact ⟨WL.set (kk + 16) _, Lib.hid (by rw [List.length_set]; exact HWL.out), Lib.hid (HP.out.set (by rw [HWL.out]; omega) HN.out.symm), Lib.hid (Blk.drew (wSet (k := kk + 16) KW.out hv)), Lib.hid (grown_drew (grown_setCell (grown_refl _ (some gw)) (p := ⟨gw, kk + 16, none⟩) (.inl rfl) _))⟩
end Go.Proofs.YtkmjjoffamdnfaaGreatDoor

/- blockGeneric: a word of the first sixteen. -/
import Derived.Test.YtkmjjoffamdnfaaGreatDoorMi04
import Derived.Deep.CutBlock
import Derived.Deep.DeepCutAuto
import Derived.Deep.RegionHeld3
import Derived.Deep.DrawnRows
import Derived.BigRegion
import Derived.StillTailTactics
namespace Go.Proofs.YtkmjjoffamdnfaaGreatDoor
open Go.RowKit
set_option maxRecDepth 1000000
attribute [local go_sem ↓] Go.wp_at_zero Go.wp_at_succ
attribute [local irreducible] Sha.sched
set_option maxHeartbeats 60000000 in
theorem bgWayA (x0 x2 x3 x5 x6 x7 x8 x9 x10 x11 x12 x13 x14 x15 x16 x17 x18 x19 x20 x22 x23 x24 x25 x26 x27 x28 x29 x30 x31 x32 x33 x34 x35 x36 x37 x38 x39 x40 x41 x42 x43 x44 x45 x46 x47 x48 x49 x50 x51 x52 x53 x54 x55 x56 x57 x58 x59 x60 x61 x62 x63 x64 x65 x66 x67 x68 x69 x70 x71 x72 x73 x74 x75 x76 x77 x78 x79 x80 x81 x82 x83 x85 x86 x87 x88 x89 x90 x91 x92 x93 x94 x95 x96 x97 x98 x99 x100 x101 x102 x103 x104 x105 x106 x107 x108 x109 x110 x111 x112 x113 x114 x115 x116 x117 x118 x119 x120 x121 x122 x123 x124 x125 x126 x127 x128 x129 x130 x131 x132 x133 x134 x135 x136 x137 x138 x139 x140 x141 x142 x143 x144 x145 x146 x147 x148 x149 x150 x151 x152 x153 x154 x155 x156 x157 x158 x159 x160 x161 x162 x163 x164 x165 x166 x167 x168 x169 x170 x171 x172 x173 x174 x175 x176 x177 x178 x179 x180 x181 x182 x183 x184 x185 x186 x187 x188 x189 x190 x191 x192 x193 x194 x195 x196 x197 x198 x199 x200 x201 x202 x203 x204 x205 x206 x207 x208 x209 x210 x211 x212 x213 x214 x215 x216 x217 x218 x219 x220 x221 x222 x223 x224 x225 x226 x227 x228 x229 x230 x231 x232 x233 x234 x235 x236 x237 x238 x239 x240 x241 x242 x243 x244 x245 x246 x247 x248 x249 x250 x251 x252 x253 x254 x255 x256 x257 x258 x259 x260 x261 x262 x263 x264 x265 x266 x267 x268 x269 x270 x271 x272 x273 x274 x275 x276 x277 x278 x279 x280 x281 x282 : Value) {wr : World} {gw i n' c' : Nat} {A' : Option Addr} {lb lx : List UInt8} {WL : List Nat} {J : Act → World → Prop} {Q : Exit → Act → World → Prop} (hi64 : i < 64) (h16 : i < 16) (HB : Hid (Bs wr gw (.slice A' n' c') lx)) (hn64 : 64 ≤ n') (hlx : 64 ≤ lx.length) (Hlb : Hid (lb = lx.take 64))
    (HWL : Hid (WL.length = 64)) (HP : Hid (Sha.Pre WL lb i)) (KW : Hid (Blk wr gw 100 (u32s WL).toArray))
    (hJ : ∀ (u22 u23 u24 u25 u26 u85 u86 u87 u88 u89 u90 u91 u92 u93 u94 u95 u96 u97 u98 u99 u100 u101 u102 u103 u104 u105 u106 u107 u108 u109 u110 u111 u112 u113 u114 u115 u116 u117 u118 u119 u120 u121 u122 u123 u124 u125 u126 u127 u128 u129 u130 u131 u132 u133 u134 u135 u136 u137 u138 u139 u140 u141 u142 u143 u144 u145 u146 u147 u148 u149 u150 u151 u152 u153 u154 u155 u156 : Value) (wx : World), (∃ WL : List Nat, Hid (WL.length = 64) ∧ Hid (Sha.Pre WL lb (i + 1)) ∧ Hid (Blk wx gw 100 (u32s WL).toArray) ∧ Hid (wr.grownBy wx (some gw))) → J ⟨#[x0, .slice A' n' c', x2, x3, .pointer (some ⟨gw, 0, none⟩), x5, x6, x7, x8, x9, x10, x11, x12, x13, x14, x15, x16, x17, x18, x19, x20, .int .i64 (i : Int), u22, u23, u24, u25, u26, x27, x28, x29, x30, x31, x32, x33, x34, x35, x36, x37, x38, x39, x40, x41, x42, x43, x44, x45, x46, x47, x48, x49, x50, x51, x52, x53, x54, x55, x56, x57, x58, x59, x60, x61, x62, x63, x64, x65, x66, x67, x68, x69, x70, x71, x72, x73, x74, x75, x76, x77, x78, x79, x80, x81, x82, x83, .bool true, u85, u86, u87, u88, u89, u90, u91, u92, u93, u94, u95, u96, u97, u98, u99, u100, u101, u102, u103, u104, u105, u106, u107, u108, u109, u110, u111, u112, u113, u114, u115, u116, u117, u118, u119, u120, u121, u122, u123, u124, u125, u126, u127, u128, u129, u130, u131, u132, u133, u134, u135, u136, u137, u138, u139, u140, u141, u142, u143, u144, u145, u146, u147, u148, u149, u150, u151, u152, u153, u154, u155, u156, x157, x158, x159, x160, x161, x162, x163, x164, x165, x166, x167, x168, x169, x170, x171, x172, x173, x174, x175, x176, x177, x178, x179, x180, x181, x182, x183, x184, x185, x186, x187, x188, x189, x190, x191, x192, x193, x194, x195, x196, x197, x198, x199, x200, x201, x202, x203, x204, x205, x206, x207, x208, x209, x210, x211, x212, x213, x214, x215, x216, x217, x218, x219, x220, x221, x222, x223, x224, x225, x226, x227, x228, x229, x230, x231, x232, x233, x234, x235, x236, x237, x238, x239, x240, x241, x242, x243, x244, x245, x246, x247, x248, x249, x250, x251, x252, x253, x254, x255, x256, x257, x258, x259, x260, x261, x262, x263, x264, x265, x266, x267, x268, x269, x270, x271, x272, x273, x274, x275, x276, x277, x278, x279, x280, x281, x282], []⟩ wx) :
    Code.wp Tryz.prog bgIf (Exit.then J Q) ⟨#[x0, .slice A' n' c', x2, x3, .pointer (some ⟨gw, 0, none⟩), x5, x6, x7, x8, x9, x10, x11, x12, x13, x14, x15, x16, x17, x18, x19, x20, .int .i64 (i : Int), x22, x23, x24, x25, x26, x27, x28, x29, x30, x31, x32, x33, x34, x35, x36, x37, x38, x39, x40, x41, x42, x43, x44, x45, x46, x47, x48, x49, x50, x51, x52, x53, x54, x55, x56, x57, x58, x59, x60, x61, x62, x63, x64, x65, x66, x67, x68, x69, x70, x71, x72, x73, x74, x75, x76, x77, x78, x79, x80, x81, x82, x83, .bool true, x85, x86, x87, x88, x89, x90, x91, x92, x93, x94, x95, x96, x97, x98, x99, x100, x101, x102, x103, x104, x105, x106, x107, x108, x109, x110, x111, x112, x113, x114, x115, x116, x117, x118, x119, x120, x121, x122, x123, x124, x125, x126, x127, x128, x129, x130, x131, x132, x133, x134, x135, x136, x137, x138, x139, x140, x141, x142, x143, x144, x145, x146, x147, x148, x149, x150, x151, x152, x153, x154, x155, x156, x157, x158, x159, x160, x161, x162, x163, x164, x165, x166, x167, x168, x169, x170, x171, x172, x173, x174, x175, x176, x177, x178, x179, x180, x181, x182, x183, x184, x185, x186, x187, x188, x189, x190, x191, x192, x193, x194, x195, x196, x197, x198, x199, x200, x201, x202, x203, x204, x205, x206, x207, x208, x209, x210, x211, x212, x213, x214, x215, x216, x217, x218, x219, x220, x221, x222, x223, x224, x225, x226, x227, x228, x229, x230, x231, x232, x233, x234, x235, x236, x237, x238, x239, x240, x241, x242, x243, x244, x245, x246, x247, x248, x249, x250, x251, x252, x253, x254, x255, x256, x257, x258, x259, x260, x261, x262, x263, x264, x265, x266, x267, x268, x269, x270, x271, x272, x273, x274, x275, x276, x277, x278, x279, x280, x281, x282], []⟩ wr := by
  conv => arg 2; whnf
  obtain ⟨A2, n2, c2, he2, hn2, hc2, hcell⟩ := HB.out.cells'
  injection he2 with e1 e2 e3
  subst e1 e2 e3
  clear hn2 hc2
  obtain ⟨gb, ob, rfl, hgb, hcell⟩ := hcell (by omega)
  have hne : gb ≠ gw := by omega
  have hold : ∀ j, (h : j < 64) → wr.cell? ⟨gb, ob + j, none⟩ = some (.int .u8 (((lb.getD j 0).toNat : Nat) : Int)) := fun j hj => (hcell j (by omega)).trans (by
    have hj' : j < lx.length := by omega
    rw [Hlb.out, List.getD_eq_getElem?_getD, List.getElem?_take_of_lt hj, List.getElem?_eq_getElem hj']
    rfl)
  have hd : ∀ j, (lb.getD j 0).toNat ≤ 255 := fun j => by have := UInt8.toNat_lt (lb.getD j 0); omega
  have hd0 := hd (4 * i)
  have hd1 := hd (4 * i + 1)
  have hd2 := hd (4 * i + 2)
  have hd3 := hd (4 * i + 3)
  have x0 := hold (4 * i) (by omega)
  have x1 := hold (4 * i + 1) (by omega)
  have x2 := hold (4 * i + 2) (by omega)
  have x3 := hold (4 * i + 3) (by omega)
  have HW := Lib.hid (show Sha.word lb i = (lb.getD (4 * i) 0).toNat * 16777216 + (lb.getD (4 * i + 1) 0).toNat * 65536 + (lb.getD (4 * i + 2) 0).toNat * 256 + (lb.getD (4 * i + 3) 0).toNat from rfl)
  have HS := Lib.hid (sched_low (b := lb) h16).symm
  clear hd hold hcell
  generalize (lb.getD (4 * i) 0).toNat = d0 at *
  generalize (lb.getD (4 * i + 1) 0).toNat = d1 at *
  generalize (lb.getD (4 * i + 2) 0).toNat = d2 at *
  generalize (lb.getD (4 * i + 3) 0).toNat = d3 at *
  have hk0 : (0 : Int) ≤ (i : Int) := by omega
  have hk64 : (i : Int) < 64 := by omega
  have hk16 : (i : Int) < 16 := by omega
  obtain ⟨q, hq⟩ : ∃ q, q = 4 * i := ⟨_, rfl⟩
  rw [← hq] at x0 x1 x2 x3
  have hq0 : (0 : Int) ≤ (q : Int) := by omega
  have hq3 : (q : Int) + 3 < (n' : Int) := by omega
  have hq2 : (q : Int) + 2 < (n' : Int) := by omega
  have hq1 : (q : Int) + 1 < (n' : Int) := by omega
  have hq00 : (q : Int) < (n' : Int) := by omega
  have v0 : IntKind.i64.wrap ((i : Int) * 4) = (q : Int) := by rw [IntKind.wrap_i64]; omega
  have v1 : IntKind.i64.wrap ((q : Int) + 1) = (q : Int) + 1 := by rw [IntKind.wrap_i64]; omega
  have v2 : IntKind.i64.wrap ((q : Int) + 2) = (q : Int) + 2 := by rw [IntKind.wrap_i64]; omega
  have v3 : IntKind.i64.wrap ((q : Int) + 3) = (q : Int) + 3 := by rw [IntKind.wrap_i64]; omega
  have u1 : (0 : Int) ≤ (q : Int) + 1 := by omega
  have u2 : (0 : Int) ≤ (q : Int) + 2 := by omega
  have u3 : (0 : Int) ≤ (q : Int) + 3 := by omega
  have t1 : ((q : Int) + 1).toNat = q + 1 := by omega
  have t2 : ((q : Int) + 2).toNat = q + 2 := by omega
  have t3 : ((q : Int) + 3).toNat = q + 3 := by omega
  obtain ⟨dv, hst⟩ : ∃ u, wr.cell? ⟨gw, i, none⟩ = some u := ⟨_, wCell KW.out (by rw [HWL.out]; omega)⟩
  have hfree := KW.out.free i
  have hN0 := fun W : World => byteAt W gb ob n' c' q (x := (q : Int)) rfl (by omega)
  have hN1 := fun W : World => byteAt W gb ob n' c' (q + 1) (x := (q : Int) + 1) (by omega) (by omega)
  have hN2 := fun W : World => byteAt W gb ob n' c' (q + 2) (x := (q : Int) + 2) (by omega) (by omega)
  have hN3 := fun W : World => byteAt W gb ob n' c' (q + 3) (x := (q : Int) + 3) (by omega) (by omega)
  have Hi := Lib.hid (And.intro hq h16)
  clear hq hn64 h16 hlx
  go_wp2_with fail
  have y0 : wr.drew.cell? ⟨gb, ob + q, none⟩ = some (.int .u8 (d0 : Int)) := x0
  have y1 : wr.drew.cell? ⟨gb, ob + (q + 1), none⟩ = some (.int .u8 (d1 : Int)) := x1
  have y2 : wr.drew.cell? ⟨gb, ob + (q + 2), none⟩ = some (.int .u8 (d2 : Int)) := x2
  have y3 : wr.drew.cell? ⟨gb, ob + (q + 3), none⟩ = some (.int .u8 (d3 : Int)) := x3
  go_region_held3 (fun W => W.cell? ⟨gb, ob + q, none⟩ = some (.int .u8 (d0 : Int)) ∧ W.cell? ⟨gb, ob + (q + 1), none⟩ = some (.int .u8 (d1 : Int)) ∧ W.cell? ⟨gb, ob + (q + 2), none⟩ = some (.int .u8 (d2 : Int)) ∧ W.cell? ⟨gb, ob + (q + 3), none⟩ = some (.int .u8 (d3 : Int))) (with_reducible first | exact ⟨y0, y1, y2, y3⟩ | exact keep4 hne y0 y1 y2 y3) (fail)
  go_wp2_with fail
  have hwv := word_wrap hd0 hd1 hd2 hd3
  rw [← HW.out] at hwv
  exact ⟨WL.set i (Sha.word lb i), Lib.hid (by rw [List.length_set]; exact HWL.out), Lib.hid (HP.out.set (by rw [HWL.out]; omega) HS.out), Lib.hid (Blk.drew (wSet (k := i) (n := Sha.word lb i) KW.out hwv)), Lib.hid (grown_drew (grown_setCell (grown_refl wr (some gw)) (p := ⟨gw, i, none⟩) (.inl rfl) _))⟩
end Go.Proofs.YtkmjjoffamdnfaaGreatDoor

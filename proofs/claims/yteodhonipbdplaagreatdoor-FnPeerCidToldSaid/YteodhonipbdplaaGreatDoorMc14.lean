/- base 32: Encode. -/
import Derived.Test.YteodhonipbdplaaGreatDoorMc13
import Derived.Deep.RegionHeld3
namespace Go.Proofs.YteodhonipbdplaaGreatDoor
open Go.RowKit
set_option maxRecDepth 100000
section
variable {w : World} {M l : List UInt8} {g gd gs : Nat} {t : TypeId} {S : ByteArray}

set_option maxHeartbeats 20000000 in
theorem enc32 (h : Enc32 w g B32.alpha M (-1)) {os0 ns0 cs0 N : Nat} (hd : Blk w gd t (bvs (List.replicate N 0)).toArray) (hs : Bs w w.heap.size (.slice (some ⟨gs, os0, none⟩) ns0 cs0) l) (hn : ns0 = l.length) (hN : N = (l.length * 8 + 4) / 5) (hl0 : 0 < ns0) (hl : ns0 ≤ 1000) (hgd : g ≠ gd) (hgs : gs ≠ gd) :
    Calls Tryz.prog 114 #[.pointer (some ⟨g, 0, none⟩), .slice (some ⟨gd, 0, none⟩) N N, .slice (some ⟨gs, os0, none⟩) ns0 cs0] w fun e w' => e = .returned (.tuple #[]) ∧ Blk w' gd t (bvs (B32.enc B32.alpha l)).toArray ∧ w.grownBy w' (some gd) := by
  have HS := Lib.hid hs
  have HD := Lib.hid hd
  have HC := Lib.hid h.str
  have HP := Lib.hid h.pad
  have HN := Lib.hid hN
  have Hn := Lib.hid hn
  obtain ⟨S, hS⟩ : ∃ S, S = strOf B32.alpha := ⟨_, rfl⟩
  have HSt := Lib.hid hS
  rw [← hS] at HC
  have n00 : ¬ (ns0 : Int) = 0 := by omega
  clear h hd hs hN hS hn
  go_enter Tryz.func114, Tryz.ntmps114
  go_upto_block 0 with fail
  go_cut [1, 2] (fun s1 s2 wx => ∃ (od nd os ns cs : Nat) (m D : List UInt8), s1 = .slice (some ⟨gd, od, none⟩) nd nd ∧ s2 = .slice (some ⟨gs, os, none⟩) ns cs ∧ ns < 5 ∧ Hid (ns = m.length) ∧ Hid (0 < nd → od = D.length) ∧ Hid (D.length + nd = N) ∧ Hid (nd = (ns * 8 + 4) / 5) ∧ Hid (B32.enc B32.alpha l = D ++ (B32.five m).map (B32.letter B32.alpha)) ∧ Hid (Bs w w.heap.size (.slice (some ⟨gs, os, none⟩) ns cs) m) ∧ Hid (Blk wx gd t (bvs (D ++ List.replicate nd 0)).toArray) ∧ Hid (w.grownBy wx (some gd)))
  case first =>
    go_wp2_with fail
    go_loopw [1, 2] (fun s1 s2 wr => ∃ (od nd os ns cs : Nat) (m D : List UInt8), s1 = .slice (some ⟨gd, od, none⟩) nd nd ∧ s2 = .slice (some ⟨gs, os, none⟩) ns cs ∧ ns ≤ 1000 ∧ Hid (ns = m.length) ∧ Hid (0 < nd → od = D.length) ∧ Hid (D.length + nd = N) ∧ Hid (nd = (ns * 8 + 4) / 5) ∧ Hid (B32.enc B32.alpha l = D ++ (B32.five m).map (B32.letter B32.alpha)) ∧ Hid (Bs w w.heap.size (.slice (some ⟨gs, os, none⟩) ns cs) m) ∧ Hid (Blk wr gd t (bvs (D ++ List.replicate nd 0)).toArray) ∧ Hid (w.grownBy wr (some gd))) (fun _ s2 _ => sliceLen32 s2)
    case atStart => exact ⟨0, N, os0, ns0, cs0, l, [], rfl, rfl, hl, Hn, Lib.hid (fun _ => rfl), Lib.hid (by simp), Lib.hid (by rw [HN.out, Hn.out]), Lib.hid (by rw [B32.enc, B32.feed_five]; rfl), HS, Lib.hid (by simpa using HD.out), Lib.hid (grown_refl w (some gd))⟩
    case round =>
      obtain ⟨od, nd, os, ns, cs, m, D, rfl, rfl, hns, Hm, Hod, HDn, Hnd, HE, HB, HK, HG⟩ := hrel
      by_cases h5 : 5 ≤ ns
      · obtain ⟨a0, a1, a2, a3, a4, r, rfl⟩ : ∃ a0 a1 a2 a3 a4 r, m = a0 :: a1 :: a2 :: a3 :: a4 :: r := by
          have := Hm.out
          match m, (show 5 ≤ m.length by omega) with
          | a0 :: a1 :: a2 :: a3 :: a4 :: r, _ => exact ⟨a0, a1, a2, a3, a4, r, rfl⟩
        have hnd8 : 8 ≤ nd := by have := Hnd.out; omega
        obtain ⟨nm, hnm⟩ : ∃ nm, nd = nm + 8 := ⟨nd - 8, by omega⟩
        obtain rfl : od = D.length := Hod.out (by omega)
        obtain ⟨d0, hd0⟩ : ∃ d, d = a0.toNat := ⟨_, rfl⟩
        have b0 : d0 ≤ 255 := by have := UInt8.toNat_lt a0; omega
        obtain ⟨d1, hd1⟩ : ∃ d, d = a1.toNat := ⟨_, rfl⟩
        have b1 : d1 ≤ 255 := by have := UInt8.toNat_lt a1; omega
        obtain ⟨d2, hd2⟩ : ∃ d, d = a2.toNat := ⟨_, rfl⟩
        have b2 : d2 ≤ 255 := by have := UInt8.toNat_lt a2; omega
        obtain ⟨d3, hd3⟩ : ∃ d, d = a3.toNat := ⟨_, rfl⟩
        have b3 : d3 ≤ 255 := by have := UInt8.toNat_lt a3; omega
        obtain ⟨d4, hd4⟩ : ∃ d, d = a4.toNat := ⟨_, rfl⟩
        have b4 : d4 ≤ 255 := by have := UInt8.toNat_lt a4; omega
        have E := Lib.hid (show E5 wr g gd gs os t S d0 d1 d2 d3 d4 (D ++ List.replicate nd 0) from e5Start hgd hgs HC.out hd0 hd1 hd2 hd3 hd4 HB.out HK.out HG.out)
        obtain ⟨x7, hx7⟩ : ∃ x : Nat, x = (B32.letter B32.alpha (d4 % 32)).toNat := ⟨_, rfl⟩
        have ix7 : ∀ W : World, (Instr.index 9 (.string S) (.int .u8 (bits .and .u8 (d4 : Int) 31))).run Tryz.prog W = .ok (.int .u8 (x7 : Int)) W := fun W => by rw [hx7]; exact letIdx HSt.out _ (d4 % 32) (p7 b4) (by omega) W
        have lx7 : x7 ≤ 255 := by rw [hx7]; have := UInt8.toNat_lt (B32.letter B32.alpha (d4 % 32)); omega
        have Hx7 := Lib.hid hx7
        clear hx7
        obtain ⟨x6, hx6⟩ : ∃ x : Nat, x = (B32.letter B32.alpha (d3 % 4 * 8 + d4 / 32)).toNat := ⟨_, rfl⟩
        have ix6 : ∀ W : World, (Instr.index 9 (.string S) (.int .u8 (bits .or .u8 ((d4 : Int) / 32) (bits .and .u8 (IntKind.u8.wrap ((d3 : Int) * 8)) 31)))).run Tryz.prog W = .ok (.int .u8 (x6 : Int)) W := fun W => by rw [hx6]; exact letIdx HSt.out _ (d3 % 4 * 8 + d4 / 32) (p6 b3 b4) (by omega) W
        have lx6 : x6 ≤ 255 := by rw [hx6]; have := UInt8.toNat_lt (B32.letter B32.alpha (d3 % 4 * 8 + d4 / 32)); omega
        have Hx6 := Lib.hid hx6
        clear hx6
        obtain ⟨x5, hx5⟩ : ∃ x : Nat, x = (B32.letter B32.alpha (d3 / 4 % 32)).toNat := ⟨_, rfl⟩
        have ix5 : ∀ W : World, (Instr.index 9 (.string S) (.int .u8 (bits .and .u8 ((d3 : Int) / 4) 31))).run Tryz.prog W = .ok (.int .u8 (x5 : Int)) W := fun W => by rw [hx5]; exact letIdx HSt.out _ (d3 / 4 % 32) (p5 b3) (by omega) W
        have lx5 : x5 ≤ 255 := by rw [hx5]; have := UInt8.toNat_lt (B32.letter B32.alpha (d3 / 4 % 32)); omega
        have Hx5 := Lib.hid hx5
        clear hx5
        obtain ⟨x4, hx4⟩ : ∃ x : Nat, x = (B32.letter B32.alpha (d2 % 16 * 2 + d3 / 128)).toNat := ⟨_, rfl⟩
        have ix4 : ∀ W : World, (Instr.index 9 (.string S) (.int .u8 (bits .or .u8 ((d3 : Int) / 128) (bits .and .u8 (IntKind.u8.wrap ((d2 : Int) * 2)) 31)))).run Tryz.prog W = .ok (.int .u8 (x4 : Int)) W := fun W => by rw [hx4]; exact letIdx HSt.out _ (d2 % 16 * 2 + d3 / 128) (p4 b2 b3) (by omega) W
        have lx4 : x4 ≤ 255 := by rw [hx4]; have := UInt8.toNat_lt (B32.letter B32.alpha (d2 % 16 * 2 + d3 / 128)); omega
        have Hx4 := Lib.hid hx4
        clear hx4
        obtain ⟨x3, hx3⟩ : ∃ x : Nat, x = (B32.letter B32.alpha (d1 % 2 * 16 + d2 / 16)).toNat := ⟨_, rfl⟩
        have ix3 : ∀ W : World, (Instr.index 9 (.string S) (.int .u8 (bits .and .u8 (bits .or .u8 ((d2 : Int) / 16) (IntKind.u8.wrap ((d1 : Int) * 16))) 31))).run Tryz.prog W = .ok (.int .u8 (x3 : Int)) W := fun W => by rw [hx3]; exact letIdx HSt.out _ (d1 % 2 * 16 + d2 / 16) (p3 b1 b2) (by omega) W
        have lx3 : x3 ≤ 255 := by rw [hx3]; have := UInt8.toNat_lt (B32.letter B32.alpha (d1 % 2 * 16 + d2 / 16)); omega
        have Hx3 := Lib.hid hx3
        clear hx3
        obtain ⟨x2, hx2⟩ : ∃ x : Nat, x = (B32.letter B32.alpha (d1 / 2 % 32)).toNat := ⟨_, rfl⟩
        have ix2 : ∀ W : World, (Instr.index 9 (.string S) (.int .u8 (bits .and .u8 ((d1 : Int) / 2) 31))).run Tryz.prog W = .ok (.int .u8 (x2 : Int)) W := fun W => by rw [hx2]; exact letIdx HSt.out _ (d1 / 2 % 32) (p2 b1) (by omega) W
        have lx2 : x2 ≤ 255 := by rw [hx2]; have := UInt8.toNat_lt (B32.letter B32.alpha (d1 / 2 % 32)); omega
        have Hx2 := Lib.hid hx2
        clear hx2
        obtain ⟨x1, hx1⟩ : ∃ x : Nat, x = (B32.letter B32.alpha (d0 % 8 * 4 + d1 / 64)).toNat := ⟨_, rfl⟩
        have ix1 : ∀ W : World, (Instr.index 9 (.string S) (.int .u8 (bits .and .u8 (bits .or .u8 ((d1 : Int) / 64) (IntKind.u8.wrap ((d0 : Int) * 4))) 31))).run Tryz.prog W = .ok (.int .u8 (x1 : Int)) W := fun W => by rw [hx1]; exact letIdx HSt.out _ (d0 % 8 * 4 + d1 / 64) (p1 b0 b1) (by omega) W
        have lx1 : x1 ≤ 255 := by rw [hx1]; have := UInt8.toNat_lt (B32.letter B32.alpha (d0 % 8 * 4 + d1 / 64)); omega
        have Hx1 := Lib.hid hx1
        clear hx1
        obtain ⟨x0, hx0⟩ : ∃ x : Nat, x = (B32.letter B32.alpha (d0 / 8)).toNat := ⟨_, rfl⟩
        have ix0 : ∀ W : World, (Instr.index 9 (.string S) (.int .u8 ((d0 : Int) / 8))).run Tryz.prog W = .ok (.int .u8 (x0 : Int)) W := fun W => by rw [hx0]; exact letIdx HSt.out _ (d0 / 8) (by omega) (by omega) W
        have lx0 : x0 ≤ 255 := by rw [hx0]; have := UInt8.toNat_lt (B32.letter B32.alpha (d0 / 8)); omega
        have Hx0 := Lib.hid hx0
        clear hx0
        have HdA := Lib.hid (And.intro hd0 (And.intro hd1 (And.intro hd2 (And.intro hd3 hd4))))
        clear hd0 hd1 hd2 hd3 hd4
        have s0 : (0 : Int) < (ns : Int) := by omega
        have s1 : (1 : Int) < (ns : Int) := by omega
        have s2 : (2 : Int) < (ns : Int) := by omega
        have s3 : (3 : Int) < (ns : Int) := by omega
        have s4 : (4 : Int) < (ns : Int) := by omega
        have t0 : (0 : Int) < (nd : Int) := by omega
        have t1 : (1 : Int) < (nd : Int) := by omega
        have t2 : (2 : Int) < (nd : Int) := by omega
        have t3 : (3 : Int) < (nd : Int) := by omega
        have t4 : (4 : Int) < (nd : Int) := by omega
        have t5 : (5 : Int) < (nd : Int) := by omega
        have t6 : (6 : Int) < (nd : Int) := by omega
        have t7 : (7 : Int) < (nd : Int) := by omega
        have sn : 0 < ns := by omega
        have tn : 0 < nd := by omega
        have Hnm := Lib.hid hnm
        obtain ⟨a, ha⟩ : ∃ a, a = D.length := ⟨_, rfl⟩
        have Ha := Lib.hid ha
        have hlen : (D ++ List.replicate nd 0 : List UInt8).length = a + nd := by rw [ha]; simp
        obtain ⟨L8, hL8⟩ : ∃ L, L = D ++ List.replicate nd (0 : UInt8) := ⟨_, rfl⟩
        rw [← hL8] at E hlen
        rw [← ha]
        have HL8 := Lib.hid hL8
        have hl8 := hlen
        clear hnm ha hL8 hlen
        have Ed := Lib.hid (show E5 wr.drew g gd gs os t S d0 d1 d2 d3 d4 L8 from ⟨E.out.str, E.out.y0, E.out.y1, E.out.y2, E.out.y3, E.out.y4, E.out.row.drew⟩)
        have c0 := Ed.out.str
        have y4 := Ed.out.y4
        obtain ⟨q, hq⟩ : ∃ v, wr.drew.cell? ⟨gd, a + 7, none⟩ = some v := ⟨_, byteLies Ed.out.row (k := a + 7) (by rw [hl8]; omega)⟩
        have fq := Ed.out.row.free (a + 7)
        go_wp2_with fail
        go_region_held3 (fun W => W.cell? ⟨g, 0, none⟩ = some (.string S) ∧ W.cell? ⟨gs, os + 4, none⟩ = some (.int .u8 (d4 : Int))) (with_reducible first | exact ⟨c0, y4⟩ | exact far2 hgd hgs c0 y4) (fail)
        have E2 := Lib.hid (E.out.put (k := a + 7) hgd hgs lx7)
        have G2 := Lib.hid (grown_drew (grown_setCell HG.out (p := ⟨gd, a + 7, none⟩) (.inl rfl) (.int .u8 (x7 : Int))))
        clear Ed c0 y4 hq fq ix7 E HG
        generalize (wr.setCell ⟨gd, a + 7, none⟩ (.int .u8 (x7 : Int))).drew = w7 at *
        have E := E2
        have HG := G2
        clear E2 G2
        obtain ⟨N7, hN7⟩ : ∃ L, L = L8.set (a + 7) (UInt8.ofNat x7) := ⟨_, rfl⟩
        rw [← hN7] at E
        have hl8 : N7.length = a + nd := by rw [hN7, List.length_set]; exact hl8
        have HN7 := Lib.hid hN7
        clear hN7
        have Ed := Lib.hid (show E5 w7.drew g gd gs os t S d0 d1 d2 d3 d4 N7 from ⟨E.out.str, E.out.y0, E.out.y1, E.out.y2, E.out.y3, E.out.y4, E.out.row.drew⟩)
        have c0 := Ed.out.str
        have y4 := Ed.out.y4
        have y3 := Ed.out.y3
        obtain ⟨q, hq⟩ : ∃ v, w7.drew.cell? ⟨gd, a + 6, none⟩ = some v := ⟨_, byteLies Ed.out.row (k := a + 6) (by rw [hl8]; omega)⟩
        have fq := Ed.out.row.free (a + 6)
        go_wp2_with fail
        go_region_held3 (fun W => W.cell? ⟨g, 0, none⟩ = some (.string S) ∧ W.cell? ⟨gs, os + 4, none⟩ = some (.int .u8 (d4 : Int)) ∧ W.cell? ⟨gs, os + 3, none⟩ = some (.int .u8 (d3 : Int))) (with_reducible first | exact ⟨c0, y4, y3⟩ | exact far3 hgd hgs hgs c0 y4 y3) (fail)
        have E2 := Lib.hid (E.out.put (k := a + 6) hgd hgs lx6)
        have G2 := Lib.hid (grown_drew (grown_setCell HG.out (p := ⟨gd, a + 6, none⟩) (.inl rfl) (.int .u8 (x6 : Int))))
        clear Ed c0 y4 y3 hq fq ix6 E HG
        generalize (w7.setCell ⟨gd, a + 6, none⟩ (.int .u8 (x6 : Int))).drew = w6 at *
        have E := E2
        have HG := G2
        clear E2 G2
        obtain ⟨N6, hN6⟩ : ∃ L, L = N7.set (a + 6) (UInt8.ofNat x6) := ⟨_, rfl⟩
        rw [← hN6] at E
        have hl8 : N6.length = a + nd := by rw [hN6, List.length_set]; exact hl8
        have HN6 := Lib.hid hN6
        clear hN6
        have Ed := Lib.hid (show E5 w6.drew g gd gs os t S d0 d1 d2 d3 d4 N6 from ⟨E.out.str, E.out.y0, E.out.y1, E.out.y2, E.out.y3, E.out.y4, E.out.row.drew⟩)
        have c0 := Ed.out.str
        have y3 := Ed.out.y3
        obtain ⟨q, hq⟩ : ∃ v, w6.drew.cell? ⟨gd, a + 5, none⟩ = some v := ⟨_, byteLies Ed.out.row (k := a + 5) (by rw [hl8]; omega)⟩
        have fq := Ed.out.row.free (a + 5)
        go_wp2_with fail
        go_region_held3 (fun W => W.cell? ⟨g, 0, none⟩ = some (.string S) ∧ W.cell? ⟨gs, os + 3, none⟩ = some (.int .u8 (d3 : Int))) (with_reducible first | exact ⟨c0, y3⟩ | exact far2 hgd hgs c0 y3) (fail)
        have E2 := Lib.hid (E.out.put (k := a + 5) hgd hgs lx5)
        have G2 := Lib.hid (grown_drew (grown_setCell HG.out (p := ⟨gd, a + 5, none⟩) (.inl rfl) (.int .u8 (x5 : Int))))
        clear Ed c0 y3 hq fq ix5 E HG
        generalize (w6.setCell ⟨gd, a + 5, none⟩ (.int .u8 (x5 : Int))).drew = w5 at *
        have E := E2
        have HG := G2
        clear E2 G2
        obtain ⟨N5, hN5⟩ : ∃ L, L = N6.set (a + 5) (UInt8.ofNat x5) := ⟨_, rfl⟩
        rw [← hN5] at E
        have hl8 : N5.length = a + nd := by rw [hN5, List.length_set]; exact hl8
        have HN5 := Lib.hid hN5
        clear hN5
        have Ed := Lib.hid (show E5 w5.drew g gd gs os t S d0 d1 d2 d3 d4 N5 from ⟨E.out.str, E.out.y0, E.out.y1, E.out.y2, E.out.y3, E.out.y4, E.out.row.drew⟩)
        have c0 := Ed.out.str
        have y3 := Ed.out.y3
        have y2 := Ed.out.y2
        obtain ⟨q, hq⟩ : ∃ v, w5.drew.cell? ⟨gd, a + 4, none⟩ = some v := ⟨_, byteLies Ed.out.row (k := a + 4) (by rw [hl8]; omega)⟩
        have fq := Ed.out.row.free (a + 4)
        go_wp2_with fail
        go_region_held3 (fun W => W.cell? ⟨g, 0, none⟩ = some (.string S) ∧ W.cell? ⟨gs, os + 3, none⟩ = some (.int .u8 (d3 : Int)) ∧ W.cell? ⟨gs, os + 2, none⟩ = some (.int .u8 (d2 : Int))) (with_reducible first | exact ⟨c0, y3, y2⟩ | exact far3 hgd hgs hgs c0 y3 y2) (fail)
        have E2 := Lib.hid (E.out.put (k := a + 4) hgd hgs lx4)
        have G2 := Lib.hid (grown_drew (grown_setCell HG.out (p := ⟨gd, a + 4, none⟩) (.inl rfl) (.int .u8 (x4 : Int))))
        clear Ed c0 y3 y2 hq fq ix4 E HG
        generalize (w5.setCell ⟨gd, a + 4, none⟩ (.int .u8 (x4 : Int))).drew = w4 at *
        have E := E2
        have HG := G2
        clear E2 G2
        obtain ⟨N4, hN4⟩ : ∃ L, L = N5.set (a + 4) (UInt8.ofNat x4) := ⟨_, rfl⟩
        rw [← hN4] at E
        have hl8 : N4.length = a + nd := by rw [hN4, List.length_set]; exact hl8
        have HN4 := Lib.hid hN4
        clear hN4
        have Ed := Lib.hid (show E5 w4.drew g gd gs os t S d0 d1 d2 d3 d4 N4 from ⟨E.out.str, E.out.y0, E.out.y1, E.out.y2, E.out.y3, E.out.y4, E.out.row.drew⟩)
        have c0 := Ed.out.str
        have y2 := Ed.out.y2
        have y1 := Ed.out.y1
        obtain ⟨q, hq⟩ : ∃ v, w4.drew.cell? ⟨gd, a + 3, none⟩ = some v := ⟨_, byteLies Ed.out.row (k := a + 3) (by rw [hl8]; omega)⟩
        have fq := Ed.out.row.free (a + 3)
        go_wp2_with fail
        go_region_held3 (fun W => W.cell? ⟨g, 0, none⟩ = some (.string S) ∧ W.cell? ⟨gs, os + 2, none⟩ = some (.int .u8 (d2 : Int)) ∧ W.cell? ⟨gs, os + 1, none⟩ = some (.int .u8 (d1 : Int))) (with_reducible first | exact ⟨c0, y2, y1⟩ | exact far3 hgd hgs hgs c0 y2 y1) (fail)
        have E2 := Lib.hid (E.out.put (k := a + 3) hgd hgs lx3)
        have G2 := Lib.hid (grown_drew (grown_setCell HG.out (p := ⟨gd, a + 3, none⟩) (.inl rfl) (.int .u8 (x3 : Int))))
        clear Ed c0 y2 y1 hq fq ix3 E HG
        generalize (w4.setCell ⟨gd, a + 3, none⟩ (.int .u8 (x3 : Int))).drew = w3 at *
        have E := E2
        have HG := G2
        clear E2 G2
        obtain ⟨N3, hN3⟩ : ∃ L, L = N4.set (a + 3) (UInt8.ofNat x3) := ⟨_, rfl⟩
        rw [← hN3] at E
        have hl8 : N3.length = a + nd := by rw [hN3, List.length_set]; exact hl8
        have HN3 := Lib.hid hN3
        clear hN3
        have Ed := Lib.hid (show E5 w3.drew g gd gs os t S d0 d1 d2 d3 d4 N3 from ⟨E.out.str, E.out.y0, E.out.y1, E.out.y2, E.out.y3, E.out.y4, E.out.row.drew⟩)
        have c0 := Ed.out.str
        have y1 := Ed.out.y1
        obtain ⟨q, hq⟩ : ∃ v, w3.drew.cell? ⟨gd, a + 2, none⟩ = some v := ⟨_, byteLies Ed.out.row (k := a + 2) (by rw [hl8]; omega)⟩
        have fq := Ed.out.row.free (a + 2)
        go_wp2_with fail
        go_region_held3 (fun W => W.cell? ⟨g, 0, none⟩ = some (.string S) ∧ W.cell? ⟨gs, os + 1, none⟩ = some (.int .u8 (d1 : Int))) (with_reducible first | exact ⟨c0, y1⟩ | exact far2 hgd hgs c0 y1) (fail)
        have E2 := Lib.hid (E.out.put (k := a + 2) hgd hgs lx2)
        have G2 := Lib.hid (grown_drew (grown_setCell HG.out (p := ⟨gd, a + 2, none⟩) (.inl rfl) (.int .u8 (x2 : Int))))
        clear Ed c0 y1 hq fq ix2 E HG
        generalize (w3.setCell ⟨gd, a + 2, none⟩ (.int .u8 (x2 : Int))).drew = w2 at *
        have E := E2
        have HG := G2
        clear E2 G2
        obtain ⟨N2, hN2⟩ : ∃ L, L = N3.set (a + 2) (UInt8.ofNat x2) := ⟨_, rfl⟩
        rw [← hN2] at E
        have hl8 : N2.length = a + nd := by rw [hN2, List.length_set]; exact hl8
        have HN2 := Lib.hid hN2
        clear hN2
        have Ed := Lib.hid (show E5 w2.drew g gd gs os t S d0 d1 d2 d3 d4 N2 from ⟨E.out.str, E.out.y0, E.out.y1, E.out.y2, E.out.y3, E.out.y4, E.out.row.drew⟩)
        have c0 := Ed.out.str
        have y1 := Ed.out.y1
        have y0 := Ed.out.y0
        obtain ⟨q, hq⟩ : ∃ v, w2.drew.cell? ⟨gd, a + 1, none⟩ = some v := ⟨_, byteLies Ed.out.row (k := a + 1) (by rw [hl8]; omega)⟩
        have fq := Ed.out.row.free (a + 1)
        go_wp2_with fail
        go_region_held3 (fun W => W.cell? ⟨g, 0, none⟩ = some (.string S) ∧ W.cell? ⟨gs, os + 1, none⟩ = some (.int .u8 (d1 : Int)) ∧ W.cell? ⟨gs, os, none⟩ = some (.int .u8 (d0 : Int))) (with_reducible first | exact ⟨c0, y1, y0⟩ | exact far3 hgd hgs hgs c0 y1 y0) (fail)
        have E2 := Lib.hid (E.out.put (k := a + 1) hgd hgs lx1)
        have G2 := Lib.hid (grown_drew (grown_setCell HG.out (p := ⟨gd, a + 1, none⟩) (.inl rfl) (.int .u8 (x1 : Int))))
        clear Ed c0 y1 y0 hq fq ix1 E HG
        generalize (w2.setCell ⟨gd, a + 1, none⟩ (.int .u8 (x1 : Int))).drew = w1 at *
        have E := E2
        have HG := G2
        clear E2 G2
        obtain ⟨N1, hN1⟩ : ∃ L, L = N2.set (a + 1) (UInt8.ofNat x1) := ⟨_, rfl⟩
        rw [← hN1] at E
        have hl8 : N1.length = a + nd := by rw [hN1, List.length_set]; exact hl8
        have HN1 := Lib.hid hN1
        clear hN1
        have Ed := Lib.hid (show E5 w1.drew g gd gs os t S d0 d1 d2 d3 d4 N1 from ⟨E.out.str, E.out.y0, E.out.y1, E.out.y2, E.out.y3, E.out.y4, E.out.row.drew⟩)
        have c0 := Ed.out.str
        have y0 := Ed.out.y0
        obtain ⟨q, hq⟩ : ∃ v, w1.drew.cell? ⟨gd, a, none⟩ = some v := ⟨_, byteLies Ed.out.row (k := a) (by rw [hl8]; omega)⟩
        have fq := Ed.out.row.free (a)
        go_wp2_with fail
        go_region_held3 (fun W => W.cell? ⟨g, 0, none⟩ = some (.string S) ∧ W.cell? ⟨gs, os, none⟩ = some (.int .u8 (d0 : Int))) (with_reducible first | exact ⟨c0, y0⟩ | exact far2 hgd hgs c0 y0) (fail)
        have E2 := Lib.hid (E.out.put (k := a) hgd hgs lx0)
        have G2 := Lib.hid (grown_drew (grown_setCell HG.out (p := ⟨gd, a, none⟩) (.inl rfl) (.int .u8 (x0 : Int))))
        clear Ed c0 y0 hq fq ix0 E HG
        generalize (w1.setCell ⟨gd, a, none⟩ (.int .u8 (x0 : Int))).drew = w0 at *
        have E := E2
        have HG := G2
        clear E2 G2
        obtain ⟨N0, hN0⟩ : ∃ L, L = N1.set (a) (UInt8.ofNat x0) := ⟨_, rfl⟩
        rw [← hN0] at E
        have hl8 : N0.length = a + nd := by rw [hN0, List.length_set]; exact hl8
        have HN0 := Lib.hid hN0
        clear hN0
        obtain ⟨o5, hs5, hb5⟩ := slice_fromB HB.out h5
        have hs5' : ∀ W : World, (Instr.slice 23 (.slice (some ⟨gs, os, none⟩) ns cs) (some (.int .i64 5)) none none).run Tryz.prog W = .ok (.slice (some ⟨gs, o5, none⟩) (ns - 5) (cs - 5)) W := fun W => hs5 W .i64
        obtain ⟨o8, hs8, ho8⟩ := sliceDst (gd := gd) (a := a) hnd8
        have HB5 := Lib.hid (show Bs w w.heap.size (.slice (some ⟨gs, o5, none⟩) (ns - 5) (cs - 5)) r from hb5)
        have HE5 := Lib.hid (fiveNext HE.out HdA.out.1 HdA.out.2.1 HdA.out.2.2.1 HdA.out.2.2.2.1 HdA.out.2.2.2.2 Hx0.out Hx1.out Hx2.out Hx3.out Hx4.out Hx5.out Hx6.out Hx7.out)
        have HK5 := Lib.hid (show Blk w0 gd t (bvs ((D ++ [UInt8.ofNat x0, UInt8.ofNat x1, UInt8.ofNat x2, UInt8.ofNat x3, UInt8.ofNat x4, UInt8.ofNat x5, UInt8.ofNat x6, UInt8.ofNat x7]) ++ List.replicate nm 0)).toArray from (by
          have hk := E.out.row
          rw [HN0.out, HN1.out, HN2.out, HN3.out, HN4.out, HN5.out, HN6.out, HN7.out, HL8.out, Hnm.out, eightSets Ha.out.symm] at hk
          exact hk))
        have hc5 : ns ≤ cs := by
          obtain ⟨A2, c2, he, hl2, hc2, _⟩ := HB.out
          injection he with e1 e2 e3
          omega
        have hcs : (5 : Int) ≤ (cs : Int) := by omega
        have hns5 : (5 : Int) ≤ (ns : Int) := by omega
        clear hs5 hb5 E
        go_wp2_with fail
        refine ⟨?_, ?_⟩
        · iterate 123 apply Exists.intro
          apply And.intro
          · refine ⟨o8, nd - 8, o5, ns - 5, cs - 5, r, D ++ [UInt8.ofNat x0, UInt8.ofNat x1, UInt8.ofNat x2, UInt8.ofNat x3, UInt8.ofNat x4, UInt8.ofNat x5, UInt8.ofNat x6, UInt8.ofNat x7], rfl, rfl, ?_, ?_, ?_, ?_, ?_, HE5, HB5, ?_, HG⟩
            · omega
            · exact Lib.hid (by have := Hm.out; simp only [List.length_cons] at this; omega)
            · exact Lib.hid (fun h => by rw [List.length_append, ← Ha.out]; exact ho8 h)
            · exact Lib.hid (by rw [List.length_append]; have := HDn.out; simp only [List.length_cons, List.length_nil]; omega)
            · exact Lib.hid (by have := Hnd.out; omega)
            · exact Lib.hid (by rw [show nd - 8 = nm by have := Hnm.out; omega]; exact HK5.out)
          · have hb : ((ns0 : Int) == 0) = false := by simpa using n00
            rw [hb]
          all_goals exact undef
        · show sliceLen32 (.slice (some ⟨gs, o5, none⟩) (ns - 5) (cs - 5)) < sliceLen32 (.slice (some ⟨gs, os, none⟩) ns cs)
          simp only [sliceLen32]
          omega
      · go_wp2_with fail
        go_meet
        exact ⟨od, nd, os, ns, cs, m, D, rfl, rfl, by omega, Hm, Hod, HDn, Hnd, HE, HB, HK, HG⟩
  case rest =>
    clear HS HD n00
    obtain ⟨od, nd, os, ns, cs, m, D, rfl, rfl, hns, Hm, Hod, HDn, Hnd, HE, HB, HK, HG⟩ := hcut
    have hcase : ns = 0 ∨ ns = 1 ∨ ns = 2 ∨ ns = 3 ∨ ns = 4 := by omega
    rcases hcase with rfl | rfl | rfl | rfl | rfl
    · -- 0 bytes left
      obtain rfl : m = [] := by have := Hm.out; exact List.length_eq_zero_iff.1 this.symm
      have H0 := Lib.hid (show nd = 0 by have := Hnd.out; omega)
      clear HN Hn Hod HDn Hnd HB
      go_wp2_with fail
      refine bodyPost_ret (results_none rfl _ _ _) rfl ?_
      refine ⟨rfl, ?_, HG.out⟩
      have hk := HK.out
      rw [H0.out] at hk
      rw [HE.out]
      simpa [B32.five] using hk
    · -- 1 bytes left
      obtain ⟨a0, rfl⟩ : ∃ a0, m = [a0] := by
        have := Hm.out
        match m, this with
        | [a0], _ => exact ⟨a0, rfl⟩
      have H0 := Lib.hid (show nd = 2 by have := Hnd.out; omega)
      obtain rfl : od = D.length := Hod.out (by rw [H0.out]; omega)
      obtain ⟨d0, hd0⟩ : ∃ d, d = a0.toNat := ⟨_, rfl⟩
      have b0 : d0 ≤ 255 := by have := UInt8.toNat_lt a0; omega
      have E := Lib.hid (show ET wc g gd gs os t S [d0] (D ++ List.replicate nd 0) from etStart hgd hgs HC.out HP.out (by simp [hd0]) HB.out HK.out HG.out)
      obtain ⟨x1, hx1⟩ : ∃ x : Nat, x = (B32.letter B32.alpha (d0 % 8 * 4)).toNat := ⟨_, rfl⟩
      have ix1 : ∀ W : World, (Instr.index 9 (.string S) (.int .u8 (bits .or .u8 0 (bits .and .u8 (IntKind.u8.wrap ((d0 : Int) * 4)) 31)))).run Tryz.prog W = .ok (.int .u8 (x1 : Int)) W := fun W => by rw [hx1]; exact letIdx HSt.out _ (d0 % 8 * 4) (q1z) (by omega) W
      have lx1 : x1 ≤ 255 := by rw [hx1]; have := UInt8.toNat_lt (B32.letter B32.alpha (d0 % 8 * 4)); omega
      obtain ⟨x0, hx0⟩ : ∃ x : Nat, x = (B32.letter B32.alpha (d0 / 8)).toNat := ⟨_, rfl⟩
      have ix0 : ∀ W : World, (Instr.index 9 (.string S) (.int .u8 ((d0 : Int) / 8))).run Tryz.prog W = .ok (.int .u8 (x0 : Int)) W := fun W => by rw [hx0]; exact letIdx HSt.out _ (d0 / 8) (by omega) (by omega) W
      have lx0 : x0 ≤ 255 := by rw [hx0]; have := UInt8.toNat_lt (B32.letter B32.alpha (d0 / 8)); omega
      have HF := Lib.hid (show B32.enc B32.alpha l = D ++ [UInt8.ofNat x0, UInt8.ofNat x1] by rw [HE.out, B32.five, hx0, hx1, hd0]; simp)
      clear hd0 hx0 hx1 HE HB HK HN Hn HDn Hnd Hm Hod
      have t0 : (0 : Int) < (nd : Int) := by have := H0.out; omega
      have t1 : (1 : Int) < (nd : Int) := by have := H0.out; omega
      have tn : 0 < nd := by have := H0.out; omega
      obtain ⟨a, ha⟩ : ∃ a, a = D.length := ⟨_, rfl⟩
      have Ha := Lib.hid ha
      have hl8 : (D ++ List.replicate nd 0 : List UInt8).length = a + nd := by rw [ha]; simp
      obtain ⟨L8, hL8⟩ : ∃ L, L = D ++ List.replicate nd (0 : UInt8) := ⟨_, rfl⟩
      rw [← hL8] at E hl8
      rw [← ha]
      have HL8 := Lib.hid hL8
      clear ha hL8
      have Ed := Lib.hid E.out.drew
      have c0 := Ed.out.str
      have y0 : wc.drew.cell? ⟨gs, os, none⟩ = some (.int .u8 (d0 : Int)) := Ed.out.ys 0 (by simp)
      have z0 : wc.cell? ⟨gs, os, none⟩ = some (.int .u8 (d0 : Int)) := y0
      obtain ⟨q, hq⟩ : ∃ v, wc.drew.cell? ⟨gd, a + 1, none⟩ = some v := ⟨_, byteLies Ed.out.row (k := a + 1) (by rw [hl8]; have := H0.out; omega)⟩
      have fq := Ed.out.row.free (a + 1)
      go_wp2_with fail
      go_region_held3 (fun W => W.cell? ⟨g, 0, none⟩ = some (.string S) ∧ W.cell? ⟨gs, os, none⟩ = some (.int .u8 (d0 : Int))) (with_reducible first | exact ⟨c0, y0⟩ | exact far2 hgd hgs c0 y0) (fail)
      have E2 := Lib.hid (E.out.put (k := a + 1) hgd hgs lx1)
      have G2 := Lib.hid (grown_drew (grown_setCell HG.out (p := ⟨gd, a + 1, none⟩) (.inl rfl) (.int .u8 (x1 : Int))))
      clear Ed c0 y0 z0 hq fq ix1 E HG
      generalize (wc.setCell ⟨gd, a + 1, none⟩ (.int .u8 (x1 : Int))).drew = wd1 at *
      have E := E2
      have HG := G2
      clear E2 G2
      obtain ⟨N1, hN1⟩ : ∃ L, L = L8.set (a + 1) (UInt8.ofNat x1) := ⟨_, rfl⟩
      rw [← hN1] at E
      replace hl8 : N1.length = a + nd := by rw [hN1, List.length_set]; exact hl8
      have HN1 := Lib.hid hN1
      clear hN1
      have Ed := Lib.hid E.out.drew
      have c0 := Ed.out.str
      have y0 : wd1.drew.cell? ⟨gs, os, none⟩ = some (.int .u8 (d0 : Int)) := Ed.out.ys 0 (by simp)
      have z0 : wd1.cell? ⟨gs, os, none⟩ = some (.int .u8 (d0 : Int)) := y0
      obtain ⟨q, hq⟩ : ∃ v, wd1.drew.cell? ⟨gd, a, none⟩ = some v := ⟨_, byteLies Ed.out.row (k := a) (by rw [hl8]; have := H0.out; omega)⟩
      have fq := Ed.out.row.free (a)
      go_wp2_with fail
      go_region_held3 (fun W => W.cell? ⟨g, 0, none⟩ = some (.string S) ∧ W.cell? ⟨gs, os, none⟩ = some (.int .u8 (d0 : Int))) (with_reducible first | exact ⟨c0, y0⟩ | exact far2 hgd hgs c0 y0) (fail)
      have E2 := Lib.hid (E.out.put (k := a) hgd hgs lx0)
      have G2 := Lib.hid (grown_drew (grown_setCell HG.out (p := ⟨gd, a, none⟩) (.inl rfl) (.int .u8 (x0 : Int))))
      clear Ed c0 y0 z0 hq fq ix0 E HG
      generalize (wd1.setCell ⟨gd, a, none⟩ (.int .u8 (x0 : Int))).drew = wd0 at *
      have E := E2
      have HG := G2
      clear E2 G2
      obtain ⟨N0, hN0⟩ : ∃ L, L = N1.set (a) (UInt8.ofNat x0) := ⟨_, rfl⟩
      rw [← hN0] at E
      replace hl8 : N0.length = a + nd := by rw [hN0, List.length_set]; exact hl8
      have HN0 := Lib.hid hN0
      clear hN0
      have cp := E.out.pad
      go_wp2_with fail
      go_end0
      refine ⟨rfl, ?_, HG.out⟩
      have hk := E.out.row
      rw [HN0.out, HN1.out, HL8.out, H0.out, sets1 Ha.out.symm] at hk
      rw [HF.out]
      exact hk
    · -- 2 bytes left
      obtain ⟨a0, a1, rfl⟩ : ∃ a0 a1, m = [a0, a1] := by
        have := Hm.out
        match m, this with
        | [a0, a1], _ => exact ⟨a0, a1, rfl⟩
      have H0 := Lib.hid (show nd = 4 by have := Hnd.out; omega)
      obtain rfl : od = D.length := Hod.out (by rw [H0.out]; omega)
      obtain ⟨d0, hd0⟩ : ∃ d, d = a0.toNat := ⟨_, rfl⟩
      have b0 : d0 ≤ 255 := by have := UInt8.toNat_lt a0; omega
      obtain ⟨d1, hd1⟩ : ∃ d, d = a1.toNat := ⟨_, rfl⟩
      have b1 : d1 ≤ 255 := by have := UInt8.toNat_lt a1; omega
      have E := Lib.hid (show ET wc g gd gs os t S [d0, d1] (D ++ List.replicate nd 0) from etStart hgd hgs HC.out HP.out (by simp [hd0, hd1]) HB.out HK.out HG.out)
      obtain ⟨x3, hx3⟩ : ∃ x : Nat, x = (B32.letter B32.alpha (d1 % 2 * 16)).toNat := ⟨_, rfl⟩
      have ix3 : ∀ W : World, (Instr.index 9 (.string S) (.int .u8 (bits .or .u8 0 (bits .and .u8 (IntKind.u8.wrap ((d1 : Int) * 16)) 31)))).run Tryz.prog W = .ok (.int .u8 (x3 : Int)) W := fun W => by rw [hx3]; exact letIdx HSt.out _ (d1 % 2 * 16) (q3z) (by omega) W
      have lx3 : x3 ≤ 255 := by rw [hx3]; have := UInt8.toNat_lt (B32.letter B32.alpha (d1 % 2 * 16)); omega
      obtain ⟨x2, hx2⟩ : ∃ x : Nat, x = (B32.letter B32.alpha (d1 / 2 % 32)).toNat := ⟨_, rfl⟩
      have ix2 : ∀ W : World, (Instr.index 9 (.string S) (.int .u8 (bits .and .u8 ((d1 : Int) / 2) 31))).run Tryz.prog W = .ok (.int .u8 (x2 : Int)) W := fun W => by rw [hx2]; exact letIdx HSt.out _ (d1 / 2 % 32) (p2 b1) (by omega) W
      have lx2 : x2 ≤ 255 := by rw [hx2]; have := UInt8.toNat_lt (B32.letter B32.alpha (d1 / 2 % 32)); omega
      obtain ⟨x1, hx1⟩ : ∃ x : Nat, x = (B32.letter B32.alpha (d0 % 8 * 4 + d1 / 64)).toNat := ⟨_, rfl⟩
      have ix1 : ∀ W : World, (Instr.index 9 (.string S) (.int .u8 (bits .or .u8 ((d1 : Int) / 64 % 32) (bits .and .u8 (IntKind.u8.wrap ((d0 : Int) * 4)) 31)))).run Tryz.prog W = .ok (.int .u8 (x1 : Int)) W := fun W => by rw [hx1]; exact letIdx HSt.out _ (d0 % 8 * 4 + d1 / 64) (q1 b1) (by omega) W
      have lx1 : x1 ≤ 255 := by rw [hx1]; have := UInt8.toNat_lt (B32.letter B32.alpha (d0 % 8 * 4 + d1 / 64)); omega
      obtain ⟨x0, hx0⟩ : ∃ x : Nat, x = (B32.letter B32.alpha (d0 / 8)).toNat := ⟨_, rfl⟩
      have ix0 : ∀ W : World, (Instr.index 9 (.string S) (.int .u8 ((d0 : Int) / 8))).run Tryz.prog W = .ok (.int .u8 (x0 : Int)) W := fun W => by rw [hx0]; exact letIdx HSt.out _ (d0 / 8) (by omega) (by omega) W
      have lx0 : x0 ≤ 255 := by rw [hx0]; have := UInt8.toNat_lt (B32.letter B32.alpha (d0 / 8)); omega
      have HF := Lib.hid (show B32.enc B32.alpha l = D ++ [UInt8.ofNat x0, UInt8.ofNat x1, UInt8.ofNat x2, UInt8.ofNat x3] by rw [HE.out, B32.five, hx0, hx1, hx2, hx3, hd0, hd1]; simp)
      clear hd0 hd1 hx0 hx1 hx2 hx3 HE HB HK HN Hn HDn Hnd Hm Hod
      have t0 : (0 : Int) < (nd : Int) := by have := H0.out; omega
      have t1 : (1 : Int) < (nd : Int) := by have := H0.out; omega
      have t2 : (2 : Int) < (nd : Int) := by have := H0.out; omega
      have t3 : (3 : Int) < (nd : Int) := by have := H0.out; omega
      have tn : 0 < nd := by have := H0.out; omega
      obtain ⟨a, ha⟩ : ∃ a, a = D.length := ⟨_, rfl⟩
      have Ha := Lib.hid ha
      have hl8 : (D ++ List.replicate nd 0 : List UInt8).length = a + nd := by rw [ha]; simp
      obtain ⟨L8, hL8⟩ : ∃ L, L = D ++ List.replicate nd (0 : UInt8) := ⟨_, rfl⟩
      rw [← hL8] at E hl8
      rw [← ha]
      have HL8 := Lib.hid hL8
      clear ha hL8
      have Ed := Lib.hid E.out.drew
      have c0 := Ed.out.str
      have y0 : wc.drew.cell? ⟨gs, os, none⟩ = some (.int .u8 (d0 : Int)) := Ed.out.ys 0 (by simp)
      have z0 : wc.cell? ⟨gs, os, none⟩ = some (.int .u8 (d0 : Int)) := y0
      have y1 : wc.drew.cell? ⟨gs, os + 1, none⟩ = some (.int .u8 (d1 : Int)) := Ed.out.ys 1 (by simp)
      have z1 : wc.cell? ⟨gs, os + 1, none⟩ = some (.int .u8 (d1 : Int)) := y1
      obtain ⟨q, hq⟩ : ∃ v, wc.drew.cell? ⟨gd, a + 3, none⟩ = some v := ⟨_, byteLies Ed.out.row (k := a + 3) (by rw [hl8]; have := H0.out; omega)⟩
      have fq := Ed.out.row.free (a + 3)
      go_wp2_with fail
      go_region_held3 (fun W => W.cell? ⟨g, 0, none⟩ = some (.string S) ∧ W.cell? ⟨gs, os + 1, none⟩ = some (.int .u8 (d1 : Int))) (with_reducible first | exact ⟨c0, y1⟩ | exact far2 hgd hgs c0 y1) (fail)
      have E2 := Lib.hid (E.out.put (k := a + 3) hgd hgs lx3)
      have G2 := Lib.hid (grown_drew (grown_setCell HG.out (p := ⟨gd, a + 3, none⟩) (.inl rfl) (.int .u8 (x3 : Int))))
      clear Ed c0 y0 z0 y1 z1 hq fq ix3 E HG
      generalize (wc.setCell ⟨gd, a + 3, none⟩ (.int .u8 (x3 : Int))).drew = wd3 at *
      have E := E2
      have HG := G2
      clear E2 G2
      obtain ⟨N3, hN3⟩ : ∃ L, L = L8.set (a + 3) (UInt8.ofNat x3) := ⟨_, rfl⟩
      rw [← hN3] at E
      replace hl8 : N3.length = a + nd := by rw [hN3, List.length_set]; exact hl8
      have HN3 := Lib.hid hN3
      clear hN3
      have Ed := Lib.hid E.out.drew
      have c0 := Ed.out.str
      have y0 : wd3.drew.cell? ⟨gs, os, none⟩ = some (.int .u8 (d0 : Int)) := Ed.out.ys 0 (by simp)
      have z0 : wd3.cell? ⟨gs, os, none⟩ = some (.int .u8 (d0 : Int)) := y0
      have y1 : wd3.drew.cell? ⟨gs, os + 1, none⟩ = some (.int .u8 (d1 : Int)) := Ed.out.ys 1 (by simp)
      have z1 : wd3.cell? ⟨gs, os + 1, none⟩ = some (.int .u8 (d1 : Int)) := y1
      obtain ⟨q, hq⟩ : ∃ v, wd3.drew.cell? ⟨gd, a + 2, none⟩ = some v := ⟨_, byteLies Ed.out.row (k := a + 2) (by rw [hl8]; have := H0.out; omega)⟩
      have fq := Ed.out.row.free (a + 2)
      go_wp2_with fail
      go_region_held3 (fun W => W.cell? ⟨g, 0, none⟩ = some (.string S) ∧ W.cell? ⟨gs, os + 1, none⟩ = some (.int .u8 (d1 : Int))) (with_reducible first | exact ⟨c0, y1⟩ | exact far2 hgd hgs c0 y1) (fail)
      have E2 := Lib.hid (E.out.put (k := a + 2) hgd hgs lx2)
      have G2 := Lib.hid (grown_drew (grown_setCell HG.out (p := ⟨gd, a + 2, none⟩) (.inl rfl) (.int .u8 (x2 : Int))))
      clear Ed c0 y0 z0 y1 z1 hq fq ix2 E HG
      generalize (wd3.setCell ⟨gd, a + 2, none⟩ (.int .u8 (x2 : Int))).drew = wd2 at *
      have E := E2
      have HG := G2
      clear E2 G2
      obtain ⟨N2, hN2⟩ : ∃ L, L = N3.set (a + 2) (UInt8.ofNat x2) := ⟨_, rfl⟩
      rw [← hN2] at E
      replace hl8 : N2.length = a + nd := by rw [hN2, List.length_set]; exact hl8
      have HN2 := Lib.hid hN2
      clear hN2
      have Ed := Lib.hid E.out.drew
      have c0 := Ed.out.str
      have y0 : wd2.drew.cell? ⟨gs, os, none⟩ = some (.int .u8 (d0 : Int)) := Ed.out.ys 0 (by simp)
      have z0 : wd2.cell? ⟨gs, os, none⟩ = some (.int .u8 (d0 : Int)) := y0
      have y1 : wd2.drew.cell? ⟨gs, os + 1, none⟩ = some (.int .u8 (d1 : Int)) := Ed.out.ys 1 (by simp)
      have z1 : wd2.cell? ⟨gs, os + 1, none⟩ = some (.int .u8 (d1 : Int)) := y1
      obtain ⟨q, hq⟩ : ∃ v, wd2.drew.cell? ⟨gd, a + 1, none⟩ = some v := ⟨_, byteLies Ed.out.row (k := a + 1) (by rw [hl8]; have := H0.out; omega)⟩
      have fq := Ed.out.row.free (a + 1)
      go_wp2_with fail
      go_region_held3 (fun W => W.cell? ⟨g, 0, none⟩ = some (.string S) ∧ W.cell? ⟨gs, os, none⟩ = some (.int .u8 (d0 : Int))) (with_reducible first | exact ⟨c0, y0⟩ | exact far2 hgd hgs c0 y0) (fail)
      have E2 := Lib.hid (E.out.put (k := a + 1) hgd hgs lx1)
      have G2 := Lib.hid (grown_drew (grown_setCell HG.out (p := ⟨gd, a + 1, none⟩) (.inl rfl) (.int .u8 (x1 : Int))))
      clear Ed c0 y0 z0 y1 z1 hq fq ix1 E HG
      generalize (wd2.setCell ⟨gd, a + 1, none⟩ (.int .u8 (x1 : Int))).drew = wd1 at *
      have E := E2
      have HG := G2
      clear E2 G2
      obtain ⟨N1, hN1⟩ : ∃ L, L = N2.set (a + 1) (UInt8.ofNat x1) := ⟨_, rfl⟩
      rw [← hN1] at E
      replace hl8 : N1.length = a + nd := by rw [hN1, List.length_set]; exact hl8
      have HN1 := Lib.hid hN1
      clear hN1
      have Ed := Lib.hid E.out.drew
      have c0 := Ed.out.str
      have y0 : wd1.drew.cell? ⟨gs, os, none⟩ = some (.int .u8 (d0 : Int)) := Ed.out.ys 0 (by simp)
      have z0 : wd1.cell? ⟨gs, os, none⟩ = some (.int .u8 (d0 : Int)) := y0
      have y1 : wd1.drew.cell? ⟨gs, os + 1, none⟩ = some (.int .u8 (d1 : Int)) := Ed.out.ys 1 (by simp)
      have z1 : wd1.cell? ⟨gs, os + 1, none⟩ = some (.int .u8 (d1 : Int)) := y1
      obtain ⟨q, hq⟩ : ∃ v, wd1.drew.cell? ⟨gd, a, none⟩ = some v := ⟨_, byteLies Ed.out.row (k := a) (by rw [hl8]; have := H0.out; omega)⟩
      have fq := Ed.out.row.free (a)
      go_wp2_with fail
      go_region_held3 (fun W => W.cell? ⟨g, 0, none⟩ = some (.string S) ∧ W.cell? ⟨gs, os, none⟩ = some (.int .u8 (d0 : Int))) (with_reducible first | exact ⟨c0, y0⟩ | exact far2 hgd hgs c0 y0) (fail)
      have E2 := Lib.hid (E.out.put (k := a) hgd hgs lx0)
      have G2 := Lib.hid (grown_drew (grown_setCell HG.out (p := ⟨gd, a, none⟩) (.inl rfl) (.int .u8 (x0 : Int))))
      clear Ed c0 y0 z0 y1 z1 hq fq ix0 E HG
      generalize (wd1.setCell ⟨gd, a, none⟩ (.int .u8 (x0 : Int))).drew = wd0 at *
      have E := E2
      have HG := G2
      clear E2 G2
      obtain ⟨N0, hN0⟩ : ∃ L, L = N1.set (a) (UInt8.ofNat x0) := ⟨_, rfl⟩
      rw [← hN0] at E
      replace hl8 : N0.length = a + nd := by rw [hN0, List.length_set]; exact hl8
      have HN0 := Lib.hid hN0
      clear hN0
      have cp := E.out.pad
      go_wp2_with fail
      go_end0
      refine ⟨rfl, ?_, HG.out⟩
      have hk := E.out.row
      rw [HN0.out, HN1.out, HN2.out, HN3.out, HL8.out, H0.out, sets2 Ha.out.symm] at hk
      rw [HF.out]
      exact hk
    · -- 3 bytes left
      obtain ⟨a0, a1, a2, rfl⟩ : ∃ a0 a1 a2, m = [a0, a1, a2] := by
        have := Hm.out
        match m, this with
        | [a0, a1, a2], _ => exact ⟨a0, a1, a2, rfl⟩
      have H0 := Lib.hid (show nd = 5 by have := Hnd.out; omega)
      obtain rfl : od = D.length := Hod.out (by rw [H0.out]; omega)
      obtain ⟨d0, hd0⟩ : ∃ d, d = a0.toNat := ⟨_, rfl⟩
      have b0 : d0 ≤ 255 := by have := UInt8.toNat_lt a0; omega
      obtain ⟨d1, hd1⟩ : ∃ d, d = a1.toNat := ⟨_, rfl⟩
      have b1 : d1 ≤ 255 := by have := UInt8.toNat_lt a1; omega
      obtain ⟨d2, hd2⟩ : ∃ d, d = a2.toNat := ⟨_, rfl⟩
      have b2 : d2 ≤ 255 := by have := UInt8.toNat_lt a2; omega
      have E := Lib.hid (show ET wc g gd gs os t S [d0, d1, d2] (D ++ List.replicate nd 0) from etStart hgd hgs HC.out HP.out (by simp [hd0, hd1, hd2]) HB.out HK.out HG.out)
      obtain ⟨x4, hx4⟩ : ∃ x : Nat, x = (B32.letter B32.alpha (d2 % 16 * 2)).toNat := ⟨_, rfl⟩
      have ix4 : ∀ W : World, (Instr.index 9 (.string S) (.int .u8 (bits .or .u8 0 (bits .and .u8 (IntKind.u8.wrap ((d2 : Int) * 2)) 31)))).run Tryz.prog W = .ok (.int .u8 (x4 : Int)) W := fun W => by rw [hx4]; exact letIdx HSt.out _ (d2 % 16 * 2) (q4z) (by omega) W
      have lx4 : x4 ≤ 255 := by rw [hx4]; have := UInt8.toNat_lt (B32.letter B32.alpha (d2 % 16 * 2)); omega
      obtain ⟨x3, hx3⟩ : ∃ x : Nat, x = (B32.letter B32.alpha (d1 % 2 * 16 + d2 / 16)).toNat := ⟨_, rfl⟩
      have ix3 : ∀ W : World, (Instr.index 9 (.string S) (.int .u8 (bits .or .u8 ((d2 : Int) / 16 % 32) (bits .and .u8 (IntKind.u8.wrap ((d1 : Int) * 16)) 31)))).run Tryz.prog W = .ok (.int .u8 (x3 : Int)) W := fun W => by rw [hx3]; exact letIdx HSt.out _ (d1 % 2 * 16 + d2 / 16) (q3 b2) (by omega) W
      have lx3 : x3 ≤ 255 := by rw [hx3]; have := UInt8.toNat_lt (B32.letter B32.alpha (d1 % 2 * 16 + d2 / 16)); omega
      obtain ⟨x2, hx2⟩ : ∃ x : Nat, x = (B32.letter B32.alpha (d1 / 2 % 32)).toNat := ⟨_, rfl⟩
      have ix2 : ∀ W : World, (Instr.index 9 (.string S) (.int .u8 (bits .and .u8 ((d1 : Int) / 2) 31))).run Tryz.prog W = .ok (.int .u8 (x2 : Int)) W := fun W => by rw [hx2]; exact letIdx HSt.out _ (d1 / 2 % 32) (p2 b1) (by omega) W
      have lx2 : x2 ≤ 255 := by rw [hx2]; have := UInt8.toNat_lt (B32.letter B32.alpha (d1 / 2 % 32)); omega
      obtain ⟨x1, hx1⟩ : ∃ x : Nat, x = (B32.letter B32.alpha (d0 % 8 * 4 + d1 / 64)).toNat := ⟨_, rfl⟩
      have ix1 : ∀ W : World, (Instr.index 9 (.string S) (.int .u8 (bits .or .u8 ((d1 : Int) / 64 % 32) (bits .and .u8 (IntKind.u8.wrap ((d0 : Int) * 4)) 31)))).run Tryz.prog W = .ok (.int .u8 (x1 : Int)) W := fun W => by rw [hx1]; exact letIdx HSt.out _ (d0 % 8 * 4 + d1 / 64) (q1 b1) (by omega) W
      have lx1 : x1 ≤ 255 := by rw [hx1]; have := UInt8.toNat_lt (B32.letter B32.alpha (d0 % 8 * 4 + d1 / 64)); omega
      obtain ⟨x0, hx0⟩ : ∃ x : Nat, x = (B32.letter B32.alpha (d0 / 8)).toNat := ⟨_, rfl⟩
      have ix0 : ∀ W : World, (Instr.index 9 (.string S) (.int .u8 ((d0 : Int) / 8))).run Tryz.prog W = .ok (.int .u8 (x0 : Int)) W := fun W => by rw [hx0]; exact letIdx HSt.out _ (d0 / 8) (by omega) (by omega) W
      have lx0 : x0 ≤ 255 := by rw [hx0]; have := UInt8.toNat_lt (B32.letter B32.alpha (d0 / 8)); omega
      have HF := Lib.hid (show B32.enc B32.alpha l = D ++ [UInt8.ofNat x0, UInt8.ofNat x1, UInt8.ofNat x2, UInt8.ofNat x3, UInt8.ofNat x4] by rw [HE.out, B32.five, hx0, hx1, hx2, hx3, hx4, hd0, hd1, hd2]; simp)
      clear hd0 hd1 hd2 hx0 hx1 hx2 hx3 hx4 HE HB HK HN Hn HDn Hnd Hm Hod
      have t0 : (0 : Int) < (nd : Int) := by have := H0.out; omega
      have t1 : (1 : Int) < (nd : Int) := by have := H0.out; omega
      have t2 : (2 : Int) < (nd : Int) := by have := H0.out; omega
      have t3 : (3 : Int) < (nd : Int) := by have := H0.out; omega
      have t4 : (4 : Int) < (nd : Int) := by have := H0.out; omega
      have tn : 0 < nd := by have := H0.out; omega
      obtain ⟨a, ha⟩ : ∃ a, a = D.length := ⟨_, rfl⟩
      have Ha := Lib.hid ha
      have hl8 : (D ++ List.replicate nd 0 : List UInt8).length = a + nd := by rw [ha]; simp
      obtain ⟨L8, hL8⟩ : ∃ L, L = D ++ List.replicate nd (0 : UInt8) := ⟨_, rfl⟩
      rw [← hL8] at E hl8
      rw [← ha]
      have HL8 := Lib.hid hL8
      clear ha hL8
      have Ed := Lib.hid E.out.drew
      have c0 := Ed.out.str
      have y0 : wc.drew.cell? ⟨gs, os, none⟩ = some (.int .u8 (d0 : Int)) := Ed.out.ys 0 (by simp)
      have z0 : wc.cell? ⟨gs, os, none⟩ = some (.int .u8 (d0 : Int)) := y0
      have y1 : wc.drew.cell? ⟨gs, os + 1, none⟩ = some (.int .u8 (d1 : Int)) := Ed.out.ys 1 (by simp)
      have z1 : wc.cell? ⟨gs, os + 1, none⟩ = some (.int .u8 (d1 : Int)) := y1
      have y2 : wc.drew.cell? ⟨gs, os + 2, none⟩ = some (.int .u8 (d2 : Int)) := Ed.out.ys 2 (by simp)
      have z2 : wc.cell? ⟨gs, os + 2, none⟩ = some (.int .u8 (d2 : Int)) := y2
      obtain ⟨q, hq⟩ : ∃ v, wc.drew.cell? ⟨gd, a + 4, none⟩ = some v := ⟨_, byteLies Ed.out.row (k := a + 4) (by rw [hl8]; have := H0.out; omega)⟩
      have fq := Ed.out.row.free (a + 4)
      go_wp2_with fail
      go_region_held3 (fun W => W.cell? ⟨g, 0, none⟩ = some (.string S) ∧ W.cell? ⟨gs, os + 2, none⟩ = some (.int .u8 (d2 : Int))) (with_reducible first | exact ⟨c0, y2⟩ | exact far2 hgd hgs c0 y2) (fail)
      have E2 := Lib.hid (E.out.put (k := a + 4) hgd hgs lx4)
      have G2 := Lib.hid (grown_drew (grown_setCell HG.out (p := ⟨gd, a + 4, none⟩) (.inl rfl) (.int .u8 (x4 : Int))))
      clear Ed c0 y0 z0 y1 z1 y2 z2 hq fq ix4 E HG
      generalize (wc.setCell ⟨gd, a + 4, none⟩ (.int .u8 (x4 : Int))).drew = wd4 at *
      have E := E2
      have HG := G2
      clear E2 G2
      obtain ⟨N4, hN4⟩ : ∃ L, L = L8.set (a + 4) (UInt8.ofNat x4) := ⟨_, rfl⟩
      rw [← hN4] at E
      replace hl8 : N4.length = a + nd := by rw [hN4, List.length_set]; exact hl8
      have HN4 := Lib.hid hN4
      clear hN4
      have Ed := Lib.hid E.out.drew
      have c0 := Ed.out.str
      have y0 : wd4.drew.cell? ⟨gs, os, none⟩ = some (.int .u8 (d0 : Int)) := Ed.out.ys 0 (by simp)
      have z0 : wd4.cell? ⟨gs, os, none⟩ = some (.int .u8 (d0 : Int)) := y0
      have y1 : wd4.drew.cell? ⟨gs, os + 1, none⟩ = some (.int .u8 (d1 : Int)) := Ed.out.ys 1 (by simp)
      have z1 : wd4.cell? ⟨gs, os + 1, none⟩ = some (.int .u8 (d1 : Int)) := y1
      have y2 : wd4.drew.cell? ⟨gs, os + 2, none⟩ = some (.int .u8 (d2 : Int)) := Ed.out.ys 2 (by simp)
      have z2 : wd4.cell? ⟨gs, os + 2, none⟩ = some (.int .u8 (d2 : Int)) := y2
      obtain ⟨q, hq⟩ : ∃ v, wd4.drew.cell? ⟨gd, a + 3, none⟩ = some v := ⟨_, byteLies Ed.out.row (k := a + 3) (by rw [hl8]; have := H0.out; omega)⟩
      have fq := Ed.out.row.free (a + 3)
      go_wp2_with fail
      go_region_held3 (fun W => W.cell? ⟨g, 0, none⟩ = some (.string S) ∧ W.cell? ⟨gs, os + 1, none⟩ = some (.int .u8 (d1 : Int))) (with_reducible first | exact ⟨c0, y1⟩ | exact far2 hgd hgs c0 y1) (fail)
      have E2 := Lib.hid (E.out.put (k := a + 3) hgd hgs lx3)
      have G2 := Lib.hid (grown_drew (grown_setCell HG.out (p := ⟨gd, a + 3, none⟩) (.inl rfl) (.int .u8 (x3 : Int))))
      clear Ed c0 y0 z0 y1 z1 y2 z2 hq fq ix3 E HG
      generalize (wd4.setCell ⟨gd, a + 3, none⟩ (.int .u8 (x3 : Int))).drew = wd3 at *
      have E := E2
      have HG := G2
      clear E2 G2
      obtain ⟨N3, hN3⟩ : ∃ L, L = N4.set (a + 3) (UInt8.ofNat x3) := ⟨_, rfl⟩
      rw [← hN3] at E
      replace hl8 : N3.length = a + nd := by rw [hN3, List.length_set]; exact hl8
      have HN3 := Lib.hid hN3
      clear hN3
      have Ed := Lib.hid E.out.drew
      have c0 := Ed.out.str
      have y0 : wd3.drew.cell? ⟨gs, os, none⟩ = some (.int .u8 (d0 : Int)) := Ed.out.ys 0 (by simp)
      have z0 : wd3.cell? ⟨gs, os, none⟩ = some (.int .u8 (d0 : Int)) := y0
      have y1 : wd3.drew.cell? ⟨gs, os + 1, none⟩ = some (.int .u8 (d1 : Int)) := Ed.out.ys 1 (by simp)
      have z1 : wd3.cell? ⟨gs, os + 1, none⟩ = some (.int .u8 (d1 : Int)) := y1
      have y2 : wd3.drew.cell? ⟨gs, os + 2, none⟩ = some (.int .u8 (d2 : Int)) := Ed.out.ys 2 (by simp)
      have z2 : wd3.cell? ⟨gs, os + 2, none⟩ = some (.int .u8 (d2 : Int)) := y2
      obtain ⟨q, hq⟩ : ∃ v, wd3.drew.cell? ⟨gd, a + 2, none⟩ = some v := ⟨_, byteLies Ed.out.row (k := a + 2) (by rw [hl8]; have := H0.out; omega)⟩
      have fq := Ed.out.row.free (a + 2)
      go_wp2_with fail
      go_region_held3 (fun W => W.cell? ⟨g, 0, none⟩ = some (.string S) ∧ W.cell? ⟨gs, os + 1, none⟩ = some (.int .u8 (d1 : Int))) (with_reducible first | exact ⟨c0, y1⟩ | exact far2 hgd hgs c0 y1) (fail)
      have E2 := Lib.hid (E.out.put (k := a + 2) hgd hgs lx2)
      have G2 := Lib.hid (grown_drew (grown_setCell HG.out (p := ⟨gd, a + 2, none⟩) (.inl rfl) (.int .u8 (x2 : Int))))
      clear Ed c0 y0 z0 y1 z1 y2 z2 hq fq ix2 E HG
      generalize (wd3.setCell ⟨gd, a + 2, none⟩ (.int .u8 (x2 : Int))).drew = wd2 at *
      have E := E2
      have HG := G2
      clear E2 G2
      obtain ⟨N2, hN2⟩ : ∃ L, L = N3.set (a + 2) (UInt8.ofNat x2) := ⟨_, rfl⟩
      rw [← hN2] at E
      replace hl8 : N2.length = a + nd := by rw [hN2, List.length_set]; exact hl8
      have HN2 := Lib.hid hN2
      clear hN2
      have Ed := Lib.hid E.out.drew
      have c0 := Ed.out.str
      have y0 : wd2.drew.cell? ⟨gs, os, none⟩ = some (.int .u8 (d0 : Int)) := Ed.out.ys 0 (by simp)
      have z0 : wd2.cell? ⟨gs, os, none⟩ = some (.int .u8 (d0 : Int)) := y0
      have y1 : wd2.drew.cell? ⟨gs, os + 1, none⟩ = some (.int .u8 (d1 : Int)) := Ed.out.ys 1 (by simp)
      have z1 : wd2.cell? ⟨gs, os + 1, none⟩ = some (.int .u8 (d1 : Int)) := y1
      have y2 : wd2.drew.cell? ⟨gs, os + 2, none⟩ = some (.int .u8 (d2 : Int)) := Ed.out.ys 2 (by simp)
      have z2 : wd2.cell? ⟨gs, os + 2, none⟩ = some (.int .u8 (d2 : Int)) := y2
      obtain ⟨q, hq⟩ : ∃ v, wd2.drew.cell? ⟨gd, a + 1, none⟩ = some v := ⟨_, byteLies Ed.out.row (k := a + 1) (by rw [hl8]; have := H0.out; omega)⟩
      have fq := Ed.out.row.free (a + 1)
      go_wp2_with fail
      go_region_held3 (fun W => W.cell? ⟨g, 0, none⟩ = some (.string S) ∧ W.cell? ⟨gs, os, none⟩ = some (.int .u8 (d0 : Int))) (with_reducible first | exact ⟨c0, y0⟩ | exact far2 hgd hgs c0 y0) (fail)
      have E2 := Lib.hid (E.out.put (k := a + 1) hgd hgs lx1)
      have G2 := Lib.hid (grown_drew (grown_setCell HG.out (p := ⟨gd, a + 1, none⟩) (.inl rfl) (.int .u8 (x1 : Int))))
      clear Ed c0 y0 z0 y1 z1 y2 z2 hq fq ix1 E HG
      generalize (wd2.setCell ⟨gd, a + 1, none⟩ (.int .u8 (x1 : Int))).drew = wd1 at *
      have E := E2
      have HG := G2
      clear E2 G2
      obtain ⟨N1, hN1⟩ : ∃ L, L = N2.set (a + 1) (UInt8.ofNat x1) := ⟨_, rfl⟩
      rw [← hN1] at E
      replace hl8 : N1.length = a + nd := by rw [hN1, List.length_set]; exact hl8
      have HN1 := Lib.hid hN1
      clear hN1
      have Ed := Lib.hid E.out.drew
      have c0 := Ed.out.str
      have y0 : wd1.drew.cell? ⟨gs, os, none⟩ = some (.int .u8 (d0 : Int)) := Ed.out.ys 0 (by simp)
      have z0 : wd1.cell? ⟨gs, os, none⟩ = some (.int .u8 (d0 : Int)) := y0
      have y1 : wd1.drew.cell? ⟨gs, os + 1, none⟩ = some (.int .u8 (d1 : Int)) := Ed.out.ys 1 (by simp)
      have z1 : wd1.cell? ⟨gs, os + 1, none⟩ = some (.int .u8 (d1 : Int)) := y1
      have y2 : wd1.drew.cell? ⟨gs, os + 2, none⟩ = some (.int .u8 (d2 : Int)) := Ed.out.ys 2 (by simp)
      have z2 : wd1.cell? ⟨gs, os + 2, none⟩ = some (.int .u8 (d2 : Int)) := y2
      obtain ⟨q, hq⟩ : ∃ v, wd1.drew.cell? ⟨gd, a, none⟩ = some v := ⟨_, byteLies Ed.out.row (k := a) (by rw [hl8]; have := H0.out; omega)⟩
      have fq := Ed.out.row.free (a)
      go_wp2_with fail
      go_region_held3 (fun W => W.cell? ⟨g, 0, none⟩ = some (.string S) ∧ W.cell? ⟨gs, os, none⟩ = some (.int .u8 (d0 : Int))) (with_reducible first | exact ⟨c0, y0⟩ | exact far2 hgd hgs c0 y0) (fail)
      have E2 := Lib.hid (E.out.put (k := a) hgd hgs lx0)
      have G2 := Lib.hid (grown_drew (grown_setCell HG.out (p := ⟨gd, a, none⟩) (.inl rfl) (.int .u8 (x0 : Int))))
      clear Ed c0 y0 z0 y1 z1 y2 z2 hq fq ix0 E HG
      generalize (wd1.setCell ⟨gd, a, none⟩ (.int .u8 (x0 : Int))).drew = wd0 at *
      have E := E2
      have HG := G2
      clear E2 G2
      obtain ⟨N0, hN0⟩ : ∃ L, L = N1.set (a) (UInt8.ofNat x0) := ⟨_, rfl⟩
      rw [← hN0] at E
      replace hl8 : N0.length = a + nd := by rw [hN0, List.length_set]; exact hl8
      have HN0 := Lib.hid hN0
      clear hN0
      have cp := E.out.pad
      go_wp2_with fail
      go_end0
      refine ⟨rfl, ?_, HG.out⟩
      have hk := E.out.row
      rw [HN0.out, HN1.out, HN2.out, HN3.out, HN4.out, HL8.out, H0.out, sets3 Ha.out.symm] at hk
      rw [HF.out]
      exact hk
    · -- 4 bytes left
      obtain ⟨a0, a1, a2, a3, rfl⟩ : ∃ a0 a1 a2 a3, m = [a0, a1, a2, a3] := by
        have := Hm.out
        match m, this with
        | [a0, a1, a2, a3], _ => exact ⟨a0, a1, a2, a3, rfl⟩
      have H0 := Lib.hid (show nd = 7 by have := Hnd.out; omega)
      obtain rfl : od = D.length := Hod.out (by rw [H0.out]; omega)
      obtain ⟨d0, hd0⟩ : ∃ d, d = a0.toNat := ⟨_, rfl⟩
      have b0 : d0 ≤ 255 := by have := UInt8.toNat_lt a0; omega
      obtain ⟨d1, hd1⟩ : ∃ d, d = a1.toNat := ⟨_, rfl⟩
      have b1 : d1 ≤ 255 := by have := UInt8.toNat_lt a1; omega
      obtain ⟨d2, hd2⟩ : ∃ d, d = a2.toNat := ⟨_, rfl⟩
      have b2 : d2 ≤ 255 := by have := UInt8.toNat_lt a2; omega
      obtain ⟨d3, hd3⟩ : ∃ d, d = a3.toNat := ⟨_, rfl⟩
      have b3 : d3 ≤ 255 := by have := UInt8.toNat_lt a3; omega
      have E := Lib.hid (show ET wc g gd gs os t S [d0, d1, d2, d3] (D ++ List.replicate nd 0) from etStart hgd hgs HC.out HP.out (by simp [hd0, hd1, hd2, hd3]) HB.out HK.out HG.out)
      obtain ⟨x6, hx6⟩ : ∃ x : Nat, x = (B32.letter B32.alpha (d3 % 4 * 8)).toNat := ⟨_, rfl⟩
      have ix6 : ∀ W : World, (Instr.index 9 (.string S) (.int .u8 (bits .and .u8 (IntKind.u8.wrap ((d3 : Int) * 8)) 31))).run Tryz.prog W = .ok (.int .u8 (x6 : Int)) W := fun W => by rw [hx6]; exact letIdx HSt.out _ (d3 % 4 * 8) (q6) (by omega) W
      have lx6 : x6 ≤ 255 := by rw [hx6]; have := UInt8.toNat_lt (B32.letter B32.alpha (d3 % 4 * 8)); omega
      obtain ⟨x5, hx5⟩ : ∃ x : Nat, x = (B32.letter B32.alpha (d3 / 4 % 32)).toNat := ⟨_, rfl⟩
      have ix5 : ∀ W : World, (Instr.index 9 (.string S) (.int .u8 (bits .and .u8 ((d3 : Int) / 4) 31))).run Tryz.prog W = .ok (.int .u8 (x5 : Int)) W := fun W => by rw [hx5]; exact letIdx HSt.out _ (d3 / 4 % 32) (p5 b3) (by omega) W
      have lx5 : x5 ≤ 255 := by rw [hx5]; have := UInt8.toNat_lt (B32.letter B32.alpha (d3 / 4 % 32)); omega
      obtain ⟨x4, hx4⟩ : ∃ x : Nat, x = (B32.letter B32.alpha (d2 % 16 * 2 + d3 / 128)).toNat := ⟨_, rfl⟩
      have ix4 : ∀ W : World, (Instr.index 9 (.string S) (.int .u8 (bits .or .u8 ((d3 : Int) / 128) (bits .and .u8 (IntKind.u8.wrap ((d2 : Int) * 2)) 31)))).run Tryz.prog W = .ok (.int .u8 (x4 : Int)) W := fun W => by rw [hx4]; exact letIdx HSt.out _ (d2 % 16 * 2 + d3 / 128) (p4 b2 b3) (by omega) W
      have lx4 : x4 ≤ 255 := by rw [hx4]; have := UInt8.toNat_lt (B32.letter B32.alpha (d2 % 16 * 2 + d3 / 128)); omega
      obtain ⟨x3, hx3⟩ : ∃ x : Nat, x = (B32.letter B32.alpha (d1 % 2 * 16 + d2 / 16)).toNat := ⟨_, rfl⟩
      have ix3 : ∀ W : World, (Instr.index 9 (.string S) (.int .u8 (bits .or .u8 ((d2 : Int) / 16 % 32) (bits .and .u8 (IntKind.u8.wrap ((d1 : Int) * 16)) 31)))).run Tryz.prog W = .ok (.int .u8 (x3 : Int)) W := fun W => by rw [hx3]; exact letIdx HSt.out _ (d1 % 2 * 16 + d2 / 16) (q3 b2) (by omega) W
      have lx3 : x3 ≤ 255 := by rw [hx3]; have := UInt8.toNat_lt (B32.letter B32.alpha (d1 % 2 * 16 + d2 / 16)); omega
      obtain ⟨x2, hx2⟩ : ∃ x : Nat, x = (B32.letter B32.alpha (d1 / 2 % 32)).toNat := ⟨_, rfl⟩
      have ix2 : ∀ W : World, (Instr.index 9 (.string S) (.int .u8 (bits .and .u8 ((d1 : Int) / 2) 31))).run Tryz.prog W = .ok (.int .u8 (x2 : Int)) W := fun W => by rw [hx2]; exact letIdx HSt.out _ (d1 / 2 % 32) (p2 b1) (by omega) W
      have lx2 : x2 ≤ 255 := by rw [hx2]; have := UInt8.toNat_lt (B32.letter B32.alpha (d1 / 2 % 32)); omega
      obtain ⟨x1, hx1⟩ : ∃ x : Nat, x = (B32.letter B32.alpha (d0 % 8 * 4 + d1 / 64)).toNat := ⟨_, rfl⟩
      have ix1 : ∀ W : World, (Instr.index 9 (.string S) (.int .u8 (bits .or .u8 ((d1 : Int) / 64 % 32) (bits .and .u8 (IntKind.u8.wrap ((d0 : Int) * 4)) 31)))).run Tryz.prog W = .ok (.int .u8 (x1 : Int)) W := fun W => by rw [hx1]; exact letIdx HSt.out _ (d0 % 8 * 4 + d1 / 64) (q1 b1) (by omega) W
      have lx1 : x1 ≤ 255 := by rw [hx1]; have := UInt8.toNat_lt (B32.letter B32.alpha (d0 % 8 * 4 + d1 / 64)); omega
      obtain ⟨x0, hx0⟩ : ∃ x : Nat, x = (B32.letter B32.alpha (d0 / 8)).toNat := ⟨_, rfl⟩
      have ix0 : ∀ W : World, (Instr.index 9 (.string S) (.int .u8 ((d0 : Int) / 8))).run Tryz.prog W = .ok (.int .u8 (x0 : Int)) W := fun W => by rw [hx0]; exact letIdx HSt.out _ (d0 / 8) (by omega) (by omega) W
      have lx0 : x0 ≤ 255 := by rw [hx0]; have := UInt8.toNat_lt (B32.letter B32.alpha (d0 / 8)); omega
      have HF := Lib.hid (show B32.enc B32.alpha l = D ++ [UInt8.ofNat x0, UInt8.ofNat x1, UInt8.ofNat x2, UInt8.ofNat x3, UInt8.ofNat x4, UInt8.ofNat x5, UInt8.ofNat x6] by rw [HE.out, B32.five, hx0, hx1, hx2, hx3, hx4, hx5, hx6, hd0, hd1, hd2, hd3]; simp)
      clear hd0 hd1 hd2 hd3 hx0 hx1 hx2 hx3 hx4 hx5 hx6 HE HB HK HN Hn HDn Hnd Hm Hod
      have t0 : (0 : Int) < (nd : Int) := by have := H0.out; omega
      have t1 : (1 : Int) < (nd : Int) := by have := H0.out; omega
      have t2 : (2 : Int) < (nd : Int) := by have := H0.out; omega
      have t3 : (3 : Int) < (nd : Int) := by have := H0.out; omega
      have t4 : (4 : Int) < (nd : Int) := by have := H0.out; omega
      have t5 : (5 : Int) < (nd : Int) := by have := H0.out; omega
      have t6 : (6 : Int) < (nd : Int) := by have := H0.out; omega
      have tn : 0 < nd := by have := H0.out; omega
      obtain ⟨a, ha⟩ : ∃ a, a = D.length := ⟨_, rfl⟩
      have Ha := Lib.hid ha
      have hl8 : (D ++ List.replicate nd 0 : List UInt8).length = a + nd := by rw [ha]; simp
      obtain ⟨L8, hL8⟩ : ∃ L, L = D ++ List.replicate nd (0 : UInt8) := ⟨_, rfl⟩
      rw [← hL8] at E hl8
      rw [← ha]
      have HL8 := Lib.hid hL8
      clear ha hL8
      have Ed := Lib.hid E.out.drew
      have c0 := Ed.out.str
      have y0 : wc.drew.cell? ⟨gs, os, none⟩ = some (.int .u8 (d0 : Int)) := Ed.out.ys 0 (by simp)
      have z0 : wc.cell? ⟨gs, os, none⟩ = some (.int .u8 (d0 : Int)) := y0
      have y1 : wc.drew.cell? ⟨gs, os + 1, none⟩ = some (.int .u8 (d1 : Int)) := Ed.out.ys 1 (by simp)
      have z1 : wc.cell? ⟨gs, os + 1, none⟩ = some (.int .u8 (d1 : Int)) := y1
      have y2 : wc.drew.cell? ⟨gs, os + 2, none⟩ = some (.int .u8 (d2 : Int)) := Ed.out.ys 2 (by simp)
      have z2 : wc.cell? ⟨gs, os + 2, none⟩ = some (.int .u8 (d2 : Int)) := y2
      have y3 : wc.drew.cell? ⟨gs, os + 3, none⟩ = some (.int .u8 (d3 : Int)) := Ed.out.ys 3 (by simp)
      have z3 : wc.cell? ⟨gs, os + 3, none⟩ = some (.int .u8 (d3 : Int)) := y3
      obtain ⟨q, hq⟩ : ∃ v, wc.drew.cell? ⟨gd, a + 6, none⟩ = some v := ⟨_, byteLies Ed.out.row (k := a + 6) (by rw [hl8]; have := H0.out; omega)⟩
      have fq := Ed.out.row.free (a + 6)
      go_wp2_with fail
      go_region_held3 (fun W => W.cell? ⟨g, 0, none⟩ = some (.string S) ∧ W.cell? ⟨gs, os + 3, none⟩ = some (.int .u8 (d3 : Int))) (with_reducible first | exact ⟨c0, y3⟩ | exact far2 hgd hgs c0 y3) (fail)
      have E2 := Lib.hid (E.out.put (k := a + 6) hgd hgs lx6)
      have G2 := Lib.hid (grown_drew (grown_setCell HG.out (p := ⟨gd, a + 6, none⟩) (.inl rfl) (.int .u8 (x6 : Int))))
      clear Ed c0 y0 z0 y1 z1 y2 z2 y3 z3 hq fq ix6 E HG
      generalize (wc.setCell ⟨gd, a + 6, none⟩ (.int .u8 (x6 : Int))).drew = wd6 at *
      have E := E2
      have HG := G2
      clear E2 G2
      obtain ⟨N6, hN6⟩ : ∃ L, L = L8.set (a + 6) (UInt8.ofNat x6) := ⟨_, rfl⟩
      rw [← hN6] at E
      replace hl8 : N6.length = a + nd := by rw [hN6, List.length_set]; exact hl8
      have HN6 := Lib.hid hN6
      clear hN6
      have Ed := Lib.hid E.out.drew
      have c0 := Ed.out.str
      have y0 : wd6.drew.cell? ⟨gs, os, none⟩ = some (.int .u8 (d0 : Int)) := Ed.out.ys 0 (by simp)
      have z0 : wd6.cell? ⟨gs, os, none⟩ = some (.int .u8 (d0 : Int)) := y0
      have y1 : wd6.drew.cell? ⟨gs, os + 1, none⟩ = some (.int .u8 (d1 : Int)) := Ed.out.ys 1 (by simp)
      have z1 : wd6.cell? ⟨gs, os + 1, none⟩ = some (.int .u8 (d1 : Int)) := y1
      have y2 : wd6.drew.cell? ⟨gs, os + 2, none⟩ = some (.int .u8 (d2 : Int)) := Ed.out.ys 2 (by simp)
      have z2 : wd6.cell? ⟨gs, os + 2, none⟩ = some (.int .u8 (d2 : Int)) := y2
      have y3 : wd6.drew.cell? ⟨gs, os + 3, none⟩ = some (.int .u8 (d3 : Int)) := Ed.out.ys 3 (by simp)
      have z3 : wd6.cell? ⟨gs, os + 3, none⟩ = some (.int .u8 (d3 : Int)) := y3
      obtain ⟨q, hq⟩ : ∃ v, wd6.drew.cell? ⟨gd, a + 5, none⟩ = some v := ⟨_, byteLies Ed.out.row (k := a + 5) (by rw [hl8]; have := H0.out; omega)⟩
      have fq := Ed.out.row.free (a + 5)
      go_wp2_with fail
      go_region_held3 (fun W => W.cell? ⟨g, 0, none⟩ = some (.string S) ∧ W.cell? ⟨gs, os + 3, none⟩ = some (.int .u8 (d3 : Int))) (with_reducible first | exact ⟨c0, y3⟩ | exact far2 hgd hgs c0 y3) (fail)
      have E2 := Lib.hid (E.out.put (k := a + 5) hgd hgs lx5)
      have G2 := Lib.hid (grown_drew (grown_setCell HG.out (p := ⟨gd, a + 5, none⟩) (.inl rfl) (.int .u8 (x5 : Int))))
      clear Ed c0 y0 z0 y1 z1 y2 z2 y3 z3 hq fq ix5 E HG
      generalize (wd6.setCell ⟨gd, a + 5, none⟩ (.int .u8 (x5 : Int))).drew = wd5 at *
      have E := E2
      have HG := G2
      clear E2 G2
      obtain ⟨N5, hN5⟩ : ∃ L, L = N6.set (a + 5) (UInt8.ofNat x5) := ⟨_, rfl⟩
      rw [← hN5] at E
      replace hl8 : N5.length = a + nd := by rw [hN5, List.length_set]; exact hl8
      have HN5 := Lib.hid hN5
      clear hN5
      have Ed := Lib.hid E.out.drew
      have c0 := Ed.out.str
      have y0 : wd5.drew.cell? ⟨gs, os, none⟩ = some (.int .u8 (d0 : Int)) := Ed.out.ys 0 (by simp)
      have z0 : wd5.cell? ⟨gs, os, none⟩ = some (.int .u8 (d0 : Int)) := y0
      have y1 : wd5.drew.cell? ⟨gs, os + 1, none⟩ = some (.int .u8 (d1 : Int)) := Ed.out.ys 1 (by simp)
      have z1 : wd5.cell? ⟨gs, os + 1, none⟩ = some (.int .u8 (d1 : Int)) := y1
      have y2 : wd5.drew.cell? ⟨gs, os + 2, none⟩ = some (.int .u8 (d2 : Int)) := Ed.out.ys 2 (by simp)
      have z2 : wd5.cell? ⟨gs, os + 2, none⟩ = some (.int .u8 (d2 : Int)) := y2
      have y3 : wd5.drew.cell? ⟨gs, os + 3, none⟩ = some (.int .u8 (d3 : Int)) := Ed.out.ys 3 (by simp)
      have z3 : wd5.cell? ⟨gs, os + 3, none⟩ = some (.int .u8 (d3 : Int)) := y3
      obtain ⟨q, hq⟩ : ∃ v, wd5.drew.cell? ⟨gd, a + 4, none⟩ = some v := ⟨_, byteLies Ed.out.row (k := a + 4) (by rw [hl8]; have := H0.out; omega)⟩
      have fq := Ed.out.row.free (a + 4)
      go_wp2_with fail
      go_region_held3 (fun W => W.cell? ⟨g, 0, none⟩ = some (.string S) ∧ W.cell? ⟨gs, os + 2, none⟩ = some (.int .u8 (d2 : Int))) (with_reducible first | exact ⟨c0, y2⟩ | exact far2 hgd hgs c0 y2) (fail)
      have E2 := Lib.hid (E.out.put (k := a + 4) hgd hgs lx4)
      have G2 := Lib.hid (grown_drew (grown_setCell HG.out (p := ⟨gd, a + 4, none⟩) (.inl rfl) (.int .u8 (x4 : Int))))
      clear Ed c0 y0 z0 y1 z1 y2 z2 y3 z3 hq fq ix4 E HG
      generalize (wd5.setCell ⟨gd, a + 4, none⟩ (.int .u8 (x4 : Int))).drew = wd4 at *
      have E := E2
      have HG := G2
      clear E2 G2
      obtain ⟨N4, hN4⟩ : ∃ L, L = N5.set (a + 4) (UInt8.ofNat x4) := ⟨_, rfl⟩
      rw [← hN4] at E
      replace hl8 : N4.length = a + nd := by rw [hN4, List.length_set]; exact hl8
      have HN4 := Lib.hid hN4
      clear hN4
      have Ed := Lib.hid E.out.drew
      have c0 := Ed.out.str
      have y0 : wd4.drew.cell? ⟨gs, os, none⟩ = some (.int .u8 (d0 : Int)) := Ed.out.ys 0 (by simp)
      have z0 : wd4.cell? ⟨gs, os, none⟩ = some (.int .u8 (d0 : Int)) := y0
      have y1 : wd4.drew.cell? ⟨gs, os + 1, none⟩ = some (.int .u8 (d1 : Int)) := Ed.out.ys 1 (by simp)
      have z1 : wd4.cell? ⟨gs, os + 1, none⟩ = some (.int .u8 (d1 : Int)) := y1
      have y2 : wd4.drew.cell? ⟨gs, os + 2, none⟩ = some (.int .u8 (d2 : Int)) := Ed.out.ys 2 (by simp)
      have z2 : wd4.cell? ⟨gs, os + 2, none⟩ = some (.int .u8 (d2 : Int)) := y2
      have y3 : wd4.drew.cell? ⟨gs, os + 3, none⟩ = some (.int .u8 (d3 : Int)) := Ed.out.ys 3 (by simp)
      have z3 : wd4.cell? ⟨gs, os + 3, none⟩ = some (.int .u8 (d3 : Int)) := y3
      obtain ⟨q, hq⟩ : ∃ v, wd4.drew.cell? ⟨gd, a + 3, none⟩ = some v := ⟨_, byteLies Ed.out.row (k := a + 3) (by rw [hl8]; have := H0.out; omega)⟩
      have fq := Ed.out.row.free (a + 3)
      go_wp2_with fail
      go_region_held3 (fun W => W.cell? ⟨g, 0, none⟩ = some (.string S) ∧ W.cell? ⟨gs, os + 1, none⟩ = some (.int .u8 (d1 : Int))) (with_reducible first | exact ⟨c0, y1⟩ | exact far2 hgd hgs c0 y1) (fail)
      have E2 := Lib.hid (E.out.put (k := a + 3) hgd hgs lx3)
      have G2 := Lib.hid (grown_drew (grown_setCell HG.out (p := ⟨gd, a + 3, none⟩) (.inl rfl) (.int .u8 (x3 : Int))))
      clear Ed c0 y0 z0 y1 z1 y2 z2 y3 z3 hq fq ix3 E HG
      generalize (wd4.setCell ⟨gd, a + 3, none⟩ (.int .u8 (x3 : Int))).drew = wd3 at *
      have E := E2
      have HG := G2
      clear E2 G2
      obtain ⟨N3, hN3⟩ : ∃ L, L = N4.set (a + 3) (UInt8.ofNat x3) := ⟨_, rfl⟩
      rw [← hN3] at E
      replace hl8 : N3.length = a + nd := by rw [hN3, List.length_set]; exact hl8
      have HN3 := Lib.hid hN3
      clear hN3
      have Ed := Lib.hid E.out.drew
      have c0 := Ed.out.str
      have y0 : wd3.drew.cell? ⟨gs, os, none⟩ = some (.int .u8 (d0 : Int)) := Ed.out.ys 0 (by simp)
      have z0 : wd3.cell? ⟨gs, os, none⟩ = some (.int .u8 (d0 : Int)) := y0
      have y1 : wd3.drew.cell? ⟨gs, os + 1, none⟩ = some (.int .u8 (d1 : Int)) := Ed.out.ys 1 (by simp)
      have z1 : wd3.cell? ⟨gs, os + 1, none⟩ = some (.int .u8 (d1 : Int)) := y1
      have y2 : wd3.drew.cell? ⟨gs, os + 2, none⟩ = some (.int .u8 (d2 : Int)) := Ed.out.ys 2 (by simp)
      have z2 : wd3.cell? ⟨gs, os + 2, none⟩ = some (.int .u8 (d2 : Int)) := y2
      have y3 : wd3.drew.cell? ⟨gs, os + 3, none⟩ = some (.int .u8 (d3 : Int)) := Ed.out.ys 3 (by simp)
      have z3 : wd3.cell? ⟨gs, os + 3, none⟩ = some (.int .u8 (d3 : Int)) := y3
      obtain ⟨q, hq⟩ : ∃ v, wd3.drew.cell? ⟨gd, a + 2, none⟩ = some v := ⟨_, byteLies Ed.out.row (k := a + 2) (by rw [hl8]; have := H0.out; omega)⟩
      have fq := Ed.out.row.free (a + 2)
      go_wp2_with fail
      go_region_held3 (fun W => W.cell? ⟨g, 0, none⟩ = some (.string S) ∧ W.cell? ⟨gs, os + 1, none⟩ = some (.int .u8 (d1 : Int))) (with_reducible first | exact ⟨c0, y1⟩ | exact far2 hgd hgs c0 y1) (fail)
      have E2 := Lib.hid (E.out.put (k := a + 2) hgd hgs lx2)
      have G2 := Lib.hid (grown_drew (grown_setCell HG.out (p := ⟨gd, a + 2, none⟩) (.inl rfl) (.int .u8 (x2 : Int))))
      clear Ed c0 y0 z0 y1 z1 y2 z2 y3 z3 hq fq ix2 E HG
      generalize (wd3.setCell ⟨gd, a + 2, none⟩ (.int .u8 (x2 : Int))).drew = wd2 at *
      have E := E2
      have HG := G2
      clear E2 G2
      obtain ⟨N2, hN2⟩ : ∃ L, L = N3.set (a + 2) (UInt8.ofNat x2) := ⟨_, rfl⟩
      rw [← hN2] at E
      replace hl8 : N2.length = a + nd := by rw [hN2, List.length_set]; exact hl8
      have HN2 := Lib.hid hN2
      clear hN2
      have Ed := Lib.hid E.out.drew
      have c0 := Ed.out.str
      have y0 : wd2.drew.cell? ⟨gs, os, none⟩ = some (.int .u8 (d0 : Int)) := Ed.out.ys 0 (by simp)
      have z0 : wd2.cell? ⟨gs, os, none⟩ = some (.int .u8 (d0 : Int)) := y0
      have y1 : wd2.drew.cell? ⟨gs, os + 1, none⟩ = some (.int .u8 (d1 : Int)) := Ed.out.ys 1 (by simp)
      have z1 : wd2.cell? ⟨gs, os + 1, none⟩ = some (.int .u8 (d1 : Int)) := y1
      have y2 : wd2.drew.cell? ⟨gs, os + 2, none⟩ = some (.int .u8 (d2 : Int)) := Ed.out.ys 2 (by simp)
      have z2 : wd2.cell? ⟨gs, os + 2, none⟩ = some (.int .u8 (d2 : Int)) := y2
      have y3 : wd2.drew.cell? ⟨gs, os + 3, none⟩ = some (.int .u8 (d3 : Int)) := Ed.out.ys 3 (by simp)
      have z3 : wd2.cell? ⟨gs, os + 3, none⟩ = some (.int .u8 (d3 : Int)) := y3
      obtain ⟨q, hq⟩ : ∃ v, wd2.drew.cell? ⟨gd, a + 1, none⟩ = some v := ⟨_, byteLies Ed.out.row (k := a + 1) (by rw [hl8]; have := H0.out; omega)⟩
      have fq := Ed.out.row.free (a + 1)
      go_wp2_with fail
      go_region_held3 (fun W => W.cell? ⟨g, 0, none⟩ = some (.string S) ∧ W.cell? ⟨gs, os, none⟩ = some (.int .u8 (d0 : Int))) (with_reducible first | exact ⟨c0, y0⟩ | exact far2 hgd hgs c0 y0) (fail)
      have E2 := Lib.hid (E.out.put (k := a + 1) hgd hgs lx1)
      have G2 := Lib.hid (grown_drew (grown_setCell HG.out (p := ⟨gd, a + 1, none⟩) (.inl rfl) (.int .u8 (x1 : Int))))
      clear Ed c0 y0 z0 y1 z1 y2 z2 y3 z3 hq fq ix1 E HG
      generalize (wd2.setCell ⟨gd, a + 1, none⟩ (.int .u8 (x1 : Int))).drew = wd1 at *
      have E := E2
      have HG := G2
      clear E2 G2
      obtain ⟨N1, hN1⟩ : ∃ L, L = N2.set (a + 1) (UInt8.ofNat x1) := ⟨_, rfl⟩
      rw [← hN1] at E
      replace hl8 : N1.length = a + nd := by rw [hN1, List.length_set]; exact hl8
      have HN1 := Lib.hid hN1
      clear hN1
      have Ed := Lib.hid E.out.drew
      have c0 := Ed.out.str
      have y0 : wd1.drew.cell? ⟨gs, os, none⟩ = some (.int .u8 (d0 : Int)) := Ed.out.ys 0 (by simp)
      have z0 : wd1.cell? ⟨gs, os, none⟩ = some (.int .u8 (d0 : Int)) := y0
      have y1 : wd1.drew.cell? ⟨gs, os + 1, none⟩ = some (.int .u8 (d1 : Int)) := Ed.out.ys 1 (by simp)
      have z1 : wd1.cell? ⟨gs, os + 1, none⟩ = some (.int .u8 (d1 : Int)) := y1
      have y2 : wd1.drew.cell? ⟨gs, os + 2, none⟩ = some (.int .u8 (d2 : Int)) := Ed.out.ys 2 (by simp)
      have z2 : wd1.cell? ⟨gs, os + 2, none⟩ = some (.int .u8 (d2 : Int)) := y2
      have y3 : wd1.drew.cell? ⟨gs, os + 3, none⟩ = some (.int .u8 (d3 : Int)) := Ed.out.ys 3 (by simp)
      have z3 : wd1.cell? ⟨gs, os + 3, none⟩ = some (.int .u8 (d3 : Int)) := y3
      obtain ⟨q, hq⟩ : ∃ v, wd1.drew.cell? ⟨gd, a, none⟩ = some v := ⟨_, byteLies Ed.out.row (k := a) (by rw [hl8]; have := H0.out; omega)⟩
      have fq := Ed.out.row.free (a)
      go_wp2_with fail
      go_region_held3 (fun W => W.cell? ⟨g, 0, none⟩ = some (.string S) ∧ W.cell? ⟨gs, os, none⟩ = some (.int .u8 (d0 : Int))) (with_reducible first | exact ⟨c0, y0⟩ | exact far2 hgd hgs c0 y0) (fail)
      have E2 := Lib.hid (E.out.put (k := a) hgd hgs lx0)
      have G2 := Lib.hid (grown_drew (grown_setCell HG.out (p := ⟨gd, a, none⟩) (.inl rfl) (.int .u8 (x0 : Int))))
      clear Ed c0 y0 z0 y1 z1 y2 z2 y3 z3 hq fq ix0 E HG
      generalize (wd1.setCell ⟨gd, a, none⟩ (.int .u8 (x0 : Int))).drew = wd0 at *
      have E := E2
      have HG := G2
      clear E2 G2
      obtain ⟨N0, hN0⟩ : ∃ L, L = N1.set (a) (UInt8.ofNat x0) := ⟨_, rfl⟩
      rw [← hN0] at E
      replace hl8 : N0.length = a + nd := by rw [hN0, List.length_set]; exact hl8
      have HN0 := Lib.hid hN0
      clear hN0
      have cp := E.out.pad
      go_wp2_with fail
      go_end0
      refine ⟨rfl, ?_, HG.out⟩
      have hk := E.out.row
      rw [HN0.out, HN1.out, HN2.out, HN3.out, HN4.out, HN5.out, HN6.out, HL8.out, H0.out, sets4 Ha.out.symm] at hk
      rw [HF.out]
      exact hk
end
end Go.Proofs.YteodhonipbdplaaGreatDoor

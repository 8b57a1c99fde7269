/- The reference's shaBlock. -/
import Derived.Test.YteodhonipbdplaaGreatDoorMd04
import Derived.Deep.CutBlock
import Derived.Deep.DeepCutAuto
import Derived.Deep.RegionHeld3
import Derived.Deep.DrawnRows
import Derived.StillTailTactics

namespace Go.Proofs.YteodhonipbdplaaGreatDoor
open Go.RowKit
set_option maxRecDepth 100000
attribute [local go_sem ↓] Go.wp_at_zero Go.wp_at_succ
section
variable {w : World} {V : Sha.V} {A : Option Addr} {c : Nat} {l : List UInt8}
set_option maxHeartbeats 8000000 in
theorem shaBlock (hV : V.ok) (h : Bs w w.heap.size (.slice A 64 c) l) (hl : l.length = 64) :
    Calls Tryz.prog 47 #[.agg #[.int .u32 (V.a : Int), .int .u32 (V.b : Int), .int .u32 (V.c : Int), .int .u32 (V.d : Int), .int .u32 (V.e : Int), .int .u32 (V.f : Int), .int .u32 (V.g : Int), .int .u32 (V.h : Int)], .slice A 64 c] w fun e w' => e = .returned (.agg (u32s (Sha.block V l).list).toArray) ∧ Below w.heap.size w w' := by
  have H := Lib.hid h
  have HV := Lib.hid hV
  have Hl := Lib.hid hl
  clear h hV hl
  go_enter Tryz.func47, Tryz.ntmps47
  go_upto_block 0 with fail
  obtain ⟨w1, hw1⟩ : ∃ w1, w1 = ((w.alloc (.cells #[.int .u32 (V.a : Int), .int .u32 (V.b : Int), .int .u32 (V.c : Int), .int .u32 (V.d : Int), .int .u32 (V.e : Int), .int .u32 (V.f : Int), .int .u32 (V.g : Int), .int .u32 (V.h : Int)] 64)).alloc (.cells #[.int .u32 0, .int .u32 0, .int .u32 0, .int .u32 0, .int .u32 0, .int .u32 0, .int .u32 0, .int .u32 0] 64)).alloc (.cells #[.int .u32 0, .int .u32 0, .int .u32 0, .int .u32 0, .int .u32 0, .int .u32 0, .int .u32 0, .int .u32 0, .int .u32 0, .int .u32 0, .int .u32 0, .int .u32 0, .int .u32 0, .int .u32 0, .int .u32 0, .int .u32 0, .int .u32 0, .int .u32 0, .int .u32 0, .int .u32 0, .int .u32 0, .int .u32 0, .int .u32 0, .int .u32 0, .int .u32 0, .int .u32 0, .int .u32 0, .int .u32 0, .int .u32 0, .int .u32 0, .int .u32 0, .int .u32 0, .int .u32 0, .int .u32 0, .int .u32 0, .int .u32 0, .int .u32 0, .int .u32 0, .int .u32 0, .int .u32 0, .int .u32 0, .int .u32 0, .int .u32 0, .int .u32 0, .int .u32 0, .int .u32 0, .int .u32 0, .int .u32 0, .int .u32 0, .int .u32 0, .int .u32 0, .int .u32 0, .int .u32 0, .int .u32 0, .int .u32 0, .int .u32 0, .int .u32 0, .int .u32 0, .int .u32 0, .int .u32 0, .int .u32 0, .int .u32 0, .int .u32 0, .int .u32 0] 87) := ⟨_, rfl⟩
  have z1 : (w.alloc (.cells #[.int .u32 (V.a : Int), .int .u32 (V.b : Int), .int .u32 (V.c : Int), .int .u32 (V.d : Int), .int .u32 (V.e : Int), .int .u32 (V.f : Int), .int .u32 (V.g : Int), .int .u32 (V.h : Int)] 64)).heap.size = w.heap.size + 1 := by simp
  have z2 : ((w.alloc (.cells #[.int .u32 (V.a : Int), .int .u32 (V.b : Int), .int .u32 (V.c : Int), .int .u32 (V.d : Int), .int .u32 (V.e : Int), .int .u32 (V.f : Int), .int .u32 (V.g : Int), .int .u32 (V.h : Int)] 64)).alloc (.cells #[.int .u32 0, .int .u32 0, .int .u32 0, .int .u32 0, .int .u32 0, .int .u32 0, .int .u32 0, .int .u32 0] 64)).heap.size = w.heap.size + 2 := by simp
  have Kh := Lib.hid (show Blk w1 w.heap.size 64 (u32s V.list).toArray by rw [hw1]; exact ((Blk.new w 64 #[.int .u32 (V.a : Int), .int .u32 (V.b : Int), .int .u32 (V.c : Int), .int .u32 (V.d : Int), .int .u32 (V.e : Int), .int .u32 (V.f : Int), .int .u32 (V.g : Int), .int .u32 (V.h : Int)]).alloc _).alloc _)
  have Kr := Lib.hid (show Blk w1 (w.heap.size + 1) 64 (u32s (List.replicate 8 0)).toArray by rw [hw1]; have := (Blk.new (w.alloc (.cells #[.int .u32 (V.a : Int), .int .u32 (V.b : Int), .int .u32 (V.c : Int), .int .u32 (V.d : Int), .int .u32 (V.e : Int), .int .u32 (V.f : Int), .int .u32 (V.g : Int), .int .u32 (V.h : Int)] 64)) 64 #[.int .u32 0, .int .u32 0, .int .u32 0, .int .u32 0, .int .u32 0, .int .u32 0, .int .u32 0, .int .u32 0]).alloc (.cells #[.int .u32 0, .int .u32 0, .int .u32 0, .int .u32 0, .int .u32 0, .int .u32 0, .int .u32 0, .int .u32 0, .int .u32 0, .int .u32 0, .int .u32 0, .int .u32 0, .int .u32 0, .int .u32 0, .int .u32 0, .int .u32 0, .int .u32 0, .int .u32 0, .int .u32 0, .int .u32 0, .int .u32 0, .int .u32 0, .int .u32 0, .int .u32 0, .int .u32 0, .int .u32 0, .int .u32 0, .int .u32 0, .int .u32 0, .int .u32 0, .int .u32 0, .int .u32 0, .int .u32 0, .int .u32 0, .int .u32 0, .int .u32 0, .int .u32 0, .int .u32 0, .int .u32 0, .int .u32 0, .int .u32 0, .int .u32 0, .int .u32 0, .int .u32 0, .int .u32 0, .int .u32 0, .int .u32 0, .int .u32 0, .int .u32 0, .int .u32 0, .int .u32 0, .int .u32 0, .int .u32 0, .int .u32 0, .int .u32 0, .int .u32 0, .int .u32 0, .int .u32 0, .int .u32 0, .int .u32 0, .int .u32 0, .int .u32 0, .int .u32 0, .int .u32 0] 87); rw [z1] at this; exact this)
  have Kw := Lib.hid (show Blk w1 (w.heap.size + 2) 87 (u32s (Sha.words l 0 ++ List.replicate (64 - 0) 0)).toArray by rw [hw1]; have := Blk.new ((w.alloc (.cells #[.int .u32 (V.a : Int), .int .u32 (V.b : Int), .int .u32 (V.c : Int), .int .u32 (V.d : Int), .int .u32 (V.e : Int), .int .u32 (V.f : Int), .int .u32 (V.g : Int), .int .u32 (V.h : Int)] 64)).alloc (.cells #[.int .u32 0, .int .u32 0, .int .u32 0, .int .u32 0, .int .u32 0, .int .u32 0, .int .u32 0, .int .u32 0] 64)) 87 #[.int .u32 0, .int .u32 0, .int .u32 0, .int .u32 0, .int .u32 0, .int .u32 0, .int .u32 0, .int .u32 0, .int .u32 0, .int .u32 0, .int .u32 0, .int .u32 0, .int .u32 0, .int .u32 0, .int .u32 0, .int .u32 0, .int .u32 0, .int .u32 0, .int .u32 0, .int .u32 0, .int .u32 0, .int .u32 0, .int .u32 0, .int .u32 0, .int .u32 0, .int .u32 0, .int .u32 0, .int .u32 0, .int .u32 0, .int .u32 0, .int .u32 0, .int .u32 0, .int .u32 0, .int .u32 0, .int .u32 0, .int .u32 0, .int .u32 0, .int .u32 0, .int .u32 0, .int .u32 0, .int .u32 0, .int .u32 0, .int .u32 0, .int .u32 0, .int .u32 0, .int .u32 0, .int .u32 0, .int .u32 0, .int .u32 0, .int .u32 0, .int .u32 0, .int .u32 0, .int .u32 0, .int .u32 0, .int .u32 0, .int .u32 0, .int .u32 0, .int .u32 0, .int .u32 0, .int .u32 0, .int .u32 0, .int .u32 0, .int .u32 0, .int .u32 0]; rw [z2] at this; exact this)
  have B := Lib.hid (show Below w.heap.size w w1 by rw [hw1]; exact ((below_alloc w _).alloc (by simp) _).alloc (by simp; omega) _)
  rw [← hw1]
  clear hw1 z1 z2
  obtain ⟨A', c', he, _, _, hcell⟩ := H.out
  injection he with e1 e2 e3
  subst e1 e3
  clear e2
  obtain ⟨gb, ob, rfl, hgb, hcell⟩ := hcell (by rw [Hl.out]; omega)
  obtain ⟨gw, hgw⟩ : ∃ g, g = w.heap.size + 1 + 1 := ⟨_, rfl⟩
  obtain ⟨gr, hgr⟩ : ∃ g, g = w.heap.size + 1 := ⟨_, rfl⟩
  obtain ⟨gh, hgh⟩ : ∃ g, g = w.heap.size := ⟨_, rfl⟩
  rw [← hgw, ← hgr, ← hgh]
  replace Kw := Lib.hid (show Blk w1 gw 87 (u32s (Sha.words l 0 ++ List.replicate (64 - 0) 0)).toArray by rw [hgw]; exact Kw.out)
  replace Kr := Lib.hid (show Blk w1 gr 64 (u32s (List.replicate 8 0)).toArray by rw [hgr]; exact Kr.out)
  replace Kh := Lib.hid (show Blk w1 gh 64 (u32s V.list).toArray by rw [hgh]; exact Kh.out)
  have Hc := Lib.hid (show ∀ k, (h : k < 64) → w1.cell? ⟨gb, ob + k, none⟩ = some (.int .u8 (((l.getD k 0).toNat : Nat) : Int)) from fun k hk => (B.out.cell (p := ⟨gb, ob + k, none⟩) hgb).trans (by
    have hk' : k < l.length := by rw [Hl.out]; exact hk
    rw [hcell k hk']
    simp [bv, List.getD, hk']))
  have Hg := Lib.hid (show gb < gh ∧ gh + 1 = gr ∧ gr + 1 = gw ∧ w.heap.size = gh by omega)
  clear H hgb hgw hgr hgh
  clear hcell
  go_cut [] (fun wx => Hid (Blk wx gw 87 (u32s (Sha.words l 16 ++ List.replicate (64 - 16) 0)).toArray) ∧ Hid (w1.grownBy wx (some gw)))
  case first =>
    have G0 := Lib.hid (grown_refl w1 (some gw))
    go_wp2_with fail
    go_loopw [6] (fun s6 wr => ∃ k : Nat, k ≤ 16 ∧ s6 = .int .i64 (k : Int) ∧ Hid (Blk wr gw 87 (u32s (Sha.words l k ++ List.replicate (64 - k) 0)).toArray) ∧ Hid (w1.grownBy wr (some gw))) (fun s6 _ => 16 - (intOf s6).toNat)
    case atStart => exact ⟨0, by omega, rfl, Kw, G0⟩
    case round =>
      clear Kw G0
      obtain ⟨k, hk, rfl, KW, G⟩ := hrel
      by_cases hlt : k < 16
      · have hd : ∀ j, (l.getD j 0).toNat ≤ 255 := fun j => by have := UInt8.toNat_lt (l.getD j 0); omega
        have hd0 := hd (4 * k)
        have hd1 := hd (4 * k + 1)
        have hd2 := hd (4 * k + 2)
        have hd3 := hd (4 * k + 3)
        have hlb : gb < w1.heap.size := World.block_lt_of_cell? w1 _ (Hc.out 0 (by omega))
        have hne : gb ≠ gw := by have := Hg.out; omega
        have hold : ∀ j, (h : j < 64) → wr.cell? ⟨gb, ob + j, none⟩ = some (.int .u8 (((l.getD j 0).toNat : Nat) : Int)) := fun j hj => (World.cell?_of_block (G.out.block gb hlb (by intro e; injection e with e; exact hne e))).trans (Hc.out j hj)
        have x0 := hold (4 * k) (by omega)
        have x1 := hold (4 * k + 1) (by omega)
        have x2 := hold (4 * k + 2) (by omega)
        have x3 := hold (4 * k + 3) (by omega)
        have HW := Lib.hid (show Sha.word l k = (l.getD (4 * k) 0).toNat * 16777216 + (l.getD (4 * k + 1) 0).toNat * 65536 + (l.getD (4 * k + 2) 0).toNat * 256 + (l.getD (4 * k + 3) 0).toNat from rfl)
        clear hd hold
        generalize (l.getD (4 * k) 0).toNat = d0 at *
        generalize (l.getD (4 * k + 1) 0).toNat = d1 at *
        generalize (l.getD (4 * k + 2) 0).toNat = d2 at *
        generalize (l.getD (4 * k + 3) 0).toNat = d3 at *
        have hk0 : (0 : Int) ≤ (k : Int) := by omega
        have hk64 : (k : Int) < 64 := by omega
        obtain ⟨q, hq⟩ : ∃ q, q = 4 * k := ⟨_, rfl⟩
        rw [← hq] at x0 x1 x2 x3
        have hm : 4 * (k : Int) = (q : Int) := by omega
        have hq0 : (0 : Int) ≤ (q : Int) := by omega
        have hq3 : (q : Int) + 3 < 64 := by omega
        have hq2 : (q : Int) + 2 < 64 := by omega
        have hq1 : (q : Int) + 1 < 64 := by omega
        have hq00 : (q : Int) < 64 := by omega
        have v0 : IntKind.i64.wrap (4 * (k : Int)) = (q : Int) := by rw [IntKind.wrap_i64]; omega
        have v1 : IntKind.i64.wrap ((q : Int) + 1) = (q : Int) + 1 := by rw [IntKind.wrap_i64]; omega
        have v2 : IntKind.i64.wrap ((q : Int) + 2) = (q : Int) + 2 := by rw [IntKind.wrap_i64]; omega
        have v3 : IntKind.i64.wrap ((q : Int) + 3) = (q : Int) + 3 := by rw [IntKind.wrap_i64]; omega
        have u1 : (0 : Int) ≤ (q : Int) + 1 := by omega
        have u2 : (0 : Int) ≤ (q : Int) + 2 := by omega
        have u3 : (0 : Int) ≤ (q : Int) + 3 := by omega
        have t1 : ((q : Int) + 1).toNat = q + 1 := by omega
        have t2 : ((q : Int) + 2).toNat = q + 2 := by omega
        have t3 : ((q : Int) + 3).toNat = q + 3 := by omega
        clear hq hm
        obtain ⟨dv, hst⟩ : ∃ u, wr.cell? ⟨gw, k, none⟩ = some u := ⟨_, wCell KW.out (by rw [words_fill_len (by omega)]; omega)⟩
        have hfree := KW.out.free k
        go_wp2_with fail
        have y0 : wr.drew.cell? ⟨gb, ob + q, none⟩ = some (.int .u8 (d0 : Int)) := x0
        have y1 : wr.drew.cell? ⟨gb, ob + (q + 1), none⟩ = some (.int .u8 (d1 : Int)) := x1
        have y2 : wr.drew.cell? ⟨gb, ob + (q + 2), none⟩ = some (.int .u8 (d2 : Int)) := x2
        have y3 : wr.drew.cell? ⟨gb, ob + (q + 3), none⟩ = some (.int .u8 (d3 : Int)) := x3
        go_region_held3 (fun W => W.cell? ⟨gb, ob + q, none⟩ = some (.int .u8 (d0 : Int)) ∧ W.cell? ⟨gb, ob + (q + 1), none⟩ = some (.int .u8 (d1 : Int)) ∧ W.cell? ⟨gb, ob + (q + 2), none⟩ = some (.int .u8 (d2 : Int)) ∧ W.cell? ⟨gb, ob + (q + 3), none⟩ = some (.int .u8 (d3 : Int))) (with_reducible first | exact ⟨y0, y1, y2, y3⟩ | exact keep4 hne y0 y1 y2 y3) (fail)
        go_wp2_with fail
        have hwv := word_or hd0 hd1 hd2 hd3
        rw [← HW.out] at hwv
        have KW2 := Lib.hid (Blk.drew (wSet (k := k) (n := Sha.word l k) KW.out hwv))
        rw [words_next (show k < 64 by omega)] at KW2
        have G2 := Lib.hid (grown_drew (grown_setCell G.out (p := ⟨gw, k, none⟩) (.inl rfl) (.int .u32 (bits .or .u32 (bits .or .u32 (bits .or .u32 ((d0 : Int) * 16777216) ((d1 : Int) * 65536)) ((d2 : Int) * 256)) (d3 : Int)))))
        exact ⟨⟨k + 1, by omega, by go_num, KW2, G2⟩, by simp [intOf]; omega⟩
      · obtain rfl : k = 16 := by omega
        go_wp2_with fail
        go_meet
        exact ⟨KW, G⟩
  case rest =>
    obtain ⟨KW, G⟩ := hcut
    obtain ⟨w2, rfl⟩ : ∃ w2 : World, w2 = wc := ⟨_, rfl⟩
    clear Hc
    replace Kr := Lib.hid (Kr.out.grown G.out (by intro e; injection e with e; have := Hg.out; omega))
    replace Kh := Lib.hid (Kh.out.grown G.out (by intro e; injection e with e; have := Hg.out; omega))
    replace B := Lib.hid (below_grown B.out G.out (fun k e => by injection e with e; have := Hg.out; omega))
    clear G Kw
    replace KW := Lib.hid (show Blk w2 gw 87 (u32s (Sha.sched l 0 ++ List.replicate (48 - 0) 0)).toArray from KW.out)
    go_upto_block 2 with fail
    go_cut [] (fun wx => Hid (Blk wx gw 87 (u32s (Sha.sched l 48)).toArray) ∧ Hid (w2.grownBy wx (some gw)))
    case first =>
      have G0 := Lib.hid (grown_refl w2 (some gw))
      go_wp2_with fail
      go_loopw [7] (fun s7 wr => ∃ k : Nat, k ≤ 48 ∧ s7 = .int .i64 ((k : Int) + 16) ∧ Hid (Blk wr gw 87 (u32s (Sha.sched l k ++ List.replicate (48 - k) 0)).toArray) ∧ Hid (w2.grownBy wr (some gw))) (fun s7 _ => 64 - (intOf s7).toNat)
      case atStart => exact ⟨0, by omega, rfl, KW, G0⟩
      case round =>
        clear KW G0
        obtain ⟨k, hk, rfl, KW, G⟩ := hrel
        by_cases hlt : k < 48
        · have hsl := Sha.sched_length l k
          have hcell : ∀ j, (h : j < k + 16) → wr.cell? ⟨gw, j, none⟩ = some (.int .u32 (((Sha.sched l k).getD j 0 : Nat) : Int)) := fun j hj => by
            have hj' : j < (Sha.sched l k).length := by omega
            rw [wCell KW.out (k := j) (by rw [List.length_append]; omega), List.getElem_append_left hj']
            simp [List.getD, hj']
          have hsm := Sha.sched_small l k
          have x0 := hcell k (by omega)
          have x9 := hcell (k + 9) (by omega)
          have x1 := hcell (k + 1) (by omega)
          have x14 := hcell (k + 14) (by omega)
          have m0 := hsm.getD k
          have m9 := hsm.getD (k + 9)
          have m1 := hsm.getD (k + 1)
          have m14 := hsm.getD (k + 14)
          have HN := Lib.hid (show Sha.nextW (Sha.sched l k) = Sha.wadd (Sha.wadd (Sha.wadd ((Sha.sched l k).getD k 0) ((Sha.sched l k).getD (k + 9) 0)) (Sha.s0 ((Sha.sched l k).getD (k + 1) 0))) (Sha.s1 ((Sha.sched l k).getD (k + 14) 0)) by unfold Sha.nextW; rw [hsl, show k + 16 - 16 = k by omega, show k + 16 - 7 = k + 9 by omega, show k + 16 - 15 = k + 1 by omega, show k + 16 - 2 = k + 14 by omega])
          clear hcell hsm
          generalize (Sha.sched l k).getD k 0 = a0 at *
          generalize (Sha.sched l k).getD (k + 9) 0 = a9 at *
          generalize (Sha.sched l k).getD (k + 1) 0 = a1 at *
          generalize (Sha.sched l k).getD (k + 14) 0 = a14 at *
          obtain ⟨dv, hst⟩ : ∃ u, wr.cell? ⟨gw, k + 16, none⟩ = some u := ⟨_, wCell KW.out (k := k + 16) (by rw [List.length_append, hsl]; simp; omega)⟩
          have hfree := KW.out.free (k + 16)
          have v15 : IntKind.i64.wrap ((k : Int) + 16 - 15) = (k : Int) + 1 := by rw [IntKind.wrap_i64]; omega
          have v2 : IntKind.i64.wrap ((k : Int) + 16 - 2) = (k : Int) + 14 := by rw [IntKind.wrap_i64]; omega
          have v16 : IntKind.i64.wrap ((k : Int) + 16 - 16) = (k : Int) := by rw [IntKind.wrap_i64]; omega
          have v7 : IntKind.i64.wrap ((k : Int) + 16 - 7) = (k : Int) + 9 := by rw [IntKind.wrap_i64]; omega
          have vk : IntKind.i64.wrap (k : Int) = (k : Int) := by rw [IntKind.wrap_i64]; omega
          have vk9 : IntKind.i64.wrap ((k : Int) + 9) = (k : Int) + 9 := by rw [IntKind.wrap_i64]; omega
          have u0 : (0 : Int) ≤ (k : Int) := by omega
          have u1 : (0 : Int) ≤ (k : Int) + 1 := by omega
          have u9 : (0 : Int) ≤ (k : Int) + 9 := by omega
          have u14 : (0 : Int) ≤ (k : Int) + 14 := by omega
          have u16 : (0 : Int) ≤ (k : Int) + 16 := by omega
          have q0 : (k : Int) < 64 := by omega
          have q1 : (k : Int) + 1 < 64 := by omega
          have q9 : (k : Int) + 9 < 64 := by omega
          have q14 : (k : Int) + 14 < 64 := by omega
          have q16 : (k : Int) + 16 < 64 := by omega
          have t1 : ((k : Int) + 1).toNat = k + 1 := by omega
          have t9 : ((k : Int) + 9).toNat = k + 9 := by omega
          have t14 : ((k : Int) + 14).toNat = k + 14 := by omega
          have t16 : ((k : Int) + 16).toNat = k + 16 := by omega
          clear hsl
          go_wp2_with fail
          go_quiet (fail)
          have KW1 := Lib.hid (KW.out.drewN nq)
          have G1 := Lib.hid (grown_drewN G.out nq)
          have x0' : (wr.drewN nq).cell? ⟨gw, k, none⟩ = some (.int .u32 (a0 : Int)) := x0
          have x9' : (wr.drewN nq).cell? ⟨gw, k + 9, none⟩ = some (.int .u32 (a9 : Int)) := x9
          have hst' : (wr.drewN nq).cell? ⟨gw, k + 16, none⟩ = some dv := hst
          have hfree' : (wr.drewN nq).frozen? ⟨gw, k + 16, none⟩ = false := hfree
          clear KW G x0 x9 x1 x14 hst hfree
          generalize wr.drewN nq = wq at *
          have T1 := Lib.hid (show ∀ W : World, Calls Tryz.prog 65 #[.int .u32 (a1 : Int), .int .i64 7] W fun e w' => e = .returned (.int .u32 ((Sha.rotr a1 7 : Nat) : Int)) ∧ ∃ k, w' = W.drewN k from fun W => shaTurn W (n := 7) m1 (by omega) (by omega))
          have T2 := Lib.hid (show ∀ W : World, Calls Tryz.prog 65 #[.int .u32 (a1 : Int), .int .i64 18] W fun e w' => e = .returned (.int .u32 ((Sha.rotr a1 18 : Nat) : Int)) ∧ ∃ k, w' = W.drewN k from fun W => shaTurn W (n := 18) m1 (by omega) (by omega))
          have T3 := Lib.hid (show ∀ W : World, Calls Tryz.prog 65 #[.int .u32 (a14 : Int), .int .i64 17] W fun e w' => e = .returned (.int .u32 ((Sha.rotr a14 17 : Nat) : Int)) ∧ ∃ k, w' = W.drewN k from fun W => shaTurn W (n := 17) m14 (by omega) (by omega))
          have T4 := Lib.hid (show ∀ W : World, Calls Tryz.prog 65 #[.int .u32 (a14 : Int), .int .i64 19] W fun e w' => e = .returned (.int .u32 ((Sha.rotr a14 19 : Nat) : Int)) ∧ ∃ k, w' = W.drewN k from fun W => shaTurn W (n := 19) m14 (by omega) (by omega))
          have hv := next_val (a0 := a0) (a9 := a9) m1 m14
          rw [← HN.out] at hv
          have KW2 := fun m => (by have := wSet (k := k + 16) (KW1.out.drewN m) hv; rwa [sched_fill (show k < 48 by omega)] at this : Blk _ gw 87 (u32s (Sha.sched l (k + 1) ++ List.replicate (48 - (k + 1)) 0)).toArray)
          have G2 := fun m => grown_setCell (grown_drewN G1.out m) (p := ⟨gw, k + 16, none⟩) (.inl rfl) (.int .u32 (IntKind.u32.wrap (IntKind.u32.wrap (IntKind.u32.wrap ((a0 : Int) + (a9 : Int)) + bits .xor .u32 (bits .xor .u32 ((Sha.rotr a1 7 : Nat) : Int) ((Sha.rotr a1 18 : Nat) : Int)) ((a1 : Int) / 8)) + bits .xor .u32 (bits .xor .u32 ((Sha.rotr a14 17 : Nat) : Int) ((Sha.rotr a14 19 : Nat) : Int)) ((a14 : Int) / 1024))))
          replace KW2 := Lib.hid KW2
          replace G2 := Lib.hid G2
          clear hv
          go_upto_region 10 with fail
          have kd : ∀ (W : World) n p, (W.drewN n).cell? p = W.cell? p := fun _ _ _ => rfl
          go_region_held3 (fun W => W.cell? ⟨gw, k, none⟩ = some (.int .u32 (a0 : Int)) ∧ W.cell? ⟨gw, k + 9, none⟩ = some (.int .u32 (a9 : Int))) (first | exact ⟨x0', x9'⟩ | exact keepW (by omega) (by omega) x0' x9') (first
            | (go_at_call 65; (with_reducible first | refine (T1.out _).mono ?_ | refine (T2.out _).mono ?_ | refine (T3.out _).mono ?_ | refine (T4.out _).mono ?_); rintro e w' ⟨rfl, kq, rfl⟩))
          all_goals
            go_wp2_with fail
            exact ⟨⟨k + 1, by omega, by go_num, Lib.hid (KW2.out _), Lib.hid (G2.out _)⟩, by simp [intOf]; omega⟩
        · obtain rfl : k = 48 := by omega
          have KW2 := Lib.hid (show Blk wr gw 87 (u32s (Sha.sched l 48)).toArray by have := KW.out; rwa [Nat.sub_self, List.replicate_zero, List.append_nil] at this)
          go_wp2_with fail
          go_meet
          exact ⟨KW2, G⟩
    case rest =>
      clear KW
      obtain ⟨KW, G⟩ := hcut
      obtain ⟨w3, rfl⟩ : ∃ w3 : World, w3 = wc := ⟨_, rfl⟩
      replace Kr := Lib.hid (Kr.out.grown G.out (by intro e; injection e with e; have := Hg.out; omega))
      replace Kh := Lib.hid (Kh.out.grown G.out (by intro e; injection e with e; have := Hg.out; omega))
      replace B := Lib.hid (below_grown B.out G.out (fun k e => by injection e with e; have := Hg.out; omega))
      clear G
      go_upto_region 11 with fail
      go_cut [10] (fun s10 wx => ∃ g : Nat, s10 = .pointer (some ⟨g, 0, none⟩) ∧ w3.heap.size ≤ g ∧ Hid (Blk wx g 87 (u32s Sha.keys).toArray) ∧ Hid (Below w3.heap.size w3 wx))
      case first =>
        go_wp2_with fail
        refine (shaKeys _).mono ?_
        rintro e w4 ⟨rfl, hb⟩
        have B4 := Lib.hid hb
        clear hb
        have hsz : (u32s Sha.keys).toArray.size = 64 := by simp [u32s_length, Sha.keys]
        have K4 := Lib.hid (Blk.new w4 87 #[.int .u32 0, .int .u32 0, .int .u32 0, .int .u32 0, .int .u32 0, .int .u32 0, .int .u32 0, .int .u32 0, .int .u32 0, .int .u32 0, .int .u32 0, .int .u32 0, .int .u32 0, .int .u32 0, .int .u32 0, .int .u32 0, .int .u32 0, .int .u32 0, .int .u32 0, .int .u32 0, .int .u32 0, .int .u32 0, .int .u32 0, .int .u32 0, .int .u32 0, .int .u32 0, .int .u32 0, .int .u32 0, .int .u32 0, .int .u32 0, .int .u32 0, .int .u32 0, .int .u32 0, .int .u32 0, .int .u32 0, .int .u32 0, .int .u32 0, .int .u32 0, .int .u32 0, .int .u32 0, .int .u32 0, .int .u32 0, .int .u32 0, .int .u32 0, .int .u32 0, .int .u32 0, .int .u32 0, .int .u32 0, .int .u32 0, .int .u32 0, .int .u32 0, .int .u32 0, .int .u32 0, .int .u32 0, .int .u32 0, .int .u32 0, .int .u32 0, .int .u32 0, .int .u32 0, .int .u32 0, .int .u32 0, .int .u32 0, .int .u32 0, .int .u32 0])
        have Ht := Lib.hid (show (w4.alloc (.cells #[.int .u32 0, .int .u32 0, .int .u32 0, .int .u32 0, .int .u32 0, .int .u32 0, .int .u32 0, .int .u32 0, .int .u32 0, .int .u32 0, .int .u32 0, .int .u32 0, .int .u32 0, .int .u32 0, .int .u32 0, .int .u32 0, .int .u32 0, .int .u32 0, .int .u32 0, .int .u32 0, .int .u32 0, .int .u32 0, .int .u32 0, .int .u32 0, .int .u32 0, .int .u32 0, .int .u32 0, .int .u32 0, .int .u32 0, .int .u32 0, .int .u32 0, .int .u32 0, .int .u32 0, .int .u32 0, .int .u32 0, .int .u32 0, .int .u32 0, .int .u32 0, .int .u32 0, .int .u32 0, .int .u32 0, .int .u32 0, .int .u32 0, .int .u32 0, .int .u32 0, .int .u32 0, .int .u32 0, .int .u32 0, .int .u32 0, .int .u32 0, .int .u32 0, .int .u32 0, .int .u32 0, .int .u32 0, .int .u32 0, .int .u32 0, .int .u32 0, .int .u32 0, .int .u32 0, .int .u32 0, .int .u32 0, .int .u32 0, .int .u32 0, .int .u32 0] 87)).there w4.heap.size 0 (u32s Sha.keys).toArray.size from K4.out.there (by rw [hsz]; rfl))
        have Hi := Lib.hid (show (Tryz.prog.info? 87).map (·.size) = some (u32s Sha.keys).toArray.size by rw [hsz]; exact infoKeys)
        have Ho := Lib.hid (all_oneCell_toArray (u32s_one Sha.keys))
        have K5 := Lib.hid (K4.out.over (vs := u32s Sha.keys) (by have : (u32s Sha.keys).length = 64 := by { simp [u32s_length, Sha.keys] }; rw [this]; rfl))
        have B5 := Lib.hid (below_grown (below_trans B4.out (below_alloc w4 (.cells #[.int .u32 0, .int .u32 0, .int .u32 0, .int .u32 0, .int .u32 0, .int .u32 0, .int .u32 0, .int .u32 0, .int .u32 0, .int .u32 0, .int .u32 0, .int .u32 0, .int .u32 0, .int .u32 0, .int .u32 0, .int .u32 0, .int .u32 0, .int .u32 0, .int .u32 0, .int .u32 0, .int .u32 0, .int .u32 0, .int .u32 0, .int .u32 0, .int .u32 0, .int .u32 0, .int .u32 0, .int .u32 0, .int .u32 0, .int .u32 0, .int .u32 0, .int .u32 0, .int .u32 0, .int .u32 0, .int .u32 0, .int .u32 0, .int .u32 0, .int .u32 0, .int .u32 0, .int .u32 0, .int .u32 0, .int .u32 0, .int .u32 0, .int .u32 0, .int .u32 0, .int .u32 0, .int .u32 0, .int .u32 0, .int .u32 0, .int .u32 0, .int .u32 0, .int .u32 0, .int .u32 0, .int .u32 0, .int .u32 0, .int .u32 0, .int .u32 0, .int .u32 0, .int .u32 0, .int .u32 0, .int .u32 0, .int .u32 0, .int .u32 0, .int .u32 0] 87))) (grown_setCells w4.heap.size (u32s Sha.keys) 0 (grown_refl (w4.alloc (.cells #[.int .u32 0, .int .u32 0, .int .u32 0, .int .u32 0, .int .u32 0, .int .u32 0, .int .u32 0, .int .u32 0, .int .u32 0, .int .u32 0, .int .u32 0, .int .u32 0, .int .u32 0, .int .u32 0, .int .u32 0, .int .u32 0, .int .u32 0, .int .u32 0, .int .u32 0, .int .u32 0, .int .u32 0, .int .u32 0, .int .u32 0, .int .u32 0, .int .u32 0, .int .u32 0, .int .u32 0, .int .u32 0, .int .u32 0, .int .u32 0, .int .u32 0, .int .u32 0, .int .u32 0, .int .u32 0, .int .u32 0, .int .u32 0, .int .u32 0, .int .u32 0, .int .u32 0, .int .u32 0, .int .u32 0, .int .u32 0, .int .u32 0, .int .u32 0, .int .u32 0, .int .u32 0, .int .u32 0, .int .u32 0, .int .u32 0, .int .u32 0, .int .u32 0, .int .u32 0, .int .u32 0, .int .u32 0, .int .u32 0, .int .u32 0, .int .u32 0, .int .u32 0, .int .u32 0, .int .u32 0, .int .u32 0, .int .u32 0, .int .u32 0, .int .u32 0] 87)) (some w4.heap.size))) (fun k e => by injection e with e; have := B4.out.size; omega))
        have hge := B4.out.size
        clear hsz
        go_wp2_with ((refine wpList_store_mid rfl 87 _ _ (by rfl) w4.heap.size 0 (u32s Sha.keys).toArray (by rfl) (by rfl) Ht.out Hi.out Ho.out ?_))
        go_meet
        exact ⟨_, rfl, hge, K5, B5⟩
      case rest =>
        obtain ⟨gk, rfl, hgk, KK, B3⟩ := hcut
        obtain ⟨w4, rfl⟩ : ∃ w4 : World, w4 = wc := ⟨_, rfl⟩
        have hgk2 := KK.out.lt
        have hw3 := KW.out.lt
        replace KW := Lib.hid (KW.out.step B3.out)
        replace Kr := Lib.hid (Kr.out.step B3.out)
        replace Kh := Lib.hid (Kh.out.step B3.out)
        replace B := Lib.hid (below_trans B.out B3.out)
        have hne1 : gk ≠ gw := by omega
        clear B3 hgk hw3
        go_upto_region 12 with fail
        go_cut [11] (fun s11 wx => ∃ g : Nat, s11 = .pointer (some ⟨g, 0, none⟩) ∧ w4.heap.size ≤ g ∧ Hid (Blk wx g 64 (u32s V.list).toArray) ∧ Hid (Below w4.heap.size w4 wx))
        case first =>
          have Hi8 := Lib.hid (show (Tryz.prog.info? 64).map (·.size) = some (u32s V.list).toArray.size from info8)
          have K5 := Lib.hid (Blk.new w4 64 #[.int .u32 0, .int .u32 0, .int .u32 0, .int .u32 0, .int .u32 0, .int .u32 0, .int .u32 0, .int .u32 0])
          have Ht := Lib.hid (show (w4.alloc (.cells #[.int .u32 0, .int .u32 0, .int .u32 0, .int .u32 0, .int .u32 0, .int .u32 0, .int .u32 0, .int .u32 0] 64)).there w4.heap.size 0 (u32s V.list).toArray.size from K5.out.there rfl)
          have Ho := Lib.hid (all_oneCell_toArray (u32s_one V.list))
          have K6 := Lib.hid (K5.out.over (vs := u32s V.list) rfl)
          have B6 := Lib.hid (below_grown (below_alloc w4 (.cells #[.int .u32 0, .int .u32 0, .int .u32 0, .int .u32 0, .int .u32 0, .int .u32 0, .int .u32 0, .int .u32 0] 64)) (grown_setCells w4.heap.size (u32s V.list) 0 (grown_refl (w4.alloc (.cells #[.int .u32 0, .int .u32 0, .int .u32 0, .int .u32 0, .int .u32 0, .int .u32 0, .int .u32 0, .int .u32 0] 64)) (some w4.heap.size))) (fun k e => by injection e with e; omega))
          go_wp2_with (first | ((refine wpList_load_row rfl 64 _ (by rfl) gh (by rfl) 64 (u32s V.list).toArray (0, 0) _ Kh.out Tryz.underlying64 rfl Hi8.out ?_)) | ((refine wpList_store_mid rfl 64 _ _ (by rfl) w4.heap.size 0 (u32s V.list).toArray (by rfl) (by rfl) Ht.out Hi8.out Ho.out ?_)))
          go_meet
          exact ⟨_, rfl, Nat.le_refl _, K6, B6⟩
        case rest =>
          obtain ⟨gv, rfl, hgv, KV, B4⟩ := hcut
          obtain ⟨w5, rfl⟩ : ∃ w5 : World, w5 = wc := ⟨_, rfl⟩
          have hv1 := KW.out.lt
          have hv2 := Kr.out.lt
          have hv3 := Kh.out.lt
          replace KW := Lib.hid (KW.out.step B4.out)
          replace KK := Lib.hid (KK.out.step B4.out)
          replace Kr := Lib.hid (Kr.out.step B4.out)
          replace Kh := Lib.hid (Kh.out.step B4.out)
          replace B := Lib.hid (below_trans B.out B4.out)
          have hn1 : gv ≠ gw := by omega
          have hn2 : gv ≠ gk := by omega
          have hn3 : gv ≠ gr := by omega
          have hn4 : gv ≠ gh := by omega
          have hbv : w.heap.size ≤ gv := by have := B.out.size; have := Hg.out; omega
          clear B4 hgv hv1 hv2 hv3 hgk2
          go_upto_block 4 with fail
          go_cut [] (fun wx => Hid (Blk wx gv 64 (u32s (Sha.rounds (Sha.sched l 48) 64 V).list).toArray) ∧ Hid (w5.grownBy wx (some gv)))
          case first =>
            have G0 := Lib.hid (grown_refl w5 (some gv))
            go_wp2_with fail
            go_loopw [12] (fun s12 wr => ∃ k : Nat, k ≤ 64 ∧ s12 = .int .i64 (k : Int) ∧ Hid (Blk wr gv 64 (u32s (Sha.rounds (Sha.sched l 48) k V).list).toArray) ∧ Hid (w5.grownBy wr (some gv))) (fun s12 _ => 64 - (intOf s12).toNat)
            case atStart => exact ⟨0, by omega, rfl, KV, G0⟩
            case round =>
              clear KV G0
              obtain ⟨k, hk, rfl, KV, G⟩ := hrel
              by_cases hlt : k < 64
              · skip
                obtain ⟨U, hU⟩ : ∃ U, U = Sha.rounds (Sha.sched l 48) k V := ⟨_, rfl⟩
                have HR := Lib.hid (show Sha.rounds (Sha.sched l 48) (k + 1) V = Sha.round U (Sha.keys.getD k 0) ((Sha.sched l 48).getD k 0) by rw [hU]; rfl)
                have HU := Lib.hid (show U.ok by rw [hU]; exact HV.out.rounds k)
                rw [← hU] at KV
                clear hU
                have hkk : k < Sha.keys.length := hlt
                have hkw : k < (Sha.sched l 48).length := by rw [Sha.sched_length]; exact hlt
                have xk : wr.cell? ⟨gk, k, none⟩ = some (.int .u32 (((Sha.keys.getD k 0 : Nat)) : Int)) := by have := wCell (KK.out.grown G.out (by intro e; injection e with e; exact hn2 e.symm)) hkk; simpa [List.getD, hkk] using this
                have xw : wr.cell? ⟨gw, k, none⟩ = some (.int .u32 ((((Sha.sched l 48).getD k 0 : Nat)) : Int)) := by have := wCell (KW.out.grown G.out (by intro e; injection e with e; exact hn1 e.symm)) hkw; simpa [List.getD, hkw] using this
                have mk := Sha.keys_small.getD k
                have mw := (Sha.sched_small l 48).getD k
                clear hkk hkw
                generalize Sha.keys.getD k 0 = kv at *
                generalize (Sha.sched l 48).getD k 0 = wv at *
                have xa : wr.cell? ⟨gv, 0, none⟩ = some (.int .u32 ((U.a : Nat) : Int)) := KV.out.cell 0
                have xb : wr.cell? ⟨gv, 1, none⟩ = some (.int .u32 ((U.b : Nat) : Int)) := KV.out.cell 1
                have xc : wr.cell? ⟨gv, 2, none⟩ = some (.int .u32 ((U.c : Nat) : Int)) := KV.out.cell 2
                have xd : wr.cell? ⟨gv, 3, none⟩ = some (.int .u32 ((U.d : Nat) : Int)) := KV.out.cell 3
                have xe : wr.cell? ⟨gv, 4, none⟩ = some (.int .u32 ((U.e : Nat) : Int)) := KV.out.cell 4
                have xf : wr.cell? ⟨gv, 5, none⟩ = some (.int .u32 ((U.f : Nat) : Int)) := KV.out.cell 5
                have xg : wr.cell? ⟨gv, 6, none⟩ = some (.int .u32 ((U.g : Nat) : Int)) := KV.out.cell 6
                have xh : wr.cell? ⟨gv, 7, none⟩ = some (.int .u32 ((U.h : Nat) : Int)) := KV.out.cell 7
                have ma := HU.out.a
                have mb := HU.out.b
                have mc := HU.out.c
                have md := HU.out.d
                have me := HU.out.e
                have mf := HU.out.f
                have mg := HU.out.g
                have mh := HU.out.h
                have u0 : (0 : Int) ≤ (k : Int) := by omega
                have q0 : (k : Int) < 64 := by omega
                go_wp2_with fail
                go_quiet (fail)
                have ya : (wr.drewN nq).cell? ⟨gv, 0, none⟩ = some (.int .u32 ((U.a : Nat) : Int)) := xa
                have yb : (wr.drewN nq).cell? ⟨gv, 1, none⟩ = some (.int .u32 ((U.b : Nat) : Int)) := xb
                have yc : (wr.drewN nq).cell? ⟨gv, 2, none⟩ = some (.int .u32 ((U.c : Nat) : Int)) := xc
                have yd : (wr.drewN nq).cell? ⟨gv, 3, none⟩ = some (.int .u32 ((U.d : Nat) : Int)) := xd
                have ye : (wr.drewN nq).cell? ⟨gv, 4, none⟩ = some (.int .u32 ((U.e : Nat) : Int)) := xe
                have yf : (wr.drewN nq).cell? ⟨gv, 5, none⟩ = some (.int .u32 ((U.f : Nat) : Int)) := xf
                have yg : (wr.drewN nq).cell? ⟨gv, 6, none⟩ = some (.int .u32 ((U.g : Nat) : Int)) := xg
                have yh : (wr.drewN nq).cell? ⟨gv, 7, none⟩ = some (.int .u32 ((U.h : Nat) : Int)) := xh
                have yk : (wr.drewN nq).cell? ⟨gk, k, none⟩ = some (.int .u32 (kv : Int)) := xk
                have yw : (wr.drewN nq).cell? ⟨gw, k, none⟩ = some (.int .u32 (wv : Int)) := xw
                replace KV := Lib.hid (KV.out.drewN nq)
                replace G := Lib.hid (grown_drewN G.out nq)
                clear xa xb xc xd xe xf xg xh xk xw
                generalize wr.drewN nq = wa at *
                have T6 := Lib.hid (show ∀ W : World, Calls Tryz.prog 65 #[.int .u32 (U.e : Int), .int .i64 6] W fun e w' => e = .returned (.int .u32 ((Sha.rotr U.e 6 : Nat) : Int)) ∧ ∃ k, w' = W.drewN k from fun W => shaTurn W (n := 6) me (by omega) (by omega))
                have T11 := Lib.hid (show ∀ W : World, Calls Tryz.prog 65 #[.int .u32 (U.e : Int), .int .i64 11] W fun e w' => e = .returned (.int .u32 ((Sha.rotr U.e 11 : Nat) : Int)) ∧ ∃ k, w' = W.drewN k from fun W => shaTurn W (n := 11) me (by omega) (by omega))
                have T25 := Lib.hid (show ∀ W : World, Calls Tryz.prog 65 #[.int .u32 (U.e : Int), .int .i64 25] W fun e w' => e = .returned (.int .u32 ((Sha.rotr U.e 25 : Nat) : Int)) ∧ ∃ k, w' = W.drewN k from fun W => shaTurn W (n := 25) me (by omega) (by omega))
                have T2 := Lib.hid (show ∀ W : World, Calls Tryz.prog 65 #[.int .u32 (U.a : Int), .int .i64 2] W fun e w' => e = .returned (.int .u32 ((Sha.rotr U.a 2 : Nat) : Int)) ∧ ∃ k, w' = W.drewN k from fun W => shaTurn W (n := 2) ma (by omega) (by omega))
                have T13 := Lib.hid (show ∀ W : World, Calls Tryz.prog 65 #[.int .u32 (U.a : Int), .int .i64 13] W fun e w' => e = .returned (.int .u32 ((Sha.rotr U.a 13 : Nat) : Int)) ∧ ∃ k, w' = W.drewN k from fun W => shaTurn W (n := 13) ma (by omega) (by omega))
                have T22 := Lib.hid (show ∀ W : World, Calls Tryz.prog 65 #[.int .u32 (U.a : Int), .int .i64 22] W fun e w' => e = .returned (.int .u32 ((Sha.rotr U.a 22 : Nat) : Int)) ∧ ∃ k, w' = W.drewN k from fun W => shaTurn W (n := 22) ma (by omega) (by omega))
                go_wp2_with fail
                go_quiet ((go_at_call 65; (with_reducible first | exact Calls.quiet_of (T6.out _) | exact Calls.quiet_of (T11.out _) | exact Calls.quiet_of (T25.out _))))
                rw [one_val HU.out]
                have mo : Sha.one U kv wv < 4294967296 := Sha.wadd_lt _ _
                generalize hone : Sha.one U kv wv = ov at *
                have Hone := Lib.hid hone
                clear hone
                have za : (wa.drewN nq).cell? ⟨gv, 0, none⟩ = some (.int .u32 ((U.a : Nat) : Int)) := ya
                have zb : (wa.drewN nq).cell? ⟨gv, 1, none⟩ = some (.int .u32 ((U.b : Nat) : Int)) := yb
                have zc : (wa.drewN nq).cell? ⟨gv, 2, none⟩ = some (.int .u32 ((U.c : Nat) : Int)) := yc
                have zd : (wa.drewN nq).cell? ⟨gv, 3, none⟩ = some (.int .u32 ((U.d : Nat) : Int)) := yd
                have ze : (wa.drewN nq).cell? ⟨gv, 4, none⟩ = some (.int .u32 ((U.e : Nat) : Int)) := ye
                have zf : (wa.drewN nq).cell? ⟨gv, 5, none⟩ = some (.int .u32 ((U.f : Nat) : Int)) := yf
                have zg : (wa.drewN nq).cell? ⟨gv, 6, none⟩ = some (.int .u32 ((U.g : Nat) : Int)) := yg
                have zh : (wa.drewN nq).cell? ⟨gv, 7, none⟩ = some (.int .u32 ((U.h : Nat) : Int)) := yh
                have zk : (wa.drewN nq).cell? ⟨gk, k, none⟩ = some (.int .u32 (kv : Int)) := yk
                have zw : (wa.drewN nq).cell? ⟨gw, k, none⟩ = some (.int .u32 (wv : Int)) := yw
                replace KV := Lib.hid (KV.out.drewN nq)
                replace G := Lib.hid (grown_drewN G.out nq)
                clear ya yb yc yd ye yf yg yh yk yw
                generalize wa.drewN nq = wb at *
                go_wp2_with fail
                go_quiet ((go_at_call 65; (with_reducible first | exact Calls.quiet_of (T2.out _) | exact Calls.quiet_of (T13.out _) | exact Calls.quiet_of (T22.out _))))
                rw [two_val HU.out]
                have mt : Sha.two U < 4294967296 := Sha.wadd_lt _ _
                generalize htwo : Sha.two U = tv at *
                have Htwo := Lib.hid htwo
                clear htwo T6 T11 T25 T2 T13 T22
                have xa : (wb.drewN nq).cell? ⟨gv, 0, none⟩ = some (.int .u32 ((U.a : Nat) : Int)) := za
                have xb : (wb.drewN nq).cell? ⟨gv, 1, none⟩ = some (.int .u32 ((U.b : Nat) : Int)) := zb
                have xc : (wb.drewN nq).cell? ⟨gv, 2, none⟩ = some (.int .u32 ((U.c : Nat) : Int)) := zc
                have xd : (wb.drewN nq).cell? ⟨gv, 3, none⟩ = some (.int .u32 ((U.d : Nat) : Int)) := zd
                have xe : (wb.drewN nq).cell? ⟨gv, 4, none⟩ = some (.int .u32 ((U.e : Nat) : Int)) := ze
                have xf : (wb.drewN nq).cell? ⟨gv, 5, none⟩ = some (.int .u32 ((U.f : Nat) : Int)) := zf
                have xg : (wb.drewN nq).cell? ⟨gv, 6, none⟩ = some (.int .u32 ((U.g : Nat) : Int)) := zg
                have xh : (wb.drewN nq).cell? ⟨gv, 7, none⟩ = some (.int .u32 ((U.h : Nat) : Int)) := zh
                replace KV := Lib.hid (KV.out.drewN nq)
                replace G := Lib.hid (grown_drewN G.out nq)
                clear za zb zc zd ze zf zg zh zk zw
                generalize wb.drewN nq = wd at *
                have Ht := Lib.hid (show wd.there gv 0 ([.int .u32 (((ov : Int) + (tv : Int)) % 4294967296), .int .u32 (U.a : Int), .int .u32 (U.b : Int), .int .u32 (U.c : Int), .int .u32 (((U.d : Int) + (ov : Int)) % 4294967296), .int .u32 (U.e : Int), .int .u32 (U.f : Int), .int .u32 (U.g : Int)] : List Value).toArray.size from KV.out.there rfl)
                have e6 : ([.int .u32 (((ov : Int) + (tv : Int)) % 4294967296), .int .u32 (U.a : Int), .int .u32 (U.b : Int), .int .u32 (U.c : Int), .int .u32 (((U.d : Int) + (ov : Int)) % 4294967296), .int .u32 (U.e : Int), .int .u32 (U.f : Int), .int .u32 (U.g : Int)] : List Value) = u32s (Sha.round U kv wv).list := by rw [mod_wadd, mod_wadd, ← Hone.out, ← Htwo.out]; rfl
                have Ho := Lib.hid (show ([.int .u32 (((ov : Int) + (tv : Int)) % 4294967296), .int .u32 (U.a : Int), .int .u32 (U.b : Int), .int .u32 (U.c : Int), .int .u32 (((U.d : Int) + (ov : Int)) % 4294967296), .int .u32 (U.e : Int), .int .u32 (U.f : Int), .int .u32 (U.g : Int)] : List Value).toArray.all (·.oneCell') = true by rw [e6]; exact all_oneCell_toArray (u32s_one _))
                have Hi := Lib.hid (show (Tryz.prog.info? 64).map (·.size) = some ([.int .u32 (((ov : Int) + (tv : Int)) % 4294967296), .int .u32 (U.a : Int), .int .u32 (U.b : Int), .int .u32 (U.c : Int), .int .u32 (((U.d : Int) + (ov : Int)) % 4294967296), .int .u32 (U.e : Int), .int .u32 (U.f : Int), .int .u32 (U.g : Int)] : List Value).toArray.size from info8)
                have k6 := (KV.out.over (vs := [.int .u32 (((ov : Int) + (tv : Int)) % 4294967296), .int .u32 (U.a : Int), .int .u32 (U.b : Int), .int .u32 (U.c : Int), .int .u32 (((U.d : Int) + (ov : Int)) % 4294967296), .int .u32 (U.e : Int), .int .u32 (U.f : Int), .int .u32 (U.g : Int)]) rfl)
                have g6 := (grown_setCells gv [.int .u32 (((ov : Int) + (tv : Int)) % 4294967296), .int .u32 (U.a : Int), .int .u32 (U.b : Int), .int .u32 (U.c : Int), .int .u32 (((U.d : Int) + (ov : Int)) % 4294967296), .int .u32 (U.e : Int), .int .u32 (U.f : Int), .int .u32 (U.g : Int)] 0 G.out)
                have e7 : ∀ z, z = u32s (Sha.round U kv wv).list → z.toArray = (u32s (Sha.rounds (Sha.sched l 48) (k + 1) V).list).toArray := fun z hz => by rw [hz, HR.out]
                rw [e7 _ e6] at k6
                simp only [World.setCells, Nat.zero_add, Nat.reduceAdd] at k6 g6
                have K6 := Lib.hid k6
                have G6 := Lib.hid g6
                clear k6 g6 e7
                clear e6
                obtain ⟨f0, f1, f2, f3, f4, f5, f6, f7⟩ := eightFree KV.out
                clear Ht Ho Hi
                go_wp2_with fail
                exact ⟨⟨k + 1, by omega, by go_num, K6, G6⟩, by simp [intOf]; omega⟩
              · obtain rfl : k = 64 := by omega
                go_wp2_with fail
                go_meet
                exact ⟨KV, G⟩
          case rest =>
            clear KV
            obtain ⟨KV, G⟩ := hcut
            obtain ⟨w6, rfl⟩ : ∃ w6 : World, w6 = wc := ⟨_, rfl⟩
            replace Kr := Lib.hid (Kr.out.grown G.out (by intro e; injection e with e; exact hn3 e.symm))
            replace Kh := Lib.hid (Kh.out.grown G.out (by intro e; injection e with e; exact hn4 e.symm))
            replace B := Lib.hid (below_grown B.out G.out (fun k e => by injection e with e; omega))
            clear G KW KK
            obtain ⟨U, hU⟩ : ∃ U, U = Sha.rounds (Sha.sched l 48) 64 V := ⟨_, rfl⟩
            have HUb := Lib.hid (show Sha.block V l = V.add U by rw [hU]; rfl)
            rw [← hU] at KV
            clear hU
            go_upto_block 6 with fail
            go_cut [] (fun wx => Hid (Blk wx gh 64 (u32s (V.add U).list).toArray) ∧ Hid (w6.grownBy wx (some gh)))
            case first =>
              have G0 := Lib.hid (grown_refl w6 (some gh))
              have K0 := Lib.hid (show Blk w6 gh 64 (u32s ((V.add U).list.take 0 ++ V.list.drop 0)).toArray from Kh.out)
              go_wp2_with fail
              go_loopw [17] (fun s17 wr => ∃ k : Nat, k ≤ 8 ∧ s17 = .int .i64 (k : Int) ∧ Hid (Blk wr gh 64 (u32s ((V.add U).list.take k ++ V.list.drop k)).toArray) ∧ Hid (w6.grownBy wr (some gh))) (fun s17 _ => 8 - (intOf s17).toNat)
              case atStart => exact ⟨0, by omega, rfl, K0, G0⟩
              case round =>
                clear K0 G0
                obtain ⟨k, hk, rfl, KH, G⟩ := hrel
                by_cases hlt : k < 8
                · have hlV : k < V.list.length := hlt
                  have hlU : k < U.list.length := hlt
                  have hlF : ((V.add U).list.take k ++ V.list.drop k).length = 8 := by simp [Sha.V.list]; omega
                  have x0 := wCell KH.out (k := k) (by omega)
                  have x1 := wCell (KV.out.grown G.out (by intro e; injection e with e; exact hn4 e)) (k := k) hlU
                  have hg0 : ((V.add U).list.take k ++ V.list.drop k)[k]'(by omega) = V.list[k] := add_get hlV
                  rw [hg0] at x0
                  have HF := Lib.hid (add_next (V := V) (U := U) hlt hlV hlU)
                  have hfree := KH.out.free k
                  have u0 : (0 : Int) ≤ (k : Int) := by omega
                  have q0 : (k : Int) < 8 := by omega
                  have mh : V.list[k] < 4294967296 := vlist_lt HV.out hlV
                  clear hlF hg0
                  have KH2 := fun (n : Nat) (x : Int) (hx : x = (n : Int)) => wSet (k := k) (n := n) KH.out hx
                  have KH3 := Lib.hid (show Blk (wr.setCell ⟨gh, k, none⟩ (.int .u32 (((V.list[k] : Int) + (U.list[k] : Int)) % 4294967296))) gh 64 (u32s ((V.add U).list.take (k + 1) ++ V.list.drop (k + 1))).toArray by rw [← HF.out]; exact KH2 _ _ (mod_wadd _ _))
                  have G3 := Lib.hid (grown_setCell G.out (p := ⟨gh, k, none⟩) (.inl rfl) (.int .u32 (((V.list[k] : Int) + (U.list[k] : Int)) % 4294967296)))
                  clear KH2 KH G
                  generalize V.list[k] = a at *
                  generalize U.list[k] = b at *
                  go_wp2_with fail
                  go_still_tail 8, (by kernel_rfl)
                  change wpList _ _ _ _ _ wr.drew
                  go_wp2_with fail
                  have K9 := Lib.hid (show Blk (wr.setCell ⟨gh, k, none⟩ (.int .u32 (((a : Int) + (b : Int)) % 4294967296))).drew gh 64 (u32s ((V.add U).list.take (k + 1) ++ V.list.drop (k + 1))).toArray from KH3.out.drew)
                  have G9 := Lib.hid (show w6.grownBy (wr.setCell ⟨gh, k, none⟩ (.int .u32 (((a : Int) + (b : Int)) % 4294967296))).drew (some gh) from grown_drew G3.out)
                  exact ⟨⟨k + 1, by omega, by go_num, K9, G9⟩, by simp [intOf]; omega⟩
                · obtain rfl : k = 8 := by omega
                  have K9 := Lib.hid (show Blk wr gh 64 (u32s (V.add U).list).toArray from KH.out)
                  go_wp2_with fail
                  go_meet
                  exact ⟨K9, G⟩
            case rest =>
              clear Kh
              obtain ⟨Kh, G⟩ := hcut
              obtain ⟨w7, rfl⟩ : ∃ w7 : World, w7 = wc := ⟨_, rfl⟩
              have hrh : gr ≠ gh := by have := Hg.out; omega
              replace Kr := Lib.hid (Kr.out.grown G.out (by intro e; injection e with e; exact hrh e))
              have hwh := Hg.out
              replace B := Lib.hid (below_grown B.out G.out (fun k e => by injection e with e; omega))
              clear G KV
              have HR := Lib.hid (show (u32s (V.add U).list).toArray.size = 8 from rfl)
              have Hi8 := Lib.hid (show (Tryz.prog.info? 64).map (·.size) = some (u32s (V.add U).list).toArray.size from info8)
              have Ht := Lib.hid (show w7.there gr 0 (u32s (V.add U).list).toArray.size from Kr.out.there rfl)
              have Ho := Lib.hid (all_oneCell_toArray (u32s_one (V.add U).list))
              have K6 := Lib.hid (Kr.out.over (vs := u32s (V.add U).list) rfl)
              have B6 := Lib.hid (below_grown B.out (grown_setCells gr (u32s (V.add U).list) 0 (grown_refl w7 (some gr))) (fun k e => by injection e with e; omega))
              have hres := results_cell_row (P := Tryz.prog) Tryz.results47
              clear hwh
              go_wp2_with (first | ((refine wpList_load_row rfl 64 _ (by rfl) gh (by rfl) 64 (u32s (V.add U).list).toArray (0, 0) _ Kh.out Tryz.underlying64 rfl Hi8.out ?_)) | ((refine wpList_store_mid rfl 64 _ _ (by rfl) gr 0 (u32s (V.add U).list).toArray (by rfl) (by rfl) Ht.out Hi8.out Ho.out ?_)))
              exact bodyPost_ret (hres _ _ gr _ _ (0, 0) _ rfl K6.out Tryz.underlying64 rfl Hi8.out) rfl ⟨by rw [HUb.out], B6.out⟩
end
end Go.Proofs.YteodhonipbdplaaGreatDoor

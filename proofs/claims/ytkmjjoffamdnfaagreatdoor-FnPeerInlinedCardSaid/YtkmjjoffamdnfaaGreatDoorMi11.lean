/- The library's Digest.checkSum: the padding and the thirty-two bytes. -/
import Derived.Test.YtkmjjoffamdnfaaGreatDoorMi10
import Derived.Deep.RegionHeld3
namespace Go.Proofs.YtkmjjoffamdnfaaGreatDoor
open Go.RowKit
set_option maxRecDepth 100000
theorem slice72 (W : World) (g m : Nat) (hm : m ≤ 72) : (Instr.sliceAt 194 (.pointer (some ⟨g, 0, none⟩)) none (some (.int .u64 (m : Int))) none).run Tryz.prog W = .ok (.slice (some ⟨g, 0, none⟩) m 72) W := by
  have ha : Tryz.prog.arrayLen 194 = 72 := by kernel_rfl
  have he : Tryz.prog.elem 194 = 5 := by kernel_rfl
  have hu : Tryz.prog.underlying 194 = some (.array (Tryz.prog.arrayLen 194) (Tryz.prog.elem 194)) := by rw [ha, he]; exact Tryz.underlying194
  obtain ⟨i0, hi, hz0, hz1, hz2⟩ := info_parts Tryz.info5
  rw [run_sliceAt_array_h W 194 ⟨g, 0, none⟩ hu .u64 (m : Int) (by omega) (by rw [ha]; omega), ha, he]
  simp [sizeOf, typeInfo, hi, hz1, slicedAt, Addr.add]
theorem sliceMid (W : World) (g N c n : Nat) (hn : n ≤ N) (hc : N ≤ c) (hnc : n ≠ c) : (Instr.slice 22 (.slice (some ⟨g, 0, none⟩) N c) (some (.int .u64 (n : Int))) none none).run Tryz.prog W = .ok (.slice (some ⟨g, n, none⟩) (N - n) (c - n)) W := by
  obtain ⟨i0, hi, hz0, hz1, hz2⟩ := info_parts Tryz.info5
  have hs : Tryz.prog.elem 22 = 5 := by kernel_rfl
  have hu : Tryz.prog.underlying 22 = some (.slice (Tryz.prog.elem 22)) := by rw [hs]; exact Tryz.underlying22
  have e : (⟨g, 0, none⟩ : Addr).add n = ⟨g, n, none⟩ := by
    unfold Addr.add
    split
    · next h0 => subst h0; rfl
    · simp
  rw [run_slice_l W 22 _ N c hu .u64 n (by omega) (by omega)]
  have hcn : ¬ c = n := fun h => hnc h.symm
  simp [hs, sizeOf, typeInfo, sliced, hi, hz1, e, hcn]
theorem zero72 : Tryz.zeroCells194 = (bvs (List.replicate 72 0)).toArray := by kernel_rfl
section
variable {w : World} {g : Nat} {V : Sha.V} {X : List UInt8} {nx len : Nat} {l p : List UInt8} {K : List Nat} {gp op n c : Nat}

theorem digHeld0 (h : Dig w g V X nx len) : w.cell? ⟨g, 0, none⟩ = some (.int .u32 (V.a : Int)) := h.2.cell 0
theorem digHeld1 (h : Dig w g V X nx len) : w.cell? ⟨g, 1, none⟩ = some (.int .u32 (V.b : Int)) := h.2.cell 1
theorem digHeld2 (h : Dig w g V X nx len) : w.cell? ⟨g, 2, none⟩ = some (.int .u32 (V.c : Int)) := h.2.cell 2
theorem digHeld3 (h : Dig w g V X nx len) : w.cell? ⟨g, 3, none⟩ = some (.int .u32 (V.d : Int)) := h.2.cell 3
theorem digHeld4 (h : Dig w g V X nx len) : w.cell? ⟨g, 4, none⟩ = some (.int .u32 (V.e : Int)) := h.2.cell 4
theorem digHeld5 (h : Dig w g V X nx len) : w.cell? ⟨g, 5, none⟩ = some (.int .u32 (V.f : Int)) := h.2.cell 5
theorem digHeld6 (h : Dig w g V X nx len) : w.cell? ⟨g, 6, none⟩ = some (.int .u32 (V.g : Int)) := h.2.cell 6
theorem digHeld7 (h : Dig w g V X nx len) : w.cell? ⟨g, 7, none⟩ = some (.int .u32 (V.h : Int)) := h.2.cell 7
/-- a Write that leaves or fills the row -/
theorem digWrite (hV : V.ok) (hK : K.length = 64) (hKs : Sha.Small K) (hgk : g ≠ 19) (hk : Blk w 19 100 (u32s K).toArray)
    (hd : Dig w g V X nx len) (hF : Sha.Fed K V X nx len l) (hp : Bs w w.heap.size (.slice (some ⟨gp, op, none⟩) n c) p) (hn : n = p.length) (hpos : 0 < n) (hfill : nx = 0 ∨ 64 ≤ nx + n) (hle : n ≤ 60000) (hlen : len ≤ 100000) (hgp : gp ≠ g) :
    Calls Tryz.prog 128 #[.pointer (some ⟨g, 0, none⟩), .slice (some ⟨gp, op, none⟩) n c] w fun e w' => WrPost w g K len l p n e w' := by
  by_cases h0 : nx = 0
  · subst h0
    exact digWrite0 hV hK hKs hgk hk hd hF hp hn hpos hle hlen hgp
  · exact digWrite1 hV hK hKs hgk hk hd hF hp hn (by omega) (by have := hF.cnt; omega) (by omega) hle hlen hgp

set_option maxHeartbeats 4000000 in
theorem ckSum (hV : V.ok) (hK : K.length = 64) (hKs : Sha.Small K) (hgk : g ≠ 19) (hk : Blk w 19 100 (u32s K).toArray)
    (hd : Dig w g V X nx len) (hF : Sha.Fed K V X nx len l) (hlen : len ≤ 90000) :
    Calls Tryz.prog 130 #[.pointer (some ⟨g, 0, none⟩)] w fun e w' => e = .returned (.agg (bvs (Sha.sumK K l)).toArray) ∧ (∃ V' X' n', Dig w' g V' X' 0 n') ∧ w.grownBy w' (some g) := by
  have HV := Lib.hid hV
  have HF := Lib.hid hF
  have HKc := Lib.hid (And.intro hK hKs)
  have HD0 := Lib.hid hd
  have HK0 := Lib.hid hk
  have hg := hd.2.lt
  clear hV hF hK hKs hd hk
  go_enter Tryz.func130, Tryz.ntmps130
  go_upto_region 1 with fail
  obtain ⟨w1, hw1⟩ : ∃ w1, w1 = w.alloc (.cells #[.int .u8 0, .int .u8 0, .int .u8 0, .int .u8 0, .int .u8 0, .int .u8 0, .int .u8 0, .int .u8 0, .int .u8 0, .int .u8 0, .int .u8 0, .int .u8 0, .int .u8 0, .int .u8 0, .int .u8 0, .int .u8 0, .int .u8 0, .int .u8 0, .int .u8 0, .int .u8 0, .int .u8 0, .int .u8 0, .int .u8 0, .int .u8 0, .int .u8 0, .int .u8 0, .int .u8 0, .int .u8 0, .int .u8 0, .int .u8 0, .int .u8 0, .int .u8 0] 34) := ⟨_, rfl⟩
  obtain ⟨gr, hgr⟩ : ∃ gr, gr = w.heap.size := ⟨_, rfl⟩
  have KR := Lib.hid (show Blk w1 gr 34 (bvs (List.replicate 32 0)).toArray by rw [hw1, hgr]; exact Blk.new _ _ _)
  have HD1 := Lib.hid (show Dig w1 g V X nx len by rw [hw1]; exact ⟨HD0.out.1, HD0.out.2.alloc _⟩)
  have HK1 := Lib.hid (show Blk w1 19 100 (u32s K).toArray by rw [hw1]; exact HK0.out.alloc _)
  have G1 := Lib.hid (show w.grownBy w1 (some g) by rw [hw1]; exact grown_of_below (below_alloc _ _) _)
  rw [← hw1, ← hgr]
  have Hgr := Lib.hid hgr
  have hg1 : g < gr := by omega
  clear hw1 hgr HD0 HK0
  obtain ⟨c72, c73, c74⟩ := HD1.out.num
  go_upto_region 3 with fail
  obtain ⟨w2, hw2⟩ : ∃ w2, w2 = w1.alloc (.cells Tryz.zeroCells194 194) := ⟨_, rfl⟩
  obtain ⟨gt, hgt⟩ : ∃ gt, gt = w1.heap.size := ⟨_, rfl⟩
  have KT := Lib.hid (show Blk w2 gt 194 (bvs (List.replicate 72 0)).toArray by rw [hw2, hgt, ← zero72]; exact Blk.new _ _ _)
  have hg2 : gr < gt := by rw [hgt]; exact KR.out.lt
  have hk2 : 19 < gt := by rw [hgt]; exact HK1.out.lt
  rw [← hw2, ← hgt]
  have HD2 := Lib.hid (show Dig w2 g V X nx len by rw [hw2]; exact ⟨HD1.out.1, HD1.out.2.alloc _⟩)
  have HK2 := Lib.hid (show Blk w2 19 100 (u32s K).toArray by rw [hw2]; exact HK1.out.alloc _)
  have KR2 := Lib.hid (show Blk w2 gr 34 (bvs (List.replicate 32 0)).toArray by rw [hw2]; exact KR.out.alloc _)
  have G2 := Lib.hid (show w.grownBy w2 (some g) by rw [hw2]; exact grown_step G1.out (below_alloc _ _))
  have hgw : w.heap.size ≤ gr := by rw [Hgr.out]; exact Nat.le_refl _
  clear hw2 hgt HD1 HK1 KR G1 c72 c73 c74 Hgr
  have f0 := KT.out.free 0
  obtain ⟨d0, c0⟩ : ∃ v, w2.cell? ⟨gt, 0, none⟩ = some v := ⟨_, KT.out.cell 0⟩
  have KT3 := Lib.hid (byteSet (k := 0) (n := 128) KT.out (x := 128) rfl)
  have HD3 := Lib.hid (show Dig (w2.setCell ⟨gt, 0, none⟩ (.int .u8 128)) g V X nx len from ⟨HD2.out.1, HD2.out.2.far (by simp; omega) _⟩)
  have HK3 := Lib.hid (show Blk (w2.setCell ⟨gt, 0, none⟩ (.int .u8 128)) 19 100 (u32s K).toArray from HK2.out.keep (Below.heap_setCell w2 _ _ _ (by simp; omega)))
  have KR3 := Lib.hid (show Blk (w2.setCell ⟨gt, 0, none⟩ (.int .u8 128)) gr 34 (bvs (List.replicate 32 0)).toArray from KR2.out.far (by simp; omega) _)
  have G3 := Lib.hid (grown_setCell G2.out (p := ⟨gt, 0, none⟩) (.inr (by simp; omega)) (.int .u8 128))
  clear HD2 HK2 KR2 G2 KT
  go_upto_if 15 with fail
  clear c0 f0
  generalize w2.setCell ⟨gt, 0, none⟩ (.int .u8 128) = w3 at *
  go_cut [5] (fun s5 wx => ∃ t : Nat, s5 = .int .u64 (t : Int) ∧ 1 ≤ t ∧ t ≤ 64 ∧ Hid (t - 1 = (119 - len % 64) % 64) ∧ Hid (len % 64 = 0 ∨ 64 ≤ len % 64 + (t + 8)) ∧ wx = w3)
  case first =>
    by_cases h56 : len % 64 < 56
    · have h1 : (len : Int) % 64 < 56 := by omega
      go_wp2_with fail
      go_meet
      exact ⟨56 - len % 64, by congr 1; omega, by omega, by omega, Lib.hid (by omega), Lib.hid (by omega), rfl⟩
    · have h1 : ¬ (len : Int) % 64 < 56 := by omega
      go_wp2_with fail
      go_meet
      exact ⟨120 - len % 64, by congr 1; omega, by omega, by omega, Lib.hid (by omega), Lib.hid (by omega), rfl⟩
  case rest =>
    obtain ⟨t, rfl, ht1, ht2, Ht, Hfill, rfl⟩ := hcut
    have hs1 : ∀ W : World, (Instr.sliceAt 194 (.pointer (some ⟨gt, 0, none⟩)) none (some (.int .u64 ((t : Int) + 8))) none).run Tryz.prog W = .ok (.slice (some ⟨gt, 0, none⟩) (t + 8) 72) W := fun W => by
      have := slice72 W gt (t + 8) (by omega)
      rw [show ((t + 8 : Nat) : Int) = (t : Int) + 8 by omega] at this
      exact this
    have hs2 : ∀ W : World, (Instr.slice 22 (.slice (some ⟨gt, 0, none⟩) (t + 8) 72) (some (.int .u64 (t : Int))) none none).run Tryz.prog W = .ok (.slice (some ⟨gt, t, none⟩) 8 (72 - t)) W := fun W => by
      have := sliceMid W gt (t + 8) 72 t (by omega) (by omega) (by omega)
      rw [Nat.add_sub_cancel_left] at this
      exact this
    have hb := bePutU64 (w := wc) (n := 8) (c := 72 - t) (o := t) (x := len * 8) KT3.out (by omega) (by simp; omega) (by omega)
    rw [show ((len * 8 : Nat) : Int) = (len : Int) * 8 by omega] at hb
    have Hb := Lib.hid hb
    clear hb
    obtain ⟨c72, c73, c74⟩ := HD3.out.num
    have t0 : (0 : Int) ≤ (t : Int) := by omega
    have t64 : (t : Int) ≤ 64 := by omega
    go_wp2_with fail
    refine Hb.out.mono ?_
    rintro e w4 ⟨rfl, hb4, hg4⟩
    have KT4 := Lib.hid hb4
    have hne1 : (some g : Option Nat) ≠ some gt := by intro e; injection e with e; omega
    have hne2 : (some gr : Option Nat) ≠ some gt := by intro e; injection e with e; omega
    have hne3 : (some 19 : Option Nat) ≠ some gt := by intro e; injection e with e; omega
    have HD4 := Lib.hid (show Dig w4 g V X nx len from ⟨HD3.out.1, HD3.out.2.grown hg4 hne1⟩)
    have KR4 := Lib.hid (KR3.out.grown hg4 hne2)
    have HK4 := Lib.hid (HK3.out.grown hg4 hne3)
    have G4 := Lib.hid (show w.grownBy w4 (some g) from ⟨hg4.os.trans G3.out.os, hg4.tape.trans G3.out.tape, hg4.output.trans G3.out.output, Nat.le_trans G3.out.size hg4.size, fun i hi hne => (hg4.block i (Nat.lt_of_lt_of_le hi G3.out.size) (by intro e; injection e with e; omega)).trans (G3.out.block i hi hne)⟩)
    clear hb4 hg4 hne1 hne2 hne3 Hb HD3 KR3 HK3 G3 hs1 hs2 c72 c73 c74
    obtain ⟨P, hP⟩ : ∃ P, P = 128 :: (List.replicate ((119 - len % 64) % 64) 0 ++ Sha.be8 (len * 8)) := ⟨_, rfl⟩
    have hrow : (put8 ((List.replicate 72 0).set 0 (UInt8.ofNat 128)) t (len * 8)).take (t + 8) = 128 :: (List.replicate ((119 - len % 64) % 64) 0 ++ Sha.be8 (len * 8)) := Sha.padRow (x := len * 8) ht2 ht1 Ht.out
    have hl72 : (put8 ((List.replicate 72 0).set 0 (UInt8.ofNat 128)) t (len * 8)).length = 72 := by rw [put8_length]; simp
    rw [← hP] at hrow
    have hfr := (Bs.ofRowBlk (n := 72) hl72 KT4.out (by rw [hl72]; omega)).front (k := t + 8) (by rw [hl72]; omega)
    rw [hrow] at hfr
    have HPb := Lib.hid hfr
    have HPn := Lib.hid (show t + 8 = P.length by rw [← hrow, List.length_take, hl72]; omega)
    have HPad := Lib.hid (show l ++ P = Sha.padded l by rw [hP, HF.out.tot]; rfl)
    have hfill : nx = 0 ∨ 64 ≤ nx + (t + 8) := by have h1 := HF.out.cnt; have h2 := HF.out.tot; have h3 := Hfill.out; omega
    clear hP hrow hl72 hfr Ht Hfill KT3
    go_wp2_with fail
    refine (digWrite HV.out HKc.out.1 HKc.out.2 hgk HK4.out HD4.out HF.out HPb.out HPn.out (by omega) hfill (by omega) (by omega) (by omega)).mono ?_
    rintro e w5 ⟨rfl, ⟨V5, X5, nx5, hV5, hd5, hf5⟩, hg5⟩
    rw [HPad.out] at hf5
    obtain ⟨hsum, rfl⟩ := hf5.sum
    have HS := Lib.hid hsum
    have HD5 := Lib.hid hd5
    have HV5 := Lib.hid hV5
    have KR5 := Lib.hid (KR4.out.grown hg5 (by intro e; injection e with e; omega))
    have G5 := Lib.hid (G4.out.trans hg5)
    clear hsum hd5 hV5 hf5 hg5 HD4 KR4 HK4 G4 HPb HPn HPad hfill KT4
    obtain ⟨c72, c73, c74⟩ := HD5.out.num
    go_upto_region 15 with fail
    obtain ⟨w6, hw6⟩ : ∃ w6, w6 = w5.alloc (.cells #[.int .u8 0, .int .u8 0, .int .u8 0, .int .u8 0, .int .u8 0, .int .u8 0, .int .u8 0, .int .u8 0, .int .u8 0, .int .u8 0, .int .u8 0, .int .u8 0, .int .u8 0, .int .u8 0, .int .u8 0, .int .u8 0, .int .u8 0, .int .u8 0, .int .u8 0, .int .u8 0, .int .u8 0, .int .u8 0, .int .u8 0, .int .u8 0, .int .u8 0, .int .u8 0, .int .u8 0, .int .u8 0, .int .u8 0, .int .u8 0, .int .u8 0, .int .u8 0] 34) := ⟨_, rfl⟩
    obtain ⟨gd, hgd⟩ : ∃ gd, gd = w5.heap.size := ⟨_, rfl⟩
    obtain ⟨L0, hL0⟩ : ∃ L0 : List UInt8, L0 = List.replicate 32 0 := ⟨_, rfl⟩
    have KD := Lib.hid (show Blk w6 gd 34 (bvs L0).toArray by rw [hw6, hgd, hL0]; exact Blk.new _ _ _)
    have hL0l : L0.length = 32 := by rw [hL0]; simp
    obtain ⟨len5, hlen5⟩ : ∃ len5, len5 = len + P.length := ⟨_, rfl⟩
    rw [← hlen5] at HD5
    have HD := Lib.hid (show Dig w6 g V5 X5 0 len5 by rw [hw6]; exact ⟨HD5.out.1, HD5.out.2.alloc _⟩)
    have KR := Lib.hid (show Blk w6 gr 34 (bvs (List.replicate 32 0)).toArray by rw [hw6]; exact KR5.out.alloc _)
    have G := Lib.hid (show w.grownBy w6 (some g) by rw [hw6]; exact grown_step G5.out (below_alloc _ _))
    have hgd1 : gr < gd := by rw [hgd]; exact KR5.out.lt
    have HL0 := Lib.hid hL0
    have HV5 := HV5
    rw [← hw6, ← hgd]
    clear hw6 hgd hL0 hlen5 HD5 KR5 G5 c72 c73 c74
    go_cut [] (fun wx => Hid (Blk wx gd 34 (bvs (put4 L0 0 V5.a)).toArray) ∧ Hid (Dig wx g V5 X5 0 len5) ∧ Hid (Blk wx gr 34 (bvs (List.replicate 32 0)).toArray) ∧ Hid (w.grownBy wx (some g)))
    case first =>
      have HDd := Lib.hid (show Dig w6.drew g V5 X5 0 len5 from HD.out)
      have KDd := Lib.hid (show Blk w6.drew gd 34 (bvs L0).toArray from KD.out)
      go_region_held3 (fun W => W.cell? ⟨g, 0, none⟩ = some (.int .u32 (V5.a : Int))) (with_reducible first | exact digHeld0 HDd.out | exact digHeld0 HDn.out)
        ((go_at_call 135; (with_reducible refine (bePutU32 (x := V5.a) KDd.out (by omega) (by omega) HV5.out.a).mono ?_); rintro e wn ⟨rfl, hb, hg⟩; have KDn := Lib.hid hb; have HDn := Lib.hid (show Dig wn g V5 X5 0 len5 from ⟨HDd.out.1, HDd.out.2.grown hg (by intro e; injection e with e; omega)⟩); have Gn := Lib.hid hg; clear hb hg))
      have Gm := Lib.hid (show w.grownBy wn (some g) from ⟨Gn.out.os.trans G.out.os, Gn.out.tape.trans G.out.tape, Gn.out.output.trans G.out.output, Nat.le_trans G.out.size Gn.out.size, fun i hi hne => (Gn.out.block i (Nat.lt_of_lt_of_le hi G.out.size) (by intro e; injection e with e; omega)).trans (G.out.block i hi hne)⟩)
      have KRn := Lib.hid (show Blk wn gr 34 (bvs (List.replicate 32 0)).toArray from KR.out.drew.grown Gn.out (by intro e; injection e with e; omega))
      go_wp2_with fail
      go_meet
      exact ⟨KDn, HDn, KRn, Gm⟩
    case rest =>
      clear KD HD KR G
      obtain ⟨KD, HD, KR, G⟩ := hcut
      obtain ⟨w7, rfl⟩ : ∃ x : World, x = wc := ⟨_, rfl⟩
      obtain ⟨L1, hL⟩ : ∃ L, L = put4 L0 0 V5.a := ⟨_, rfl⟩
      rw [← hL] at KD
      have hL1l : L1.length = 32 := by rw [hL, put4_length]; exact hL0l
      have HL1 := Lib.hid hL
      clear hL
      go_upto_region 16 with fail
      go_cut [] (fun wx => Hid (Blk wx gd 34 (bvs (put4 L1 4 V5.b)).toArray) ∧ Hid (Dig wx g V5 X5 0 len5) ∧ Hid (Blk wx gr 34 (bvs (List.replicate 32 0)).toArray) ∧ Hid (w.grownBy wx (some g)))
      case first =>
        have HDd := Lib.hid (show Dig w7.drew g V5 X5 0 len5 from HD.out)
        have KDd := Lib.hid (show Blk w7.drew gd 34 (bvs L1).toArray from KD.out)
        go_region_held3 (fun W => W.cell? ⟨g, 1, none⟩ = some (.int .u32 (V5.b : Int))) (with_reducible first | exact digHeld1 HDd.out | exact digHeld1 HDn.out)
          ((go_at_call 135; (with_reducible refine (bePutU32 (x := V5.b) KDd.out (by omega) (by omega) HV5.out.b).mono ?_); rintro e wn ⟨rfl, hb, hg⟩; have KDn := Lib.hid hb; have HDn := Lib.hid (show Dig wn g V5 X5 0 len5 from ⟨HDd.out.1, HDd.out.2.grown hg (by intro e; injection e with e; omega)⟩); have Gn := Lib.hid hg; clear hb hg))
        have Gm := Lib.hid (show w.grownBy wn (some g) from ⟨Gn.out.os.trans G.out.os, Gn.out.tape.trans G.out.tape, Gn.out.output.trans G.out.output, Nat.le_trans G.out.size Gn.out.size, fun i hi hne => (Gn.out.block i (Nat.lt_of_lt_of_le hi G.out.size) (by intro e; injection e with e; omega)).trans (G.out.block i hi hne)⟩)
        have KRn := Lib.hid (show Blk wn gr 34 (bvs (List.replicate 32 0)).toArray from KR.out.drew.grown Gn.out (by intro e; injection e with e; omega))
        go_wp2_with fail
        go_meet
        exact ⟨KDn, HDn, KRn, Gm⟩
      case rest =>
        clear KD HD KR G
        obtain ⟨KD, HD, KR, G⟩ := hcut
        obtain ⟨w8, rfl⟩ : ∃ x : World, x = wc := ⟨_, rfl⟩
        obtain ⟨L2, hL⟩ : ∃ L, L = put4 L1 4 V5.b := ⟨_, rfl⟩
        rw [← hL] at KD
        have hL2l : L2.length = 32 := by rw [hL, put4_length]; exact hL1l
        have HL2 := Lib.hid hL
        clear hL
        go_upto_region 17 with fail
        go_cut [] (fun wx => Hid (Blk wx gd 34 (bvs (put4 L2 8 V5.c)).toArray) ∧ Hid (Dig wx g V5 X5 0 len5) ∧ Hid (Blk wx gr 34 (bvs (List.replicate 32 0)).toArray) ∧ Hid (w.grownBy wx (some g)))
        case first =>
          have HDd := Lib.hid (show Dig w8.drew g V5 X5 0 len5 from HD.out)
          have KDd := Lib.hid (show Blk w8.drew gd 34 (bvs L2).toArray from KD.out)
          go_region_held3 (fun W => W.cell? ⟨g, 2, none⟩ = some (.int .u32 (V5.c : Int))) (with_reducible first | exact digHeld2 HDd.out | exact digHeld2 HDn.out)
            ((go_at_call 135; (with_reducible refine (bePutU32 (x := V5.c) KDd.out (by omega) (by omega) HV5.out.c).mono ?_); rintro e wn ⟨rfl, hb, hg⟩; have KDn := Lib.hid hb; have HDn := Lib.hid (show Dig wn g V5 X5 0 len5 from ⟨HDd.out.1, HDd.out.2.grown hg (by intro e; injection e with e; omega)⟩); have Gn := Lib.hid hg; clear hb hg))
          have Gm := Lib.hid (show w.grownBy wn (some g) from ⟨Gn.out.os.trans G.out.os, Gn.out.tape.trans G.out.tape, Gn.out.output.trans G.out.output, Nat.le_trans G.out.size Gn.out.size, fun i hi hne => (Gn.out.block i (Nat.lt_of_lt_of_le hi G.out.size) (by intro e; injection e with e; omega)).trans (G.out.block i hi hne)⟩)
          have KRn := Lib.hid (show Blk wn gr 34 (bvs (List.replicate 32 0)).toArray from KR.out.drew.grown Gn.out (by intro e; injection e with e; omega))
          go_wp2_with fail
          go_meet
          exact ⟨KDn, HDn, KRn, Gm⟩
        case rest =>
          clear KD HD KR G
          obtain ⟨KD, HD, KR, G⟩ := hcut
          obtain ⟨w9, rfl⟩ : ∃ x : World, x = wc := ⟨_, rfl⟩
          obtain ⟨L3, hL⟩ : ∃ L, L = put4 L2 8 V5.c := ⟨_, rfl⟩
          rw [← hL] at KD
          have hL3l : L3.length = 32 := by rw [hL, put4_length]; exact hL2l
          have HL3 := Lib.hid hL
          clear hL
          go_upto_region 18 with fail
          go_cut [] (fun wx => Hid (Blk wx gd 34 (bvs (put4 L3 12 V5.d)).toArray) ∧ Hid (Dig wx g V5 X5 0 len5) ∧ Hid (Blk wx gr 34 (bvs (List.replicate 32 0)).toArray) ∧ Hid (w.grownBy wx (some g)))
          case first =>
            have HDd := Lib.hid (show Dig w9.drew g V5 X5 0 len5 from HD.out)
            have KDd := Lib.hid (show Blk w9.drew gd 34 (bvs L3).toArray from KD.out)
            go_region_held3 (fun W => W.cell? ⟨g, 3, none⟩ = some (.int .u32 (V5.d : Int))) (with_reducible first | exact digHeld3 HDd.out | exact digHeld3 HDn.out)
              ((go_at_call 135; (with_reducible refine (bePutU32 (x := V5.d) KDd.out (by omega) (by omega) HV5.out.d).mono ?_); rintro e wn ⟨rfl, hb, hg⟩; have KDn := Lib.hid hb; have HDn := Lib.hid (show Dig wn g V5 X5 0 len5 from ⟨HDd.out.1, HDd.out.2.grown hg (by intro e; injection e with e; omega)⟩); have Gn := Lib.hid hg; clear hb hg))
            have Gm := Lib.hid (show w.grownBy wn (some g) from ⟨Gn.out.os.trans G.out.os, Gn.out.tape.trans G.out.tape, Gn.out.output.trans G.out.output, Nat.le_trans G.out.size Gn.out.size, fun i hi hne => (Gn.out.block i (Nat.lt_of_lt_of_le hi G.out.size) (by intro e; injection e with e; omega)).trans (G.out.block i hi hne)⟩)
            have KRn := Lib.hid (show Blk wn gr 34 (bvs (List.replicate 32 0)).toArray from KR.out.drew.grown Gn.out (by intro e; injection e with e; omega))
            go_wp2_with fail
            go_meet
            exact ⟨KDn, HDn, KRn, Gm⟩
          case rest =>
            clear KD HD KR G
            obtain ⟨KD, HD, KR, G⟩ := hcut
            obtain ⟨w10, rfl⟩ : ∃ x : World, x = wc := ⟨_, rfl⟩
            obtain ⟨L4, hL⟩ : ∃ L, L = put4 L3 12 V5.d := ⟨_, rfl⟩
            rw [← hL] at KD
            have hL4l : L4.length = 32 := by rw [hL, put4_length]; exact hL3l
            have HL4 := Lib.hid hL
            clear hL
            go_upto_region 19 with fail
            go_cut [] (fun wx => Hid (Blk wx gd 34 (bvs (put4 L4 16 V5.e)).toArray) ∧ Hid (Dig wx g V5 X5 0 len5) ∧ Hid (Blk wx gr 34 (bvs (List.replicate 32 0)).toArray) ∧ Hid (w.grownBy wx (some g)))
            case first =>
              have HDd := Lib.hid (show Dig w10.drew g V5 X5 0 len5 from HD.out)
              have KDd := Lib.hid (show Blk w10.drew gd 34 (bvs L4).toArray from KD.out)
              go_region_held3 (fun W => W.cell? ⟨g, 4, none⟩ = some (.int .u32 (V5.e : Int))) (with_reducible first | exact digHeld4 HDd.out | exact digHeld4 HDn.out)
                ((go_at_call 135; (with_reducible refine (bePutU32 (x := V5.e) KDd.out (by omega) (by omega) HV5.out.e).mono ?_); rintro e wn ⟨rfl, hb, hg⟩; have KDn := Lib.hid hb; have HDn := Lib.hid (show Dig wn g V5 X5 0 len5 from ⟨HDd.out.1, HDd.out.2.grown hg (by intro e; injection e with e; omega)⟩); have Gn := Lib.hid hg; clear hb hg))
              have Gm := Lib.hid (show w.grownBy wn (some g) from ⟨Gn.out.os.trans G.out.os, Gn.out.tape.trans G.out.tape, Gn.out.output.trans G.out.output, Nat.le_trans G.out.size Gn.out.size, fun i hi hne => (Gn.out.block i (Nat.lt_of_lt_of_le hi G.out.size) (by intro e; injection e with e; omega)).trans (G.out.block i hi hne)⟩)
              have KRn := Lib.hid (show Blk wn gr 34 (bvs (List.replicate 32 0)).toArray from KR.out.drew.grown Gn.out (by intro e; injection e with e; omega))
              go_wp2_with fail
              go_meet
              exact ⟨KDn, HDn, KRn, Gm⟩
            case rest =>
              clear KD HD KR G
              obtain ⟨KD, HD, KR, G⟩ := hcut
              obtain ⟨w11, rfl⟩ : ∃ x : World, x = wc := ⟨_, rfl⟩
              obtain ⟨L5, hL⟩ : ∃ L, L = put4 L4 16 V5.e := ⟨_, rfl⟩
              rw [← hL] at KD
              have hL5l : L5.length = 32 := by rw [hL, put4_length]; exact hL4l
              have HL5 := Lib.hid hL
              clear hL
              go_upto_region 20 with fail
              go_cut [] (fun wx => Hid (Blk wx gd 34 (bvs (put4 L5 20 V5.f)).toArray) ∧ Hid (Dig wx g V5 X5 0 len5) ∧ Hid (Blk wx gr 34 (bvs (List.replicate 32 0)).toArray) ∧ Hid (w.grownBy wx (some g)))
              case first =>
                have HDd := Lib.hid (show Dig w11.drew g V5 X5 0 len5 from HD.out)
                have KDd := Lib.hid (show Blk w11.drew gd 34 (bvs L5).toArray from KD.out)
                go_region_held3 (fun W => W.cell? ⟨g, 5, none⟩ = some (.int .u32 (V5.f : Int))) (with_reducible first | exact digHeld5 HDd.out | exact digHeld5 HDn.out)
                  ((go_at_call 135; (with_reducible refine (bePutU32 (x := V5.f) KDd.out (by omega) (by omega) HV5.out.f).mono ?_); rintro e wn ⟨rfl, hb, hg⟩; have KDn := Lib.hid hb; have HDn := Lib.hid (show Dig wn g V5 X5 0 len5 from ⟨HDd.out.1, HDd.out.2.grown hg (by intro e; injection e with e; omega)⟩); have Gn := Lib.hid hg; clear hb hg))
                have Gm := Lib.hid (show w.grownBy wn (some g) from ⟨Gn.out.os.trans G.out.os, Gn.out.tape.trans G.out.tape, Gn.out.output.trans G.out.output, Nat.le_trans G.out.size Gn.out.size, fun i hi hne => (Gn.out.block i (Nat.lt_of_lt_of_le hi G.out.size) (by intro e; injection e with e; omega)).trans (G.out.block i hi hne)⟩)
                have KRn := Lib.hid (show Blk wn gr 34 (bvs (List.replicate 32 0)).toArray from KR.out.drew.grown Gn.out (by intro e; injection e with e; omega))
                go_wp2_with fail
                go_meet
                exact ⟨KDn, HDn, KRn, Gm⟩
              case rest =>
                clear KD HD KR G
                obtain ⟨KD, HD, KR, G⟩ := hcut
                obtain ⟨w12, rfl⟩ : ∃ x : World, x = wc := ⟨_, rfl⟩
                obtain ⟨L6, hL⟩ : ∃ L, L = put4 L5 20 V5.f := ⟨_, rfl⟩
                rw [← hL] at KD
                have hL6l : L6.length = 32 := by rw [hL, put4_length]; exact hL5l
                have HL6 := Lib.hid hL
                clear hL
                go_upto_region 21 with fail
                go_cut [] (fun wx => Hid (Blk wx gd 34 (bvs (put4 L6 24 V5.g)).toArray) ∧ Hid (Dig wx g V5 X5 0 len5) ∧ Hid (Blk wx gr 34 (bvs (List.replicate 32 0)).toArray) ∧ Hid (w.grownBy wx (some g)))
                case first =>
                  have HDd := Lib.hid (show Dig w12.drew g V5 X5 0 len5 from HD.out)
                  have KDd := Lib.hid (show Blk w12.drew gd 34 (bvs L6).toArray from KD.out)
                  go_region_held3 (fun W => W.cell? ⟨g, 6, none⟩ = some (.int .u32 (V5.g : Int))) (with_reducible first | exact digHeld6 HDd.out | exact digHeld6 HDn.out)
                    ((go_at_call 135; (with_reducible refine (bePutU32 (x := V5.g) KDd.out (by omega) (by omega) HV5.out.g).mono ?_); rintro e wn ⟨rfl, hb, hg⟩; have KDn := Lib.hid hb; have HDn := Lib.hid (show Dig wn g V5 X5 0 len5 from ⟨HDd.out.1, HDd.out.2.grown hg (by intro e; injection e with e; omega)⟩); have Gn := Lib.hid hg; clear hb hg))
                  have Gm := Lib.hid (show w.grownBy wn (some g) from ⟨Gn.out.os.trans G.out.os, Gn.out.tape.trans G.out.tape, Gn.out.output.trans G.out.output, Nat.le_trans G.out.size Gn.out.size, fun i hi hne => (Gn.out.block i (Nat.lt_of_lt_of_le hi G.out.size) (by intro e; injection e with e; omega)).trans (G.out.block i hi hne)⟩)
                  have KRn := Lib.hid (show Blk wn gr 34 (bvs (List.replicate 32 0)).toArray from KR.out.drew.grown Gn.out (by intro e; injection e with e; omega))
                  go_wp2_with fail
                  go_meet
                  exact ⟨KDn, HDn, KRn, Gm⟩
                case rest =>
                  clear KD HD KR G
                  obtain ⟨KD, HD, KR, G⟩ := hcut
                  obtain ⟨w13, rfl⟩ : ∃ x : World, x = wc := ⟨_, rfl⟩
                  obtain ⟨L7, hL⟩ : ∃ L, L = put4 L6 24 V5.g := ⟨_, rfl⟩
                  rw [← hL] at KD
                  have hL7l : L7.length = 32 := by rw [hL, put4_length]; exact hL6l
                  have HL7 := Lib.hid hL
                  clear hL
                  have c74 := HD.out.num.2.2
                  go_upto_if 95 with fail
                  go_cut [] (fun wx => Hid (Blk wx gd 34 (bvs (put4 L7 28 V5.h)).toArray) ∧ Hid (Dig wx g V5 X5 0 len5) ∧ Hid (Blk wx gr 34 (bvs (List.replicate 32 0)).toArray) ∧ Hid (w.grownBy wx (some g)))
                  case first =>
                    go_upto_region 23 with fail
                    have HDd := Lib.hid (show Dig w13.drew g V5 X5 0 len5 from HD.out)
                    have KDd := Lib.hid (show Blk w13.drew gd 34 (bvs L7).toArray from KD.out)
                    go_region_held3 (fun W => W.cell? ⟨g, 7, none⟩ = some (.int .u32 (V5.h : Int))) (with_reducible first | exact digHeld7 HDd.out | exact digHeld7 HDn.out)
                      ((go_at_call 135; (with_reducible refine (bePutU32 (x := V5.h) KDd.out (by omega) (by omega) HV5.out.h).mono ?_); rintro e wn ⟨rfl, hb, hg⟩; have KDn := Lib.hid hb; have HDn := Lib.hid (show Dig wn g V5 X5 0 len5 from ⟨HDd.out.1, HDd.out.2.grown hg (by intro e; injection e with e; omega)⟩); have Gn := Lib.hid hg; clear hb hg))
                    have Gm := Lib.hid (show w.grownBy wn (some g) from ⟨Gn.out.os.trans G.out.os, Gn.out.tape.trans G.out.tape, Gn.out.output.trans G.out.output, Nat.le_trans G.out.size Gn.out.size, fun i hi hne => (Gn.out.block i (Nat.lt_of_lt_of_le hi G.out.size) (by intro e; injection e with e; omega)).trans (G.out.block i hi hne)⟩)
                    have KRn := Lib.hid (show Blk wn gr 34 (bvs (List.replicate 32 0)).toArray from KR.out.drew.grown Gn.out (by intro e; injection e with e; omega))
                    go_wp2_with fail
                    go_meet
                    exact ⟨KDn, HDn, KRn, Gm⟩
                  case rest =>
                    clear KD HD KR G
                    clear c74
                    obtain ⟨KD, HD, KR, G⟩ := hcut
                    obtain ⟨w14, rfl⟩ : ∃ x : World, x = wc := ⟨_, rfl⟩
                    obtain ⟨L8, hL⟩ : ∃ L, L = put4 L7 28 V5.h := ⟨_, rfl⟩
                    rw [← hL] at KD
                    have hL8l : L8.length = 32 := by rw [hL, put4_length]; exact hL7l
                    have HL8 := Lib.hid hL
                    clear hL
                    have hE : L8 = Sha.sumK K l := by rw [HL8.out, HL7.out, HL6.out, HL5.out, HL4.out, HL3.out, HL2.out, HL1.out, HL0.out, Sha.outRow, HS.out]
                    obtain ⟨Z, hZ⟩ : ∃ Z, Z = (bvs L8).toArray := ⟨_, rfl⟩
                    have hZs : Z.size = 32 := by rw [hZ]; simp [bvs, hL8l]
                    have Hi32 := Lib.hid (show (Tryz.prog.info? 34).map (·.size) = some Z.size by rw [hZs]; kernel_rfl)
                    have Ht := Lib.hid (show w14.there gr 0 Z.size from KR.out.there (by rw [hZs]; rfl))
                    have Ho := Lib.hid (show Z.all (·.oneCell') = true by rw [hZ]; exact all_oneCell_toArray (fun u hu => by unfold bvs at hu; obtain ⟨_, _, rfl⟩ := List.mem_map.1 hu; rfl))
                    have KZ := Lib.hid (show Blk w14 gd 34 Z by rw [hZ]; exact KD.out)
                    have K8 := Lib.hid (show Blk (w14.setCells gr 0 Z.toList) gr 34 Z from KR.out.over (vs := Z.toList) (by rw [Array.length_toList, hZs]; rfl))
                    have B8 := Lib.hid (show w.grownBy (w14.setCells gr 0 Z.toList) (some g) from ⟨(grown_setCells gr Z.toList 0 (grown_refl w14 (some gr))).os.trans G.out.os, (grown_setCells gr Z.toList 0 (grown_refl w14 (some gr))).tape.trans G.out.tape, (grown_setCells gr Z.toList 0 (grown_refl w14 (some gr))).output.trans G.out.output, Nat.le_trans G.out.size (grown_setCells gr Z.toList 0 (grown_refl w14 (some gr))).size, fun i hi hne => ((grown_setCells gr Z.toList 0 (grown_refl w14 (some gr))).block i (Nat.lt_of_lt_of_le hi G.out.size) (by intro e; injection e with e; omega)).trans (G.out.block i hi hne)⟩)
                    have HD8 := Lib.hid (show Dig (w14.setCells gr 0 Z.toList) g V5 X5 0 len5 from ⟨HD.out.1, HD.out.2.grown (grown_setCells gr Z.toList 0 (grown_refl w14 (some gr))) (by intro e; injection e with e; omega)⟩)
                    have HZ := Lib.hid hZ
                    have HE := Lib.hid hE
                    clear hZ hZs hE
                    have hres := results_cell_row (P := Tryz.prog) Tryz.results130
                    go_wp2_with (first | ((refine wpList_load_row rfl 34 _ (by rfl) gd (by rfl) 34 Z (0, 0) _ KZ.out Tryz.underlying34 rfl Hi32.out ?_)) | ((refine wpList_store_mid rfl 34 _ _ (by rfl) gr 0 Z (by rfl) (by rfl) Ht.out Hi32.out Ho.out ?_)))
                    exact bodyPost_ret (hres _ _ gr _ _ (0, 0) _ rfl K8.out Tryz.underlying34 rfl Hi32.out) rfl ⟨by rw [HZ.out, HE.out], ⟨_, _, _, HD8.out⟩, B8.out⟩
end
end Go.Proofs.YtkmjjoffamdnfaaGreatDoor

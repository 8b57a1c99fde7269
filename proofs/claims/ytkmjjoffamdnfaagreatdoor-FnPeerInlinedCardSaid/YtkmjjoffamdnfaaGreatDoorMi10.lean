/- The library's Digest.Write into an empty row. -/
import Derived.Test.YtkmjjoffamdnfaaGreatDoorMi02
import Derived.Test.YtkmjjoffamdnfaaGreatDoorMi03
import Derived.Test.YtkmjjoffamdnfaaGreatDoorMi09
import Derived.Laws.CopyOwn
namespace Go.Proofs.YtkmjjoffamdnfaaGreatDoor
open Go.RowKit
set_option maxRecDepth 100000
theorem blockSaid : BlockSaid := fun hV hK hKs hgk hg hk h hl => blockGeneric hV hK hKs hgk hg hk h hl
section
variable {w : World} {g : Nat} {V : Sha.V} {X : List UInt8} {nx len : Nat} {l p : List UInt8} {K : List Nat} {gp op n c : Nat}
/-- what Write comes to -/
def WrPost (w : World) (g : Nat) (K : List Nat) (len : Nat) (l p : List UInt8) (n : Nat) (e : Ending) (w' : World) : Prop :=
  e = .returned (.tuple #[.int .i64 (n : Int), .nilIface]) ∧ (∃ V' X' nx', Sha.V.ok V' ∧ Dig w' g V' X' nx' (len + p.length) ∧ Sha.Fed K V' X' nx' (len + p.length) (l ++ p)) ∧ w.grownBy w' (some g)
set_option maxHeartbeats 2000000 in
theorem digWrite0 (hV : V.ok) (hK : K.length = 64) (hKs : Sha.Small K) (hgk : g ≠ 19) (hk : Blk w 19 100 (u32s K).toArray)
    (hd : Dig w g V X 0 len) (hF : Sha.Fed K V X 0 len l) (hp : Bs w w.heap.size (.slice (some ⟨gp, op, none⟩) n c) p) (hn : n = p.length) (hpos : 0 < n) (hle : n ≤ 60000) (hlen : len ≤ 100000) (hgp : gp ≠ g) :
    Calls Tryz.prog 128 #[.pointer (some ⟨g, 0, none⟩), .slice (some ⟨gp, op, none⟩) n c] w fun e w' => WrPost w g K len l p n e w' := by
  have Hn := Lib.hid hn
  have HV := Lib.hid hV
  have HF := Lib.hid hF
  have HP := Lib.hid hp
  have HKc := Lib.hid (And.intro hK hKs)
  obtain ⟨c72, c73, c74⟩ := hd.num
  have f72 := hd.2.free 72
  have f73 := hd.2.free 73
  have HD := Lib.hid (hd.setL (n := len + n) (x := (len : Int) + (n : Int)) (by omega))
  have G := Lib.hid (grown_setCell (grown_refl w (some g)) (p := ⟨g, 73, none⟩) (.inl rfl) (.int .u64 ((len : Int) + (n : Int))))
  have HKb := Lib.hid hk
  clear hn hV hF hp hK hKs hd hk
  go_enter Tryz.func128, Tryz.ntmps128
  go_upto_region 10 with fail
  clear c72 c73 c74 f72 f73
  generalize w.setCell ⟨g, 73, none⟩ (.int .u64 ((len : Int) + (n : Int))) = w1 at *
  have hap : ∀ (o : Nat) (N C : Nat), (Value.slice (some ⟨gp, o, none⟩) N C).ownBlock ≠ some g := fun o N C e => by
    simp [Value.ownBlock] at e
    exact hgp e
  have Hap := Lib.hid hap
  clear hap
  obtain ⟨t, ht⟩ : ∃ t, t = 64 * (n / 64) := ⟨_, rfl⟩
  have htn : t ≤ n := by omega
  have Ht := Lib.hid ht
  go_upto_if 61 with fail
  go_cut [1] (fun s1 wx => ∃ (o1 n1 c1 : Nat) (V1 : Sha.V), s1 = .slice (some ⟨gp, o1, none⟩) n1 c1 ∧ n1 < 64 ∧ Hid V1.ok ∧ Hid (n1 + t = n) ∧ Hid (Dig wx g V1 X 0 (len + n)) ∧ Hid (Sha.Fed K V1 X 0 (len + t) (l ++ p.take t)) ∧ Hid (Bs w w.heap.size (.slice (some ⟨gp, o1, none⟩) n1 c1) (p.drop t)) ∧ Hid (w.grownBy wx (some g)))
  case first =>
    by_cases h64 : 64 ≤ n
    · have hand := i64_andNot63 n (by omega)
      rw [← ht] at hand
      have ht0 : (0 : Int) < (t : Int) := by omega
      have htm : (t : Int) ≤ 65536 := by omega
      obtain ⟨o', hsl0, HB2⟩ := slice_fromB HP.out htn
      have hsl : ∀ W : World, (Instr.slice 22 (.slice (some ⟨gp, op, none⟩) n c) (some (.int .i64 (t : Int))) none none).run Tryz.prog W = .ok (.slice (some ⟨gp, o', none⟩) (n - t) (c - t)) W := fun W => hsl0 W .i64
      have HB3 := Lib.hid HB2
      have HX := Lib.hid (((HP.out.keepRow G.out (Nat.le_refl _) (.inr (.inl (Hap.out op n c)))).more G.out.size).front (k := t) (by rw [← Hn.out]; exact htn))
      have HK1 := Lib.hid (HKb.out.grown G.out (by intro e; injection e with e; exact hgk e.symm))
      have hpl := Lib.hid (show (p.take t).length = 64 * (n / 64) by rw [List.length_take, ← Hn.out]; omega)
      have Hnt := Lib.hid (show n - t < 64 ∧ n - t + t = n by omega)
      clear hsl0 HB2 ht
      have h64' : (64 : Int) ≤ (n : Int) := by omega
      go_wp2_with fail
      go_loopw [1, 7] (fun s1 s7 wr => s1 = .slice (some ⟨gp, op, none⟩) n c ∧ s7 = .int .i64 (t : Int) ∧ wr = w1) (fun _ _ _ => 0)
      case atStart => exact ⟨rfl, rfl, rfl⟩
      case round =>
        obtain ⟨rfl, rfl, hw⟩ := hrel
        subst hw
        have htc : (t : Int) ≤ (c : Int) := by
          obtain ⟨A2, c2, he, hl, hc2, _⟩ := HP.out
          injection he with e1 e2 e3
          omega
        have ht00 : (0 : Int) ≤ (t : Int) := by omega
        go_wp2_with fail
        refine (shaBlockL (m := n / 64) blockSaid HV.out HKc.out.1 HKc.out.2 hgk HD.out HK1.out HX.out Ht.out hpl.out).mono ?_
        rintro e w2 ⟨rfl, hd2, hg2⟩
        have HD2 := Lib.hid hd2
        have HG2 := Lib.hid (G.out.trans hg2)
        have HV2 := Lib.hid (Sha.blocksK_ok K (n / 64) HV.out (p.take t))
        have HF2 := Lib.hid (show Sha.Fed K (Sha.blocksK K (n / 64) V (p.take t)) X 0 (len + t) (l ++ p.take t) by
          rw [Ht.out, Sha.blocksK_take K (n / 64) V p (Nat.le_refl _)]
          exact HF.out.blocks (n / 64) (by rw [← Hn.out, ← Ht.out]; exact htn))
        clear hd2 hg2
        go_wp2_with fail
        go_meet
        exact ⟨o', n - t, c - t, _, rfl, Hnt.out.1, HV2, Lib.hid Hnt.out.2, HD2, HF2, HB3, HG2⟩
    · have hn64 : (n : Int) < 64 := by omega
      have t0 : t = 0 := by omega
      subst t0
      go_wp2_with fail
      go_meet
      exact ⟨op, n, c, V, rfl, by omega, HV, Lib.hid rfl, HD, Lib.hid (by simpa using HF.out), Lib.hid (by simpa using HP.out), G⟩
  case rest =>
    clear HD G HF HP HV
    obtain ⟨o1, n1, c1, V1, rfl, hn1, HV, Hnt, HD, HF, HP, G⟩ := hcut
    obtain ⟨w2, rfl⟩ : ∃ w2 : World, w2 = wc := ⟨_, rfl⟩
    have hlt : (p.drop t).length = n1 := by rw [List.length_drop, ← Hn.out]; have := Hnt.out; omega
    by_cases h0 : n1 = 0
    · subst h0
      have htp : p.take t = p := List.take_of_length_le (by rw [← Hn.out]; have := Hnt.out; omega)
      have htl : t = p.length := by rw [← Hn.out]; have := Hnt.out; omega
      have HE := Lib.hid (And.intro htp htl)
      clear htp htl hlt
      go_wp2_with fail
      go_ret2
      refine ⟨rfl, ⟨V1, X, 0, HV.out, by rw [← Hn.out]; exact HD.out, ?_⟩, G.out⟩
      have := HF.out
      rw [HE.out.1, HE.out.2] at this
      exact this
    · have hpos1 : (0 : Int) < (n1 : Int) := by omega
      have HX := Lib.hid (HP.out.keepRow G.out (Nat.le_refl _) (.inr (.inl (Hap.out o1 n1 c1))))
      have Hlt := Lib.hid hlt
      have Hn0 := Lib.hid h0
      have Hmin := Lib.hid (show n1 = min n1 64 by omega)
      have hfit : 0 + n1 ≤ 64 := by omega
      clear hlt h0
      go_wp2_with (refine wpList_copyD (k := 0) (q := n1) rfl _ _ rfl (by rfl) (by rfl) HD.out HX.out Hmin.out hfit ?_; intro w5 hd5 hg5; have c72 := hd5.num.1; have f72 := hd5.2.free 72; have HD5 := Lib.hid hd5; have HG5 := Lib.hid hg5; clear hd5 hg5)
      go_ret2
      have e1 : ((p.drop t).take n1) = p.drop t := List.take_of_length_le (by rw [Hlt.out]; exact Nat.le_refl _)
      have h5 := HD5.out
      rw [e1] at h5
      have h6 := h5.setN (n := n1) (x := (n1 : Int)) rfl
      have h7 := HF.out.part (p := p.drop t) (by rw [Hlt.out]; omega)
      rw [Hlt.out, Nat.zero_add, List.append_assoc, List.take_append_drop, show len + t + n1 = len + p.length by rw [← Hn.out]; have := Hnt.out; omega] at h7
      rw [Hn.out] at h6
      exact ⟨rfl, ⟨V1, _, n1, HV.out, h6, h7⟩, grown_setCell (G.out.trans HG5.out) (.inl rfl) _⟩
end
end Go.Proofs.YtkmjjoffamdnfaaGreatDoor

/- The library's Digest.Write, into an empty row or filling it. -/
namespace Go.Proofs.YtkmjjoffamdnfaaGreatDoor
open Go.RowKit
set_option maxRecDepth 100000
section
variable {w : World} {g : Nat} {V : Sha.V} {X : List UInt8} {nx len : Nat} {l p : List UInt8} {K : List Nat} {gp op n c : Nat}
set_option maxHeartbeats 4000000 in
theorem digWrite1 (hV : V.ok) (hK : K.length = 64) (hKs : Sha.Small K) (hgk : g ≠ 19) (hk : Blk w 19 100 (u32s K).toArray)
    (hd : Dig w g V X nx len) (hF : Sha.Fed K V X nx len l) (hp : Bs w w.heap.size (.slice (some ⟨gp, op, none⟩) n c) p) (hn : n = p.length) (hnx : 0 < nx) (hnx64 : nx < 64) (hfill : 64 ≤ nx + n) (hle : n ≤ 60000) (hlen : len ≤ 100000) (hgp : gp ≠ g) :
    Calls Tryz.prog 128 #[.pointer (some ⟨g, 0, none⟩), .slice (some ⟨gp, op, none⟩) n c] w fun e w' => WrPost w g K len l p n e w' := by
  have Hn := Lib.hid hn
  have HV := Lib.hid hV
  have HF := Lib.hid hF
  have HP := Lib.hid hp
  have HKc := Lib.hid (And.intro hK hKs)
  obtain ⟨c72, c73, c74⟩ := hd.num
  have f72 := hd.2.free 72
  have f73 := hd.2.free 73
  have HD := Lib.hid (hd.setL (n := len + n) (x := (len : Int) + (n : Int)) (by omega))
  have G := Lib.hid (grown_setCell (grown_refl w (some g)) (p := ⟨g, 73, none⟩) (.inl rfl) (.int .u64 ((len : Int) + (n : Int))))
  have HKb := Lib.hid hk
  have hpos : (0 : Int) < (nx : Int) := by omega
  clear hn hV hF hp hK hKs hd hk
  go_enter Tryz.func128, Tryz.ntmps128
  go_upto_if 23 with fail
  clear c72 c73 c74 f72 f73
  generalize w.setCell ⟨g, 73, none⟩ (.int .u64 ((len : Int) + (n : Int))) = w1 at *
  have hap : ∀ (o : Nat) (N C : Nat), (Value.slice (some ⟨gp, o, none⟩) N C).ownBlock ≠ some g := fun o N C e => by
    simp [Value.ownBlock] at e
    exact hgp e
  have Hap := Lib.hid hap
  clear hap
  obtain ⟨r, hr⟩ : ∃ r, r + nx = 64 := ⟨64 - nx, by omega⟩
  have hrn : r ≤ n := by omega
  go_cut [1] (fun s1 wx => ∃ (o1 n1 c1 : Nat) (V1 : Sha.V) (X1 : List UInt8), s1 = .slice (some ⟨gp, o1, none⟩) n1 c1 ∧ Hid V1.ok ∧ Hid (n1 + r = n) ∧ Hid (Dig wx g V1 X1 0 (len + n)) ∧ Hid (Sha.Fed K V1 X1 0 (len + r) (l ++ p.take r)) ∧ Hid (Bs w w.heap.size (.slice (some ⟨gp, o1, none⟩) n1 c1) (p.drop r)) ∧ Hid (w.grownBy wx (some g)))
  case first =>
    obtain ⟨c72, c73, c74⟩ := HD.out.num
    have f72 := HD.out.2.free 72
    have hsl := fun W : World => sliceX W g nx hnx64
    have HX := Lib.hid (HP.out.keepRow G.out (Nat.le_refl _) (.inr (.inl (Hap.out op n c))))
    have Hmin := Lib.hid (show r = min n (64 - nx) by omega)
    have hfit : nx + r ≤ 64 := by omega
    have hsum : (nx : Int) + (r : Int) = 64 := by omega
    have Hr := Lib.hid hr
    clear hr
    go_wp2_with fail
    go_region_law (refine step_copyD (k := nx) (q := r) rfl _ _ rfl (by rfl) (by rfl) HD.out HX.out Hmin.out hfit ?_; intro w5 hd5 hg5; have c72b := hd5.num.1; have f72b := hd5.2.free 72; have HD5 := Lib.hid hd5; have HG5 := Lib.hid hg5; clear hd5 hg5)
    have HG6 := Lib.hid (G.out.trans ((grown_refl w1 (some g)).trans (show w1.grownBy w5 (some g) from ⟨HG5.out.os, HG5.out.tape, HG5.out.output, HG5.out.size, HG5.out.block⟩)))
    have hlr := Lib.hid (show (p.take r).length = r by rw [List.length_take, ← Hn.out]; omega)
    have e1 : (p.take r).take r = p.take r := List.take_of_length_le (by rw [hlr.out]; exact Nat.le_refl _)
    replace HD5 := Lib.hid (by have := HD5.out; exact this)
    clear HG5 c72 c73 c74 f72 hsl HX Hmin
    obtain ⟨X1, hX1⟩ : ∃ X1, X1 = Sha.over X nx (p.take r) := ⟨_, rfl⟩
    rw [← hX1] at HD5
    have HX1 := Lib.hid hX1
    clear hX1 e1
    have HD6 := Lib.hid (HD5.out.setN (n := 64) (x := 64) rfl)
    have HG7 := Lib.hid (grown_setCell HG6.out (p := ⟨g, 72, none⟩) (.inl rfl) (.int .i64 64))
    clear HD5 HG6
    obtain ⟨o', hsl0, HB2⟩ := slice_fromB HP.out hrn
    have hsl : ∀ W : World, (Instr.slice 22 (.slice (some ⟨gp, op, none⟩) n c) (some (.int .i64 (r : Int))) none none).run Tryz.prog W = .ok (.slice (some ⟨gp, o', none⟩) (n - r) (c - r)) W := fun W => hsl0 W .i64
    have HB3 := Lib.hid HB2
    clear hsl0 HB2
    go_wp2_with fail
    have HK6 := Lib.hid (HKb.out.grown HG7.out (by intro e; injection e with e; exact hgk e.symm))
    generalize w5.setCell ⟨g, 72, none⟩ (.int .i64 64) = w6 at *
    have HB6 := Lib.hid (HD6.out.buf (a := 0) (n := 64) (c := 64) (by omega) rfl rfl)
    refine (shaBlockL (m := 1) blockSaid HV.out HKc.out.1 HKc.out.2 hgk HD6.out HK6.out HB6.out rfl (by rw [List.drop_zero]; exact HD6.out.1)).mono ?_
    rintro e w7 ⟨rfl, hd7, hg7⟩
    rw [List.drop_zero] at hd7
    obtain ⟨c72c, _, _⟩ := hd7.num
    have f72c := hd7.2.free 72
    have hb1 : Sha.blocksK K 1 V X1 = Sha.blockK K V X1 := by
      show Sha.blockK K V (X1.take 64) = _
      rw [List.take_of_length_le (by rw [HD6.out.1]; exact Nat.le_refl _)]
    rw [hb1] at hd7
    have HD7 := Lib.hid (hd7.setN (n := 0) (x := 0) rfl)
    have HG8 := Lib.hid (grown_setCell (HG7.out.trans hg7) (p := ⟨g, 72, none⟩) (.inl rfl) (.int .i64 0))
    have HV7 := Lib.hid (Sha.blockK_ok K V X1)
    have HF7 := Lib.hid (show Sha.Fed K (Sha.blockK K V X1) X1 0 (len + r) (l ++ p.take r) by
      have := HF.out.full (p := p.take r) (by rw [hlr.out]; have := Hr.out; omega)
      rw [hlr.out, ← HX1.out] at this
      exact this)
    have Hnr := Lib.hid (show n - r + r = n by omega)
    clear hd7 hg7 hb1
    go_wp2_with fail
    go_meet
    exact ⟨o', n - r, c - r, _, X1, rfl, HV7, Hnr, HD7, HF7, HB3, HG8⟩
  case rest =>
    clear HD G HF HV
    obtain ⟨o0, n0, c0, V0, X0, rfl, HV, Hnr, HD, HF, HP0, G⟩ := hcut
    obtain ⟨w3, rfl⟩ : ∃ w3 : World, w3 = wc := ⟨_, rfl⟩
    obtain ⟨p0, hp0⟩ : ∃ p0, p0 = p.drop r := ⟨_, rfl⟩
    obtain ⟨l0, hl0⟩ : ∃ l0, l0 = l ++ p.take r := ⟨_, rfl⟩
    have HE0 := Lib.hid (show l0 ++ p0 = l ++ p by rw [hl0, hp0, List.append_assoc, List.take_append_drop])
    have HE1 := Lib.hid (show len + r + p0.length = len + p.length by rw [hp0, List.length_drop]; have := Hn.out; omega)
    have Hn0 := Lib.hid (show n0 = p0.length by rw [hp0, List.length_drop, ← Hn.out]; have := Hnr.out; omega)
    rw [← hl0] at HF
    rw [← hp0] at HP0
    have HTot := Lib.hid (show len + n = len + p.length by rw [Hn.out])
    clear hp0 hl0 HP Hn
    have HP := HP0
    have Hn := Hn0
    clear HP0 Hn0
    obtain ⟨len0, hlen0⟩ : ∃ x, x = len + r := ⟨_, rfl⟩
    rw [← hlen0] at HF HE1
    clear hlen0
    have hle0 : n0 ≤ 60000 := by have := Hnr.out; omega
    obtain ⟨t, ht⟩ : ∃ t, t = 64 * (n0 / 64) := ⟨_, rfl⟩
    have htn : t ≤ n0 := by omega
    have Ht := Lib.hid ht
    go_upto_if 61 with fail
    go_cut [1] (fun s1 wx => ∃ (o1 n1 c1 : Nat) (V1 : Sha.V), s1 = .slice (some ⟨gp, o1, none⟩) n1 c1 ∧ n1 < 64 ∧ Hid V1.ok ∧ Hid (n1 + t = n0) ∧ Hid (Dig wx g V1 X0 0 (len + n)) ∧ Hid (Sha.Fed K V1 X0 0 (len0 + t) (l0 ++ p0.take t)) ∧ Hid (Bs w w.heap.size (.slice (some ⟨gp, o1, none⟩) n1 c1) (p0.drop t)) ∧ Hid (w.grownBy wx (some g)))
    case first =>
      by_cases h64 : 64 ≤ n0
      · have hand := i64_andNot63 n0 (by omega)
        rw [← ht] at hand
        have ht0 : (0 : Int) < (t : Int) := by omega
        have htm : (t : Int) ≤ 65536 := by omega
        obtain ⟨o', hsl0, HB2⟩ := slice_fromB HP.out htn
        have hsl : ∀ W : World, (Instr.slice 22 (.slice (some ⟨gp, o0, none⟩) n0 c0) (some (.int .i64 (t : Int))) none none).run Tryz.prog W = .ok (.slice (some ⟨gp, o', none⟩) (n0 - t) (c0 - t)) W := fun W => hsl0 W .i64
        have HB3 := Lib.hid HB2
        have HX := Lib.hid (((HP.out.keepRow G.out (Nat.le_refl _) (.inr (.inl (Hap.out o0 n0 c0)))).more G.out.size).front (k := t) (by rw [← Hn.out]; exact htn))
        have HK1 := Lib.hid (HKb.out.grown G.out (by intro e; injection e with e; exact hgk e.symm))
        have hpl := Lib.hid (show (p0.take t).length = 64 * (n0 / 64) by rw [List.length_take, ← Hn.out]; omega)
        have Hnt := Lib.hid (show n0 - t < 64 ∧ n0 - t + t = n0 by omega)
        clear hsl0 HB2 ht
        have h64' : (64 : Int) ≤ (n0 : Int) := by omega
        go_wp2_with fail
        go_loopw [1, 7] (fun s1 s7 wr => s1 = .slice (some ⟨gp, o0, none⟩) n0 c0 ∧ s7 = .int .i64 (t : Int) ∧ wr = w3) (fun _ _ _ => 0)
        case atStart => exact ⟨rfl, rfl, rfl⟩
        case round =>
          obtain ⟨rfl, rfl, hw⟩ := hrel
          subst hw
          have htc : (t : Int) ≤ (c0 : Int) := by
            obtain ⟨A2, c2, he, hl, hc2, _⟩ := HP.out
            injection he with e1 e2 e3
            omega
          have ht00 : (0 : Int) ≤ (t : Int) := by omega
          go_wp2_with fail
          refine (shaBlockL (m := n0 / 64) blockSaid HV.out HKc.out.1 HKc.out.2 hgk HD.out HK1.out HX.out Ht.out hpl.out).mono ?_
          rintro e w2 ⟨rfl, hd2, hg2⟩
          have HD2 := Lib.hid hd2
          have HG2 := Lib.hid (G.out.trans hg2)
          have HV2 := Lib.hid (Sha.blocksK_ok K (n0 / 64) HV.out (p0.take t))
          have HF2 := Lib.hid (show Sha.Fed K (Sha.blocksK K (n0 / 64) V0 (p0.take t)) X0 0 (len0 + t) (l0 ++ p0.take t) by
            rw [Ht.out, Sha.blocksK_take K (n0 / 64) V0 p0 (Nat.le_refl _)]
            exact HF.out.blocks (n0 / 64) (by rw [← Hn.out, ← Ht.out]; exact htn))
          clear hd2 hg2
          go_wp2_with fail
          go_meet
          exact ⟨o', n0 - t, c0 - t, _, rfl, Hnt.out.1, HV2, Lib.hid Hnt.out.2, HD2, HF2, HB3, HG2⟩
      · have hn64 : (n0 : Int) < 64 := by omega
        have t0 : t = 0 := by omega
        subst t0
        go_wp2_with fail
        go_meet
        exact ⟨o0, n0, c0, V0, rfl, by omega, HV, Lib.hid rfl, HD, Lib.hid (by simpa using HF.out), Lib.hid (by simpa using HP.out), G⟩
    case rest =>
      clear HD G HF HP HV
      obtain ⟨o1, n1, c1, V1, rfl, hn1, HV, Hnt, HD, HF, HP, G⟩ := hcut
      obtain ⟨w2, rfl⟩ : ∃ w2 : World, w2 = wc := ⟨_, rfl⟩
      have hlt : (p0.drop t).length = n1 := by rw [List.length_drop, ← Hn.out]; have := Hnt.out; omega
      by_cases h0 : n1 = 0
      · subst h0
        have htp : p0.take t = p0 := List.take_of_length_le (by rw [← Hn.out]; have := Hnt.out; omega)
        have htl : t = p0.length := by rw [← Hn.out]; have := Hnt.out; omega
        have HE := Lib.hid (And.intro htp htl)
        clear htp htl hlt
        go_wp2_with fail
        go_ret2
        refine ⟨rfl, ⟨V1, X0, 0, HV.out, by rw [← HTot.out]; exact HD.out, ?_⟩, G.out⟩
        have := HF.out
        rw [HE.out.1, HE.out.2, HE0.out, HE1.out] at this
        exact this
      · have hpos1 : (0 : Int) < (n1 : Int) := by omega
        have HX := Lib.hid (HP.out.keepRow G.out (Nat.le_refl _) (.inr (.inl (Hap.out o1 n1 c1))))
        have Hlt := Lib.hid hlt
        have Hn0 := Lib.hid h0
        have Hmin := Lib.hid (show n1 = min n1 64 by omega)
        have hfit : 0 + n1 ≤ 64 := by omega
        clear hlt h0
        go_wp2_with (refine wpList_copyD (k := 0) (q := n1) rfl _ _ rfl (by rfl) (by rfl) HD.out HX.out Hmin.out hfit ?_; intro w5 hd5 hg5; have c72 := hd5.num.1; have f72 := hd5.2.free 72; have HD5 := Lib.hid hd5; have HG5 := Lib.hid hg5; clear hd5 hg5)
        go_ret2
        have e1 : ((p0.drop t).take n1) = p0.drop t := List.take_of_length_le (by rw [Hlt.out]; exact Nat.le_refl _)
        have h5 := HD5.out
        rw [e1] at h5
        have h6 := h5.setN (n := n1) (x := (n1 : Int)) rfl
        have h7 := HF.out.part (p := p0.drop t) (by rw [Hlt.out]; omega)
        rw [Hlt.out, Nat.zero_add, List.append_assoc, List.take_append_drop, show len0 + t + n1 = len0 + p0.length by rw [← Hn.out]; have := Hnt.out; omega] at h7
        rw [HTot.out] at h6
        rw [HE0.out, HE1.out] at h7
        exact ⟨rfl, ⟨V1, _, n1, HV.out, h6, h7⟩, grown_setCell (G.out.trans HG5.out) (.inl rfl) _⟩
end
end Go.Proofs.YtkmjjoffamdnfaaGreatDoor

/- byteorder.BEPutUint64: eight bytes of a number, the greatest ahead. -/
namespace Go.Proofs.YtkmjjoffamdnfaaGreatDoor
open Go.RowKit
set_option maxRecDepth 100000
/-- a number's bytes laid at o -/
def put8 (L : List UInt8) (o x : Nat) : List UInt8 := ((((((((L).set (o) (UInt8.ofNat (x / 72057594037927936))).set (o + 1) (UInt8.ofNat (x / 281474976710656))).set (o + 2) (UInt8.ofNat (x / 1099511627776))).set (o + 3) (UInt8.ofNat (x / 4294967296))).set (o + 4) (UInt8.ofNat (x / 16777216))).set (o + 5) (UInt8.ofNat (x / 65536))).set (o + 6) (UInt8.ofNat (x / 256))).set (o + 7) (UInt8.ofNat (x))
theorem put8_length (L : List UInt8) (o x : Nat) : (put8 L o x).length = L.length := by simp [put8]
set_option maxHeartbeats 1000000 in
theorem bePut64 {w : World} {g o n c x : Nat} {t : TypeId} {L : List UInt8} (h : Blk w g t (bvs L).toArray) (hn : 8 ≤ n) (ho : o + 8 ≤ L.length) (hx : x < 18446744073709551616) :
    Calls Tryz.prog 137 #[.slice (some ⟨g, o, none⟩) n c, .int .u64 (x : Int)] w fun e w' => e = .returned (.tuple #[]) ∧ Blk w' g t (bvs (put8 L o x)).toArray ∧ w.grownBy w' (some g) := by
  have H := Lib.hid h
  obtain ⟨d0, c0⟩ : ∃ v, w.cell? ⟨g, o, none⟩ = some v := ⟨_, byteLies h (k := o) (by omega)⟩
  have f0 := h.free (o)
  have n0 : (0 : Int) < (n : Int) := by omega
  obtain ⟨d1, c1⟩ : ∃ v, w.cell? ⟨g, o + 1, none⟩ = some v := ⟨_, byteLies h (k := o + 1) (by omega)⟩
  have f1 := h.free (o + 1)
  have n1 : (1 : Int) < (n : Int) := by omega
  obtain ⟨d2, c2⟩ : ∃ v, w.cell? ⟨g, o + 2, none⟩ = some v := ⟨_, byteLies h (k := o + 2) (by omega)⟩
  have f2 := h.free (o + 2)
  have n2 : (2 : Int) < (n : Int) := by omega
  obtain ⟨d3, c3⟩ : ∃ v, w.cell? ⟨g, o + 3, none⟩ = some v := ⟨_, byteLies h (k := o + 3) (by omega)⟩
  have f3 := h.free (o + 3)
  have n3 : (3 : Int) < (n : Int) := by omega
  obtain ⟨d4, c4⟩ : ∃ v, w.cell? ⟨g, o + 4, none⟩ = some v := ⟨_, byteLies h (k := o + 4) (by omega)⟩
  have f4 := h.free (o + 4)
  have n4 : (4 : Int) < (n : Int) := by omega
  obtain ⟨d5, c5⟩ : ∃ v, w.cell? ⟨g, o + 5, none⟩ = some v := ⟨_, byteLies h (k := o + 5) (by omega)⟩
  have f5 := h.free (o + 5)
  have n5 : (5 : Int) < (n : Int) := by omega
  obtain ⟨d6, c6⟩ : ∃ v, w.cell? ⟨g, o + 6, none⟩ = some v := ⟨_, byteLies h (k := o + 6) (by omega)⟩
  have f6 := h.free (o + 6)
  have n6 : (6 : Int) < (n : Int) := by omega
  obtain ⟨d7, c7⟩ : ∃ v, w.cell? ⟨g, o + 7, none⟩ = some v := ⟨_, byteLies h (k := o + 7) (by omega)⟩
  have f7 := h.free (o + 7)
  have n7 : (7 : Int) < (n : Int) := by omega
  clear h ho
  go_enter Tryz.func137, Tryz.ntmps137
  go_wp2_with fail
  have h0 := byteSet (k := o) (n := x / 72057594037927936) H.out (x := (x : Int) / 72057594037927936) (by omega)
  have h1 := byteSet (k := o + 1) (n := x / 281474976710656) h0 (x := (x : Int) / 281474976710656 % 256) (by omega)
  have h2 := byteSet (k := o + 2) (n := x / 1099511627776) h1 (x := (x : Int) / 1099511627776 % 256) (by omega)
  have h3 := byteSet (k := o + 3) (n := x / 4294967296) h2 (x := (x : Int) / 4294967296 % 256) (by omega)
  have h4 := byteSet (k := o + 4) (n := x / 16777216) h3 (x := (x : Int) / 16777216 % 256) (by omega)
  have h5 := byteSet (k := o + 5) (n := x / 65536) h4 (x := (x : Int) / 65536 % 256) (by omega)
  have h6 := byteSet (k := o + 6) (n := x / 256) h5 (x := (x : Int) / 256 % 256) (by omega)
  have h7 := byteSet (k := o + 7) (n := x) h6 (x := (x : Int) % 256) (by omega)
  have G := grown_setCell (grown_setCell (grown_setCell (grown_setCell (grown_setCell (grown_setCell (grown_setCell (grown_setCell (grown_refl w (some g)) (p := ⟨g, o, none⟩) (.inl rfl) (.int .u8 ((x : Int) / 72057594037927936))) (p := ⟨g, o + 1, none⟩) (.inl rfl) (.int .u8 ((x : Int) / 281474976710656 % 256))) (p := ⟨g, o + 2, none⟩) (.inl rfl) (.int .u8 ((x : Int) / 1099511627776 % 256))) (p := ⟨g, o + 3, none⟩) (.inl rfl) (.int .u8 ((x : Int) / 4294967296 % 256))) (p := ⟨g, o + 4, none⟩) (.inl rfl) (.int .u8 ((x : Int) / 16777216 % 256))) (p := ⟨g, o + 5, none⟩) (.inl rfl) (.int .u8 ((x : Int) / 65536 % 256))) (p := ⟨g, o + 6, none⟩) (.inl rfl) (.int .u8 ((x : Int) / 256 % 256))) (p := ⟨g, o + 7, none⟩) (.inl rfl) (.int .u8 ((x : Int) % 256))
  go_end0
  exact ⟨rfl, h7, G⟩
theorem bePutU64 {w : World} {g o n c x : Nat} {t : TypeId} {L : List UInt8} (h : Blk w g t (bvs L).toArray) (hn : 8 ≤ n) (ho : o + 8 ≤ L.length) (hx : x < 18446744073709551616) :
    Calls Tryz.prog 134 #[.slice (some ⟨g, o, none⟩) n c, .int .u64 (x : Int)] w fun e w' => e = .returned (.tuple #[]) ∧ Blk w' g t (bvs (put8 L o x)).toArray ∧ w.grownBy w' (some g) := by
  have H := Lib.hid h
  clear h
  go_enter Tryz.func134, Tryz.ntmps134
  go_wp2_with fail
  refine (bePut64 (c := c) H.out hn ho hx).mono ?_
  rintro e w2 ⟨rfl, h2, hg⟩
  go_wp2_with fail
  go_end0
  exact ⟨rfl, h2, hg⟩
end Go.Proofs.YtkmjjoffamdnfaaGreatDoor

/- The row that checkSum writes, and the digest's bytes: plain. -/
namespace Go.Proofs.YtkmjjoffamdnfaaGreatDoor
namespace Sha
theorem padRow {r x t : Nat} (ht : t ≤ 64) (ht0 : 1 ≤ t) (hr : t - 1 = r) :
    (put8 ((List.replicate 72 0).set 0 128) t x).take (t + 8) = 128 :: (List.replicate r 0 ++ be8 x) := by
  subst hr
  apply List.ext_getElem
  · simp [put8, be8]; omega
  · intro i h1 h2
    have hi : i < t + 8 := by simpa [put8, Nat.min_def] using (show i < min (t + 8) 72 by simpa [put8] using h1) |> fun h => by omega
    rw [List.getElem_take]
    unfold put8
    by_cases h0 : i = 0
    · subst h0
      simp [List.getElem_set]
      omega
    · obtain ⟨j, rfl⟩ : ∃ j, i = j + 1 := ⟨i - 1, by omega⟩
      rw [List.getElem_cons_succ]
      by_cases hj : j < t - 1
      · rw [List.getElem_append_left (by simpa using hj)]
        simp only [List.getElem_set, List.getElem_replicate]
        rw [if_neg (by omega), if_neg (by omega), if_neg (by omega), if_neg (by omega), if_neg (by omega), if_neg (by omega), if_neg (by omega), if_neg (by omega), if_neg (by omega)]
      · rw [List.getElem_append_right (by simpa using hj)]
        obtain ⟨k, hk, rfl⟩ : ∃ k, k < 8 ∧ j = t - 1 + k := ⟨j - (t - 1), by omega, by omega⟩
        simp only [List.getElem_set, List.length_replicate, be8, List.getElem_map, List.getElem_range, Nat.add_sub_cancel_left]
        rcases (by omega : k = 0 ∨ k = 1 ∨ k = 2 ∨ k = 3 ∨ k = 4 ∨ k = 5 ∨ k = 6 ∨ k = 7) with rfl | rfl | rfl | rfl | rfl | rfl | rfl | rfl
        · rw [if_neg (by omega), if_neg (by omega), if_neg (by omega), if_neg (by omega), if_neg (by omega), if_neg (by omega), if_neg (by omega), if_pos (by omega)]
        · rw [if_neg (by omega), if_neg (by omega), if_neg (by omega), if_neg (by omega), if_neg (by omega), if_neg (by omega), if_pos (by omega)]
        · rw [if_neg (by omega), if_neg (by omega), if_neg (by omega), if_neg (by omega), if_neg (by omega), if_pos (by omega)]
        · rw [if_neg (by omega), if_neg (by omega), if_neg (by omega), if_neg (by omega), if_pos (by omega)]
        · rw [if_neg (by omega), if_neg (by omega), if_neg (by omega), if_pos (by omega)]
        · rw [if_neg (by omega), if_neg (by omega), if_pos (by omega)]
        · rw [if_neg (by omega), if_pos (by omega)]
        · rw [if_pos (by omega)]; simp
/-- the words' bytes -/
theorem outRow (V : V) : put4 (put4 (put4 (put4 (put4 (put4 (put4 (put4 (List.replicate 32 0) 0 V.a) 4 V.b) 8 V.c) 12 V.d) 16 V.e) 20 V.f) 24 V.g) 28 V.h = V.out := by
  simp [put4, Sha.V.out, Sha.V.list, List.replicate, List.range, List.range.loop]
theorem Fed.sum {K : List Nat} {V : V} {X : List UInt8} {nx len : Nat} {l : List UInt8} (h : Fed K V X nx len (padded l)) : V.out = sumK K l ∧ nx = 0 := by
  refine ⟨by rw [h.words]; rfl, ?_⟩
  rw [h.cnt]
  exact padded_length l
end Sha
end Go.Proofs.YtkmjjoffamdnfaaGreatDoor

/- copy into a row of bytes. -/
namespace Go.Proofs.YtkmjjoffamdnfaaGreatDoor
open Go.RowKit
set_option maxRecDepth 100000
theorem Bs.ofRowBlk {w : World} {g : Nat} {t : TypeId} {l : List UInt8} {n : Nat} (hl : l.length = n) (h : Blk w g t (bvs l).toArray) (hm : l.length ≤ 9223372036854775807 := by omega) : Bs w w.heap.size (.slice (some ⟨g, 0, none⟩) n n) l := by
  subst hl
  refine ⟨_, _, rfl, Nat.le_refl _, hm, fun hl => ⟨g, 0, rfl, h.lt, fun k hk => ?_⟩⟩
  rw [Nat.zero_add, h.cell k]
  have := bvs_get l k hk
  simpa using this
theorem info1R : (Tryz.prog.info? 5).map (·.size) = some 1 := by kernel_rfl
section
variable {w : World} {g : Nat} {t : TypeId} {L p : List UInt8}
theorem grown_setRowR {a : World} (h : a.grownBy w (some g)) (cs : Array Value) : a.grownBy (w.setRow g cs) (some g) :=
  ⟨h.os, h.tape, h.output, by simpa [World.setRow] using h.size, fun i hi hne => (setRow_other w g i cs (by rintro rfl; exact hne rfl)).trans (h.block i hi hne)⟩
/-- a block of one's own, made behind a, may turn too -/
theorem grown_two {a b c : World} {r : Option Nat} {k : Nat} (h : a.grownBy b r) (h2 : b.grownBy c (some k)) (hk : a.heap.size ≤ k) : a.grownBy c r :=
  ⟨h2.os.trans h.os, h2.tape.trans h.tape, h2.output.trans h.output, Nat.le_trans h.size h2.size, fun i hi hne => (h2.block i (Nat.lt_of_lt_of_le hi h.size) (by intro e; injection e with e; omega)).trans (h.block i hi hne)⟩
theorem copyRowRun {o dLen dCap gp op sLen sCap B q : Nat} (ty : TypeId) (hd : Blk w g t (bvs L).toArray) (hp : Bs w B (.slice (some ⟨gp, op, none⟩) sLen sCap) p) (hq : q = min sLen dLen) (hfit : o + q ≤ L.length) :
    ∃ w', (Builtin.copy_ #[22, 22] ty #[.slice (some ⟨g, o, none⟩) dLen dCap, .slice (some ⟨gp, op, none⟩) sLen sCap]).run Tryz.prog w = .ok (goInt q) w' ∧ Blk w' g t (bvs (Sha.over L o (p.take q))).toArray ∧ w.grownBy w' (some g) := by
  obtain ⟨A2, c2, he, hl, hc, hcell⟩ := hp
  injection he with e1 e2 e3
  have hlen : (p.take q).length = q := by rw [List.length_take]; omega
  have hrun := run_copy_row (P := Tryz.prog) w 22 22 ty 5 g o dLen dCap ⟨gp, op, none⟩ sLen sCap (bvs L).toArray t (bvs (p.take q)) Tryz.underlying22 info1R hd
    (by rw [bvs_length, hlen]; exact hq) (fun j v hj => by
      have hjq : j < (p.take q).length := by have := (List.getElem?_eq_some_iff.1 hj).1; rwa [bvs_length] at this
      have hjp : j < p.length := by omega
      obtain ⟨g2, o2, hA, _, hc2⟩ := hcell (by omega)
      rw [← e1] at hA
      injection hA with hA
      injection hA with e4 e5 _
      subst e4 e5
      rw [bvs_get _ j hjq] at hj
      obtain rfl := Option.some.inj hj
      have h1 := hc2 j hjp
      have e6 : (⟨gp, op, none⟩ : Addr).add j = ⟨gp, op + j, none⟩ := by
        unfold Addr.add
        split
        · next h0 => subst h0; rfl
        · rfl
      rw [e6, h1, List.getElem_take]) (by rw [bvs_length, hlen]; simpa [bvs] using hfit) (bvs_one _)
  rw [bvs_length, hlen] at hrun
  refine ⟨_, hrun, ?_, ?_⟩
  · have e : (bvs L).take o ++ (bvs (p.take q) ++ (bvs L).drop (o + q)) = bvs (Sha.over L o (p.take q)) := by
      unfold Sha.over
      rw [hlen]
      simp [bvs]
    have h1 := setRow_heap w g _ ((bvs L).take o ++ (bvs (p.take q) ++ (bvs L).drop (o + q))).toArray _ _ hd
    rw [e] at h1
    have h2 : Blk (w.setRow g (bvs (Sha.over L o (p.take q))).toArray) g t (bvs (Sha.over L o (p.take q))).toArray := h1
    rw [← e] at h2
    simpa [e] using h2
  · exact grown_setRowR (grown_refl w (some g)) _
theorem wpList_copyR {ops : Array Oper} {rest : List Oper} {o : Oper} {a : Act} {Q : Exit → Act → World → Prop} {w : World} (hgd : o.guard = none) (d s : Operand)
    (ho : o.op = .call { callee := .builtin .copy, args := #[d, s], argTypes := #[22, 22] })
    {g k dLen dCap gp op sLen sCap B q : Nat} {t : TypeId} {L p : List UInt8} (hd : a.eval d = .slice (some ⟨g, k, none⟩) dLen dCap) (hs : a.eval s = .slice (some ⟨gp, op, none⟩) sLen sCap)
    (hD : Blk w g t (bvs L).toArray) (hp : Bs w B (.slice (some ⟨gp, op, none⟩) sLen sCap) p) (hq : q = min sLen dLen) (hfit : k + q ≤ L.length)
    (h : ∀ w', Blk w' g t (bvs (Sha.over L k (p.take q))).toArray → w.grownBy w' (some g) → wpList Tryz.prog ops Q rest (a.put o.dst (goInt q)) w') :
    wpList Tryz.prog ops Q (o :: rest) a w := by
  refine wpList_plain hgd fun K hK => ?_
  obtain ⟨w', hr, h2, h3⟩ := copyRowRun (dCap := dCap) o.type hD hp hq hfit
  unfold Oper.wp execOp
  simp only [ho, resolve, invoke, builtin, Sem.run_bind, Sem.run_pure, Result.andThen_ok, List.map_toArray, List.map_cons, List.map_nil, hd, hs, hr]
  exact hK _ _ (h w' h2 h3)
end
end Go.Proofs.YtkmjjoffamdnfaaGreatDoor

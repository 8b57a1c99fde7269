/- MHFromBytes, CidFromBytes, Cast, FromCid, PeerOfCid. -/
import Derived.Test.YteodhonipbdplaaGreatDoorMc07
import Derived.Test.YteodhonipbdplaaGreatDoorMc11
import Derived.Test.YteodhonipbdplaaGreatDoorMc12
import Derived.Test.YteodhonipbdplaaGreatDoorMc17
import Derived.Deep.RegionHeld3
import Derived.Deep.DrawnRows
namespace Go.Proofs.YteodhonipbdplaaGreatDoor
open Go.RowKit
set_option maxRecDepth 100000
section
variable {w : World} {n c N : Nat} {l m : List UInt8} {A : Option Addr} {v : Value}
theorem sliceHead (W : World) (A : Option Addr) (N c n : Nat) (hc : n ≤ c) : (Instr.slice 23 (.slice A N c) none (some (.int .i64 (n : Int))) none).run Tryz.prog W = .ok (.slice A n c) W := by
  obtain ⟨i0, hi, hz0, hz1, hz2⟩ := info_parts Tryz.info5
  have hs : Tryz.prog.elem 23 = 5 := by kernel_rfl
  have hu : Tryz.prog.underlying 23 = some (.slice (Tryz.prog.elem 23)) := by rw [hs]; exact Tryz.underlying23
  rw [run_slice_h W 23 A N c hu .i64 n (by omega) (by omega)]
  cases A <;> simp [hs, sizeOf, typeInfo, sliced, hi, hz1, Addr.add]
theorem sliceHead0 (W : World) (A : Option Addr) (N c n : Nat) (hc : n ≤ c) : (Instr.slice 23 (.slice A N c) (some (.int .i64 0)) (some (.int .i64 (n : Int))) none).run Tryz.prog W = .ok (.slice A n c) W := by
  obtain ⟨i0, hi, hz0, hz1, hz2⟩ := info_parts Tryz.info5
  have hs : Tryz.prog.elem 23 = 5 := by kernel_rfl
  have hu : Tryz.prog.underlying 23 = some (.slice (Tryz.prog.elem 23)) := by rw [hs]; exact Tryz.underlying23
  rw [run_slice_lh W 23 A N c hu .i64 .i64 0 n (by omega) (by omega) (by omega)]
  cases A <;> simp [hs, sizeOf, typeInfo, sliced, hi, hz1, Addr.add]
theorem mhFromBytes (h : Bs w w.heap.size (.slice A N c) m) (he : MErr w) (hN : N = m.length) (hok : Mh.ok m = true) (hm : m.length ≤ 1000) :
    Calls Tryz.prog 75 #[.slice A N c] w fun e w' => e = .returned (.tuple #[.int .i64 (N : Int), .slice A N c, .nilIface]) ∧ Below w.heap.size w w' := by
  obtain ⟨A2, N2, c2, e2, _, hc, _⟩ := h.form'
  injection e2 with e1 e2 e3
  subst e1 e2 e3
  have HR := Lib.hid (readMultihash h he (by omega))
  have HN := Lib.hid hN
  have Hok := Lib.hid hok
  have hs := fun W : World => sliceHead W A N c N hc
  have hnc : (N : Int) ≤ (c : Int) := by omega
  clear h he hN hok
  go_enter Tryz.func75, Tryz.ntmps75
  go_wp2_with fail
  refine HR.out.mono ?_
  rintro e w1 ⟨hb, ⟨h1, _⟩ | ⟨r, x, d, A', c', h1, hr, rfl, hd⟩⟩
  · have := ok_none h1; rw [Hok.out] at this; cases this
  have h2 := ok_some h1
  rw [Hok.out] at h2
  have h3 : m.length = r := of_decide_eq_true h2.symm
  obtain rfl : r = N := by rw [HN.out]; exact h3.symm
  have B := Lib.hid hb
  clear h1 hr hd h2 h3 hb HR
  generalize d.length = dl at *
  go_wp2_with fail
  go_quiet (fail)
  go_wp2_with fail
  go_ret3
  exact ⟨rfl, below_drewN B.out _⟩
theorem ok_long (h : Mh.ok m = true) : 2 ≤ m.length := by
  rcases Nat.lt_or_ge m.length 2 with h2 | h2
  · unfold Mh.ok Mh.read at h
    rw [if_pos h2] at h
    cases h
  · exact h2
set_option maxHeartbeats 1000000 in
theorem cidFromBytes (h : Bs w w.heap.size (.slice A N c) (1 :: 114 :: m)) (he : MErr w) (hN : N = (1 :: 114 :: m).length) (hok : Mh.ok m = true) (hm : m.length ≤ 1000) :
    Calls Tryz.prog 51 #[.slice A N c] w fun e w' => e = .returned (.tuple #[.int .i64 (N : Int), .agg #[.string (strOf (1 :: 114 :: m))], .nilIface]) ∧ Below w.heap.size w w' := by
  obtain ⟨A2, N2, c2, e2, _, hc, _⟩ := h.form'
  injection e2 with e1 e2 e3
  subst e1 e2 e3
  have H := Lib.hid h
  have He := Lib.hid he
  have Hok := Lib.hid hok
  have hlong := ok_long hok
  have hN3 : (2 : Int) < (N : Int) := by rw [hN]; simp only [List.length_cons]; omega
  have Hml := Lib.hid (show N = m.length + 2 by rw [hN]; simp)
  obtain ⟨gb, ob, rfl, hcell, _⟩ := h.at' (k := 0) (by simp)
  have c00 : w.cell? ⟨gb, ob, none⟩ = some (.int .u8 1) := hcell
  have hgl : gb < w.heap.size := World.block_lt_of_cell? w _ c00
  obtain ⟨gr, hgr⟩ : ∃ x, x = w.heap.size := ⟨_, rfl⟩
  have B1 := Lib.hid (below_alloc w (.cells #[.string { data := #[] }] 41))
  have K1 := Lib.hid (show Blk (w.alloc (.cells #[.string { data := #[] }] 41)) gr 41 #[.string { data := #[] }] by rw [hgr]; exact Blk.new _ _ _)
  have c0 : (w.alloc (.cells #[.string { data := #[] }] 41)).cell? ⟨gb, ob, none⟩ = some (.int .u8 1) := (B1.out.cell (p := ⟨gb, ob, none⟩) hgl).trans c00
  have H1 := Lib.hid (H.out.step B1.out)
  have HN := Lib.hid hN
  have Hgr := Lib.hid hgr
  have hN2 : (2 : Int) ≤ (N : Int) := by omega
  have hN0 : (0 : Int) < (N : Int) := by omega
  have hcc : (N : Int) ≤ (c : Int) := by omega
  clear h he hok hcell c00 H hgr hN
  go_enter Tryz.func51, Tryz.ntmps51
  go_wp2_with fail
  rw [← Hgr.out]
  generalize w.alloc (.cells #[.string { data := #[] }] 41) = w1 at *
  refine (fromUvarint H1.out (He.out.step B1.out).v).mono ?_
  rintro e w3 ⟨hu, hb⟩
  obtain rfl := uvFirst (show (1 : UInt8).toNat < 128 by decide) hu
  have B3 := Lib.hid (below_trans B1.out hb)
  have K3 := Lib.hid (K1.out.step hb)
  have H3 := Lib.hid (H1.out.step hb)
  obtain ⟨A1, hs1, hb1⟩ := slice_from (n := 1) H3.out (by omega)
  obtain ⟨A2, hs2, hb2⟩ := slice_from (n := 2) H3.out (by omega)
  have hs1' : ∀ W : World, (Instr.slice 23 (.slice (some ⟨gb, ob, none⟩) N c) (some (.int .i64 1)) none none).run Tryz.prog W = .ok (.slice A1 (N - 1) (c - 1)) W := fun W => hs1 W .i64
  have hs2' : ∀ W : World, (Instr.slice 23 (.slice (some ⟨gb, ob, none⟩) N c) (some (.int .i64 2)) none none).run Tryz.prog W = .ok (.slice A2 (N - 2) (c - 2)) W := fun W => hs2 W .i64
  have X1 := Lib.hid (show Bs w3 w3.heap.size (.slice A1 (N - 1) (c - 1)) (114 :: m) from hb1)
  have X2 := Lib.hid (show Bs w3 w3.heap.size (.slice A2 (N - 2) (c - 2)) m from hb2)
  have hsF : ∀ W : World, (Instr.slice 23 (.slice (some ⟨gb, ob, none⟩) N c) (some (.int .i64 0)) (some (.int .i64 (2 + ((N - 2 : Nat) : Int)))) none).run Tryz.prog W = .ok (.slice (some ⟨gb, ob, none⟩) N c) W := fun W => by
    have := sliceHead0 W (some ⟨gb, ob, none⟩) N c N hc
    rw [show (N : Int) = 2 + ((N - 2 : Nat) : Int) by omega] at this
    exact this
  have Hcv := Lib.hid (fun (W : World) (h : Bs W W.heap.size (.slice (some ⟨gb, ob, none⟩) N c) (1 :: 114 :: m)) => conv_str h (dst := 9) Tryz.underlying9)
  clear hb hu B1 K1 H1 hs1 hs2 hb1 hb2 c0
  obtain ⟨q, hq⟩ : ∃ q, q = N - 2 := ⟨_, rfl⟩
  obtain ⟨c2, hc2⟩ : ∃ q, q = c - 2 := ⟨_, rfl⟩
  rw [← hq] at hs2' X2 hsF
  rw [← hc2] at hs2' X2
  have Hq := Lib.hid hq
  have hqm : q = m.length := by rw [hq, Hml.out]; omega
  have Hqm := Lib.hid hqm
  have hqb : (q : Int) ≤ 1000 := by omega
  clear hq hc2 hqm
  go_wp2_with fail
  refine (fromUvarint X1.out (He.out.step B3.out).v).mono ?_
  rintro e w4 ⟨hu, hb⟩
  obtain rfl := uvFirst (show (114 : UInt8).toNat < 128 by decide) hu
  have B4 := Lib.hid (below_trans B3.out hb)
  have K4 := Lib.hid (K3.out.step hb)
  have H4 := Lib.hid (H3.out.step hb)
  have X4 := Lib.hid (X2.out.step hb)
  clear hb hu B3 K3 H3 X1 X2
  go_wp2_with fail
  refine (mhFromBytes X4.out (He.out.step B4.out) Hqm.out Hok.out hm).mono ?_
  rintro e w5 ⟨rfl, hb⟩
  have B5 := Lib.hid (below_trans B4.out hb)
  have K5 := Lib.hid (K4.out.step hb)
  have H5 := Lib.hid (H4.out.step hb)
  have hcv := Hcv.out w5.drew H5.out.drew1
  obtain ⟨S, hS⟩ : ∃ S, S = strOf (1 :: 114 :: m) := ⟨_, rfl⟩
  have hcv2 := Hcv.out w5 H5.out
  rw [← hS] at hcv hcv2
  have HS := Lib.hid hS
  have c0 : w5.drew.cell? ⟨gr, 0, none⟩ = some (.string { data := #[] }) := K5.out.drew.cell 0
  have f0 := K5.out.drew.free 0
  have c02 : w5.cell? ⟨gr, 0, none⟩ = some (.string { data := #[] }) := K5.out.cell 0
  have f02 := K5.out.free 0
  have y0 : (w5.setCell ⟨gr, 0, none⟩ (.string S)).cell? ⟨gr, 0, none⟩ = some (.string S) := (K5.out.set 0 (.string S)).cell 0
  have HqN := Lib.hid (show (2 : Int) + (q : Int) = (N : Int) by rw [Hqm.out, Hml.out]; omega)
  have hcv3 := Hcv.out (w5.setCell ⟨gr, 0, none⟩ (.string S)).drew ((H5.out.keepBlk K5.out (fun u hu => by simp at hu; subst hu; exact fun _ _ h => by cases h) (grown_setCell (grown_refl w5 (some gr)) (p := ⟨gr, 0, none⟩) (.inl rfl) (.string S))).drew1)
  rw [← hS] at hcv3
  clear hb B4 K4 H4 X4 hs1' hs2' Hcv hS
  go_wp2_with fail
  go_region_held3 (fun W => (convert 23 9 (.slice (some ⟨gb, ob, none⟩) N c)).run Tryz.prog W = .ok (.string S) W) (with_reducible first | exact hcv | exact hcv3) (fail)
  go_wp2_with fail
  have y1 : (w5.setCell ⟨gr, 0, none⟩ (.string S)).drew.cell? ⟨gr, 0, none⟩ = some (.string S) := y0
  refine bodyPost_ret (by simp [results, Tryz.results51, go_sem, y1]; rfl) rfl ?_
  refine ⟨?_, (below_grown B5.out (grown_setCell (grown_refl w5 (some gr)) (p := ⟨gr, 0, none⟩) (.inl rfl) (.string S)) (fun k e => by injection e with e; have := Hgr.out; omega)).drew⟩
  rw [← HS.out, ← HqN.out]
set_option maxHeartbeats 1000000 in
theorem cidCast (h : Bs w w.heap.size (.slice A N c) (1 :: 114 :: m)) (he : MErr w) (hN : N = (1 :: 114 :: m).length) (hok : Mh.ok m = true) (hm : m.length ≤ 1000) :
    Calls Tryz.prog 32 #[.slice A N c] w fun e w' => e = .returned (.tuple #[.agg #[.string (strOf (1 :: 114 :: m))], .nilIface]) ∧ Below w.heap.size w w' := by
  obtain ⟨gr, hgr⟩ : ∃ x, x = w.heap.size := ⟨_, rfl⟩
  have B1 := Lib.hid (below_alloc w (.cells #[.string { data := #[] }] 41))
  have K1 := Lib.hid (show Blk (w.alloc (.cells #[.string { data := #[] }] 41)) gr 41 #[.string { data := #[] }] by rw [hgr]; exact Blk.new _ _ _)
  have HC := Lib.hid (cidFromBytes (h.step B1.out) (he.step B1.out) hN hok hm)
  have Hgr := Lib.hid hgr
  obtain ⟨S, hS⟩ : ∃ S, S = strOf (1 :: 114 :: m) := ⟨_, rfl⟩
  rw [← hS] at HC ⊢
  clear h he hN hok hgr hS
  go_enter Tryz.func32, Tryz.ntmps32
  go_wp2_with fail
  rw [← Hgr.out]
  generalize w.alloc (.cells #[.string { data := #[] }] 41) = w1 at *
  refine HC.out.mono ?_
  rintro e w2 ⟨rfl, hb⟩
  have B2 := Lib.hid (below_trans B1.out hb)
  have K2 := Lib.hid (K1.out.step hb)
  have hg2 := K2.out.lt
  obtain ⟨g5, hg5⟩ : ∃ x, x = w2.heap.size := ⟨_, rfl⟩
  have KC := Lib.hid (show Blk (w2.alloc (.cells #[.string S] 41)) g5 41 #[.string S] by rw [hg5]; exact Blk.new _ _ _)
  have B3 := Lib.hid (below_trans B2.out (below_alloc w2 (.cells #[.string S] 41)))
  have K3 := Lib.hid (K2.out.alloc (.cells #[.string S] 41))
  have c0 : (w2.alloc (.cells #[.string S] 41)).cell? ⟨gr, 0, none⟩ = some (.string { data := #[] }) := K3.out.cell 0
  have f0 := K3.out.free 0
  have y0 : ((w2.setCell ⟨gr, 0, none⟩ (.string S)).alloc (.cells #[.string S] 41)).cell? ⟨gr, 0, none⟩ = some (.string S) := ((K2.out.set 0 (.string S)).alloc _).cell 0
  have B4 := Lib.hid (below_trans (below_grown B2.out (grown_setCell (grown_refl w2 (some gr)) (p := ⟨gr, 0, none⟩) (.inl rfl) (.string S)) (fun k e => by injection e with e; have := Hgr.out; omega)) (below_alloc _ (.cells #[.string S] 41)))
  clear hb B1 K1 HC B2
  go_wp2_with fail
  refine bodyPost_ret (by simp [results, Tryz.results32, go_sem, y0]; rfl) rfl ?_
  exact ⟨rfl, B4.out⟩
theorem fromCid (he : VErr w) (hm : m.length ≤ 1000) (hm0 : m ≠ []) :
    Calls Tryz.prog 33 #[.agg #[.string (strOf (1 :: 114 :: m))]] w fun e w' => e = .returned (.tuple #[.string (strOf m), .nilIface]) ∧ Below w.heap.size w w' := by
  have He := Lib.hid he
  have HT := Lib.hid (fun W => cidType (w := W) (l := m) 1 (by decide) (by decide) 114 (by decide) (by decide))
  have HH := Lib.hid (fun W he => cidHash (w := W) (l := m) he 1 (by decide) 114 (by decide) hm hm0)
  obtain ⟨S, hS⟩ : ∃ S, S = strOf (1 :: 114 :: m) := ⟨_, rfl⟩
  rw [← hS] at HT HH ⊢
  have B := Lib.hid (below_alloc w (.cells #[.string S] 41))
  have K := Lib.hid (Blk.new w 41 #[.string S])
  clear hS he
  go_enter Tryz.func33, Tryz.ntmps33
  go_wp2_with fail
  refine (HT.out _).mono ?_
  rintro e w1 ⟨rfl, hb⟩
  have B1 := Lib.hid (below_trans B.out hb)
  have c0 : w1.cell? ⟨w.heap.size, 0, none⟩ = some (.string S) := (K.out.step hb).cell 0
  clear hb
  go_wp2_with fail
  refine (HH.out w1 (He.out.step B1.out)).mono ?_
  rintro e w2 ⟨A, n, c, rfl, hbs, hb⟩
  have hcv := conv_strM hbs.out (dst := 43) Tryz.underlying43
  have B2 := Lib.hid (below_trans B1.out hb)
  obtain ⟨S2, hS2⟩ : ∃ S, S = strOf m := ⟨_, rfl⟩
  rw [← hS2] at hcv
  have HS2 := Lib.hid hS2
  clear hb hbs hS2
  go_wp2_with fail
  go_ret2
  exact ⟨by rw [← HS2.out]; rfl, B2.out⟩
set_option maxHeartbeats 1000000 in
theorem peerOfCid (h : Bs w w.heap.size v (1 :: 114 :: m)) (he : MErr w) (hok : Mh.ok m = true) (hm : m.length ≤ 1000) :
    Calls Tryz.prog 10 #[v] w fun e w' => ∃ v', e = .returned (.tuple #[v', .bool true]) ∧ Bs w' w'.heap.size v' m ∧ Below w.heap.size w w' := by
  have H := Lib.hid h
  have He := Lib.hid he
  have Hok := Lib.hid hok
  have hm0 : m ≠ [] := by have := ok_long hok; intro e; rw [e] at this; simp at this
  have HF := Lib.hid (fun W he => fromCid (w := W) (m := m) he hm hm0)
  have HC := Lib.hid (fun W A N c h he hN => cidCast (w := W) (A := A) (N := N) (c := c) h he hN hok hm)
  have hlen : (1 :: 114 :: m).length ≤ 140737488355328 := by simp only [List.length_cons]; omega
  obtain ⟨S, hS⟩ : ∃ S, S = strOf (1 :: 114 :: m) := ⟨_, rfl⟩
  rw [← hS] at HF HC
  clear hS h he hok hm0
  go_enter Tryz.func10, Tryz.ntmps10
  go_wp2_with fail
  refine (bytesClone H.out hlen).mono ?_
  rintro e w1 ⟨v1, rfl, ho, hb⟩
  obtain ⟨A1, n1, c1, rfl, hn1, _, _⟩ := ho.bs.form'
  have B1 := Lib.hid hb
  have X1 := Lib.hid ho.bs
  clear ho hb H
  go_wp2_with fail
  refine (HC.out w1 A1 n1 c1 X1.out (He.out.step B1.out) hn1.out).mono ?_
  rintro e w2 ⟨rfl, hb⟩
  have B2 := Lib.hid (below_trans B1.out hb)
  clear hb X1 HC
  go_wp2_with fail
  have B3 := Lib.hid (below_trans B2.out (below_alloc w2 (.cells #[.string S] 41)))
  refine (HF.out _ (He.out.step B3.out).v).mono ?_
  rintro e w3 ⟨rfl, hb⟩
  have B4 := Lib.hid (below_trans B3.out hb)
  obtain ⟨w5, c5, hr, hbs, hbl, _, _⟩ := conv_bytes w3 m (by omega) (src := 43) Tryz.underlying43
  have X5 := Lib.hid hbs
  have B5 := Lib.hid (below_trans B4.out hbl)
  clear hb hbs hbl
  go_wp2_with fail
  go_ret2
  exact ⟨_, rfl, X5.out, B5.out⟩
end
end Go.Proofs.YteodhonipbdplaaGreatDoor

/- The walk of FnPeerCid. -/
namespace Go.Proofs.YteodhonipbdplaaGreatDoor
open Go.RowKit
set_option maxRecDepth 100000
section
variable {w : World} {v0 v1 : Value} {l : List UInt8}
theorem bs32_size {l : List UInt8} (hl : l.length = 32) : (Tryz.prog.info? 22).map (·.size) = some (bvs l).toArray.size := by
  rw [show (bvs l).toArray.size = 32 by simp [bvs, hl]]; exact info32
set_option maxHeartbeats 4000000 in
theorem FnPeerCid_main {k : Nat} (hl : l.length = 32) (hk : k ≤ 255) (he : MErr w) :
    Calls Tryz.prog 3 #[.agg (bvs l).toArray, .int .u8 (k : Int)] w fun e w' => Yes w e w' := by
  have hba := below_alloc w (.cells (bvs l).toArray 22)
  have K := Lib.hid (Blk.new w 22 (bvs l).toArray)
  have Hi32 := Lib.hid (bs32_size hl)
  have B := Lib.hid hba
  have He := Lib.hid (he.step hba)
  have Hlen := Lib.hid (made_len hl k)
  have Hok := Lib.hid (made_ok hl k)
  have HP := Lib.hid (fun W => peerMade W l hl k hk)
  clear hba he hl
  obtain ⟨m, hm⟩ : ∃ m, m = made l k := ⟨_, rfl⟩
  rw [← hm] at Hlen Hok HP
  clear hm
  have Hlc := Lib.hid (show (1 :: 114 :: m : List UInt8).length ≤ 140737488355328 by have := Hlen.out; simp only [List.length_cons]; omega)
  have Hls := Lib.hid (show (1 :: 114 :: m : List UInt8).length ≤ 1000 by have := Hlen.out; simp only [List.length_cons]; omega)
  have HTx := Lib.hid (fun (W : World) (v : Value) (h : Bs W W.heap.size v m) (he : MErr W) => peerCidText (w := W) h he Hok.out (by have := Hlen.out; omega))
  have HRb := Lib.hid (fun (W : World) (v : Value) (h : Bs W W.heap.size v (1 :: 114 :: m)) => peerBase32 (w := W) h Hls.out)
  obtain ⟨S, hS⟩ : ∃ S, S = strOf (B32.enc B32.alpha (1 :: 114 :: m)) := ⟨_, rfl⟩
  unfold cidText at HTx
  rw [← hS] at HTx HRb
  have hSs : S.size ≤ 10000 := by rw [hS, strOf_size, B32.enc_length]; have := Hls.out; omega
  clear hS
  go_enter Tryz.func3, Tryz.ntmps3
  go_wp2_with ((refine wpList_load_row rfl 22 _ (by rfl) w.heap.size (by rfl) 22 (bvs l).toArray (0, 0) _ K.out Tryz.underlying22 rfl Hi32.out ?_))
  refine (HP.out _).mono ?_
  rintro e w1 ⟨v1, rfl, ho, hb⟩
  replace B := Lib.hid (below_trans B.out hb)
  replace He := Lib.hid (He.out.step hb)
  have X := Lib.hid ho.bs
  clear ho hb HP K Hi32
  go_wp2_with fail
  refine (bytesClone X.out (by have := Hlen.out; omega)).mono ?_
  rintro e w2 ⟨v2, rfl, ho, hb⟩
  replace B := Lib.hid (below_trans B.out hb)
  replace He := Lib.hid (He.out.step hb)
  replace X := Lib.hid (X.out.step hb)
  have X2 := Lib.hid ho.bs
  clear ho hb
  go_wp2_with fail
  refine (peerCid X2.out He.out Hok.out (by have := Hlen.out; omega)).mono ?_
  rintro e w3 ⟨v3, rfl, ho, hb⟩
  replace B := Lib.hid (below_trans B.out hb)
  replace He := Lib.hid (He.out.step hb)
  replace X := Lib.hid (X.out.step hb)
  have C := Lib.hid ho.bs
  clear ho hb X2
  go_wp2_with fail
  refine (bytesClone C.out Hlc.out).mono ?_
  rintro e w4 ⟨v4, rfl, ho, hb⟩
  replace B := Lib.hid (below_trans B.out hb)
  replace He := Lib.hid (He.out.step hb)
  replace X := Lib.hid (X.out.step hb)
  replace C := Lib.hid (C.out.step hb)
  have X2 := Lib.hid ho.bs
  clear ho hb
  go_wp2_with fail
  refine (peerOfCid X2.out He.out Hok.out (by have := Hlen.out; omega)).mono ?_
  rintro e w5 ⟨v5, rfl, hbs, hb⟩
  replace B := Lib.hid (below_trans B.out hb)
  replace He := Lib.hid (He.out.step hb)
  replace X := Lib.hid (X.out.step hb)
  replace C := Lib.hid (C.out.step hb)
  have Y := Lib.hid hbs
  clear hbs hb X2
  go_wp2_with fail
  refine (refCid X.out (by have := Hlen.out; omega)).mono ?_
  rintro e w6 ⟨v6, rfl, ho, hb⟩
  replace B := Lib.hid (below_trans B.out hb)
  replace He := Lib.hid (He.out.step hb)
  replace X := Lib.hid (X.out.step hb)
  replace C := Lib.hid (C.out.step hb)
  replace Y := Lib.hid (Y.out.step hb)
  have R := Lib.hid ho.bs
  clear ho hb
  go_wp2_with fail
  refine (bytesEqual C.out R.out).mono ?_
  rintro e w7 ⟨rfl, rfl⟩
  rw [show ((1 :: 114 :: m : List UInt8) == 1 :: 114 :: m) = true by simp]
  clear R C
  go_wp2_with fail
  refine (bytesClone X.out (by have := Hlen.out; omega)).mono ?_
  rintro e w7 ⟨v7, rfl, ho, hb⟩
  replace B := Lib.hid (below_trans B.out hb)
  replace He := Lib.hid (He.out.step hb)
  replace X := Lib.hid (X.out.step hb)
  replace Y := Lib.hid (Y.out.step hb)
  have X2 := Lib.hid ho.bs
  clear ho hb
  go_wp2_with fail
  refine (HTx.out _ _ X2.out He.out).mono ?_
  rintro e w8 ⟨rfl, hb⟩
  replace B := Lib.hid (below_trans B.out hb)
  replace He := Lib.hid (He.out.step hb)
  replace X := Lib.hid (X.out.step hb)
  replace Y := Lib.hid (Y.out.step hb)
  clear hb X2
  go_wp2_with fail
  refine (refCid X.out (by have := Hlen.out; omega)).mono ?_
  rintro e w9 ⟨v9, rfl, ho, hb⟩
  replace B := Lib.hid (below_trans B.out hb)
  replace He := Lib.hid (He.out.step hb)
  replace X := Lib.hid (X.out.step hb)
  replace Y := Lib.hid (Y.out.step hb)
  have R := Lib.hid ho.bs
  clear ho hb
  go_wp2_with fail
  refine (HRb.out _ _ R.out).mono ?_
  rintro e w10 ⟨rfl, rfl⟩
  clear R
  go_wp2_with fail
  refine (bytesEqual Y.out X.out).mono ?_
  rintro e w10 ⟨rfl, rfl⟩
  rw [show (m == m) = true by simp]
  go_wp2_with fail
  refine (peersLive He.out).mono ?_
  rintro e w7 ⟨rfl, hb⟩
  replace B := Lib.hid (below_trans B.out hb)
  clear hb
  go_wp2_with fail
  go_ret
  exact ⟨rfl, B.out⟩
theorem walk_FnPeerCid {k : Int} (f0 : IsArr v0 32 l) (f1 : IsInt .u8 v1 k)
    (he : HasErr w 4 ∧ HasErr w 6 ∧ HasErr w 5 ∧ HasErr w 8 ∧ HasErr w 11 ∧ HasErr w 12) :
    Calls Tryz.prog 3 #[v0, v1] w fun e w' => Yes w e w' := by
  obtain ⟨rfl, hl⟩ := f0
  obtain ⟨rfl, a1, a2⟩ := isU8 f1
  obtain ⟨k, rfl⟩ := Int.eq_ofNat_of_zero_le a1
  exact FnPeerCid_main hl (by omega) ⟨⟨he.1, he.2.1, he.2.2.1⟩, he.2.2.2.1, he.2.2.2.2.1, he.2.2.2.2.2⟩
end
end Go.Proofs.YteodhonipbdplaaGreatDoor

/- The listed variables of the laws of peers: each holds an error. -/
namespace Go.Proofs.YteodhonipbdplaaGreatDoor
set_option maxRecDepth 100000
theorem Tryz.gVOver : Tryz.prog.globalNamed "pub-symmory/pub/govarint.ErrOverflow" = some 4 ∧ (Tryz.prog.globals[4]?).map (·.type) = some 46 := ⟨by kernel_rfl, by kernel_rfl⟩
theorem Tryz.gVUnder : Tryz.prog.globalNamed "pub-symmory/pub/govarint.ErrUnderflow" = some 6 ∧ (Tryz.prog.globals[6]?).map (·.type) = some 46 := ⟨by kernel_rfl, by kernel_rfl⟩
theorem Tryz.gVMin : Tryz.prog.globalNamed "pub-symmory/pub/govarint.ErrNotMinimal" = some 5 ∧ (Tryz.prog.globals[5]?).map (·.type) = some 46 := ⟨by kernel_rfl, by kernel_rfl⟩
theorem Tryz.gMShort : Tryz.prog.globalNamed "pub-symmory/pub/gomultihash.ErrTooShort" = some 8 ∧ (Tryz.prog.globals[8]?).map (·.type) = some 46 := ⟨by kernel_rfl, by kernel_rfl⟩
theorem Tryz.gMBuf : Tryz.prog.globalNamed "pub-symmory/pub/gomultihash.ErrVarintBufferShort" = some 11 ∧ (Tryz.prog.globals[11]?).map (·.type) = some 46 := ⟨by kernel_rfl, by kernel_rfl⟩
theorem Tryz.gMLong : Tryz.prog.globalNamed "pub-symmory/pub/gomultihash.ErrVarintTooLong" = some 12 ∧ (Tryz.prog.globals[12]?).map (·.type) = some 46 := ⟨by kernel_rfl, by kernel_rfl⟩
end Go.Proofs.YteodhonipbdplaaGreatDoor

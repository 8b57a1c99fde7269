/- The walk of FnKeyRecordJoined. (Printed by gen_joined.py.) -/
import Derived.Test.YtcefcdmonfenoaaDoorWRl
import Derived.Test.YtcefcdmonfenoaaDoorJn
import Derived.Deep.RegionHeld3
import Derived.Deep.DrawnRows
import Derived.Deep.DeepCutAuto
namespace Go.Proofs.YtcefcdmonfenoaaDoor
open Go.RowKit
set_option maxRecDepth 100000
attribute [local go_sem ↓] Go.wp_at_zero Go.wp_at_succ
section
variable {w : World} {v0 v1 v2 v3 : Value}

theorem twoThree {W : World} {g g' : Nat} {t t' : TypeId} {a b c a' b' c' : Value} (h : Blk W g t #[a, b, c]) (k : Blk W g' t' #[a', b', c']) :
    W.cell? ⟨g, 0, none⟩ = some a ∧ W.cell? ⟨g, 1, none⟩ = some b ∧ W.cell? ⟨g, 2, none⟩ = some c ∧ W.cell? ⟨g', 0, none⟩ = some a' ∧ W.cell? ⟨g', 1, none⟩ = some b' ∧ W.cell? ⟨g', 2, none⟩ = some c' :=
  ⟨h.cell 0, h.cell 1, h.cell 2, k.cell 0, k.cell 1, k.cell 2⟩
theorem wantSet1b {wn w : World} {g : Nat} {L : List (List UInt8)} {A1 A2 : Option Addr} {n1 c1 n2 c2 : Nat} {x y : Int} {l : List UInt8} (h : WantAt wn w g (.slice A1 n1 c1) (.int .u64 x) (.slice A2 n2 c2) L) (hb : Bs w w.heap.size (.slice A1 n1 c1) l) :
    ∃ wF, Hid (w.setCell ⟨g, 1, none⟩ (.int .u64 y) = wF) ∧ WantAt wn wF g (.slice A1 n1 c1) (.int .u64 y) (.slice A2 n2 c2) L ∧ Bs wF wF.heap.size (.slice A1 n1 c1) l := by
  obtain ⟨wF, h1, h2⟩ := wantSet1 (y := y) h
  have gF := grown_setCell (grown_refl w (some g)) (p := ⟨g, 1, none⟩) (.inl rfl) (.int .u64 y)
  rw [h1.out] at gF
  exact ⟨wF, h1, h2, (hb.keepU8 (Nat.le_refl _) h.blk noU8_rec gF).more gF.size⟩
set_option maxHeartbeats 1000000 in
theorem walk_FnKeyRecordJoined {rR sR : RV} (f0 : RecIn w v0 rR) (f1 : RecIn w v1 sR) (he : HasErr w 4 ∧ HasErr w 5 ∧ HasErr w 6 ∧ HasErr w 7 ∧ HasErr w 8 ∧ HasErr w 9 ∧ HasErr w 0) :
    Calls Tryd.prog 13 #[v0, v1] w fun e w' => Yes w e w' := by
  have He := Lib.hid (rErr_of he)
  clear he
  obtain ⟨hv, rh64⟩ := f0
  obtain ⟨rA1, rn1, rc1, rA2, rn2, rc2, rfl, z1, z2⟩ := hv.form
  have X_rv := Lib.hid hv
  have rH64 := Lib.hid rh64
  obtain ⟨rsq, hrsq⟩ : ∃ q, q = (rR.seq : Int) := ⟨_, rfl⟩
  rw [← hrsq] at X_rv ⊢
  clear hv z1 z2 rh64 hrsq
  obtain ⟨hv, sh64⟩ := f1
  obtain ⟨sA1, sn1, sc1, sA2, sn2, sc2, rfl, z1, z2⟩ := hv.form
  have X_sv := Lib.hid hv
  have sH64 := Lib.hid sh64
  obtain ⟨ssq, hssq⟩ : ∃ q, q = (sR.seq : Int) := ⟨_, rfl⟩
  rw [← hssq] at X_sv ⊢
  clear hv z1 z2 sh64 hssq

  have B := Lib.hid (below_refl w)
  go_enter Tryd.func13, Tryd.ntmps13
  go_wp2_with fail
  have hb := below_alloc w (.cells #[.slice rA1 rn1 rc1, .int .u64 rsq, .slice rA2 rn2 rc2] 49)
  have b_r := Lib.hid (Blk.new w 49 #[.slice rA1 rn1 rc1, .int .u64 rsq, .slice rA2 rn2 rc2])
  replace X_rv := Lib.hid (X_rv.out.step hb)
  replace X_sv := Lib.hid (X_sv.out.step hb)
  replace B := Lib.hid (below_trans B.out hb)
  clear hb
  have hb := below_alloc (w.alloc (.cells #[.slice rA1 rn1 rc1, .int .u64 rsq, .slice rA2 rn2 rc2] 49)) (.cells #[.slice sA1 sn1 sc1, .int .u64 ssq, .slice sA2 sn2 sc2] 49)
  have b_s := Lib.hid (Blk.new (w.alloc (.cells #[.slice rA1 rn1 rc1, .int .u64 rsq, .slice rA2 rn2 rc2] 49)) 49 #[.slice sA1 sn1 sc1, .int .u64 ssq, .slice sA2 sn2 sc2])
  replace X_rv := Lib.hid (X_rv.out.step hb)
  replace X_sv := Lib.hid (X_sv.out.step hb)
  replace b_r := Lib.hid (b_r.out.step hb)
  replace B := Lib.hid (below_trans B.out hb)
  clear hb
  have hz : (w.alloc (.cells #[.slice rA1 rn1 rc1, .int .u64 rsq, .slice rA2 rn2 rc2] 49)).heap.size = w.heap.size + 1 := by simp
  rw [hz] at b_s
  clear hz
  obtain ⟨g_r, hg_r⟩ : ∃ g, g = w.heap.size := ⟨_, rfl⟩
  rw [← hg_r] at b_r b_s ⊢
  obtain ⟨g_s, hg_s⟩ : ∃ g, g = g_r + 1 := ⟨_, rfl⟩
  rw [← hg_s] at b_s ⊢
  have hrs : g_r ≠ g_s := by omega
  clear hg_r hg_s
  generalize hw1 : (w.alloc (.cells #[.slice rA1 rn1 rc1, .int .u64 rsq, .slice rA2 rn2 rc2] 49)).alloc (.cells #[.slice sA1 sn1 sc1, .int .u64 ssq, .slice sA2 sn2 sc2] 49) = w1 at *
  clear hw1
  by_cases hs : rR.fits31
  rotate_left
  · refine (zzFits13 X_rv.out).mono ?_
    rintro e wn ⟨hans, hb⟩
    obtain rfl := hans.no hs
    clear hans
    go_wp2_with fail
    go_ret
    exact ⟨rfl, below_trans B.out hb⟩
  refine (zzFits13 X_rv.out).mono ?_
  rintro e w2 ⟨hans, hb⟩
  obtain rfl := hans.yes hs
  clear hans
  replace X_rv := Lib.hid (X_rv.out.step hb)
  replace X_sv := Lib.hid (X_sv.out.step hb)
  replace b_r := Lib.hid (b_r.out.step hb)
  replace b_s := Lib.hid (b_s.out.step hb)
  replace B := Lib.hid (below_trans B.out hb)
  clear hb
  clear hs
  have b_r_0 := b_r.out.cell 0
  have b_r_1 := b_r.out.cell 1
  have b_r_2 := b_r.out.cell 2
  simp only [List.getElem?_toArray, List.getElem?_cons_zero, List.getElem?_cons_succ] at b_r_0 b_r_1 b_r_2
  have b_r_f0 := b_r.out.free 0
  have b_r_f1 := b_r.out.free 1
  have b_r_f2 := b_r.out.free 2
  have b_s_0 := b_s.out.cell 0
  have b_s_1 := b_s.out.cell 1
  have b_s_2 := b_s.out.cell 2
  simp only [List.getElem?_toArray, List.getElem?_cons_zero, List.getElem?_cons_succ] at b_s_0 b_s_1 b_s_2
  have b_s_f0 := b_s.out.free 0
  have b_s_f1 := b_s.out.free 1
  have b_s_f2 := b_s.out.free 2
  go_wp2_with fail
  clear b_r_0 b_r_f0 b_r_1 b_r_f1 b_r_2 b_r_f2
  clear b_s_0 b_s_f0 b_s_1 b_s_f1 b_s_2 b_s_f2
  by_cases hs : sR.fits31
  rotate_left
  · refine (zzFits13 X_sv.out).mono ?_
    rintro e wn ⟨hans, hb⟩
    obtain rfl := hans.no hs
    clear hans
    go_wp2_with fail
    go_ret
    exact ⟨rfl, below_trans B.out hb⟩
  refine (zzFits13 X_sv.out).mono ?_
  rintro e w3 ⟨hans, hb⟩
  obtain rfl := hans.yes hs
  clear hans
  replace X_rv := Lib.hid (X_rv.out.step hb)
  replace X_sv := Lib.hid (X_sv.out.step hb)
  replace b_r := Lib.hid (b_r.out.step hb)
  replace b_s := Lib.hid (b_s.out.step hb)
  replace B := Lib.hid (below_trans B.out hb)
  clear hb
  clear hs
  have b_r_0 := b_r.out.cell 0
  have b_r_1 := b_r.out.cell 1
  have b_r_2 := b_r.out.cell 2
  simp only [List.getElem?_toArray, List.getElem?_cons_zero, List.getElem?_cons_succ] at b_r_0 b_r_1 b_r_2
  have b_r_f0 := b_r.out.free 0
  have b_r_f1 := b_r.out.free 1
  have b_r_f2 := b_r.out.free 2
  have b_s_0 := b_s.out.cell 0
  have b_s_1 := b_s.out.cell 1
  have b_s_2 := b_s.out.cell 2
  simp only [List.getElem?_toArray, List.getElem?_cons_zero, List.getElem?_cons_succ] at b_s_0 b_s_1 b_s_2
  have b_s_f0 := b_s.out.free 0
  have b_s_f1 := b_s.out.free 1
  have b_s_f2 := b_s.out.free 2
  go_wp2_with fail
  clear b_r_0 b_r_f0 b_r_1 b_r_f1 b_r_2 b_r_f2
  clear b_s_0 b_s_f0 b_s_1 b_s_f1 b_s_2 b_s_f2
  by_cases hs : rR.fits
  rotate_left
  · refine (recordFits X_rv.out).mono ?_
    rintro e wn ⟨hans, hb⟩
    obtain rfl := hans.no hs
    clear hans
    replace B := Lib.hid (below_trans B.out hb)
    go_wp2_with fail
    refine (recordsLive (He.out.step B.out)).mono ?_
    rintro e wm ⟨rfl, hb⟩
    go_wp2_with fail
    go_ret
    exact ⟨rfl, below_trans B.out hb⟩
  refine (recordFits X_rv.out).mono ?_
  rintro e w4 ⟨hans, hb⟩
  obtain rfl := hans.yes hs
  clear hans
  replace X_rv := Lib.hid (X_rv.out.step hb)
  replace X_sv := Lib.hid (X_sv.out.step hb)
  replace b_r := Lib.hid (b_r.out.step hb)
  replace b_s := Lib.hid (b_s.out.step hb)
  replace B := Lib.hid (below_trans B.out hb)
  clear hb
  have Hsr := Lib.hid (hs.small rH64.out)
  have Hlr := Lib.hid (recEnc_len hs rH64.out)
  have Hfr := Lib.hid hs
  clear hs
  have b_r_0 := b_r.out.cell 0
  have b_r_1 := b_r.out.cell 1
  have b_r_2 := b_r.out.cell 2
  simp only [List.getElem?_toArray, List.getElem?_cons_zero, List.getElem?_cons_succ] at b_r_0 b_r_1 b_r_2
  have b_r_f0 := b_r.out.free 0
  have b_r_f1 := b_r.out.free 1
  have b_r_f2 := b_r.out.free 2
  have b_s_0 := b_s.out.cell 0
  have b_s_1 := b_s.out.cell 1
  have b_s_2 := b_s.out.cell 2
  simp only [List.getElem?_toArray, List.getElem?_cons_zero, List.getElem?_cons_succ] at b_s_0 b_s_1 b_s_2
  have b_s_f0 := b_s.out.free 0
  have b_s_f1 := b_s.out.free 1
  have b_s_f2 := b_s.out.free 2
  go_wp2_with fail
  clear b_r_0 b_r_f0 b_r_1 b_r_f1 b_r_2 b_r_f2
  clear b_s_0 b_s_f0 b_s_1 b_s_f1 b_s_2 b_s_f2
  by_cases hs : sR.fits
  rotate_left
  · refine (recordFits X_sv.out).mono ?_
    rintro e wn ⟨hans, hb⟩
    obtain rfl := hans.no hs
    clear hans
    replace B := Lib.hid (below_trans B.out hb)
    go_wp2_with fail
    refine (recordsLive (He.out.step B.out)).mono ?_
    rintro e wm ⟨rfl, hb⟩
    go_wp2_with fail
    go_ret
    exact ⟨rfl, below_trans B.out hb⟩
  refine (recordFits X_sv.out).mono ?_
  rintro e w5 ⟨hans, hb⟩
  obtain rfl := hans.yes hs
  clear hans
  replace X_rv := Lib.hid (X_rv.out.step hb)
  replace X_sv := Lib.hid (X_sv.out.step hb)
  replace b_r := Lib.hid (b_r.out.step hb)
  replace b_s := Lib.hid (b_s.out.step hb)
  replace B := Lib.hid (below_trans B.out hb)
  clear hb
  have Hss := Lib.hid (hs.small sH64.out)
  have Hls := Lib.hid (recEnc_len hs sH64.out)
  have Hfs := Lib.hid hs
  clear hs
  have b_r_0 := b_r.out.cell 0
  have b_r_1 := b_r.out.cell 1
  have b_r_2 := b_r.out.cell 2
  simp only [List.getElem?_toArray, List.getElem?_cons_zero, List.getElem?_cons_succ] at b_r_0 b_r_1 b_r_2
  have b_r_f0 := b_r.out.free 0
  have b_r_f1 := b_r.out.free 1
  have b_r_f2 := b_r.out.free 2
  have b_s_0 := b_s.out.cell 0
  have b_s_1 := b_s.out.cell 1
  have b_s_2 := b_s.out.cell 2
  simp only [List.getElem?_toArray, List.getElem?_cons_zero, List.getElem?_cons_succ] at b_s_0 b_s_1 b_s_2
  have b_s_f0 := b_s.out.free 0
  have b_s_f1 := b_s.out.free 1
  have b_s_f2 := b_s.out.free 2
  go_wp2_with fail
  clear b_r_0 b_r_f0 b_r_1 b_r_f1 b_r_2 b_r_f2
  clear b_s_0 b_s_f0 b_s_1 b_s_f1 b_s_2 b_s_f2
  refine (recordBytes X_rv.out Hsr.out).mono ?_
  rintro e w6 ⟨a, rfl, ho, hb⟩
  have X_a := Lib.hid ho.bs
  replace X_rv := Lib.hid (X_rv.out.step hb)
  replace X_sv := Lib.hid (X_sv.out.step hb)
  replace b_r := Lib.hid (b_r.out.step hb)
  replace b_s := Lib.hid (b_s.out.step hb)
  replace B := Lib.hid (below_trans B.out hb)
  clear hb ho
  obtain ⟨A_a, n_a, c_a, rfl⟩ := hid_exists_bs X_a.out
  have b_r_0 := b_r.out.cell 0
  have b_r_1 := b_r.out.cell 1
  have b_r_2 := b_r.out.cell 2
  simp only [List.getElem?_toArray, List.getElem?_cons_zero, List.getElem?_cons_succ] at b_r_0 b_r_1 b_r_2
  have b_r_f0 := b_r.out.free 0
  have b_r_f1 := b_r.out.free 1
  have b_r_f2 := b_r.out.free 2
  have b_s_0 := b_s.out.cell 0
  have b_s_1 := b_s.out.cell 1
  have b_s_2 := b_s.out.cell 2
  simp only [List.getElem?_toArray, List.getElem?_cons_zero, List.getElem?_cons_succ] at b_s_0 b_s_1 b_s_2
  have b_s_f0 := b_s.out.free 0
  have b_s_f1 := b_s.out.free 1
  have b_s_f2 := b_s.out.free 2
  go_wp2_with fail
  clear b_r_0 b_r_f0 b_r_1 b_r_f1 b_r_2 b_r_f2
  clear b_s_0 b_s_f0 b_s_1 b_s_f1 b_s_2 b_s_f2
  refine (recordBytes X_sv.out Hss.out).mono ?_
  rintro e w7 ⟨b, rfl, ho, hb⟩
  have X_b := Lib.hid ho.bs
  replace X_rv := Lib.hid (X_rv.out.step hb)
  replace X_sv := Lib.hid (X_sv.out.step hb)
  replace b_r := Lib.hid (b_r.out.step hb)
  replace b_s := Lib.hid (b_s.out.step hb)
  replace X_a := Lib.hid (X_a.out.step hb)
  replace B := Lib.hid (below_trans B.out hb)
  clear hb ho
  obtain ⟨A_b, n_b, c_b, rfl⟩ := hid_exists_bs X_b.out
  have b_r_0 := b_r.out.cell 0
  have b_r_1 := b_r.out.cell 1
  have b_r_2 := b_r.out.cell 2
  simp only [List.getElem?_toArray, List.getElem?_cons_zero, List.getElem?_cons_succ] at b_r_0 b_r_1 b_r_2
  have b_r_f0 := b_r.out.free 0
  have b_r_f1 := b_r.out.free 1
  have b_r_f2 := b_r.out.free 2
  have b_s_0 := b_s.out.cell 0
  have b_s_1 := b_s.out.cell 1
  have b_s_2 := b_s.out.cell 2
  simp only [List.getElem?_toArray, List.getElem?_cons_zero, List.getElem?_cons_succ] at b_s_0 b_s_1 b_s_2
  have b_s_f0 := b_s.out.free 0
  have b_s_f1 := b_s.out.free 1
  have b_s_f2 := b_s.out.free 2
  go_wp2_with fail
  clear b_r_0 b_r_f0 b_r_1 b_r_f1 b_r_2 b_r_f2
  clear b_s_0 b_s_f0 b_s_1 b_s_f1 b_s_2 b_s_f2
  have hc := concat (Bss.lit w7 23 [_, _] [_, _] ⟨X_a.out, X_b.out, trivial⟩ (by simp) _ 2 2 rfl rfl rfl) (by have := Hlr.out; have := Hls.out; simp; omega)
  refine hc.mono ?_
  rintro e w8 ⟨vj, rfl, ho, hb⟩
  replace hb := below_trans (below_alloc w7 _) hb
  have X_j := Lib.hid (show Bs w8 w8.heap.size vj (recEnc rR ++ recEnc sR) by have := ho.bs; rw [show [recEnc rR, recEnc sR].flatten = recEnc rR ++ recEnc sR by simp] at this; exact this)
  have Hd := Lib.hid (recDec_joined Hsr.out.ok Hss.out.ok)
  obtain ⟨A_j, n_j, c_j, rfl⟩ := hid_exists_bs X_j.out
  have Hlj := Lib.hid (show (recEnc rR ++ recEnc sR).length ≤ 16000 by have := Hlr.out; have := Hls.out; simp; omega)
  clear hc ho
  clear X_a
  clear X_b
  replace X_rv := Lib.hid (X_rv.out.step hb)
  replace X_sv := Lib.hid (X_sv.out.step hb)
  replace b_r := Lib.hid (b_r.out.step hb)
  replace b_s := Lib.hid (b_s.out.step hb)
  replace B := Lib.hid (below_trans B.out hb)
  clear hb
  have b_r_0 := b_r.out.cell 0
  have b_r_1 := b_r.out.cell 1
  have b_r_2 := b_r.out.cell 2
  simp only [List.getElem?_toArray, List.getElem?_cons_zero, List.getElem?_cons_succ] at b_r_0 b_r_1 b_r_2
  have b_r_f0 := b_r.out.free 0
  have b_r_f1 := b_r.out.free 1
  have b_r_f2 := b_r.out.free 2
  have b_s_0 := b_s.out.cell 0
  have b_s_1 := b_s.out.cell 1
  have b_s_2 := b_s.out.cell 2
  simp only [List.getElem?_toArray, List.getElem?_cons_zero, List.getElem?_cons_succ] at b_s_0 b_s_1 b_s_2
  have b_s_f0 := b_s.out.free 0
  have b_s_f1 := b_s.out.free 1
  have b_s_f2 := b_s.out.free 2
  go_wp2_with fail
  clear b_r_0 b_r_f0 b_r_1 b_r_f1 b_r_2 b_r_f2
  clear b_s_0 b_s_f0 b_s_1 b_s_f1 b_s_2 b_s_f2
  refine (recordOf X_j.out (He.out.step B.out) (by have := Hlj.out; omega)).mono ?_
  rintro e w9 ⟨hb, hans⟩
  obtain ⟨vx, rfl, hx⟩ := recSome hans Hd.out
  clear hans
  replace X_rv := Lib.hid (X_rv.out.step hb)
  replace X_sv := Lib.hid (X_sv.out.step hb)
  replace b_r := Lib.hid (b_r.out.step hb)
  replace b_s := Lib.hid (b_s.out.step hb)
  replace X_j := Lib.hid (X_j.out.step hb)
  replace B := Lib.hid (below_trans B.out hb)
  clear hb
  obtain ⟨xA1, xn1, xc1, xA2, xn2, xc2, rfl, z1, z2⟩ := hx.form
  have X_x := Lib.hid hx
  obtain ⟨xsq, hxsq⟩ : ∃ q, q = ((rR.join sR).seq : Int) := ⟨_, rfl⟩
  rw [← hxsq] at X_x ⊢
  clear hx z1 z2 hxsq
  clear X_j
  have b_r_o0 := (b_r.out.alloc (.cells #[.slice xA1 xn1 xc1, .int .u64 xsq, .slice xA2 xn2 xc2] 49)).cell 0
  have b_r_o1 := (b_r.out.alloc (.cells #[.slice xA1 xn1 xc1, .int .u64 xsq, .slice xA2 xn2 xc2] 49)).cell 1
  have b_r_o2 := (b_r.out.alloc (.cells #[.slice xA1 xn1 xc1, .int .u64 xsq, .slice xA2 xn2 xc2] 49)).cell 2
  simp only [List.getElem?_toArray, List.getElem?_cons_zero, List.getElem?_cons_succ] at b_r_o0 b_r_o1 b_r_o2
  have b_s_o0 := (b_s.out.alloc (.cells #[.slice xA1 xn1 xc1, .int .u64 xsq, .slice xA2 xn2 xc2] 49)).cell 0
  have b_s_o1 := (b_s.out.alloc (.cells #[.slice xA1 xn1 xc1, .int .u64 xsq, .slice xA2 xn2 xc2] 49)).cell 1
  have b_s_o2 := (b_s.out.alloc (.cells #[.slice xA1 xn1 xc1, .int .u64 xsq, .slice xA2 xn2 xc2] 49)).cell 2
  simp only [List.getElem?_toArray, List.getElem?_cons_zero, List.getElem?_cons_succ] at b_s_o0 b_s_o1 b_s_o2
  have b_r_0 := b_r.out.cell 0
  have b_r_1 := b_r.out.cell 1
  have b_r_2 := b_r.out.cell 2
  simp only [List.getElem?_toArray, List.getElem?_cons_zero, List.getElem?_cons_succ] at b_r_0 b_r_1 b_r_2
  have b_r_f0 := b_r.out.free 0
  have b_r_f1 := b_r.out.free 1
  have b_r_f2 := b_r.out.free 2
  have b_s_0 := b_s.out.cell 0
  have b_s_1 := b_s.out.cell 1
  have b_s_2 := b_s.out.cell 2
  simp only [List.getElem?_toArray, List.getElem?_cons_zero, List.getElem?_cons_succ] at b_s_0 b_s_1 b_s_2
  have b_s_f0 := b_s.out.free 0
  have b_s_f1 := b_s.out.free 1
  have b_s_f2 := b_s.out.free 2
  go_upto_region 8 with fail
  clear b_r_o0 b_r_o1 b_r_o2
  clear b_s_o0 b_s_o1 b_s_o2
  clear b_r_0 b_r_f0 b_r_1 b_r_f1 b_r_2 b_r_f2
  clear b_s_0 b_s_f0 b_s_1 b_s_f1 b_s_2 b_s_f2
  have hb := below_alloc w9 (.cells #[.slice xA1 xn1 xc1, .int .u64 xsq, .slice xA2 xn2 xc2] 49)
  have b_x := Lib.hid (Blk.new w9 49 #[.slice xA1 xn1 xc1, .int .u64 xsq, .slice xA2 xn2 xc2])
  replace X_rv := Lib.hid (X_rv.out.step hb)
  replace X_sv := Lib.hid (X_sv.out.step hb)
  replace b_r := Lib.hid (b_r.out.step hb)
  replace b_s := Lib.hid (b_s.out.step hb)
  replace X_x := Lib.hid (X_x.out.step hb)
  replace B := Lib.hid (below_trans B.out hb)
  clear hb
  obtain ⟨g_x, hg_x⟩ : ∃ g, g = w9.heap.size := ⟨_, rfl⟩
  rw [← hg_x]
  rw [← hg_x] at b_x
  generalize hw10 : w9.alloc (.cells #[.slice xA1 xn1 xc1, .int .u64 xsq, .slice xA2 xn2 xc2] 49) = w10 at *
  clear hw10
  clear hg_x
  go_cut [11] (fun s11 wx => ∃ (g P : Nat) (A : Option Addr) (r : Nat), s11 = .pointer (some ⟨g, 0, none⟩) ∧ Hid (WantAt w10 wx g (.slice sA1 sn1 sc1) (.int .u64 ssq) (.slice A P r) (rR.addrs ++ sR.addrs)))
  case first =>
    have b_R' := Lib.hid b_r.out.drew
    have b_S' := Lib.hid b_s.out.drew
    have AB := Lib.hid (show AllBss w10 w10.heap.size [.slice rA2 rn2 rc2, .slice sA2 sn2 sc2] [rR.addrs, sR.addrs] from ⟨X_rv.out.parts.2.2, X_sv.out.parts.2.2, trivial⟩)
    have AB' := Lib.hid (show AllBss (w10.alloc (.cells #[.slice none 0 0, .int .u64 0, .slice none 0 0] 49)) (w10.alloc (.cells #[.slice none 0 0, .int .u64 0, .slice none 0 0] 49)).heap.size [.slice rA2 rn2 rc2, .slice sA2 sn2 sc2] [rR.addrs, sR.addrs] from ⟨X_rv.out.parts.2.2.step (below_alloc _ _), X_sv.out.parts.2.2.step (below_alloc _ _), trivial⟩)
    have LA := Lib.hid (Bsss.lit w10 47 [.slice rA2 rn2 rc2, .slice sA2 sn2 sc2] [rR.addrs, sR.addrs] AB.out (by simp) w10.heap.size 2 2 rfl rfl rfl).drew
    have LB := Lib.hid (Bsss.lit (w10.alloc (.cells #[.slice none 0 0, .int .u64 0, .slice none 0 0] 49)) 47 [.slice rA2 rn2 rc2, .slice sA2 sn2 sc2] [rR.addrs, sR.addrs] AB'.out (by simp) (w10.heap.size + 1) 2 2 (by simp) rfl rfl).drew
    have LC := Lib.hid ((Bsss.lit w10 47 [.slice rA2 rn2 rc2, .slice sA2 sn2 sc2] [rR.addrs, sR.addrs] AB.out (by simp) w10.heap.size 2 2 rfl rfl rfl).step (below_alloc _ (.cells #[.slice none 0 0, .int .u64 0, .slice none 0 0] 49))).drew
    have HC := Lib.hid (show ∀ W v, Bsss W W.heap.size v [rR.addrs, sR.addrs] → Calls Tryd.prog 48 #[v] W fun e w' => ∃ v', e = .returned v' ∧ RowBs w' W.heap.size v' (rR.addrs ++ sR.addrs) ∧ Below W.heap.size W w' from fun W v h => by
      have := concatL h (by have := Hfr.out.many; have := Hfs.out.many; simp; omega)
      rwa [show [rR.addrs, sR.addrs].flatten = rR.addrs ++ sR.addrs by simp] at this)
    have KA : ∀ (w11 : World), Below (w10.alloc (.cells #[.slice rA2 rn2 rc2, .slice sA2 sn2 sc2] 47)).drew.heap.size (w10.alloc (.cells #[.slice rA2 rn2 rc2, .slice sA2 sn2 sc2] 47)).drew w11 → Below w10.heap.size w10 w11 := fun w11 h => below_trans (below_alloc w10 _).drew h
    have KB : ∀ (w11 : World), Below ((w10.alloc (.cells #[.slice none 0 0, .int .u64 0, .slice none 0 0] 49)).alloc (.cells #[.slice rA2 rn2 rc2, .slice sA2 sn2 sc2] 47)).drew.heap.size ((w10.alloc (.cells #[.slice none 0 0, .int .u64 0, .slice none 0 0] 49)).alloc (.cells #[.slice rA2 rn2 rc2, .slice sA2 sn2 sc2] 47)).drew w11 → Below w10.heap.size w10 w11 := fun w11 h => below_trans (below_trans (below_alloc w10 _) (below_alloc _ _)).drew h
    have KC : ∀ (w11 : World), Below ((w10.alloc (.cells #[.slice rA2 rn2 rc2, .slice sA2 sn2 sc2] 47)).alloc (.cells #[.slice none 0 0, .int .u64 0, .slice none 0 0] 49)).drew.heap.size ((w10.alloc (.cells #[.slice rA2 rn2 rc2, .slice sA2 sn2 sc2] 47)).alloc (.cells #[.slice none 0 0, .int .u64 0, .slice none 0 0] 49)).drew w11 → Below w10.heap.size w10 w11 := fun w11 h => below_trans (below_trans (below_alloc w10 _) (below_alloc _ _)).drew h
    replace KA := Lib.hid KA
    replace KB := Lib.hid KB
    replace KC := Lib.hid KC
    go_region_held3 (fun W => W.cell? ⟨g_r, 0, none⟩ = some (.slice rA1 rn1 rc1) ∧ W.cell? ⟨g_r, 1, none⟩ = some (.int .u64 rsq) ∧ W.cell? ⟨g_r, 2, none⟩ = some (.slice rA2 rn2 rc2) ∧ W.cell? ⟨g_s, 0, none⟩ = some (.slice sA1 sn1 sc1) ∧ W.cell? ⟨g_s, 1, none⟩ = some (.int .u64 ssq) ∧ W.cell? ⟨g_s, 2, none⟩ = some (.slice sA2 sn2 sc2)) (with_reducible first | exact twoThree b_R'.out b_S'.out | exact twoThree (b_r.out.alloc _).drew (b_s.out.alloc _).drew | exact twoThree ((b_r.out.alloc _).alloc _).drew ((b_s.out.alloc _).alloc _).drew | exact twoThree b_R2.out b_S2.out | exact twoThree (b_R2.out.alloc _) (b_S2.out.alloc _) | (rw [hwF.out]; exact twoThree b_R3.out b_S3.out)) (first
      | (go_at_call 48; (with_reducible first
        | ((with_reducible refine (HC.out _ _ LA.out).mono ?_); rintro e w11 ⟨vv, rfl, hrow, hb⟩; obtain ⟨P, q, r, rfl⟩ := hrow.sliceForm; have B11 := Lib.hid (KA.out _ hb); obtain ⟨wF, g_w, hwF, hgw, hW⟩ := joinA hrow hb (.slice sA1 sn1 sc1) (.int .u64 ssq); have HW := Lib.hid hW; clear hW; have BW := Lib.hid HW.out.bel; have b_R2 := Lib.hid (b_r.out.step B11.out); have b_S2 := Lib.hid (b_s.out.step B11.out); have b_R3 := Lib.hid (b_r.out.step BW.out); have b_S3 := Lib.hid (b_s.out.step BW.out); clear hrow hb)
        | ((with_reducible refine (HC.out _ _ LB.out).mono ?_); rintro e w11 ⟨vv, rfl, hrow, hb⟩; obtain ⟨P, q, r, rfl⟩ := hrow.sliceForm; have B11 := Lib.hid (KB.out _ hb); obtain ⟨wF, g_w, hwF, hgw, hW, hbC⟩ := joinB (A1 := sA1) (n1 := sn1) (c1 := sc1) (x := ssq) hrow hb; obtain ⟨k0, k1, k2⟩ := threeCells hbC; obtain ⟨m0, m1, m2⟩ := threeFree hbC; clear hbC; rw [hgw] at hwF k0 k1 k2 m0 m1 m2 ⊢; have HW := Lib.hid hW; clear hW; have BW := Lib.hid HW.out.bel; have b_R2 := Lib.hid (b_r.out.step B11.out); have b_S2 := Lib.hid (b_s.out.step B11.out); have b_R3 := Lib.hid (b_r.out.step BW.out); have b_S3 := Lib.hid (b_s.out.step BW.out); clear hrow hb)
        | ((with_reducible refine (HC.out _ _ LC.out).mono ?_); rintro e w11 ⟨vv, rfl, hrow, hb⟩; obtain ⟨P, q, r, rfl⟩ := hrow.sliceForm; have B11 := Lib.hid (KC.out _ hb); obtain ⟨wF, g_w, hwF, hgw, hW, hbC⟩ := joinC (A1 := sA1) (n1 := sn1) (c1 := sc1) (x := ssq) hrow hb; obtain ⟨k0, k1, k2⟩ := threeCells hbC; obtain ⟨m0, m1, m2⟩ := threeFree hbC; clear hbC; rw [hgw] at hwF k0 k1 k2 m0 m1 m2 ⊢; have HW := Lib.hid hW; clear hW; have BW := Lib.hid HW.out.bel; have b_R2 := Lib.hid (b_r.out.step B11.out); have b_S2 := Lib.hid (b_s.out.step B11.out); have b_R3 := Lib.hid (b_r.out.step BW.out); have b_S3 := Lib.hid (b_s.out.step BW.out); clear hrow hb))))
    all_goals
      rw [hwF.out]
      try rw [hgw]
      go_wp2_with fail
      go_meet
      exact ⟨_, _, _, _, rfl, HW⟩
  case rest =>
    obtain ⟨g_w, P, A, r, rfl, HW⟩ := hcut
    obtain ⟨wA, rfl⟩ : ∃ wA : World, wA = wc := ⟨_, rfl⟩
    have BW := Lib.hid HW.out.bel
    have hrw : g_r ≠ g_w := by have := b_r.out.lt; have := HW.out.old; omega
    have hsw : g_s ≠ g_w := by have := b_s.out.lt; have := HW.out.old; omega
    have hxw : g_x ≠ g_w := by have := b_x.out.lt; have := HW.out.old; omega
    have b_w := Lib.hid HW.out.blk
    have b_rF := Lib.hid (b_r.out.step BW.out)
    have b_sF := Lib.hid (b_s.out.step BW.out)
    have Hsp := Lib.hid (bs_len X_sv.out.parts.1)
    have Hsq := Lib.hid X_sv.out.parts.2.1
    have Hrq := Lib.hid X_rv.out.parts.2.1
    have b_r0 := b_r
    have b_s0 := b_s
    clear b_r b_s
    have b_sF_0 := b_sF.out.cell 0
    simp only [List.getElem?_toArray, List.getElem?_cons_zero, List.getElem?_cons_succ] at b_sF_0
    have b_rF_0 := b_rF.out.cell 0
    simp only [List.getElem?_toArray, List.getElem?_cons_zero, List.getElem?_cons_succ] at b_rF_0
    have b_w_0 := b_w.out.cell 0
    simp only [List.getElem?_toArray, List.getElem?_cons_zero, List.getElem?_cons_succ] at b_w_0
    have b_w_f0 := b_w.out.free 0
    go_upto_if 61 with fail
    go_cut [] (fun wx => ∃ (A' : Option Addr) (n' c' : Nat), Hid (WantAt w10 wx g_w (.slice A' n' c') (.int .u64 ssq) (.slice A P r) (rR.addrs ++ sR.addrs)) ∧ Hid (Bs wx wx.heap.size (.slice A' n' c') (rR.join sR).peer))
    case first =>
      by_cases hp : sn1 = 0
      · have HP := Lib.hid (show (rR.join sR).peer = rR.peer by have := Hsp.out; unfold RV.join; simp only []; rw [if_pos (List.length_eq_zero_iff.1 (by omega))])
        subst hp
        go_wp2_with fail
        obtain ⟨wG, hwG, hG⟩ := wantSet0 (A3 := rA1) (n3 := rn1) (c3 := rc1) HW.out
        have HG := Lib.hid hG
        rw [hwG.out]
        clear hG hwG HW
        go_meet
        exact ⟨_, _, _, HG, Lib.hid (by rw [HP.out]; exact X_rv.out.parts.1.step HG.out.bel)⟩
      · have HP := Lib.hid (show (rR.join sR).peer = sR.peer by have := Hsp.out; unfold RV.join; simp only []; rw [if_neg (fun h => hp (by rw [this, h]; rfl))])
        have dp : decide ((sn1 : Int) = 0) = false := by simp; omega
        go_wp2_with fail
        go_meet
        exact ⟨_, _, _, HW, Lib.hid (by rw [HP.out]; exact X_sv.out.parts.1.step HW.out.bel)⟩
    case rest =>
      clear b_sF_0 b_rF_0 b_w_0 b_w_f0
      clear HW BW b_w b_rF b_sF
      obtain ⟨A', n', c', HW, HPB⟩ := hcut
      obtain ⟨wB, rfl⟩ : ∃ wB : World, wB = wc := ⟨_, rfl⟩
      have BW := Lib.hid HW.out.bel
      have b_w := Lib.hid HW.out.blk
      have b_rF := Lib.hid (b_r0.out.step BW.out)
      have b_sF := Lib.hid (b_s0.out.step BW.out)
      have b_sF_1 := b_sF.out.cell 1
      simp only [List.getElem?_toArray, List.getElem?_cons_zero, List.getElem?_cons_succ] at b_sF_1
      have b_rF_1 := b_rF.out.cell 1
      simp only [List.getElem?_toArray, List.getElem?_cons_zero, List.getElem?_cons_succ] at b_rF_1
      have b_w_1 := b_w.out.cell 1
      simp only [List.getElem?_toArray, List.getElem?_cons_zero, List.getElem?_cons_succ] at b_w_1
      have b_w_f1 := b_w.out.free 1
      go_upto_if 67 with fail
      go_cut [] (fun wx => ∃ (q' : Int), Hid (WantAt w10 wx g_w (.slice A' n' c') (.int .u64 q') (.slice A P r) (rR.addrs ++ sR.addrs)) ∧ Hid (Bs wx wx.heap.size (.slice A' n' c') (rR.join sR).peer) ∧ Hid (((rR.join sR).seq : Int) = q'))
      case first =>
        by_cases hq : ssq = 0
        · have HQ := Lib.hid (show ((rR.join sR).seq : Int) = rsq by have h1 := Hsq.out; have h2 := Hrq.out; unfold RV.join; simp only []; rw [if_pos (by omega)]; exact h2.symm)
          subst hq
          go_wp2_with fail
          obtain ⟨wH, hwH, hH, hHB⟩ := wantSet1b (y := rsq) HW.out HPB.out
          rw [hwH.out]
          go_meet
          exact ⟨_, Lib.hid hH, Lib.hid hHB, HQ⟩
        · have HQ := Lib.hid (show ((rR.join sR).seq : Int) = ssq by have h1 := Hsq.out; have h2 := Hrq.out; unfold RV.join; simp only []; rw [if_neg (by omega)]; exact h1.symm)
          have dq : decide (ssq = 0) = false := by simp [hq]
          go_wp2_with fail
          go_meet
          exact ⟨_, HW, HPB, HQ⟩
      case rest =>
        clear b_sF_1 b_rF_1 b_w_1 b_w_f1
        clear HW BW b_w b_rF b_sF HPB
        obtain ⟨q', HW, HPB, HQ⟩ := hcut
        obtain ⟨wC, rfl⟩ : ∃ wC : World, wC = wc := ⟨_, rfl⟩
        have BG := Lib.hid HW.out.bel
        have b_w := Lib.hid HW.out.blk
        have b_xF := Lib.hid (b_x.out.step BG.out)
        have b_w_0 := b_w.out.cell 0
        simp only [List.getElem?_toArray, List.getElem?_cons_zero, List.getElem?_cons_succ] at b_w_0
        have b_w_1 := b_w.out.cell 1
        simp only [List.getElem?_toArray, List.getElem?_cons_zero, List.getElem?_cons_succ] at b_w_1
        have b_w_2 := b_w.out.cell 2
        simp only [List.getElem?_toArray, List.getElem?_cons_zero, List.getElem?_cons_succ] at b_w_2
        have b_xF_0 := b_xF.out.cell 0
        simp only [List.getElem?_toArray, List.getElem?_cons_zero, List.getElem?_cons_succ] at b_xF_0
        have b_xF_1 := b_xF.out.cell 1
        simp only [List.getElem?_toArray, List.getElem?_cons_zero, List.getElem?_cons_succ] at b_xF_1
        have b_xF_2 := b_xF.out.cell 2
        simp only [List.getElem?_toArray, List.getElem?_cons_zero, List.getElem?_cons_succ] at b_xF_2
        go_wp2_with fail
        clear b_w_0 b_w_1 b_w_2 b_xF_0 b_xF_1 b_xF_2
        refine (sameRecord (X_x.out.step BG.out) (RecVal.mk' HQ.out.symm HPB.out HW.out.ads)).mono ?_
        rintro e wY ⟨hans, hb⟩
        obtain rfl := hans.yes rfl
        clear hans
        replace BG := Lib.hid (below_trans B.out (below_trans BG.out hb))
        clear hb
        go_wp2_with fail
        refine (recordsLive (He.out.step BG.out)).mono ?_
        rintro e wZ ⟨rfl, hb⟩
        replace BG := Lib.hid (below_trans BG.out hb)
        clear hb
        go_wp2_with fail
        go_ret
        exact ⟨rfl, BG.out⟩

end
end Go.Proofs.YtcefcdmonfenoaaDoor

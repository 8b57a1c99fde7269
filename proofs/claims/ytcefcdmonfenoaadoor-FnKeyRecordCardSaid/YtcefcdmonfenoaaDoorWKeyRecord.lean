/- The walk of FnKeyRecord. (Printed by gen_rlaws.py.) -/
import Derived.Test.YtcefcdmonfenoaaDoorWRl
namespace Go.Proofs.YtcefcdmonfenoaaDoor
open Go.RowKit
set_option maxRecDepth 100000
attribute [local go_sem ↓] Go.wp_at_zero Go.wp_at_succ
section
variable {w : World} {v0 v1 v2 v3 : Value}

set_option maxHeartbeats 2000000 in
theorem walk_FnKeyRecord {R : RV} (f0 : RecIn w v0 R) (he : HasErr w 4 ∧ HasErr w 5 ∧ HasErr w 6 ∧ HasErr w 7 ∧ HasErr w 8 ∧ HasErr w 9 ∧ HasErr w 0) :
    Calls Tryd.prog 12 #[v0] w fun e w' => Yes w e w' := by
  have He := Lib.hid (rErr_of he)
  clear he
  obtain ⟨hv, h64⟩ := f0
  obtain ⟨A1, n1, c1, A2, n2, c2, rfl, z1, z2⟩ := hv.form
  have X_v := Lib.hid hv
  have H64 := Lib.hid h64
  obtain ⟨sq, hsq⟩ : ∃ q, q = (R.seq : Int) := ⟨_, rfl⟩
  rw [← hsq] at X_v ⊢
  clear hv z1 z2 h64 hsq

  have B := Lib.hid (below_refl w)
  go_enter Tryd.func12, Tryd.ntmps12
  go_wp2_with fail
  have hb := below_alloc w (.cells #[.slice A1 n1 c1, .int .u64 sq, .slice A2 n2 c2] 49)
  have b_ := Lib.hid (Blk.new w 49 #[.slice A1 n1 c1, .int .u64 sq, .slice A2 n2 c2])
  replace X_v := Lib.hid (X_v.out.step hb)
  replace B := Lib.hid (below_trans B.out hb)
  clear hb
  obtain ⟨g_, hg_⟩ : ∃ g, g = w.heap.size := ⟨_, rfl⟩
  rw [← hg_]
  rw [← hg_] at b_
  generalize hw1 : w.alloc (.cells #[.slice A1 n1 c1, .int .u64 sq, .slice A2 n2 c2] 49) = w1 at *
  clear hw1
  clear hg_
  by_cases hs : R.fits31
  rotate_left
  · refine (zzFits13 X_v.out).mono ?_
    rintro e wn ⟨hans, hb⟩
    obtain rfl := hans.no hs
    clear hans
    go_wp2_with fail
    go_ret
    exact ⟨rfl, below_trans B.out hb⟩
  refine (zzFits13 X_v.out).mono ?_
  rintro e w2 ⟨hans, hb⟩
  obtain rfl := hans.yes hs
  clear hans
  replace X_v := Lib.hid (X_v.out.step hb)
  replace b_ := Lib.hid (b_.out.step hb)
  replace B := Lib.hid (below_trans B.out hb)
  clear hb
  clear hs
  have b__0 := b_.out.cell 0
  have b__1 := b_.out.cell 1
  have b__2 := b_.out.cell 2
  simp only [List.getElem?_toArray, List.getElem?_cons_zero, List.getElem?_cons_succ] at b__0 b__1 b__2
  have b__f0 := b_.out.free 0
  have b__f1 := b_.out.free 1
  have b__f2 := b_.out.free 2
  go_wp2_with fail
  clear b__0 b__f0 b__1 b__f1 b__2 b__f2
  by_cases hs : R.fits
  rotate_left
  · refine (recordFits X_v.out).mono ?_
    rintro e wn ⟨hans, hb⟩
    obtain rfl := hans.no hs
    clear hans
    replace B := Lib.hid (below_trans B.out hb)
    go_wp2_with fail
    refine (recordsLive (He.out.step B.out)).mono ?_
    rintro e wm ⟨rfl, hb⟩
    go_wp2_with fail
    go_ret
    exact ⟨rfl, below_trans B.out hb⟩
  refine (recordFits X_v.out).mono ?_
  rintro e w3 ⟨hans, hb⟩
  obtain rfl := hans.yes hs
  clear hans
  replace X_v := Lib.hid (X_v.out.step hb)
  replace b_ := Lib.hid (b_.out.step hb)
  replace B := Lib.hid (below_trans B.out hb)
  clear hb
  have Hs := Lib.hid (hs.small H64.out)
  have Hd := Lib.hid (recDec_enc Hs.out.ok)
  have Hl := Lib.hid (recEnc_len hs H64.out)
  clear hs
  have b__0 := b_.out.cell 0
  have b__1 := b_.out.cell 1
  have b__2 := b_.out.cell 2
  simp only [List.getElem?_toArray, List.getElem?_cons_zero, List.getElem?_cons_succ] at b__0 b__1 b__2
  have b__f0 := b_.out.free 0
  have b__f1 := b_.out.free 1
  have b__f2 := b_.out.free 2
  go_wp2_with fail
  clear b__0 b__f0 b__1 b__f1 b__2 b__f2
  refine (recordBytes X_v.out Hs.out).mono ?_
  rintro e w4 ⟨b, rfl, ho, hb⟩
  have X_b := Lib.hid ho.bs
  replace X_v := Lib.hid (X_v.out.step hb)
  replace b_ := Lib.hid (b_.out.step hb)
  replace B := Lib.hid (below_trans B.out hb)
  clear hb ho
  obtain ⟨A_b, n_b, c_b, rfl⟩ := hid_exists_bs X_b.out
  have b__0 := b_.out.cell 0
  have b__1 := b_.out.cell 1
  have b__2 := b_.out.cell 2
  simp only [List.getElem?_toArray, List.getElem?_cons_zero, List.getElem?_cons_succ] at b__0 b__1 b__2
  have b__f0 := b_.out.free 0
  have b__f1 := b_.out.free 1
  have b__f2 := b_.out.free 2
  go_wp2_with fail
  clear b__0 b__f0 b__1 b__f1 b__2 b__f2
  refine (bytesClone X_b.out (by have := Hl.out; omega)).mono ?_
  rintro e w5 ⟨c, rfl, ho, hb⟩
  have X_c := Lib.hid ho.bs
  replace X_v := Lib.hid (X_v.out.step hb)
  replace b_ := Lib.hid (b_.out.step hb)
  replace X_b := Lib.hid (X_b.out.step hb)
  replace B := Lib.hid (below_trans B.out hb)
  clear hb ho
  obtain ⟨A_c, n_c, c_c, rfl⟩ := hid_exists_bs X_c.out
  have b__0 := b_.out.cell 0
  have b__1 := b_.out.cell 1
  have b__2 := b_.out.cell 2
  simp only [List.getElem?_toArray, List.getElem?_cons_zero, List.getElem?_cons_succ] at b__0 b__1 b__2
  have b__f0 := b_.out.free 0
  have b__f1 := b_.out.free 1
  have b__f2 := b_.out.free 2
  go_wp2_with fail
  clear b__0 b__f0 b__1 b__f1 b__2 b__f2
  refine (recordOf X_c.out (He.out.step B.out) (by have := Hl.out; omega)).mono ?_
  rintro e w6 ⟨hb, hans⟩
  obtain ⟨vx, rfl, hx⟩ := recSome hans Hd.out
  clear hans
  replace X_v := Lib.hid (X_v.out.step hb)
  replace b_ := Lib.hid (b_.out.step hb)
  replace X_b := Lib.hid (X_b.out.step hb)
  replace X_c := Lib.hid (X_c.out.step hb)
  replace B := Lib.hid (below_trans B.out hb)
  clear hb
  obtain ⟨xA1, xn1, xc1, xA2, xn2, xc2, rfl, z1, z2⟩ := hx.form
  have X_x := Lib.hid hx
  obtain ⟨xsq, hxsq⟩ : ∃ q, q = (R.seq : Int) := ⟨_, rfl⟩
  rw [← hxsq] at X_x ⊢
  clear hx z1 z2 hxsq
  have b__o0 := (b_.out.alloc (.cells #[.slice xA1 xn1 xc1, .int .u64 xsq, .slice xA2 xn2 xc2] 49)).cell 0
  have b__o1 := (b_.out.alloc (.cells #[.slice xA1 xn1 xc1, .int .u64 xsq, .slice xA2 xn2 xc2] 49)).cell 1
  have b__o2 := (b_.out.alloc (.cells #[.slice xA1 xn1 xc1, .int .u64 xsq, .slice xA2 xn2 xc2] 49)).cell 2
  simp only [List.getElem?_toArray, List.getElem?_cons_zero, List.getElem?_cons_succ] at b__o0 b__o1 b__o2
  have b__0 := b_.out.cell 0
  have b__1 := b_.out.cell 1
  have b__2 := b_.out.cell 2
  simp only [List.getElem?_toArray, List.getElem?_cons_zero, List.getElem?_cons_succ] at b__0 b__1 b__2
  have b__f0 := b_.out.free 0
  have b__f1 := b_.out.free 1
  have b__f2 := b_.out.free 2
  go_wp2_with fail
  clear b__o0 b__o1 b__o2
  clear b__0 b__f0 b__1 b__f1 b__2 b__f2
  have hb := below_alloc w6 (.cells #[.slice xA1 xn1 xc1, .int .u64 xsq, .slice xA2 xn2 xc2] 49)
  have b_x := Lib.hid (Blk.new w6 49 #[.slice xA1 xn1 xc1, .int .u64 xsq, .slice xA2 xn2 xc2])
  replace X_v := Lib.hid (X_v.out.step hb)
  replace b_ := Lib.hid (b_.out.step hb)
  replace X_b := Lib.hid (X_b.out.step hb)
  replace X_c := Lib.hid (X_c.out.step hb)
  replace X_x := Lib.hid (X_x.out.step hb)
  replace B := Lib.hid (below_trans B.out hb)
  clear hb
  obtain ⟨g_x, hg_x⟩ : ∃ g, g = w6.heap.size := ⟨_, rfl⟩
  rw [← hg_x]
  rw [← hg_x] at b_x
  generalize hw7 : w6.alloc (.cells #[.slice xA1 xn1 xc1, .int .u64 xsq, .slice xA2 xn2 xc2] 49) = w7 at *
  clear hw7
  clear hg_x
  refine (specRecordBytes X_v.out Hs.out).mono ?_
  rintro e w8 ⟨s, rfl, ho, hb⟩
  have X_s := Lib.hid ho.bs
  replace X_v := Lib.hid (X_v.out.step hb)
  replace b_ := Lib.hid (b_.out.step hb)
  replace X_b := Lib.hid (X_b.out.step hb)
  replace X_c := Lib.hid (X_c.out.step hb)
  replace X_x := Lib.hid (X_x.out.step hb)
  replace b_x := Lib.hid (b_x.out.step hb)
  replace B := Lib.hid (below_trans B.out hb)
  clear hb ho
  obtain ⟨A_s, n_s, c_s, rfl⟩ := hid_exists_bs X_s.out
  have b__0 := b_.out.cell 0
  have b__1 := b_.out.cell 1
  have b__2 := b_.out.cell 2
  simp only [List.getElem?_toArray, List.getElem?_cons_zero, List.getElem?_cons_succ] at b__0 b__1 b__2
  have b__f0 := b_.out.free 0
  have b__f1 := b_.out.free 1
  have b__f2 := b_.out.free 2
  have b_x_0 := b_x.out.cell 0
  have b_x_1 := b_x.out.cell 1
  have b_x_2 := b_x.out.cell 2
  simp only [List.getElem?_toArray, List.getElem?_cons_zero, List.getElem?_cons_succ] at b_x_0 b_x_1 b_x_2
  have b_x_f0 := b_x.out.free 0
  have b_x_f1 := b_x.out.free 1
  have b_x_f2 := b_x.out.free 2
  go_wp2_with fail
  clear b__0 b__f0 b__1 b__f1 b__2 b__f2
  clear b_x_0 b_x_f0 b_x_1 b_x_f1 b_x_2 b_x_f2
  refine (eqTrue X_b.out X_s.out rfl).mono ?_
  rintro e W_ ⟨rfl, rfl⟩
  have b__0 := b_.out.cell 0
  have b__1 := b_.out.cell 1
  have b__2 := b_.out.cell 2
  simp only [List.getElem?_toArray, List.getElem?_cons_zero, List.getElem?_cons_succ] at b__0 b__1 b__2
  have b__f0 := b_.out.free 0
  have b__f1 := b_.out.free 1
  have b__f2 := b_.out.free 2
  have b_x_0 := b_x.out.cell 0
  have b_x_1 := b_x.out.cell 1
  have b_x_2 := b_x.out.cell 2
  simp only [List.getElem?_toArray, List.getElem?_cons_zero, List.getElem?_cons_succ] at b_x_0 b_x_1 b_x_2
  have b_x_f0 := b_x.out.free 0
  have b_x_f1 := b_x.out.free 1
  have b_x_f2 := b_x.out.free 2
  go_wp2_with fail
  clear b__0 b__f0 b__1 b__f1 b__2 b__f2
  clear b_x_0 b_x_f0 b_x_1 b_x_f1 b_x_2 b_x_f2
  have hs : R = R := rfl
  refine (sameRecord X_x.out X_v.out).mono ?_
  rintro e w9 ⟨hans, hb⟩
  obtain rfl := hans.yes hs
  clear hans
  replace X_v := Lib.hid (X_v.out.step hb)
  replace b_ := Lib.hid (b_.out.step hb)
  replace X_b := Lib.hid (X_b.out.step hb)
  replace X_c := Lib.hid (X_c.out.step hb)
  replace X_x := Lib.hid (X_x.out.step hb)
  replace b_x := Lib.hid (b_x.out.step hb)
  replace X_s := Lib.hid (X_s.out.step hb)
  replace B := Lib.hid (below_trans B.out hb)
  clear hb
  clear hs
  have b__0 := b_.out.cell 0
  have b__1 := b_.out.cell 1
  have b__2 := b_.out.cell 2
  simp only [List.getElem?_toArray, List.getElem?_cons_zero, List.getElem?_cons_succ] at b__0 b__1 b__2
  have b__f0 := b_.out.free 0
  have b__f1 := b_.out.free 1
  have b__f2 := b_.out.free 2
  have b_x_0 := b_x.out.cell 0
  have b_x_1 := b_x.out.cell 1
  have b_x_2 := b_x.out.cell 2
  simp only [List.getElem?_toArray, List.getElem?_cons_zero, List.getElem?_cons_succ] at b_x_0 b_x_1 b_x_2
  have b_x_f0 := b_x.out.free 0
  have b_x_f1 := b_x.out.free 1
  have b_x_f2 := b_x.out.free 2
  go_wp2_with fail
  clear b__0 b__f0 b__1 b__f1 b__2 b__f2
  clear b_x_0 b_x_f0 b_x_1 b_x_f1 b_x_2 b_x_f2
  refine (recordsLive (He.out.step B.out)).mono ?_
  rintro e w10 ⟨rfl, hb⟩
  replace X_v := Lib.hid (X_v.out.step hb)
  replace b_ := Lib.hid (b_.out.step hb)
  replace X_b := Lib.hid (X_b.out.step hb)
  replace X_c := Lib.hid (X_c.out.step hb)
  replace X_x := Lib.hid (X_x.out.step hb)
  replace b_x := Lib.hid (b_x.out.step hb)
  replace X_s := Lib.hid (X_s.out.step hb)
  replace B := Lib.hid (below_trans B.out hb)
  clear hb
  have b__0 := b_.out.cell 0
  have b__1 := b_.out.cell 1
  have b__2 := b_.out.cell 2
  simp only [List.getElem?_toArray, List.getElem?_cons_zero, List.getElem?_cons_succ] at b__0 b__1 b__2
  have b__f0 := b_.out.free 0
  have b__f1 := b_.out.free 1
  have b__f2 := b_.out.free 2
  have b_x_0 := b_x.out.cell 0
  have b_x_1 := b_x.out.cell 1
  have b_x_2 := b_x.out.cell 2
  simp only [List.getElem?_toArray, List.getElem?_cons_zero, List.getElem?_cons_succ] at b_x_0 b_x_1 b_x_2
  have b_x_f0 := b_x.out.free 0
  have b_x_f1 := b_x.out.free 1
  have b_x_f2 := b_x.out.free 2
  go_wp2_with fail
  clear b__0 b__f0 b__1 b__f1 b__2 b__f2
  clear b_x_0 b_x_f0 b_x_1 b_x_f1 b_x_2 b_x_f2
  go_ret
  exact ⟨rfl, B.out⟩

end
end Go.Proofs.YtcefcdmonfenoaaDoor

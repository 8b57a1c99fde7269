/- The walk of FnKeyRecordApart. (Printed by gen_rlaws.py.) -/
import Derived.Test.YtcefcdmonfenoaaDoorWRl
import Derived.Deep.RegionHeld3
import Derived.Deep.DrawnRows
namespace Go.Proofs.YtcefcdmonfenoaaDoor
open Go.RowKit
set_option maxRecDepth 100000
attribute [local go_sem ↓] Go.wp_at_zero Go.wp_at_succ
section
variable {w : World} {v0 v1 v2 v3 : Value}

theorem twoThree {W : World} {g g' : Nat} {t t' : TypeId} {a b c a' b' c' : Value} (h : Blk W g t #[a, b, c]) (k : Blk W g' t' #[a', b', c']) :
    W.cell? ⟨g, 0, none⟩ = some a ∧ W.cell? ⟨g, 1, none⟩ = some b ∧ W.cell? ⟨g, 2, none⟩ = some c ∧ W.cell? ⟨g', 0, none⟩ = some a' ∧ W.cell? ⟨g', 1, none⟩ = some b' ∧ W.cell? ⟨g', 2, none⟩ = some c' :=
  ⟨h.cell 0, h.cell 1, h.cell 2, k.cell 0, k.cell 1, k.cell 2⟩
set_option maxHeartbeats 2000000 in
theorem walk_FnKeyRecordApart {rR sR : RV} (f0 : RecIn w v0 rR) (f1 : RecIn w v1 sR) (he : HasErr w 4 ∧ HasErr w 5 ∧ HasErr w 6 ∧ HasErr w 7 ∧ HasErr w 8 ∧ HasErr w 9 ∧ HasErr w 0) :
    Calls Tryd.prog 8 #[v0, v1] w fun e w' => Yes w e w' := by
  have He := Lib.hid (rErr_of he)
  clear he
  obtain ⟨hv, rh64⟩ := f0
  obtain ⟨rA1, rn1, rc1, rA2, rn2, rc2, rfl, z1, z2⟩ := hv.form
  have X_rv := Lib.hid hv
  have rH64 := Lib.hid rh64
  obtain ⟨rsq, hrsq⟩ : ∃ q, q = (rR.seq : Int) := ⟨_, rfl⟩
  rw [← hrsq] at X_rv ⊢
  clear hv z1 z2 rh64 hrsq
  obtain ⟨hv, sh64⟩ := f1
  obtain ⟨sA1, sn1, sc1, sA2, sn2, sc2, rfl, z1, z2⟩ := hv.form
  have X_sv := Lib.hid hv
  have sH64 := Lib.hid sh64
  obtain ⟨ssq, hssq⟩ : ∃ q, q = (sR.seq : Int) := ⟨_, rfl⟩
  rw [← hssq] at X_sv ⊢
  clear hv z1 z2 sh64 hssq

  have B := Lib.hid (below_refl w)
  go_enter Tryd.func8, Tryd.ntmps8
  go_wp2_with fail
  have hb := below_alloc w (.cells #[.slice rA1 rn1 rc1, .int .u64 rsq, .slice rA2 rn2 rc2] 49)
  have b_r := Lib.hid (Blk.new w 49 #[.slice rA1 rn1 rc1, .int .u64 rsq, .slice rA2 rn2 rc2])
  replace X_rv := Lib.hid (X_rv.out.step hb)
  replace X_sv := Lib.hid (X_sv.out.step hb)
  replace B := Lib.hid (below_trans B.out hb)
  clear hb
  have hb := below_alloc (w.alloc (.cells #[.slice rA1 rn1 rc1, .int .u64 rsq, .slice rA2 rn2 rc2] 49)) (.cells #[.slice sA1 sn1 sc1, .int .u64 ssq, .slice sA2 sn2 sc2] 49)
  have b_s := Lib.hid (Blk.new (w.alloc (.cells #[.slice rA1 rn1 rc1, .int .u64 rsq, .slice rA2 rn2 rc2] 49)) 49 #[.slice sA1 sn1 sc1, .int .u64 ssq, .slice sA2 sn2 sc2])
  replace X_rv := Lib.hid (X_rv.out.step hb)
  replace X_sv := Lib.hid (X_sv.out.step hb)
  replace b_r := Lib.hid (b_r.out.step hb)
  replace B := Lib.hid (below_trans B.out hb)
  clear hb
  have hz : (w.alloc (.cells #[.slice rA1 rn1 rc1, .int .u64 rsq, .slice rA2 rn2 rc2] 49)).heap.size = w.heap.size + 1 := by simp
  rw [hz] at b_s
  clear hz
  obtain ⟨g_r, hg_r⟩ : ∃ g, g = w.heap.size := ⟨_, rfl⟩
  rw [← hg_r] at b_r b_s ⊢
  obtain ⟨g_s, hg_s⟩ : ∃ g, g = g_r + 1 := ⟨_, rfl⟩
  rw [← hg_s] at b_s ⊢
  have hrs : g_r ≠ g_s := by omega
  clear hg_r hg_s
  generalize hw1 : (w.alloc (.cells #[.slice rA1 rn1 rc1, .int .u64 rsq, .slice rA2 rn2 rc2] 49)).alloc (.cells #[.slice sA1 sn1 sc1, .int .u64 ssq, .slice sA2 sn2 sc2] 49) = w1 at *
  clear hw1
  by_cases hs : rR.fits31
  rotate_left
  · refine (zzFits13 X_rv.out).mono ?_
    rintro e wn ⟨hans, hb⟩
    obtain rfl := hans.no hs
    clear hans
    go_wp2_with fail
    go_ret
    exact ⟨rfl, below_trans B.out hb⟩
  refine (zzFits13 X_rv.out).mono ?_
  rintro e w2 ⟨hans, hb⟩
  obtain rfl := hans.yes hs
  clear hans
  replace X_rv := Lib.hid (X_rv.out.step hb)
  replace X_sv := Lib.hid (X_sv.out.step hb)
  replace b_r := Lib.hid (b_r.out.step hb)
  replace b_s := Lib.hid (b_s.out.step hb)
  replace B := Lib.hid (below_trans B.out hb)
  clear hb
  clear hs
  have b_r_0 := b_r.out.cell 0
  have b_r_1 := b_r.out.cell 1
  have b_r_2 := b_r.out.cell 2
  simp only [List.getElem?_toArray, List.getElem?_cons_zero, List.getElem?_cons_succ] at b_r_0 b_r_1 b_r_2
  have b_r_f0 := b_r.out.free 0
  have b_r_f1 := b_r.out.free 1
  have b_r_f2 := b_r.out.free 2
  have b_s_0 := b_s.out.cell 0
  have b_s_1 := b_s.out.cell 1
  have b_s_2 := b_s.out.cell 2
  simp only [List.getElem?_toArray, List.getElem?_cons_zero, List.getElem?_cons_succ] at b_s_0 b_s_1 b_s_2
  have b_s_f0 := b_s.out.free 0
  have b_s_f1 := b_s.out.free 1
  have b_s_f2 := b_s.out.free 2
  go_wp2_with fail
  clear b_r_0 b_r_f0 b_r_1 b_r_f1 b_r_2 b_r_f2
  clear b_s_0 b_s_f0 b_s_1 b_s_f1 b_s_2 b_s_f2
  by_cases hs : sR.fits31
  rotate_left
  · refine (zzFits13 X_sv.out).mono ?_
    rintro e wn ⟨hans, hb⟩
    obtain rfl := hans.no hs
    clear hans
    go_wp2_with fail
    go_ret
    exact ⟨rfl, below_trans B.out hb⟩
  refine (zzFits13 X_sv.out).mono ?_
  rintro e w3 ⟨hans, hb⟩
  obtain rfl := hans.yes hs
  clear hans
  replace X_rv := Lib.hid (X_rv.out.step hb)
  replace X_sv := Lib.hid (X_sv.out.step hb)
  replace b_r := Lib.hid (b_r.out.step hb)
  replace b_s := Lib.hid (b_s.out.step hb)
  replace B := Lib.hid (below_trans B.out hb)
  clear hb
  clear hs
  have b_r_0 := b_r.out.cell 0
  have b_r_1 := b_r.out.cell 1
  have b_r_2 := b_r.out.cell 2
  simp only [List.getElem?_toArray, List.getElem?_cons_zero, List.getElem?_cons_succ] at b_r_0 b_r_1 b_r_2
  have b_r_f0 := b_r.out.free 0
  have b_r_f1 := b_r.out.free 1
  have b_r_f2 := b_r.out.free 2
  have b_s_0 := b_s.out.cell 0
  have b_s_1 := b_s.out.cell 1
  have b_s_2 := b_s.out.cell 2
  simp only [List.getElem?_toArray, List.getElem?_cons_zero, List.getElem?_cons_succ] at b_s_0 b_s_1 b_s_2
  have b_s_f0 := b_s.out.free 0
  have b_s_f1 := b_s.out.free 1
  have b_s_f2 := b_s.out.free 2
  go_wp2_with fail
  clear b_r_0 b_r_f0 b_r_1 b_r_f1 b_r_2 b_r_f2
  clear b_s_0 b_s_f0 b_s_1 b_s_f1 b_s_2 b_s_f2
  by_cases hs : rR.fits
  rotate_left
  · refine (recordFits X_rv.out).mono ?_
    rintro e wn ⟨hans, hb⟩
    obtain rfl := hans.no hs
    clear hans
    replace B := Lib.hid (below_trans B.out hb)
    go_wp2_with fail
    refine (recordsLive (He.out.step B.out)).mono ?_
    rintro e wm ⟨rfl, hb⟩
    go_wp2_with fail
    go_ret
    exact ⟨rfl, below_trans B.out hb⟩
  refine (recordFits X_rv.out).mono ?_
  rintro e w4 ⟨hans, hb⟩
  obtain rfl := hans.yes hs
  clear hans
  replace X_rv := Lib.hid (X_rv.out.step hb)
  replace X_sv := Lib.hid (X_sv.out.step hb)
  replace b_r := Lib.hid (b_r.out.step hb)
  replace b_s := Lib.hid (b_s.out.step hb)
  replace B := Lib.hid (below_trans B.out hb)
  clear hb
  have Hsr := Lib.hid (hs.small rH64.out)
  have Hlr := Lib.hid (recEnc_len hs rH64.out)
  have Hfr := Lib.hid hs
  clear hs
  have b_r_0 := b_r.out.cell 0
  have b_r_1 := b_r.out.cell 1
  have b_r_2 := b_r.out.cell 2
  simp only [List.getElem?_toArray, List.getElem?_cons_zero, List.getElem?_cons_succ] at b_r_0 b_r_1 b_r_2
  have b_r_f0 := b_r.out.free 0
  have b_r_f1 := b_r.out.free 1
  have b_r_f2 := b_r.out.free 2
  have b_s_0 := b_s.out.cell 0
  have b_s_1 := b_s.out.cell 1
  have b_s_2 := b_s.out.cell 2
  simp only [List.getElem?_toArray, List.getElem?_cons_zero, List.getElem?_cons_succ] at b_s_0 b_s_1 b_s_2
  have b_s_f0 := b_s.out.free 0
  have b_s_f1 := b_s.out.free 1
  have b_s_f2 := b_s.out.free 2
  go_wp2_with fail
  clear b_r_0 b_r_f0 b_r_1 b_r_f1 b_r_2 b_r_f2
  clear b_s_0 b_s_f0 b_s_1 b_s_f1 b_s_2 b_s_f2
  by_cases hs : sR.fits
  rotate_left
  · refine (recordFits X_sv.out).mono ?_
    rintro e wn ⟨hans, hb⟩
    obtain rfl := hans.no hs
    clear hans
    replace B := Lib.hid (below_trans B.out hb)
    go_wp2_with fail
    refine (recordsLive (He.out.step B.out)).mono ?_
    rintro e wm ⟨rfl, hb⟩
    go_wp2_with fail
    go_ret
    exact ⟨rfl, below_trans B.out hb⟩
  refine (recordFits X_sv.out).mono ?_
  rintro e w5 ⟨hans, hb⟩
  obtain rfl := hans.yes hs
  clear hans
  replace X_rv := Lib.hid (X_rv.out.step hb)
  replace X_sv := Lib.hid (X_sv.out.step hb)
  replace b_r := Lib.hid (b_r.out.step hb)
  replace b_s := Lib.hid (b_s.out.step hb)
  replace B := Lib.hid (below_trans B.out hb)
  clear hb
  have Hss := Lib.hid (hs.small sH64.out)
  have Hls := Lib.hid (recEnc_len hs sH64.out)
  have Hfs := Lib.hid hs
  clear hs
  have b_r_0 := b_r.out.cell 0
  have b_r_1 := b_r.out.cell 1
  have b_r_2 := b_r.out.cell 2
  simp only [List.getElem?_toArray, List.getElem?_cons_zero, List.getElem?_cons_succ] at b_r_0 b_r_1 b_r_2
  have b_r_f0 := b_r.out.free 0
  have b_r_f1 := b_r.out.free 1
  have b_r_f2 := b_r.out.free 2
  have b_s_0 := b_s.out.cell 0
  have b_s_1 := b_s.out.cell 1
  have b_s_2 := b_s.out.cell 2
  simp only [List.getElem?_toArray, List.getElem?_cons_zero, List.getElem?_cons_succ] at b_s_0 b_s_1 b_s_2
  have b_s_f0 := b_s.out.free 0
  have b_s_f1 := b_s.out.free 1
  have b_s_f2 := b_s.out.free 2
  go_wp2_with fail
  clear b_r_0 b_r_f0 b_r_1 b_r_f1 b_r_2 b_r_f2
  clear b_s_0 b_s_f0 b_s_1 b_s_f1 b_s_2 b_s_f2
  refine (recordBytes X_rv.out Hsr.out).mono ?_
  rintro e w6 ⟨a, rfl, ho, hb⟩
  have X_a := Lib.hid ho.bs
  replace X_rv := Lib.hid (X_rv.out.step hb)
  replace X_sv := Lib.hid (X_sv.out.step hb)
  replace b_r := Lib.hid (b_r.out.step hb)
  replace b_s := Lib.hid (b_s.out.step hb)
  replace B := Lib.hid (below_trans B.out hb)
  clear hb ho
  obtain ⟨A_a, n_a, c_a, rfl⟩ := hid_exists_bs X_a.out
  have b_r_0 := b_r.out.cell 0
  have b_r_1 := b_r.out.cell 1
  have b_r_2 := b_r.out.cell 2
  simp only [List.getElem?_toArray, List.getElem?_cons_zero, List.getElem?_cons_succ] at b_r_0 b_r_1 b_r_2
  have b_r_f0 := b_r.out.free 0
  have b_r_f1 := b_r.out.free 1
  have b_r_f2 := b_r.out.free 2
  have b_s_0 := b_s.out.cell 0
  have b_s_1 := b_s.out.cell 1
  have b_s_2 := b_s.out.cell 2
  simp only [List.getElem?_toArray, List.getElem?_cons_zero, List.getElem?_cons_succ] at b_s_0 b_s_1 b_s_2
  have b_s_f0 := b_s.out.free 0
  have b_s_f1 := b_s.out.free 1
  have b_s_f2 := b_s.out.free 2
  go_wp2_with fail
  clear b_r_0 b_r_f0 b_r_1 b_r_f1 b_r_2 b_r_f2
  clear b_s_0 b_s_f0 b_s_1 b_s_f1 b_s_2 b_s_f2
  refine (recordBytes X_sv.out Hss.out).mono ?_
  rintro e w7 ⟨b, rfl, ho, hb⟩
  have X_b := Lib.hid ho.bs
  replace X_rv := Lib.hid (X_rv.out.step hb)
  replace X_sv := Lib.hid (X_sv.out.step hb)
  replace b_r := Lib.hid (b_r.out.step hb)
  replace b_s := Lib.hid (b_s.out.step hb)
  replace X_a := Lib.hid (X_a.out.step hb)
  replace B := Lib.hid (below_trans B.out hb)
  clear hb ho
  obtain ⟨A_b, n_b, c_b, rfl⟩ := hid_exists_bs X_b.out
  have b_r_0 := b_r.out.cell 0
  have b_r_1 := b_r.out.cell 1
  have b_r_2 := b_r.out.cell 2
  simp only [List.getElem?_toArray, List.getElem?_cons_zero, List.getElem?_cons_succ] at b_r_0 b_r_1 b_r_2
  have b_r_f0 := b_r.out.free 0
  have b_r_f1 := b_r.out.free 1
  have b_r_f2 := b_r.out.free 2
  have b_s_0 := b_s.out.cell 0
  have b_s_1 := b_s.out.cell 1
  have b_s_2 := b_s.out.cell 2
  simp only [List.getElem?_toArray, List.getElem?_cons_zero, List.getElem?_cons_succ] at b_s_0 b_s_1 b_s_2
  have b_s_f0 := b_s.out.free 0
  have b_s_f1 := b_s.out.free 1
  have b_s_f2 := b_s.out.free 2
  go_wp2_with fail
  clear b_r_0 b_r_f0 b_r_1 b_r_f1 b_r_2 b_r_f2
  clear b_s_0 b_s_f0 b_s_1 b_s_f1 b_s_2 b_s_f2
  by_cases hsame : rR = sR
  · have HQ := Lib.hid (show ∀ W, Below w7.heap.size w7 W → Calls Tryd.prog 28 #[.slice A_a n_a c_a, .slice A_b n_b c_b] W fun e w' => e = .returned (.bool true) ∧ W = w' from fun W hW => by
      have X_a := X_a.out.step hW
      have X_b := X_b.out.step hW
      exact eqTrue X_a X_b (congrArg recEnc hsame))
    have HS := Lib.hid (show ∀ W, Below w7.heap.size w7 W → Calls Tryd.prog 40 #[.agg #[.slice rA1 rn1 rc1, .int .u64 rsq, .slice rA2 rn2 rc2], .agg #[.slice sA1 sn1 sc1, .int .u64 ssq, .slice sA2 sn2 sc2]] W fun e w' => e = .returned (.bool true) ∧ Below W.heap.size W w' from fun W hW =>
      (sameRecord (X_rv.out.step hW) (X_sv.out.step hW)).mono fun _ _ ⟨h, hb⟩ => ⟨h.yes hsame, hb⟩)
    have b_R' := Lib.hid b_r.out.drew
    have b_S' := Lib.hid b_s.out.drew
    clear hsame
    go_region_held3 (fun W => W.cell? ⟨g_r, 0, none⟩ = some (.slice rA1 rn1 rc1) ∧ W.cell? ⟨g_r, 1, none⟩ = some (.int .u64 rsq) ∧ W.cell? ⟨g_r, 2, none⟩ = some (.slice rA2 rn2 rc2) ∧ W.cell? ⟨g_s, 0, none⟩ = some (.slice sA1 sn1 sc1) ∧ W.cell? ⟨g_s, 1, none⟩ = some (.int .u64 ssq) ∧ W.cell? ⟨g_s, 2, none⟩ = some (.slice sA2 sn2 sc2)) (with_reducible first | exact twoThree b_R'.out b_S'.out | exact twoThree b_R2.out b_S2.out | exact twoThree b_R3.out b_S3.out) (first
      | (go_at_call 28; (with_reducible refine (HQ.out _ (below_drew w7)).mono ?_); rintro e W_ ⟨rfl, rfl⟩)
      | (go_at_call 40; (with_reducible refine (HS.out _ (below_drew w7)).mono ?_); rintro e w12 ⟨rfl, hb⟩; replace hb := below_trans (below_drew w7) hb; have B12 := Lib.hid hb; have b_R2 := Lib.hid (b_r.out.step hb); have b_S2 := Lib.hid (b_s.out.step hb); clear hb)
      | (go_at_call 38; (with_reducible refine (recordsLive (He.out.step (below_trans B.out B12.out))).mono ?_); rintro e w13 ⟨rfl, hb⟩; have B13 := Lib.hid (below_trans B12.out hb); have b_R3 := Lib.hid (b_R2.out.step hb); have b_S3 := Lib.hid (b_S2.out.step hb); clear hb))
    replace B := Lib.hid (below_trans B.out B13.out)
    clear b_r b_s b_R' b_S' b_R2 b_S2 b_R3 b_S3 HQ HS B12 B13
    go_wp2_with fail
    go_ret
    exact ⟨rfl, B.out⟩
  · have HQ := Lib.hid (show ∀ W, Below w7.heap.size w7 W → Calls Tryd.prog 28 #[.slice A_a n_a c_a, .slice A_b n_b c_b] W fun e w' => e = .returned (.bool false) ∧ W = w' from fun W hW => by
      have X_a := X_a.out.step hW
      have X_b := X_b.out.step hW
      exact eqFalse X_a X_b (fun h => hsame (recEnc_inj Hsr.out.ok Hss.out.ok h)))
    have HS := Lib.hid (show ∀ W, Below w7.heap.size w7 W → Calls Tryd.prog 40 #[.agg #[.slice rA1 rn1 rc1, .int .u64 rsq, .slice rA2 rn2 rc2], .agg #[.slice sA1 sn1 sc1, .int .u64 ssq, .slice sA2 sn2 sc2]] W fun e w' => e = .returned (.bool false) ∧ Below W.heap.size W w' from fun W hW =>
      (sameRecord (X_rv.out.step hW) (X_sv.out.step hW)).mono fun _ _ ⟨h, hb⟩ => ⟨h.no hsame, hb⟩)
    have b_R' := Lib.hid b_r.out.drew
    have b_S' := Lib.hid b_s.out.drew
    clear hsame
    go_region_held3 (fun W => W.cell? ⟨g_r, 0, none⟩ = some (.slice rA1 rn1 rc1) ∧ W.cell? ⟨g_r, 1, none⟩ = some (.int .u64 rsq) ∧ W.cell? ⟨g_r, 2, none⟩ = some (.slice rA2 rn2 rc2) ∧ W.cell? ⟨g_s, 0, none⟩ = some (.slice sA1 sn1 sc1) ∧ W.cell? ⟨g_s, 1, none⟩ = some (.int .u64 ssq) ∧ W.cell? ⟨g_s, 2, none⟩ = some (.slice sA2 sn2 sc2)) (with_reducible first | exact twoThree b_R'.out b_S'.out | exact twoThree b_R2.out b_S2.out | exact twoThree b_R3.out b_S3.out) (first
      | (go_at_call 28; (with_reducible refine (HQ.out _ (below_drew w7)).mono ?_); rintro e W_ ⟨rfl, rfl⟩)
      | (go_at_call 40; (with_reducible refine (HS.out _ (below_drew w7)).mono ?_); rintro e w12 ⟨rfl, hb⟩; replace hb := below_trans (below_drew w7) hb; have B12 := Lib.hid hb; have b_R2 := Lib.hid (b_r.out.step hb); have b_S2 := Lib.hid (b_s.out.step hb); clear hb)
      | (go_at_call 38; (with_reducible refine (recordsLive (He.out.step (below_trans B.out B12.out))).mono ?_); rintro e w13 ⟨rfl, hb⟩; have B13 := Lib.hid (below_trans B12.out hb); have b_R3 := Lib.hid (b_R2.out.step hb); have b_S3 := Lib.hid (b_S2.out.step hb); clear hb))
    replace B := Lib.hid (below_trans B.out B13.out)
    clear b_r b_s b_R' b_S' b_R2 b_S2 b_R3 b_S3 HQ HS B12 B13
    go_wp2_with fail
    go_ret
    exact ⟨rfl, B.out⟩

end
end Go.Proofs.YtcefcdmonfenoaaDoor

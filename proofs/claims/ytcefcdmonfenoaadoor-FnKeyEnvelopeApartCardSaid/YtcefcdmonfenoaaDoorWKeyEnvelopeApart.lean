/- The walk of FnKeyEnvelopeApart. (Printed by gen_elaws.py.) -/
import Derived.Test.YtcefcdmonfenoaaDoorWEl
import Derived.Test.YtcefcdmonfenoaaDoorOpn
import Derived.Test.YtcefcdmonfenoaaDoorWKeyEnvelope
import Derived.Deep.RegionHeld3
import Derived.Deep.DrawnRows
namespace Go.Proofs.YtcefcdmonfenoaaDoor
open Go.RowKit
set_option maxRecDepth 100000
attribute [local go_sem ↓] Go.wp_at_zero Go.wp_at_succ
section
variable {w : World} {v0 v1 v2 v3 : Value}

theorem twoSix {W : World} {g g' : Nat} {t t' : TypeId} {a b c d e f a' b' c' d' e' f' : Value} (h : Blk W g t #[a, b, c, d, e, f]) (k : Blk W g' t' #[a', b', c', d', e', f']) :
    W.cell? ⟨g, 0, none⟩ = some a ∧ W.cell? ⟨g, 1, none⟩ = some b ∧ W.cell? ⟨g, 2, none⟩ = some c ∧ W.cell? ⟨g, 3, none⟩ = some d ∧ W.cell? ⟨g, 4, none⟩ = some e ∧ W.cell? ⟨g, 5, none⟩ = some f ∧
    W.cell? ⟨g', 0, none⟩ = some a' ∧ W.cell? ⟨g', 1, none⟩ = some b' ∧ W.cell? ⟨g', 2, none⟩ = some c' ∧ W.cell? ⟨g', 3, none⟩ = some d' ∧ W.cell? ⟨g', 4, none⟩ = some e' ∧ W.cell? ⟨g', 5, none⟩ = some f' :=
  ⟨h.cell 0, h.cell 1, h.cell 2, h.cell 3, h.cell 4, h.cell 5, k.cell 0, k.cell 1, k.cell 2, k.cell 3, k.cell 4, k.cell 5⟩

set_option maxHeartbeats 2000000 in
theorem walk_FnKeyEnvelopeApart {dE eE : EV} (f0 : EnvIn w v0 dE) (f1 : EnvIn w v1 eE) (he : HasErr w 4 ∧ HasErr w 5 ∧ HasErr w 6 ∧ HasErr w 7 ∧ HasErr w 8 ∧ HasErr w 9 ∧ HasErr w 3 ∧ HasErr w 2 ∧ HasErr w 1) :
    Calls Tryd.prog 15 #[v0, v1] w fun e w' => Yes w e w' := by
  have He := Lib.hid (eErr_of he)
  clear he
  obtain ⟨hv, dk1, dk2⟩ := f0
  have dHok := Lib.hid (fun h => EV.plain_ok (E := dE) h dk1 dk2)
  obtain ⟨dP, hP⟩ : ∃ P, P = dE.plain := ⟨_, rfl⟩
  have dHP := Lib.hid hP
  clear hP
  obtain ⟨dhas, dkind, dkey, dty, dpay, dsig⟩ := dE
  obtain ⟨dA1, dn1, dc1, dA2, dn2, dc2, dA3, dn3, dc3, dA4, dn4, dc4, rfl, z1, z2, z3, z4⟩ := EnvVal.form hv
  have X_dv := Lib.hid (EnvVal.mk' (has := dhas) (kind := dkind) z1 z2 z3 z4)
  clear hv z1 z2 z3 z4 dk1 dk2
  obtain ⟨hv, ek1, ek2⟩ := f1
  have eHok := Lib.hid (fun h => EV.plain_ok (E := eE) h ek1 ek2)
  obtain ⟨eP, hP⟩ : ∃ P, P = eE.plain := ⟨_, rfl⟩
  have eHP := Lib.hid hP
  clear hP
  obtain ⟨ehas, ekind, ekey, ety, epay, esig⟩ := eE
  obtain ⟨eA1, en1, ec1, eA2, en2, ec2, eA3, en3, ec3, eA4, en4, ec4, rfl, z1, z2, z3, z4⟩ := EnvVal.form hv
  have X_ev := Lib.hid (EnvVal.mk' (has := ehas) (kind := ekind) z1 z2 z3 z4)
  clear hv z1 z2 z3 z4 ek1 ek2

  have B := Lib.hid (below_refl w)
  go_enter Tryd.func15, Tryd.ntmps15
  go_wp2_with fail
  have hb := below_alloc w (.cells #[.bool dhas, .int .i32 dkind, .slice dA1 dn1 dc1, .slice dA2 dn2 dc2, .slice dA3 dn3 dc3, .slice dA4 dn4 dc4] 64)
  have b_d := Lib.hid (Blk.new w 64 #[.bool dhas, .int .i32 dkind, .slice dA1 dn1 dc1, .slice dA2 dn2 dc2, .slice dA3 dn3 dc3, .slice dA4 dn4 dc4])
  replace X_dv := Lib.hid (X_dv.out.step hb)
  replace X_ev := Lib.hid (X_ev.out.step hb)
  replace B := Lib.hid (below_trans B.out hb)
  clear hb
  have hb := below_alloc (w.alloc (.cells #[.bool dhas, .int .i32 dkind, .slice dA1 dn1 dc1, .slice dA2 dn2 dc2, .slice dA3 dn3 dc3, .slice dA4 dn4 dc4] 64)) (.cells #[.bool ehas, .int .i32 ekind, .slice eA1 en1 ec1, .slice eA2 en2 ec2, .slice eA3 en3 ec3, .slice eA4 en4 ec4] 64)
  have b_e := Lib.hid (Blk.new (w.alloc (.cells #[.bool dhas, .int .i32 dkind, .slice dA1 dn1 dc1, .slice dA2 dn2 dc2, .slice dA3 dn3 dc3, .slice dA4 dn4 dc4] 64)) 64 #[.bool ehas, .int .i32 ekind, .slice eA1 en1 ec1, .slice eA2 en2 ec2, .slice eA3 en3 ec3, .slice eA4 en4 ec4])
  replace X_dv := Lib.hid (X_dv.out.step hb)
  replace X_ev := Lib.hid (X_ev.out.step hb)
  replace b_d := Lib.hid (b_d.out.step hb)
  replace B := Lib.hid (below_trans B.out hb)
  clear hb
  have hz : (w.alloc (.cells #[.bool dhas, .int .i32 dkind, .slice dA1 dn1 dc1, .slice dA2 dn2 dc2, .slice dA3 dn3 dc3, .slice dA4 dn4 dc4] 64)).heap.size = w.heap.size + 1 := by simp
  rw [hz] at b_e
  clear hz
  obtain ⟨g_d, hg_d⟩ : ∃ g, g = w.heap.size := ⟨_, rfl⟩
  rw [← hg_d] at b_d b_e ⊢
  obtain ⟨g_e, hg_e⟩ : ∃ g, g = g_d + 1 := ⟨_, rfl⟩
  rw [← hg_e] at b_e ⊢
  have Hdg := Lib.hid (show w.heap.size ≤ g_d by omega)
  have Heg := Lib.hid (show w.heap.size ≤ g_e by omega)
  have hde : g_d ≠ g_e := by omega
  clear hg_d hg_e
  generalize hw1 : (w.alloc (.cells #[.bool dhas, .int .i32 dkind, .slice dA1 dn1 dc1, .slice dA2 dn2 dc2, .slice dA3 dn3 dc3, .slice dA4 dn4 dc4] 64)).alloc (.cells #[.bool ehas, .int .i32 ekind, .slice eA1 en1 ec1, .slice eA2 en2 ec2, .slice eA3 en3 ec3, .slice eA4 en4 ec4] 64) = w1 at *
  clear hw1
  by_cases hs : EV.fits31 ⟨dhas, dkind, dkey, dty, dpay, dsig⟩
  rotate_left
  · refine (zzFits14_no X_dv.out hs).mono ?_
    rintro e w2 ⟨rfl, hb⟩
    go_wp2_with fail
    go_ret
    exact ⟨rfl, below_trans B.out hb⟩
  refine (zzFits14_yes X_dv.out hs).mono ?_
  rintro e w2 ⟨rfl, hb⟩
  replace X_dv := Lib.hid (X_dv.out.step hb)
  replace X_ev := Lib.hid (X_ev.out.step hb)
  replace b_d := Lib.hid (b_d.out.step hb)
  replace b_e := Lib.hid (b_e.out.step hb)
  replace B := Lib.hid (below_trans B.out hb)
  clear hb
  clear hs
  have b_d_0 := b_d.out.cell 0
  have b_d_1 := b_d.out.cell 1
  have b_d_2 := b_d.out.cell 2
  have b_d_3 := b_d.out.cell 3
  have b_d_4 := b_d.out.cell 4
  have b_d_5 := b_d.out.cell 5
  simp only [List.getElem?_toArray, List.getElem?_cons_zero, List.getElem?_cons_succ] at b_d_0 b_d_1 b_d_2 b_d_3 b_d_4 b_d_5
  have b_d_f0 := b_d.out.free 0
  have b_d_f1 := b_d.out.free 1
  have b_d_f2 := b_d.out.free 2
  have b_d_f3 := b_d.out.free 3
  have b_d_f4 := b_d.out.free 4
  have b_d_f5 := b_d.out.free 5
  have b_e_0 := b_e.out.cell 0
  have b_e_1 := b_e.out.cell 1
  have b_e_2 := b_e.out.cell 2
  have b_e_3 := b_e.out.cell 3
  have b_e_4 := b_e.out.cell 4
  have b_e_5 := b_e.out.cell 5
  simp only [List.getElem?_toArray, List.getElem?_cons_zero, List.getElem?_cons_succ] at b_e_0 b_e_1 b_e_2 b_e_3 b_e_4 b_e_5
  have b_e_f0 := b_e.out.free 0
  have b_e_f1 := b_e.out.free 1
  have b_e_f2 := b_e.out.free 2
  have b_e_f3 := b_e.out.free 3
  have b_e_f4 := b_e.out.free 4
  have b_e_f5 := b_e.out.free 5
  go_wp2_with fail
  clear b_d_0 b_d_f0 b_d_1 b_d_f1 b_d_2 b_d_f2 b_d_3 b_d_f3 b_d_4 b_d_f4 b_d_5 b_d_f5
  clear b_e_0 b_e_f0 b_e_1 b_e_f1 b_e_2 b_e_f2 b_e_3 b_e_f3 b_e_4 b_e_f4 b_e_5 b_e_f5
  by_cases hs : EV.fits31 ⟨ehas, ekind, ekey, ety, epay, esig⟩
  rotate_left
  · refine (zzFits14_no X_ev.out hs).mono ?_
    rintro e w3 ⟨rfl, hb⟩
    go_wp2_with fail
    go_ret
    exact ⟨rfl, below_trans B.out hb⟩
  refine (zzFits14_yes X_ev.out hs).mono ?_
  rintro e w3 ⟨rfl, hb⟩
  replace X_dv := Lib.hid (X_dv.out.step hb)
  replace X_ev := Lib.hid (X_ev.out.step hb)
  replace b_d := Lib.hid (b_d.out.step hb)
  replace b_e := Lib.hid (b_e.out.step hb)
  replace B := Lib.hid (below_trans B.out hb)
  clear hb
  clear hs
  have b_d_0 := b_d.out.cell 0
  have b_d_1 := b_d.out.cell 1
  have b_d_2 := b_d.out.cell 2
  have b_d_3 := b_d.out.cell 3
  have b_d_4 := b_d.out.cell 4
  have b_d_5 := b_d.out.cell 5
  simp only [List.getElem?_toArray, List.getElem?_cons_zero, List.getElem?_cons_succ] at b_d_0 b_d_1 b_d_2 b_d_3 b_d_4 b_d_5
  have b_d_f0 := b_d.out.free 0
  have b_d_f1 := b_d.out.free 1
  have b_d_f2 := b_d.out.free 2
  have b_d_f3 := b_d.out.free 3
  have b_d_f4 := b_d.out.free 4
  have b_d_f5 := b_d.out.free 5
  have b_e_0 := b_e.out.cell 0
  have b_e_1 := b_e.out.cell 1
  have b_e_2 := b_e.out.cell 2
  have b_e_3 := b_e.out.cell 3
  have b_e_4 := b_e.out.cell 4
  have b_e_5 := b_e.out.cell 5
  simp only [List.getElem?_toArray, List.getElem?_cons_zero, List.getElem?_cons_succ] at b_e_0 b_e_1 b_e_2 b_e_3 b_e_4 b_e_5
  have b_e_f0 := b_e.out.free 0
  have b_e_f1 := b_e.out.free 1
  have b_e_f2 := b_e.out.free 2
  have b_e_f3 := b_e.out.free 3
  have b_e_f4 := b_e.out.free 4
  have b_e_f5 := b_e.out.free 5
  go_wp2_with fail
  clear b_d_0 b_d_f0 b_d_1 b_d_f1 b_d_2 b_d_f2 b_d_3 b_d_f3 b_d_4 b_d_f4 b_d_5 b_d_f5
  clear b_e_0 b_e_f0 b_e_1 b_e_f1 b_e_2 b_e_f2 b_e_3 b_e_f3 b_e_4 b_e_f4 b_e_5 b_e_f5
  have HD := Lib.hid (show ∀ W, Below w3.heap.size w3 W → Calls Tryd.prog 50 #[.agg #[.bool dhas, .int .i32 dkind, .slice dA1 dn1 dc1, .slice dA2 dn2 dc2, .slice dA3 dn3 dc3, .slice dA4 dn4 dc4]] W fun e w' => EnvAns W dP e w' from fun W hW => by
    have := envelopePlain (X_dv.out.step hW)
    rw [← dHP.out] at this
    exact this)
  have HE := Lib.hid (show ∀ W, Below w3.heap.size w3 W → Calls Tryd.prog 50 #[.agg #[.bool ehas, .int .i32 ekind, .slice eA1 en1 ec1, .slice eA2 en2 ec2, .slice eA3 en3 ec3, .slice eA4 en4 ec4]] W fun e w' => EnvAns W eP e w' from fun W hW => by
    have := envelopePlain (X_ev.out.step hW)
    rw [← eHP.out] at this
    exact this)
  have d_0 := b_d.out.cell 0
  have d_1 := b_d.out.cell 1
  have d_2 := b_d.out.cell 2
  have d_3 := b_d.out.cell 3
  have d_4 := b_d.out.cell 4
  have d_5 := b_d.out.cell 5
  have e_0 := b_e.out.cell 0
  have e_1 := b_e.out.cell 1
  have e_2 := b_e.out.cell 2
  have e_3 := b_e.out.cell 3
  have e_4 := b_e.out.cell 4
  have e_5 := b_e.out.cell 5
  simp only [List.getElem?_toArray, List.getElem?_cons_zero, List.getElem?_cons_succ] at d_0 d_1 d_2 d_3 d_4 d_5 e_0 e_1 e_2 e_3 e_4 e_5
  go_region_with (first
    | (go_at_call 50; (with_reducible refine (HD.out _ (below_drew w3)).mono ?_); rintro e w4 ⟨vd, rfl, hv, hb⟩; replace hb := below_trans (below_drew w3) hb; obtain ⟨dphas, dpkind, dpkey, dpty, dppay, dpsig⟩ := dP; obtain ⟨dpA1, dpn1, dpc1, dpA2, dpn2, dpc2, dpA3, dpn3, dpc3, dpA4, dpn4, dpc4, rfl, z1, z2, z3, z4⟩ := EnvVal.form hv; have X_dp := Lib.hid (EnvVal.mk' (has := dphas) (kind := dpkind) z1 z2 z3 z4); have B4 := Lib.hid hb; have q0 := (b_e.out.step hb).cell 0; have q1 := (b_e.out.step hb).cell 1; have q2 := (b_e.out.step hb).cell 2; have q3 := (b_e.out.step hb).cell 3; have q4 := (b_e.out.step hb).cell 4; have q5 := (b_e.out.step hb).cell 5; simp only [List.getElem?_toArray, List.getElem?_cons_zero, List.getElem?_cons_succ] at q0 q1 q2 q3 q4 q5; clear hv hb z1 z2 z3 z4)
    | (go_at_call 50; (with_reducible refine (HE.out _ B4.out).mono ?_); rintro e w5 ⟨ve, rfl, hv, hb⟩; obtain ⟨ephas, epkind, epkey, epty, eppay, epsig⟩ := eP; obtain ⟨epA1, epn1, epc1, epA2, epn2, epc2, epA3, epn3, epc3, epA4, epn4, epc4, rfl, z1, z2, z3, z4⟩ := EnvVal.form hv; replace X_dp := Lib.hid (X_dp.out.step hb); have X_ep := Lib.hid (EnvVal.mk' (has := ephas) (kind := epkind) z1 z2 z3 z4); have B5 := Lib.hid (below_trans B4.out hb); have b_d5 := Lib.hid (b_d.out.step B5.out); have b_e5 := Lib.hid (b_e.out.step B5.out); have p0 := b_d5.out.cell 0; have p1 := b_d5.out.cell 1; have p2 := b_d5.out.cell 2; have p3 := b_d5.out.cell 3; have p4 := b_d5.out.cell 4; have p5 := b_d5.out.cell 5; have r0 := b_e5.out.cell 0; have r1 := b_e5.out.cell 1; have r2 := b_e5.out.cell 2; have r3 := b_e5.out.cell 3; have r4 := b_e5.out.cell 4; have r5 := b_e5.out.cell 5; simp only [List.getElem?_toArray, List.getElem?_cons_zero, List.getElem?_cons_succ] at p0 p1 p2 p3 p4 p5 r0 r1 r2 r3 r4 r5; have m0 := b_d5.out.free 0; have m1 := b_d5.out.free 1; have m2 := b_d5.out.free 2; have m3 := b_d5.out.free 3; have m4 := b_d5.out.free 4; have m5 := b_d5.out.free 5; have n0 := b_e5.out.free 0; have n1 := b_e5.out.free 1; have n2 := b_e5.out.free 2; have n3 := b_e5.out.free 3; have n4 := b_e5.out.free 4; have n5 := b_e5.out.free 5; clear hv hb z1 z2 z3 z4))
  all_goals
    obtain ⟨w6, h1, ba, ga⟩ := storeSix b_d5.out (.bool dphas) (.int .i32 dpkind) (.slice dpA1 dpn1 dpc1) (.slice dpA2 dpn2 dpc2) (.slice dpA3 dpn3 dpc3) (.slice dpA4 dpn4 dpc4)
    have be1 := b_e5.out.grown ga (fun e => by injection e with e; omega)
    obtain ⟨w7, h2, bb, gb⟩ := storeSix be1 (.bool ephas) (.int .i32 epkind) (.slice epA1 epn1 epc1) (.slice epA2 epn2 epc2) (.slice epA3 epn3 epc3) (.slice epA4 epn4 epc4)
    rw [h1.out, h2.out]
    replace B := Lib.hid (below_grown (below_grown (below_trans B.out B5.out) ga (fun g e => by injection e with e; have := Hdg.out; omega)) gb (fun g e => by injection e with e; have := Heg.out; omega))
    replace X_dp := Lib.hid ((X_dp.out.keepBlk8 b_d5.out (noByte_env _ _ _ _ _ _ _ _ _ _ _ _ _ _) ga).keepBlk8 be1 (noByte_env _ _ _ _ _ _ _ _ _ _ _ _ _ _) gb)
    replace X_ep := Lib.hid ((X_ep.out.keepBlk8 b_d5.out (noByte_env _ _ _ _ _ _ _ _ _ _ _ _ _ _) ga).keepBlk8 be1 (noByte_env _ _ _ _ _ _ _ _ _ _ _ _ _ _) gb)
    have b_D := Lib.hid (ba.grown gb (fun e => by injection e with e; omega))
    have b_E := Lib.hid bb
    clear h1 h2 ba be1 ga bb gb d_0 d_1 d_2 d_3 d_4 d_5 e_0 e_1 e_2 e_3 e_4 e_5 q0 q1 q2 q3 q4 q5 p0 p1 p2 p3 p4 p5 r0 r1 r2 r3 r4 r5 m0 m1 m2 m3 m4 m5 n0 n1 n2 n3 n4 n5 b_d b_e b_d5 b_e5 B4 B5 HD HE X_dv X_ev
    have b_D_0 := b_D.out.cell 0
    have b_D_1 := b_D.out.cell 1
    have b_D_2 := b_D.out.cell 2
    have b_D_3 := b_D.out.cell 3
    have b_D_4 := b_D.out.cell 4
    have b_D_5 := b_D.out.cell 5
    simp only [List.getElem?_toArray, List.getElem?_cons_zero, List.getElem?_cons_succ] at b_D_0 b_D_1 b_D_2 b_D_3 b_D_4 b_D_5
    have b_D_f0 := b_D.out.free 0
    have b_D_f1 := b_D.out.free 1
    have b_D_f2 := b_D.out.free 2
    have b_D_f3 := b_D.out.free 3
    have b_D_f4 := b_D.out.free 4
    have b_D_f5 := b_D.out.free 5
    have b_E_0 := b_E.out.cell 0
    have b_E_1 := b_E.out.cell 1
    have b_E_2 := b_E.out.cell 2
    have b_E_3 := b_E.out.cell 3
    have b_E_4 := b_E.out.cell 4
    have b_E_5 := b_E.out.cell 5
    simp only [List.getElem?_toArray, List.getElem?_cons_zero, List.getElem?_cons_succ] at b_E_0 b_E_1 b_E_2 b_E_3 b_E_4 b_E_5
    have b_E_f0 := b_E.out.free 0
    have b_E_f1 := b_E.out.free 1
    have b_E_f2 := b_E.out.free 2
    have b_E_f3 := b_E.out.free 3
    have b_E_f4 := b_E.out.free 4
    have b_E_f5 := b_E.out.free 5
    go_wp2_with fail
    clear b_D_0 b_D_f0 b_D_1 b_D_f1 b_D_2 b_D_f2 b_D_3 b_D_f3 b_D_4 b_D_f4 b_D_5 b_D_f5
    clear b_E_0 b_E_f0 b_E_1 b_E_f1 b_E_2 b_E_f2 b_E_3 b_E_f3 b_E_4 b_E_f4 b_E_5 b_E_f5
    by_cases hsdp : EV.fits ⟨dphas, dpkind, dpkey, dpty, dppay, dpsig⟩
    rotate_left
    · refine (envelopeFits_no X_dp.out hsdp).mono ?_
      rintro e w8 ⟨rfl, hb⟩
      replace B := Lib.hid (below_trans B.out hb)
      go_wp2_with fail
      refine (envelopesLive (He.out.step B.out)).mono ?_
      rintro e w9 ⟨rfl, hb⟩
      go_wp2_with fail
      go_ret
      exact ⟨rfl, below_trans B.out hb⟩
    refine (envelopeFits_yes X_dp.out hsdp).mono ?_
    rintro e w8 ⟨rfl, hb⟩
    replace X_dp := Lib.hid (X_dp.out.step hb)
    replace X_ep := Lib.hid (X_ep.out.step hb)
    replace b_D := Lib.hid (b_D.out.step hb)
    replace b_E := Lib.hid (b_E.out.step hb)
    replace B := Lib.hid (below_trans B.out hb)
    clear hb
    have Okdp := Lib.hid (show EV.ok ⟨dphas, dpkind, dpkey, dpty, dppay, dpsig⟩ by have := dHok.out; rw [← dHP.out] at this; exact this hsdp)
    have Hsdp := Lib.hid hsdp
    clear hsdp
    have b_D_0 := b_D.out.cell 0
    have b_D_1 := b_D.out.cell 1
    have b_D_2 := b_D.out.cell 2
    have b_D_3 := b_D.out.cell 3
    have b_D_4 := b_D.out.cell 4
    have b_D_5 := b_D.out.cell 5
    simp only [List.getElem?_toArray, List.getElem?_cons_zero, List.getElem?_cons_succ] at b_D_0 b_D_1 b_D_2 b_D_3 b_D_4 b_D_5
    have b_D_f0 := b_D.out.free 0
    have b_D_f1 := b_D.out.free 1
    have b_D_f2 := b_D.out.free 2
    have b_D_f3 := b_D.out.free 3
    have b_D_f4 := b_D.out.free 4
    have b_D_f5 := b_D.out.free 5
    have b_E_0 := b_E.out.cell 0
    have b_E_1 := b_E.out.cell 1
    have b_E_2 := b_E.out.cell 2
    have b_E_3 := b_E.out.cell 3
    have b_E_4 := b_E.out.cell 4
    have b_E_5 := b_E.out.cell 5
    simp only [List.getElem?_toArray, List.getElem?_cons_zero, List.getElem?_cons_succ] at b_E_0 b_E_1 b_E_2 b_E_3 b_E_4 b_E_5
    have b_E_f0 := b_E.out.free 0
    have b_E_f1 := b_E.out.free 1
    have b_E_f2 := b_E.out.free 2
    have b_E_f3 := b_E.out.free 3
    have b_E_f4 := b_E.out.free 4
    have b_E_f5 := b_E.out.free 5
    go_wp2_with fail
    clear b_D_0 b_D_f0 b_D_1 b_D_f1 b_D_2 b_D_f2 b_D_3 b_D_f3 b_D_4 b_D_f4 b_D_5 b_D_f5
    clear b_E_0 b_E_f0 b_E_1 b_E_f1 b_E_2 b_E_f2 b_E_3 b_E_f3 b_E_4 b_E_f4 b_E_5 b_E_f5
    by_cases hsep : EV.fits ⟨ephas, epkind, epkey, epty, eppay, epsig⟩
    rotate_left
    · refine (envelopeFits_no X_ep.out hsep).mono ?_
      rintro e w8 ⟨rfl, hb⟩
      replace B := Lib.hid (below_trans B.out hb)
      go_wp2_with fail
      refine (envelopesLive (He.out.step B.out)).mono ?_
      rintro e w9 ⟨rfl, hb⟩
      go_wp2_with fail
      go_ret
      exact ⟨rfl, below_trans B.out hb⟩
    refine (envelopeFits_yes X_ep.out hsep).mono ?_
    rintro e w9 ⟨rfl, hb⟩
    replace X_dp := Lib.hid (X_dp.out.step hb)
    replace X_ep := Lib.hid (X_ep.out.step hb)
    replace b_D := Lib.hid (b_D.out.step hb)
    replace b_E := Lib.hid (b_E.out.step hb)
    replace B := Lib.hid (below_trans B.out hb)
    clear hb
    have Okep := Lib.hid (show EV.ok ⟨ephas, epkind, epkey, epty, eppay, epsig⟩ by have := eHok.out; rw [← eHP.out] at this; exact this hsep)
    have Hsep := Lib.hid hsep
    clear hsep
    have b_D_0 := b_D.out.cell 0
    have b_D_1 := b_D.out.cell 1
    have b_D_2 := b_D.out.cell 2
    have b_D_3 := b_D.out.cell 3
    have b_D_4 := b_D.out.cell 4
    have b_D_5 := b_D.out.cell 5
    simp only [List.getElem?_toArray, List.getElem?_cons_zero, List.getElem?_cons_succ] at b_D_0 b_D_1 b_D_2 b_D_3 b_D_4 b_D_5
    have b_D_f0 := b_D.out.free 0
    have b_D_f1 := b_D.out.free 1
    have b_D_f2 := b_D.out.free 2
    have b_D_f3 := b_D.out.free 3
    have b_D_f4 := b_D.out.free 4
    have b_D_f5 := b_D.out.free 5
    have b_E_0 := b_E.out.cell 0
    have b_E_1 := b_E.out.cell 1
    have b_E_2 := b_E.out.cell 2
    have b_E_3 := b_E.out.cell 3
    have b_E_4 := b_E.out.cell 4
    have b_E_5 := b_E.out.cell 5
    simp only [List.getElem?_toArray, List.getElem?_cons_zero, List.getElem?_cons_succ] at b_E_0 b_E_1 b_E_2 b_E_3 b_E_4 b_E_5
    have b_E_f0 := b_E.out.free 0
    have b_E_f1 := b_E.out.free 1
    have b_E_f2 := b_E.out.free 2
    have b_E_f3 := b_E.out.free 3
    have b_E_f4 := b_E.out.free 4
    have b_E_f5 := b_E.out.free 5
    go_wp2_with fail
    clear b_D_0 b_D_f0 b_D_1 b_D_f1 b_D_2 b_D_f2 b_D_3 b_D_f3 b_D_4 b_D_f4 b_D_5 b_D_f5
    clear b_E_0 b_E_f0 b_E_1 b_E_f1 b_E_2 b_E_f2 b_E_3 b_E_f3 b_E_4 b_E_f4 b_E_5 b_E_f5
    refine (envelopeBytes X_dp.out (Hsdp.out.small Okdp.out)).mono ?_
    rintro e w10 ⟨a, rfl, ho, hb⟩
    have X_a := Lib.hid ho.bs
    replace X_dp := Lib.hid (X_dp.out.step hb)
    replace X_ep := Lib.hid (X_ep.out.step hb)
    replace b_D := Lib.hid (b_D.out.step hb)
    replace b_E := Lib.hid (b_E.out.step hb)
    replace B := Lib.hid (below_trans B.out hb)
    clear hb ho
    obtain ⟨A_a, n_a, c_a, rfl⟩ := hid_exists_bs X_a.out
    have b_D_0 := b_D.out.cell 0
    have b_D_1 := b_D.out.cell 1
    have b_D_2 := b_D.out.cell 2
    have b_D_3 := b_D.out.cell 3
    have b_D_4 := b_D.out.cell 4
    have b_D_5 := b_D.out.cell 5
    simp only [List.getElem?_toArray, List.getElem?_cons_zero, List.getElem?_cons_succ] at b_D_0 b_D_1 b_D_2 b_D_3 b_D_4 b_D_5
    have b_D_f0 := b_D.out.free 0
    have b_D_f1 := b_D.out.free 1
    have b_D_f2 := b_D.out.free 2
    have b_D_f3 := b_D.out.free 3
    have b_D_f4 := b_D.out.free 4
    have b_D_f5 := b_D.out.free 5
    have b_E_0 := b_E.out.cell 0
    have b_E_1 := b_E.out.cell 1
    have b_E_2 := b_E.out.cell 2
    have b_E_3 := b_E.out.cell 3
    have b_E_4 := b_E.out.cell 4
    have b_E_5 := b_E.out.cell 5
    simp only [List.getElem?_toArray, List.getElem?_cons_zero, List.getElem?_cons_succ] at b_E_0 b_E_1 b_E_2 b_E_3 b_E_4 b_E_5
    have b_E_f0 := b_E.out.free 0
    have b_E_f1 := b_E.out.free 1
    have b_E_f2 := b_E.out.free 2
    have b_E_f3 := b_E.out.free 3
    have b_E_f4 := b_E.out.free 4
    have b_E_f5 := b_E.out.free 5
    go_wp2_with fail
    clear b_D_0 b_D_f0 b_D_1 b_D_f1 b_D_2 b_D_f2 b_D_3 b_D_f3 b_D_4 b_D_f4 b_D_5 b_D_f5
    clear b_E_0 b_E_f0 b_E_1 b_E_f1 b_E_2 b_E_f2 b_E_3 b_E_f3 b_E_4 b_E_f4 b_E_5 b_E_f5
    refine (envelopeBytes X_ep.out (Hsep.out.small Okep.out)).mono ?_
    rintro e w11 ⟨b, rfl, ho, hb⟩
    have X_b := Lib.hid ho.bs
    replace X_dp := Lib.hid (X_dp.out.step hb)
    replace X_ep := Lib.hid (X_ep.out.step hb)
    replace b_D := Lib.hid (b_D.out.step hb)
    replace b_E := Lib.hid (b_E.out.step hb)
    replace X_a := Lib.hid (X_a.out.step hb)
    replace B := Lib.hid (below_trans B.out hb)
    clear hb ho
    obtain ⟨A_b, n_b, c_b, rfl⟩ := hid_exists_bs X_b.out
    have b_D_0 := b_D.out.cell 0
    have b_D_1 := b_D.out.cell 1
    have b_D_2 := b_D.out.cell 2
    have b_D_3 := b_D.out.cell 3
    have b_D_4 := b_D.out.cell 4
    have b_D_5 := b_D.out.cell 5
    simp only [List.getElem?_toArray, List.getElem?_cons_zero, List.getElem?_cons_succ] at b_D_0 b_D_1 b_D_2 b_D_3 b_D_4 b_D_5
    have b_D_f0 := b_D.out.free 0
    have b_D_f1 := b_D.out.free 1
    have b_D_f2 := b_D.out.free 2
    have b_D_f3 := b_D.out.free 3
    have b_D_f4 := b_D.out.free 4
    have b_D_f5 := b_D.out.free 5
    have b_E_0 := b_E.out.cell 0
    have b_E_1 := b_E.out.cell 1
    have b_E_2 := b_E.out.cell 2
    have b_E_3 := b_E.out.cell 3
    have b_E_4 := b_E.out.cell 4
    have b_E_5 := b_E.out.cell 5
    simp only [List.getElem?_toArray, List.getElem?_cons_zero, List.getElem?_cons_succ] at b_E_0 b_E_1 b_E_2 b_E_3 b_E_4 b_E_5
    have b_E_f0 := b_E.out.free 0
    have b_E_f1 := b_E.out.free 1
    have b_E_f2 := b_E.out.free 2
    have b_E_f3 := b_E.out.free 3
    have b_E_f4 := b_E.out.free 4
    have b_E_f5 := b_E.out.free 5
    go_wp2_with fail
    clear b_D_0 b_D_f0 b_D_1 b_D_f1 b_D_2 b_D_f2 b_D_3 b_D_f3 b_D_4 b_D_f4 b_D_5 b_D_f5
    clear b_E_0 b_E_f0 b_E_1 b_E_f1 b_E_2 b_E_f2 b_E_3 b_E_f3 b_E_4 b_E_f4 b_E_5 b_E_f5
    by_cases hsame : (⟨dphas, dpkind, dpkey, dpty, dppay, dpsig⟩ : EV) = ⟨ephas, epkind, epkey, epty, eppay, epsig⟩
    · have HQ := Lib.hid (show ∀ W, Below w11.heap.size w11 W → Calls Tryd.prog 28 #[.slice A_a n_a c_a, .slice A_b n_b c_b] W fun e w' => e = .returned (.bool true) ∧ W = w' from fun W hW => by
        have X_a := X_a.out.step hW
        have X_b := X_b.out.step hW
        exact eqTrue X_a X_b (congrArg envEnc hsame))
      have HS := Lib.hid (show ∀ W, Below w11.heap.size w11 W → Calls Tryd.prog 54 #[.agg #[.bool dphas, .int .i32 dpkind, .slice dpA1 dpn1 dpc1, .slice dpA2 dpn2 dpc2, .slice dpA3 dpn3 dpc3, .slice dpA4 dpn4 dpc4], .agg #[.bool ephas, .int .i32 epkind, .slice epA1 epn1 epc1, .slice epA2 epn2 epc2, .slice epA3 epn3 epc3, .slice epA4 epn4 epc4]] W fun e w' => Yes W e w' from fun W hW => sameEnvelope_yes (X_dp.out.step hW) (X_ep.out.step hW) hsame)
      have b_D' := Lib.hid b_D.out.drew
      have b_E' := Lib.hid b_E.out.drew
      go_region_held3 (fun W => W.cell? ⟨g_d, 0, none⟩ = some (.bool dphas) ∧ W.cell? ⟨g_d, 1, none⟩ = some (.int .i32 dpkind) ∧ W.cell? ⟨g_d, 2, none⟩ = some (.slice dpA1 dpn1 dpc1) ∧ W.cell? ⟨g_d, 3, none⟩ = some (.slice dpA2 dpn2 dpc2) ∧ W.cell? ⟨g_d, 4, none⟩ = some (.slice dpA3 dpn3 dpc3) ∧ W.cell? ⟨g_d, 5, none⟩ = some (.slice dpA4 dpn4 dpc4) ∧ W.cell? ⟨g_e, 0, none⟩ = some (.bool ephas) ∧ W.cell? ⟨g_e, 1, none⟩ = some (.int .i32 epkind) ∧ W.cell? ⟨g_e, 2, none⟩ = some (.slice epA1 epn1 epc1) ∧ W.cell? ⟨g_e, 3, none⟩ = some (.slice epA2 epn2 epc2) ∧ W.cell? ⟨g_e, 4, none⟩ = some (.slice epA3 epn3 epc3) ∧ W.cell? ⟨g_e, 5, none⟩ = some (.slice epA4 epn4 epc4)) (with_reducible first | exact twoSix b_D'.out b_E'.out | exact twoSix b_D2.out b_E2.out | exact twoSix b_D3.out b_E3.out) (first
        | (go_at_call 28; (with_reducible refine (HQ.out _ (below_drew w11)).mono ?_); rintro e W_ ⟨rfl, rfl⟩)
        | (go_at_call 54; (with_reducible refine (HS.out _ (below_drew w11)).mono ?_); rintro e w12 ⟨rfl, hb⟩; replace hb := below_trans (below_drew w11) hb; have B12 := Lib.hid hb; have b_D2 := Lib.hid (b_D.out.step hb); have b_E2 := Lib.hid (b_E.out.step hb); clear hb)
        | (go_at_call 52; (with_reducible refine (envelopesLive (He.out.step (below_trans B.out B12.out))).mono ?_); rintro e w13 ⟨rfl, hb⟩; have B13 := Lib.hid (below_trans B12.out hb); have b_D3 := Lib.hid (b_D2.out.step hb); have b_E3 := Lib.hid (b_E2.out.step hb); clear hb))
      replace B := Lib.hid (below_trans B.out B13.out)
      clear b_D b_E b_D' b_E' b_D2 b_E2 b_D3 b_E3 HQ HS B12 B13
      go_wp2_with fail
      go_ret
      exact ⟨rfl, B.out⟩
    · have HQ := Lib.hid (show ∀ W, Below w11.heap.size w11 W → Calls Tryd.prog 28 #[.slice A_a n_a c_a, .slice A_b n_b c_b] W fun e w' => e = .returned (.bool false) ∧ W = w' from fun W hW => by
        have X_a := X_a.out.step hW
        have X_b := X_b.out.step hW
        exact eqFalse X_a X_b (fun h => hsame (envEnc_inj Okdp.out Okep.out h)))
      have HS := Lib.hid (show ∀ W, Below w11.heap.size w11 W → Calls Tryd.prog 54 #[.agg #[.bool dphas, .int .i32 dpkind, .slice dpA1 dpn1 dpc1, .slice dpA2 dpn2 dpc2, .slice dpA3 dpn3 dpc3, .slice dpA4 dpn4 dpc4], .agg #[.bool ephas, .int .i32 epkind, .slice epA1 epn1 epc1, .slice epA2 epn2 epc2, .slice epA3 epn3 epc3, .slice epA4 epn4 epc4]] W fun e w' => No W e w' from fun W hW => sameEnvelope_no (X_dp.out.step hW) (X_ep.out.step hW) hsame)
      have b_D' := Lib.hid b_D.out.drew
      have b_E' := Lib.hid b_E.out.drew
      go_region_held3 (fun W => W.cell? ⟨g_d, 0, none⟩ = some (.bool dphas) ∧ W.cell? ⟨g_d, 1, none⟩ = some (.int .i32 dpkind) ∧ W.cell? ⟨g_d, 2, none⟩ = some (.slice dpA1 dpn1 dpc1) ∧ W.cell? ⟨g_d, 3, none⟩ = some (.slice dpA2 dpn2 dpc2) ∧ W.cell? ⟨g_d, 4, none⟩ = some (.slice dpA3 dpn3 dpc3) ∧ W.cell? ⟨g_d, 5, none⟩ = some (.slice dpA4 dpn4 dpc4) ∧ W.cell? ⟨g_e, 0, none⟩ = some (.bool ephas) ∧ W.cell? ⟨g_e, 1, none⟩ = some (.int .i32 epkind) ∧ W.cell? ⟨g_e, 2, none⟩ = some (.slice epA1 epn1 epc1) ∧ W.cell? ⟨g_e, 3, none⟩ = some (.slice epA2 epn2 epc2) ∧ W.cell? ⟨g_e, 4, none⟩ = some (.slice epA3 epn3 epc3) ∧ W.cell? ⟨g_e, 5, none⟩ = some (.slice epA4 epn4 epc4)) (with_reducible first | exact twoSix b_D'.out b_E'.out | exact twoSix b_D2.out b_E2.out | exact twoSix b_D3.out b_E3.out) (first
        | (go_at_call 28; (with_reducible refine (HQ.out _ (below_drew w11)).mono ?_); rintro e W_ ⟨rfl, rfl⟩)
        | (go_at_call 54; (with_reducible refine (HS.out _ (below_drew w11)).mono ?_); rintro e w12 ⟨rfl, hb⟩; replace hb := below_trans (below_drew w11) hb; have B12 := Lib.hid hb; have b_D2 := Lib.hid (b_D.out.step hb); have b_E2 := Lib.hid (b_E.out.step hb); clear hb)
        | (go_at_call 52; (with_reducible refine (envelopesLive (He.out.step (below_trans B.out B12.out))).mono ?_); rintro e w13 ⟨rfl, hb⟩; have B13 := Lib.hid (below_trans B12.out hb); have b_D3 := Lib.hid (b_D2.out.step hb); have b_E3 := Lib.hid (b_E2.out.step hb); clear hb))
      replace B := Lib.hid (below_trans B.out B13.out)
      clear b_D b_E b_D' b_E' b_D2 b_E2 b_D3 b_E3 HQ HS B12 B13
      go_wp2_with fail
      go_ret
      exact ⟨rfl, B.out⟩

end
end Go.Proofs.YtcefcdmonfenoaaDoor

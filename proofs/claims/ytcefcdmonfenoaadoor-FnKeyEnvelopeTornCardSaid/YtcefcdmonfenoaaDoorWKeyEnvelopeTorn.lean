/- The walk of FnKeyEnvelopeTorn. (Printed by gen_elaws.py.) -/
import Derived.Test.YtcefcdmonfenoaaDoorWEl
import Derived.Test.YtcefcdmonfenoaaDoorOpn
import Derived.Test.YtcefcdmonfenoaaDoorWKeyEnvelope
import Derived.Deep.RegionHeld3
import Derived.Deep.DrawnRows
namespace Go.Proofs.YtcefcdmonfenoaaDoor
open Go.RowKit
set_option maxRecDepth 100000
attribute [local go_sem ↓] Go.wp_at_zero Go.wp_at_succ
section
variable {w : World} {v0 v1 v2 v3 : Value}

theorem partYes {w : World} {B C : Nat} {v x : Value} {l m : List UInt8} (h : Bs w B v l) (k : Bs w C x m) (e : l = [] ∨ l = m) :
    Calls Tryd.prog 59 #[v, x] w fun e w' => e = .returned (.bool true) ∧ w = w' := by
  obtain ⟨A1, n1, c1, rfl, hn, _, _⟩ := h.form'
  obtain ⟨A2, n2, c2, rfl⟩ := hid_exists_bs k
  have H := Lib.hid h
  have K := Lib.hid k
  clear h k
  by_cases h0 : n1 = 0
  · subst h0
    clear hn e
    go_enter Tryd.func59, Tryd.ntmps59
    go_wp2_with fail
    go_ret
    exact ⟨rfl, rfl⟩
  · have he : l = m := by
      rcases e with e | e
      · subst e; exact absurd hn.out h0
      · exact e
    have g0 : ((n1 : Int) == 0) = false := i8_ne (by omega)
    have E := Lib.hid he
    clear hn h0 he e
    go_enter Tryd.func59, Tryd.ntmps59
    go_wp2_with fail
    refine (eqTrue H.out K.out E.out).mono ?_
    rintro e W_ ⟨rfl, rfl⟩
    go_wp2_with fail
    go_ret
    exact ⟨rfl, rfl⟩


set_option maxHeartbeats 2000000 in
theorem walk_FnKeyEnvelopeTorn {E : EV} {x : Int} (f0 : EnvIn w v0 E) (f1 : IsInt .u16 v1 x) (he : HasErr w 4 ∧ HasErr w 5 ∧ HasErr w 6 ∧ HasErr w 7 ∧ HasErr w 8 ∧ HasErr w 9 ∧ HasErr w 3 ∧ HasErr w 2 ∧ HasErr w 1) :
    Calls Tryd.prog 19 #[v0, v1] w fun e w' => Yes w e w' := by
  have He := Lib.hid (eErr_of he)
  clear he
  obtain ⟨rfl, b1, b2⟩ := isU16 f1
  obtain ⟨y, rfl⟩ := Int.eq_ofNat_of_zero_le b1
  clear f1
  obtain ⟨hv, k1, k2⟩ := f0
  have Hok := Lib.hid (fun h => EV.plain_ok (E := E) h k1 k2)
  obtain ⟨P, hP⟩ : ∃ P, P = E.plain := ⟨_, rfl⟩
  have HP := Lib.hid hP
  clear hP
  obtain ⟨has, kind, key, ty, pay, sig⟩ := E
  obtain ⟨A1, n1, c1, A2, n2, c2, A3, n3, c3, A4, n4, c4, rfl, z1, z2, z3, z4⟩ := EnvVal.form hv
  have X_v := Lib.hid (EnvVal.mk' (has := has) (kind := kind) z1 z2 z3 z4)
  clear hv z1 z2 z3 z4 k1 k2

  have B := Lib.hid (below_refl w)
  go_enter Tryd.func19, Tryd.ntmps19
  go_wp2_with fail
  have hb := below_alloc w (.cells #[.bool has, .int .i32 kind, .slice A1 n1 c1, .slice A2 n2 c2, .slice A3 n3 c3, .slice A4 n4 c4] 64)
  have b_ := Lib.hid (Blk.new w 64 #[.bool has, .int .i32 kind, .slice A1 n1 c1, .slice A2 n2 c2, .slice A3 n3 c3, .slice A4 n4 c4])
  replace X_v := Lib.hid (X_v.out.step hb)
  replace B := Lib.hid (below_trans B.out hb)
  clear hb
  obtain ⟨g_, hg_⟩ : ∃ g, g = w.heap.size := ⟨_, rfl⟩
  rw [← hg_]
  rw [← hg_] at b_
  generalize hw1 : w.alloc (.cells #[.bool has, .int .i32 kind, .slice A1 n1 c1, .slice A2 n2 c2, .slice A3 n3 c3, .slice A4 n4 c4] 64) = w1 at *
  clear hw1
  have Hg := Lib.hid (show w.heap.size ≤ g_ by have := hg_; have := B.out.size; simp at *; omega)
  clear hg_
  by_cases hs : EV.fits31 ⟨has, kind, key, ty, pay, sig⟩
  rotate_left
  · refine (zzFits14_no X_v.out hs).mono ?_
    rintro e w2 ⟨rfl, hb⟩
    go_wp2_with fail
    go_ret
    exact ⟨rfl, below_trans B.out hb⟩
  refine (zzFits14_yes X_v.out hs).mono ?_
  rintro e w2 ⟨rfl, hb⟩
  replace X_v := Lib.hid (X_v.out.step hb)
  replace b_ := Lib.hid (b_.out.step hb)
  replace B := Lib.hid (below_trans B.out hb)
  clear hb
  clear hs
  have b__0 := b_.out.cell 0
  have b__1 := b_.out.cell 1
  have b__2 := b_.out.cell 2
  have b__3 := b_.out.cell 3
  have b__4 := b_.out.cell 4
  have b__5 := b_.out.cell 5
  simp only [List.getElem?_toArray, List.getElem?_cons_zero, List.getElem?_cons_succ] at b__0 b__1 b__2 b__3 b__4 b__5
  have b__f0 := b_.out.free 0
  have b__f1 := b_.out.free 1
  have b__f2 := b_.out.free 2
  have b__f3 := b_.out.free 3
  have b__f4 := b_.out.free 4
  have b__f5 := b_.out.free 5
  go_wp2_with fail
  clear b__0 b__f0 b__1 b__f1 b__2 b__f2 b__3 b__f3 b__4 b__f4 b__5 b__f5
  refine (envelopePlain X_v.out).mono ?_
  rintro e w3 ⟨v_p, rfl, hv, hb⟩
  replace X_v := Lib.hid (X_v.out.step hb)
  replace b_ := Lib.hid (b_.out.step hb)
  replace B := Lib.hid (below_trans B.out hb)
  clear hb
  rw [← HP.out] at hv
  obtain ⟨phas, pkind, pkey, pty, ppay, psig⟩ := P
  obtain ⟨pA1, pn1, pc1, pA2, pn2, pc2, pA3, pn3, pc3, pA4, pn4, pc4, rfl, z1, z2, z3, z4⟩ := EnvVal.form hv
  have X_p := Lib.hid (EnvVal.mk' (has := phas) (kind := pkind) z1 z2 z3 z4)
  clear hv z1 z2 z3 z4
  clear X_v
  have b__0 := b_.out.cell 0
  have b__1 := b_.out.cell 1
  have b__2 := b_.out.cell 2
  have b__3 := b_.out.cell 3
  have b__4 := b_.out.cell 4
  have b__5 := b_.out.cell 5
  simp only [List.getElem?_toArray, List.getElem?_cons_zero, List.getElem?_cons_succ] at b__0 b__1 b__2 b__3 b__4 b__5
  have b__f0 := b_.out.free 0
  have b__f1 := b_.out.free 1
  have b__f2 := b_.out.free 2
  have b__f3 := b_.out.free 3
  have b__f4 := b_.out.free 4
  have b__f5 := b_.out.free 5
  go_wp2_with fail
  clear b__0 b__f0 b__1 b__f1 b__2 b__f2 b__3 b__f3 b__4 b__f4 b__5 b__f5
  obtain ⟨w4, hwF, bF, gF⟩ := storeSix b_.out (.bool phas) (.int .i32 pkind) (.slice pA1 pn1 pc1) (.slice pA2 pn2 pc2) (.slice pA3 pn3 pc3) (.slice pA4 pn4 pc4)
  rw [hwF.out]
  clear hwF
  replace X_p := Lib.hid (X_p.out.keepBlk8 b_.out (noByte_env _ _ _ _ _ _ _ _ _ _ _ _ _ _) gF)
  replace B := Lib.hid (below_grown B.out gF (fun g e => by injection e with e; have := Hg.out; omega))
  clear b_
  have b_ := Lib.hid bF
  clear bF gF
  have b__0 := b_.out.cell 0
  have b__1 := b_.out.cell 1
  have b__2 := b_.out.cell 2
  have b__3 := b_.out.cell 3
  have b__4 := b_.out.cell 4
  have b__5 := b_.out.cell 5
  simp only [List.getElem?_toArray, List.getElem?_cons_zero, List.getElem?_cons_succ] at b__0 b__1 b__2 b__3 b__4 b__5
  have b__f0 := b_.out.free 0
  have b__f1 := b_.out.free 1
  have b__f2 := b_.out.free 2
  have b__f3 := b_.out.free 3
  have b__f4 := b_.out.free 4
  have b__f5 := b_.out.free 5
  go_wp2_with fail
  clear b__0 b__f0 b__1 b__f1 b__2 b__f2 b__3 b__f3 b__4 b__f4 b__5 b__f5
  by_cases hs : EV.fits ⟨phas, pkind, pkey, pty, ppay, psig⟩
  rotate_left
  · refine (envelopeFits_no X_p.out hs).mono ?_
    rintro e w5 ⟨rfl, hb⟩
    replace B := Lib.hid (below_trans B.out hb)
    go_wp2_with fail
    refine (envelopesLive (He.out.step B.out)).mono ?_
    rintro e w6 ⟨rfl, hb⟩
    go_wp2_with fail
    go_ret
    exact ⟨rfl, below_trans B.out hb⟩
  refine (envelopeFits_yes X_p.out hs).mono ?_
  rintro e w5 ⟨rfl, hb⟩
  replace b_ := Lib.hid (b_.out.step hb)
  replace X_p := Lib.hid (X_p.out.step hb)
  replace B := Lib.hid (below_trans B.out hb)
  clear hb
  have Hok2 := Lib.hid (show EV.ok ⟨phas, pkind, pkey, pty, ppay, psig⟩ by have := Hok.out; rw [← HP.out] at this; exact this hs)
  have Hs := Lib.hid hs
  have Hl := Lib.hid (envEnc_len hs)
  clear hs
  have b__0 := b_.out.cell 0
  have b__1 := b_.out.cell 1
  have b__2 := b_.out.cell 2
  have b__3 := b_.out.cell 3
  have b__4 := b_.out.cell 4
  have b__5 := b_.out.cell 5
  simp only [List.getElem?_toArray, List.getElem?_cons_zero, List.getElem?_cons_succ] at b__0 b__1 b__2 b__3 b__4 b__5
  have b__f0 := b_.out.free 0
  have b__f1 := b_.out.free 1
  have b__f2 := b_.out.free 2
  have b__f3 := b_.out.free 3
  have b__f4 := b_.out.free 4
  have b__f5 := b_.out.free 5
  go_wp2_with fail
  clear b__0 b__f0 b__1 b__f1 b__2 b__f2 b__3 b__f3 b__4 b__f4 b__5 b__f5
  refine (specEnvelopeBytes X_p.out (Hs.out.small Hok2.out)).mono ?_
  rintro e w6 ⟨b, rfl, ho, hb⟩
  have X_b := Lib.hid ho.bs
  replace b_ := Lib.hid (b_.out.step hb)
  replace X_p := Lib.hid (X_p.out.step hb)
  replace B := Lib.hid (below_trans B.out hb)
  clear hb ho
  obtain ⟨A_b, n_b, c_b, rfl⟩ := hid_exists_bs X_b.out
  obtain ⟨M, hM⟩ : ∃ M, M = (envEnc ⟨phas, pkind, pkey, pty, ppay, psig⟩).length := ⟨_, rfl⟩
  have hnM : n_b = M := by rw [hM]; exact bs_len X_b.out
  have HM := Lib.hid hM
  have hMle : M ≤ 2000 := by rw [hM]; exact Hl.out
  clear hM
  subst hnM
  have hj : y % (n_b + 1) < n_b + 1 := Nat.mod_lt _ (by omega)
  have hmod : ((y : Int) % ((n_b : Int) + 1)) = ((y % (n_b + 1) : Nat) : Int) := by simp
  obtain ⟨j, hj2⟩ : ∃ j, j = y % (n_b + 1) := ⟨_, rfl⟩
  have Hj := Lib.hid (show (y : Int) % ((n_b : Int) + 1) = (j : Int) by rw [hmod, hj2])
  rw [← hj2] at hj
  clear hmod hj2
  have X_t := Lib.hid (X_b.out.front (k := j) (by rw [← HM.out]; omega))
  have hcb : n_b ≤ c_b := by
    obtain ⟨A', n', c', e', h1, h2, h3⟩ := X_b.out.form'
    injection e' with e1 e2 e3
    subst e2 e3
    exact h2
  have Hjlt := Lib.hid (show ((envEnc ⟨phas, pkind, pkey, pty, ppay, psig⟩).take j).length ≤ 2000 by rw [List.length_take]; have := HM.out; omega)
  have hjq := Hj.out
  have b__0 := b_.out.cell 0
  have b__1 := b_.out.cell 1
  have b__2 := b_.out.cell 2
  have b__3 := b_.out.cell 3
  have b__4 := b_.out.cell 4
  have b__5 := b_.out.cell 5
  simp only [List.getElem?_toArray, List.getElem?_cons_zero, List.getElem?_cons_succ] at b__0 b__1 b__2 b__3 b__4 b__5
  have b__f0 := b_.out.free 0
  have b__f1 := b_.out.free 1
  have b__f2 := b_.out.free 2
  have b__f3 := b_.out.free 3
  have b__f4 := b_.out.free 4
  have b__f5 := b_.out.free 5
  go_wp2_with fail
  clear b__0 b__f0 b__1 b__f1 b__2 b__f2 b__3 b__f3 b__4 b__f4 b__5 b__f5
  refine (bytesClone X_t.out (by have := Hjlt.out; omega)).mono ?_
  rintro e w7 ⟨c, rfl, ho, hb⟩
  have X_c := Lib.hid ho.bs
  replace b_ := Lib.hid (b_.out.step hb)
  replace X_p := Lib.hid (X_p.out.step hb)
  replace X_b := Lib.hid (X_b.out.step hb)
  replace X_t := Lib.hid (X_t.out.step hb)
  replace B := Lib.hid (below_trans B.out hb)
  clear hb ho
  obtain ⟨A_c, n_c, c_c, rfl⟩ := hid_exists_bs X_c.out
  clear hjq
  have b__0 := b_.out.cell 0
  have b__1 := b_.out.cell 1
  have b__2 := b_.out.cell 2
  have b__3 := b_.out.cell 3
  have b__4 := b_.out.cell 4
  have b__5 := b_.out.cell 5
  simp only [List.getElem?_toArray, List.getElem?_cons_zero, List.getElem?_cons_succ] at b__0 b__1 b__2 b__3 b__4 b__5
  have b__f0 := b_.out.free 0
  have b__f1 := b_.out.free 1
  have b__f2 := b_.out.free 2
  have b__f3 := b_.out.free 3
  have b__f4 := b_.out.free 4
  have b__f5 := b_.out.free 5
  go_wp2_with fail
  clear b__0 b__f0 b__1 b__f1 b__2 b__f2 b__3 b__f3 b__4 b__f4 b__5 b__f5
  have Hcut := envDec_cut Hok2.out j
  rcases Hcut with hd | ⟨X, hd, hpart⟩
  · have Hd := Lib.hid hd
    clear hd
    refine (envelopeOf X_c.out (He.out.step B.out) (by have := Hjlt.out; omega)).mono ?_
    rintro e w8 ⟨hb, hans⟩
    obtain ⟨vx, rfl, hx⟩ := envNone hans Hd.out
    clear hans
    replace b_ := Lib.hid (b_.out.step hb)
    replace X_p := Lib.hid (X_p.out.step hb)
    replace X_b := Lib.hid (X_b.out.step hb)
    replace X_t := Lib.hid (X_t.out.step hb)
    replace X_c := Lib.hid (X_c.out.step hb)
    replace B := Lib.hid (below_trans B.out hb)
    clear hb
    obtain ⟨xA1, xn1, xc1, xA2, xn2, xc2, xA3, xn3, xc3, xA4, xn4, xc4, rfl, z1, z2, z3, z4⟩ := EnvVal.form hx
    clear hx z1 z2 z3 z4
    have b__0 := b_.out.cell 0
    have b__1 := b_.out.cell 1
    have b__2 := b_.out.cell 2
    have b__3 := b_.out.cell 3
    have b__4 := b_.out.cell 4
    have b__5 := b_.out.cell 5
    simp only [List.getElem?_toArray, List.getElem?_cons_zero, List.getElem?_cons_succ] at b__0 b__1 b__2 b__3 b__4 b__5
    have b__f0 := b_.out.free 0
    have b__f1 := b_.out.free 1
    have b__f2 := b_.out.free 2
    have b__f3 := b_.out.free 3
    have b__f4 := b_.out.free 4
    have b__f5 := b_.out.free 5
    go_wp2_with fail
    clear b__0 b__f0 b__1 b__f1 b__2 b__f2 b__3 b__f3 b__4 b__f4 b__5 b__f5
    have hb := below_alloc w8 (.cells #[.bool false, .int .i32 0, .slice xA1 xn1 xc1, .slice xA2 xn2 xc2, .slice xA3 xn3 xc3, .slice xA4 xn4 xc4] 64)
    replace B := Lib.hid (below_trans B.out hb)
    clear hb
    refine (envelopesLive (He.out.step B.out)).mono ?_
    rintro e w10 ⟨rfl, hb⟩
    replace B := Lib.hid (below_trans B.out hb)
    clear hb
    go_wp2_with fail
    go_ret
    exact ⟨rfl, B.out⟩
  · have Hd := Lib.hid hd
    have Hp := Lib.hid hpart
    clear hd hpart
    refine (envelopeOf X_c.out (He.out.step B.out) (by have := Hjlt.out; omega)).mono ?_
    rintro e w8 ⟨hb, hans⟩
    obtain ⟨vx, rfl, hx⟩ := envSome hans Hd.out
    clear hans
    replace b_ := Lib.hid (b_.out.step hb)
    replace X_p := Lib.hid (X_p.out.step hb)
    replace X_b := Lib.hid (X_b.out.step hb)
    replace X_t := Lib.hid (X_t.out.step hb)
    replace X_c := Lib.hid (X_c.out.step hb)
    replace B := Lib.hid (below_trans B.out hb)
    clear hb
    obtain ⟨xhas, xkind, xkey, xty, xpay, xsig⟩ := X
    obtain ⟨xA1, xn1, xc1, xA2, xn2, xc2, xA3, xn3, xc3, xA4, xn4, xc4, rfl, z1, z2, z3, z4⟩ := EnvVal.form hx
    have X_x := Lib.hid (EnvVal.mk' (has := xhas) (kind := xkind) z1 z2 z3 z4)
    clear hx z1 z2 z3 z4
    have X_p := X_p
    cases xhas
    · have b__o0 := (b_.out.alloc (.cells #[.bool false, .int .i32 xkind, .slice xA1 xn1 xc1, .slice xA2 xn2 xc2, .slice xA3 xn3 xc3, .slice xA4 xn4 xc4] 64)).cell 0
      have b__o1 := (b_.out.alloc (.cells #[.bool false, .int .i32 xkind, .slice xA1 xn1 xc1, .slice xA2 xn2 xc2, .slice xA3 xn3 xc3, .slice xA4 xn4 xc4] 64)).cell 1
      have b__o2 := (b_.out.alloc (.cells #[.bool false, .int .i32 xkind, .slice xA1 xn1 xc1, .slice xA2 xn2 xc2, .slice xA3 xn3 xc3, .slice xA4 xn4 xc4] 64)).cell 2
      have b__o3 := (b_.out.alloc (.cells #[.bool false, .int .i32 xkind, .slice xA1 xn1 xc1, .slice xA2 xn2 xc2, .slice xA3 xn3 xc3, .slice xA4 xn4 xc4] 64)).cell 3
      have b__o4 := (b_.out.alloc (.cells #[.bool false, .int .i32 xkind, .slice xA1 xn1 xc1, .slice xA2 xn2 xc2, .slice xA3 xn3 xc3, .slice xA4 xn4 xc4] 64)).cell 4
      have b__o5 := (b_.out.alloc (.cells #[.bool false, .int .i32 xkind, .slice xA1 xn1 xc1, .slice xA2 xn2 xc2, .slice xA3 xn3 xc3, .slice xA4 xn4 xc4] 64)).cell 5
      simp only [List.getElem?_toArray, List.getElem?_cons_zero, List.getElem?_cons_succ] at b__o0 b__o1 b__o2 b__o3 b__o4 b__o5
      have b__0 := b_.out.cell 0
      have b__1 := b_.out.cell 1
      have b__2 := b_.out.cell 2
      have b__3 := b_.out.cell 3
      have b__4 := b_.out.cell 4
      have b__5 := b_.out.cell 5
      simp only [List.getElem?_toArray, List.getElem?_cons_zero, List.getElem?_cons_succ] at b__0 b__1 b__2 b__3 b__4 b__5
      have b__f0 := b_.out.free 0
      have b__f1 := b_.out.free 1
      have b__f2 := b_.out.free 2
      have b__f3 := b_.out.free 3
      have b__f4 := b_.out.free 4
      have b__f5 := b_.out.free 5
      go_wp2_with fail
      clear b__o0 b__o1 b__o2 b__o3 b__o4 b__o5
      clear b__0 b__f0 b__1 b__f1 b__2 b__f2 b__3 b__f3 b__4 b__f4 b__5 b__f5
      have hb := below_alloc w8 (.cells #[.bool false, .int .i32 xkind, .slice xA1 xn1 xc1, .slice xA2 xn2 xc2, .slice xA3 xn3 xc3, .slice xA4 xn4 xc4] 64)
      have b_x := Lib.hid (Blk.new w8 64 #[.bool false, .int .i32 xkind, .slice xA1 xn1 xc1, .slice xA2 xn2 xc2, .slice xA3 xn3 xc3, .slice xA4 xn4 xc4])
      replace b_ := Lib.hid (b_.out.step hb)
      replace X_p := Lib.hid (X_p.out.step hb)
      replace X_b := Lib.hid (X_b.out.step hb)
      replace X_t := Lib.hid (X_t.out.step hb)
      replace X_c := Lib.hid (X_c.out.step hb)
      replace X_x := Lib.hid (X_x.out.step hb)
      replace B := Lib.hid (below_trans B.out hb)
      clear hb
      obtain ⟨g_x, hg_x⟩ : ∃ g, g = w8.heap.size := ⟨_, rfl⟩
      rw [← hg_x]
      rw [← hg_x] at b_x
      generalize hw9 : w8.alloc (.cells #[.bool false, .int .i32 xkind, .slice xA1 xn1 xc1, .slice xA2 xn2 xc2, .slice xA3 xn3 xc3, .slice xA4 xn4 xc4] 64) = w9 at *
      clear hw9
      clear hg_x
      obtain ⟨A1', n1', c1', A2', n2', c2', A3', n3', c3', A4', n4', c4', ea, z1, z2, z3, z4⟩ := EnvVal.form X_p.out
      injection ea with ea
      simp only [Array.mk.injEq, List.cons.injEq, Value.slice.injEq, and_true, true_and] at ea
      obtain ⟨⟨rfl, rfl, rfl⟩, ⟨rfl, rfl, rfl⟩, ⟨rfl, rfl, rfl⟩, rfl, rfl, rfl⟩ := ea
      have P_1 := Lib.hid z1
      have P_2 := Lib.hid z2
      have P_3 := Lib.hid z3
      have P_4 := Lib.hid z4
      clear z1 z2 z3 z4
      obtain ⟨A1', n1', c1', A2', n2', c2', A3', n3', c3', A4', n4', c4', ea, z1, z2, z3, z4⟩ := EnvVal.form X_x.out
      injection ea with ea
      simp only [Array.mk.injEq, List.cons.injEq, Value.slice.injEq, and_true, true_and] at ea
      obtain ⟨⟨rfl, rfl, rfl⟩, ⟨rfl, rfl, rfl⟩, ⟨rfl, rfl, rfl⟩, rfl, rfl, rfl⟩ := ea
      have Q_1 := Lib.hid z1
      have Q_2 := Lib.hid z2
      have Q_3 := Lib.hid z3
      have Q_4 := Lib.hid z4
      clear z1 z2 z3 z4
      refine (partYes Q_2.out P_2.out Hp.out.2.1).mono ?_
      rintro e W_ ⟨rfl, rfl⟩
      have b__0 := b_.out.cell 0
      have b__1 := b_.out.cell 1
      have b__2 := b_.out.cell 2
      have b__3 := b_.out.cell 3
      have b__4 := b_.out.cell 4
      have b__5 := b_.out.cell 5
      simp only [List.getElem?_toArray, List.getElem?_cons_zero, List.getElem?_cons_succ] at b__0 b__1 b__2 b__3 b__4 b__5
      have b__f0 := b_.out.free 0
      have b__f1 := b_.out.free 1
      have b__f2 := b_.out.free 2
      have b__f3 := b_.out.free 3
      have b__f4 := b_.out.free 4
      have b__f5 := b_.out.free 5
      have b_x_0 := b_x.out.cell 0
      have b_x_1 := b_x.out.cell 1
      have b_x_2 := b_x.out.cell 2
      have b_x_3 := b_x.out.cell 3
      have b_x_4 := b_x.out.cell 4
      have b_x_5 := b_x.out.cell 5
      simp only [List.getElem?_toArray, List.getElem?_cons_zero, List.getElem?_cons_succ] at b_x_0 b_x_1 b_x_2 b_x_3 b_x_4 b_x_5
      have b_x_f0 := b_x.out.free 0
      have b_x_f1 := b_x.out.free 1
      have b_x_f2 := b_x.out.free 2
      have b_x_f3 := b_x.out.free 3
      have b_x_f4 := b_x.out.free 4
      have b_x_f5 := b_x.out.free 5
      go_wp2_with fail
      clear b__0 b__f0 b__1 b__f1 b__2 b__f2 b__3 b__f3 b__4 b__f4 b__5 b__f5
      clear b_x_0 b_x_f0 b_x_1 b_x_f1 b_x_2 b_x_f2 b_x_3 b_x_f3 b_x_4 b_x_f4 b_x_5 b_x_f5
      refine (partYes Q_3.out P_3.out Hp.out.2.2.1).mono ?_
      rintro e W_ ⟨rfl, rfl⟩
      have b__0 := b_.out.cell 0
      have b__1 := b_.out.cell 1
      have b__2 := b_.out.cell 2
      have b__3 := b_.out.cell 3
      have b__4 := b_.out.cell 4
      have b__5 := b_.out.cell 5
      simp only [List.getElem?_toArray, List.getElem?_cons_zero, List.getElem?_cons_succ] at b__0 b__1 b__2 b__3 b__4 b__5
      have b__f0 := b_.out.free 0
      have b__f1 := b_.out.free 1
      have b__f2 := b_.out.free 2
      have b__f3 := b_.out.free 3
      have b__f4 := b_.out.free 4
      have b__f5 := b_.out.free 5
      have b_x_0 := b_x.out.cell 0
      have b_x_1 := b_x.out.cell 1
      have b_x_2 := b_x.out.cell 2
      have b_x_3 := b_x.out.cell 3
      have b_x_4 := b_x.out.cell 4
      have b_x_5 := b_x.out.cell 5
      simp only [List.getElem?_toArray, List.getElem?_cons_zero, List.getElem?_cons_succ] at b_x_0 b_x_1 b_x_2 b_x_3 b_x_4 b_x_5
      have b_x_f0 := b_x.out.free 0
      have b_x_f1 := b_x.out.free 1
      have b_x_f2 := b_x.out.free 2
      have b_x_f3 := b_x.out.free 3
      have b_x_f4 := b_x.out.free 4
      have b_x_f5 := b_x.out.free 5
      go_wp2_with fail
      clear b__0 b__f0 b__1 b__f1 b__2 b__f2 b__3 b__f3 b__4 b__f4 b__5 b__f5
      clear b_x_0 b_x_f0 b_x_1 b_x_f1 b_x_2 b_x_f2 b_x_3 b_x_f3 b_x_4 b_x_f4 b_x_5 b_x_f5
      refine (partYes Q_4.out P_4.out Hp.out.2.2.2).mono ?_
      rintro e W_ ⟨rfl, rfl⟩
      have b__0 := b_.out.cell 0
      have b__1 := b_.out.cell 1
      have b__2 := b_.out.cell 2
      have b__3 := b_.out.cell 3
      have b__4 := b_.out.cell 4
      have b__5 := b_.out.cell 5
      simp only [List.getElem?_toArray, List.getElem?_cons_zero, List.getElem?_cons_succ] at b__0 b__1 b__2 b__3 b__4 b__5
      have b__f0 := b_.out.free 0
      have b__f1 := b_.out.free 1
      have b__f2 := b_.out.free 2
      have b__f3 := b_.out.free 3
      have b__f4 := b_.out.free 4
      have b__f5 := b_.out.free 5
      have b_x_0 := b_x.out.cell 0
      have b_x_1 := b_x.out.cell 1
      have b_x_2 := b_x.out.cell 2
      have b_x_3 := b_x.out.cell 3
      have b_x_4 := b_x.out.cell 4
      have b_x_5 := b_x.out.cell 5
      simp only [List.getElem?_toArray, List.getElem?_cons_zero, List.getElem?_cons_succ] at b_x_0 b_x_1 b_x_2 b_x_3 b_x_4 b_x_5
      have b_x_f0 := b_x.out.free 0
      have b_x_f1 := b_x.out.free 1
      have b_x_f2 := b_x.out.free 2
      have b_x_f3 := b_x.out.free 3
      have b_x_f4 := b_x.out.free 4
      have b_x_f5 := b_x.out.free 5
      go_wp2_with fail
      clear b__0 b__f0 b__1 b__f1 b__2 b__f2 b__3 b__f3 b__4 b__f4 b__5 b__f5
      clear b_x_0 b_x_f0 b_x_1 b_x_f1 b_x_2 b_x_f2 b_x_3 b_x_f3 b_x_4 b_x_f4 b_x_5 b_x_f5
      refine (envelopesLive (He.out.step B.out)).mono ?_
      rintro e w10 ⟨rfl, hb⟩
      replace b_ := Lib.hid (b_.out.step hb)
      replace X_p := Lib.hid (X_p.out.step hb)
      replace X_b := Lib.hid (X_b.out.step hb)
      replace X_t := Lib.hid (X_t.out.step hb)
      replace X_c := Lib.hid (X_c.out.step hb)
      replace X_x := Lib.hid (X_x.out.step hb)
      replace b_x := Lib.hid (b_x.out.step hb)
      replace P_1 := Lib.hid (P_1.out.step hb)
      replace P_2 := Lib.hid (P_2.out.step hb)
      replace P_3 := Lib.hid (P_3.out.step hb)
      replace P_4 := Lib.hid (P_4.out.step hb)
      replace Q_1 := Lib.hid (Q_1.out.step hb)
      replace Q_2 := Lib.hid (Q_2.out.step hb)
      replace Q_3 := Lib.hid (Q_3.out.step hb)
      replace Q_4 := Lib.hid (Q_4.out.step hb)
      replace B := Lib.hid (below_trans B.out hb)
      clear hb
      have b__0 := b_.out.cell 0
      have b__1 := b_.out.cell 1
      have b__2 := b_.out.cell 2
      have b__3 := b_.out.cell 3
      have b__4 := b_.out.cell 4
      have b__5 := b_.out.cell 5
      simp only [List.getElem?_toArray, List.getElem?_cons_zero, List.getElem?_cons_succ] at b__0 b__1 b__2 b__3 b__4 b__5
      have b__f0 := b_.out.free 0
      have b__f1 := b_.out.free 1
      have b__f2 := b_.out.free 2
      have b__f3 := b_.out.free 3
      have b__f4 := b_.out.free 4
      have b__f5 := b_.out.free 5
      have b_x_0 := b_x.out.cell 0
      have b_x_1 := b_x.out.cell 1
      have b_x_2 := b_x.out.cell 2
      have b_x_3 := b_x.out.cell 3
      have b_x_4 := b_x.out.cell 4
      have b_x_5 := b_x.out.cell 5
      simp only [List.getElem?_toArray, List.getElem?_cons_zero, List.getElem?_cons_succ] at b_x_0 b_x_1 b_x_2 b_x_3 b_x_4 b_x_5
      have b_x_f0 := b_x.out.free 0
      have b_x_f1 := b_x.out.free 1
      have b_x_f2 := b_x.out.free 2
      have b_x_f3 := b_x.out.free 3
      have b_x_f4 := b_x.out.free 4
      have b_x_f5 := b_x.out.free 5
      go_wp2_with fail
      clear b__0 b__f0 b__1 b__f1 b__2 b__f2 b__3 b__f3 b__4 b__f4 b__5 b__f5
      clear b_x_0 b_x_f0 b_x_1 b_x_f1 b_x_2 b_x_f2 b_x_3 b_x_f3 b_x_4 b_x_f4 b_x_5 b_x_f5
      go_ret
      exact ⟨rfl, B.out⟩
    · have hph : phas = true := (Hp.out.1 rfl).1
      subst hph
      have hk := (Hp.out.1 rfl).2.1
      simp only [] at hk
      have gk : (xkind == pkind) = true := by simpa using hk
      have Hkk := Lib.hid ((Hp.out.1 rfl).2.2)
      clear hk
      have b__o0 := (b_.out.alloc (.cells #[.bool true, .int .i32 xkind, .slice xA1 xn1 xc1, .slice xA2 xn2 xc2, .slice xA3 xn3 xc3, .slice xA4 xn4 xc4] 64)).cell 0
      have b__o1 := (b_.out.alloc (.cells #[.bool true, .int .i32 xkind, .slice xA1 xn1 xc1, .slice xA2 xn2 xc2, .slice xA3 xn3 xc3, .slice xA4 xn4 xc4] 64)).cell 1
      have b__o2 := (b_.out.alloc (.cells #[.bool true, .int .i32 xkind, .slice xA1 xn1 xc1, .slice xA2 xn2 xc2, .slice xA3 xn3 xc3, .slice xA4 xn4 xc4] 64)).cell 2
      have b__o3 := (b_.out.alloc (.cells #[.bool true, .int .i32 xkind, .slice xA1 xn1 xc1, .slice xA2 xn2 xc2, .slice xA3 xn3 xc3, .slice xA4 xn4 xc4] 64)).cell 3
      have b__o4 := (b_.out.alloc (.cells #[.bool true, .int .i32 xkind, .slice xA1 xn1 xc1, .slice xA2 xn2 xc2, .slice xA3 xn3 xc3, .slice xA4 xn4 xc4] 64)).cell 4
      have b__o5 := (b_.out.alloc (.cells #[.bool true, .int .i32 xkind, .slice xA1 xn1 xc1, .slice xA2 xn2 xc2, .slice xA3 xn3 xc3, .slice xA4 xn4 xc4] 64)).cell 5
      simp only [List.getElem?_toArray, List.getElem?_cons_zero, List.getElem?_cons_succ] at b__o0 b__o1 b__o2 b__o3 b__o4 b__o5
      have b__0 := b_.out.cell 0
      have b__1 := b_.out.cell 1
      have b__2 := b_.out.cell 2
      have b__3 := b_.out.cell 3
      have b__4 := b_.out.cell 4
      have b__5 := b_.out.cell 5
      simp only [List.getElem?_toArray, List.getElem?_cons_zero, List.getElem?_cons_succ] at b__0 b__1 b__2 b__3 b__4 b__5
      have b__f0 := b_.out.free 0
      have b__f1 := b_.out.free 1
      have b__f2 := b_.out.free 2
      have b__f3 := b_.out.free 3
      have b__f4 := b_.out.free 4
      have b__f5 := b_.out.free 5
      go_wp2_with fail
      clear b__o0 b__o1 b__o2 b__o3 b__o4 b__o5
      clear b__0 b__f0 b__1 b__f1 b__2 b__f2 b__3 b__f3 b__4 b__f4 b__5 b__f5
      clear gk
      have hb := below_alloc w8 (.cells #[.bool true, .int .i32 xkind, .slice xA1 xn1 xc1, .slice xA2 xn2 xc2, .slice xA3 xn3 xc3, .slice xA4 xn4 xc4] 64)
      have b_x := Lib.hid (Blk.new w8 64 #[.bool true, .int .i32 xkind, .slice xA1 xn1 xc1, .slice xA2 xn2 xc2, .slice xA3 xn3 xc3, .slice xA4 xn4 xc4])
      replace b_ := Lib.hid (b_.out.step hb)
      replace X_p := Lib.hid (X_p.out.step hb)
      replace X_b := Lib.hid (X_b.out.step hb)
      replace X_t := Lib.hid (X_t.out.step hb)
      replace X_c := Lib.hid (X_c.out.step hb)
      replace X_x := Lib.hid (X_x.out.step hb)
      replace B := Lib.hid (below_trans B.out hb)
      clear hb
      obtain ⟨g_x, hg_x⟩ : ∃ g, g = w8.heap.size := ⟨_, rfl⟩
      rw [← hg_x]
      rw [← hg_x] at b_x
      generalize hw9 : w8.alloc (.cells #[.bool true, .int .i32 xkind, .slice xA1 xn1 xc1, .slice xA2 xn2 xc2, .slice xA3 xn3 xc3, .slice xA4 xn4 xc4] 64) = w9 at *
      clear hw9
      clear hg_x
      obtain ⟨A1', n1', c1', A2', n2', c2', A3', n3', c3', A4', n4', c4', ea, z1, z2, z3, z4⟩ := EnvVal.form X_p.out
      injection ea with ea
      simp only [Array.mk.injEq, List.cons.injEq, Value.slice.injEq, and_true, true_and] at ea
      obtain ⟨⟨rfl, rfl, rfl⟩, ⟨rfl, rfl, rfl⟩, ⟨rfl, rfl, rfl⟩, rfl, rfl, rfl⟩ := ea
      have P_1 := Lib.hid z1
      have P_2 := Lib.hid z2
      have P_3 := Lib.hid z3
      have P_4 := Lib.hid z4
      clear z1 z2 z3 z4
      obtain ⟨A1', n1', c1', A2', n2', c2', A3', n3', c3', A4', n4', c4', ea, z1, z2, z3, z4⟩ := EnvVal.form X_x.out
      injection ea with ea
      simp only [Array.mk.injEq, List.cons.injEq, Value.slice.injEq, and_true, true_and] at ea
      obtain ⟨⟨rfl, rfl, rfl⟩, ⟨rfl, rfl, rfl⟩, ⟨rfl, rfl, rfl⟩, rfl, rfl, rfl⟩ := ea
      have Q_1 := Lib.hid z1
      have Q_2 := Lib.hid z2
      have Q_3 := Lib.hid z3
      have Q_4 := Lib.hid z4
      clear z1 z2 z3 z4
      refine (eqTrue Q_1.out P_1.out Hkk.out).mono ?_
      rintro e W_ ⟨rfl, rfl⟩
      have b__0 := b_.out.cell 0
      have b__1 := b_.out.cell 1
      have b__2 := b_.out.cell 2
      have b__3 := b_.out.cell 3
      have b__4 := b_.out.cell 4
      have b__5 := b_.out.cell 5
      simp only [List.getElem?_toArray, List.getElem?_cons_zero, List.getElem?_cons_succ] at b__0 b__1 b__2 b__3 b__4 b__5
      have b__f0 := b_.out.free 0
      have b__f1 := b_.out.free 1
      have b__f2 := b_.out.free 2
      have b__f3 := b_.out.free 3
      have b__f4 := b_.out.free 4
      have b__f5 := b_.out.free 5
      have b_x_0 := b_x.out.cell 0
      have b_x_1 := b_x.out.cell 1
      have b_x_2 := b_x.out.cell 2
      have b_x_3 := b_x.out.cell 3
      have b_x_4 := b_x.out.cell 4
      have b_x_5 := b_x.out.cell 5
      simp only [List.getElem?_toArray, List.getElem?_cons_zero, List.getElem?_cons_succ] at b_x_0 b_x_1 b_x_2 b_x_3 b_x_4 b_x_5
      have b_x_f0 := b_x.out.free 0
      have b_x_f1 := b_x.out.free 1
      have b_x_f2 := b_x.out.free 2
      have b_x_f3 := b_x.out.free 3
      have b_x_f4 := b_x.out.free 4
      have b_x_f5 := b_x.out.free 5
      go_wp2_with fail
      clear b__0 b__f0 b__1 b__f1 b__2 b__f2 b__3 b__f3 b__4 b__f4 b__5 b__f5
      clear b_x_0 b_x_f0 b_x_1 b_x_f1 b_x_2 b_x_f2 b_x_3 b_x_f3 b_x_4 b_x_f4 b_x_5 b_x_f5
      refine (partYes Q_2.out P_2.out Hp.out.2.1).mono ?_
      rintro e W_ ⟨rfl, rfl⟩
      have b__0 := b_.out.cell 0
      have b__1 := b_.out.cell 1
      have b__2 := b_.out.cell 2
      have b__3 := b_.out.cell 3
      have b__4 := b_.out.cell 4
      have b__5 := b_.out.cell 5
      simp only [List.getElem?_toArray, List.getElem?_cons_zero, List.getElem?_cons_succ] at b__0 b__1 b__2 b__3 b__4 b__5
      have b__f0 := b_.out.free 0
      have b__f1 := b_.out.free 1
      have b__f2 := b_.out.free 2
      have b__f3 := b_.out.free 3
      have b__f4 := b_.out.free 4
      have b__f5 := b_.out.free 5
      have b_x_0 := b_x.out.cell 0
      have b_x_1 := b_x.out.cell 1
      have b_x_2 := b_x.out.cell 2
      have b_x_3 := b_x.out.cell 3
      have b_x_4 := b_x.out.cell 4
      have b_x_5 := b_x.out.cell 5
      simp only [List.getElem?_toArray, List.getElem?_cons_zero, List.getElem?_cons_succ] at b_x_0 b_x_1 b_x_2 b_x_3 b_x_4 b_x_5
      have b_x_f0 := b_x.out.free 0
      have b_x_f1 := b_x.out.free 1
      have b_x_f2 := b_x.out.free 2
      have b_x_f3 := b_x.out.free 3
      have b_x_f4 := b_x.out.free 4
      have b_x_f5 := b_x.out.free 5
      go_wp2_with fail
      clear b__0 b__f0 b__1 b__f1 b__2 b__f2 b__3 b__f3 b__4 b__f4 b__5 b__f5
      clear b_x_0 b_x_f0 b_x_1 b_x_f1 b_x_2 b_x_f2 b_x_3 b_x_f3 b_x_4 b_x_f4 b_x_5 b_x_f5
      refine (partYes Q_3.out P_3.out Hp.out.2.2.1).mono ?_
      rintro e W_ ⟨rfl, rfl⟩
      have b__0 := b_.out.cell 0
      have b__1 := b_.out.cell 1
      have b__2 := b_.out.cell 2
      have b__3 := b_.out.cell 3
      have b__4 := b_.out.cell 4
      have b__5 := b_.out.cell 5
      simp only [List.getElem?_toArray, List.getElem?_cons_zero, List.getElem?_cons_succ] at b__0 b__1 b__2 b__3 b__4 b__5
      have b__f0 := b_.out.free 0
      have b__f1 := b_.out.free 1
      have b__f2 := b_.out.free 2
      have b__f3 := b_.out.free 3
      have b__f4 := b_.out.free 4
      have b__f5 := b_.out.free 5
      have b_x_0 := b_x.out.cell 0
      have b_x_1 := b_x.out.cell 1
      have b_x_2 := b_x.out.cell 2
      have b_x_3 := b_x.out.cell 3
      have b_x_4 := b_x.out.cell 4
      have b_x_5 := b_x.out.cell 5
      simp only [List.getElem?_toArray, List.getElem?_cons_zero, List.getElem?_cons_succ] at b_x_0 b_x_1 b_x_2 b_x_3 b_x_4 b_x_5
      have b_x_f0 := b_x.out.free 0
      have b_x_f1 := b_x.out.free 1
      have b_x_f2 := b_x.out.free 2
      have b_x_f3 := b_x.out.free 3
      have b_x_f4 := b_x.out.free 4
      have b_x_f5 := b_x.out.free 5
      go_wp2_with fail
      clear b__0 b__f0 b__1 b__f1 b__2 b__f2 b__3 b__f3 b__4 b__f4 b__5 b__f5
      clear b_x_0 b_x_f0 b_x_1 b_x_f1 b_x_2 b_x_f2 b_x_3 b_x_f3 b_x_4 b_x_f4 b_x_5 b_x_f5
      refine (partYes Q_4.out P_4.out Hp.out.2.2.2).mono ?_
      rintro e W_ ⟨rfl, rfl⟩
      have b__0 := b_.out.cell 0
      have b__1 := b_.out.cell 1
      have b__2 := b_.out.cell 2
      have b__3 := b_.out.cell 3
      have b__4 := b_.out.cell 4
      have b__5 := b_.out.cell 5
      simp only [List.getElem?_toArray, List.getElem?_cons_zero, List.getElem?_cons_succ] at b__0 b__1 b__2 b__3 b__4 b__5
      have b__f0 := b_.out.free 0
      have b__f1 := b_.out.free 1
      have b__f2 := b_.out.free 2
      have b__f3 := b_.out.free 3
      have b__f4 := b_.out.free 4
      have b__f5 := b_.out.free 5
      have b_x_0 := b_x.out.cell 0
      have b_x_1 := b_x.out.cell 1
      have b_x_2 := b_x.out.cell 2
      have b_x_3 := b_x.out.cell 3
      have b_x_4 := b_x.out.cell 4
      have b_x_5 := b_x.out.cell 5
      simp only [List.getElem?_toArray, List.getElem?_cons_zero, List.getElem?_cons_succ] at b_x_0 b_x_1 b_x_2 b_x_3 b_x_4 b_x_5
      have b_x_f0 := b_x.out.free 0
      have b_x_f1 := b_x.out.free 1
      have b_x_f2 := b_x.out.free 2
      have b_x_f3 := b_x.out.free 3
      have b_x_f4 := b_x.out.free 4
      have b_x_f5 := b_x.out.free 5
      go_wp2_with fail
      clear b__0 b__f0 b__1 b__f1 b__2 b__f2 b__3 b__f3 b__4 b__f4 b__5 b__f5
      clear b_x_0 b_x_f0 b_x_1 b_x_f1 b_x_2 b_x_f2 b_x_3 b_x_f3 b_x_4 b_x_f4 b_x_5 b_x_f5
      refine (envelopesLive (He.out.step B.out)).mono ?_
      rintro e w10 ⟨rfl, hb⟩
      replace b_ := Lib.hid (b_.out.step hb)
      replace X_p := Lib.hid (X_p.out.step hb)
      replace X_b := Lib.hid (X_b.out.step hb)
      replace X_t := Lib.hid (X_t.out.step hb)
      replace X_c := Lib.hid (X_c.out.step hb)
      replace X_x := Lib.hid (X_x.out.step hb)
      replace b_x := Lib.hid (b_x.out.step hb)
      replace P_1 := Lib.hid (P_1.out.step hb)
      replace P_2 := Lib.hid (P_2.out.step hb)
      replace P_3 := Lib.hid (P_3.out.step hb)
      replace P_4 := Lib.hid (P_4.out.step hb)
      replace Q_1 := Lib.hid (Q_1.out.step hb)
      replace Q_2 := Lib.hid (Q_2.out.step hb)
      replace Q_3 := Lib.hid (Q_3.out.step hb)
      replace Q_4 := Lib.hid (Q_4.out.step hb)
      replace B := Lib.hid (below_trans B.out hb)
      clear hb
      have b__0 := b_.out.cell 0
      have b__1 := b_.out.cell 1
      have b__2 := b_.out.cell 2
      have b__3 := b_.out.cell 3
      have b__4 := b_.out.cell 4
      have b__5 := b_.out.cell 5
      simp only [List.getElem?_toArray, List.getElem?_cons_zero, List.getElem?_cons_succ] at b__0 b__1 b__2 b__3 b__4 b__5
      have b__f0 := b_.out.free 0
      have b__f1 := b_.out.free 1
      have b__f2 := b_.out.free 2
      have b__f3 := b_.out.free 3
      have b__f4 := b_.out.free 4
      have b__f5 := b_.out.free 5
      have b_x_0 := b_x.out.cell 0
      have b_x_1 := b_x.out.cell 1
      have b_x_2 := b_x.out.cell 2
      have b_x_3 := b_x.out.cell 3
      have b_x_4 := b_x.out.cell 4
      have b_x_5 := b_x.out.cell 5
      simp only [List.getElem?_toArray, List.getElem?_cons_zero, List.getElem?_cons_succ] at b_x_0 b_x_1 b_x_2 b_x_3 b_x_4 b_x_5
      have b_x_f0 := b_x.out.free 0
      have b_x_f1 := b_x.out.free 1
      have b_x_f2 := b_x.out.free 2
      have b_x_f3 := b_x.out.free 3
      have b_x_f4 := b_x.out.free 4
      have b_x_f5 := b_x.out.free 5
      go_wp2_with fail
      clear b__0 b__f0 b__1 b__f1 b__2 b__f2 b__3 b__f3 b__4 b__f4 b__5 b__f5
      clear b_x_0 b_x_f0 b_x_1 b_x_f1 b_x_2 b_x_f2 b_x_3 b_x_f3 b_x_4 b_x_f4 b_x_5 b_x_f5
      go_ret
      exact ⟨rfl, B.out⟩

end
end Go.Proofs.YtcefcdmonfenoaaDoor

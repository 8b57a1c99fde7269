/- The walk of FnKeyRecordOrder. (Printed by gen_order.py.) -/
import Derived.Test.YtcefcdmonfenoaaDoorOr
import Derived.Deep.RegionHeld3
import Derived.Deep.DrawnRows
import Derived.Deep.DeepCutAuto
namespace Go.Proofs.YtcefcdmonfenoaaDoor
open Go.RowKit
set_option maxRecDepth 100000
attribute [local go_sem ↓] Go.wp_at_zero Go.wp_at_succ
section
variable {w : World} {v0 v1 v2 v3 : Value}

set_option maxHeartbeats 1000000 in
theorem walk_FnKeyRecordOrder {R : RV} {y : Int} (f0 : RecIn w v0 R) (f1 : IsInt .u8 v1 y) (he : HasErr w 4 ∧ HasErr w 5 ∧ HasErr w 6 ∧ HasErr w 7 ∧ HasErr w 8 ∧ HasErr w 9 ∧ HasErr w 0) :
    Calls Tryd.prog 14 #[v0, v1] w fun e w' => Yes w e w' := by
  have He := Lib.hid (rErr_of he)
  clear he
  obtain ⟨rfl, y1, y2⟩ := isU8 f1
  obtain ⟨y, rfl⟩ := Int.eq_ofNat_of_zero_le y1
  clear f1
  obtain ⟨hv, h64⟩ := f0
  obtain ⟨A1, n1, c1, A2, n2, c2, rfl, z1, z2⟩ := hv.form
  have X_v := Lib.hid hv
  have H64 := Lib.hid h64
  obtain ⟨sq, hsq⟩ : ∃ q, q = (R.seq : Int) := ⟨_, rfl⟩
  rw [← hsq] at X_v ⊢
  clear hv z1 z2 h64 hsq

  have B := Lib.hid (below_refl w)
  go_enter Tryd.func14, Tryd.ntmps14
  go_wp2_with fail
  have hb := below_alloc w (.cells #[.slice A1 n1 c1, .int .u64 sq, .slice A2 n2 c2] 49)
  have b_ := Lib.hid (Blk.new w 49 #[.slice A1 n1 c1, .int .u64 sq, .slice A2 n2 c2])
  replace X_v := Lib.hid (X_v.out.step hb)
  replace B := Lib.hid (below_trans B.out hb)
  clear hb
  obtain ⟨g_, hg_⟩ : ∃ g, g = w.heap.size := ⟨_, rfl⟩
  rw [← hg_]
  rw [← hg_] at b_
  generalize hw1 : w.alloc (.cells #[.slice A1 n1 c1, .int .u64 sq, .slice A2 n2 c2] 49) = w1 at *
  clear hw1
  clear hg_
  by_cases hs : R.fits31
  rotate_left
  · refine (zzFits13 X_v.out).mono ?_
    rintro e wn ⟨hans, hb⟩
    obtain rfl := hans.no hs
    clear hans
    go_wp2_with fail
    go_ret
    exact ⟨rfl, below_trans B.out hb⟩
  refine (zzFits13 X_v.out).mono ?_
  rintro e w2 ⟨hans, hb⟩
  obtain rfl := hans.yes hs
  clear hans
  replace X_v := Lib.hid (X_v.out.step hb)
  replace b_ := Lib.hid (b_.out.step hb)
  replace B := Lib.hid (below_trans B.out hb)
  clear hb
  clear hs
  have b__0 := b_.out.cell 0
  have b__1 := b_.out.cell 1
  have b__2 := b_.out.cell 2
  simp only [List.getElem?_toArray, List.getElem?_cons_zero, List.getElem?_cons_succ] at b__0 b__1 b__2
  have b__f0 := b_.out.free 0
  have b__f1 := b_.out.free 1
  have b__f2 := b_.out.free 2
  go_wp2_with fail
  clear b__0 b__f0 b__1 b__f1 b__2 b__f2
  by_cases hs : R.fits
  rotate_left
  · refine (recordFits X_v.out).mono ?_
    rintro e wn ⟨hans, hb⟩
    obtain rfl := hans.no hs
    clear hans
    replace B := Lib.hid (below_trans B.out hb)
    go_wp2_with fail
    refine (recordsLive (He.out.step B.out)).mono ?_
    rintro e wm ⟨rfl, hb⟩
    go_wp2_with fail
    go_ret
    exact ⟨rfl, below_trans B.out hb⟩
  refine (recordFits X_v.out).mono ?_
  rintro e w3 ⟨hans, hb⟩
  obtain rfl := hans.yes hs
  clear hans
  replace X_v := Lib.hid (X_v.out.step hb)
  replace b_ := Lib.hid (b_.out.step hb)
  replace B := Lib.hid (below_trans B.out hb)
  clear hb
  have Hs := Lib.hid (hs.small H64.out)
  have Hf := Lib.hid hs
  clear hs
  have b__0 := b_.out.cell 0
  have b__1 := b_.out.cell 1
  have b__2 := b_.out.cell 2
  simp only [List.getElem?_toArray, List.getElem?_cons_zero, List.getElem?_cons_succ] at b__0 b__1 b__2
  have b__f0 := b_.out.free 0
  have b__f1 := b_.out.free 1
  have b__f2 := b_.out.free 2
  go_upto_region 5 with fail
  clear b__0 b__f0 b__1 b__f1 b__2 b__f2
  have hlp : R.peer.length ≤ 300 := Hf.out.peer
  have HF := Lib.hid (show ∀ W, Below w3.heap.size w3 W → Calls Tryd.prog 34 #[.int .u64 1, .slice A1 n1 c1] W fun e w' => FreshN W (fieldEnc 1 R.peer) e w' from fun W hW => keyField (f := 1) (by omega) (X_v.out.parts'.1.step hW) (by omega))
  have HN := Lib.hid (show ∀ W, Calls Tryd.prog 33 #[.int .u64 2, .int .u64 sq] W fun e w' => FreshN W (seqN R.seq) e w' from fun W => by
    have h := keyNumber (w := W) (f := 2) (by omega) (n := sq) (by rw [X_v.out.parts'.2.1]; omega) (by rw [X_v.out.parts'.2.1]; have := H64.out; omega)
    rw [show sq.toNat = R.seq by rw [X_v.out.parts'.2.1]; simp, numEnc_seqN] at h
    exact h)
  have b_d := Lib.hid b_.out.drew
  go_cut [5] (fun s5 wx => ∃ (A : Option Addr) (n c : Nat), s5 = .slice A n c ∧ Hid (BssO w3.heap.size wx (.slice A n c) (ordP R [])) ∧ Hid (Below w3.heap.size w3 wx))
  case first =>
    go_region_held3 (fun W => W.cell? ⟨g_, 0, none⟩ = some (.slice A1 n1 c1) ∧ W.cell? ⟨g_, 1, none⟩ = some (.int .u64 sq)) (with_reducible first | exact recHeld b_d.out | exact recHeld b1.out | exact recHeld b2.out | exact recHeld (b2.out.alloc _)) (first
      | (go_at_call 34; (first
        | ((with_reducible refine (HF.out _ (below_drew w3)).mono ?_); rintro e wa ⟨xa, rfl, ho, hb, ⟨A_a, n_a, c_a, rfl⟩⟩; have Xa := Lib.hid ho.bs; have B1 := Lib.hid (below_trans (below_drew w3) hb); have b1 := Lib.hid (b_.out.step B1.out); clear ho hb)
        | ((with_reducible refine (HF.out _ B1.out).mono ?_); rintro e wb ⟨xa, rfl, ho, hb, ⟨A_a, n_a, c_a, rfl⟩⟩; have Xa := Lib.hid ho.bs; replace Xn := Lib.hid (Xn.out.step hb); have BL := Lib.hid (below_trans B1.out hb); have b2 := Lib.hid (b_.out.step BL.out); clear ho hb)))
      | (go_at_call 33; (first
        | ((with_reducible refine (HN.out w3.drew).mono ?_); rintro e wa ⟨xa, rfl, ho, hb, ⟨A_n, n_n, c_n, rfl⟩⟩; have Xn := Lib.hid ho.bs; have B1 := Lib.hid (below_trans (below_drew w3) hb); have b1 := Lib.hid (b_.out.step B1.out); clear ho hb)
        | ((with_reducible refine (HN.out _).mono ?_); rintro e wb ⟨xa, rfl, ho, hb, ⟨A_n, n_n, c_n, rfl⟩⟩; have Xn := Lib.hid ho.bs; replace Xa := Lib.hid (Xa.out.step hb); have BL := Lib.hid (below_trans B1.out hb); have b2 := Lib.hid (b_.out.step BL.out); clear ho hb))))
    all_goals
      have P := Lib.hid (bssO_lit2 Xa.out Xn.out BL.out.size)
      have BP := Lib.hid (below_trans BL.out (below_alloc _ (.cells #[.slice A_a n_a c_a, .slice A_n n_n c_n] 23)))
      go_wp2_with fail
      go_meet
      exact ⟨_, _, _, rfl, P, BP⟩
  case rest =>
    obtain ⟨Ap, np, cp, rfl, HO, HB⟩ := hcut
    obtain ⟨wP, rfl⟩ : ∃ wP : World, wP = wc := ⟨_, rfl⟩
    clear HF HN b_d
    obtain ⟨na, hna⟩ : ∃ na, na = R.addrs.length := ⟨_, rfl⟩
    have Hna := Lib.hid hna
    obtain rfl : n2 = na := by rw [hna]; exact bss_len X_v.out.parts'.2.2
    have hn20 : n2 ≤ 20 := by rw [hna]; exact Hf.out.many
    have HL := Lib.hid X_v.out.parts'.2.2
    have Hal := Lib.hid Hf.out.addrs
    clear hna
    have a2 : wP.cell? ⟨g_, 2, none⟩ = some (.slice A2 n2 c2) := (b_.out.step HB.out).cell 2
    go_wp2_with fail
    clear a2
    go_loopw [5, 29] (fun s i wr => ∃ k : Nat, k ≤ n2 ∧ i = .int .i64 (k : Int) ∧ (∃ A n c, s = .slice A n c) ∧ Hid (BssO w3.heap.size wr s (ordP R (R.addrs.take k))) ∧ Hid (Below w3.heap.size w3 wr)) (fun _ i _ => n2 - (intOf i).toNat)
    case atStart => exact ⟨0, Nat.zero_le _, rfl, ⟨_, _, _, rfl⟩, HO, HB⟩
    case round =>
      obtain ⟨k, hk, rfl, ⟨Ad, nd, cd, rfl⟩, ho, hb⟩ := hrel
      clear HO HB
      have hsz := hb.out.size
      by_cases hlt : k < n2
      · have hkL : k < R.addrs.length := by have := Hna.out; omega
        obtain ⟨xs, hrow, hall⟩ := ho.out
        have Hrow := Lib.hid hrow
        have Hall := Lib.hid hall
        have hxl : xs.length + 1 ≤ 1000000000000 := by have := hall.length; rw [ordP_len] at this; have : (R.addrs.take k).length ≤ k := List.length_take_le _ _; omega
        clear hrow hall
        obtain ⟨gr, oo, A', n', c', rfl, hcell, hbs⟩ := (HL.out.below hb.out).at' hkL
        have Hb2 := Lib.hid (hbs.more hsz)
        have hle : R.addrs[k].length ≤ 300 := Hal.out _ (List.getElem_mem hkL)
        have hfl : (fieldEnc 1 R.addrs[k]).length ≤ 320 := by have := fieldEnc_le' 1 R.addrs[k] (by omega); omega
        have Hsu := Lib.hid (ordP_snoc R hkL)
        clear hbs
        go_wp2_with fail
        refine (keyField (f := 1) (by omega) Hb2.out (by omega)).mono ?_
        rintro e wa ⟨v3, rfl, ho3, hb3, ⟨A3, n3, c3, rfl⟩⟩
        have Y3 := Lib.hid ho3.bs
        have B3 := Lib.hid hb3
        clear ho3 hb3
        go_wp2_with fail
        refine (keyField (f := 3) (by omega) Y3.out (by omega)).mono ?_
        rintro e wb ⟨v4, rfl, ho4, hb4, ⟨A4, n4, c4, rfl⟩⟩
        have Ho4 := Lib.hid (show Own wb wr.heap.size (.slice A4 n4 c4) (addrG R.addrs[k]) from ho4.more B3.out.size)
        have B4 := Lib.hid (below_trans B3.out hb4)
        have Hrowb := Lib.hid (Hrow.out.step B4.out)
        have hs4 := B4.out.size
        clear ho4 hb4
        go_wp2_with (at_builtin; refine wpList_app1 (by rfl) _ _ (by rfl) Tryd.underlying47 Tryd.infoBs rfl (u := .slice A4 n4 c4) (by rfl) (by rfl) (Hrowb.out.alloc _) (by simp [World.cell?_alloc_at]) rfl hxl (by omega) (by simp; omega) ?_; intro v5 wd hrow5 hg5 hm5; have HP := Lib.hid (ordPush Hrow.out Hall.out hsz B4.out Ho4.out hrow5 hg5 hm5); clear hrow5 hg5 hm5)
        have e1 := Lib.hid (show BssO w3.heap.size wd v5 (ordP R (R.addrs.take (k + 1))) by rw [Hsu.out]; exact HP.out.1)
        have e2 := Lib.hid (hb.out.trans HP.out.2)
        obtain ⟨A5, n5, c5, rfl⟩ : ∃ A n c, v5 = .slice A n c := by obtain ⟨xs, h1, _⟩ := e1.out; exact h1.sliceForm
        clear HP
        go_roundw
        case rel => exact ⟨k + 1, by omega, by go_num, ⟨_, _, _, rfl⟩, e1, e2⟩
        case measure => simp [intOf]; omega
      · obtain rfl : k = n2 := by omega
        have HP := Lib.hid (show Bss wr wr.heap.size (.slice Ad nd cd) (ordP R R.addrs) by have := ho.out.bss; rw [Hna.out, List.take_length] at this; exact this)
        have hnd : nd = k + 2 := by have := bss_len HP.out; rw [ordP_len, ← Hna.out] at this; exact this
        subst hnd
        clear ho hlt
        replace X_v := Lib.hid (X_v.out.step hb.out)
        replace b_ := Lib.hid (b_.out.step hb.out)
        replace B := Lib.hid (below_trans B.out hb.out)
        clear hb HL hsz
        have hj : y % (k + 2) < k + 2 := Nat.mod_lt _ (by omega)
        obtain ⟨j, hj2⟩ : ∃ j, j = y % (k + 2) := ⟨_, rfl⟩
        have hjq : (y : Int) % ((k + 2 : Nat) : Int) = (j : Int) := by rw [hj2]; simp
        rw [← hj2] at hj
        clear hj2
        obtain ⟨q, hq⟩ : ∃ q, q = k + 2 := ⟨_, rfl⟩
        have Hq := Lib.hid hq
        rw [← hq] at hj hjq HP ⊢
        have hq2 : 2 ≤ q := by omega
        have hq22 : q ≤ 22 := by omega
        clear hq
        go_upto_region 12 with fail
        rw [hjq]
        obtain ⟨Ax, hx1, hx2⟩ := sliceL_from HP.out hq2
        obtain ⟨hy1, hy2⟩ := sliceL_to HP.out hq2
        have hs1 : ∀ W : World, (Instr.slice 47 (.slice Ad q cd) (some (.int .i64 2)) none none).run Tryd.prog W = .ok (.slice Ax (q - 2) (cd - 2)) W := fun W => hx1 W .i64
        have hs2 : ∀ W : World, (Instr.slice 47 (.slice Ad q cd) none (some (.int .i64 2)) none).run Tryd.prog W = .ok (.slice Ad 2 cd) W := fun W => hy1 W .i64
        have Hx := Lib.hid (show AllBss wr wr.heap.size [.slice Ax (q - 2) (cd - 2), .slice Ad 2 cd] [(ordP R R.addrs).drop 2, (ordP R R.addrs).take 2] from ⟨hx2, hy2, trivial⟩)
        have HQ0 := Lib.hid (ordQ_of R)
        clear hx1 hx2 hy1 hy2
        have LA := Lib.hid (Bsss.lit wr 47 [.slice Ax (q - 2) (cd - 2), .slice Ad 2 cd] [(ordP R R.addrs).drop 2, (ordP R R.addrs).take 2] Hx.out (by simp) wr.heap.size 2 2 rfl rfl rfl).drew'
        have HC := Lib.hid (show ∀ W v, Bsss W W.heap.size v [(ordP R R.addrs).drop 2, (ordP R R.addrs).take 2] → Calls Tryd.prog 48 #[v] W fun e w' => ∃ v', e = .returned v' ∧ RowBs w' W.heap.size v' (ordQ R) ∧ Below W.heap.size W w' from fun W v h => by
          have := concatL h (by rw [HQ0.out, ordQ_len]; have := Hna.out; omega)
          rwa [HQ0.out] at this)
        go_cut [9] (fun s9 wx => ∃ (A : Option Addr) (n c : Nat), s9 = .slice A n c ∧ Hid (Bss wx wx.heap.size (.slice A n c) (ordQ R)) ∧ Hid (Below wr.heap.size wr wx))
        case first =>
          go_region_held3 (fun _ => True) (trivial) ((go_at_call 48; (with_reducible refine (HC.out _ _ LA.out).mono ?_); rintro e we ⟨ve, rfl, ho, hb⟩; obtain ⟨Ae, ne, ce, rfl⟩ := ho.sliceForm'; have E1 := Lib.hid (show Bss we we.heap.size (.slice Ae ne ce) (ordQ R) from ho.bss hb.size); have E2 := Lib.hid (below_trans (below_alloc wr _).drew hb); clear ho hb))
          go_wp2_with fail
          go_meet
          exact ⟨_, _, _, rfl, E1, E2⟩
        case rest =>
          clear hs1 hs2 Hx HQ0 HC LA
          obtain ⟨Aq, nq, cq, rfl, HQ, HB⟩ := hcut
          obtain ⟨wQ, rfl⟩ : ∃ wQ : World, wQ = wc := ⟨_, rfl⟩
          obtain rfl : nq = q := by have := bss_len HQ.out; rw [ordQ_len, ← Hna.out] at this; have := Hq.out; omega
          have hm : 1 ≤ nq := by omega
          have hjm : j ≤ nq - 1 := by omega
          have hq1 : (nq : Int) - 1 = ((nq - 1 : Nat) : Int) := by omega
          have hwr : IntKind.i64.wrap ((nq : Int) - 1) = (nq : Int) - 1 := by rw [IntKind.wrap_i64]; omega
          obtain ⟨hx1, hx2⟩ := sliceL_to HQ.out (n := j) (by omega)
          obtain ⟨Ay, hy1, hy2⟩ := sliceL_from HQ.out (n := nq - 1) (by omega)
          obtain ⟨Az, hz1, hz2⟩ := sliceL_mid HQ.out hjm (by omega)
          have hs1 : ∀ W : World, (Instr.slice 47 (.slice Aq nq cq) none (some (.int .i64 (j : Int))) none).run Tryd.prog W = .ok (.slice Aq j cq) W := fun W => hx1 W .i64
          have hs2 : ∀ W : World, (Instr.slice 47 (.slice Aq nq cq) (some (.int .i64 ((nq : Int) - 1))) none none).run Tryd.prog W = .ok (.slice Ay (nq - (nq - 1)) (cq - (nq - 1))) W := fun W => by rw [hq1]; exact hy1 W .i64
          have hs3 : ∀ W : World, (Instr.slice 47 (.slice Aq nq cq) (some (.int .i64 (j : Int))) (some (.int .i64 ((nq : Int) - 1))) none).run Tryd.prog W = .ok (.slice Az (nq - 1 - j) (cq - j)) W := fun W => by rw [hq1]; exact hz1 W .i64 .i64
          have Hx := Lib.hid (show AllBss wQ wQ.heap.size [.slice Aq j cq, .slice Ay (nq - (nq - 1)) (cq - (nq - 1)), .slice Az (nq - 1 - j) (cq - j)] [(ordQ R).take j, (ordQ R).drop (nq - 1), ((ordQ R).take (nq - 1)).drop j] from ⟨hx2, hy2, hz2, trivial⟩)
          have HQ0 := Lib.hid (orderL_of R hjm (by have := Hq.out; have := Hna.out; omega))
          have HL := Lib.hid (orderL_len Hf.out H64.out j)
          have Hjm := Lib.hid hjm
          have hlt : (j : Int) < (nq : Int) := by omega
          clear hx1 hx2 hy1 hy2 hz1 hz2 hq1 hjm
          replace X_v := Lib.hid (X_v.out.step HB.out)
          replace b_ := Lib.hid (b_.out.step HB.out)
          replace B := Lib.hid (below_trans B.out HB.out)
          clear HB
          have LA := Lib.hid (Bsss.lit wQ 47 [.slice Aq j cq, .slice Ay (nq - (nq - 1)) (cq - (nq - 1)), .slice Az (nq - 1 - j) (cq - j)] [(ordQ R).take j, (ordQ R).drop (nq - 1), ((ordQ R).take (nq - 1)).drop j] Hx.out (by simp) wQ.heap.size 3 3 rfl rfl rfl).drew'
          have HC := Lib.hid (show ∀ W v, Bsss W W.heap.size v [(ordQ R).take j, (ordQ R).drop (nq - 1), ((ordQ R).take (nq - 1)).drop j] → Calls Tryd.prog 48 #[v] W fun e w' => ∃ v', e = .returned v' ∧ RowBs w' W.heap.size v' (orderL R j) ∧ Below W.heap.size W w' from fun W v h => by
            have := concatL h (by rw [HQ0.out]; have := HL.out.2; omega)
            rwa [HQ0.out] at this)
          go_upto_region 14 with fail
          go_cut [9] (fun s9 wx => ∃ (A : Option Addr) (n c : Nat), s9 = .slice A n c ∧ Hid (Bss wx wx.heap.size (.slice A n c) (orderL R j)) ∧ Hid (Below wQ.heap.size wQ wx))
          case first =>
            go_region_held3 (fun _ => True) (trivial) ((go_at_call 48; (with_reducible refine (HC.out _ _ LA.out).mono ?_); rintro e we ⟨ve, rfl, ho, hb⟩; obtain ⟨Ae, ne, ce, rfl⟩ := ho.sliceForm'; have E1 := Lib.hid (show Bss we we.heap.size (.slice Ae ne ce) (orderL R j) from ho.bss hb.size); have E2 := Lib.hid (below_trans (below_alloc wQ _).drew hb); clear ho hb))
            go_wp2_with fail
            go_meet
            exact ⟨_, _, _, rfl, E1, E2⟩
          case rest =>
            clear hs1 hs2 hs3 Hx HQ0 HC LA hwr hlt HQ HP
            obtain ⟨Ao, no, co, rfl, X_o, HB⟩ := hcut
            obtain ⟨wO, rfl⟩ : ∃ wO : World, wO = wc := ⟨_, rfl⟩
            replace X_v := Lib.hid (X_v.out.step HB.out)
            replace b_ := Lib.hid (b_.out.step HB.out)
            replace B := Lib.hid (below_trans B.out HB.out)
            have Hd := Lib.hid (recDec_order (R := R) Hs.out.ok j (by have := Hjm.out; have := Hq.out; have := Hna.out; omega))
            clear HB

            have b__0 := b_.out.cell 0
            have b__1 := b_.out.cell 1
            have b__2 := b_.out.cell 2
            simp only [List.getElem?_toArray, List.getElem?_cons_zero, List.getElem?_cons_succ] at b__0 b__1 b__2
            have b__f0 := b_.out.free 0
            have b__f1 := b_.out.free 1
            have b__f2 := b_.out.free 2
            go_wp2_with fail
            clear b__0 b__f0 b__1 b__f1 b__2 b__f2
            refine (concat X_o.out (by have := HL.out.1; omega)).mono ?_
            rintro e z1 ⟨m, rfl, ho, hb⟩
            have X_m := Lib.hid ho.bs
            replace X_v := Lib.hid (X_v.out.step hb)
            replace b_ := Lib.hid (b_.out.step hb)
            replace B := Lib.hid (below_trans B.out hb)
            clear hb ho
            obtain ⟨A_m, n_m, c_m, rfl⟩ := hid_exists_bs X_m.out
            have b__0 := b_.out.cell 0
            have b__1 := b_.out.cell 1
            have b__2 := b_.out.cell 2
            simp only [List.getElem?_toArray, List.getElem?_cons_zero, List.getElem?_cons_succ] at b__0 b__1 b__2
            have b__f0 := b_.out.free 0
            have b__f1 := b_.out.free 1
            have b__f2 := b_.out.free 2
            go_wp2_with fail
            clear b__0 b__f0 b__1 b__f1 b__2 b__f2
            refine (recordOf X_m.out (He.out.step B.out) (by have := HL.out.1; omega)).mono ?_
            rintro e z2 ⟨hb, hans⟩
            obtain ⟨vx, rfl, hx⟩ := recSome hans Hd.out
            clear hans
            replace X_v := Lib.hid (X_v.out.step hb)
            replace b_ := Lib.hid (b_.out.step hb)
            replace X_m := Lib.hid (X_m.out.step hb)
            replace B := Lib.hid (below_trans B.out hb)
            clear hb
            obtain ⟨xA1, xn1, xc1, xA2, xn2, xc2, rfl, z1, z2⟩ := hx.form
            have X_x := Lib.hid hx
            obtain ⟨xsq, hxsq⟩ : ∃ q, q = (R.seq : Int) := ⟨_, rfl⟩
            rw [← hxsq] at X_x ⊢
            clear hx z1 z2 hxsq
            have b__o0 := (b_.out.alloc (.cells #[.slice xA1 xn1 xc1, .int .u64 xsq, .slice xA2 xn2 xc2] 49)).cell 0
            have b__o1 := (b_.out.alloc (.cells #[.slice xA1 xn1 xc1, .int .u64 xsq, .slice xA2 xn2 xc2] 49)).cell 1
            have b__o2 := (b_.out.alloc (.cells #[.slice xA1 xn1 xc1, .int .u64 xsq, .slice xA2 xn2 xc2] 49)).cell 2
            simp only [List.getElem?_toArray, List.getElem?_cons_zero, List.getElem?_cons_succ] at b__o0 b__o1 b__o2
            have b__0 := b_.out.cell 0
            have b__1 := b_.out.cell 1
            have b__2 := b_.out.cell 2
            simp only [List.getElem?_toArray, List.getElem?_cons_zero, List.getElem?_cons_succ] at b__0 b__1 b__2
            have b__f0 := b_.out.free 0
            have b__f1 := b_.out.free 1
            have b__f2 := b_.out.free 2
            go_wp2_with fail
            clear b__o0 b__o1 b__o2
            clear b__0 b__f0 b__1 b__f1 b__2 b__f2
            have hb := below_alloc z2 (.cells #[.slice xA1 xn1 xc1, .int .u64 xsq, .slice xA2 xn2 xc2] 49)
            have b_x := Lib.hid (Blk.new z2 49 #[.slice xA1 xn1 xc1, .int .u64 xsq, .slice xA2 xn2 xc2])
            replace X_v := Lib.hid (X_v.out.step hb)
            replace b_ := Lib.hid (b_.out.step hb)
            replace X_m := Lib.hid (X_m.out.step hb)
            replace X_x := Lib.hid (X_x.out.step hb)
            replace B := Lib.hid (below_trans B.out hb)
            clear hb
            obtain ⟨g_x, hg_x⟩ : ∃ g, g = z2.heap.size := ⟨_, rfl⟩
            rw [← hg_x]
            rw [← hg_x] at b_x
            generalize hz3 : z2.alloc (.cells #[.slice xA1 xn1 xc1, .int .u64 xsq, .slice xA2 xn2 xc2] 49) = z3 at *
            clear hz3
            clear hg_x
            have b__0 := b_.out.cell 0
            have b__1 := b_.out.cell 1
            have b__2 := b_.out.cell 2
            simp only [List.getElem?_toArray, List.getElem?_cons_zero, List.getElem?_cons_succ] at b__0 b__1 b__2
            have b__f0 := b_.out.free 0
            have b__f1 := b_.out.free 1
            have b__f2 := b_.out.free 2
            have b_x_0 := b_x.out.cell 0
            have b_x_1 := b_x.out.cell 1
            have b_x_2 := b_x.out.cell 2
            simp only [List.getElem?_toArray, List.getElem?_cons_zero, List.getElem?_cons_succ] at b_x_0 b_x_1 b_x_2
            have b_x_f0 := b_x.out.free 0
            have b_x_f1 := b_x.out.free 1
            have b_x_f2 := b_x.out.free 2
            go_wp2_with fail
            clear b__0 b__f0 b__1 b__f1 b__2 b__f2
            clear b_x_0 b_x_f0 b_x_1 b_x_f1 b_x_2 b_x_f2
            have hs : R = R := rfl
            refine (sameRecord X_x.out X_v.out).mono ?_
            rintro e z4 ⟨hans, hb⟩
            obtain rfl := hans.yes hs
            clear hans
            replace X_v := Lib.hid (X_v.out.step hb)
            replace b_ := Lib.hid (b_.out.step hb)
            replace X_m := Lib.hid (X_m.out.step hb)
            replace X_x := Lib.hid (X_x.out.step hb)
            replace b_x := Lib.hid (b_x.out.step hb)
            replace B := Lib.hid (below_trans B.out hb)
            clear hb
            clear hs
            have b__0 := b_.out.cell 0
            have b__1 := b_.out.cell 1
            have b__2 := b_.out.cell 2
            simp only [List.getElem?_toArray, List.getElem?_cons_zero, List.getElem?_cons_succ] at b__0 b__1 b__2
            have b__f0 := b_.out.free 0
            have b__f1 := b_.out.free 1
            have b__f2 := b_.out.free 2
            have b_x_0 := b_x.out.cell 0
            have b_x_1 := b_x.out.cell 1
            have b_x_2 := b_x.out.cell 2
            simp only [List.getElem?_toArray, List.getElem?_cons_zero, List.getElem?_cons_succ] at b_x_0 b_x_1 b_x_2
            have b_x_f0 := b_x.out.free 0
            have b_x_f1 := b_x.out.free 1
            have b_x_f2 := b_x.out.free 2
            go_wp2_with fail
            clear b__0 b__f0 b__1 b__f1 b__2 b__f2
            clear b_x_0 b_x_f0 b_x_1 b_x_f1 b_x_2 b_x_f2
            refine (recordsLive (He.out.step B.out)).mono ?_
            rintro e z5 ⟨rfl, hb⟩
            replace X_v := Lib.hid (X_v.out.step hb)
            replace b_ := Lib.hid (b_.out.step hb)
            replace X_m := Lib.hid (X_m.out.step hb)
            replace X_x := Lib.hid (X_x.out.step hb)
            replace b_x := Lib.hid (b_x.out.step hb)
            replace B := Lib.hid (below_trans B.out hb)
            clear hb
            have b__0 := b_.out.cell 0
            have b__1 := b_.out.cell 1
            have b__2 := b_.out.cell 2
            simp only [List.getElem?_toArray, List.getElem?_cons_zero, List.getElem?_cons_succ] at b__0 b__1 b__2
            have b__f0 := b_.out.free 0
            have b__f1 := b_.out.free 1
            have b__f2 := b_.out.free 2
            have b_x_0 := b_x.out.cell 0
            have b_x_1 := b_x.out.cell 1
            have b_x_2 := b_x.out.cell 2
            simp only [List.getElem?_toArray, List.getElem?_cons_zero, List.getElem?_cons_succ] at b_x_0 b_x_1 b_x_2
            have b_x_f0 := b_x.out.free 0
            have b_x_f1 := b_x.out.free 1
            have b_x_f2 := b_x.out.free 2
            go_wp2_with fail
            clear b__0 b__f0 b__1 b__f1 b__2 b__f2
            clear b_x_0 b_x_f0 b_x_1 b_x_f1 b_x_2 b_x_f2
            go_ret
            exact ⟨rfl, B.out⟩

end
end Go.Proofs.YtcefcdmonfenoaaDoor

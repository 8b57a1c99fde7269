/- The walk of FnKeyWires. -/
import Derived.Test.YtcefcdmonfenoaaDoorKt
import Derived.Test.YtcefcdmonfenoaaDoorWKeyTorn
import Derived.Test.YtcefcdmonfenoaaDoorArr
import Derived.Deep.RegionHeld3
import Derived.Deep.DrawnRows
namespace Go.Proofs.YtcefcdmonfenoaaDoor
open Go.RowKit
set_option maxRecDepth 100000
attribute [local go_sem ↓] Go.wp_at_zero Go.wp_at_succ
section
variable {w : World} {v0 v1 v2 v3 : Value} {k : Int} {l : List UInt8}


/-- the fields of other wires, behind one another -/
def otherWires (n : Nat) (d m : List UInt8) : List UInt8 := numEnc 2 n ++ (fieldEnc 1 d ++ (UInt8.ofNat 9 :: (m ++ (UInt8.ofNat 21 :: (m.take 4 ++ [])))))
theorem keyRun_other {s : KS} {n : Nat} {d m : List UInt8} (hn : n < 2 ^ 64) (hd : d.length < 2 ^ 64) (hm : m.length = 8) : keyRun s (otherWires n d m) = some s := by
  unfold otherWires
  rw [keyRun_num2 hn, keyRun_bytes1 hd, keyRun_eight hm, keyRun_four (by rw [List.length_take]; omega), keyRun_nil]
theorem keyDec_wires {k : Int} {n : Nat} {d m : List UInt8} (h1 : -2147483648 ≤ k) (h2 : k ≤ 2147483647) (hn : n < 2 ^ 64) (hd : d.length < 2 ^ 64) (hm : m.length = 8) : keyDec (keyEnc k d ++ otherWires n d m) = some (k, d) := by
  have e : keyRun KS.none (keyEnc k d ++ otherWires n d m) = some ⟨some k, some d⟩ := by
    rw [keyEnc_eq, List.append_assoc, keyRun_kindF h1 h2, keyRun_dataF hd, keyRun_other hn hd hm]
  unfold keyDec; rw [e]
theorem keyDec_two {n : Nat} {d : List UInt8} (hn : n < 2 ^ 64) (hd : d.length < 2 ^ 64) : keyDec (numEnc 2 n ++ fieldEnc 1 d) = none := by
  refine keyDec_part (s := KS.none) ?_ rfl
  rw [keyRun_num2 hn, ← List.append_nil (fieldEnc 1 d), keyRun_bytes1 hd, keyRun_nil]
theorem numEnc_length (f n : Nat) (hf : f < 16) (hn : n < 2 ^ 64) : (numEnc f n).length ≤ 20 := by
  have h1 : (Wire.venc (f * 8)).length ≤ 10 := Wire.venc_length_u64 (by omega)
  have h2 : (Wire.venc n).length ≤ 10 := Wire.venc_length_u64 hn
  unfold numEnc; rw [List.length_append]; omega
theorem fieldEnc_le (f : Nat) (d : List UInt8) (hd : d.length < 2 ^ 64) : (fieldEnc f d).length ≤ d.length + 11 := by
  have h2 : (Wire.venc d.length).length ≤ 10 := Wire.venc_length_u64 hd
  rw [fieldEnc_length]; omega

set_option maxHeartbeats 4000000 in
theorem FnKeyWires_main {x : Int} {m : List UInt8} (f0 : IsInt .i32 v0 k) (f1 : Bs w w.heap.size v1 l) (f2 : IsInt .u64 v2 x) (f3 : IsArr v3 8 m) (he : CErr w) (hl : l.length ≤ 300) :
    Calls Tryd.prog 7 #[v0, v1, v2, v3] w fun e w' => Yes w e w' := by
  obtain ⟨rfl, a1, a2⟩ := isI32 f0
  obtain ⟨rfl, b1, b2⟩ := isU64 f2
  obtain ⟨rfl, hm⟩ := f3
  have hm0 := hm
  have hba := below_alloc w (.cells (bvs m).toArray 42)
  have He := Lib.hid (he.step hba)
  have X_l := Lib.hid (f1.step hba)
  have X_m := Lib.hid (Bs.arr w 42 m (by omega) _ 8 8 rfl hm.symm hm.symm)
  have X_f := Lib.hid (X_m.out.front (k := 4) (by omega))
  obtain ⟨A1, N, c1, rfl, hN, hc1, hm1⟩ := f1.form'
  have hN' : N ≤ 300 := by rw [hN.out]; exact hl
  obtain ⟨y, rfl⟩ := Int.eq_ofNat_of_zero_le b1
  have hle := Lib.hid (keyEnc_length k l (by omega))
  have hln := Lib.hid (numEnc_length 2 y (by omega) (by omega))
  have hlf := Lib.hid (fieldEnc_le 1 l (by omega))
  have Hd := Lib.hid (keyDec_wires a1 a2 (n := y) (d := l) (m := m) (by omega) (by omega) hm)
  have Ht := Lib.hid (keyDec_two (n := y) (d := l) (by omega) (by omega))
  have b2' : (y : Int) < 18446744073709551616 := by omega
  have Hn2 := Lib.hid (show ∀ W : World, Calls Tryd.prog 33 #[.int .u64 2, .int .u64 (y : Int)] W fun e w' => FreshN W (numEnc 2 y) e w' from fun W => by
    have := keyNumber (w := W) (f := 2) (by omega) (n := (y : Int)) (by omega) b2'
    rw [Int.toNat_natCast] at this
    exact this)
  have Hlit := Lib.hid (show [keyEnc k l, numEnc 2 y, fieldEnc 1 l, Wire.venc (9 : Int).toNat, m, Wire.venc (21 : Int).toNat, m.take 4].flatten = keyEnc k l ++ otherWires y l m by
    rw [show Wire.venc (9 : Int).toNat = [UInt8.ofNat 9] from Wire.venc_lt (by decide), show Wire.venc (21 : Int).toNat = [UInt8.ofNat 21] from Wire.venc_lt (by decide)]
    simp [otherWires])
  have H99 := Lib.hid (show (Wire.venc 9).length ≤ 1 ∧ (Wire.venc 21).length ≤ 1 by
    rw [Wire.venc_lt (by decide), Wire.venc_lt (by decide)]
    simp)
  have Hlen6 := Lib.hid (show (keyEnc k l ++ otherWires y l m).length ≤ 1000 by
    rw [← Hlit.out]
    have h1 := hle.out; have h2 := hln.out; have h3 := hlf.out; have h6 := H99.out
    have h4 : (m.take 4).length = 4 := by rw [List.length_take]; omega
    simp [-List.length_take]; omega)
  have Hm := Lib.hid hm
  have H4 := Lib.hid (show (m.take 4).length = 4 by rw [List.length_take]; omega)
  have B := Lib.hid hba
  clear f0 f1 he f2 hm hm0 hba b2' b2
  generalize hw0 : w.alloc (.cells (bvs m).toArray 42) = w0 at *
  have Hw0 := Lib.hid hw0
  clear hw0
  go_enter Tryd.func7, Tryd.ntmps7
  go_wp2_with fail
  rw [Hw0.out]
  go_region_held3 (fun _ => True) (trivial) (first
    | (go_at_call 29; refine (specKeyBytes X_l.out.drew1 a1 a2 (by omega)).mono ?_; rintro e w1 ⟨x1, rfl, ho, hb, ⟨A_1, n_1, c_1, rfl⟩⟩; replace hb := below_trans (below_drew w0) hb; have X_1 := Lib.hid ho.bs; have B1 := Lib.hid hb; clear ho hb)
    | (go_at_call 33; refine (Hn2.out _).mono ?_; rintro e w2 ⟨x2, rfl, ho, hb, ⟨A_2, n_2, c_2, rfl⟩⟩; have X_2 := Lib.hid ho.bs; replace X_1 := Lib.hid (X_1.out.step hb); have B2 := Lib.hid (below_trans B1.out hb); clear ho hb)
    | (go_at_call 34; refine (keyField (f := 1) (by omega) (X_l.out.step B2.out) (by omega)).mono ?_; rintro e w3 ⟨x3, rfl, ho, hb, ⟨A_3, n_3, c_3, rfl⟩⟩; have X_3 := Lib.hid ho.bs; replace X_1 := Lib.hid (X_1.out.step hb); replace X_2 := Lib.hid (X_2.out.step hb); have B3 := Lib.hid (below_trans B2.out hb); clear ho hb)
    | (go_at_call 35; (with_reducible refine (wireNumber _ 9 (by omega) (by omega)).mono ?_); rintro e w4 ⟨x4, rfl, ho, hb, ⟨A_4, n_4, c_4, rfl⟩⟩; have X_4 := Lib.hid ho.bs; replace X_1 := Lib.hid (X_1.out.step hb); replace X_2 := Lib.hid (X_2.out.step hb); replace X_3 := Lib.hid (X_3.out.step hb); have B4 := Lib.hid (below_trans B3.out hb); clear ho hb)
    | (go_at_call 35; refine (wireNumber _ 21 (by omega) (by omega)).mono ?_; rintro e w5 ⟨x5, rfl, ho, hb, ⟨A_5, n_5, c_5, rfl⟩⟩; have X_5 := Lib.hid ho.bs; replace X_1 := Lib.hid (X_1.out.step hb); replace X_2 := Lib.hid (X_2.out.step hb); replace X_3 := Lib.hid (X_3.out.step hb); replace X_4 := Lib.hid (X_4.out.step hb); have B5 := Lib.hid (below_trans B4.out hb); clear ho hb)
    | (go_at_call 32; refine (concat (Bss.lit _ 23 [_, _, _, _, _, _, _] [_, _, _, _, _, _, _] ⟨X_1.out, X_2.out, X_3.out, X_4.out, X_m.out.step B5.out, X_5.out, X_f.out.step B5.out, trivial⟩ (by simp) _ 7 7 rfl rfl rfl) (by have h1 := hle.out; have h2 := hln.out; have h3 := hlf.out; have h4 := H4.out; have h5 := Hm.out; have h6 := H99.out; simp [-List.length_take]; omega)).mono ?_; rintro e w6 ⟨x6, rfl, ho, hb⟩; have X_6 := Lib.hid (ho.bs.cast Hlit.out); have B6 := Lib.hid (below_trans B5.out (below_trans (below_alloc w5 _) hb)); clear ho hb))
  replace B := Lib.hid (below_trans B.out B6.out)
  replace X_l := Lib.hid (X_l.out.step B6.out)
  have He6 := Lib.hid (He.out.step B6.out)
  clear X_1 X_2 X_3 X_4 X_5 X_m X_f B1 B2 B3 B4 B5
  go_wp2_with fail
  refine (keyOf X_6.out He6.out (by have h := Hlen6.out; omega)).mono ?_
  rintro e w7 ⟨hb, hans⟩
  obtain ⟨x7, rfl, h7⟩ := keySome hans Hd.out
  have X_7 := Lib.hid h7
  replace X_l := Lib.hid (X_l.out.step hb)
  replace B := Lib.hid (below_trans B.out hb)
  have B7 := Lib.hid (below_trans B6.out hb)
  clear h7 hans hb
  go_wp2_with fail
  refine (Hn2.out _).mono ?_
  rintro e w8 ⟨x8, rfl, ho, hb, ⟨A_8, n_8, c_8, rfl⟩⟩
  have X_8 := Lib.hid ho.bs
  replace X_l := Lib.hid (X_l.out.step hb)
  replace X_7 := Lib.hid (X_7.out.step hb)
  replace B := Lib.hid (below_trans B.out hb)
  have B8 := Lib.hid (below_trans B7.out hb)
  clear ho hb
  go_wp2_with fail
  refine (keyField (f := 1) (by omega) X_l.out (by omega)).mono ?_
  rintro e w9 ⟨x9, rfl, ho, hb, ⟨A_9, n_9, c_9, rfl⟩⟩
  have X_9 := Lib.hid ho.bs
  replace X_l := Lib.hid (X_l.out.step hb)
  replace X_7 := Lib.hid (X_7.out.step hb)
  replace X_8 := Lib.hid (X_8.out.step hb)
  replace B := Lib.hid (below_trans B.out hb)
  have B9 := Lib.hid (below_trans B8.out hb)
  clear ho hb
  go_wp2_with fail
  refine (concat (Bss.lit _ 23 [_, _] [_, _] ⟨X_8.out, X_9.out, trivial⟩ (by simp) _ 2 2 rfl rfl rfl) (by have h2 := hln.out; have h3 := hlf.out; simp; omega)).mono ?_
  rintro e w10 ⟨x10, rfl, ho, hb⟩
  replace hb := below_trans (below_alloc w9 _) hb
  have X_10 := Lib.hid (ho.bs.cast (show [numEnc 2 y, fieldEnc 1 l].flatten = numEnc 2 y ++ fieldEnc 1 l by simp))
  replace X_l := Lib.hid (X_l.out.step hb)
  replace X_7 := Lib.hid (X_7.out.step hb)
  replace B := Lib.hid (below_trans B.out hb)
  have B10 := Lib.hid (below_trans B9.out hb)
  clear ho hb
  go_wp2_with fail
  refine (keyOf X_10.out (He.out.step B10.out) (by have h2 := hln.out; have h3 := hlf.out; rw [List.length_append]; omega)).mono ?_
  rintro e w11 ⟨hb, hans⟩
  obtain rfl : e = _ := keyNone hans Ht.out
  replace X_l := Lib.hid (X_l.out.step hb)
  replace X_7 := Lib.hid (X_7.out.step hb)
  replace B := Lib.hid (below_trans B.out hb)
  have B11 := Lib.hid (below_trans B10.out hb)
  clear hans hb
  go_wp2_with fail
  refine (eqTrue X_7.out X_l.out rfl).mono ?_
  rintro e W_ ⟨rfl, rfl⟩
  go_wp2_with fail
  refine (keysLive (He.out.step B11.out)).mono ?_
  rintro e w12 ⟨rfl, hb⟩
  replace B := Lib.hid (below_trans B.out hb)
  go_wp2_with fail
  go_ret
  exact ⟨rfl, B.out⟩

theorem walk_FnKeyWires {x : Int} {m : List UInt8} (f0 : IsInt .i32 v0 k) (f1 : Bs w w.heap.size v1 l) (f2 : IsInt .u64 v2 x) (f3 : IsArr v3 8 m) (he : HasErr w 4 ∧ HasErr w 5 ∧ HasErr w 6 ∧ HasErr w 7 ∧ HasErr w 8 ∧ HasErr w 9 ∧ HasErr w 3 ∧ HasErr w 2) :
    Calls Tryd.prog 7 #[v0, v1, v2, v3] w fun e w' => Yes w e w' := by
  have He := Lib.hid (cErr_of he)
  by_cases hs : l.length ≤ 300
  · exact FnKeyWires_main f0 f1 f2 f3 He.out hs
  obtain ⟨rfl, a1, a2⟩ := isI32 f0
  obtain ⟨rfl, b1, b2⟩ := isU64 f2
  obtain ⟨rfl, hm⟩ := f3
  have Hm := Lib.hid hm
  have hba := Lib.hid (below_alloc w (.cells (bvs m).toArray 42))
  have He2 := Lib.hid (He.out.step hba.out)
  clear f0 f2 b2 hm
  obtain ⟨A1, N, c1, rfl, hN, hc1, hm1⟩ := f1.form'
  have hN' : 300 < N := by rw [hN.out]; omega
  clear f1 he hs hN
  by_cases h1 : 2147483647 < N
  · go_enter Tryd.func7, Tryd.ntmps7
    go_wp2_with fail
    go_ret
    exact ⟨rfl, hba.out⟩
  go_enter Tryd.func7, Tryd.ntmps7
  go_wp2_with fail
  refine (keysLive He2.out).mono ?_
  rintro e w5 ⟨rfl, hb5⟩
  go_wp2_with fail
  go_ret
  exact ⟨rfl, below_trans hba.out hb5⟩

end
end Go.Proofs.YtcefcdmonfenoaaDoor

/- The walk of FnKeyLong. -/
import Derived.Test.YtcefcdmonfenoaaDoorKt
import Derived.Test.YtcefcdmonfenoaaDoorWKeyTorn
import Derived.Test.YtcefcdmonfenoaaDoorRep
import Derived.Deep.RegionHeld3
import Derived.Deep.DrawnRows
namespace Go.Proofs.YtcefcdmonfenoaaDoor
open Go.RowKit
set_option maxRecDepth 100000
attribute [local go_sem ↓] Go.wp_at_zero Go.wp_at_succ
section
variable {w : World} {v0 v1 v2 v3 : Value} {k : Int} {l : List UInt8}

theorem lit128 : (#[.int .u8 128] : Array Value).toList = bvs [128] := by simp [bvs]
theorem lit_1 : (#[.int .u8 1] : Array Value).toList = bvs [1] := by simp [bvs]

set_option maxHeartbeats 4000000 in
theorem FnKeyLong_main {x y : Int} (f0 : IsInt .i32 v0 k) (f1 : Bs w w.heap.size v1 l) (f2 : IsInt .u32 v2 x) (f3 : IsInt .u8 v3 y) (he : CErr w) (hl : l.length ≤ 300) :
    Calls Tryd.prog 16 #[v0, v1, v2, v3] w fun e w' => Yes w e w' := by
  obtain ⟨rfl, a1, a2⟩ := isI32 f0
  obtain ⟨rfl, b1, b2⟩ := isU32 f2
  obtain ⟨rfl, d1, d2⟩ := isU8 f3
  have He := Lib.hid he
  have X_l := Lib.hid f1
  obtain ⟨A1, N, c1, rfl, hN, hc1, hm1⟩ := f1.form'
  have hN' : N ≤ 300 := by rw [hN.out]; exact hl
  obtain ⟨T, hT⟩ : ∃ T : Int, T = (N : Int) + 1 + x := ⟨_, rfl⟩
  have HT := Lib.hid hT
  have hT1 : 0 ≤ T := by omega
  have hT2 : T < 4294967600 := by omega
  have hTn : l.length < T.toNat := by have := hN.out; omega
  have Hlong := Lib.hid (keyDec_long a1 a2 (x := T.toNat) (d := l) (by omega) hTn)
  obtain ⟨q, hq⟩ : ∃ q : Nat, (q : Int) = 10 + y % 9 := ⟨(10 + y % 9).toNat, by omega⟩
  have hq1 : 10 ≤ q := by omega
  have hq2 : q ≤ 18 := by omega
  have Hq := Lib.hid (show 10 + y % 9 = (q : Int) from hq.symm)
  have Hwide := Lib.hid (keyDec_wide q hq1 (UInt8.ofNat 1 :: fieldEnc 2 l))
  have Hw3 := Lib.hid (show [([8] : List UInt8), List.replicate q 128, [1], fieldEnc 2 l].flatten = UInt8.ofNat 8 :: (List.replicate q 128 ++ UInt8.ofNat 1 :: fieldEnc 2 l) by simp)
  have hlf := Lib.hid (show (fieldEnc 2 l).length ≤ l.length + 11 by
    have h2 : (Wire.venc l.length).length ≤ 10 := Wire.venc_length_u64 (by omega)
    rw [fieldEnc_length]; omega)
  have Hlen3 := Lib.hid (show (UInt8.ofNat 8 :: (List.replicate q 128 ++ UInt8.ofNat 1 :: fieldEnc 2 l)).length ≤ 1000 by have := hlf.out; simp; omega)
  have hk10 : (kindF k).length ≤ 11 := by
    have h1 : (Wire.venc (kindNum k)).length ≤ 10 := Wire.venc_length_u64 (kindNum_lt k)
    simp [kindF]; omega
  have Hk10 := Lib.hid hk10
  have hkl : 0 ≤ kindLen k ∧ kindLen k ≤ 11 := by rw [kindLen_eq]; omega
  have Hkt := Lib.hid (show (keyEnc k []).take (kindLen k) = kindF k from keyEnc_take)
  have Hkle := Lib.hid (show kindLen k ≤ (keyEnc k []).length by rw [kindLen_eq, keyEnc_eq]; simp)
  have hv18 : Wire.venc (18 : Int).toNat = [UInt8.ofNat 18] := Wire.venc_lt (by decide)
  have Hlit := Lib.hid (show [kindF k, Wire.venc (18 : Int).toNat, Wire.venc T.toNat, l].flatten = kindF k ++ UInt8.ofNat 18 :: (Wire.venc T.toNat ++ l) by rw [hv18]; simp)
  have HvT := Lib.hid (show (Wire.venc T.toNat).length ≤ 10 from Wire.venc_length_u64 (by omega))
  have Hv18 := Lib.hid (show (Wire.venc 18).length ≤ 1 by rw [Wire.venc_lt (by decide)]; simp)
  have Hlen2 := Lib.hid (show (kindF k ++ UInt8.ofNat 18 :: (Wire.venc T.toNat ++ l)).length ≤ 1000 by have := HvT.out; simp; omega)
  have HwT := Lib.hid (show ∀ W : World, Calls Tryd.prog 35 #[.int .u64 (IntKind.u64.wrap (IntKind.u64.wrap (IntKind.u64.wrap (N : Int) + 1) + IntKind.u64.wrap x))] W fun e w' => FreshN W (Wire.venc T.toNat) e w' from fun W => by
    have := wireNumber W T hT1 (by omega)
    rw [show IntKind.u64.wrap (IntKind.u64.wrap (IntKind.u64.wrap (N : Int) + 1) + IntKind.u64.wrap x) = T by simp only [IntKind.wrap_u64]; omega]
    exact this)
  have Hkk := Lib.hid (show ∀ W : World, Calls Tryd.prog 30 #[.int .i32 k] W fun e w' => e = .returned (.int .i64 (kindLen k : Int)) ∧ Below W.heap.size W w' from fun W => specKeyKind a1 a2)
  generalize hKL : kindLen k = KL at *
  have HKL := Lib.hid hKL
  clear hKL f0 f1 f2 f3 he hTn hq hv18 hk10 hT
  go_enter Tryd.func16, Tryd.ntmps16
  go_wp2_with fail
  have Hkb := Lib.hid (fun W : World => specKeyBytes (w := W) (k := k) (Bs.nil0 _ _) a1 a2 (by simp))
  go_region_held3 (fun _ => True) (trivial) (first
    | (go_at_call 29; refine (Hkb.out _).mono ?_; rintro e w1 ⟨x1, rfl, ho, hb, ⟨A_1, n_1, c_1, rfl⟩⟩; replace hb := below_trans (below_drew w) hb; have X_1 := Lib.hid ho.bs; have B1 := Lib.hid hb; clear ho hb; obtain ⟨A', n', c', e', h1, h2, h3⟩ := X_1.out.form'; injection e' with e1 e2 e3; subst e2 e3; have hKc : KL ≤ c_1 := (by have h4 := Hkle.out; have h5 := h1.out; omega); clear e1 h1 h3)
    | (go_at_call 30; refine (Hkk.out _).mono ?_; rintro e w2 ⟨rfl, hb⟩; replace X_1 := Lib.hid ((X_1.out.step hb).front (k := KL) Hkle.out); have B2 := Lib.hid (below_trans B1.out hb); clear hb)
    | (go_at_call 35; (with_reducible refine (wireNumber _ 18 (by omega) (by omega)).mono ?_); rintro e w4 ⟨x4, rfl, ho, hb, ⟨A_4, n_4, c_4, rfl⟩⟩; have X_4 := Lib.hid ho.bs; replace X_1 := Lib.hid (X_1.out.step hb); have B4 := Lib.hid (below_trans B2.out hb); clear ho hb)
    | (go_at_call 35; refine (HwT.out _).mono ?_; rintro e w5 ⟨x5, rfl, ho, hb, ⟨A_5, n_5, c_5, rfl⟩⟩; have X_5 := Lib.hid ho.bs; replace X_1 := Lib.hid (X_1.out.step hb); replace X_4 := Lib.hid (X_4.out.step hb); have B5 := Lib.hid (below_trans B4.out hb); clear ho hb)
    | (go_at_call 32; refine (concat (Bss.lit _ 23 [_, _, _, _] [_, _, _, _] ⟨X_1.out.cast Hkt.out, X_4.out, X_5.out, X_l.out.step B5.out, trivial⟩ (by simp) _ 4 4 rfl rfl rfl) (by have h1 := Hlen2.out; rw [← Hlit.out] at h1; exact Nat.le_trans h1 (by omega))).mono ?_; rintro e w6 ⟨x6, rfl, ho, hb⟩; have X_6 := Lib.hid (ho.bs.cast Hlit.out); have B6 := Lib.hid (below_trans B5.out (below_trans (below_alloc w5 _) hb)); clear ho hb))
  have B := Lib.hid B6.out
  replace X_l := Lib.hid (X_l.out.step B6.out)
  have He6 := Lib.hid (He.out.step B6.out)
  clear X_1 X_4 X_5 B1 B2 B4 B5
  go_wp2_with fail
  refine (keyOf X_6.out He6.out (by have h := Hlen2.out; omega)).mono ?_
  rintro e w7 ⟨hb, hans⟩
  obtain rfl : e = _ := keyNone hans Hlong.out
  replace X_l := Lib.hid (X_l.out.step hb)
  replace B := Lib.hid (below_trans B.out hb)
  have B7 := Lib.hid (below_trans B6.out hb)
  clear hans hb B6 X_6 He6
  go_wp2_with fail
  rw [Hq.out]
  have ba := below_alloc w7 (.cells #[.int .u8 8] 5)
  have bb := below_alloc (w7.alloc (.cells #[.int .u8 8] 5)) (.cells #[.int .u8 128] 5)
  have X_8 := Lib.hid ((Bs.newAt w7 #[.int .u8 8] [8] (by simp [bvs]) (by simp) _ 1 1 rfl rfl rfl).step bb)
  refine (repeat_ (Bs.newAt (w7.alloc (.cells #[.int .u8 8] 5)) #[.int .u8 128] [128] lit128 (by simp) _ 1 1 (by simp) rfl rfl) q (by omega) (by omega)).mono ?_
  rintro e w8 ⟨x8, rfl, hx8, hb⟩
  have X_9 := Lib.hid hx8
  replace X_8 := Lib.hid (X_8.out.step hb)
  replace hb := below_trans ba (below_trans bb hb)
  replace X_l := Lib.hid (X_l.out.step hb)
  replace B := Lib.hid (below_trans B.out hb)
  have B8 := Lib.hid (below_trans B7.out hb)
  clear hb ba bb hx8 B7
  go_wp2_with fail
  have bc := below_alloc w8 (.cells #[.int .u8 1] 5)
  replace X_8 := Lib.hid (X_8.out.step bc)
  replace X_9 := Lib.hid (X_9.out.step bc)
  replace X_l := Lib.hid (X_l.out.step bc)
  have X_1 := Lib.hid (Bs.newAt w8 #[.int .u8 1] [1] lit_1 (by simp) _ 1 1 rfl rfl rfl)
  refine (keyField (f := 2) (by omega) X_l.out (by omega)).mono ?_
  rintro e w9 ⟨x9, rfl, ho, hb, ⟨A_9, n_9, c_9, rfl⟩⟩
  have X_f := Lib.hid ho.bs
  replace X_8 := Lib.hid (X_8.out.step hb)
  replace X_9 := Lib.hid (X_9.out.step hb)
  replace X_1 := Lib.hid (X_1.out.step hb)
  replace X_l := Lib.hid (X_l.out.step hb)
  replace hb := below_trans bc hb
  replace B := Lib.hid (below_trans B.out hb)
  have B9 := Lib.hid (below_trans B8.out hb)
  clear hb bc ho B8
  obtain ⟨A_r, n_r, c_r, rfl, hr1, hr2, hr3⟩ := X_9.out.form'
  go_wp2_with fail
  refine (concat (Bss.lit _ 23 [_, _, _, _] [_, _, _, _] ⟨X_8.out, X_9.out, X_1.out, X_f.out, trivial⟩ (by simp) _ 4 4 rfl rfl rfl) (by have h1 := Hlen3.out; rw [← Hw3.out] at h1; exact Nat.le_trans h1 (by omega))).mono ?_
  rintro e w10 ⟨x10, rfl, ho, hb⟩
  replace hb := below_trans (below_alloc w9 _) hb
  have X_10 := Lib.hid (ho.bs.cast Hw3.out)
  replace B := Lib.hid (below_trans B.out hb)
  have B10 := Lib.hid (below_trans B9.out hb)
  clear hb ho B9 X_1 X_8 X_9 X_f X_l
  go_wp2_with fail
  refine (keyOf X_10.out (He.out.step B10.out) (by have h := Hlen3.out; omega)).mono ?_
  rintro e w11 ⟨hb, hans⟩
  obtain rfl : e = _ := keyNone hans Hwide.out
  replace B := Lib.hid (below_trans B.out hb)
  have B11 := Lib.hid (below_trans B10.out hb)
  clear hans hb
  go_wp2_with fail
  refine (keysLive (He.out.step B11.out)).mono ?_
  rintro e w12 ⟨rfl, hb⟩
  replace B := Lib.hid (below_trans B.out hb)
  go_wp2_with fail
  go_ret
  exact ⟨rfl, B.out⟩

theorem walk_FnKeyLong {x y : Int} (f0 : IsInt .i32 v0 k) (f1 : Bs w w.heap.size v1 l) (f2 : IsInt .u32 v2 x) (f3 : IsInt .u8 v3 y) (he : HasErr w 4 ∧ HasErr w 5 ∧ HasErr w 6 ∧ HasErr w 7 ∧ HasErr w 8 ∧ HasErr w 9 ∧ HasErr w 3 ∧ HasErr w 2) :
    Calls Tryd.prog 16 #[v0, v1, v2, v3] w fun e w' => Yes w e w' := by
  have He := Lib.hid (cErr_of he)
  by_cases hs : l.length ≤ 300
  · exact FnKeyLong_main f0 f1 f2 f3 He.out hs
  obtain ⟨rfl, a1, a2⟩ := isI32 f0
  obtain ⟨rfl, b1, b2⟩ := isU32 f2
  obtain ⟨rfl, d1, d2⟩ := isU8 f3
  clear f0 f2 f3
  obtain ⟨A1, N, c1, rfl, hN, hc1, hm1⟩ := f1.form'
  have hN' : 300 < N := by rw [hN.out]; omega
  clear f1 he hs hN
  by_cases h1 : 2147483647 < N
  · go_enter Tryd.func16, Tryd.ntmps16
    go_wp2_with fail
    go_ret
    exact ⟨rfl, below_refl _⟩
  go_enter Tryd.func16, Tryd.ntmps16
  go_wp2_with fail
  refine (keysLive He.out).mono ?_
  rintro e w5 ⟨rfl, hb5⟩
  go_wp2_with fail
  go_ret
  exact ⟨rfl, hb5⟩

end
end Go.Proofs.YtcefcdmonfenoaaDoor

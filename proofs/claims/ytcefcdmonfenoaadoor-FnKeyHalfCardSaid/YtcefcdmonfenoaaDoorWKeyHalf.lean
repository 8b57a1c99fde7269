/- The walk of FnKeyHalf. -/
import Derived.Test.YtcefcdmonfenoaaDoorKt
import Derived.Test.YtcefcdmonfenoaaDoorWKeyTorn
import Derived.Deep.RegionWith
import Derived.Deep.DrawnRows
namespace Go.Proofs.YtcefcdmonfenoaaDoor
open Go.RowKit
set_option maxRecDepth 100000
attribute [local go_sem ↓] Go.wp_at_zero Go.wp_at_succ
section
variable {w : World} {v0 v1 v2 v3 : Value} {k : Int} {l : List UInt8}

set_option maxHeartbeats 1000000 in
theorem FnKeyHalf_main (f0 : IsInt .i32 v0 k) (f1 : Bs w w.heap.size v1 l) (he : CErr w) (hl : l.length ≤ 300) :
    Calls Tryd.prog 6 #[v0, v1] w fun e w' => Yes w e w' := by
  obtain ⟨rfl, a1, a2⟩ := isI32 f0
  have He := Lib.hid he
  have X_l := Lib.hid f1
  obtain ⟨A1, N, c1, rfl, hN, hc1, hm1⟩ := f1.form'
  have hN' : N ≤ 300 := by rw [hN.out]; exact hl
  have hle := Lib.hid (keyEnc_length k l (by omega))
  have Hk := Lib.hid (keyDec_kindF a1 a2)
  have Hd := Lib.hid (keyDec_dataF (d := l) (by omega))
  have Ht := Lib.hid (keyDec_turned a1 a2 (d := l) (by omega))
  have Hkl := Lib.hid (show kindLen k ≤ (keyEnc k l).length by rw [kindLen_eq, keyEnc_eq, List.length_append]; omega)
  have Hfl := Lib.hid (show (kindF k).length ≤ 400 ∧ (dataF l).length ≤ 400 by
    have := keyEnc_length k l (by omega)
    rw [keyEnc_eq, List.length_append] at this; omega)
  have Hlit := Lib.hid (show [dataF l, kindF k].flatten = dataF l ++ kindF k by simp)
  clear f0 f1 he
  have B := Lib.hid (below_refl w)
  go_enter Tryd.func6, Tryd.ntmps6
  go_wp2_with fail
  refine (specKeyBytes X_l.out a1 a2 (by omega)).mono ?_
  rintro e w1 ⟨b, rfl, ho, hb, hn⟩
  have X_b := Lib.hid (ho.bs)
  replace X_l := Lib.hid (X_l.out.step hb)
  replace B := Lib.hid (below_trans B.out hb)
  clear hb ho
  obtain ⟨A_b, n_b, c_b, rfl⟩ := hn
  go_wp2_with fail
  refine (specKeyKind a1 a2).mono ?_
  rintro e w2 ⟨rfl, hb⟩
  replace X_l := Lib.hid (X_l.out.step hb)
  replace X_b := Lib.hid (X_b.out.step hb)
  replace B := Lib.hid (below_trans B.out hb)
  clear hb
  obtain ⟨A', n', c', e', h1, h2, h3⟩ := X_b.out.form'
  injection e' with e1 e2 e3
  subst e1 e2 e3
  have hkn : kindLen k ≤ n_b := by rw [h1.out]; exact Hkl.out
  clear h1
  obtain ⟨A3, hsl, hcut⟩ := slice_from X_b.out hkn
  rw [keyEnc_drop] at hcut
  have X_d := Lib.hid hcut
  have hfr := X_b.out.front (k := kindLen k) Hkl.out
  rw [keyEnc_take] at hfr
  have X_k := Lib.hid hfr
  clear hcut hfr
  generalize kindLen k = K at *
  go_wp2_with fail
  refine (bytesClone X_k.out (by have := Hfl.out; omega)).mono ?_
  rintro e w3 ⟨c1, rfl, ho, hb⟩
  have X_c1 := Lib.hid (ho.bs)
  replace X_l := Lib.hid (X_l.out.step hb)
  replace X_b := Lib.hid (X_b.out.step hb)
  replace X_d := Lib.hid (X_d.out.step hb)
  replace X_k := Lib.hid (X_k.out.step hb)
  replace B := Lib.hid (below_trans B.out hb)
  clear hb ho
  go_wp2_with fail
  refine (keyOf X_c1.out (He.out.step B.out) (by have := Hfl.out; omega)).mono ?_
  rintro e w4 ⟨hb, hans⟩
  obtain rfl : e = _ := keyNone hans Hk.out
  clear hans
  replace X_l := Lib.hid (X_l.out.step hb)
  replace X_b := Lib.hid (X_b.out.step hb)
  replace X_d := Lib.hid (X_d.out.step hb)
  replace X_k := Lib.hid (X_k.out.step hb)
  replace X_c1 := Lib.hid (X_c1.out.step hb)
  replace B := Lib.hid (below_trans B.out hb)
  clear hb
  go_wp2_with fail
  refine (bytesClone X_d.out (by have := Hfl.out; omega)).mono ?_
  rintro e w5 ⟨c2, rfl, ho, hb⟩
  have X_c2 := Lib.hid (ho.bs)
  replace X_l := Lib.hid (X_l.out.step hb)
  replace X_b := Lib.hid (X_b.out.step hb)
  replace X_d := Lib.hid (X_d.out.step hb)
  replace X_k := Lib.hid (X_k.out.step hb)
  replace X_c1 := Lib.hid (X_c1.out.step hb)
  replace B := Lib.hid (below_trans B.out hb)
  clear hb ho
  go_wp2_with fail
  refine (keyOf X_c2.out (He.out.step B.out) (by have := Hfl.out; omega)).mono ?_
  rintro e w6 ⟨hb, hans⟩
  obtain rfl : e = _ := keyNone hans Hd.out
  clear hans
  replace X_l := Lib.hid (X_l.out.step hb)
  replace X_b := Lib.hid (X_b.out.step hb)
  replace X_d := Lib.hid (X_d.out.step hb)
  replace X_k := Lib.hid (X_k.out.step hb)
  replace X_c1 := Lib.hid (X_c1.out.step hb)
  replace X_c2 := Lib.hid (X_c2.out.step hb)
  replace B := Lib.hid (below_trans B.out hb)
  clear hb
  go_wp2_with fail

  go_region_with (first
    | (go_at_call 32; refine (concat (Bss.lit _ 23 [_, _] [_, _] ⟨X_d.out, X_k.out, trivial⟩ (by simp) _ 2 2 rfl rfl rfl).drew (by have := Hfl.out; simp; omega)).mono ?_; rintro e w7 ⟨v7, rfl, ho, hb⟩; have hb' := Lib.hid (below_trans (below_alloc w6 _).drew hb); have X_v := Lib.hid (ho.bs.cast Hlit.out); clear ho hb)
    | (go_at_call 31; refine (keyOf X_v.out (He.out.step (below_trans B.out hb'.out)) (by have := Hfl.out; rw [List.length_append]; omega)).mono ?_; rintro e w8 ⟨hb, hans⟩; obtain ⟨v8, rfl, h8⟩ := keySome hans Ht.out; have X_r := Lib.hid h8; have hb2 := Lib.hid (below_trans hb'.out hb); clear hans h8 hb))
  all_goals
    replace B := Lib.hid (below_trans B.out hb2.out)
    replace X_l := Lib.hid (X_l.out.step hb2.out)
    go_wp2_with fail
    refine (eqTrue X_r.out X_l.out rfl).mono ?_
    rintro e W_ ⟨rfl, rfl⟩
    go_wp2_with fail
    refine (keysLive (He.out.step B.out)).mono ?_
    rintro e w9 ⟨rfl, hb⟩
    replace B := Lib.hid (below_trans B.out hb)
    go_wp2_with fail
    go_ret
    exact ⟨rfl, B.out⟩

theorem walk_FnKeyHalf (f0 : IsInt .i32 v0 k) (f1 : Bs w w.heap.size v1 l) (he : HasErr w 4 ∧ HasErr w 5 ∧ HasErr w 6 ∧ HasErr w 7 ∧ HasErr w 8 ∧ HasErr w 9 ∧ HasErr w 3 ∧ HasErr w 2) :
    Calls Tryd.prog 6 #[v0, v1] w fun e w' => Yes w e w' := by
  have He := Lib.hid (cErr_of he)
  by_cases hs : l.length ≤ 300
  · exact FnKeyHalf_main f0 f1 He.out hs
  obtain ⟨rfl, a1, a2⟩ := isI32 f0
  clear f0
  obtain ⟨A1, N, c1, rfl, hN, hc1, hm1⟩ := f1.form'
  have hN' : 300 < N := by rw [hN.out]; omega
  clear f1 he hs hN
  by_cases h1 : 2147483647 < N
  · go_enter Tryd.func6, Tryd.ntmps6
    go_wp2_with fail
    go_ret
    exact ⟨rfl, below_refl _⟩
  go_enter Tryd.func6, Tryd.ntmps6
  go_wp2_with fail
  refine (keysLive He.out).mono ?_
  rintro e w5 ⟨rfl, hb5⟩
  go_wp2_with fail
  go_ret
  exact ⟨rfl, hb5⟩

end
end Go.Proofs.YtcefcdmonfenoaaDoor

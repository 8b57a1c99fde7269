/- The walk of FnKeyWritten. -/
import Derived.Test.YtcefcdmonfenoaaDoorKt
import Derived.Test.YtcefcdmonfenoaaDoorWKeyTorn
namespace Go.Proofs.YtcefcdmonfenoaaDoor
open Go.RowKit
set_option maxRecDepth 100000
section
variable {w : World} {v0 v1 v2 v3 : Value} {k : Int} {l : List UInt8}

set_option maxHeartbeats 2000000 in
theorem FnKeyWritten_main (f0 : IsInt .i32 v0 k) (f1 : Bs w w.heap.size v1 l) (he : CErr w) (hl : l.length ≤ 300) :
    Calls Tryd.prog 10 #[v0, v1] w fun e w' => Yes w e w' := by
  obtain ⟨rfl, a1, a2⟩ := isI32 f0
  have He := Lib.hid he
  have X_l := Lib.hid f1
  obtain ⟨A1, N, c1, rfl, hN, hc1, hm1⟩ := f1.form'
  have hN' : N ≤ 300 := by rw [hN.out]; exact hl
  have hle := Lib.hid (keyEnc_length k l (by omega))
  have Hd := Lib.hid (keyDec_enc a1 a2 (d := l) (by omega))
  clear f0 f1 he
  have B := Lib.hid (below_refl w)
  go_enter Tryd.func10, Tryd.ntmps10
  go_wp2_with fail
  refine (specKeyBytes X_l.out a1 a2 (by omega)).mono ?_
  rintro e w1 ⟨z, rfl, ho, hb, hn⟩
  have X_z := Lib.hid (ho.bs)
  replace X_l := Lib.hid (X_l.out.step hb)
  replace B := Lib.hid (below_trans B.out hb)
  clear hb ho
  obtain ⟨A_z, n_z, c_z, rfl⟩ := hn
  go_wp2_with fail
  refine (bytesClone X_l.out (by omega)).mono ?_
  rintro e w2 ⟨c1, rfl, ho, hb⟩
  have X_c1 := Lib.hid (ho.bs)
  replace X_l := Lib.hid (X_l.out.step hb)
  replace X_z := Lib.hid (X_z.out.step hb)
  replace B := Lib.hid (below_trans B.out hb)
  clear hb ho
  go_wp2_with fail
  refine (keyBytes X_c1.out (by omega) a1 a2).mono ?_
  rintro e w3 ⟨a, rfl, ho, hb, hn⟩
  have X_a := Lib.hid (ho.bs)
  replace X_l := Lib.hid (X_l.out.step hb)
  replace X_z := Lib.hid (X_z.out.step hb)
  replace X_c1 := Lib.hid (X_c1.out.step hb)
  replace B := Lib.hid (below_trans B.out hb)
  clear hb ho
  obtain ⟨A_a, n_a, c_a, rfl⟩ := hn
  go_wp2_with fail
  refine (bytesClone X_l.out (by omega)).mono ?_
  rintro e w4 ⟨c2, rfl, ho, hb⟩
  have X_c2 := Lib.hid (ho.bs)
  replace X_l := Lib.hid (X_l.out.step hb)
  replace X_z := Lib.hid (X_z.out.step hb)
  replace X_c1 := Lib.hid (X_c1.out.step hb)
  replace X_a := Lib.hid (X_a.out.step hb)
  replace B := Lib.hid (below_trans B.out hb)
  clear hb ho
  go_wp2_with fail
  refine (secretBytes X_c2.out (by omega) a1 a2).mono ?_
  rintro e w5 ⟨b, rfl, ho, hb, hn⟩
  have X_b := Lib.hid (ho.bs)
  replace X_l := Lib.hid (X_l.out.step hb)
  replace X_z := Lib.hid (X_z.out.step hb)
  replace X_c1 := Lib.hid (X_c1.out.step hb)
  replace X_a := Lib.hid (X_a.out.step hb)
  replace X_c2 := Lib.hid (X_c2.out.step hb)
  replace B := Lib.hid (below_trans B.out hb)
  clear hb ho
  obtain ⟨A_b, n_b, c_b, rfl⟩ := hn
  go_wp2_with fail
  refine (bytesClone X_a.out (by have := hle.out; omega)).mono ?_
  rintro e w6 ⟨c3, rfl, ho, hb⟩
  have X_c3 := Lib.hid (ho.bs)
  replace X_l := Lib.hid (X_l.out.step hb)
  replace X_z := Lib.hid (X_z.out.step hb)
  replace X_c1 := Lib.hid (X_c1.out.step hb)
  replace X_a := Lib.hid (X_a.out.step hb)
  replace X_c2 := Lib.hid (X_c2.out.step hb)
  replace X_b := Lib.hid (X_b.out.step hb)
  replace B := Lib.hid (below_trans B.out hb)
  clear hb ho
  go_wp2_with fail
  refine (keyOf X_c3.out (He.out.step B.out) (by have := hle.out; omega)).mono ?_
  rintro e w7 ⟨hb, hans⟩
  obtain ⟨d, rfl, hd⟩ := keySome hans Hd.out
  have Y_d := Lib.hid hd
  clear hans hd
  replace X_l := Lib.hid (X_l.out.step hb)
  replace X_z := Lib.hid (X_z.out.step hb)
  replace X_c1 := Lib.hid (X_c1.out.step hb)
  replace X_a := Lib.hid (X_a.out.step hb)
  replace X_c2 := Lib.hid (X_c2.out.step hb)
  replace X_b := Lib.hid (X_b.out.step hb)
  replace X_c3 := Lib.hid (X_c3.out.step hb)
  replace B := Lib.hid (below_trans B.out hb)
  clear hb
  skip
  have X_d := Y_d
  clear Y_d
  go_wp2_with fail
  refine (bytesClone X_b.out (by have := hle.out; omega)).mono ?_
  rintro e w8 ⟨c4, rfl, ho, hb⟩
  have X_c4 := Lib.hid (ho.bs)
  replace X_l := Lib.hid (X_l.out.step hb)
  replace X_z := Lib.hid (X_z.out.step hb)
  replace X_c1 := Lib.hid (X_c1.out.step hb)
  replace X_a := Lib.hid (X_a.out.step hb)
  replace X_c2 := Lib.hid (X_c2.out.step hb)
  replace X_b := Lib.hid (X_b.out.step hb)
  replace X_c3 := Lib.hid (X_c3.out.step hb)
  replace X_d := Lib.hid (X_d.out.step hb)
  replace B := Lib.hid (below_trans B.out hb)
  clear hb ho
  go_wp2_with fail
  refine (secretOf X_c4.out (He.out.step B.out) (by have := hle.out; omega)).mono ?_
  rintro e w9 ⟨hb, hans⟩
  obtain ⟨e, rfl, he⟩ := keySome hans Hd.out
  have Y_e := Lib.hid he
  clear hans he
  replace X_l := Lib.hid (X_l.out.step hb)
  replace X_z := Lib.hid (X_z.out.step hb)
  replace X_c1 := Lib.hid (X_c1.out.step hb)
  replace X_a := Lib.hid (X_a.out.step hb)
  replace X_c2 := Lib.hid (X_c2.out.step hb)
  replace X_b := Lib.hid (X_b.out.step hb)
  replace X_c3 := Lib.hid (X_c3.out.step hb)
  replace X_d := Lib.hid (X_d.out.step hb)
  replace X_c4 := Lib.hid (X_c4.out.step hb)
  replace B := Lib.hid (below_trans B.out hb)
  clear hb
  skip
  have X_e := Y_e
  clear Y_e
  go_wp2_with fail
  refine (eqTrue X_a.out X_z.out rfl).mono ?_
  rintro e W_ ⟨rfl, rfl⟩
  go_wp2_with fail
  refine (eqTrue X_b.out X_z.out rfl).mono ?_
  rintro e W_ ⟨rfl, rfl⟩
  go_wp2_with fail
  refine (eqTrue X_d.out X_l.out rfl).mono ?_
  rintro e W_ ⟨rfl, rfl⟩
  go_wp2_with fail
  refine (eqTrue X_e.out X_l.out rfl).mono ?_
  rintro e W_ ⟨rfl, rfl⟩
  go_wp2_with fail
  refine (keysLive (He.out.step B.out)).mono ?_
  rintro e w10 ⟨rfl, hb⟩
  replace X_l := Lib.hid (X_l.out.step hb)
  replace X_z := Lib.hid (X_z.out.step hb)
  replace X_c1 := Lib.hid (X_c1.out.step hb)
  replace X_a := Lib.hid (X_a.out.step hb)
  replace X_c2 := Lib.hid (X_c2.out.step hb)
  replace X_b := Lib.hid (X_b.out.step hb)
  replace X_c3 := Lib.hid (X_c3.out.step hb)
  replace X_d := Lib.hid (X_d.out.step hb)
  replace X_c4 := Lib.hid (X_c4.out.step hb)
  replace X_e := Lib.hid (X_e.out.step hb)
  replace B := Lib.hid (below_trans B.out hb)
  clear hb
  go_wp2_with fail
  go_ret
  exact ⟨rfl, B.out⟩

theorem walk_FnKeyWritten (f0 : IsInt .i32 v0 k) (f1 : Bs w w.heap.size v1 l) (he : HasErr w 4 ∧ HasErr w 5 ∧ HasErr w 6 ∧ HasErr w 7 ∧ HasErr w 8 ∧ HasErr w 9 ∧ HasErr w 3 ∧ HasErr w 2) :
    Calls Tryd.prog 10 #[v0, v1] w fun e w' => Yes w e w' := by
  have He := Lib.hid (cErr_of he)
  by_cases hs : l.length ≤ 300
  · exact FnKeyWritten_main f0 f1 He.out hs
  obtain ⟨rfl, a1, a2⟩ := isI32 f0
  clear f0
  obtain ⟨A1, N, c1, rfl, hN, hc1, hm1⟩ := f1.form'
  have hN' : 300 < N := by rw [hN.out]; omega
  clear f1 he hs hN
  by_cases h1 : 2147483647 < N
  · go_enter Tryd.func10, Tryd.ntmps10
    go_wp2_with fail
    go_ret
    exact ⟨rfl, below_refl _⟩
  go_enter Tryd.func10, Tryd.ntmps10
  go_wp2_with fail
  refine (keysLive He.out).mono ?_
  rintro e w5 ⟨rfl, hb5⟩
  go_wp2_with fail
  go_ret
  exact ⟨rfl, hb5⟩

end
end Go.Proofs.YtcefcdmonfenoaaDoor

/- The walk of FnKeyTorn. -/
import Derived.Test.YtcefcdmonfenoaaDoorKt
import Derived.Test.YtcefcdmonfenoaaDoorWKeyApart
namespace Go.Proofs.YtcefcdmonfenoaaDoor
open Go.RowKit
set_option maxRecDepth 100000
section
variable {w : World} {v0 v1 v2 v3 : Value} {k : Int} {l : List UInt8}

theorem keyNone {w' : World} {l : List UInt8} {e : Ending} (h : (keyDec l = none ∧ e = .returned (.tuple #[.int .i32 0, .slice none 0 0, .bool false])) ∨
    ∃ k d v', keyDec l = some (k, d) ∧ e = .returned (.tuple #[.int .i32 k, v', .bool true]) ∧ Bs w' w'.heap.size v' d ∧ d.length ≤ 140737488355328) (hd : keyDec l = none) : e = .returned (.tuple #[.int .i32 0, .slice none 0 0, .bool false]) := by
  rcases h with ⟨_, h⟩ | ⟨k, d, v, h, _⟩
  · exact h
  · rw [hd] at h; cases h
theorem keySome {w' : World} {l : List UInt8} {e : Ending} {k : Int} {d : List UInt8} (h : (keyDec l = none ∧ e = .returned (.tuple #[.int .i32 0, .slice none 0 0, .bool false])) ∨
    ∃ k d v', keyDec l = some (k, d) ∧ e = .returned (.tuple #[.int .i32 k, v', .bool true]) ∧ Bs w' w'.heap.size v' d ∧ d.length ≤ 140737488355328) (hd : keyDec l = some (k, d)) : ∃ v', e = .returned (.tuple #[.int .i32 k, v', .bool true]) ∧ Bs w' w'.heap.size v' d := by
  rcases h with ⟨h, _⟩ | ⟨k', d', v, h, h2, h3, _⟩
  · rw [hd] at h; cases h
  · rw [hd] at h
    simp only [Option.some.injEq, Prod.mk.injEq] at h
    obtain ⟨rfl, rfl⟩ := h
    exact ⟨v, h2, h3⟩

set_option maxHeartbeats 1000000 in
theorem FnKeyTorn_main {x : Int} (f0 : IsInt .i32 v0 k) (f1 : Bs w w.heap.size v1 l) (f2 : IsInt .u16 v2 x) (he : CErr w) (hl : l.length ≤ 300) :
    Calls Tryd.prog 9 #[v0, v1, v2] w fun e w' => Yes w e w' := by
  obtain ⟨rfl, a1, a2⟩ := isI32 f0
  obtain ⟨rfl, b1, b2⟩ := isU16 f2
  obtain ⟨y, rfl⟩ := Int.eq_ofNat_of_zero_le b1
  have He := Lib.hid he
  have X_l := Lib.hid f1
  obtain ⟨A1, N, c1, rfl, hN, hc1, hm1⟩ := f1.form'
  have hN' : N ≤ 300 := by rw [hN.out]; exact hl
  have hle := keyEnc_length k l (by omega)
  have Htorn := Lib.hid (fun j hj => keyDec_torn a1 a2 (d := l) (by omega) j hj)
  clear f0 f1 f2 he
  have B := Lib.hid (below_refl w)
  go_enter Tryd.func9, Tryd.ntmps9
  go_wp2_with fail
  refine (specKeyBytes X_l.out a1 a2 (by omega)).mono ?_
  rintro e w1 ⟨b, rfl, ho, hb, hn⟩
  have X_b := Lib.hid (ho.bs)
  replace X_l := Lib.hid (X_l.out.step hb)
  replace B := Lib.hid (below_trans B.out hb)
  clear hb ho
  obtain ⟨A_b, n_b, c_b, rfl⟩ := hn
  obtain ⟨M, hM⟩ : ∃ M, M = (keyEnc k l).length := ⟨_, rfl⟩
  have hnM : n_b = M := by
    obtain ⟨A', n', c', e', h1, _⟩ := X_b.out.form'
    injection e' with e1 e2 e3
    rw [hM, ← h1.out, e2]
  rw [← hM] at hle
  have HM := Lib.hid hM
  clear hM
  subst hnM
  have hpos : 0 < n_b := hle.2
  have hj : y % n_b < n_b := Nat.mod_lt _ hpos
  have hmod : ((y : Int) % (n_b : Int)) = ((y % n_b : Nat) : Int) := by simp
  obtain ⟨j, hj2⟩ : ∃ j, j = y % n_b := ⟨_, rfl⟩
  have Hj := Lib.hid (show (y : Int) % (n_b : Int) = (j : Int) by rw [hmod, hj2])
  rw [← hj2] at hj
  clear hmod hj2
  have X_t := Lib.hid (X_b.out.front (k := j) (by rw [← HM.out]; omega))
  have Hnone := Lib.hid (Htorn.out j (by rw [← HM.out]; exact hj))
  have hcb : n_b ≤ c_b := by
    obtain ⟨A', n', c', e', h1, h2, h3⟩ := X_b.out.form'
    injection e' with e1 e2 e3
    subst e2 e3
    exact h2
  have hjq := Hj.out
  have hjlt : ((keyEnc k l).take j).length ≤ 322 := by rw [List.length_take]; have := HM.out; omega
  have Hjlt := Lib.hid hjlt
  clear hjlt
  go_wp2_with fail
  refine (bytesClone X_t.out (by have := Hjlt.out; omega)).mono ?_
  rintro e w2 ⟨c, rfl, ho, hb⟩
  have X_c := Lib.hid (ho.bs)
  replace X_l := Lib.hid (X_l.out.step hb)
  replace X_b := Lib.hid (X_b.out.step hb)
  replace X_t := Lib.hid (X_t.out.step hb)
  replace B := Lib.hid (below_trans B.out hb)
  clear hb ho
  go_wp2_with fail
  refine (keyOf X_c.out (He.out.step B.out) (by have := Hjlt.out; omega)).mono ?_
  rintro e w3 ⟨hb, hans⟩
  obtain rfl : e = _ := keyNone hans Hnone.out
  clear hans
  replace X_l := Lib.hid (X_l.out.step hb)
  replace X_b := Lib.hid (X_b.out.step hb)
  replace X_t := Lib.hid (X_t.out.step hb)
  replace X_c := Lib.hid (X_c.out.step hb)
  replace B := Lib.hid (below_trans B.out hb)
  clear hb
  go_wp2_with fail
  refine (bytesClone X_t.out (by have := Hjlt.out; omega)).mono ?_
  rintro e w4 ⟨d, rfl, ho, hb⟩
  have X_d := Lib.hid (ho.bs)
  replace X_l := Lib.hid (X_l.out.step hb)
  replace X_b := Lib.hid (X_b.out.step hb)
  replace X_t := Lib.hid (X_t.out.step hb)
  replace X_c := Lib.hid (X_c.out.step hb)
  replace B := Lib.hid (below_trans B.out hb)
  clear hb ho
  go_wp2_with fail
  refine (secretOf X_d.out (He.out.step B.out) (by have := Hjlt.out; omega)).mono ?_
  rintro e w5 ⟨hb, hans⟩
  obtain rfl : e = _ := keyNone hans Hnone.out
  clear hans
  replace X_l := Lib.hid (X_l.out.step hb)
  replace X_b := Lib.hid (X_b.out.step hb)
  replace X_t := Lib.hid (X_t.out.step hb)
  replace X_c := Lib.hid (X_c.out.step hb)
  replace X_d := Lib.hid (X_d.out.step hb)
  replace B := Lib.hid (below_trans B.out hb)
  clear hb
  go_wp2_with fail
  refine (keysLive (He.out.step B.out)).mono ?_
  rintro e w6 ⟨rfl, hb⟩
  replace X_l := Lib.hid (X_l.out.step hb)
  replace X_b := Lib.hid (X_b.out.step hb)
  replace X_t := Lib.hid (X_t.out.step hb)
  replace X_c := Lib.hid (X_c.out.step hb)
  replace X_d := Lib.hid (X_d.out.step hb)
  replace B := Lib.hid (below_trans B.out hb)
  clear hb
  go_wp2_with fail
  go_ret
  exact ⟨rfl, B.out⟩

theorem walk_FnKeyTorn {x : Int} (f0 : IsInt .i32 v0 k) (f1 : Bs w w.heap.size v1 l) (f2 : IsInt .u16 v2 x) (he : HasErr w 4 ∧ HasErr w 5 ∧ HasErr w 6 ∧ HasErr w 7 ∧ HasErr w 8 ∧ HasErr w 9 ∧ HasErr w 3 ∧ HasErr w 2) :
    Calls Tryd.prog 9 #[v0, v1, v2] w fun e w' => Yes w e w' := by
  have He := Lib.hid (cErr_of he)
  by_cases hs : l.length ≤ 300
  · exact FnKeyTorn_main f0 f1 f2 He.out hs
  obtain ⟨rfl, a1, a2⟩ := isI32 f0
  obtain ⟨rfl, b1, b2⟩ := isU16 f2
  clear f0 f2
  obtain ⟨A1, N, c1, rfl, hN, hc1, hm1⟩ := f1.form'
  have hN' : 300 < N := by rw [hN.out]; omega
  clear f1 he hs hN
  by_cases h1 : 2147483647 < N
  · go_enter Tryd.func9, Tryd.ntmps9
    go_wp2_with fail
    go_ret
    exact ⟨rfl, below_refl _⟩
  go_enter Tryd.func9, Tryd.ntmps9
  go_wp2_with fail
  refine (keysLive He.out).mono ?_
  rintro e w5 ⟨rfl, hb5⟩
  go_wp2_with fail
  go_ret
  exact ⟨rfl, hb5⟩

end
end Go.Proofs.YtcefcdmonfenoaaDoor

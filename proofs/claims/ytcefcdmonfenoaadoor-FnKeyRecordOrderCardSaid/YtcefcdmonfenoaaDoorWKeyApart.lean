/- The walks of keysLive and of FnKeyApart. -/
import Derived.Test.YtcefcdmonfenoaaDoorKl
import Derived.Test.YtcefcdmonfenoaaDoorLay
namespace Go.Proofs.YtcefcdmonfenoaaDoor
open Go.RowKit
set_option maxRecDepth 100000

/-- the call answers true, and nothing that was there has turned -/
def Yes (w : World) (e : Ending) (w' : World) : Prop := e = .returned (.bool true) ∧ Below w.heap.size w w'

theorem Bs.cast {w : World} {B : Nat} {v : Value} {l m : List UInt8} (h : Bs w B v l) (e : l = m) : Bs w B v m := e ▸ h
theorem eqTrue {w : World} {B C : Nat} {v x : Value} {l m : List UInt8} (h : Bs w B v l) (k : Bs w C x m) (e : l = m) :
    Calls Tryd.prog 28 #[v, x] w fun e w' => e = .returned (.bool true) ∧ w = w' := by
  have := bytesEqual h k
  rw [show (l == m) = true by simpa using e] at this
  exact this
theorem eqFalse {w : World} {B C : Nat} {v x : Value} {l m : List UInt8} (h : Bs w B v l) (k : Bs w C x m) (e : l ≠ m) :
    Calls Tryd.prog 28 #[v, x] w fun e w' => e = .returned (.bool false) ∧ w = w' := by
  have := bytesEqual h k
  rw [show (l == m) = false by simpa using e] at this
  exact this

theorem lit7 : (#[.int .u8 7] : Array Value).toList = bvs [7] := by simp [bvs]
theorem lit5 : (#[.int .u8 8, .int .u8 1, .int .u8 18, .int .u8 1, .int .u8 7] : Array Value).toList = bvs [8, 1, 18, 1, 7] := by simp [bvs]

set_option maxHeartbeats 1000000 in
theorem keysLive {w : World} (he : CErr w) : Calls Tryd.prog 26 #[] w fun e w' => Yes w e w' := by
  have He := Lib.hid he
  clear he
  go_enter Tryd.func26, Tryd.ntmps26
  go_wp2_with fail
  have hb0 := below_alloc w (.cells #[.int .u8 7] 5)
  refine (keyBytes (l := [7]) (Bs.newAt w #[.int .u8 7] [7] lit7 (by simp) _ 1 1 rfl rfl rfl) (by simp) (by omega) (by omega)).mono ?_
  rintro e w1 ⟨v1, rfl, ho1, hbl1, hn1⟩
  have Hv1 := Lib.hid (ho1.bs.cast keyEnc_small)
  have Hb1 := Lib.hid (below_trans hb0 hbl1)
  clear ho1 hbl1 hb0
  go_wp2_with fail
  have hb1 := below_alloc w1 (.cells #[.int .u8 8, .int .u8 1, .int .u8 18, .int .u8 1, .int .u8 7] 5)
  refine (keyOf (l := [8, 1, 18, 1, 7]) (Bs.newAt w1 #[.int .u8 8, .int .u8 1, .int .u8 18, .int .u8 1, .int .u8 7] [8, 1, 18, 1, 7] lit5 (by simp) _ 5 5 rfl rfl rfl) (He.out.step (below_trans Hb1.out hb1)) (by simp)).mono ?_
  rintro e w2 ⟨hbl2, hans⟩
  rcases hans with ⟨hd, _⟩ | ⟨k, d, v2, hd, rfl, hv2, _⟩
  · rw [keyDec_small] at hd; cases hd
  rw [keyDec_small] at hd
  simp only [Option.some.injEq, Prod.mk.injEq] at hd
  obtain ⟨rfl, rfl⟩ := hd
  have Hv1' := Lib.hid ((Hv1.out.step hb1).step hbl2)
  have Hv2 := Lib.hid hv2
  have Hb2 := Lib.hid (below_trans Hb1.out (below_trans hb1 hbl2))
  clear hbl2 hb1 hv2
  go_wp2_with fail
  have hb3 := below_alloc w2 (.cells #[.int .u8 8, .int .u8 1, .int .u8 18, .int .u8 1, .int .u8 7] 5)
  refine (eqTrue (Hv1'.out.step hb3) (Bs.newAt w2 #[.int .u8 8, .int .u8 1, .int .u8 18, .int .u8 1, .int .u8 7] [8, 1, 18, 1, 7] lit5 (by simp) _ 5 5 rfl rfl rfl) rfl).mono ?_
  rintro e w3 ⟨rfl, rfl⟩
  have Hb3 := Lib.hid hb3
  clear hb3
  go_wp2_with fail
  have hb4 := below_alloc (w2.alloc (.cells #[.int .u8 8, .int .u8 1, .int .u8 18, .int .u8 1, .int .u8 7] 5)) (.cells #[.int .u8 7] 5)
  refine (eqTrue (Hv2.out.step (below_trans Hb3.out hb4)) (Bs.newAt _ #[.int .u8 7] [7] lit7 (by simp) _ 1 1 (by simp) rfl rfl) rfl).mono ?_
  rintro e w4 ⟨rfl, rfl⟩
  go_wp2_with fail
  go_ret
  exact ⟨rfl, below_trans Hb2.out (below_trans Hb3.out hb4)⟩
theorem cErr_of {w : World} (he : HasErr w 4 ∧ HasErr w 5 ∧ HasErr w 6 ∧ HasErr w 7 ∧ HasErr w 8 ∧ HasErr w 9 ∧ HasErr w 3 ∧ HasErr w 2) : CErr w := by
  obtain ⟨h1, h2, h3, h4, h5, h6, h7, h8⟩ := he
  exact ⟨⟨h1, h2, h3, h4, h5, h6⟩, h7, h8⟩

section
variable {w : World} {v0 v1 v2 v3 : Value} {a b : Int} {l m : List UInt8}

set_option maxHeartbeats 1000000 in
theorem keyApart_main (f0 : IsInt .i32 v0 a) (f1 : IsInt .i32 v1 b) (f2 : Bs w w.heap.size v2 l) (f3 : Bs w w.heap.size v3 m) (he : CErr w) (hl : l.length ≤ 300) (hm : m.length ≤ 300) :
    Calls Tryd.prog 5 #[v0, v1, v2, v3] w fun e w' => Yes w e w' := by
  obtain ⟨rfl, a1, a2⟩ := isI32 f0
  obtain ⟨rfl, b1, b2⟩ := isI32 f1
  obtain ⟨A2, c2, e2, _, _⟩ := f2.form
  obtain ⟨A3, c3, e3, _, _⟩ := f3.form
  subst e2 e3
  have F2 := Lib.hid f2
  have F3 := Lib.hid f3
  have He := Lib.hid he
  have Hinj := Lib.hid (keyEnc_inj a1 a2 b1 b2 (d := l) (e := m) (by omega) (by omega))
  clear f0 f1 f2 f3 he
  by_cases hab : a = b
  · subst hab
    by_cases hlm : l = m
    · subst hlm
      go_enter Tryd.func5, Tryd.ntmps5
      go_wp2_with fail
      refine (bytesClone F2.out (by omega)).mono ?_
      rintro e w1 ⟨x1, rfl, ho1, hb1⟩
      have X1 := Lib.hid ho1.bs
      have B1 := Lib.hid hb1
      clear ho1 hb1
      go_wp2_with fail
      refine (keyBytes X1.out (by omega) a1 a2).mono ?_
      rintro e w2 ⟨x2, rfl, ho2, hb2, _⟩
      have X2 := Lib.hid ho2.bs
      have B2 := Lib.hid (below_trans B1.out hb2)
      clear ho2 hb2
      go_wp2_with fail
      refine (bytesClone (F3.out.step B2.out) (by omega)).mono ?_
      rintro e w3 ⟨x3, rfl, ho3, hb3⟩
      have X3 := Lib.hid ho3.bs
      have X2' := Lib.hid (X2.out.step hb3)
      have B3 := Lib.hid (below_trans B2.out hb3)
      clear ho3 hb3
      go_wp2_with fail
      refine (keyBytes X3.out (by omega) b1 b2).mono ?_
      rintro e w4 ⟨x4, rfl, ho4, hb4, _⟩
      have X4 := Lib.hid ho4.bs
      have X2'' := Lib.hid (X2'.out.step hb4)
      have B4 := Lib.hid (below_trans B3.out hb4)
      clear ho4 hb4
      go_wp2_with fail
      refine (eqTrue X2''.out X4.out rfl).mono ?_
      rintro e w5 ⟨rfl, rfl⟩
      go_wp2_with fail
      refine (eqTrue (F2.out.step B4.out) (F3.out.step B4.out) rfl).mono ?_
      rintro e w5 ⟨rfl, rfl⟩
      go_wp2_with fail
      refine (keysLive (He.out.step B4.out)).mono ?_
      rintro e w5 ⟨rfl, hb5⟩
      go_wp2_with fail
      go_ret
      exact ⟨rfl, below_trans B4.out hb5⟩
    · have Hne := Lib.hid (show keyEnc a l ≠ keyEnc a m from fun h => hlm (Hinj.out.1 h).2)
      have Hlm := Lib.hid hlm
      clear hlm
      go_enter Tryd.func5, Tryd.ntmps5
      go_wp2_with fail
      refine (bytesClone F2.out (by omega)).mono ?_
      rintro e w1 ⟨x1, rfl, ho1, hb1⟩
      have X1 := Lib.hid ho1.bs
      have B1 := Lib.hid hb1
      clear ho1 hb1
      go_wp2_with fail
      refine (keyBytes X1.out (by omega) a1 a2).mono ?_
      rintro e w2 ⟨x2, rfl, ho2, hb2, _⟩
      have X2 := Lib.hid ho2.bs
      have B2 := Lib.hid (below_trans B1.out hb2)
      clear ho2 hb2
      go_wp2_with fail
      refine (bytesClone (F3.out.step B2.out) (by omega)).mono ?_
      rintro e w3 ⟨x3, rfl, ho3, hb3⟩
      have X3 := Lib.hid ho3.bs
      have X2' := Lib.hid (X2.out.step hb3)
      have B3 := Lib.hid (below_trans B2.out hb3)
      clear ho3 hb3
      go_wp2_with fail
      refine (keyBytes X3.out (by omega) b1 b2).mono ?_
      rintro e w4 ⟨x4, rfl, ho4, hb4, _⟩
      have X4 := Lib.hid ho4.bs
      have X2'' := Lib.hid (X2'.out.step hb4)
      have B4 := Lib.hid (below_trans B3.out hb4)
      clear ho4 hb4
      go_wp2_with fail
      refine (eqFalse X2''.out X4.out Hne.out).mono ?_
      rintro e w5 ⟨rfl, rfl⟩
      go_wp2_with fail
      refine (eqFalse (F2.out.step B4.out) (F3.out.step B4.out) Hlm.out).mono ?_
      rintro e w5 ⟨rfl, rfl⟩
      go_wp2_with fail
      refine (keysLive (He.out.step B4.out)).mono ?_
      rintro e w5 ⟨rfl, hb5⟩
      go_wp2_with fail
      go_ret
      exact ⟨rfl, below_trans B4.out hb5⟩
  · have Hne := Lib.hid (show keyEnc a l ≠ keyEnc b m from fun h => hab (Hinj.out.1 h).1)
    have hab' := i8_ne hab
    go_enter Tryd.func5, Tryd.ntmps5
    go_wp2_with fail
    refine (bytesClone F2.out (by omega)).mono ?_
    rintro e w1 ⟨x1, rfl, ho1, hb1⟩
    have X1 := Lib.hid ho1.bs
    have B1 := Lib.hid hb1
    clear ho1 hb1
    go_wp2_with fail
    refine (keyBytes X1.out (by omega) a1 a2).mono ?_
    rintro e w2 ⟨x2, rfl, ho2, hb2, _⟩
    have X2 := Lib.hid ho2.bs
    have B2 := Lib.hid (below_trans B1.out hb2)
    clear ho2 hb2
    go_wp2_with fail
    refine (bytesClone (F3.out.step B2.out) (by omega)).mono ?_
    rintro e w3 ⟨x3, rfl, ho3, hb3⟩
    have X3 := Lib.hid ho3.bs
    have X2' := Lib.hid (X2.out.step hb3)
    have B3 := Lib.hid (below_trans B2.out hb3)
    clear ho3 hb3
    go_wp2_with fail
    refine (keyBytes X3.out (by omega) b1 b2).mono ?_
    rintro e w4 ⟨x4, rfl, ho4, hb4, _⟩
    have X4 := Lib.hid ho4.bs
    have X2'' := Lib.hid (X2'.out.step hb4)
    have B4 := Lib.hid (below_trans B3.out hb4)
    clear ho4 hb4
    go_wp2_with fail
    refine (eqFalse X2''.out X4.out Hne.out).mono ?_
    rintro e w5 ⟨rfl, rfl⟩
    go_wp2_with fail
    refine (keysLive (He.out.step B4.out)).mono ?_
    rintro e w5 ⟨rfl, hb5⟩
    go_wp2_with fail
    go_ret
    exact ⟨rfl, below_trans B4.out hb5⟩

theorem walk_FnKeyApart (f0 : IsInt .i32 v0 a) (f1 : IsInt .i32 v1 b) (f2 : Bs w w.heap.size v2 l) (f3 : Bs w w.heap.size v3 m)
    (he : HasErr w 4 ∧ HasErr w 5 ∧ HasErr w 6 ∧ HasErr w 7 ∧ HasErr w 8 ∧ HasErr w 9 ∧ HasErr w 3 ∧ HasErr w 2) :
    Calls Tryd.prog 5 #[v0, v1, v2, v3] w fun e w' => Yes w e w' := by
  have He := Lib.hid (cErr_of he)
  by_cases hs : l.length ≤ 300 ∧ m.length ≤ 300
  · exact keyApart_main f0 f1 f2 f3 He.out hs.1 hs.2
  obtain ⟨rfl, a1, a2⟩ := isI32 f0
  obtain ⟨rfl, b1, b2⟩ := isI32 f1
  obtain ⟨A2, c2, e2, _, _⟩ := f2.form
  obtain ⟨A3, c3, e3, _, _⟩ := f3.form
  subst e2 e3
  clear f0 f1 f2 f3 he
  generalize l.length = L at *
  generalize m.length = M at *
  by_cases h1 : 2147483647 < L
  · go_enter Tryd.func5, Tryd.ntmps5
    go_wp2_with fail
    go_ret
    exact ⟨rfl, below_refl _⟩
  by_cases h2 : 2147483647 < M
  · go_enter Tryd.func5, Tryd.ntmps5
    go_wp2_with fail
    go_ret
    exact ⟨rfl, below_refl _⟩
  by_cases h3 : 300 < L
  · clear hs
    go_enter Tryd.func5, Tryd.ntmps5
    go_wp2_with fail
    refine (keysLive He.out).mono ?_
    rintro e w5 ⟨rfl, hb5⟩
    go_wp2_with fail
    go_ret
    exact ⟨rfl, hb5⟩
  have h4 : 300 < M := by omega
  clear hs
  go_enter Tryd.func5, Tryd.ntmps5
  go_wp2_with fail
  refine (keysLive He.out).mono ?_
  rintro e w5 ⟨rfl, hb5⟩
  go_wp2_with fail
  go_ret
  exact ⟨rfl, hb5⟩
end
end Go.Proofs.YtcefcdmonfenoaaDoor

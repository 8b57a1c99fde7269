/- The statements' small example of a record; the opening of arguments that are records. -/
import Derived.Test.YtcefcdmonfenoaaDoorRq
import Derived.Test.YtcefcdmonfenoaaDoorOpr
namespace Go.Proofs.YtcefcdmonfenoaaDoor
open Go.RowKit
set_option maxRecDepth 100000
attribute [local go_sem ↓] Go.wp_at_zero Go.wp_at_succ

theorem rErr_of {w : World} (he : HasErr w 4 ∧ HasErr w 5 ∧ HasErr w 6 ∧ HasErr w 7 ∧ HasErr w 8 ∧ HasErr w 9 ∧ HasErr w 0) : RErr w := by
  obtain ⟨h1, h2, h3, h4, h5, h6, h7⟩ := he
  exact ⟨⟨h1, h2, h3, h4, h5, h6⟩, h7⟩
def rvSmall : RV := ⟨[5], 3, []⟩
theorem rvSmall_small : rvSmall.small := ⟨by decide, by decide, by decide, fun a h => by simp [rvSmall] at h⟩
theorem rvSmall_enc : recEnc rvSmall = [10, 1, 5, 16, 3] := by
  unfold recEnc optF seqF seqN rvSmall fieldEnc lenEnc addrsF
  simp only []
  rw [if_neg (by simp), if_neg (by omega)]
  rw [Wire.venc_lt (by simp), Wire.venc_lt (by omega)]
  rfl
theorem rvSmall_dec : recDec [10, 1, 5, 16, 3] = some rvSmall := by rw [← rvSmall_enc]; exact recDec_enc rvSmall_small.ok
theorem litr1 : (#[.int .u8 5] : Array Value).toList = bvs [5] := by simp [bvs]
theorem litr5 : (#[.int .u8 10, .int .u8 1, .int .u8 5, .int .u8 16, .int .u8 3] : Array Value).toList = bvs [10, 1, 5, 16, 3] := by simp [bvs]
theorem recSome {w' : World} {l : List UInt8} {e : Ending} {R : RV} (h : (recDec l = none ∧ ∃ v', e = .returned (.tuple #[v', .bool false]) ∧ RecVal w' w'.heap.size v' RV.none) ∨
    ∃ R v', recDec l = some R ∧ e = .returned (.tuple #[v', .bool true]) ∧ RecVal w' w'.heap.size v' R) (hd : recDec l = some R) : ∃ v', e = .returned (.tuple #[v', .bool true]) ∧ RecVal w' w'.heap.size v' R := by
  rcases h with ⟨h, _⟩ | ⟨R', v, h, h2, h3⟩
  · rw [hd] at h; cases h
  · rw [hd] at h
    simp only [Option.some.injEq] at h
    subst h
    exact ⟨v, h2, h3⟩
theorem bssNil (w : World) : Bss w w.heap.size (.slice none 0 0) [] := ⟨none, 0, rfl, Nat.le_refl _, by omega, fun h => absurd h (by simp)⟩

set_option maxHeartbeats 1000000 in
theorem recordsLive {w : World} (he : RErr w) : Calls Tryd.prog 38 #[] w fun e w' => Yes w e w' := by
  have He := Lib.hid he
  clear he
  go_enter Tryd.func38, Tryd.ntmps38
  go_wp2_with fail
  have ha := below_alloc w (.cells #[.int .u8 5] 5)
  have X1 := Bs.newAt w #[.int .u8 5] [5] litr1 (by simp) _ 1 1 rfl rfl rfl
  refine (recordBytes (R := rvSmall) (RecVal.mk' (n := 3) rfl X1 (bssNil _)) rvSmall_small).mono ?_
  rintro e w1 ⟨v1, rfl, ho, hbl⟩
  rw [rvSmall_enc] at ho
  have Hv1 := Lib.hid ho.bs
  have B1 := Lib.hid (below_trans ha hbl)
  clear ha X1 ho hbl
  go_wp2_with fail
  have hb1 := below_alloc w1 (.cells #[.int .u8 10, .int .u8 1, .int .u8 5, .int .u8 16, .int .u8 3] 5)
  refine (recordOf (l := [10, 1, 5, 16, 3]) (Bs.newAt w1 _ _ litr5 (by simp) _ 5 5 rfl rfl rfl) (He.out.step (below_trans B1.out hb1)) (by simp)).mono ?_
  rintro e w2 ⟨hbl2, hans⟩
  obtain ⟨v2, rfl, hv2⟩ := recSome hans rvSmall_dec
  obtain ⟨A1, n1, c1, A2, n2, c2, rfl, z1, z2⟩ := hv2.form
  replace Hv1 := Lib.hid ((Hv1.out.step hb1).step hbl2)
  have Z1 := Lib.hid (show Bs w2 w2.heap.size (.slice A1 n1 c1) [5] from z1)
  have B2 := Lib.hid (below_trans B1.out (below_trans hb1 hbl2))
  have e3 : ((rvSmall.seq : Int)) = 3 := rfl
  rw [e3]
  clear hbl2 hb1 hans hv2 z1 z2 e3
  go_wp2_with fail
  have hb3 := below_alloc w2 (.cells #[.slice A1 n1 c1, .int .u64 3, .slice A2 n2 c2] 49)
  have hb4 := below_alloc (w2.alloc (.cells #[.slice A1 n1 c1, .int .u64 3, .slice A2 n2 c2] 49)) (.cells #[.int .u8 10, .int .u8 1, .int .u8 5, .int .u8 16, .int .u8 3] 5)
  refine (eqTrue (Hv1.out.step (below_trans hb3 hb4)) (Bs.newAt _ #[.int .u8 10, .int .u8 1, .int .u8 5, .int .u8 16, .int .u8 3] [10, 1, 5, 16, 3] litr5 (by simp) _ 5 5 (by simp) rfl rfl) rfl).mono ?_
  rintro e w3 ⟨rfl, rfl⟩
  have B4 := Lib.hid (below_trans hb3 hb4)
  clear hb3 hb4
  go_wp2_with fail
  have hb5 := below_alloc ((w2.alloc (.cells #[.slice A1 n1 c1, .int .u64 3, .slice A2 n2 c2] 49)).alloc (.cells #[.int .u8 10, .int .u8 1, .int .u8 5, .int .u8 16, .int .u8 3] 5)) (.cells #[.int .u8 5] 5)
  refine (eqTrue (Z1.out.step (below_trans B4.out hb5)) (Bs.newAt _ #[.int .u8 5] [5] litr1 (by simp) _ 1 1 (by simp) rfl rfl) rfl).mono ?_
  rintro e w4 ⟨rfl, rfl⟩
  go_wp2_with fail
  go_ret
  exact ⟨rfl, below_trans B2.out (below_trans B4.out hb5)⟩
end Go.Proofs.YtcefcdmonfenoaaDoor

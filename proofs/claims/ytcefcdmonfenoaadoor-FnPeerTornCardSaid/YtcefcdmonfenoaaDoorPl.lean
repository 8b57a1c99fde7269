/- peersLive: the statements' small example of an ID. -/
import Derived.Test.YtcefcdmonfenoaaDoorMv
import Derived.Test.YtcefcdmonfenoaaDoorBt
import Derived.Test.YtcefcdmonfenoaaDoorBp
namespace Go.Proofs.YtcefcdmonfenoaaDoor
open Go.RowKit
set_option maxRecDepth 100000
theorem litp3 : (#[.int .u8 0, .int .u8 1, .int .u8 7] : Array Value).toList = bvs [0, 1, 7] := by simp [bvs]
theorem okp3 : Mh.ok [0, 1, 7] = true := by decide
set_option maxHeartbeats 1000000 in
theorem peersLive {w : World} (he : MErr w) : Calls Tryd.prog 23 #[] w fun e w' => Yes w e w' := by
  have He := Lib.hid he
  clear he
  go_enter Tryd.func23, Tryd.ntmps23
  go_wp2_with fail
  have ha := below_alloc w (.cells #[.int .u8 0, .int .u8 1, .int .u8 7] 5)
  refine (peerOf (l := [0, 1, 7]) (Bs.newAt w _ _ litp3 (by simp) _ 3 3 rfl rfl rfl) (He.out.step ha) (by simp)).mono ?_
  rintro e w1 ⟨hb, hans⟩
  have B := Lib.hid (below_trans ha hb)
  clear ha hb
  rcases hans with ⟨_, v1, rfl, hx⟩ | ⟨hno, _⟩
  rotate_left
  · rw [okp3] at hno; cases hno
  obtain ⟨A1, n1, c1, rfl⟩ := hid_exists_bs' hx
  have X := Lib.hid hx
  clear hx
  go_wp2_with fail
  have ha := below_alloc w1 (.cells #[.int .u8 0, .int .u8 1, .int .u8 7] 5)
  have c1 := bytesEqual (X.out.step ha) (Bs.newAt w1 _ _ litp3 (by simp) _ 3 3 rfl rfl rfl)
  have B2 := Lib.hid (below_trans B.out ha)
  refine c1.mono ?_
  rintro e w2 ⟨rfl, rfl⟩
  clear ha c1
  have hbq : (([0, 1, 7] : List UInt8) == [0, 1, 7]) = true := rfl
  go_wp2_with fail
  have ha := below_alloc (w1.alloc (.cells #[.int .u8 0, .int .u8 1, .int .u8 7] 5)) (.cells #[.int .u8 0, .int .u8 1, .int .u8 7] 5)
  refine (peerText (l := [0, 1, 7]) (Bs.newAt _ _ _ litp3 (by simp) _ 3 3 (by simp) rfl rfl) (by simp)).mono ?_
  rintro e w3 ⟨rfl, hb⟩
  replace B2 := Lib.hid (below_trans B2.out (below_trans ha hb))
  clear ha hb
  go_wp2_with fail
  have ha := below_alloc w3 (.cells #[.int .u8 0, .int .u8 1, .int .u8 7] 5)
  refine (peerBase58 (l := [0, 1, 7]) (Bs.newAt w3 _ _ litp3 (by simp) _ 3 3 rfl rfl rfl) (by simp)).mono ?_
  rintro e w4 ⟨rfl, hb⟩
  replace B2 := Lib.hid (below_trans B2.out (below_trans ha hb))
  clear ha hb
  have hs : ((strOf (B58.enc [0, 1, 7])).toList == (strOf (B58.enc [0, 1, 7])).toList) = true := by simp
  go_wp2_with fail
  go_ret
  exact ⟨rfl, B2.out⟩
end Go.Proofs.YtcefcdmonfenoaaDoor

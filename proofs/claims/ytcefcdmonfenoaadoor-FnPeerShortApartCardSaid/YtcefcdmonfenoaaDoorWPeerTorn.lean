/- The walk of FnPeerTorn. -/
import Derived.Test.YtcefcdmonfenoaaDoorMk
import Derived.Test.YtcefcdmonfenoaaDoorPl
import Derived.Test.YtcefcdmonfenoaaDoorArr
import Derived.Deep.RegionHeld3
import Derived.Deep.DrawnRows
namespace Go.Proofs.YtcefcdmonfenoaaDoor
open Go.RowKit
set_option maxRecDepth 100000
section
variable {w : World} {v0 v1 v2 v3 : Value} {l : List UInt8}
theorem bs32_size {l : List UInt8} (hl : l.length = 32) : (Tryd.prog.info? 22).map (·.size) = some (bvs l).toArray.size := by
  rw [show (bvs l).toArray.size = 32 by simp [bvs, hl]]; exact info32
set_option maxHeartbeats 4000000 in
theorem FnPeerTorn_main {k at_ m : Nat} (hl : l.length = 32) (hk : k ≤ 255) (ha : at_ ≤ 255) (hm : m ≤ 255) (he : MErr w) :
    Calls Tryd.prog 3 #[.agg (bvs l).toArray, .int .u8 (k : Int), .int .u8 (at_ : Int), .int .u8 (m : Int)] w fun e w' => Yes w e w' := by
  have hba := below_alloc w (.cells (bvs l).toArray 22)
  have K := Lib.hid (Blk.new w 22 (bvs l).toArray)
  have Hi32 := Lib.hid (bs32_size hl)
  have B := Lib.hid hba
  have He := Lib.hid (he.step hba)
  have Hlen := Lib.hid (made_len hl k)
  have Hok := Lib.hid (made_ok hl k)
  have Hmore := Lib.hid (made_more hl k (UInt8.ofNat m))
  have Htorn := Lib.hid (made_torn hl k (j := at_ % (made l k).length) (Nat.mod_lt _ (by have := (made_len hl k).1; omega)))
  have HP := Lib.hid (fun W => peerMade W l hl k hk)
  clear hba he hl
  go_enter Tryd.func3, Tryd.ntmps3
  go_wp2_with ((refine wpList_load_row rfl 22 _ (by rfl) w.heap.size (by rfl) 22 (bvs l).toArray (0, 0) _ K.out Tryd.underlying22 rfl Hi32.out ?_))
  refine (HP.out _).mono ?_
  rintro e w1 ⟨v1, rfl, ho, hb⟩
  replace B := Lib.hid (below_trans B.out hb)
  replace He := Lib.hid (He.out.step hb)
  have X := Lib.hid ho.bs
  clear ho hb HP K Hi32
  obtain ⟨A, n, c, rfl, hn, hc1, hm1⟩ := X.out.form'
  have hn2 : 2 ≤ n ∧ n ≤ 34 := by rw [hn.out]; exact Hlen.out
  have hbnd : 0 ≤ (at_ : Int) % (n : Int) ∧ (at_ : Int) % (n : Int) ≤ (c : Int) := by
    have h1 := Int.emod_nonneg (at_ : Int) (b := (n : Int)) (by omega)
    have h2 := Int.emod_lt_of_pos (at_ : Int) (b := (n : Int)) (by omega)
    omega
  have hpn : at_ % n < n := Nat.mod_lt _ (by omega)
  have HT := Lib.hid (show Mh.ok ((made l k).take (at_ % n)) = false by rw [hn.out]; exact Htorn.out)
  have X2 := Lib.hid (X.out.front (k := at_ % n) (by rw [← hn.out]; omega))
  have HL2 := Lib.hid (show ((made l k).take (at_ % n)).length ≤ 34 by rw [List.length_take, ← hn.out]; omega)
  clear Htorn
  go_wp2_with fail
  refine (bytesClone X2.out (by have := HL2.out; omega)).mono ?_
  rintro e w2 ⟨v2, rfl, ho, hb⟩
  replace B := Lib.hid (below_trans B.out hb)
  replace He := Lib.hid (He.out.step hb)
  replace X := Lib.hid (X.out.step hb)
  replace X2 := Lib.hid ho.bs
  clear ho hb
  go_wp2_with fail
  refine (peerOf X2.out He.out (by have := HL2.out; omega)).mono ?_
  rintro e w3 ⟨hb, ⟨h1, _⟩ | ⟨_, rfl⟩⟩
  · rw [HT.out] at h1; cases h1
  replace B := Lib.hid (below_trans B.out hb)
  replace He := Lib.hid (He.out.step hb)
  replace X := Lib.hid (X.out.step hb)
  clear X2 HT HL2 hb hpn hbnd
  go_wp2_with fail
  refine (bytesClone X.out (by have := Hlen.out; omega)).mono ?_
  rintro e w4 ⟨v4, rfl, ho, hb⟩
  have Hb4 := Lib.hid hb
  have hs4 := hb.size
  have XO := Lib.hid ho
  clear ho hb X
  have HS := Lib.hid (Bs.newAt w4 #[.int .u8 (m : Int)] [UInt8.ofNat m] (by simp [bvs, bv]; omega) (by simp) w4.heap.size 1 1 rfl rfl rfl)
  have hlm := Lib.hid (show (made l k).length + ([UInt8.ofNat m] : List UInt8).length ≤ 140737488355328 by have := Hlen.out; simp; omega)
  have hlm5 := Lib.hid (show (made l k ++ [UInt8.ofNat m]).length ≤ 140737488355328 by have := Hlen.out; simp; omega)
  go_wp2_with (at_builtin; refine wpList_app rfl _ _ rfl (by rfl) (by rfl) (XO.out.alloc _) HS.out hlm.out (by simp; omega) ?_; intro v' w5 ho hg hnn hmv; have XO5 := Lib.hid ho; have B5 := Lib.hid ((Hb4.out.alloc hs4 _).trans (below_of_own (XO.out.alloc _) hg (by simp; omega))); clear ho hg hnn hmv)
  refine (peerOf XO5.out.bs (He.out.step B5.out) hlm5.out).mono ?_
  rintro e w6 ⟨hb, ⟨h1, _⟩ | ⟨_, rfl⟩⟩
  · rw [Hmore.out] at h1; cases h1
  replace B := Lib.hid (below_trans (below_trans B.out B5.out) hb)
  replace He := Lib.hid ((He.out.step B5.out).step hb)
  clear hb B5 XO5 Hb4 hs4 XO HS
  go_wp2_with fail
  refine (peersLive He.out).mono ?_
  rintro e w7 ⟨rfl, hb⟩
  replace B := Lib.hid (below_trans B.out hb)
  clear hb
  go_wp2_with fail
  go_ret
  exact ⟨rfl, B.out⟩
theorem walk_FnPeerTorn {k at_ m : Int} (f0 : IsArr v0 32 l) (f1 : IsInt .u8 v1 k) (f2 : IsInt .u8 v2 at_) (f3 : IsInt .u8 v3 m)
    (he : HasErr w 13 ∧ HasErr w 15 ∧ HasErr w 14 ∧ HasErr w 10 ∧ HasErr w 11 ∧ HasErr w 12) :
    Calls Tryd.prog 3 #[v0, v1, v2, v3] w fun e w' => Yes w e w' := by
  obtain ⟨rfl, hl⟩ := f0
  obtain ⟨rfl, a1, a2⟩ := isU8 f1
  obtain ⟨rfl, b1, b2⟩ := isU8 f2
  obtain ⟨rfl, c1, c2⟩ := isU8 f3
  obtain ⟨k, rfl⟩ := Int.eq_ofNat_of_zero_le a1
  obtain ⟨at_, rfl⟩ := Int.eq_ofNat_of_zero_le b1
  obtain ⟨m, rfl⟩ := Int.eq_ofNat_of_zero_le c1
  exact FnPeerTorn_main hl (by omega) (by omega) (by omega) ⟨⟨he.1, he.2.1, he.2.2.1⟩, he.2.2.2.1, he.2.2.2.2.1, he.2.2.2.2.2⟩
end
end Go.Proofs.YtcefcdmonfenoaaDoor

/- multihash: Encode, encodeHash, Sum. -/
import Derived.Test.YtkmjjoffamdnfaaGreatDoorMi01
import Derived.Test.YtkmjjoffamdnfaaGreatDoorMi12
import Derived.Test.YtkmjjoffamdnfaaGreatDoorMi14
import Derived.Deep.RegionHeld3
import Derived.Test.YtkmjjoffamdnfaaGreatDoorChecked
import Derived.WalkKit
import Derived.Lib.Hide
namespace Go.Proofs.YtkmjjoffamdnfaaGreatDoor
open Go.RowKit
set_option maxRecDepth 100000
theorem Own.ofRow {w : World} {g base n : Nat} {l : List UInt8} (h : Blk w g 5 (bvs l).toArray) (hb : base ≤ g) (hn : n = l.length) (hm : l.length ≤ 1000000) : Own w base (.slice (some ⟨g, 0, none⟩) n n) l := by
  subst hn
  refine ⟨by simp [bvs], .inr ⟨g, l.length, (bvs l).toArray, by simp, hb, h, by omega, ?_, by simp [bvs], ?_⟩⟩
  · unfold maxLen; omega
  · rw [Nat.mul_one, List.take_of_length_le]; rw [bvs_length]; omega
theorem over_mid {n : Nat} {x y : UInt8} {l : List UInt8} (hn : n = l.length) : Sha.over (((List.replicate (2 + n) 0).set 0 x).set 1 y) 2 (l.take n) = x :: y :: l := by
  subst hn
  rw [List.take_length, show 2 + l.length = l.length + 1 + 1 by omega, List.replicate_succ, List.replicate_succ]
  unfold Sha.over
  simp
  omega
section
variable {w : World} {g n c gp op x : Nat} {l : List UInt8} {V : Sha.V} {X : List UInt8} {nx len : Nat} {K : List Nat}
def Tup1 (w : World) (l : List UInt8) (e : Ending) (w' : World) : Prop := ∃ v', e = .returned (.tuple #[v', .nilIface]) ∧ Own w' w.heap.size v' l ∧ Below w.heap.size w w'
set_option maxHeartbeats 1000000 in
theorem mhEncode (h : Bs w w.heap.size (.slice (some ⟨gp, op, none⟩) n c) l) (hn : n = l.length) (hn0 : 0 < n) (hn1 : n ≤ 100) (hx : x ≤ 127) :
    Calls Tryz.prog 60 #[.slice (some ⟨gp, op, none⟩) n c, .int .u64 (x : Int)] w fun e w' => Tup1 w (UInt8.ofNat x :: UInt8.ofNat n :: l) e w' := by
  have H := Lib.hid h
  have Hn := Lib.hid hn
  have hmk : ∀ W : World, (Instr.makeSlice 22 (.int .i64 (2 + (n : Int))) (.int .i64 (2 + (n : Int)))).run Tryz.prog W = .ok (.slice (some ⟨W.heap.size, 0, none⟩) (2 + n) (2 + n)) (W.alloc (.cells (bvs (List.replicate (2 + n) 0)).toArray 5)) := fun W => by
    have := run_makeBytes' W (2 + n) (by omega)
    rw [show ((2 + n : Nat) : Int) = 2 + (n : Int) by omega] at this
    exact this
  have hs1 := fun W : World => fun g : Nat => slice_at W g 1 (2 + n) (1 + n) (by omega) (by omega)
  have hs2 := fun W : World => fun g : Nat => slice_at W g 2 (2 + n) n (by omega) (by omega)
  have nb : (n : Int) ≤ 100 := by omega
  clear h hn
  go_enter Tryz.func60, Tryz.ntmps60
  go_wp2_with fail
  refine (uvSize1 w (by omega) (by omega)).mono ?_
  rintro e w1 ⟨rfl, rfl⟩
  go_wp2_with fail
  refine (uvSize1 w (by omega) (by omega)).mono ?_
  rintro e w1 ⟨rfl, rfl⟩
  go_upto_region 2 with fail
  obtain ⟨L, hL⟩ : ∃ L : List UInt8, L = List.replicate (2 + n) 0 := ⟨_, rfl⟩
  have hLl : L.length = 2 + n := by rw [hL]; simp
  rw [← hL]
  have HL := Lib.hid hL
  obtain ⟨w1, hw1⟩ : ∃ w1, w1 = w.alloc (.cells (bvs L).toArray 5) := ⟨_, rfl⟩
  obtain ⟨gN, hgN⟩ : ∃ g, g = w.heap.size := ⟨_, rfl⟩
  have K1 := Lib.hid (show Blk w1 gN 5 (bvs L).toArray by rw [hw1, hgN]; exact Blk.new _ _ _)
  have B1 := Lib.hid (show Below w.heap.size w w1 by rw [hw1]; exact below_alloc _ _)
  have HgN := Lib.hid hgN
  have hgp : gp < gN ∨ n = 0 := by
    obtain ⟨A2, c2, he, hl, hc, hcell⟩ := H.out
    injection he with e1 e2 e3
    obtain ⟨g2, o2, hA, hlt, _⟩ := hcell (by rw [← Hn.out]; exact hn0)
    rw [← e1] at hA
    injection hA with hA
    injection hA with e4 e5 _
    left; omega
  have hgpN : gp ≠ gN := by omega
  have H1 := Lib.hid (H.out.step B1.out)
  rw [← hw1, ← hgN]
  clear hw1 hgN hL hmk H hgp
  go_wp2_with fail
  refine (putUv K1.out (by omega) (by omega) hx).mono ?_
  rintro e w2 ⟨rfl, hb2, hg2⟩
  have K2 := Lib.hid hb2
  have G2 := Lib.hid hg2
  clear hb2 hg2
  go_wp2_with fail
  have hp := putUv (x := n) (c := 1 + n) K2.out (n := 1 + n) (o := 1) (by omega) (by simp; omega) (by omega)
  refine hp.mono ?_
  rintro e w3 ⟨rfl, hb3, hg3⟩
  have K3 := Lib.hid hb3
  have G3 := Lib.hid (G2.out.trans hg3)
  have H3 := Lib.hid (H1.out.keepRow G3.out (Nat.le_refl _) (.inr (.inl (by simp [Value.ownBlock]; exact hgpN))))
  have Hmin := Lib.hid (show n = min n n by omega)
  have hfit : 2 + n ≤ (((L.set 0 (UInt8.ofNat x)).set 1 (UInt8.ofNat n))).length := by simp; omega
  clear hb3 hg3 K2 hp
  go_wp2_with (refine wpList_copyR (k := 2) (q := n) rfl _ _ rfl (by rfl) (by rfl) K3.out H3.out Hmin.out hfit ?_; intro w5 hd5 hg5; have HD5 := Lib.hid hd5; have HG5 := Lib.hid hg5; clear hd5 hg5)
  go_ret2
  have h5 := HD5.out
  rw [HL.out, over_mid Hn.out] at h5
  refine ⟨_, rfl, Own.ofRow h5 (by have := HgN.out; omega) (by have := Hn.out; simp; omega) (by have := Hn.out; simp; omega), ?_⟩
  exact below_grown B1.out (G3.out.trans HG5.out) (fun k e => by injection e with e; have := HgN.out; omega)
end
end Go.Proofs.YtkmjjoffamdnfaaGreatDoor

/- multihash: encodeHash and Sum, for the identity and SHA2-256. -/
namespace Go.Proofs.YtkmjjoffamdnfaaGreatDoor
open Go.RowKit
set_option maxRecDepth 100000
/- 303: the fuel as the goal shows it (this seat's number of types) -/
theorem methodShaSum (a : Addr) (w : World) : (method 303 139 (.pointer (some a)) "Sum").run Tryz.prog w = .ok (127, .pointer (some a)) w := by kernel_rfl
theorem methodShaSize (a : Addr) (w : World) : (method 303 139 (.pointer (some a)) "Size").run Tryz.prog w = .ok (126, .pointer (some a)) w := by kernel_rfl
theorem methodShaWrite (a : Addr) (w : World) : (method 303 139 (.pointer (some a)) "Write").run Tryz.prog w = .ok (128, .pointer (some a)) w := by kernel_rfl
theorem methodIdSum (a : Addr) (w : World) : (method 303 110 (.pointer (some a)) "Sum").run Tryz.prog w = .ok (116, .pointer (some a)) w := by kernel_rfl
theorem methodIdSize (a : Addr) (w : World) : (method 303 110 (.pointer (some a)) "Size").run Tryz.prog w = .ok (114, .pointer (some a)) w := by kernel_rfl
theorem methodIdWrite (g : Nat) (w : World) : (method 303 110 (.pointer (some ⟨g, 0, none⟩)) "Write").run Tryz.prog w = .ok (117, .pointer (some ⟨g, 0, none⟩)) w := by kernel_rfl
section
variable {w : World} {g n c gp op x : Nat} {l : List UInt8} {V : Sha.V} {X : List UInt8} {nx len : Nat} {K : List Nat}
theorem Own.at0 {base : Nat} {v : Value} {l : List UInt8} (h : Own w base v l) (hl : 0 < l.length) : ∃ g c, v = .slice (some ⟨g, 0, none⟩) l.length c ∧ base ≤ g ∧ l.length ≤ c := by
  rcases h.2 with ⟨rfl, h0⟩ | ⟨g, cap, cur, rfl, hbg, hg, hnc, hcm, hcs, ht⟩
  · rw [h0] at hl; exact absurd hl (by omega)
  · exact ⟨g, cap, rfl, hbg, hnc⟩
set_option maxHeartbeats 1000000 in
theorem encodeSha (hV : V.ok) (hK : K.length = 64) (hKs : Sha.Small K) (hk : Blk w 19 100 (u32s K).toArray)
    (hd : Dig w g V X nx len) (hF : Sha.Fed K V X nx len l) (hlen : len ≤ 90000) :
    Calls Tryz.prog 48 #[.iface 139 (.pointer (some ⟨g, 0, none⟩)), .int .u64 18, .int .i64 (-1)] w fun e w' => Tup1 w (18 :: 32 :: Sha.sumK K l) e w' := by
  have HD := Lib.hid hd
  have HS := Lib.hid (digSum hV hK hKs hk hd hF hlen)
  have hm1 := methodShaSum
  have hm2 := methodShaSize
  clear hV hK hKs hk hd hF
  go_enter Tryz.func48, Tryz.ntmps48
  go_wp2_with fail
  refine HS.out.mono ?_
  rintro e w2 ⟨v, rfl, ho, hb⟩
  obtain ⟨gs, c, rfl, hgs, hc⟩ := ho.at0 (by rw [Sha.sumK_length]; omega)
  have HR := Lib.hid ho
  have HD2 := Lib.hid (show Dig w2 g V X nx len from ⟨HD.out.1, HD.out.2.step hb⟩)
  have B := Lib.hid hb
  rw [Sha.sumK_length] at hc HR ⊢
  have hc32 : (32 : Int) ≤ (c : Int) := by omega
  clear ho hb HS
  go_wp2_with fail
  refine (digSize HD2.out).mono ?_
  rintro e w3 ⟨rfl, rfl⟩
  go_wp2_with fail
  have he := mhEncode (x := 18) HR.out.bs (Sha.sumK_length K l).symm (by omega) (by omega) (by omega)
  refine he.mono ?_
  rintro e w4 ⟨v', rfl, ho, hb⟩
  have HO := Lib.hid ho
  have hsz := B.out.size
  have B4 := Lib.hid (below_trans B.out hb)
  clear ho hb he
  go_wp2_with fail
  go_ret2
  exact ⟨v', rfl, HO.out.more hsz, B4.out⟩
set_option maxHeartbeats 1000000 in
theorem encodeId {gb : Nat} (hb : Blk w g 115 #[.slice (some ⟨gb, 0, none⟩) n 64, .int .i64 0, .int .i8 0]) (h : Bs w w.heap.size (.slice (some ⟨gb, 0, none⟩) n 64) l) (hn : n = l.length) (hn0 : 0 < n) (hn1 : n ≤ 64) :
    Calls Tryz.prog 48 #[.iface 110 (.pointer (some ⟨g, 0, none⟩)), .int .u64 0, .int .i64 (-1)] w fun e w' => Tup1 w (0 :: UInt8.ofNat n :: l) e w' := by
  have HB := Lib.hid hb
  have H := Lib.hid h
  have Hn := Lib.hid hn
  have hm1 := methodIdSum
  have hm2 := methodIdSize
  have n64 : (n : Int) ≤ 64 := by omega
  have n00 : (0 : Int) ≤ (n : Int) := by omega
  have hnn : ¬ (n : Int) < 0 := by omega
  clear hb h hn
  go_enter Tryz.func48, Tryz.ntmps48
  go_wp2_with fail
  refine (idSum HB.out).mono ?_
  rintro e w2 ⟨rfl, hb⟩
  have HB2 := Lib.hid (HB.out.step hb)
  have H2 := Lib.hid (H.out.step hb)
  have B2 := Lib.hid hb
  clear hb HB H
  go_wp2_with fail
  refine (idSize (by omega) HB2.out).mono ?_
  rintro e w3 ⟨rfl, hb⟩
  have H3 := Lib.hid (H2.out.step hb)
  have B3 := Lib.hid (below_trans B2.out hb)
  clear hb HB2 H2 B2
  go_wp2_with fail
  have he := mhEncode (x := 0) H3.out Hn.out hn0 (by omega) (by omega)
  refine he.mono ?_
  rintro e w4 ⟨v', rfl, ho, hb⟩
  have HO := Lib.hid ho
  have hsz := B3.out.size
  have B4 := Lib.hid (below_trans B3.out hb)
  clear ho hb he
  go_wp2_with fail
  go_ret2
  exact ⟨v', rfl, HO.out.more hsz, B4.out⟩
end
end Go.Proofs.YtkmjjoffamdnfaaGreatDoor

/- NewToy, toyOf. -/
namespace Go.Proofs.YtkmjjoffamdnfaaGreatDoor
open Go.RowKit
set_option maxRecDepth 100000
theorem newToy (w : World) {k n c : Nat} {A : Option Addr} (hk : k ≤ 3) (hn : 0 < n) :
    Calls Tryz.prog 34 #[.int .i32 (k : Int), .slice A n c] w fun e w' => e = .returned (.tuple #[.pointer (some ⟨w.heap.size, 0, none⟩), .nilIface]) ∧ Blk w' w.heap.size 87 #[.int .i32 (k : Int), .slice A n c] ∧ Below w.heap.size w w' := by
  have K := Lib.hid (Blk.new w 87 #[.int .i32 (k : Int), .slice A n c])
  have B := Lib.hid (below_alloc w (.cells #[.int .i32 (k : Int), .slice A n c] 87))
  have hk0 : ¬ ((k : Int) < 0) := by omega
  have hk3 : ¬ (3 < (k : Int)) := by omega
  have hk3' : (k : Int) ≤ 3 := by omega
  have hn0 : ¬ ((n : Int) = 0) := by omega
  have hn1 : ((n : Int) == 0) = false := by simpa using hn0
  go_enter Tryz.func34, Tryz.ntmps34
  go_wp2_with fail
  go_ret2
  exact ⟨rfl, K.out, B.out⟩
end Go.Proofs.YtkmjjoffamdnfaaGreatDoor

/- toyOf: a toy key of a kind and a copy of its data. -/
namespace Go.Proofs.YtkmjjoffamdnfaaGreatDoor
open Go.RowKit
set_option maxRecDepth 100000
theorem twoHeld {W : World} {g : Nat} {t : TypeId} {a b : Value} (h : Blk W g t #[a, b]) : W.cell? ⟨g, 0, none⟩ = some a ∧ W.cell? ⟨g, 1, none⟩ = some b := ⟨h.cell 0, h.cell 1⟩
theorem toyOf (w : World) {k n c : Nat} {A : Option Addr} {d : List UInt8} (hk : k ≤ 3) (h : Bs w w.heap.size (.slice A n c) d) (hn : n = d.length) (hpos : 0 < n) (hle : n ≤ 100000) :
    Calls Tryz.prog 20 #[.agg #[.int .i32 (k : Int), .slice A n c]] w fun e w' => ∃ (g : Nat) (A' : Option Addr) (n' c' : Nat), e = .returned (.tuple #[.pointer (some ⟨g, 0, none⟩), .bool true]) ∧
      Hid (Blk w' g 87 #[.int .i32 (k : Int), .slice A' n' c']) ∧ Hid (Bs w' w'.heap.size (.slice A' n' c') d) ∧ w.heap.size ≤ g ∧ Hid (Below w.heap.size w w') := by
  have Hn := Lib.hid hn
  have K := Lib.hid (Blk.new w 45 #[.int .i32 (k : Int), .slice A n c])
  have B := Lib.hid (below_alloc w (.cells #[.int .i32 (k : Int), .slice A n c] 45))
  have H := Lib.hid (h.step B.out)
  have hw0 : w.heap.size < (w.alloc (.cells #[.int .i32 (k : Int), .slice A n c] 45)).heap.size := by simp
  obtain ⟨w1, hw1⟩ : ∃ w1, w1 = w.alloc (.cells #[.int .i32 (k : Int), .slice A n c] 45) := ⟨_, rfl⟩
  rw [← hw1] at K B H hw0
  have Hw1 := Lib.hid hw1
  clear hw1 h hn
  go_enter Tryz.func20, Tryz.ntmps20
  go_upto_region 1 with fail
  rw [← Hw1.out]
  clear Hw1
  have K1 := Lib.hid (K.out.drew)
  have hc0 := (twoHeld K1.out).1
  go_region_held3 (fun W => W.cell? ⟨w.heap.size, 0, none⟩ = some (.int .i32 (k : Int)) ∧ W.cell? ⟨w.heap.size, 1, none⟩ = some (.slice A n c)) (with_reducible first | exact twoHeld K1.out | exact twoHeld K2.out | exact twoHeld K3.out) (first
    | (go_at_call 9; (with_reducible refine (bytesClone (l := d) (H.out.step (below_drew w1)) (by rw [← Hn.out]; omega)).mono ?_); rintro e w2 ⟨v2, rfl, ho, hb⟩; obtain ⟨A2, n2, c2, rfl, hn2e, _, _⟩ := ho.bs.form'; have K2 := Lib.hid (K1.out.step hb); have hn2 : 0 < n2 := (by rw [hn2e.out, ← Hn.out]; exact hpos); have X2 := Lib.hid ho.bs; have B2 := Lib.hid (below_trans (below_trans B.out (below_drew w1)) hb); clear ho hb)
    | (go_at_call 34; (with_reducible refine (newToy w2 hk hn2).mono ?_); rintro e w3 ⟨rfl, hb3, hb⟩; have K3 := Lib.hid (K2.out.step hb); have T3 := Lib.hid hb3; have X3 := Lib.hid (X2.out.step hb); have B3 := Lib.hid (below_trans B2.out hb); have hg3 := B2.out.size; clear hb3 hb))
  go_wp2_with fail
  go_quiet (fail)
  go_wp2_with fail
  go_ret2
  exact ⟨_, A2, n2, c2, rfl, Lib.hid (T3.out.drewN _), Lib.hid (X3.out.drewN1 _), hg3, Lib.hid (below_drewN B3.out _)⟩
end Go.Proofs.YtkmjjoffamdnfaaGreatDoor

/- Toy's Raw and Type; KeyType.Enum. -/
namespace Go.Proofs.YtkmjjoffamdnfaaGreatDoor
open Go.RowKit
set_option maxRecDepth 100000
theorem toyRaw {w : World} {g : Nat} {t : TypeId} {a b : Value} (h : Blk w g t #[a, b]) :
    Calls Tryz.prog 103 #[.pointer (some ⟨g, 0, none⟩)] w fun e w' => e = .returned (.tuple #[b, .nilIface]) ∧ w' = w := by
  have hc := (twoHeld h).2
  clear h
  go_enter Tryz.func103, Tryz.ntmps103
  go_wp2_with fail
  go_ret2
  exact ⟨rfl, rfl⟩
theorem toyType {w : World} {g : Nat} {t : TypeId} {a b : Value} (h : Blk w g t #[a, b]) :
    Calls Tryz.prog 104 #[.pointer (some ⟨g, 0, none⟩)] w fun e w' => e = .returned a ∧ w' = w := by
  have hc := (twoHeld h).1
  clear h
  go_enter Tryz.func104, Tryz.ntmps104
  go_wp2_with fail
  go_ret
  exact ⟨rfl, rfl⟩
end Go.Proofs.YtkmjjoffamdnfaaGreatDoor

/- KeyType.Enum. -/
namespace Go.Proofs.YtkmjjoffamdnfaaGreatDoor
open Go.RowKit
set_option maxRecDepth 100000
theorem kindEnum (w : World) (k : Int) :
    Calls Tryz.prog 28 #[.int .i32 k] w fun e w' => e = .returned (.pointer (some ⟨w.heap.size, 0, none⟩)) ∧ Blk w' w.heap.size 59 #[.int .i32 k] ∧ Below w.heap.size w w' := by
  have K := Lib.hid (Blk.new w 59 #[.int .i32 k])
  have B := Lib.hid (below_alloc w (.cells #[.int .i32 k] 59))
  go_enter Tryz.func28, Tryz.ntmps28
  go_wp2_with fail
  go_ret
  exact ⟨rfl, K.out, B.out⟩
end Go.Proofs.YtkmjjoffamdnfaaGreatDoor

/- PublicKeyToProto of a toy key. -/
namespace Go.Proofs.YtkmjjoffamdnfaaGreatDoor
open Go.RowKit
set_option maxRecDepth 100000
/- 303: the fuel as the goal shows it (this seat's number of types) -/
theorem methodRaw (a : Addr) (w : World) : (method 303 41 (.pointer (some a)) "Raw").run Tryz.prog w = .ok (103, .pointer (some a)) w := by kernel_rfl
theorem methodType (a : Addr) (w : World) : (method 303 41 (.pointer (some a)) "Type").run Tryz.prog w = .ok (104, .pointer (some a)) w := by kernel_rfl
theorem toProto {w : World} {g n c : Nat} {A : Option Addr} {k : Int} (h : Blk w g 87 #[.int .i32 k, .slice A n c]) :
    Calls Tryz.prog 46 #[.iface 41 (.pointer (some ⟨g, 0, none⟩))] w fun e w' => ∃ gk gm : Nat, e = .returned (.tuple #[.pointer (some ⟨gm, 0, none⟩), .nilIface]) ∧ w.heap.size ≤ gk ∧ w.heap.size ≤ gm ∧ Hid (Blk w' gk 59 #[.int .i32 k]) ∧ Hid (Blk w' gm 62 #[.pointer (some ⟨gk, 0, none⟩), .slice A n c]) ∧ Hid (Below w.heap.size w w') := by
  have K := Lib.hid h
  have hm1 := methodRaw
  have hm2 := methodType
  clear h
  go_enter Tryz.func46, Tryz.ntmps46
  go_wp2_with fail
  refine (toyRaw K.out).mono ?_
  rintro e w1 ⟨rfl, hw⟩
  subst hw
  go_wp2_with fail
  refine (toyType K.out).mono ?_
  rintro e w2 ⟨rfl, hw⟩
  subst hw
  go_wp2_with fail
  refine (kindEnum _ k).mono ?_
  rintro e w3 ⟨rfl, hk, hb⟩
  have HK := Lib.hid hk
  have B := Lib.hid hb
  have hs := hb.size
  clear hk hb
  go_wp2_with fail
  go_ret2
  exact ⟨_, _, rfl, Nat.le_refl _, hs, Lib.hid (HK.out.alloc _), Lib.hid (Blk.new _ _ _), Lib.hid (B.out.alloc hs _)⟩
end Go.Proofs.YtkmjjoffamdnfaaGreatDoor

/- ConsumeVarint: what it returns of bytes that are read, walked way by way. -/
namespace Go.Proofs.YtkmjjoffamdnfaaGreatDoor
open Go.RowKit

namespace Wire
/-- a byte as a number -/
def nb (l : List UInt8) (k : Nat) : Nat := (l.getD k 0).toNat
theorem nb_lt (l : List UInt8) (k : Nat) : nb l k ≤ 255 := by unfold nb; have := UInt8.toNat_lt (l.getD k 0); omega
theorem drop_nb {l : List UInt8} {k : Nat} (h : k < l.length) : ∃ c, l.drop k = c :: l.drop (k + 1) ∧ c.toNat = nb l k := by
  refine ⟨l[k], List.drop_eq_getElem_cons h, ?_⟩
  simp [nb, List.getD, List.getElem?_eq_getElem h]
theorem cv_stop (l : List UInt8) (k acc : Nat) (h : l.length ≤ k) : cvarGo k acc (l.drop k) = (0, -1) := by
  rw [List.drop_eq_nil_of_le h]; rfl
theorem cv_end (l : List UInt8) (k acc : Nat) (h : k < l.length) (h9 : k < 9) (hb : nb l k < 128) : cvarGo k acc (l.drop k) = (acc + nb l k * 2 ^ (7 * k), (k : Int) + 1) := by
  obtain ⟨c, hc, hn⟩ := drop_nb h
  rw [hc, cvarGo, if_neg (by omega), hn, if_pos hb]
theorem cv_next (l : List UInt8) (k acc : Nat) (h : k < l.length) (h9 : k < 9) (hb : ¬ nb l k < 128) : cvarGo k acc (l.drop k) = cvarGo (k + 1) (acc + (nb l k - 128) * 2 ^ (7 * k)) (l.drop (k + 1)) := by
  obtain ⟨c, hc, hn⟩ := drop_nb h
  rw [hc, cvarGo, if_neg (by omega), hn, if_neg hb]
theorem cv_nine (l : List UInt8) (acc : Nat) (h : 9 < l.length) (hb : nb l 9 < 2) : cvarGo 9 acc (l.drop 9) = (acc + nb l 9 * 2 ^ 63, 10) := by
  obtain ⟨c, hc, hn⟩ := drop_nb h
  rw [hc, cvarGo, if_pos rfl, hn, if_pos hb]
theorem cv_over (l : List UInt8) (acc : Nat) (h : 9 < l.length) (hb : ¬ nb l 9 < 2) : cvarGo 9 acc (l.drop 9) = (0, -3) := by
  obtain ⟨c, hc, hn⟩ := drop_nb h
  rw [hc, cvarGo, if_pos rfl, hn, if_neg hb]
end Wire

def cvAns (l : List UInt8) (e : Ending) : Prop := e = .returned (.tuple #[.int .u64 (Wire.cvar l).1, .int .i64 (Wire.cvar l).2])
theorem cvAns_of {l : List UInt8} {v n : Int} {m : Nat} {k : Int} (h : Hid (Wire.cvar l = (m, k))) (hv : v = m) (hn : n = k) : cvAns l (.returned (.tuple #[.int .u64 v, .int .i64 n])) := by
  unfold cvAns; rw [h.out, hv, hn]
theorem hid_next {l : List UInt8} {k acc : Nat} {t : Nat × Int} (h : Hid (Wire.cvar l = Wire.cvarGo k acc (l.drop k))) (h2 : Wire.cvarGo k acc (l.drop k) = t) : Hid (Wire.cvar l = t) := h.out.trans h2

set_option maxRecDepth 100000

theorem cv_w0_end (g o c n b0 : Nat) (w : World) (hn : 0 < n) (hm : n ≤ 9223372036854775807) (c0 : w.cell? ⟨g, o, none⟩ = some (.int .u8 (b0 : Int))) (q0 : b0 ≤ 255)  (p0 : b0 < 128) :
    Calls Tryz.prog 65 #[.slice (some ⟨g, o, none⟩) n c] w fun e w' => (∃ v : Int, e = .returned (.tuple #[.int .u64 v, .int .i64 (1)]) ∧ v = (((0 + b0 * 2 ^ 0 : Nat)) : Int)) ∧ w = w' := by
  go_enter Tryz.func65, Tryz.ntmps65
  go_wp2
  go_ret2
  exact ⟨⟨_, rfl, by first | rfl | (simp; done) | omega⟩, rfl⟩

theorem cv_w1_stop (g o c n b0 : Nat) (w : World) (hn : n = 1) (c0 : w.cell? ⟨g, o, none⟩ = some (.int .u8 (b0 : Int))) (q0 : b0 ≤ 255) (p0 : 128 ≤ b0) :
    Calls Tryz.prog 65 #[.slice (some ⟨g, o, none⟩) n c] w fun e w' => (∃ v : Int, e = .returned (.tuple #[.int .u64 v, .int .i64 (-1)]) ∧ v = 0) ∧ w = w' := by
  subst hn
  go_enter Tryz.func65, Tryz.ntmps65
  go_wp2
  go_ret2
  exact ⟨⟨_, rfl, by first | rfl | (simp; done) | omega⟩, rfl⟩

theorem cv_w1_end (g o c n b0 b1 : Nat) (w : World) (hn : 1 < n) (hm : n ≤ 9223372036854775807) (c0 : w.cell? ⟨g, o, none⟩ = some (.int .u8 (b0 : Int))) (q0 : b0 ≤ 255) (c1 : w.cell? ⟨g, o + 1, none⟩ = some (.int .u8 (b1 : Int))) (q1 : b1 ≤ 255) (p0 : 128 ≤ b0) (p1 : b1 < 128) :
    Calls Tryz.prog 65 #[.slice (some ⟨g, o, none⟩) n c] w fun e w' => (∃ v : Int, e = .returned (.tuple #[.int .u64 v, .int .i64 (2)]) ∧ v = (((0 + (b0 - 128) * 2 ^ (7 * 0) + b1 * 2 ^ 7 : Nat)) : Int)) ∧ w = w' := by
  go_enter Tryz.func65, Tryz.ntmps65
  go_wp2
  go_ret2
  exact ⟨⟨_, rfl, by first | rfl | (simp; done) | omega⟩, rfl⟩

theorem cv_w2_stop (g o c n b0 b1 : Nat) (w : World) (hn : n = 2) (c0 : w.cell? ⟨g, o, none⟩ = some (.int .u8 (b0 : Int))) (q0 : b0 ≤ 255) (c1 : w.cell? ⟨g, o + 1, none⟩ = some (.int .u8 (b1 : Int))) (q1 : b1 ≤ 255) (p0 : 128 ≤ b0) (p1 : 128 ≤ b1) :
    Calls Tryz.prog 65 #[.slice (some ⟨g, o, none⟩) n c] w fun e w' => (∃ v : Int, e = .returned (.tuple #[.int .u64 v, .int .i64 (-1)]) ∧ v = 0) ∧ w = w' := by
  subst hn
  go_enter Tryz.func65, Tryz.ntmps65
  go_wp2
  go_ret2
  exact ⟨⟨_, rfl, by first | rfl | (simp; done) | omega⟩, rfl⟩

theorem cv_w2_end (g o c n b0 b1 b2 : Nat) (w : World) (hn : 2 < n) (hm : n ≤ 9223372036854775807) (c0 : w.cell? ⟨g, o, none⟩ = some (.int .u8 (b0 : Int))) (q0 : b0 ≤ 255) (c1 : w.cell? ⟨g, o + 1, none⟩ = some (.int .u8 (b1 : Int))) (q1 : b1 ≤ 255) (c2 : w.cell? ⟨g, o + 2, none⟩ = some (.int .u8 (b2 : Int))) (q2 : b2 ≤ 255) (p0 : 128 ≤ b0) (p1 : 128 ≤ b1) (p2 : b2 < 128) :
    Calls Tryz.prog 65 #[.slice (some ⟨g, o, none⟩) n c] w fun e w' => (∃ v : Int, e = .returned (.tuple #[.int .u64 v, .int .i64 (3)]) ∧ v = (((0 + (b0 - 128) * 2 ^ (7 * 0) + (b1 - 128) * 2 ^ (7 * 1) + b2 * 2 ^ 14 : Nat)) : Int)) ∧ w = w' := by
  go_enter Tryz.func65, Tryz.ntmps65
  go_wp2
  go_ret2
  exact ⟨⟨_, rfl, by first | rfl | (simp; done) | omega⟩, rfl⟩

theorem cv_w3_stop (g o c n b0 b1 b2 : Nat) (w : World) (hn : n = 3) (c0 : w.cell? ⟨g, o, none⟩ = some (.int .u8 (b0 : Int))) (q0 : b0 ≤ 255) (c1 : w.cell? ⟨g, o + 1, none⟩ = some (.int .u8 (b1 : Int))) (q1 : b1 ≤ 255) (c2 : w.cell? ⟨g, o + 2, none⟩ = some (.int .u8 (b2 : Int))) (q2 : b2 ≤ 255) (p0 : 128 ≤ b0) (p1 : 128 ≤ b1) (p2 : 128 ≤ b2) :
    Calls Tryz.prog 65 #[.slice (some ⟨g, o, none⟩) n c] w fun e w' => (∃ v : Int, e = .returned (.tuple #[.int .u64 v, .int .i64 (-1)]) ∧ v = 0) ∧ w = w' := by
  subst hn
  go_enter Tryz.func65, Tryz.ntmps65
  go_wp2
  go_ret2
  exact ⟨⟨_, rfl, by first | rfl | (simp; done) | omega⟩, rfl⟩

theorem cv_w3_end (g o c n b0 b1 b2 b3 : Nat) (w : World) (hn : 3 < n) (hm : n ≤ 9223372036854775807) (c0 : w.cell? ⟨g, o, none⟩ = some (.int .u8 (b0 : Int))) (q0 : b0 ≤ 255) (c1 : w.cell? ⟨g, o + 1, none⟩ = some (.int .u8 (b1 : Int))) (q1 : b1 ≤ 255) (c2 : w.cell? ⟨g, o + 2, none⟩ = some (.int .u8 (b2 : Int))) (q2 : b2 ≤ 255) (c3 : w.cell? ⟨g, o + 3, none⟩ = some (.int .u8 (b3 : Int))) (q3 : b3 ≤ 255) (p0 : 128 ≤ b0) (p1 : 128 ≤ b1) (p2 : 128 ≤ b2) (p3 : b3 < 128) :
    Calls Tryz.prog 65 #[.slice (some ⟨g, o, none⟩) n c] w fun e w' => (∃ v : Int, e = .returned (.tuple #[.int .u64 v, .int .i64 (4)]) ∧ v = (((0 + (b0 - 128) * 2 ^ (7 * 0) + (b1 - 128) * 2 ^ (7 * 1) + (b2 - 128) * 2 ^ (7 * 2) + b3 * 2 ^ 21 : Nat)) : Int)) ∧ w = w' := by
  go_enter Tryz.func65, Tryz.ntmps65
  go_wp2
  go_ret2
  exact ⟨⟨_, rfl, by first | rfl | (simp; done) | omega⟩, rfl⟩

theorem cv_w4_stop (g o c n b0 b1 b2 b3 : Nat) (w : World) (hn : n = 4) (c0 : w.cell? ⟨g, o, none⟩ = some (.int .u8 (b0 : Int))) (q0 : b0 ≤ 255) (c1 : w.cell? ⟨g, o + 1, none⟩ = some (.int .u8 (b1 : Int))) (q1 : b1 ≤ 255) (c2 : w.cell? ⟨g, o + 2, none⟩ = some (.int .u8 (b2 : Int))) (q2 : b2 ≤ 255) (c3 : w.cell? ⟨g, o + 3, none⟩ = some (.int .u8 (b3 : Int))) (q3 : b3 ≤ 255) (p0 : 128 ≤ b0) (p1 : 128 ≤ b1) (p2 : 128 ≤ b2) (p3 : 128 ≤ b3) :
    Calls Tryz.prog 65 #[.slice (some ⟨g, o, none⟩) n c] w fun e w' => (∃ v : Int, e = .returned (.tuple #[.int .u64 v, .int .i64 (-1)]) ∧ v = 0) ∧ w = w' := by
  subst hn
  go_enter Tryz.func65, Tryz.ntmps65
  go_wp2
  go_ret2
  exact ⟨⟨_, rfl, by first | rfl | (simp; done) | omega⟩, rfl⟩

theorem cv_w4_end (g o c n b0 b1 b2 b3 b4 : Nat) (w : World) (hn : 4 < n) (hm : n ≤ 9223372036854775807) (c0 : w.cell? ⟨g, o, none⟩ = some (.int .u8 (b0 : Int))) (q0 : b0 ≤ 255) (c1 : w.cell? ⟨g, o + 1, none⟩ = some (.int .u8 (b1 : Int))) (q1 : b1 ≤ 255) (c2 : w.cell? ⟨g, o + 2, none⟩ = some (.int .u8 (b2 : Int))) (q2 : b2 ≤ 255) (c3 : w.cell? ⟨g, o + 3, none⟩ = some (.int .u8 (b3 : Int))) (q3 : b3 ≤ 255) (c4 : w.cell? ⟨g, o + 4, none⟩ = some (.int .u8 (b4 : Int))) (q4 : b4 ≤ 255) (p0 : 128 ≤ b0) (p1 : 128 ≤ b1) (p2 : 128 ≤ b2) (p3 : 128 ≤ b3) (p4 : b4 < 128) :
    Calls Tryz.prog 65 #[.slice (some ⟨g, o, none⟩) n c] w fun e w' => (∃ v : Int, e = .returned (.tuple #[.int .u64 v, .int .i64 (5)]) ∧ v = (((0 + (b0 - 128) * 2 ^ (7 * 0) + (b1 - 128) * 2 ^ (7 * 1) + (b2 - 128) * 2 ^ (7 * 2) + (b3 - 128) * 2 ^ (7 * 3) + b4 * 2 ^ 28 : Nat)) : Int)) ∧ w = w' := by
  go_enter Tryz.func65, Tryz.ntmps65
  go_wp2
  go_ret2
  exact ⟨⟨_, rfl, by first | rfl | (simp; done) | omega⟩, rfl⟩

theorem cv_w5_stop (g o c n b0 b1 b2 b3 b4 : Nat) (w : World) (hn : n = 5) (c0 : w.cell? ⟨g, o, none⟩ = some (.int .u8 (b0 : Int))) (q0 : b0 ≤ 255) (c1 : w.cell? ⟨g, o + 1, none⟩ = some (.int .u8 (b1 : Int))) (q1 : b1 ≤ 255) (c2 : w.cell? ⟨g, o + 2, none⟩ = some (.int .u8 (b2 : Int))) (q2 : b2 ≤ 255) (c3 : w.cell? ⟨g, o + 3, none⟩ = some (.int .u8 (b3 : Int))) (q3 : b3 ≤ 255) (c4 : w.cell? ⟨g, o + 4, none⟩ = some (.int .u8 (b4 : Int))) (q4 : b4 ≤ 255) (p0 : 128 ≤ b0) (p1 : 128 ≤ b1) (p2 : 128 ≤ b2) (p3 : 128 ≤ b3) (p4 : 128 ≤ b4) :
    Calls Tryz.prog 65 #[.slice (some ⟨g, o, none⟩) n c] w fun e w' => (∃ v : Int, e = .returned (.tuple #[.int .u64 v, .int .i64 (-1)]) ∧ v = 0) ∧ w = w' := by
  subst hn
  go_enter Tryz.func65, Tryz.ntmps65
  go_wp2
  go_ret2
  exact ⟨⟨_, rfl, by first | rfl | (simp; done) | omega⟩, rfl⟩

theorem cv_w5_end (g o c n b0 b1 b2 b3 b4 b5 : Nat) (w : World) (hn : 5 < n) (hm : n ≤ 9223372036854775807) (c0 : w.cell? ⟨g, o, none⟩ = some (.int .u8 (b0 : Int))) (q0 : b0 ≤ 255) (c1 : w.cell? ⟨g, o + 1, none⟩ = some (.int .u8 (b1 : Int))) (q1 : b1 ≤ 255) (c2 : w.cell? ⟨g, o + 2, none⟩ = some (.int .u8 (b2 : Int))) (q2 : b2 ≤ 255) (c3 : w.cell? ⟨g, o + 3, none⟩ = some (.int .u8 (b3 : Int))) (q3 : b3 ≤ 255) (c4 : w.cell? ⟨g, o + 4, none⟩ = some (.int .u8 (b4 : Int))) (q4 : b4 ≤ 255) (c5 : w.cell? ⟨g, o + 5, none⟩ = some (.int .u8 (b5 : Int))) (q5 : b5 ≤ 255) (p0 : 128 ≤ b0) (p1 : 128 ≤ b1) (p2 : 128 ≤ b2) (p3 : 128 ≤ b3) (p4 : 128 ≤ b4) (p5 : b5 < 128) :
    Calls Tryz.prog 65 #[.slice (some ⟨g, o, none⟩) n c] w fun e w' => (∃ v : Int, e = .returned (.tuple #[.int .u64 v, .int .i64 (6)]) ∧ v = (((0 + (b0 - 128) * 2 ^ (7 * 0) + (b1 - 128) * 2 ^ (7 * 1) + (b2 - 128) * 2 ^ (7 * 2) + (b3 - 128) * 2 ^ (7 * 3) + (b4 - 128) * 2 ^ (7 * 4) + b5 * 2 ^ 35 : Nat)) : Int)) ∧ w = w' := by
  go_enter Tryz.func65, Tryz.ntmps65
  go_wp2
  go_ret2
  exact ⟨⟨_, rfl, by first | rfl | (simp; done) | omega⟩, rfl⟩

theorem cv_w6_stop (g o c n b0 b1 b2 b3 b4 b5 : Nat) (w : World) (hn : n = 6) (c0 : w.cell? ⟨g, o, none⟩ = some (.int .u8 (b0 : Int))) (q0 : b0 ≤ 255) (c1 : w.cell? ⟨g, o + 1, none⟩ = some (.int .u8 (b1 : Int))) (q1 : b1 ≤ 255) (c2 : w.cell? ⟨g, o + 2, none⟩ = some (.int .u8 (b2 : Int))) (q2 : b2 ≤ 255) (c3 : w.cell? ⟨g, o + 3, none⟩ = some (.int .u8 (b3 : Int))) (q3 : b3 ≤ 255) (c4 : w.cell? ⟨g, o + 4, none⟩ = some (.int .u8 (b4 : Int))) (q4 : b4 ≤ 255) (c5 : w.cell? ⟨g, o + 5, none⟩ = some (.int .u8 (b5 : Int))) (q5 : b5 ≤ 255) (p0 : 128 ≤ b0) (p1 : 128 ≤ b1) (p2 : 128 ≤ b2) (p3 : 128 ≤ b3) (p4 : 128 ≤ b4) (p5 : 128 ≤ b5) :
    Calls Tryz.prog 65 #[.slice (some ⟨g, o, none⟩) n c] w fun e w' => (∃ v : Int, e = .returned (.tuple #[.int .u64 v, .int .i64 (-1)]) ∧ v = 0) ∧ w = w' := by
  subst hn
  go_enter Tryz.func65, Tryz.ntmps65
  go_wp2
  go_ret2
  exact ⟨⟨_, rfl, by first | rfl | (simp; done) | omega⟩, rfl⟩

theorem cv_w6_end (g o c n b0 b1 b2 b3 b4 b5 b6 : Nat) (w : World) (hn : 6 < n) (hm : n ≤ 9223372036854775807) (c0 : w.cell? ⟨g, o, none⟩ = some (.int .u8 (b0 : Int))) (q0 : b0 ≤ 255) (c1 : w.cell? ⟨g, o + 1, none⟩ = some (.int .u8 (b1 : Int))) (q1 : b1 ≤ 255) (c2 : w.cell? ⟨g, o + 2, none⟩ = some (.int .u8 (b2 : Int))) (q2 : b2 ≤ 255) (c3 : w.cell? ⟨g, o + 3, none⟩ = some (.int .u8 (b3 : Int))) (q3 : b3 ≤ 255) (c4 : w.cell? ⟨g, o + 4, none⟩ = some (.int .u8 (b4 : Int))) (q4 : b4 ≤ 255) (c5 : w.cell? ⟨g, o + 5, none⟩ = some (.int .u8 (b5 : Int))) (q5 : b5 ≤ 255) (c6 : w.cell? ⟨g, o + 6, none⟩ = some (.int .u8 (b6 : Int))) (q6 : b6 ≤ 255) (p0 : 128 ≤ b0) (p1 : 128 ≤ b1) (p2 : 128 ≤ b2) (p3 : 128 ≤ b3) (p4 : 128 ≤ b4) (p5 : 128 ≤ b5) (p6 : b6 < 128) :
    Calls Tryz.prog 65 #[.slice (some ⟨g, o, none⟩) n c] w fun e w' => (∃ v : Int, e = .returned (.tuple #[.int .u64 v, .int .i64 (7)]) ∧ v = (((0 + (b0 - 128) * 2 ^ (7 * 0) + (b1 - 128) * 2 ^ (7 * 1) + (b2 - 128) * 2 ^ (7 * 2) + (b3 - 128) * 2 ^ (7 * 3) + (b4 - 128) * 2 ^ (7 * 4) + (b5 - 128) * 2 ^ (7 * 5) + b6 * 2 ^ 42 : Nat)) : Int)) ∧ w = w' := by
  go_enter Tryz.func65, Tryz.ntmps65
  go_wp2
  go_ret2
  exact ⟨⟨_, rfl, by first | rfl | (simp; done) | omega⟩, rfl⟩

theorem cv_w7_stop (g o c n b0 b1 b2 b3 b4 b5 b6 : Nat) (w : World) (hn : n = 7) (c0 : w.cell? ⟨g, o, none⟩ = some (.int .u8 (b0 : Int))) (q0 : b0 ≤ 255) (c1 : w.cell? ⟨g, o + 1, none⟩ = some (.int .u8 (b1 : Int))) (q1 : b1 ≤ 255) (c2 : w.cell? ⟨g, o + 2, none⟩ = some (.int .u8 (b2 : Int))) (q2 : b2 ≤ 255) (c3 : w.cell? ⟨g, o + 3, none⟩ = some (.int .u8 (b3 : Int))) (q3 : b3 ≤ 255) (c4 : w.cell? ⟨g, o + 4, none⟩ = some (.int .u8 (b4 : Int))) (q4 : b4 ≤ 255) (c5 : w.cell? ⟨g, o + 5, none⟩ = some (.int .u8 (b5 : Int))) (q5 : b5 ≤ 255) (c6 : w.cell? ⟨g, o + 6, none⟩ = some (.int .u8 (b6 : Int))) (q6 : b6 ≤ 255) (p0 : 128 ≤ b0) (p1 : 128 ≤ b1) (p2 : 128 ≤ b2) (p3 : 128 ≤ b3) (p4 : 128 ≤ b4) (p5 : 128 ≤ b5) (p6 : 128 ≤ b6) :
    Calls Tryz.prog 65 #[.slice (some ⟨g, o, none⟩) n c] w fun e w' => (∃ v : Int, e = .returned (.tuple #[.int .u64 v, .int .i64 (-1)]) ∧ v = 0) ∧ w = w' := by
  subst hn
  go_enter Tryz.func65, Tryz.ntmps65
  go_wp2
  go_ret2
  exact ⟨⟨_, rfl, by first | rfl | (simp; done) | omega⟩, rfl⟩

theorem cv_w7_end (g o c n b0 b1 b2 b3 b4 b5 b6 b7 : Nat) (w : World) (hn : 7 < n) (hm : n ≤ 9223372036854775807) (c0 : w.cell? ⟨g, o, none⟩ = some (.int .u8 (b0 : Int))) (q0 : b0 ≤ 255) (c1 : w.cell? ⟨g, o + 1, none⟩ = some (.int .u8 (b1 : Int))) (q1 : b1 ≤ 255) (c2 : w.cell? ⟨g, o + 2, none⟩ = some (.int .u8 (b2 : Int))) (q2 : b2 ≤ 255) (c3 : w.cell? ⟨g, o + 3, none⟩ = some (.int .u8 (b3 : Int))) (q3 : b3 ≤ 255) (c4 : w.cell? ⟨g, o + 4, none⟩ = some (.int .u8 (b4 : Int))) (q4 : b4 ≤ 255) (c5 : w.cell? ⟨g, o + 5, none⟩ = some (.int .u8 (b5 : Int))) (q5 : b5 ≤ 255) (c6 : w.cell? ⟨g, o + 6, none⟩ = some (.int .u8 (b6 : Int))) (q6 : b6 ≤ 255) (c7 : w.cell? ⟨g, o + 7, none⟩ = some (.int .u8 (b7 : Int))) (q7 : b7 ≤ 255) (p0 : 128 ≤ b0) (p1 : 128 ≤ b1) (p2 : 128 ≤ b2) (p3 : 128 ≤ b3) (p4 : 128 ≤ b4) (p5 : 128 ≤ b5) (p6 : 128 ≤ b6) (p7 : b7 < 128) :
    Calls Tryz.prog 65 #[.slice (some ⟨g, o, none⟩) n c] w fun e w' => (∃ v : Int, e = .returned (.tuple #[.int .u64 v, .int .i64 (8)]) ∧ v = (((0 + (b0 - 128) * 2 ^ (7 * 0) + (b1 - 128) * 2 ^ (7 * 1) + (b2 - 128) * 2 ^ (7 * 2) + (b3 - 128) * 2 ^ (7 * 3) + (b4 - 128) * 2 ^ (7 * 4) + (b5 - 128) * 2 ^ (7 * 5) + (b6 - 128) * 2 ^ (7 * 6) + b7 * 2 ^ 49 : Nat)) : Int)) ∧ w = w' := by
  go_enter Tryz.func65, Tryz.ntmps65
  go_wp2
  go_ret2
  exact ⟨⟨_, rfl, by first | rfl | (simp; done) | omega⟩, rfl⟩

theorem cv_w8_stop (g o c n b0 b1 b2 b3 b4 b5 b6 b7 : Nat) (w : World) (hn : n = 8) (c0 : w.cell? ⟨g, o, none⟩ = some (.int .u8 (b0 : Int))) (q0 : b0 ≤ 255) (c1 : w.cell? ⟨g, o + 1, none⟩ = some (.int .u8 (b1 : Int))) (q1 : b1 ≤ 255) (c2 : w.cell? ⟨g, o + 2, none⟩ = some (.int .u8 (b2 : Int))) (q2 : b2 ≤ 255) (c3 : w.cell? ⟨g, o + 3, none⟩ = some (.int .u8 (b3 : Int))) (q3 : b3 ≤ 255) (c4 : w.cell? ⟨g, o + 4, none⟩ = some (.int .u8 (b4 : Int))) (q4 : b4 ≤ 255) (c5 : w.cell? ⟨g, o + 5, none⟩ = some (.int .u8 (b5 : Int))) (q5 : b5 ≤ 255) (c6 : w.cell? ⟨g, o + 6, none⟩ = some (.int .u8 (b6 : Int))) (q6 : b6 ≤ 255) (c7 : w.cell? ⟨g, o + 7, none⟩ = some (.int .u8 (b7 : Int))) (q7 : b7 ≤ 255) (p0 : 128 ≤ b0) (p1 : 128 ≤ b1) (p2 : 128 ≤ b2) (p3 : 128 ≤ b3) (p4 : 128 ≤ b4) (p5 : 128 ≤ b5) (p6 : 128 ≤ b6) (p7 : 128 ≤ b7) :
    Calls Tryz.prog 65 #[.slice (some ⟨g, o, none⟩) n c] w fun e w' => (∃ v : Int, e = .returned (.tuple #[.int .u64 v, .int .i64 (-1)]) ∧ v = 0) ∧ w = w' := by
  subst hn
  go_enter Tryz.func65, Tryz.ntmps65
  go_wp2
  go_ret2
  exact ⟨⟨_, rfl, by first | rfl | (simp; done) | omega⟩, rfl⟩

theorem cv_w8_end (g o c n b0 b1 b2 b3 b4 b5 b6 b7 b8 : Nat) (w : World) (hn : 8 < n) (hm : n ≤ 9223372036854775807) (c0 : w.cell? ⟨g, o, none⟩ = some (.int .u8 (b0 : Int))) (q0 : b0 ≤ 255) (c1 : w.cell? ⟨g, o + 1, none⟩ = some (.int .u8 (b1 : Int))) (q1 : b1 ≤ 255) (c2 : w.cell? ⟨g, o + 2, none⟩ = some (.int .u8 (b2 : Int))) (q2 : b2 ≤ 255) (c3 : w.cell? ⟨g, o + 3, none⟩ = some (.int .u8 (b3 : Int))) (q3 : b3 ≤ 255) (c4 : w.cell? ⟨g, o + 4, none⟩ = some (.int .u8 (b4 : Int))) (q4 : b4 ≤ 255) (c5 : w.cell? ⟨g, o + 5, none⟩ = some (.int .u8 (b5 : Int))) (q5 : b5 ≤ 255) (c6 : w.cell? ⟨g, o + 6, none⟩ = some (.int .u8 (b6 : Int))) (q6 : b6 ≤ 255) (c7 : w.cell? ⟨g, o + 7, none⟩ = some (.int .u8 (b7 : Int))) (q7 : b7 ≤ 255) (c8 : w.cell? ⟨g, o + 8, none⟩ = some (.int .u8 (b8 : Int))) (q8 : b8 ≤ 255) (p0 : 128 ≤ b0) (p1 : 128 ≤ b1) (p2 : 128 ≤ b2) (p3 : 128 ≤ b3) (p4 : 128 ≤ b4) (p5 : 128 ≤ b5) (p6 : 128 ≤ b6) (p7 : 128 ≤ b7) (p8 : b8 < 128) :
    Calls Tryz.prog 65 #[.slice (some ⟨g, o, none⟩) n c] w fun e w' => (∃ v : Int, e = .returned (.tuple #[.int .u64 v, .int .i64 (9)]) ∧ v = (((0 + (b0 - 128) * 2 ^ (7 * 0) + (b1 - 128) * 2 ^ (7 * 1) + (b2 - 128) * 2 ^ (7 * 2) + (b3 - 128) * 2 ^ (7 * 3) + (b4 - 128) * 2 ^ (7 * 4) + (b5 - 128) * 2 ^ (7 * 5) + (b6 - 128) * 2 ^ (7 * 6) + (b7 - 128) * 2 ^ (7 * 7) + b8 * 2 ^ 56 : Nat)) : Int)) ∧ w = w' := by
  go_enter Tryz.func65, Tryz.ntmps65
  go_wp2
  go_ret2
  exact ⟨⟨_, rfl, by first | rfl | (simp; done) | omega⟩, rfl⟩

theorem cv_w9_stop (g o c n b0 b1 b2 b3 b4 b5 b6 b7 b8 : Nat) (w : World) (hn : n = 9) (c0 : w.cell? ⟨g, o, none⟩ = some (.int .u8 (b0 : Int))) (q0 : b0 ≤ 255) (c1 : w.cell? ⟨g, o + 1, none⟩ = some (.int .u8 (b1 : Int))) (q1 : b1 ≤ 255) (c2 : w.cell? ⟨g, o + 2, none⟩ = some (.int .u8 (b2 : Int))) (q2 : b2 ≤ 255) (c3 : w.cell? ⟨g, o + 3, none⟩ = some (.int .u8 (b3 : Int))) (q3 : b3 ≤ 255) (c4 : w.cell? ⟨g, o + 4, none⟩ = some (.int .u8 (b4 : Int))) (q4 : b4 ≤ 255) (c5 : w.cell? ⟨g, o + 5, none⟩ = some (.int .u8 (b5 : Int))) (q5 : b5 ≤ 255) (c6 : w.cell? ⟨g, o + 6, none⟩ = some (.int .u8 (b6 : Int))) (q6 : b6 ≤ 255) (c7 : w.cell? ⟨g, o + 7, none⟩ = some (.int .u8 (b7 : Int))) (q7 : b7 ≤ 255) (c8 : w.cell? ⟨g, o + 8, none⟩ = some (.int .u8 (b8 : Int))) (q8 : b8 ≤ 255) (p0 : 128 ≤ b0) (p1 : 128 ≤ b1) (p2 : 128 ≤ b2) (p3 : 128 ≤ b3) (p4 : 128 ≤ b4) (p5 : 128 ≤ b5) (p6 : 128 ≤ b6) (p7 : 128 ≤ b7) (p8 : 128 ≤ b8) :
    Calls Tryz.prog 65 #[.slice (some ⟨g, o, none⟩) n c] w fun e w' => (∃ v : Int, e = .returned (.tuple #[.int .u64 v, .int .i64 (-1)]) ∧ v = 0) ∧ w = w' := by
  subst hn
  go_enter Tryz.func65, Tryz.ntmps65
  go_wp2
  go_ret2
  exact ⟨⟨_, rfl, by first | rfl | (simp; done) | omega⟩, rfl⟩

theorem cv_w9_end (g o c n b0 b1 b2 b3 b4 b5 b6 b7 b8 b9 : Nat) (w : World) (hn : 9 < n) (hm : n ≤ 9223372036854775807) (c0 : w.cell? ⟨g, o, none⟩ = some (.int .u8 (b0 : Int))) (q0 : b0 ≤ 255) (c1 : w.cell? ⟨g, o + 1, none⟩ = some (.int .u8 (b1 : Int))) (q1 : b1 ≤ 255) (c2 : w.cell? ⟨g, o + 2, none⟩ = some (.int .u8 (b2 : Int))) (q2 : b2 ≤ 255) (c3 : w.cell? ⟨g, o + 3, none⟩ = some (.int .u8 (b3 : Int))) (q3 : b3 ≤ 255) (c4 : w.cell? ⟨g, o + 4, none⟩ = some (.int .u8 (b4 : Int))) (q4 : b4 ≤ 255) (c5 : w.cell? ⟨g, o + 5, none⟩ = some (.int .u8 (b5 : Int))) (q5 : b5 ≤ 255) (c6 : w.cell? ⟨g, o + 6, none⟩ = some (.int .u8 (b6 : Int))) (q6 : b6 ≤ 255) (c7 : w.cell? ⟨g, o + 7, none⟩ = some (.int .u8 (b7 : Int))) (q7 : b7 ≤ 255) (c8 : w.cell? ⟨g, o + 8, none⟩ = some (.int .u8 (b8 : Int))) (q8 : b8 ≤ 255) (c9 : w.cell? ⟨g, o + 9, none⟩ = some (.int .u8 (b9 : Int))) (q9 : b9 ≤ 255) (p0 : 128 ≤ b0) (p1 : 128 ≤ b1) (p2 : 128 ≤ b2) (p3 : 128 ≤ b3) (p4 : 128 ≤ b4) (p5 : 128 ≤ b5) (p6 : 128 ≤ b6) (p7 : 128 ≤ b7) (p8 : 128 ≤ b8) (p9 : b9 < 2) :
    Calls Tryz.prog 65 #[.slice (some ⟨g, o, none⟩) n c] w fun e w' => (∃ v : Int, e = .returned (.tuple #[.int .u64 v, .int .i64 (10)]) ∧ v = (((0 + (b0 - 128) * 2 ^ (7 * 0) + (b1 - 128) * 2 ^ (7 * 1) + (b2 - 128) * 2 ^ (7 * 2) + (b3 - 128) * 2 ^ (7 * 3) + (b4 - 128) * 2 ^ (7 * 4) + (b5 - 128) * 2 ^ (7 * 5) + (b6 - 128) * 2 ^ (7 * 6) + (b7 - 128) * 2 ^ (7 * 7) + (b8 - 128) * 2 ^ (7 * 8) + b9 * 2 ^ 63 : Nat)) : Int)) ∧ w = w' := by
  go_enter Tryz.func65, Tryz.ntmps65
  go_wp2
  go_ret2
  exact ⟨⟨_, rfl, by first | rfl | (simp; done) | omega⟩, rfl⟩

theorem cv_w9_over (g o c n b0 b1 b2 b3 b4 b5 b6 b7 b8 b9 : Nat) (w : World) (hn : 9 < n) (hm : n ≤ 9223372036854775807) (c0 : w.cell? ⟨g, o, none⟩ = some (.int .u8 (b0 : Int))) (q0 : b0 ≤ 255) (c1 : w.cell? ⟨g, o + 1, none⟩ = some (.int .u8 (b1 : Int))) (q1 : b1 ≤ 255) (c2 : w.cell? ⟨g, o + 2, none⟩ = some (.int .u8 (b2 : Int))) (q2 : b2 ≤ 255) (c3 : w.cell? ⟨g, o + 3, none⟩ = some (.int .u8 (b3 : Int))) (q3 : b3 ≤ 255) (c4 : w.cell? ⟨g, o + 4, none⟩ = some (.int .u8 (b4 : Int))) (q4 : b4 ≤ 255) (c5 : w.cell? ⟨g, o + 5, none⟩ = some (.int .u8 (b5 : Int))) (q5 : b5 ≤ 255) (c6 : w.cell? ⟨g, o + 6, none⟩ = some (.int .u8 (b6 : Int))) (q6 : b6 ≤ 255) (c7 : w.cell? ⟨g, o + 7, none⟩ = some (.int .u8 (b7 : Int))) (q7 : b7 ≤ 255) (c8 : w.cell? ⟨g, o + 8, none⟩ = some (.int .u8 (b8 : Int))) (q8 : b8 ≤ 255) (c9 : w.cell? ⟨g, o + 9, none⟩ = some (.int .u8 (b9 : Int))) (q9 : b9 ≤ 255) (p0 : 128 ≤ b0) (p1 : 128 ≤ b1) (p2 : 128 ≤ b2) (p3 : 128 ≤ b3) (p4 : 128 ≤ b4) (p5 : 128 ≤ b5) (p6 : 128 ≤ b6) (p7 : 128 ≤ b7) (p8 : 128 ≤ b8) (p9 : 2 ≤ b9) :
    Calls Tryz.prog 65 #[.slice (some ⟨g, o, none⟩) n c] w fun e w' => (∃ v : Int, e = .returned (.tuple #[.int .u64 v, .int .i64 (-3)]) ∧ v = 0) ∧ w = w' := by
  go_enter Tryz.func65, Tryz.ntmps65
  go_wp2
  go_ret2
  exact ⟨⟨_, rfl, by first | rfl | (simp; done) | omega⟩, rfl⟩

end Go.Proofs.YtkmjjoffamdnfaaGreatDoor

/- The walk of FnPeerShortApart. -/
import Derived.Test.YtcefcdmonfenoaaDoorMk
import Derived.Test.YtcefcdmonfenoaaDoorPl
import Derived.Test.YtcefcdmonfenoaaDoorPs
import Derived.Test.YtcefcdmonfenoaaDoorWPeerTorn
import Derived.Deep.RegionHeld3
import Derived.Deep.DrawnRows
namespace Go.Proofs.YtcefcdmonfenoaaDoor
open Go.RowKit
set_option maxRecDepth 100000
def inner (t : List UInt8) : List UInt8 := if t.length ≤ 10 then t else t.take 2 ++ (42 :: t.drop (t.length - 6))
theorem short_inner (t : List UInt8) : shortOf t = preT ++ (inner t ++ [62]) := by
  unfold shortOf inner
  split
  · rfl
  · simp
theorem strOf_getElem (l : List UInt8) (k : Nat) (h : k < (strOf l).size) : (strOf l)[k]'h = l[k]'(by rw [strOf_size] at h; exact h) := by
  simp [strOf]
  rfl
theorem quoted (x : List UInt8) : ∃ (s : ByteArray) (q : Nat), strOf (preT ++ (x ++ [62])) = s ∧ s.size = x.length + 10 ∧ q + 1 = s.size ∧ (s.extract 0 9).toList = [60, 112, 101, 101, 114, 46, 73, 68, 32] ∧ (∀ h : q < s.size, s[q]'h = 62) ∧ s.extract 9 q = strOf x := by
  refine ⟨_, x.length + 9, rfl, ?_, ?_, ?_, ?_, ?_⟩
  · rw [strOf_size]; simp [preT]
  · rw [strOf_size]; simp [preT]
  · rw [strOf_extract, strOf_toList]; rfl
  · intro h
    rw [strOf_getElem]
    rw [List.getElem_append_right (by simp [preT])]
    rw [List.getElem_append_right (by simp [preT])]
    simp [preT]
  · rw [strOf_extract]
    congr 1
    have e : preT ++ (x ++ [62]) = (preT ++ x) ++ [62] := by simp
    rw [e, List.take_append_of_le_length (by simp [preT]), List.take_of_length_le (by simp [preT])]
    rfl
theorem innerLong {t : List UInt8} (h : ¬ t.length ≤ 10) : ∃ i T : ByteArray, strOf (inner t) = i ∧ strOf t = T ∧ T.size = t.length ∧ i.size = 9 ∧ i.extract 0 2 = T.extract 0 2 ∧ (∀ h : 2 < i.size, i[2]'h = 42) ∧ i.extract 3 9 = T.extract (T.size - 6) T.size := by
  have e : inner t = t.take 2 ++ (42 :: t.drop (t.length - 6)) := by unfold inner; rw [if_neg h]
  rw [e]
  refine ⟨_, _, rfl, rfl, strOf_size _, ?_, ?_, ?_, ?_⟩
  · rw [strOf_size]; simp; omega
  · rw [strOf_extract, strOf_extract]
    congr 1
    rw [List.take_append_of_le_length (by simp; omega), List.take_of_length_le (by simp; omega)]
  · intro h
    rw [strOf_getElem, List.getElem_append_right (by simp; omega)]
    have : 2 - (t.take 2).length = 0 := by simp; omega
    simp only [this]
    rfl
  · rw [strOf_extract, strOf_extract, strOf_size, List.take_length]
    congr 1
    have h2 : (t.take 2).length = 2 := by simp; omega
    rw [List.take_of_length_le (by simp; omega), List.drop_append, h2, List.drop_of_length_le (by rw [h2]; omega)]
    rfl
section
variable {w : World} {v0 v1 v2 v3 : Value} {l : List UInt8}
set_option maxHeartbeats 4000000 in
theorem FnPeerShortApart_main {k : Nat} (hl : l.length = 32) (hk : k ≤ 255) (he : MErr w) :
    Calls Tryd.prog 4 #[.agg (bvs l).toArray, .int .u8 (k : Int)] w fun e w' => Yes w e w' := by
  have hba := below_alloc w (.cells (bvs l).toArray 22)
  have K := Lib.hid (Blk.new w 22 (bvs l).toArray)
  have Hi32 := Lib.hid (bs32_size hl)
  have B := Lib.hid hba
  have He := Lib.hid (he.step hba)
  have Hlen := Lib.hid (made_len hl k).2
  have HP := Lib.hid (fun W => peerMade W l hl k hk)
  clear hba he hl
  obtain ⟨d, hd⟩ : ∃ d, d = made l k := ⟨_, rfl⟩
  rw [← hd] at HP Hlen
  clear hd
  go_enter Tryd.func4, Tryd.ntmps4
  go_wp2_with ((refine wpList_load_row rfl 22 _ (by rfl) w.heap.size (by rfl) 22 (bvs l).toArray (0, 0) _ K.out Tryd.underlying22 rfl Hi32.out ?_))
  refine (HP.out _).mono ?_
  rintro e w1 ⟨v1, rfl, ho, hb⟩
  replace B := Lib.hid (below_trans B.out hb)
  replace He := Lib.hid (He.out.step hb)
  have X := Lib.hid ho.bs
  clear ho hb HP K Hi32
  go_wp2_with fail
  refine (bytesClone X.out (by have := Hlen.out; omega)).mono ?_
  rintro e w2 ⟨v2, rfl, ho, hb⟩
  replace B := Lib.hid (below_trans B.out hb)
  replace He := Lib.hid (He.out.step hb)
  replace X := Lib.hid (X.out.step hb)
  have X2 := Lib.hid ho.bs
  clear ho hb
  go_wp2_with fail
  refine (peerShort X2.out (by have := Hlen.out; omega)).mono ?_
  rintro e w3 ⟨rfl, hb⟩
  replace B := Lib.hid (below_trans B.out hb)
  replace He := Lib.hid (He.out.step hb)
  replace X := Lib.hid (X.out.step hb)
  clear hb X2
  go_wp2_with fail
  refine (bytesClone X.out (by have := Hlen.out; omega)).mono ?_
  rintro e w4 ⟨v4, rfl, ho, hb⟩
  replace B := Lib.hid (below_trans B.out hb)
  replace He := Lib.hid (He.out.step hb)
  have X2 := Lib.hid ho.bs
  clear ho hb X
  go_wp2_with fail
  refine (peerText X2.out (by have := Hlen.out; omega)).mono ?_
  rintro e w5 ⟨rfl, hb⟩
  replace B := Lib.hid (below_trans B.out hb)
  replace He := Lib.hid (He.out.step hb)
  clear hb X2
  have Hel := Lib.hid (enc_len d)
  obtain ⟨t, ht⟩ : ∃ t, t = B58.enc d := ⟨_, rfl⟩
  rw [← ht] at Hel ⊢
  clear ht
  obtain ⟨s, q, hs, hsz, hq, hpre, hidx, hin⟩ := quoted (inner t)
  rw [← short_inner] at hs
  rw [hs]
  clear hs
  have hw : wrap64 ((s.size : Int) - 1) = (q : Int) := by
    have h1 := Hel.out
    have h2 := Hlen.out
    have h3 : (inner t).length ≤ t.length + 9 := by unfold inner; split <;> simp <;> omega
    rw [← hq]
    have : (((q + 1 : Nat) : Int) - 1) = (q : Int) := by omega
    rw [this]; unfold wrap64; omega
  have hs10 : (10 : Int) ≤ (s.size : Int) := by omega
  have hq9 : (9 : Int) ≤ (q : Int) := by omega
  have hqs : (q : Int) < (s.size : Int) := by omega
  clear hsz hq
  by_cases h10 : t.length ≤ 10
  · have hi : inner t = t := by unfold inner; rw [if_pos h10]
    rw [hi] at hin
    rw [← strOf_size t] at h10
    generalize strOf t = T at hin h10 ⊢
    clear hi
    go_wp2_with fail
    refine (peersLive He.out).mono ?_
    rintro e w6 ⟨rfl, hb⟩
    replace B := Lib.hid (below_trans B.out hb)
    clear hb
    go_wp2_with fail
    go_ret
    exact ⟨rfl, B.out⟩
  · obtain ⟨i, T, hi, hT, hTs, his, hi2, hi42, hi6⟩ := innerLong h10
    rw [hi] at hin
    rw [hT]
    clear hi hT
    have hT11 : (10 : Int) < (T.size : Int) := by omega
    have hi3 : (3 : Int) ≤ (i.size : Int) := by rw [his]; omega
    have hT2 : (2 : Int) ≤ (T.size : Int) := by omega
    have hT6 : (0 : Int) ≤ (T.size : Int) - 6 := by omega
    have hTb : T.size ≤ 103 := by have h1 := Hel.out; have h2 := Hlen.out; omega
    obtain ⟨u, hu⟩ : ∃ u, u = T.size - 6 := ⟨_, rfl⟩
    rw [← hu] at hi6
    have hwT : IntKind.i64.wrap ((T.size : Int) - 6) = (u : Int) := by rw [IntKind.wrap_i64]; omega
    have hwT2 : wrap64 ((T.size : Int) - 6) = (u : Int) := by unfold wrap64; omega
    have hu1 : (u : Int) ≤ (T.size : Int) := by omega
    have hu0 : (0 : Int) ≤ (u : Int) := by omega
    clear hu hT6 hTb
    clear hTs h10
    go_upto_region 8 with fail
    go_region_held3 (fun _ => True) (trivial) ((go_at_call 23; (with_reducible refine (peersLive (He.out.step (below_drew w5))).mono ?_); rintro e w6 ⟨rfl, hb⟩; have B6 := Lib.hid (below_trans (below_trans B.out (below_drew w5)) hb); clear hb))
    go_wp2_with fail
    go_ret
    exact ⟨rfl, B6.out⟩
theorem walk_FnPeerShortApart {k : Int} (f0 : IsArr v0 32 l) (f1 : IsInt .u8 v1 k)
    (he : HasErr w 13 ∧ HasErr w 15 ∧ HasErr w 14 ∧ HasErr w 10 ∧ HasErr w 11 ∧ HasErr w 12) :
    Calls Tryd.prog 4 #[v0, v1] w fun e w' => Yes w e w' := by
  obtain ⟨rfl, hl⟩ := f0
  obtain ⟨rfl, a1, a2⟩ := isU8 f1
  obtain ⟨k, rfl⟩ := Int.eq_ofNat_of_zero_le a1
  exact FnPeerShortApart_main hl (by omega) ⟨⟨he.1, he.2.1, he.2.2.1⟩, he.2.2.2.1, he.2.2.2.2.1, he.2.2.2.2.2⟩
end
end Go.Proofs.YtcefcdmonfenoaaDoor

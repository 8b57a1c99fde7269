/- The texts of IDs: what stands above base58's encoding. -/
import Derived.Test.YtkmjjoffamdnfaaGreatDoorMi01
import Derived.Test.YtkmjjoffamdnfaaGreatDoorMi02
import Derived.Test.YtkmjjoffamdnfaaGreatDoorMi14
import Derived.Test.YtkmjjoffamdnfaaGreatDoorMi16
import Derived.Test.YtkmjjoffamdnfaaGreatDoorMi18
import Derived.Test.YtkmjjoffamdnfaaGreatDoorMi19
import Derived.Test.YtkmjjoffamdnfaaGreatDoorMi20
import Derived.Deep.CutBlock
import Derived.Deep.DeepCutAuto
import Derived.Test.YtkmjjoffamdnfaaGreatDoorRows
import Derived.ProofKit
import Derived.LaidMore
import Derived.OpenShut
import Derived.Stop.Joined
import Derived.Stop.LaidErr
import Derived.LaidLaws
import Derived.ShutString
import Derived.ChangeOld
namespace Go.Proofs.YtkmjjoffamdnfaaGreatDoor
open Go.RowKit
set_option maxRecDepth 100000
section
variable {w : World} {v : Value} {l : List UInt8}
def Txt (w : World) (t : List UInt8) (e : Ending) (w' : World) : Prop := e = .returned (.string (strOf t)) ∧ Below w.heap.size w w'
theorem fastB58 (h : Bs w w.heap.size v l) (hlen : l.length ≤ 1000000) :
    Calls Tryz.prog 57 #[v] w fun e w' => Txt w (B58.enc l) e w' := by
  have H := Lib.hid h
  clear h
  go_enter Tryz.func57, Tryz.ntmps57
  go_wp2_with fail
  refine (btcAlphabet w).mono ?_
  rintro e w1 ⟨g, rfl, hb, hbl, hg⟩
  have Hb := Lib.hid hb
  have Hbl := Lib.hid hbl
  clear hb hbl hg
  go_wp2_with fail
  refine (fastEnc (H.out.step Hbl.out) Hb.out hlen).mono ?_
  rintro e w2 ⟨rfl, hb2⟩
  go_wp2_with fail
  go_ret
  exact ⟨rfl, below_trans Hbl.out hb2⟩
theorem b58Encode (h : Bs w w.heap.size v l) (hlen : l.length ≤ 1000000) :
    Calls Tryz.prog 45 #[v] w fun e w' => Txt w (B58.enc l) e w' := by
  have H := Lib.hid h
  clear h
  go_enter Tryz.func45, Tryz.ntmps45
  go_wp2_with fail
  refine (fastB58 H.out hlen).mono ?_
  rintro e w2 ⟨rfl, hb2⟩
  go_wp2_with fail
  go_ret
  exact ⟨rfl, hb2⟩
theorem idString (w : World) (l : List UInt8) (hlen : l.length ≤ 1000000) :
    Calls Tryz.prog 33 #[.string (strOf l)] w fun e w' => Txt w (B58.enc l) e w' := by
  obtain ⟨w1, c, hr, hb, hbl, hc, hm⟩ := conv_bytes w l (by omega) (src := 46) Tryz.underlying46
  have Hb := Lib.hid hb
  have Hbl := Lib.hid hbl
  clear hb hbl
  go_enter Tryz.func33, Tryz.ntmps33
  go_wp2_with fail
  refine (b58Encode Hb.out hlen).mono ?_
  rintro e w2 ⟨rfl, hb2⟩
  go_wp2_with fail
  go_ret
  exact ⟨rfl, below_trans Hbl.out hb2⟩
theorem peerText (h : Bs w w.heap.size v l) (hlen : l.length ≤ 1000000) :
    Calls Tryz.prog 18 #[v] w fun e w' => Txt w (B58.enc l) e w' := by
  have hconv := conv_str h (dst := 46) Tryz.underlying46
  clear h
  go_enter Tryz.func18, Tryz.ntmps18
  go_wp2_with fail
  refine (idString w l hlen).mono ?_
  rintro e w2 ⟨rfl, hb2⟩
  go_wp2_with fail
  go_ret
  exact ⟨rfl, hb2⟩
end
end Go.Proofs.YtkmjjoffamdnfaaGreatDoor

/- The reference's PeerBase58: it comes to the same text. -/
namespace Go.Proofs.YtkmjjoffamdnfaaGreatDoor
open Go.RowKit
set_option maxRecDepth 100000
theorem dig_len (l : List UInt8) : (B58.dig (B58.num l)).length ≤ 2 * l.length + 1 := by
  obtain ⟨_, _, _, h4⟩ := B58.dig_spec (B58.num l)
  rcases Nat.eq_zero_or_pos (B58.num l) with h0 | h0
  · rw [h0, B58.dig_zero]; simp
  · have h5 := h4 (by omega)
    have h6 := B58.num_lt l
    have h7 : (256 : Nat) ^ l.length ≤ 58 ^ (2 * l.length) := by
      rw [Nat.pow_mul]; exact Nat.pow_le_pow_left (by decide) _
    have h8 : 58 ^ ((B58.dig (B58.num l)).length - 1) < 58 ^ (2 * l.length) := by omega
    have := (Nat.pow_lt_pow_iff_right (a := 58) (by omega)).1 h8
    omega
theorem dig_more {ca : Nat} (h : ca ≠ 0) (X : List UInt8) : B58.dig (ca / 58) ++ UInt8.ofNat (ca % 58) :: X = B58.dig ca ++ X := by
  rw [B58.dig_pos h, List.append_assoc]; rfl
theorem one_more (j : Nat) : strOf (List.replicate j 49) ++ ({ data := #[49] } : ByteArray) = strOf (List.replicate (j + 1) 49) := by
  rw [List.replicate_succ', ← strOf_append]; rfl
theorem letters_more {z t : Nat} {D : List UInt8} (ht : t < D.length) : strOf (List.replicate z 49 ++ (D.take t).map B58.letter) ++ strOf [B58.letter D[t]] = strOf (List.replicate z 49 ++ (D.take (t + 1)).map B58.letter) := by
  rw [strOf_append, List.take_succ_eq_append_getElem ht, List.map_append, List.append_assoc]; rfl
theorem letter_extract (y : UInt8) (h : y.toNat < 58) : (strOf B58.alpha).extract y.toNat (y.toNat + 1) = strOf [B58.letter y] := by
  rw [strOf_extract]
  congr 1
  unfold B58.letter
  have h' : y.toNat < B58.alpha.length := h
  rw [List.take_succ_eq_append_getElem h', List.drop_left' (by simp; omega), List.getD_eq_getElem?_getD, List.getElem?_eq_getElem h']
  rfl
section
variable {w : World} {v : Value} {l : List UInt8}
set_option maxHeartbeats 1000000 in
theorem peerBase58 (h : Bs w w.heap.size v l) (hlen : l.length ≤ 1000000) :
    Calls Tryz.prog 19 #[v] w fun e w' => e = .returned (.string (strOf (B58.enc l))) ∧ Below w.heap.size w w' := by
  obtain ⟨A, n, c, rfl, hn, hc, hm⟩ := h.form'
  have H := Lib.hid h
  have hn6 : n ≤ 1000000 := by rw [hn.out]; exact hlen
  clear h hlen
  go_enter Tryz.func19, Tryz.ntmps19
  go_wp2_with fail
  go_loopw [3, 14] (fun s3 s14 wr => ∃ (k : Nat) (A3 : Option Addr) (n3 c3 : Nat), k ≤ n ∧ s14 = .int .i64 (k : Int) ∧ s3 = .slice A3 n3 c3 ∧ Hid (Own wr w.heap.size (.slice A3 n3 c3) (B58.dig (B58.num (l.take k)))) ∧ Hid (Below w.heap.size w wr)) (fun _ s14 _ => n - (intOf s14).toNat)
  case atStart => exact ⟨0, none, 0, 0, Nat.zero_le _, rfl, rfl, Lib.hid (by rw [List.take_zero, B58.num_nil, B58.dig_zero]; exact Own.nil _ _), Lib.hid (below_refl w)⟩
  case round =>
    obtain ⟨k, A3, n3, c3, hk, rfl, rfl, HO, HB⟩ := hrel
    by_cases hlt : k < n
    · have hkl : k < l.length := by rw [← hn.out]; exact hlt
      obtain ⟨g, o, rfl, hcell, _⟩ := (H.out.below HB.out).at' hkl
      have hd := UInt8.toNat_lt l[k]
      have HS := Lib.hid (B58.num_succ hkl)
      have HL := Lib.hid (dig_len (l.take (k + 1)))
      have HL0 := Lib.hid (dig_len (l.take k))
      generalize l[k].toNat = d at *
      have hd255 : d ≤ 255 := by omega
      clear hd
      obtain ⟨D, hD⟩ : ∃ D, D = B58.dig (B58.num (l.take k)) := ⟨_, rfl⟩
      have HDg := Lib.hid (show B58.Dig D by rw [hD]; exact (B58.dig_spec _).1)
      have HT := Lib.hid (show B58.dig (B58.step D d).2 ++ (B58.step D d).1 = B58.dig (B58.num (l.take (k + 1))) by rw [HS.out, hD]; exact (B58.dig_step _ _).symm)
      rw [← hD] at HO HL0
      have hn3 : n3 = D.length := by
        rcases HO.out.form with ⟨e, e2⟩ | ⟨g, c, e, _⟩
        · injection e with _ e _; rw [e, e2]; rfl
        · injection e with _ e _
      have Hn3 := Lib.hid hn3
      have hn3b : n3 ≤ 2000001 := by rw [hn3]; have := HL0.out; rw [List.length_take] at this; omega
      clear hD hn3 HL0
      have HT0 := Lib.hid (show D.drop n3 = [] from List.drop_of_length_le (by rw [Hn3.out]; exact Nat.le_refl _))
      have HO0 := Lib.hid (show Own wr w.heap.size (.slice A3 n3 c3) (D.take n3 ++ (B58.step (D.drop n3) d).1) by
        rw [HT0.out, List.take_of_length_le (by rw [Hn3.out]; exact Nat.le_refl _)]
        have e : (B58.step [] d).1 = [] := rfl
        rw [e, List.append_nil]
        exact HO.out)
      have HC0 := Lib.hid (show d = (B58.step (D.drop n3) d).2 by rw [HT0.out]; rfl)
      clear HO HT0
      go_wp2_with fail
      clear hcell
      go_loopw [6, 7] (fun s6 s7 wr => ∃ (j ca : Nat) (q : Int), s7 = .int .i64 q ∧ q = (j : Int) - 1 ∧ j ≤ n3 ∧ s6 = .int .i64 (ca : Int) ∧ ca ≤ 255 ∧ Hid (ca = (B58.step (D.drop j) d).2) ∧ Hid (Own wr w.heap.size (.slice A3 n3 c3) (D.take j ++ (B58.step (D.drop j) d).1)) ∧ Hid (Below w.heap.size w wr)) (fun _ s7 _ => (intOf s7 + 1).toNat)
      case atStart => exact ⟨n3, d, _, rfl, rfl, Nat.le_refl _, rfl, hd255, HC0, HO0, HB⟩
      case round =>
        clear HO0 HC0 HB
        obtain ⟨j, ca, q, rfl, hjq, hjS, rfl, hca, HC, HO, HB⟩ := hrel
        by_cases hj0 : 0 < j
        · obtain ⟨j, rfl⟩ : ∃ k, j = k + 1 := ⟨j - 1, by omega⟩
          obtain rfl : q = (j : Int) := by omega
          have hjT : j < D.length := by rw [← Hn3.out]; omega
          have hTj := HDg.out D[j] (List.getElem_mem hjT)
          obtain ⟨g3, rfl, hg3, hcell, hfree, hset⟩ := HO.out.at' (k := j) (by simp; omega)
          rw [List.getElem_append_left (by simp; omega), List.getElem_take] at hcell
          obtain ⟨h1, h2⟩ := step_cons (T := D) (c := d) hjT
          have hset' := hset (UInt8.ofNat (((B58.step (D.drop (j + 1)) d).2 + D[j].toNat * 256) % 58)) (((ca : Int) + ((D[j].toNat : Nat) : Int) * 256) % 58) (by rw [B58.toNat_mod, HC.out]; omega)
          rw [set_mid hjT, ← h1] at hset'
          have HO2 := Lib.hid hset'
          have HC2 := Lib.hid (show (ca + D[j].toNat * 256) / 58 = (B58.step (D.drop j) d).2 by rw [h2, ← HC.out])
          have hca2 : (ca + D[j].toNat * 256) / 58 ≤ 255 := by omega
          have HB2 := Lib.hid (blk_setCell_below HB.out hg3 j (.int .u8 (((ca : Int) + ((D[j].toNat : Nat) : Int) * 256) % 58)))
          clear h1 h2 HO HC HB hset hset' hjq
          generalize D[j].toNat = t at *
          go_wp2_with fail
          exact ⟨⟨j, (ca + t * 256) / 58, _, rfl, rfl, by omega, by go_num, hca2, HC2, HO2, HB2⟩, by simp [intOf] <;> omega⟩
        · obtain rfl : j = 0 := by omega
          have hq0 : q < 0 := by omega
          clear hjq
          have HX0 := Lib.hid (show B58.dig ca ++ (B58.step D d).1 = B58.dig (B58.num (l.take (k + 1))) by rw [HC.out, List.drop_zero]; exact HT.out)
          have HO0 := Lib.hid (show Own wr w.heap.size (.slice A3 n3 c3) (B58.step D d).1 from HO.out)
          clear HC HO
          go_wp2_with fail
          go_loopw [3, 6] (fun s3 s6 wr => ∃ (ca : Nat) (X : List UInt8) (A3 : Option Addr) (n3 c3 : Nat), s3 = .slice A3 n3 c3 ∧ s6 = .int .i64 (ca : Int) ∧ ca ≤ 255 ∧ Hid (B58.dig ca ++ X = B58.dig (B58.num (l.take (k + 1)))) ∧ Hid (Own wr w.heap.size (.slice A3 n3 c3) X) ∧ Hid (Below w.heap.size w wr)) (fun _ s6 _ => (intOf s6).toNat)
          case atStart => exact ⟨ca, _, A3, n3, c3, rfl, rfl, hca, HX0, HO0, HB⟩
          case round =>
            clear HX0 HO0 HB hca
            obtain ⟨ca, X, A3, n3, c3, rfl, rfl, hca, HX, HO, HB⟩ := hrel
            by_cases h0 : ca = 0
            · have HO2 := Lib.hid (show Own wr w.heap.size (.slice A3 n3 c3) (B58.dig (B58.num (l.take (k + 1)))) by rw [← HX.out, h0, B58.dig_zero]; exact HO.out)
              clear HX HO
              subst h0
              go_wp2_with fail
              exact ⟨⟨k + 1, A3, n3, c3, by omega, by go_num, rfl, HO2, HB⟩, by simp [intOf]; omega⟩
            · have hpos : 0 < ca := by omega
              have HX2 := Lib.hid (show B58.dig (ca / 58) ++ UInt8.ofNat (ca % 58) :: X = B58.dig (B58.num (l.take (k + 1))) by rw [dig_more h0]; exact HX.out)
              have hXl : X.length ≤ 2000002 := by
                have h1 := HL.out
                rw [← HX.out, List.length_append, List.length_take] at h1
                omega
              have hsz := HB.out.size
              clear HX h0
              go_wp2_with (at_builtin; refine wpList_app rfl _ _ rfl (by rfl) (by rfl) (Own.one wr w.heap.size hsz (UInt8.ofNat (ca % 58)) (by rw [B58.toNat_mod]; omega)) (HO.out.bs.alloc (Nat.le_refl _) _) (by simp; omega) (by simp; omega) ?_; intro v5 w5 ho5 hg5 _ _; have HO5 := Lib.hid ho5; have HB5 := Lib.hid ((HB.out.alloc hsz _).trans (below_of_own (Own.one wr w.heap.size hsz (UInt8.ofNat (ca % 58)) (by rw [B58.toNat_mod]; omega)) hg5 (by simp; omega))); clear ho5 hg5)
              obtain ⟨A5, n5, c5, rfl⟩ := hid_exists_bs' HO5.out.bs
              exact ⟨⟨ca / 58, _, A5, n5, c5, rfl, by go_num, by omega, HX2, HO5, HB5⟩, by simp [intOf]; omega⟩
    · obtain rfl : k = n := by omega
      obtain ⟨D, hD⟩ : ∃ D, D = B58.dig (B58.num l) := ⟨_, rfl⟩
      have HD := Lib.hid hD
      have HDg := Lib.hid (show B58.Dig D by rw [hD]; exact (B58.dig_spec _).1)
      have HO2 := Lib.hid (show Bs wr wr.heap.size (.slice A3 n3 c3) D by have := HO.out.bs; rw [hn.out, List.take_length] at this; rw [hD]; exact this)
      clear hD HO hlt
      go_upto_block 6 with fail
      go_cut [8] (fun s8 wx => ∃ (z : Nat) (s : ByteArray), s8 = .string s ∧ Hid (s = strOf (List.replicate z 49)) ∧ s.size ≤ k ∧ Hid (z = B58.zeros l) ∧ wr = wx)
      case first =>
        go_wp2_with fail
        go_loop [8, 9] (fun s8 s9 => ∃ (j : Nat) (s : ByteArray), j ≤ k ∧ s8 = .string s ∧ Hid (s = strOf (List.replicate j 49)) ∧ s.size ≤ j ∧ s9 = .int .i64 (j : Int) ∧ Hid (l.take j = List.replicate j 0)) (fun _ s9 => k - (intOf s9).toNat)
        case atStart => exact ⟨0, _, Nat.zero_le _, rfl, Lib.hid rfl, Nat.le_refl _, rfl, Lib.hid (by simp)⟩
        case round =>
          obtain ⟨j, s, hj, rfl, Hs, hsz, rfl, hz⟩ := hrel
          by_cases hlt : j < k
          · have hjl : j < l.length := by rw [← hn.out]; exact hlt
            obtain ⟨g, o, rfl, hcell, _⟩ := (H.out.below HB.out).at' hjl
            have hq := u8_eq0 l[j]
            by_cases h0 : l[j] = 0
            · have hz2 := Lib.hid (show l.take (j + 1) = List.replicate (j + 1) 0 by rw [List.take_succ_eq_append_getElem hjl, hz.out, h0, List.replicate_succ'])
              have Hs2 := Lib.hid (show s ++ ({ data := #[49] } : ByteArray) = strOf (List.replicate (j + 1) 49) by rw [Hs.out]; exact one_more j)
              have hsz2 : (s ++ ({ data := #[49] } : ByteArray)).size ≤ j + 1 := by rw [ByteArray.size_append]; exact Nat.add_le_add_right hsz 1
              rw [decide_eq_true h0] at hq
              clear hz h0
              generalize l[j].toNat = d at *
              go_wp2_with fail
              go_round
              case rel => exact ⟨j + 1, _, by omega, rfl, Hs2, hsz2, by go_num, hz2⟩
              case measure => simp [intOf]; omega
            · have hz2 := Lib.hid (B58.zeros_next hjl hz.out h0).symm
              rw [decide_eq_false h0] at hq
              clear hz h0
              generalize l[j].toNat = d at *
              go_wp2_with fail
              go_meet
              exact ⟨j, s, rfl, Hs, by omega, hz2, rfl⟩
          · obtain rfl : j = k := by omega
            have hz2 := Lib.hid (show j = B58.zeros l by have := hz.out; rw [hn.out] at this ⊢; exact (B58.zeros_all this).symm)
            clear hz
            go_wp2_with fail
            go_meet
            exact ⟨j, s, rfl, Hs, hsz, hz2, rfl⟩
      case rest =>
        obtain ⟨z, s, rfl, Hs, hsz, Hz, rfl⟩ := hcut
        have hn3b : n3 ≤ 2000001 := by have h1 := HD.out; have h2 := dig_len l; rw [← h1] at h2; have h3 : n3 = D.length := by { obtain ⟨A', c', e, _⟩ := HO2.out.form; injection e with _ e _ }; rw [h3]; have := hn.out; omega
        have Hn3 := Lib.hid (show n3 = D.length by obtain ⟨A', c', e, _⟩ := HO2.out.form; injection e with _ e _)
        go_wp2_with fail
        go_loop [8, 71] (fun s8 s71 => ∃ (t : Nat) (s : ByteArray), t ≤ n3 ∧ s71 = .int .i64 (t : Int) ∧ s8 = .string s ∧ Hid (s = strOf (List.replicate z 49 ++ (D.take t).map B58.letter)) ∧ s.size ≤ k + t) (fun _ s71 => n3 - (intOf s71).toNat)
        case atStart => exact ⟨0, s, Nat.zero_le _, rfl, rfl, Lib.hid (by rw [Hs.out]; simp), by omega⟩
        case round =>
          clear Hs hsz
          obtain ⟨t, s, ht, rfl, rfl, Hs, hsz⟩ := hrel
          by_cases hlt : t < n3
          · have htD : t < D.length := by rw [← Hn3.out]; exact hlt
            obtain ⟨g, o, rfl, hcell, _⟩ := HO2.out.at' htD
            have hd58 := HDg.out D[t] (List.getElem_mem htD)
            have Hs2 := Lib.hid (show s ++ (strOf B58.alpha).extract D[t].toNat (D[t].toNat + 1) = strOf (List.replicate z 49 ++ (D.take (t + 1)).map B58.letter) by
              rw [letter_extract _ hd58, Hs.out]; exact letters_more htD)
            have hsz2 : (s ++ (strOf B58.alpha).extract D[t].toNat (D[t].toNat + 1)).size ≤ k + (t + 1) := by
              rw [ByteArray.size_append, ByteArray.size_extract]; omega
            generalize D[t].toNat = d at *
            go_wp2_with fail
            go_round
            case rel => exact ⟨t + 1, _, by omega, by go_num, rfl, Hs2, hsz2⟩
            case measure => simp [intOf]; omega
          · obtain rfl : t = n3 := by omega
            have Hs2 := Lib.hid (show s = strOf (B58.enc l) by rw [Hs.out, Hn3.out, List.take_length, Hz.out, HD.out]; rfl)
            obtain rfl := Hs2.out
            clear Hs Hs2
            go_wp2_with fail
            go_ret
            exact ⟨rfl, HB.out⟩
end
end Go.Proofs.YtkmjjoffamdnfaaGreatDoor

/- peersLive: the statements' small example of an ID. -/
namespace Go.Proofs.YtkmjjoffamdnfaaGreatDoor
open Go.RowKit
set_option maxRecDepth 100000
theorem litp3 : (#[.int .u8 0, .int .u8 1, .int .u8 7] : Array Value).toList = bvs [0, 1, 7] := by simp [bvs]
theorem okp3 : Mh.ok [0, 1, 7] = true := by decide
set_option maxHeartbeats 1000000 in
theorem peersLive {w : World} (he : MErr w) : Calls Tryz.prog 7 #[] w fun e w' => Yes w e w' := by
  have He := Lib.hid he
  clear he
  go_enter Tryz.func7, Tryz.ntmps7
  go_wp2_with fail
  have ha := below_alloc w (.cells #[.int .u8 0, .int .u8 1, .int .u8 7] 5)
  refine (peerOf (l := [0, 1, 7]) (Bs.newAt w _ _ litp3 (by simp) _ 3 3 rfl rfl rfl) (He.out.step ha) (by simp)).mono ?_
  rintro e w1 ⟨hb, hans⟩
  have B := Lib.hid (below_trans ha hb)
  clear ha hb
  rcases hans with ⟨_, v1, rfl, hx⟩ | ⟨hno, _⟩
  rotate_left
  · rw [okp3] at hno; cases hno
  obtain ⟨A1, n1, c1, rfl⟩ := hid_exists_bs' hx
  have X := Lib.hid hx
  clear hx
  go_wp2_with fail
  have ha := below_alloc w1 (.cells #[.int .u8 0, .int .u8 1, .int .u8 7] 5)
  have c1 := bytesEqual (X.out.step ha) (Bs.newAt w1 _ _ litp3 (by simp) _ 3 3 rfl rfl rfl)
  have B2 := Lib.hid (below_trans B.out ha)
  refine c1.mono ?_
  rintro e w2 ⟨rfl, rfl⟩
  clear ha c1
  have hbq : (([0, 1, 7] : List UInt8) == [0, 1, 7]) = true := rfl
  go_wp2_with fail
  have ha := below_alloc (w1.alloc (.cells #[.int .u8 0, .int .u8 1, .int .u8 7] 5)) (.cells #[.int .u8 0, .int .u8 1, .int .u8 7] 5)
  refine (peerText (l := [0, 1, 7]) (Bs.newAt _ _ _ litp3 (by simp) _ 3 3 (by simp) rfl rfl) (by simp)).mono ?_
  rintro e w3 ⟨rfl, hb⟩
  replace B2 := Lib.hid (below_trans B2.out (below_trans ha hb))
  clear ha hb
  go_wp2_with fail
  have ha := below_alloc w3 (.cells #[.int .u8 0, .int .u8 1, .int .u8 7] 5)
  refine (peerBase58 (l := [0, 1, 7]) (Bs.newAt w3 _ _ litp3 (by simp) _ 3 3 rfl rfl rfl) (by simp)).mono ?_
  rintro e w4 ⟨rfl, hb⟩
  replace B2 := Lib.hid (below_trans B2.out (below_trans ha hb))
  clear ha hb
  have hs : ((strOf (B58.enc [0, 1, 7])).toList == (strOf (B58.enc [0, 1, 7])).toList) = true := by simp
  go_wp2_with fail
  go_ret
  exact ⟨rfl, B2.out⟩
end Go.Proofs.YtkmjjoffamdnfaaGreatDoor

/- What the listed variables give the walks: each holds an error; and the opening of arguments that are bytes. -/
namespace Go.Proofs.YtkmjjoffamdnfaaGreatDoor
open Go.ChangeShapes Go.WideShapes Go.ChangeAt Go.RowKit
set_option maxRecDepth 100000

theorem Tryz.own : ownKnob Tryz.prog.godebug = none := by kernel_rfl
theorem Tryz.laidOut : laidOutB Tryz.prog = true := by kernel_rfl

theorem hasErr_head {n nm : String} {D : DataW Unit} {r : List (String × DataW Unit)} {W : World} {g : Nat} (h : laidMet Tryz.prog ((n, .iface nm D) :: r) W)
    (hg : Tryz.prog.globalNamed n = some g) (ht : (Tryz.prog.globals[g]?).map (·.type) = some 48) : HasErr W g := by
  obtain ⟨ps, ⟨g0, t0, cs0, f0, p0, q0, hg0, ht0, hv0, hd0, _, e0⟩, _, hrows⟩ := h
  obtain rfl := Option.some.inj (hg.symm.trans hg0)
  obtain rfl := Option.some.inj (ht.symm.trans ht0)
  obtain ⟨f1, u, v, hcs, _⟩ := iface_of_trod Tryz.underlying48 hd0
  refine ⟨u, v, ?_⟩
  have := World.var?_cell hg0 hv0 0
  rw [Array.eq_one_of_toList hcs] at this
  simpa using this

theorem Tryz.gEof : Tryz.prog.globalNamed "io.ErrUnexpectedEOF" = some 6 ∧ (Tryz.prog.globals[6]?).map (·.type) = some 48 := ⟨by kernel_rfl, by kernel_rfl⟩
theorem Tryz.gField : Tryz.prog.globalNamed "pub-symmory/pub/protowire.errFieldNumber" = some 7 ∧ (Tryz.prog.globals[7]?).map (·.type) = some 48 := ⟨by kernel_rfl, by kernel_rfl⟩
theorem Tryz.gOver : Tryz.prog.globalNamed "pub-symmory/pub/protowire.errOverflow" = some 8 ∧ (Tryz.prog.globals[8]?).map (·.type) = some 48 := ⟨by kernel_rfl, by kernel_rfl⟩
theorem Tryz.gRes : Tryz.prog.globalNamed "pub-symmory/pub/protowire.errReserved" = some 9 ∧ (Tryz.prog.globals[9]?).map (·.type) = some 48 := ⟨by kernel_rfl, by kernel_rfl⟩
theorem Tryz.gEnd : Tryz.prog.globalNamed "pub-symmory/pub/protowire.errEndGroup" = some 10 ∧ (Tryz.prog.globals[10]?).map (·.type) = some 48 := ⟨by kernel_rfl, by kernel_rfl⟩
theorem Tryz.gParse : Tryz.prog.globalNamed "pub-symmory/pub/protowire.errParse" = some 11 ∧ (Tryz.prog.globals[11]?).map (·.type) = some 48 := ⟨by kernel_rfl, by kernel_rfl⟩
theorem Tryz.gCNum : Tryz.prog.globalNamed "pub-symmory/pub/libp2p/core/crypto/pb.errNumber" = some 5 ∧ (Tryz.prog.globals[5]?).map (·.type) = some 48 := ⟨by kernel_rfl, by kernel_rfl⟩
theorem Tryz.gCReq : Tryz.prog.globalNamed "pub-symmory/pub/libp2p/core/crypto/pb.errRequired" = some 2 ∧ (Tryz.prog.globals[2]?).map (·.type) = some 48 := ⟨by kernel_rfl, by kernel_rfl⟩

/-- numbers that are bytes, as bytes -/
def toBytes (zs : List Int) : List UInt8 := zs.map fun z => UInt8.ofNat z.toNat

theorem wf_u8 {z : Int} (h : (Lit.int .u8 z).wf = true) : 0 ≤ z ∧ z ≤ 255 := bounds_u8 h

/-- an argument that is a slice of bytes -/
theorem bs_of_trod {H : Type} {enc : TypeId × Value → H} {W : World} {b : Nat} {sp : Nat → Bool} {hd : Bool} {a : Option Addr} {n c : Nat} {d : DataW H} {p : List MemPlace}
    (h : DataW.Trod enc Tryz.prog W b sp hd 22 (.slice a n c) d p) : ∃ l : List UInt8, Bs W W.heap.size (.slice a n c) l ∧ l.length = n := by
  obtain ⟨fuel, hf⟩ := h
  rcases open_ints Tryz.underlying22 Tryz.underlying5 (by kernel_rfl) hf with ⟨hcs, _⟩ | ⟨x, l, cc, zs, hcs, _, hl, hm, hz, _, hcell, hwz⟩
  · simp [Value.cells] at hcs
    obtain ⟨rfl, rfl, rfl⟩ := hcs
    exact ⟨[], Bs.nil0 _ _, rfl⟩
  · simp [Value.cells] at hcs
    obtain ⟨rfl, rfl, rfl⟩ := hcs
    have hlen : (toBytes (zs.take n)).length = n := by
      simp only [toBytes, List.length_map, List.length_take]
      have hzn : n ≤ zs.length := by rw [hz]; split <;> omega
      omega
    refine ⟨toBytes (zs.take n), ?_, hlen⟩
    refine ⟨some x, c, by rw [hlen], by rw [hlen]; exact hl, by unfold maxLen at hm; exact hm, fun hpos => ?_⟩
    rw [hlen] at hpos
    have hzn : n ≤ zs.length := by
      have h2 := hlen
      simp only [toBytes, List.length_map, List.length_take] at h2
      omega
    have h0 := hcell 0 (by omega)
    obtain ⟨g, o, spot⟩ := x
    have hs : spot = none := by
      cases spot with
      | none => rfl
      | some s =>
        exfalso
        simp only [Addr.add, if_true] at h0
        unfold World.cell? at h0
        split at h0
        · simp at h0
        · simp at h0
    subst hs
    have hlt : g < W.heap.size := by
      have := World.block_lt_of_cell? W _ h0
      simpa [Addr.add] using this
    refine ⟨g, o, rfl, hlt, fun k hk => ?_⟩
    rw [hlen] at hk
    have hk' := hcell k (by omega)
    have ha : (⟨g, o, none⟩ : Addr).add k = ⟨g, o + k, none⟩ := by
      unfold Addr.add
      split
      · next h0 => subst h0; rfl
      · rfl
    rw [ha] at hk'
    rw [hk']
    have hb := wf_u8 (hwz _ (List.getElem_mem (show k < zs.length by omega)))
    have e1 : zs.getD k 0 = zs[k] := by simp [List.getD, List.getElem?_eq_getElem (show k < zs.length by omega)]
    rw [e1]
    have e2 : (toBytes (zs.take n))[k]'(by rw [hlen]; exact hk) = UInt8.ofNat (zs[k]).toNat := by simp [toBytes]
    rw [e2]
    show some (Value.int .u8 _) = some (Value.int .u8 _)
    rw [Wire.ofNat_toNat (by omega)]
    congr 2
    omega

/-- an argument that is a whole number -/
def IsInt (k : IntKind) (v : Value) (x : Int) : Prop := v = .int k x ∧ (Lit.int k x).wf = true
theorem isI32 {v : Value} {x : Int} (h : IsInt .i32 v x) : v = .int .i32 x ∧ -2147483648 ≤ x ∧ x ≤ 2147483647 := ⟨h.1, bounds_i32 h.2⟩
theorem isU8 {v : Value} {x : Int} (h : IsInt .u8 v x) : v = .int .u8 x ∧ 0 ≤ x ∧ x ≤ 255 := ⟨h.1, bounds_u8 h.2⟩
theorem isU16 {v : Value} {x : Int} (h : IsInt .u16 v x) : v = .int .u16 x ∧ 0 ≤ x ∧ x ≤ 65535 := ⟨h.1, bounds_u16 h.2⟩
theorem isU32 {v : Value} {x : Int} (h : IsInt .u32 v x) : v = .int .u32 x ∧ 0 ≤ x ∧ x ≤ 4294967295 := ⟨h.1, bounds_u32 h.2⟩
theorem isU64 {v : Value} {x : Int} (h : IsInt .u64 v x) : v = .int .u64 x ∧ 0 ≤ x ∧ x ≤ 18446744073709551615 := ⟨h.1, bounds_u64 h.2⟩

section
variable {H : Type} {enc : TypeId × Value → H} {W : World} {base : Nat} {v : Value} {d : DataW H} {p : List MemPlace}
theorem openInt {t : TypeId} {k : IntKind} (hu : Tryz.prog.underlying t = some (.int k)) (hv : Value.okWide Tryz.prog W .any base t v) (h : DataW.Trod enc Tryz.prog W 0 (fun _ => true) true t v d p) : ∃ x, IsInt k v x := by
  obtain ⟨x, rfl, _, _, w⟩ := open_int hu hv h
  exact ⟨x, rfl, w⟩
theorem openBytes (hv : Value.okWide Tryz.prog W .any base 22 v) (h : DataW.Trod enc Tryz.prog W 0 (fun _ => true) true 22 v d p) : ∃ l, Bs W W.heap.size v l := by
  obtain ⟨a, n, c, rfl⟩ := okWide_slice Tryz.underlying22 hv
  obtain ⟨l, hl, _⟩ := bs_of_trod h
  exact ⟨l, hl⟩
theorem lt_of_trod {t : TypeId} (h : DataW.Trod enc Tryz.prog W 0 (fun _ => true) true t v d p) : ∀ x ∈ p, x.block < W.heap.size := by
  obtain ⟨m, hm⟩ := h; exact DataW.trod_lt m _ _ _ hm
end
end Go.Proofs.YtkmjjoffamdnfaaGreatDoor

/- The walk of FnPeerInlined. -/
namespace Go.Proofs.YtkmjjoffamdnfaaGreatDoor
open Go.RowKit
set_option maxRecDepth 100000
theorem keyEnc_len (k : Int) (d : List UInt8) (hd : d.length < 2 ^ 64) : (keyEnc k d).length ≤ d.length + 22 ∧ 0 < (keyEnc k d).length := by
  have h1 : (Wire.venc (kindNum k)).length ≤ 10 := Wire.venc_length_u64 (kindNum_lt k)
  have h2 : (keyEnc k d).length = 1 + (Wire.venc (kindNum k)).length + 1 + ((Wire.venc d.length).length + d.length) := by simp [keyEnc, lenEnc]; omega
  have h3 : (Wire.venc d.length).length ≤ 10 := Wire.venc_length_u64 hd
  omega
theorem twoCells {w : World} {B n c : Nat} {A : Option Addr} {a b : UInt8} {l : List UInt8} (h : Bs w B (.slice A n c) (a :: b :: l)) : ∃ g o, A = some ⟨g, o, none⟩ ∧ w.cell? ⟨g, o, none⟩ = some (.int .u8 (a.toNat : Int)) ∧ w.cell? ⟨g, o + 1, none⟩ = some (.int .u8 (b.toNat : Int)) := by
  obtain ⟨A2, c2, he, h1, hc, hcell⟩ := h
  injection he with e1 e2 e3
  obtain ⟨g, o, hA, hlt, hx⟩ := hcell (by simp)
  exact ⟨g, o, by rw [e1, hA], hx 0 (by simp), hx 1 (by simp)⟩
/-- the data of a toy key -/
def keyData (k : Nat) (l : List UInt8) : List UInt8 := if l.length = 0 then [UInt8.ofNat k] else l
theorem keyData_pos (k : Nat) (l : List UInt8) : 0 < (keyData k l).length := by
  unfold keyData
  split
  · simp
  · omega
section
variable {w : World} {v0 v1 : Value} {l : List UInt8} {K : List Nat}
theorem peerKeyL {k n c : Nat} {A : Option Addr} (h : Bs w w.heap.size (.slice A n c) l) (hn : n = l.length) (hk : k ≤ 255) :
    Calls Tryz.prog 6 #[.int .u8 (k : Int), .slice A n c] w fun e w' => ∃ A' n' c', e = .returned (.tuple #[.int .i32 ((k % 4 : Nat) : Int), .slice A' n' c']) ∧ Bs w' w'.heap.size (.slice A' n' c') (keyData k l) ∧ n' = (keyData k l).length ∧ Below w.heap.size w w' := by
  have H := Lib.hid h
  have Hn := Lib.hid hn
  by_cases h0 : n = 0
  · have HE := Lib.hid (show keyData k l = [UInt8.ofNat k] by unfold keyData; rw [if_pos (by omega)])
    subst h0
    clear h hn
    go_enter Tryz.func6, Tryz.ntmps6
    go_wp2_with fail
    have hb := below_alloc w (.cells #[.int .u8 (k : Int)] 5)
    have hs := Bs.newAt w #[.int .u8 (k : Int)] [UInt8.ofNat k] (by simp [bvs, bv]; omega) (by simp) w.heap.size 1 1 rfl rfl rfl
    go_ret2
    refine ⟨_, _, _, ?_, by rw [HE.out]; exact hs, by rw [HE.out]; rfl, hb⟩
    rfl
  · have HE := Lib.hid (show keyData k l = l by unfold keyData; rw [if_neg (by omega)])
    have hn0 : ¬ (n : Int) = 0 := by omega
    clear h hn
    go_enter Tryz.func6, Tryz.ntmps6
    go_wp2_with fail
    go_ret2
    refine ⟨_, _, _, ?_, by rw [HE.out]; exact H.out, by rw [HE.out]; exact Hn.out, below_refl w⟩
    rfl
set_option maxHeartbeats 4000000 in
theorem FnPeerInlined_main {k n c : Nat} {A : Option Addr} (hK : K.length = 64) (hKs : Sha.Small K) (hk : Blk w 19 100 (u32s K).toArray)
    (h : Bs w w.heap.size (.slice A n c) l) (hn : n = l.length) (hn2 : n ≤ 2147483647) (hk5 : k ≤ 255) (he : CErr w) (hm : MErr w) :
    Calls Tryz.prog 5 #[.int .u8 (k : Int), .slice A n c] w fun e w' => Yes w e w' := by
  have HK := Lib.hid (And.intro hK hKs)
  have Hk := Lib.hid hk
  have HL := Lib.hid (peerKeyL h hn hk5)
  have He := Lib.hid he
  have Hm := Lib.hid hm
  have Hd0 := Lib.hid (keyData_pos k l)
  have hn2' : ¬ (2147483647 : Int) < (n : Int) := by omega
  clear hK hKs hk h hn he hm
  go_enter Tryz.func5, Tryz.ntmps5
  go_wp2_with fail
  refine HL.out.mono ?_
  rintro e w1 ⟨A1, n1, c1, rfl, hs, hn1, hb⟩
  obtain ⟨d, hd⟩ : ∃ d, d = keyData k l := ⟨_, rfl⟩
  obtain ⟨q, hq⟩ : ∃ q, q = k % 4 := ⟨_, rfl⟩
  have hq3 : q ≤ 3 := by omega
  rw [← hd] at hs hn1 Hd0
  rw [← hq]
  have HX := Lib.hid hs
  have Hn1 := Lib.hid hn1
  have B := Lib.hid hb
  replace He := Lib.hid (He.out.step hb)
  replace Hm := Lib.hid (Hm.out.step hb)
  replace Hk := Lib.hid (Hk.out.step hb)
  have hn10 : 0 < n1 := by rw [hn1]; exact Hd0.out
  clear hs hn1 hb HL hd hq hn2'
  by_cases h300 : n1 ≤ 300
  rotate_left
  · have h3' : (300 : Int) < (n1 : Int) := by omega
    go_wp2_with fail
    refine (peersLive Hm.out).mono ?_
    rintro e w2 ⟨rfl, hb⟩
    have B2 := Lib.hid (below_trans B.out hb)
    clear hb
    go_wp2_with fail
    go_ret
    exact ⟨rfl, B2.out⟩
  have h3' : ¬ (300 : Int) < (n1 : Int) := by omega
  have hlen := keyEnc_len (q : Int) d (by have := Hn1.out; omega)
  have Hl0 := Lib.hid hlen.2
  have Hl1 := Lib.hid (show (keyEnc (q : Int) d).length ≤ 322 by have := Hn1.out; omega)
  have HDec := Lib.hid (keyDec_enc (k := (q : Int)) (d := d) (by omega) (by omega) (by have := Hn1.out; omega))
  clear hlen
  go_wp2_with fail
  refine (bytesClone HX.out (by have := Hn1.out; omega)).mono ?_
  rintro e w2 ⟨v2, rfl, ho, hb⟩
  obtain ⟨A2, n2, c2, rfl, hn2e, _, _⟩ := ho.bs.form'
  have HC := Lib.hid ho.bs
  replace HX := Lib.hid (HX.out.step hb)
  replace He := Lib.hid (He.out.step hb)
  replace Hm := Lib.hid (Hm.out.step hb)
  replace Hk := Lib.hid (Hk.out.step hb)
  replace B := Lib.hid (below_trans B.out hb)
  have hn20 : 0 < n2 := by rw [hn2e.out]; exact Hd0.out
  have hn2l : n2 ≤ 50000 := by rw [hn2e.out, ← Hn1.out]; omega
  clear ho hb
  go_wp2_with fail
  refine (peerOfKey HK.out.1 HK.out.2 Hk.out HC.out hn2e.out hn20 hn2l hq3 Hl0.out (by have := Hl1.out; omega)).mono ?_
  rintro e w3 ⟨v3, rfl, hi, hb⟩
  obtain ⟨M, hM⟩ : ∃ M, M = keyEnc (q : Int) d := ⟨_, rfl⟩
  rw [← hM] at hi
  obtain ⟨A3, n3, c3, rfl, hn3e, hc3, _⟩ := hi.form'
  have HI := Lib.hid hi
  replace HX := Lib.hid (HX.out.step hb)
  replace He := Lib.hid (He.out.step hb)
  replace Hm := Lib.hid (Hm.out.step hb)
  replace B := Lib.hid (below_trans B.out hb)
  rw [← hM] at Hl0 Hl1 HDec
  have hIl : (idOf K M).length = if M.length ≤ 42 then 2 + M.length else 34 := by
    unfold idOf
    split
    · simp; omega
    · simp [Sha.sumK_length]
  have hn32 : ¬ (n3 : Int) < 2 := by rw [hn3e.out, hIl]; split <;> omega
  have HIl := Lib.hid hIl
  have HM := Lib.hid hM
  clear hi hb HC hM hIl Hk
  go_wp2_with fail
  refine (bytesClone HX.out (by have := Hn1.out; omega)).mono ?_
  rintro e w4 ⟨v4, rfl, ho, hb⟩
  have HC := Lib.hid ho.bs
  replace HX := Lib.hid (HX.out.step hb)
  replace He := Lib.hid (He.out.step hb)
  replace Hm := Lib.hid (Hm.out.step hb)
  replace HI := Lib.hid (HI.out.step hb)
  replace B := Lib.hid (below_trans B.out hb)
  obtain ⟨A4, n4, c4, rfl⟩ := hid_exists_bs' ho.bs
  clear ho hb
  go_wp2_with fail
  refine (keyBytes (k := (q : Int)) HC.out (by have := Hn1.out; omega) (by omega) (by omega)).mono ?_
  rintro e w5 ⟨v5, rfl, ho, hb, hnn⟩
  replace HX := Lib.hid (HX.out.step hb)
  replace He := Lib.hid (He.out.step hb)
  replace Hm := Lib.hid (Hm.out.step hb)
  replace HI := Lib.hid (HI.out.step hb)
  replace B := Lib.hid (below_trans B.out hb)
  rw [← HM.out] at ho
  obtain ⟨A5, n5, c5, rfl, hn5e, hc5, _⟩ := ho.bs.form'
  clear ho hb hnn HC HM
  by_cases h42 : n5 ≤ 42
  rotate_left
  · have h42' : (42 : Int) < (n5 : Int) := by omega
    have h42M : ¬ M.length ≤ 42 := by rw [← hn5e.out]; exact h42
    have hIe : idOf K M = 18 :: 32 :: Sha.sumK K M := by unfold idOf; rw [if_neg h42M]
    have hn34 : n3 = 34 := by rw [hn3e.out, HIl.out, if_neg h42M]
    subst hn34
    have h3 := HI.out
    rw [hIe] at h3
    obtain ⟨g3, o3, rfl, c0, c1⟩ := twoCells h3
    replace c0 : w5.cell? ⟨g3, o3, none⟩ = some (.int .u8 18) := c0
    replace c1 : w5.cell? ⟨g3, o3 + 1, none⟩ = some (.int .u8 32) := c1
    clear h3 hIe h42M HIl HI hn3e
    go_wp2_with fail
    refine (peersLive Hm.out).mono ?_
    rintro e w6 ⟨rfl, hb⟩
    have B6 := Lib.hid (below_trans B.out hb)
    clear hb
    go_wp2_with fail
    go_ret
    exact ⟨rfl, B6.out⟩
  · have h42' : ¬ (42 : Int) < (n5 : Int) := by omega
    have h42M : M.length ≤ 42 := by rw [← hn5e.out]; exact h42
    have hIe : idOf K M = 0 :: UInt8.ofNat M.length :: M := by unfold idOf; rw [if_pos h42M]
    have h3 := HI.out
    rw [hIe] at h3
    obtain ⟨g3, o3, rfl, c0, c1⟩ := twoCells h3
    have h2n : 2 ≤ n3 := by rw [hn3e.out, HIl.out, if_pos h42M]; omega
    obtain ⟨A6, hsl0, hbs⟩ := slice_from (n := 2) h3 h2n
    have hsl : ∀ W : World, (Instr.slice 22 (.slice (some ⟨g3, o3, none⟩) n3 c3) (some (.int .i64 2)) none none).run Tryz.prog W = .ok (.slice A6 (n3 - 2) (c3 - 2)) W := fun W => hsl0 W .i64
    have HB := Lib.hid (show Bs w5 w5.heap.size (.slice A6 (n3 - 2) (c3 - 2)) M from hbs)
    have c2n : (2 : Int) ≤ (n3 : Int) := by omega
    have c2c : (2 : Int) ≤ (c3 : Int) := by omega
    have Ht := Lib.hid (show ((UInt8.ofNat M.length).toNat : Int) = (n5 : Int) by rw [UInt8.toNat_ofNat']; have := hn5e.out; omega)
    rw [Ht.out] at c1
    have C0 := Lib.hid (show w5.cell? ⟨g3, o3, none⟩ = some (.int .u8 0) from c0)
    have C1 := Lib.hid c1
    have hg3 : g3 < w5.heap.size := World.block_lt_of_cell? w5 _ c1
    clear h3 hIe hsl0 hbs c0 c1 HIl HI
    go_wp2_with fail
    refine (bytesClone HB.out (by have := Hl1.out; omega)).mono ?_
    rintro e w6 ⟨v6, rfl, ho, hb⟩
    have HC := Lib.hid ho.bs
    have hl6 := hb.size
    replace C0 := Lib.hid ((hb.cell (p := ⟨g3, o3, none⟩) hg3).trans C0.out)
    replace C1 := Lib.hid ((hb.cell (p := ⟨g3, o3 + 1, none⟩) hg3).trans C1.out)
    replace HX := Lib.hid (HX.out.step hb)
    replace He := Lib.hid (He.out.step hb)
    replace Hm := Lib.hid (Hm.out.step hb)
    replace B := Lib.hid (below_trans B.out hb)
    obtain ⟨A7, n7, c7, rfl⟩ := hid_exists_bs' ho.bs
    clear ho hb HB hsl
    go_wp2_with fail
    refine (keyOf HC.out He.out (by have := Hl1.out; omega)).mono ?_
    rintro e w7 ⟨hb, hans⟩
    have hg3' : g3 < w6.heap.size := by omega
    replace C0 := Lib.hid ((hb.cell (p := ⟨g3, o3, none⟩) hg3').trans C0.out)
    replace C1 := Lib.hid ((hb.cell (p := ⟨g3, o3 + 1, none⟩) hg3').trans C1.out)
    replace HX := Lib.hid (HX.out.step hb)
    replace Hm := Lib.hid (Hm.out.step hb)
    replace B := Lib.hid (below_trans B.out hb)
    clear hb He HC
    rcases hans with ⟨hd, _⟩ | ⟨k7, d7, v7, hd, rfl, hv7, _⟩
    · rw [HDec.out] at hd; cases hd
    rw [HDec.out] at hd
    simp only [Option.some.injEq, Prod.mk.injEq] at hd
    obtain ⟨rfl, rfl⟩ := hd
    have HV := Lib.hid hv7
    obtain ⟨A8, n8, c8, rfl⟩ := hid_exists_bs' hv7
    clear hv7 HDec
    have c0 := C0.out
    have c1 := C1.out
    go_wp2_with fail
    refine (eqTrue HV.out HX.out rfl).mono ?_
    rintro e w8 ⟨rfl, rfl⟩
    go_wp2_with fail
    refine (peersLive Hm.out).mono ?_
    rintro e w9 ⟨rfl, hb⟩
    have B9 := Lib.hid (below_trans B.out hb)
    clear hb
    go_wp2_with fail
    go_ret
    exact ⟨rfl, B9.out⟩
theorem walk_FnPeerInlined {x : Int} (f0 : IsInt .u8 v0 x) (f1 : Bs w w.heap.size v1 l)
    (he : HasErr w 6 ∧ HasErr w 7 ∧ HasErr w 8 ∧ HasErr w 9 ∧ HasErr w 10 ∧ HasErr w 11 ∧ HasErr w 5 ∧ HasErr w 2 ∧ HasErr w 15 ∧ HasErr w 17 ∧ HasErr w 16 ∧ HasErr w 12 ∧ HasErr w 13 ∧ HasErr w 14)
    (hK : ∃ K : List Nat, K.length = 64 ∧ Sha.Small K ∧ Blk w 19 100 (u32s K).toArray) :
    Calls Tryz.prog 5 #[v0, v1] w fun e w' => Yes w e w' := by
  obtain ⟨rfl, a1, a2⟩ := isU8 f0
  obtain ⟨k, rfl⟩ := Int.eq_ofNat_of_zero_le a1
  obtain ⟨K, hk1, hk2, hk3⟩ := hK
  obtain ⟨h1, h2, h3, h4, h5, h6, h7, h8, h9, h10, h11, h12, h13, h14⟩ := he
  obtain ⟨A, n, c, rfl, hn, hc, hm⟩ := f1.form'
  by_cases hbig : n ≤ 2147483647
  · exact FnPeerInlined_main hk1 hk2 hk3 f1 hn.out hbig (by omega) ⟨⟨h1, h2, h3, h4, h5, h6⟩, h7, h8⟩ ⟨⟨h9, h10, h11⟩, h12, h13, h14⟩
  · have hn2 : (2147483647 : Int) < (n : Int) := by omega
    go_enter Tryz.func5, Tryz.ntmps5
    go_wp2_with fail
    go_ret
    exact ⟨rfl, below_refl w⟩
end
end Go.Proofs.YtkmjjoffamdnfaaGreatDoor

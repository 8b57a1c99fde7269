/- The texts of IDs: what stands above base58's encoding. -/
import Derived.Test.YteodhonipbdplaaGreatDoorMd01
import Derived.Test.YteodhonipbdplaaGreatDoorMd04
import Derived.Test.YteodhonipbdplaaGreatDoorMd07
import Derived.Test.YteodhonipbdplaaGreatDoorMd08
import Derived.Test.YteodhonipbdplaaGreatDoorMd10
import Derived.Deep.CutBlock
import Derived.Deep.DeepCutAuto
import Derived.Test.YteodhonipbdplaaGreatDoorRows
import Derived.ProofKit
import Derived.LaidMore
import Derived.OpenShut
import Derived.Stop.Joined
import Derived.Stop.LaidErr
import Derived.LaidLaws
import Derived.ShutString
import Derived.ChangeOld
import Derived.Deep.RegionHeld3
import Derived.Deep.MidRow
import Derived.Laws.Rows
namespace Go.Proofs.YteodhonipbdplaaGreatDoor
open Go.RowKit
set_option maxRecDepth 100000
section
variable {w : World} {v : Value} {l : List UInt8}
def Txt (w : World) (t : List UInt8) (e : Ending) (w' : World) : Prop := e = .returned (.string (strOf t)) ∧ Below w.heap.size w w'
theorem fastB58 (h : Bs w w.heap.size v l) (hlen : l.length ≤ 1000000) :
    Calls Tryz.prog 101 #[v] w fun e w' => Txt w (B58.enc l) e w' := by
  have H := Lib.hid h
  clear h
  go_enter Tryz.func101, Tryz.ntmps101
  go_wp2_with fail
  refine (btcAlphabet w).mono ?_
  rintro e w1 ⟨g, rfl, hb, hbl, hg⟩
  have Hb := Lib.hid hb
  have Hbl := Lib.hid hbl
  clear hb hbl hg
  go_wp2_with fail
  refine (fastEnc (H.out.step Hbl.out) Hb.out hlen).mono ?_
  rintro e w2 ⟨rfl, hb2⟩
  go_wp2_with fail
  go_ret
  exact ⟨rfl, below_trans Hbl.out hb2⟩
theorem b58Encode (h : Bs w w.heap.size v l) (hlen : l.length ≤ 1000000) :
    Calls Tryz.prog 62 #[v] w fun e w' => Txt w (B58.enc l) e w' := by
  have H := Lib.hid h
  clear h
  go_enter Tryz.func62, Tryz.ntmps62
  go_wp2_with fail
  refine (fastB58 H.out hlen).mono ?_
  rintro e w2 ⟨rfl, hb2⟩
  go_wp2_with fail
  go_ret
  exact ⟨rfl, hb2⟩
theorem idString (w : World) (l : List UInt8) (hlen : l.length ≤ 1000000) :
    Calls Tryz.prog 40 #[.string (strOf l)] w fun e w' => Txt w (B58.enc l) e w' := by
  obtain ⟨w1, c, hr, hb, hbl, hc, hm⟩ := conv_bytes w l (by omega) (src := 43) Tryz.underlying43
  have Hb := Lib.hid hb
  have Hbl := Lib.hid hbl
  clear hb hbl
  go_enter Tryz.func40, Tryz.ntmps40
  go_wp2_with fail
  refine (b58Encode Hb.out hlen).mono ?_
  rintro e w2 ⟨rfl, hb2⟩
  go_wp2_with fail
  go_ret
  exact ⟨rfl, below_trans Hbl.out hb2⟩
theorem peerText (h : Bs w w.heap.size v l) (hlen : l.length ≤ 1000000) :
    Calls Tryz.prog 19 #[v] w fun e w' => Txt w (B58.enc l) e w' := by
  have hconv := conv_str h (dst := 43) Tryz.underlying43
  clear h
  go_enter Tryz.func19, Tryz.ntmps19
  go_wp2_with fail
  refine (idString w l hlen).mono ?_
  rintro e w2 ⟨rfl, hb2⟩
  go_wp2_with fail
  go_ret
  exact ⟨rfl, hb2⟩
end
end Go.Proofs.YteodhonipbdplaaGreatDoor

/- The reference's PeerBase58: it comes to the same text. -/
namespace Go.Proofs.YteodhonipbdplaaGreatDoor
open Go.RowKit
set_option maxRecDepth 100000
theorem dig_len (l : List UInt8) : (B58.dig (B58.num l)).length ≤ 2 * l.length + 1 := by
  obtain ⟨_, _, _, h4⟩ := B58.dig_spec (B58.num l)
  rcases Nat.eq_zero_or_pos (B58.num l) with h0 | h0
  · rw [h0, B58.dig_zero]; simp
  · have h5 := h4 (by omega)
    have h6 := B58.num_lt l
    have h7 : (256 : Nat) ^ l.length ≤ 58 ^ (2 * l.length) := by
      rw [Nat.pow_mul]; exact Nat.pow_le_pow_left (by decide) _
    have h8 : 58 ^ ((B58.dig (B58.num l)).length - 1) < 58 ^ (2 * l.length) := by omega
    have := (Nat.pow_lt_pow_iff_right (a := 58) (by omega)).1 h8
    omega
theorem dig_more {ca : Nat} (h : ca ≠ 0) (X : List UInt8) : B58.dig (ca / 58) ++ UInt8.ofNat (ca % 58) :: X = B58.dig ca ++ X := by
  rw [B58.dig_pos h, List.append_assoc]; rfl
theorem one_more (j : Nat) : strOf (List.replicate j 49) ++ ({ data := #[49] } : ByteArray) = strOf (List.replicate (j + 1) 49) := by
  rw [List.replicate_succ', ← strOf_append]; rfl
theorem letters_more {z t : Nat} {D : List UInt8} (ht : t < D.length) : strOf (List.replicate z 49 ++ (D.take t).map B58.letter) ++ strOf [B58.letter D[t]] = strOf (List.replicate z 49 ++ (D.take (t + 1)).map B58.letter) := by
  rw [strOf_append, List.take_succ_eq_append_getElem ht, List.map_append, List.append_assoc]; rfl
theorem letter_extract (y : UInt8) (h : y.toNat < 58) : (strOf B58.alpha).extract y.toNat (y.toNat + 1) = strOf [B58.letter y] := by
  rw [strOf_extract]
  congr 1
  unfold B58.letter
  have h' : y.toNat < B58.alpha.length := h
  rw [List.take_succ_eq_append_getElem h', List.drop_left' (by simp; omega), List.getD_eq_getElem?_getD, List.getElem?_eq_getElem h']
  rfl
section
variable {w : World} {v : Value} {l : List UInt8}
set_option maxHeartbeats 1000000 in
theorem peerBase58 (h : Bs w w.heap.size v l) (hlen : l.length ≤ 1000000) :
    Calls Tryz.prog 20 #[v] w fun e w' => e = .returned (.string (strOf (B58.enc l))) ∧ Below w.heap.size w w' := by
  obtain ⟨A, n, c, rfl, hn, hc, hm⟩ := h.form'
  have H := Lib.hid h
  have hn6 : n ≤ 1000000 := by rw [hn.out]; exact hlen
  clear h hlen
  go_enter Tryz.func20, Tryz.ntmps20
  go_wp2_with fail
  go_loopw [3, 14] (fun s3 s14 wr => ∃ (k : Nat) (A3 : Option Addr) (n3 c3 : Nat), k ≤ n ∧ s14 = .int .i64 (k : Int) ∧ s3 = .slice A3 n3 c3 ∧ Hid (Own wr w.heap.size (.slice A3 n3 c3) (B58.dig (B58.num (l.take k)))) ∧ Hid (Below w.heap.size w wr)) (fun _ s14 _ => n - (intOf s14).toNat)
  case atStart => exact ⟨0, none, 0, 0, Nat.zero_le _, rfl, rfl, Lib.hid (by rw [List.take_zero, B58.num_nil, B58.dig_zero]; exact Own.nil _ _), Lib.hid (below_refl w)⟩
  case round =>
    obtain ⟨k, A3, n3, c3, hk, rfl, rfl, HO, HB⟩ := hrel
    by_cases hlt : k < n
    · have hkl : k < l.length := by rw [← hn.out]; exact hlt
      obtain ⟨g, o, rfl, hcell, _⟩ := (H.out.below HB.out).at' hkl
      have hd := UInt8.toNat_lt l[k]
      have HS := Lib.hid (B58.num_succ hkl)
      have HL := Lib.hid (dig_len (l.take (k + 1)))
      have HL0 := Lib.hid (dig_len (l.take k))
      generalize l[k].toNat = d at *
      have hd255 : d ≤ 255 := by omega
      clear hd
      obtain ⟨D, hD⟩ : ∃ D, D = B58.dig (B58.num (l.take k)) := ⟨_, rfl⟩
      have HDg := Lib.hid (show B58.Dig D by rw [hD]; exact (B58.dig_spec _).1)
      have HT := Lib.hid (show B58.dig (B58.step D d).2 ++ (B58.step D d).1 = B58.dig (B58.num (l.take (k + 1))) by rw [HS.out, hD]; exact (B58.dig_step _ _).symm)
      rw [← hD] at HO HL0
      have hn3 : n3 = D.length := by
        rcases HO.out.form with ⟨e, e2⟩ | ⟨g, c, e, _⟩
        · injection e with _ e _; rw [e, e2]; rfl
        · injection e with _ e _
      have Hn3 := Lib.hid hn3
      have hn3b : n3 ≤ 2000001 := by rw [hn3]; have := HL0.out; rw [List.length_take] at this; omega
      clear hD hn3 HL0
      have HT0 := Lib.hid (show D.drop n3 = [] from List.drop_of_length_le (by rw [Hn3.out]; exact Nat.le_refl _))
      have HO0 := Lib.hid (show Own wr w.heap.size (.slice A3 n3 c3) (D.take n3 ++ (B58.step (D.drop n3) d).1) by
        rw [HT0.out, List.take_of_length_le (by rw [Hn3.out]; exact Nat.le_refl _)]
        have e : (B58.step [] d).1 = [] := rfl
        rw [e, List.append_nil]
        exact HO.out)
      have HC0 := Lib.hid (show d = (B58.step (D.drop n3) d).2 by rw [HT0.out]; rfl)
      clear HO HT0
      go_wp2_with fail
      clear hcell
      go_loopw [6, 7] (fun s6 s7 wr => ∃ (j ca : Nat) (q : Int), s7 = .int .i64 q ∧ q = (j : Int) - 1 ∧ j ≤ n3 ∧ s6 = .int .i64 (ca : Int) ∧ ca ≤ 255 ∧ Hid (ca = (B58.step (D.drop j) d).2) ∧ Hid (Own wr w.heap.size (.slice A3 n3 c3) (D.take j ++ (B58.step (D.drop j) d).1)) ∧ Hid (Below w.heap.size w wr)) (fun _ s7 _ => (intOf s7 + 1).toNat)
      case atStart => exact ⟨n3, d, _, rfl, rfl, Nat.le_refl _, rfl, hd255, HC0, HO0, HB⟩
      case round =>
        clear HO0 HC0 HB
        obtain ⟨j, ca, q, rfl, hjq, hjS, rfl, hca, HC, HO, HB⟩ := hrel
        by_cases hj0 : 0 < j
        · obtain ⟨j, rfl⟩ : ∃ k, j = k + 1 := ⟨j - 1, by omega⟩
          obtain rfl : q = (j : Int) := by omega
          have hjT : j < D.length := by rw [← Hn3.out]; omega
          have hTj := HDg.out D[j] (List.getElem_mem hjT)
          obtain ⟨g3, rfl, hg3, hcell, hfree, hset⟩ := HO.out.at' (k := j) (by simp; omega)
          rw [List.getElem_append_left (by simp; omega), List.getElem_take] at hcell
          obtain ⟨h1, h2⟩ := step_cons (T := D) (c := d) hjT
          have hset' := hset (UInt8.ofNat (((B58.step (D.drop (j + 1)) d).2 + D[j].toNat * 256) % 58)) (((ca : Int) + ((D[j].toNat : Nat) : Int) * 256) % 58) (by rw [B58.toNat_mod, HC.out]; omega)
          rw [set_mid hjT, ← h1] at hset'
          have HO2 := Lib.hid hset'
          have HC2 := Lib.hid (show (ca + D[j].toNat * 256) / 58 = (B58.step (D.drop j) d).2 by rw [h2, ← HC.out])
          have hca2 : (ca + D[j].toNat * 256) / 58 ≤ 255 := by omega
          have HB2 := Lib.hid (blk_setCell_below HB.out hg3 j (.int .u8 (((ca : Int) + ((D[j].toNat : Nat) : Int) * 256) % 58)))
          clear h1 h2 HO HC HB hset hset' hjq
          generalize D[j].toNat = t at *
          go_wp2_with fail
          exact ⟨⟨j, (ca + t * 256) / 58, _, rfl, rfl, by omega, by go_num, hca2, HC2, HO2, HB2⟩, by simp [intOf] <;> omega⟩
        · obtain rfl : j = 0 := by omega
          have hq0 : q < 0 := by omega
          clear hjq
          have HX0 := Lib.hid (show B58.dig ca ++ (B58.step D d).1 = B58.dig (B58.num (l.take (k + 1))) by rw [HC.out, List.drop_zero]; exact HT.out)
          have HO0 := Lib.hid (show Own wr w.heap.size (.slice A3 n3 c3) (B58.step D d).1 from HO.out)
          clear HC HO
          go_wp2_with fail
          go_loopw [3, 6] (fun s3 s6 wr => ∃ (ca : Nat) (X : List UInt8) (A3 : Option Addr) (n3 c3 : Nat), s3 = .slice A3 n3 c3 ∧ s6 = .int .i64 (ca : Int) ∧ ca ≤ 255 ∧ Hid (B58.dig ca ++ X = B58.dig (B58.num (l.take (k + 1)))) ∧ Hid (Own wr w.heap.size (.slice A3 n3 c3) X) ∧ Hid (Below w.heap.size w wr)) (fun _ s6 _ => (intOf s6).toNat)
          case atStart => exact ⟨ca, _, A3, n3, c3, rfl, rfl, hca, HX0, HO0, HB⟩
          case round =>
            clear HX0 HO0 HB hca
            obtain ⟨ca, X, A3, n3, c3, rfl, rfl, hca, HX, HO, HB⟩ := hrel
            by_cases h0 : ca = 0
            · have HO2 := Lib.hid (show Own wr w.heap.size (.slice A3 n3 c3) (B58.dig (B58.num (l.take (k + 1)))) by rw [← HX.out, h0, B58.dig_zero]; exact HO.out)
              clear HX HO
              subst h0
              go_wp2_with fail
              exact ⟨⟨k + 1, A3, n3, c3, by omega, by go_num, rfl, HO2, HB⟩, by simp [intOf]; omega⟩
            · have hpos : 0 < ca := by omega
              have HX2 := Lib.hid (show B58.dig (ca / 58) ++ UInt8.ofNat (ca % 58) :: X = B58.dig (B58.num (l.take (k + 1))) by rw [dig_more h0]; exact HX.out)
              have hXl : X.length ≤ 2000002 := by
                have h1 := HL.out
                rw [← HX.out, List.length_append, List.length_take] at h1
                omega
              have hsz := HB.out.size
              clear HX h0
              go_wp2_with (at_builtin; refine wpList_app rfl _ _ rfl (by rfl) (by rfl) (Own.one wr w.heap.size hsz (UInt8.ofNat (ca % 58)) (by rw [B58.toNat_mod]; omega)) (HO.out.bs.alloc (Nat.le_refl _) _) (by simp; omega) (by simp; omega) ?_; intro v5 w5 ho5 hg5 _ _; have HO5 := Lib.hid ho5; have HB5 := Lib.hid ((HB.out.alloc hsz _).trans (below_of_own (Own.one wr w.heap.size hsz (UInt8.ofNat (ca % 58)) (by rw [B58.toNat_mod]; omega)) hg5 (by simp; omega))); clear ho5 hg5)
              obtain ⟨A5, n5, c5, rfl⟩ := hid_exists_bs' HO5.out.bs
              exact ⟨⟨ca / 58, _, A5, n5, c5, rfl, by go_num, by omega, HX2, HO5, HB5⟩, by simp [intOf]; omega⟩
    · obtain rfl : k = n := by omega
      obtain ⟨D, hD⟩ : ∃ D, D = B58.dig (B58.num l) := ⟨_, rfl⟩
      have HD := Lib.hid hD
      have HDg := Lib.hid (show B58.Dig D by rw [hD]; exact (B58.dig_spec _).1)
      have HO2 := Lib.hid (show Bs wr wr.heap.size (.slice A3 n3 c3) D by have := HO.out.bs; rw [hn.out, List.take_length] at this; rw [hD]; exact this)
      clear hD HO hlt
      go_upto_block 6 with fail
      go_cut [8] (fun s8 wx => ∃ (z : Nat) (s : ByteArray), s8 = .string s ∧ Hid (s = strOf (List.replicate z 49)) ∧ s.size ≤ k ∧ Hid (z = B58.zeros l) ∧ wr = wx)
      case first =>
        go_wp2_with fail
        go_loop [8, 9] (fun s8 s9 => ∃ (j : Nat) (s : ByteArray), j ≤ k ∧ s8 = .string s ∧ Hid (s = strOf (List.replicate j 49)) ∧ s.size ≤ j ∧ s9 = .int .i64 (j : Int) ∧ Hid (l.take j = List.replicate j 0)) (fun _ s9 => k - (intOf s9).toNat)
        case atStart => exact ⟨0, _, Nat.zero_le _, rfl, Lib.hid rfl, Nat.le_refl _, rfl, Lib.hid (by simp)⟩
        case round =>
          obtain ⟨j, s, hj, rfl, Hs, hsz, rfl, hz⟩ := hrel
          by_cases hlt : j < k
          · have hjl : j < l.length := by rw [← hn.out]; exact hlt
            obtain ⟨g, o, rfl, hcell, _⟩ := (H.out.below HB.out).at' hjl
            have hq := u8_eq0 l[j]
            by_cases h0 : l[j] = 0
            · have hz2 := Lib.hid (show l.take (j + 1) = List.replicate (j + 1) 0 by rw [List.take_succ_eq_append_getElem hjl, hz.out, h0, List.replicate_succ'])
              have Hs2 := Lib.hid (show s ++ ({ data := #[49] } : ByteArray) = strOf (List.replicate (j + 1) 49) by rw [Hs.out]; exact one_more j)
              have hsz2 : (s ++ ({ data := #[49] } : ByteArray)).size ≤ j + 1 := by rw [ByteArray.size_append]; exact Nat.add_le_add_right hsz 1
              rw [decide_eq_true h0] at hq
              clear hz h0
              generalize l[j].toNat = d at *
              go_wp2_with fail
              go_round
              case rel => exact ⟨j + 1, _, by omega, rfl, Hs2, hsz2, by go_num, hz2⟩
              case measure => simp [intOf]; omega
            · have hz2 := Lib.hid (B58.zeros_next hjl hz.out h0).symm
              rw [decide_eq_false h0] at hq
              clear hz h0
              generalize l[j].toNat = d at *
              go_wp2_with fail
              go_meet
              exact ⟨j, s, rfl, Hs, by omega, hz2, rfl⟩
          · obtain rfl : j = k := by omega
            have hz2 := Lib.hid (show j = B58.zeros l by have := hz.out; rw [hn.out] at this ⊢; exact (B58.zeros_all this).symm)
            clear hz
            go_wp2_with fail
            go_meet
            exact ⟨j, s, rfl, Hs, hsz, hz2, rfl⟩
      case rest =>
        obtain ⟨z, s, rfl, Hs, hsz, Hz, rfl⟩ := hcut
        have hn3b : n3 ≤ 2000001 := by have h1 := HD.out; have h2 := dig_len l; rw [← h1] at h2; have h3 : n3 = D.length := by { obtain ⟨A', c', e, _⟩ := HO2.out.form; injection e with _ e _ }; rw [h3]; have := hn.out; omega
        have Hn3 := Lib.hid (show n3 = D.length by obtain ⟨A', c', e, _⟩ := HO2.out.form; injection e with _ e _)
        go_wp2_with fail
        go_loop [8, 71] (fun s8 s71 => ∃ (t : Nat) (s : ByteArray), t ≤ n3 ∧ s71 = .int .i64 (t : Int) ∧ s8 = .string s ∧ Hid (s = strOf (List.replicate z 49 ++ (D.take t).map B58.letter)) ∧ s.size ≤ k + t) (fun _ s71 => n3 - (intOf s71).toNat)
        case atStart => exact ⟨0, s, Nat.zero_le _, rfl, rfl, Lib.hid (by rw [Hs.out]; simp), by omega⟩
        case round =>
          clear Hs hsz
          obtain ⟨t, s, ht, rfl, rfl, Hs, hsz⟩ := hrel
          by_cases hlt : t < n3
          · have htD : t < D.length := by rw [← Hn3.out]; exact hlt
            obtain ⟨g, o, rfl, hcell, _⟩ := HO2.out.at' htD
            have hd58 := HDg.out D[t] (List.getElem_mem htD)
            have Hs2 := Lib.hid (show s ++ (strOf B58.alpha).extract D[t].toNat (D[t].toNat + 1) = strOf (List.replicate z 49 ++ (D.take (t + 1)).map B58.letter) by
              rw [letter_extract _ hd58, Hs.out]; exact letters_more htD)
            have hsz2 : (s ++ (strOf B58.alpha).extract D[t].toNat (D[t].toNat + 1)).size ≤ k + (t + 1) := by
              rw [ByteArray.size_append, ByteArray.size_extract]; omega
            generalize D[t].toNat = d at *
            go_wp2_with fail
            go_round
            case rel => exact ⟨t + 1, _, by omega, by go_num, rfl, Hs2, hsz2⟩
            case measure => simp [intOf]; omega
          · obtain rfl : t = n3 := by omega
            have Hs2 := Lib.hid (show s = strOf (B58.enc l) by rw [Hs.out, Hn3.out, List.take_length, Hz.out, HD.out]; rfl)
            obtain rfl := Hs2.out
            clear Hs Hs2
            go_wp2_with fail
            go_ret
            exact ⟨rfl, HB.out⟩
end
end Go.Proofs.YteodhonipbdplaaGreatDoor

/- peersLive: the statements' small example of an ID. -/
namespace Go.Proofs.YteodhonipbdplaaGreatDoor
open Go.RowKit
set_option maxRecDepth 100000
theorem litp3 : (#[.int .u8 0, .int .u8 1, .int .u8 7] : Array Value).toList = bvs [0, 1, 7] := by simp [bvs]
theorem okp3 : Mh.ok [0, 1, 7] = true := by decide
set_option maxHeartbeats 1000000 in
theorem peersLive {w : World} (he : MErr w) : Calls Tryz.prog 15 #[] w fun e w' => Yes w e w' := by
  have He := Lib.hid he
  clear he
  go_enter Tryz.func15, Tryz.ntmps15
  go_wp2_with fail
  have ha := below_alloc w (.cells #[.int .u8 0, .int .u8 1, .int .u8 7] 5)
  refine (peerOf (l := [0, 1, 7]) (Bs.newAt w _ _ litp3 (by simp) _ 3 3 rfl rfl rfl) (He.out.step ha) (by simp)).mono ?_
  rintro e w1 ⟨hb, hans⟩
  have B := Lib.hid (below_trans ha hb)
  clear ha hb
  rcases hans with ⟨_, v1, rfl, hx⟩ | ⟨hno, _⟩
  rotate_left
  · rw [okp3] at hno; cases hno
  obtain ⟨A1, n1, c1, rfl⟩ := hid_exists_bs' hx
  have X := Lib.hid hx
  clear hx
  go_wp2_with fail
  have ha := below_alloc w1 (.cells #[.int .u8 0, .int .u8 1, .int .u8 7] 5)
  have c1 := bytesEqual (X.out.step ha) (Bs.newAt w1 _ _ litp3 (by simp) _ 3 3 rfl rfl rfl)
  have B2 := Lib.hid (below_trans B.out ha)
  refine c1.mono ?_
  rintro e w2 ⟨rfl, rfl⟩
  clear ha c1
  have hbq : (([0, 1, 7] : List UInt8) == [0, 1, 7]) = true := rfl
  go_wp2_with fail
  have ha := below_alloc (w1.alloc (.cells #[.int .u8 0, .int .u8 1, .int .u8 7] 5)) (.cells #[.int .u8 0, .int .u8 1, .int .u8 7] 5)
  refine (peerText (l := [0, 1, 7]) (Bs.newAt _ _ _ litp3 (by simp) _ 3 3 (by simp) rfl rfl) (by simp)).mono ?_
  rintro e w3 ⟨rfl, hb⟩
  replace B2 := Lib.hid (below_trans B2.out (below_trans ha hb))
  clear ha hb
  go_wp2_with fail
  have ha := below_alloc w3 (.cells #[.int .u8 0, .int .u8 1, .int .u8 7] 5)
  refine (peerBase58 (l := [0, 1, 7]) (Bs.newAt w3 _ _ litp3 (by simp) _ 3 3 rfl rfl rfl) (by simp)).mono ?_
  rintro e w4 ⟨rfl, hb⟩
  replace B2 := Lib.hid (below_trans B2.out (below_trans ha hb))
  clear ha hb
  have hs : ((strOf (B58.enc [0, 1, 7])).toList == (strOf (B58.enc [0, 1, 7])).toList) = true := by simp
  go_wp2_with fail
  go_ret
  exact ⟨rfl, B2.out⟩
end Go.Proofs.YteodhonipbdplaaGreatDoor

/- What the listed variables give the walks: each holds an error; and the opening of arguments that are bytes. -/
namespace Go.Proofs.YteodhonipbdplaaGreatDoor
open Go.ChangeShapes Go.WideShapes Go.ChangeAt Go.RowKit
set_option maxRecDepth 100000

theorem Tryz.own : ownKnob Tryz.prog.godebug = none := by kernel_rfl
theorem Tryz.laidOut : laidOutB Tryz.prog = true := by kernel_rfl

theorem hasErr_head {n nm : String} {D : DataW Unit} {r : List (String × DataW Unit)} {W : World} {g : Nat} (h : laidMet Tryz.prog ((n, .iface nm D) :: r) W)
    (hg : Tryz.prog.globalNamed n = some g) (ht : (Tryz.prog.globals[g]?).map (·.type) = some 46) : HasErr W g := by
  obtain ⟨ps, ⟨g0, t0, cs0, f0, p0, q0, hg0, ht0, hv0, hd0, _, e0⟩, _, hrows⟩ := h
  obtain rfl := Option.some.inj (hg.symm.trans hg0)
  obtain rfl := Option.some.inj (ht.symm.trans ht0)
  obtain ⟨f1, u, v, hcs, _⟩ := iface_of_trod Tryz.underlying46 hd0
  refine ⟨u, v, ?_⟩
  have := World.var?_cell hg0 hv0 0
  rw [Array.eq_one_of_toList hcs] at this
  simpa using this


/-- numbers that are bytes, as bytes -/
def toBytes (zs : List Int) : List UInt8 := zs.map fun z => UInt8.ofNat z.toNat

theorem wf_u8 {z : Int} (h : (Lit.int .u8 z).wf = true) : 0 ≤ z ∧ z ≤ 255 := bounds_u8 h

/-- an argument that is a slice of bytes -/
theorem bs_of_trod {H : Type} {enc : TypeId × Value → H} {W : World} {b : Nat} {sp : Nat → Bool} {hd : Bool} {a : Option Addr} {n c : Nat} {d : DataW H} {p : List MemPlace}
    (h : DataW.Trod enc Tryz.prog W b sp hd 23 (.slice a n c) d p) : ∃ l : List UInt8, Bs W W.heap.size (.slice a n c) l ∧ l.length = n := by
  obtain ⟨fuel, hf⟩ := h
  rcases open_ints Tryz.underlying23 Tryz.underlying5 (by kernel_rfl) hf with ⟨hcs, _⟩ | ⟨x, l, cc, zs, hcs, _, hl, hm, hz, _, hcell, hwz⟩
  · simp [Value.cells] at hcs
    obtain ⟨rfl, rfl, rfl⟩ := hcs
    exact ⟨[], Bs.nil0 _ _, rfl⟩
  · simp [Value.cells] at hcs
    obtain ⟨rfl, rfl, rfl⟩ := hcs
    have hlen : (toBytes (zs.take n)).length = n := by
      simp only [toBytes, List.length_map, List.length_take]
      have hzn : n ≤ zs.length := by rw [hz]; split <;> omega
      omega
    refine ⟨toBytes (zs.take n), ?_, hlen⟩
    refine ⟨some x, c, by rw [hlen], by rw [hlen]; exact hl, by unfold maxLen at hm; exact hm, fun hpos => ?_⟩
    rw [hlen] at hpos
    have hzn : n ≤ zs.length := by
      have h2 := hlen
      simp only [toBytes, List.length_map, List.length_take] at h2
      omega
    have h0 := hcell 0 (by omega)
    obtain ⟨g, o, spot⟩ := x
    have hs : spot = none := by
      cases spot with
      | none => rfl
      | some s =>
        exfalso
        simp only [Addr.add, if_true] at h0
        unfold World.cell? at h0
        split at h0
        · simp at h0
        · simp at h0
    subst hs
    have hlt : g < W.heap.size := by
      have := World.block_lt_of_cell? W _ h0
      simpa [Addr.add] using this
    refine ⟨g, o, rfl, hlt, fun k hk => ?_⟩
    rw [hlen] at hk
    have hk' := hcell k (by omega)
    have ha : (⟨g, o, none⟩ : Addr).add k = ⟨g, o + k, none⟩ := by
      unfold Addr.add
      split
      · next h0 => subst h0; rfl
      · rfl
    rw [ha] at hk'
    rw [hk']
    have hb := wf_u8 (hwz _ (List.getElem_mem (show k < zs.length by omega)))
    have e1 : zs.getD k 0 = zs[k] := by simp [List.getD, List.getElem?_eq_getElem (show k < zs.length by omega)]
    rw [e1]
    have e2 : (toBytes (zs.take n))[k]'(by rw [hlen]; exact hk) = UInt8.ofNat (zs[k]).toNat := by simp [toBytes]
    rw [e2]
    show some (Value.int .u8 _) = some (Value.int .u8 _)
    rw [Wire.ofNat_toNat (by omega)]
    congr 2
    omega

/-- an argument that is a whole number -/
def IsInt (k : IntKind) (v : Value) (x : Int) : Prop := v = .int k x ∧ (Lit.int k x).wf = true
theorem isI32 {v : Value} {x : Int} (h : IsInt .i32 v x) : v = .int .i32 x ∧ -2147483648 ≤ x ∧ x ≤ 2147483647 := ⟨h.1, bounds_i32 h.2⟩
theorem isU8 {v : Value} {x : Int} (h : IsInt .u8 v x) : v = .int .u8 x ∧ 0 ≤ x ∧ x ≤ 255 := ⟨h.1, bounds_u8 h.2⟩
theorem isU16 {v : Value} {x : Int} (h : IsInt .u16 v x) : v = .int .u16 x ∧ 0 ≤ x ∧ x ≤ 65535 := ⟨h.1, bounds_u16 h.2⟩
theorem isU32 {v : Value} {x : Int} (h : IsInt .u32 v x) : v = .int .u32 x ∧ 0 ≤ x ∧ x ≤ 4294967295 := ⟨h.1, bounds_u32 h.2⟩
theorem isU64 {v : Value} {x : Int} (h : IsInt .u64 v x) : v = .int .u64 x ∧ 0 ≤ x ∧ x ≤ 18446744073709551615 := ⟨h.1, bounds_u64 h.2⟩

section
variable {H : Type} {enc : TypeId × Value → H} {W : World} {base : Nat} {v : Value} {d : DataW H} {p : List MemPlace}
theorem openInt {t : TypeId} {k : IntKind} (hu : Tryz.prog.underlying t = some (.int k)) (hv : Value.okWide Tryz.prog W .any base t v) (h : DataW.Trod enc Tryz.prog W 0 (fun _ => true) true t v d p) : ∃ x, IsInt k v x := by
  obtain ⟨x, rfl, _, _, w⟩ := open_int hu hv h
  exact ⟨x, rfl, w⟩
theorem openBytes (hv : Value.okWide Tryz.prog W .any base 23 v) (h : DataW.Trod enc Tryz.prog W 0 (fun _ => true) true 23 v d p) : ∃ l, Bs W W.heap.size v l := by
  obtain ⟨a, n, c, rfl⟩ := okWide_slice Tryz.underlying23 hv
  obtain ⟨l, hl, _⟩ := bs_of_trod h
  exact ⟨l, hl⟩
theorem lt_of_trod {t : TypeId} (h : DataW.Trod enc Tryz.prog W 0 (fun _ => true) true t v d p) : ∀ x ∈ p, x.block < W.heap.size := by
  obtain ⟨m, hm⟩ := h; exact DataW.trod_lt m _ _ _ hm
end
end Go.Proofs.YteodhonipbdplaaGreatDoor

/- An argument that is an array of bytes, by value. -/
namespace Go.Proofs.YteodhonipbdplaaGreatDoor
open Go.ChangeShapes Go.WideShapes Go.ChangeAt Go.RowKit
set_option maxRecDepth 100000

/-- the array value v holds the bytes l -/
def IsArr (v : Value) (n : Nat) (l : List UInt8) : Prop := v = .agg (bvs l).toArray ∧ l.length = n

theorem list_of_bytes : ∀ (cs : List Value), (∀ i, (h : i < cs.length) → ∃ k : Int, cs[i] = .int .u8 k ∧ (Lit.int .u8 k).wf = true) → ∃ l : List UInt8, cs = bvs l
  | [], _ => ⟨[], rfl⟩
  | c :: cs, h => by
    obtain ⟨k, hk, hw⟩ := h 0 (by simp)
    obtain ⟨l, hl⟩ := list_of_bytes cs (fun i hi => h (i + 1) (by simpa using hi))
    have hb := wf_u8 hw
    refine ⟨UInt8.ofNat k.toNat :: l, ?_⟩
    have e : c = bv (UInt8.ofNat k.toNat) := by
      have : c = .int .u8 k := by simpa using hk
      rw [this]
      show Value.int .u8 _ = Value.int .u8 _
      rw [Wire.ofNat_toNat (by omega)]
      congr 1
      omega
    rw [e, hl]
    rfl

theorem Bs.arr (w : World) (t : TypeId) (l : List UInt8) (hm : l.length ≤ 9223372036854775807) (g n c : Nat) (hg : w.heap.size = g) (hn : n = l.length) (hc : c = l.length) :
    Bs (w.alloc (.cells (bvs l).toArray t)) (w.alloc (.cells (bvs l).toArray t)).heap.size (.slice (some ⟨g, 0, none⟩) n c) l := by
  subst hg hn hc
  refine ⟨_, _, rfl, Nat.le_refl _, hm, fun hl => ⟨w.heap.size, 0, rfl, by simp, fun k hk => ?_⟩⟩
  rw [Nat.zero_add, cell_of_row (w.alloc (.cells (bvs l).toArray t)) w.heap.size k _ t (0, 0) (heap_alloc_new w _)]
  have := bvs_get l k hk
  simpa using this

theorem openArr {H : Type} {enc : TypeId × Value → H} {W : World} {base : Nat} {v : Value} {d : DataW H} {p : List MemPlace} {t : TypeId} {n : Nat} (hu : Tryz.prog.underlying t = some (.array n 5)) (hC : Tryz.prog.cellsOf t = n) (h1 : Tryz.prog.cellsOf 5 = 1)
    (hv : Value.okWide Tryz.prog W .any base t v) (h : DataW.Trod enc Tryz.prog W 0 (fun _ => true) true t v d p) : ∃ l, IsArr v n l := by
  obtain ⟨cs, rfl⟩ : ∃ cs, v = .agg cs := by
    simp only [Value.okWide, hu] at hv
    obtain ⟨cs, h1, h2⟩ := hv
    exact ⟨cs, h1⟩
  obtain ⟨fuel, hf⟩ := h
  obtain ⟨xs, m, _, _, hlen, hxl, hel⟩ := DataW.trod_array hu hf
  obtain ⟨cs⟩ := cs
  have hcl : cs.length = n := by rw [hC] at hlen; simpa [Value.cells] using hlen
  have hb : ∃ l : List UInt8, cs = bvs l := by
    refine list_of_bytes cs fun i hi => ?_
    have hi' : i < n := by omega
    have he := hel i hi'
    rw [h1, Nat.mul_one] at he
    have e1 : ((Value.agg ⟨cs⟩).cells.toList.drop i).take 1 = [cs[i]] := by
      show (cs.drop i).take 1 = _
      rw [List.drop_eq_getElem_cons hi]
      rfl
    rw [e1, List.getElem?_eq_getElem (by omega)] at he
    obtain ⟨k, e2, _, e3⟩ := DataW.trod_int Tryz.underlying5 he
    simp at e2
    exact ⟨k, e2, e3⟩
  obtain ⟨l, rfl⟩ := hb
  exact ⟨l, rfl, by simpa [bvs] using hcl⟩

theorem open_arr8 {H : Type} {enc : TypeId × Value → H} {W : World} {base : Nat} {v : Value} {d : DataW H} {p : List MemPlace} (hv : Value.okWide Tryz.prog W .any base 204 v) (h : DataW.Trod enc Tryz.prog W 0 (fun _ => true) true 204 v d p) : ∃ l, IsArr v 8 l := openArr Tryz.underlying204 (by kernel_rfl) (by kernel_rfl) hv h
theorem open_arr32 {H : Type} {enc : TypeId × Value → H} {W : World} {base : Nat} {v : Value} {d : DataW H} {p : List MemPlace} (hv : Value.okWide Tryz.prog W .any base 22 v) (h : DataW.Trod enc Tryz.prog W 0 (fun _ => true) true 22 v d p) : ∃ l, IsArr v 32 l := openArr Tryz.underlying22 (by kernel_rfl) (by kernel_rfl) hv h
end Go.Proofs.YteodhonipbdplaaGreatDoor

/- A byte of a row of bytes. -/
namespace Go.Proofs.YteodhonipbdplaaGreatDoor
open Go.RowKit
set_option maxRecDepth 100000
theorem byteSet {w : World} {g k n : Nat} {t : TypeId} {L : List UInt8} (h : Blk w g t (bvs L).toArray) {x : Int} (hx : x = ((n % 256 : Nat) : Int)) : Blk (w.setCell ⟨g, k, none⟩ (.int .u8 x)) g t (bvs (L.set k (UInt8.ofNat n))).toArray := by
  subst hx
  have h1 := h.set k (.int .u8 ((n % 256 : Nat) : Int))
  have e : (bvs L).set k (.int .u8 ((n % 256 : Nat) : Int)) = bvs (L.set k (UInt8.ofNat n)) := by
    unfold bvs
    rw [List.map_set]
    rfl
  rw [List.setIfInBounds_toArray, e] at h1
  exact h1
theorem byteLies {w : World} {g k : Nat} {t : TypeId} {L : List UInt8} (h : Blk w g t (bvs L).toArray) (hk : k < L.length) : w.cell? ⟨g, k, none⟩ = some (bv L[k]) := by
  rw [h.cell k]
  have := bvs_get L k hk
  simpa using this
end Go.Proofs.YteodhonipbdplaaGreatDoor

/- Base 32: digits of five bits, of the reference and by groups of five bytes; plain lists, no program. -/
namespace Go.Proofs.YteodhonipbdplaaGreatDoor
namespace B32
def alpha : List UInt8 := [97, 98, 99, 100, 101, 102, 103, 104, 105, 106, 107, 108, 109, 110, 111, 112, 113, 114, 115, 116, 117, 118, 119, 120, 121, 122, 50, 51, 52, 53, 54, 55]
/-- the digits that a hold of some bits gives, and the bits that are left -/
def emit (h : Nat) : Nat → List Nat
  | b => if b < 5 then [] else (h / 2 ^ (b - 5) % 32) :: emit h (b - 5)
termination_by b => b
def left (b : Nat) : Nat := b % 5
/-- the reference's digits, from a hold of b bits -/
def feed : Nat → Nat → List UInt8 → List Nat
  | h, b, [] => if b = 0 then [] else [h * 2 ^ (5 - b) % 32]
  | h, b, c :: t => emit (h * 256 + c.toNat) (b + 8) ++ feed ((h * 256 + c.toNat) % 2 ^ left (b + 8)) (left (b + 8)) t
/-- the digits by groups -/
def five : List UInt8 → List Nat
  | a :: b :: c :: d :: e :: t => [a.toNat / 8, a.toNat % 8 * 4 + b.toNat / 64, b.toNat / 2 % 32, b.toNat % 2 * 16 + c.toNat / 16, c.toNat % 16 * 2 + d.toNat / 128, d.toNat / 4 % 32, d.toNat % 4 * 8 + e.toNat / 32, e.toNat % 32] ++ five t
  | [a, b, c, d] => [a.toNat / 8, a.toNat % 8 * 4 + b.toNat / 64, b.toNat / 2 % 32, b.toNat % 2 * 16 + c.toNat / 16, c.toNat % 16 * 2 + d.toNat / 128, d.toNat / 4 % 32, d.toNat % 4 * 8]
  | [a, b, c] => [a.toNat / 8, a.toNat % 8 * 4 + b.toNat / 64, b.toNat / 2 % 32, b.toNat % 2 * 16 + c.toNat / 16, c.toNat % 16 * 2]
  | [a, b] => [a.toNat / 8, a.toNat % 8 * 4 + b.toNat / 64, b.toNat / 2 % 32, b.toNat % 2 * 16]
  | [a] => [a.toNat / 8, a.toNat % 8 * 4]
  | [] => []
theorem emit_lt {h b : Nat} (hb : b < 5) : emit h b = [] := by unfold emit; rw [if_pos hb]
theorem emit_ge {h b : Nat} (hb : 5 ≤ b) : emit h b = (h / 2 ^ (b - 5) % 32) :: emit h (b - 5) := by rw [emit]; rw [if_neg (by omega)]
theorem emit8 (h : Nat) : emit h 8 = [h / 8 % 32] := by rw [emit_ge (by omega), emit_lt (by omega)]
theorem emit9 (h : Nat) : emit h 9 = [h / 16 % 32] := by rw [emit_ge (by omega), emit_lt (by omega)]
theorem emit10 (h : Nat) : emit h 10 = [h / 32 % 32, h % 32] := by rw [emit_ge (by omega), emit_ge (by omega), emit_lt (by omega)]; simp
theorem emit11 (h : Nat) : emit h 11 = [h / 64 % 32, h / 2 % 32] := by rw [emit_ge (by omega), emit_ge (by omega), emit_lt (by omega)]
theorem emit12 (h : Nat) : emit h 12 = [h / 128 % 32, h / 4 % 32] := by rw [emit_ge (by omega), emit_ge (by omega), emit_lt (by omega)]
theorem feed0 (h : Nat) (c : UInt8) (t : List UInt8) : feed h 0 (c :: t) = [(h * 256 + c.toNat) / 8 % 32] ++ feed ((h * 256 + c.toNat) % 8) 3 t := by rw [feed, emit8]; rfl
theorem feed3 (h : Nat) (c : UInt8) (t : List UInt8) : feed h 3 (c :: t) = [(h * 256 + c.toNat) / 64 % 32, (h * 256 + c.toNat) / 2 % 32] ++ feed ((h * 256 + c.toNat) % 2) 1 t := by rw [feed, emit11]; rfl
theorem feed1 (h : Nat) (c : UInt8) (t : List UInt8) : feed h 1 (c :: t) = [(h * 256 + c.toNat) / 16 % 32] ++ feed ((h * 256 + c.toNat) % 16) 4 t := by rw [feed, emit9]; rfl
theorem feed4 (h : Nat) (c : UInt8) (t : List UInt8) : feed h 4 (c :: t) = [(h * 256 + c.toNat) / 128 % 32, (h * 256 + c.toNat) / 4 % 32] ++ feed ((h * 256 + c.toNat) % 4) 2 t := by rw [feed, emit12]; rfl
theorem feed2 (h : Nat) (c : UInt8) (t : List UInt8) : feed h 2 (c :: t) = [(h * 256 + c.toNat) / 32 % 32, (h * 256 + c.toNat) % 32] ++ feed 0 0 t := by
  rw [feed, emit10]
  have : (h * 256 + c.toNat) % 2 ^ left (2 + 8) = 0 := Nat.mod_one _
  rw [this]; rfl
theorem u8lt (c : UInt8) : c.toNat < 256 := c.toNat_lt
theorem feed_five : ∀ (l : List UInt8), feed 0 0 l = five l
  | a :: b :: c :: d :: e :: t => by
    have ha := u8lt a; have hb := u8lt b; have hc := u8lt c; have hd := u8lt d; have he := u8lt e
    rw [feed0, feed3, feed1, feed4, feed2, feed_five t, five]
    simp only [List.cons_append, List.nil_append, List.cons.injEq, and_true]
    refine ⟨?_, ?_, ?_, ?_, ?_, ?_, ?_, ?_⟩ <;> omega
  | [a, b, c, d] => by
    have ha := u8lt a; have hb := u8lt b; have hc := u8lt c; have hd := u8lt d
    rw [feed0, feed3, feed1, feed4, feed, five]
    simp only [List.cons_append, List.nil_append, List.cons.injEq, and_true, if_neg (show ¬ (2 : Nat) = 0 by omega), show 2 ^ (5 - 2) = 8 from rfl]
    refine ⟨?_, ?_, ?_, ?_, ?_, ?_, ?_⟩ <;> omega
  | [a, b, c] => by
    have ha := u8lt a; have hb := u8lt b; have hc := u8lt c
    rw [feed0, feed3, feed1, feed, five]
    simp only [List.cons_append, List.nil_append, List.cons.injEq, and_true, if_neg (show ¬ (4 : Nat) = 0 by omega), show 2 ^ (5 - 4) = 2 from rfl]
    refine ⟨?_, ?_, ?_, ?_, ?_⟩ <;> omega
  | [a, b] => by
    have ha := u8lt a; have hb := u8lt b
    rw [feed0, feed3, feed, five]
    simp only [List.cons_append, List.nil_append, List.cons.injEq, and_true, if_neg (show ¬ (1 : Nat) = 0 by omega), show 2 ^ (5 - 1) = 16 from rfl]
    refine ⟨?_, ?_, ?_, ?_⟩ <;> omega
  | [a] => by
    have ha := u8lt a
    rw [feed0, feed, five]
    simp only [List.cons_append, List.nil_append, List.cons.injEq, and_true, if_neg (show ¬ (3 : Nat) = 0 by omega), show 2 ^ (5 - 3) = 4 from rfl]
    refine ⟨?_, ?_⟩ <;> omega
  | [] => by simp [feed, five]
/-- a digit's letter -/
def letter (A : List UInt8) (k : Nat) : UInt8 := A.getD k 0
def enc (A : List UInt8) (l : List UInt8) : List UInt8 := (feed 0 0 l).map (letter A)
theorem five_length : ∀ (l : List UInt8), (five l).length = (l.length * 8 + 4) / 5
  | a :: b :: c :: d :: e :: t => by
    rw [five, List.length_append, five_length t]
    simp only [List.length_cons, List.length_nil]
    omega
  | [a, b, c, d] => by simp [five]
  | [a, b, c] => by simp [five]
  | [a, b] => by simp [five]
  | [a] => by simp [five]
  | [] => by simp [five]
theorem enc_length (A : List UInt8) (l : List UInt8) : (enc A l).length = (l.length * 8 + 4) / 5 := by rw [enc, List.length_map, feed_five, five_length]
end B32
end Go.Proofs.YteodhonipbdplaaGreatDoor

/- base 32: the encoding's block: NewEncodingCI, WithPadding. -/
namespace Go.Proofs.YteodhonipbdplaaGreatDoor
open Go.RowKit
set_option maxRecDepth 100000
/-- an encoding: its letters, a map of 256 bytes, its padding -/
def Enc32 (w : World) (g : Nat) (A : List UInt8) (M : List UInt8) (p : Int) : Prop := M.length = 256 ∧ Blk w g 153 (#[.string (strOf A)] ++ (bvs M).toArray ++ #[.int .i32 p])
theorem zeroEnc : Tryz.zeroCells153 = (#[.string { data := #[] }] ++ (bvs (List.replicate 256 0)).toArray ++ #[.int .i32 0]) := by kernel_rfl
section
variable {w : World} {g : Nat} {A M : List UInt8} {p : Int}
theorem enc_cells (s : Value) (M : List UInt8) (q : Value) : (#[s] ++ (bvs M).toArray ++ #[q] : Array Value) = (s :: (bvs M ++ [q])).toArray := by simp
theorem Enc32.str (h : Enc32 w g A M p) : w.cell? ⟨g, 0, none⟩ = some (.string (strOf A)) := by
  rw [h.2.cell 0, enc_cells]; rfl
theorem Enc32.pad (h : Enc32 w g A M p) : w.cell? ⟨g, 257, none⟩ = some (.int .i32 p) := by
  rw [h.2.cell 257, enc_cells, List.getElem?_toArray, List.getElem?_cons_succ, List.getElem?_append_right (by rw [bvs_length, h.1]; omega), bvs_length, h.1]; rfl
theorem Enc32.at_ (h : Enc32 w g A M p) {k : Nat} (hk : k < M.length) : w.cell? ⟨g, 1 + k, none⟩ = some (bv M[k]) := by
  rw [h.2.cell (1 + k), enc_cells, List.getElem?_toArray, Nat.add_comm, List.getElem?_cons_succ, List.getElem?_append_left (by rw [bvs_length]; exact hk)]
  exact bvs_get M k hk
theorem Enc32.put (h : Enc32 w g A M p) {k n : Nat} (hk : k < 256) {x : Int} (hx : x = ((n % 256 : Nat) : Int)) : Enc32 (w.setCell ⟨g, 1 + k, none⟩ (.int .u8 x)) g A (M.set k (UInt8.ofNat n)) p := by
  subst hx
  refine ⟨by rw [List.length_set]; exact h.1, ?_⟩
  have h1 := h.2.set (1 + k) (.int .u8 ((n % 256 : Nat) : Int))
  have e : (#[.string (strOf A)] ++ (bvs M).toArray ++ #[.int .i32 p] : Array Value).setIfInBounds (1 + k) (.int .u8 ((n % 256 : Nat) : Int)) = #[.string (strOf A)] ++ (bvs (M.set k (UInt8.ofNat n))).toArray ++ #[.int .i32 p] := by
    rw [enc_cells, enc_cells, List.setIfInBounds_toArray, Nat.add_comm, List.set_cons_succ, List.set_append_left _ _ (by rw [bvs_length, h.1]; exact hk)]
    congr 3
    unfold bvs
    rw [List.map_set]
    rfl
  rw [e] at h1
  exact h1
theorem Enc32.setPad (h : Enc32 w g A M p) (q : Int) : Enc32 (w.setCell ⟨g, 257, none⟩ (.int .i32 q)) g A M q := by
  refine ⟨h.1, ?_⟩
  have h1 := h.2.set 257 (.int .i32 q)
  have e : (#[.string (strOf A)] ++ (bvs M).toArray ++ #[.int .i32 p] : Array Value).setIfInBounds 257 (.int .i32 q) = #[.string (strOf A)] ++ (bvs M).toArray ++ #[.int .i32 q] := by
    rw [enc_cells, enc_cells, List.setIfInBounds_toArray, List.set_cons_succ, List.set_append_right _ _ (by rw [bvs_length, h.1]; omega), bvs_length, h.1]
    rfl
  rw [e] at h1
  exact h1
theorem Enc32.setStr {B : List UInt8} (h : Enc32 w g A M p) : Enc32 (w.setCell ⟨g, 0, none⟩ (.string (strOf B))) g B M p := by
  refine ⟨h.1, ?_⟩
  have h1 := h.2.set 0 (.string (strOf B))
  rw [enc_cells, List.setIfInBounds_toArray, List.set_cons_zero, ← enc_cells] at h1
  exact h1
theorem Enc32.free (h : Enc32 w g A M p) (k : Nat) : w.frozen? ⟨g, k, none⟩ = false := h.2.free k
end
/-- small and great letters -/
def low8 (c : Nat) : Nat := if 65 ≤ c ∧ c ≤ 90 then c + 32 else c
def up8 (c : Nat) : Nat := if 97 ≤ c ∧ c ≤ 122 then c - 32 else c
theorem toLower (w : World) {c : Nat} (hc : c ≤ 255) : Calls Tryz.prog 141 #[.int .u8 (c : Int)] w fun e w' => e = .returned (.int .u8 ((low8 c : Nat) : Int)) ∧ w = w' := by
  by_cases h1 : 65 ≤ c
  · have g1 : (65 : Int) ≤ (c : Int) := by omega
    by_cases h2 : c ≤ 90
    · have g2 : (c : Int) ≤ 90 := by omega
      have E := Lib.hid (show low8 c = c + 32 from by unfold low8; rw [if_pos ⟨h1, h2⟩])
      go_enter Tryz.func141, Tryz.ntmps141
      go_wp2_with fail
      go_ret
      rw [E.out]
      exact ⟨by rw [show ((c + 32 : Nat) : Int) = (c : Int) + 32 by omega]; rfl, rfl⟩
    · have g2 : ¬ (c : Int) ≤ 90 := by omega
      have E := Lib.hid (show low8 c = c from by unfold low8; rw [if_neg (by omega)])
      go_enter Tryz.func141, Tryz.ntmps141
      go_wp2_with fail
      go_ret
      rw [E.out]
      exact ⟨rfl, rfl⟩
  · have g1 : ¬ (65 : Int) ≤ (c : Int) := by omega
    have E := Lib.hid (show low8 c = c from by unfold low8; rw [if_neg (by omega)])
    go_enter Tryz.func141, Tryz.ntmps141
    go_wp2_with fail
    go_ret
    rw [E.out]
    exact ⟨rfl, rfl⟩
theorem toUpper (w : World) {c : Nat} (hc : c ≤ 255) : Calls Tryz.prog 142 #[.int .u8 (c : Int)] w fun e w' => e = .returned (.int .u8 ((up8 c : Nat) : Int)) ∧ w = w' := by
  by_cases h1 : 97 ≤ c
  · have g1 : (97 : Int) ≤ (c : Int) := by omega
    by_cases h2 : c ≤ 122
    · have g2 : (c : Int) ≤ 122 := by omega
      have E := Lib.hid (show up8 c = c - 32 from by unfold up8; rw [if_pos ⟨h1, h2⟩])
      go_enter Tryz.func142, Tryz.ntmps142
      go_wp2_with fail
      go_ret
      rw [E.out]
      exact ⟨by rw [show ((c - 32 : Nat) : Int) = (c : Int) - 32 by omega]; rfl, rfl⟩
    · have g2 : ¬ (c : Int) ≤ 122 := by omega
      have E := Lib.hid (show up8 c = c from by unfold up8; rw [if_neg (by omega)])
      go_enter Tryz.func142, Tryz.ntmps142
      go_wp2_with fail
      go_ret
      rw [E.out]
      exact ⟨rfl, rfl⟩
  · have g1 : ¬ (97 : Int) ≤ (c : Int) := by omega
    have E := Lib.hid (show up8 c = c from by unfold up8; rw [if_neg (by omega)])
    go_enter Tryz.func142, Tryz.ntmps142
    go_wp2_with fail
    go_ret
    rw [E.out]
    exact ⟨rfl, rfl⟩
end Go.Proofs.YteodhonipbdplaaGreatDoor

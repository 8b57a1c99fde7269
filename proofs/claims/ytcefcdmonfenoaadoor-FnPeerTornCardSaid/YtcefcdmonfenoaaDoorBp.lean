/- The reference's PeerBase58: it comes to the same text. -/
import Derived.Test.YtcefcdmonfenoaaDoorBe
import Derived.Test.YtcefcdmonfenoaaDoorOs
import Derived.Test.YtcefcdmonfenoaaDoorYs
import Derived.Deep.CutBlock
import Derived.Deep.DeepCutAuto
namespace Go.Proofs.YtcefcdmonfenoaaDoor
open Go.RowKit
set_option maxRecDepth 100000
theorem dig_len (l : List UInt8) : (B58.dig (B58.num l)).length ≤ 2 * l.length + 1 := by
  obtain ⟨_, _, _, h4⟩ := B58.dig_spec (B58.num l)
  rcases Nat.eq_zero_or_pos (B58.num l) with h0 | h0
  · rw [h0, B58.dig_zero]; simp
  · have h5 := h4 (by omega)
    have h6 := B58.num_lt l
    have h7 : (256 : Nat) ^ l.length ≤ 58 ^ (2 * l.length) := by
      rw [Nat.pow_mul]; exact Nat.pow_le_pow_left (by decide) _
    have h8 : 58 ^ ((B58.dig (B58.num l)).length - 1) < 58 ^ (2 * l.length) := by omega
    have := (Nat.pow_lt_pow_iff_right (a := 58) (by omega)).1 h8
    omega
theorem dig_more {ca : Nat} (h : ca ≠ 0) (X : List UInt8) : B58.dig (ca / 58) ++ UInt8.ofNat (ca % 58) :: X = B58.dig ca ++ X := by
  rw [B58.dig_pos h, List.append_assoc]; rfl
theorem one_more (j : Nat) : strOf (List.replicate j 49) ++ ({ data := #[49] } : ByteArray) = strOf (List.replicate (j + 1) 49) := by
  rw [List.replicate_succ', ← strOf_append]; rfl
theorem letters_more {z t : Nat} {D : List UInt8} (ht : t < D.length) : strOf (List.replicate z 49 ++ (D.take t).map B58.letter) ++ strOf [B58.letter D[t]] = strOf (List.replicate z 49 ++ (D.take (t + 1)).map B58.letter) := by
  rw [strOf_append, List.take_succ_eq_append_getElem ht, List.map_append, List.append_assoc]; rfl
theorem letter_extract (y : UInt8) (h : y.toNat < 58) : (strOf B58.alpha).extract y.toNat (y.toNat + 1) = strOf [B58.letter y] := by
  rw [strOf_extract]
  congr 1
  unfold B58.letter
  have h' : y.toNat < B58.alpha.length := h
  rw [List.take_succ_eq_append_getElem h', List.drop_left' (by simp; omega), List.getD_eq_getElem?_getD, List.getElem?_eq_getElem h']
  rfl
section
variable {w : World} {v : Value} {l : List UInt8}
set_option maxHeartbeats 1000000 in
theorem peerBase58 (h : Bs w w.heap.size v l) (hlen : l.length ≤ 1000000) :
    Calls Tryd.prog 62 #[v] w fun e w' => e = .returned (.string (strOf (B58.enc l))) ∧ Below w.heap.size w w' := by
  obtain ⟨A, n, c, rfl, hn, hc, hm⟩ := h.form'
  have H := Lib.hid h
  have hn6 : n ≤ 1000000 := by rw [hn.out]; exact hlen
  clear h hlen
  go_enter Tryd.func62, Tryd.ntmps62
  go_wp2_with fail
  go_loopw [3, 14] (fun s3 s14 wr => ∃ (k : Nat) (A3 : Option Addr) (n3 c3 : Nat), k ≤ n ∧ s14 = .int .i64 (k : Int) ∧ s3 = .slice A3 n3 c3 ∧ Hid (Own wr w.heap.size (.slice A3 n3 c3) (B58.dig (B58.num (l.take k)))) ∧ Hid (Below w.heap.size w wr)) (fun _ s14 _ => n - (intOf s14).toNat)
  case atStart => exact ⟨0, none, 0, 0, Nat.zero_le _, rfl, rfl, Lib.hid (by rw [List.take_zero, B58.num_nil, B58.dig_zero]; exact Own.nil _ _), Lib.hid (below_refl w)⟩
  case round =>
    obtain ⟨k, A3, n3, c3, hk, rfl, rfl, HO, HB⟩ := hrel
    by_cases hlt : k < n
    · have hkl : k < l.length := by rw [← hn.out]; exact hlt
      obtain ⟨g, o, rfl, hcell, _⟩ := (H.out.below HB.out).at' hkl
      have hd := UInt8.toNat_lt l[k]
      have HS := Lib.hid (B58.num_succ hkl)
      have HL := Lib.hid (dig_len (l.take (k + 1)))
      have HL0 := Lib.hid (dig_len (l.take k))
      generalize l[k].toNat = d at *
      have hd255 : d ≤ 255 := by omega
      clear hd
      obtain ⟨D, hD⟩ : ∃ D, D = B58.dig (B58.num (l.take k)) := ⟨_, rfl⟩
      have HDg := Lib.hid (show B58.Dig D by rw [hD]; exact (B58.dig_spec _).1)
      have HT := Lib.hid (show B58.dig (B58.step D d).2 ++ (B58.step D d).1 = B58.dig (B58.num (l.take (k + 1))) by rw [HS.out, hD]; exact (B58.dig_step _ _).symm)
      rw [← hD] at HO HL0
      have hn3 : n3 = D.length := by
        rcases HO.out.form with ⟨e, e2⟩ | ⟨g, c, e, _⟩
        · injection e with _ e _; rw [e, e2]; rfl
        · injection e with _ e _
      have Hn3 := Lib.hid hn3
      have hn3b : n3 ≤ 2000001 := by rw [hn3]; have := HL0.out; rw [List.length_take] at this; omega
      clear hD hn3 HL0
      have HT0 := Lib.hid (show D.drop n3 = [] from List.drop_of_length_le (by rw [Hn3.out]; exact Nat.le_refl _))
      have HO0 := Lib.hid (show Own wr w.heap.size (.slice A3 n3 c3) (D.take n3 ++ (B58.step (D.drop n3) d).1) by
        rw [HT0.out, List.take_of_length_le (by rw [Hn3.out]; exact Nat.le_refl _)]
        have e : (B58.step [] d).1 = [] := rfl
        rw [e, List.append_nil]
        exact HO.out)
      have HC0 := Lib.hid (show d = (B58.step (D.drop n3) d).2 by rw [HT0.out]; rfl)
      clear HO HT0
      go_wp2_with fail
      clear hcell
      go_loopw [6, 7] (fun s6 s7 wr => ∃ (j ca : Nat) (q : Int), s7 = .int .i64 q ∧ q = (j : Int) - 1 ∧ j ≤ n3 ∧ s6 = .int .i64 (ca : Int) ∧ ca ≤ 255 ∧ Hid (ca = (B58.step (D.drop j) d).2) ∧ Hid (Own wr w.heap.size (.slice A3 n3 c3) (D.take j ++ (B58.step (D.drop j) d).1)) ∧ Hid (Below w.heap.size w wr)) (fun _ s7 _ => (intOf s7 + 1).toNat)
      case atStart => exact ⟨n3, d, _, rfl, rfl, Nat.le_refl _, rfl, hd255, HC0, HO0, HB⟩
      case round =>
        clear HO0 HC0 HB
        obtain ⟨j, ca, q, rfl, hjq, hjS, rfl, hca, HC, HO, HB⟩ := hrel
        by_cases hj0 : 0 < j
        · obtain ⟨j, rfl⟩ : ∃ k, j = k + 1 := ⟨j - 1, by omega⟩
          obtain rfl : q = (j : Int) := by omega
          have hjT : j < D.length := by rw [← Hn3.out]; omega
          have hTj := HDg.out D[j] (List.getElem_mem hjT)
          obtain ⟨g3, rfl, hg3, hcell, hfree, hset⟩ := HO.out.at' (k := j) (by simp; omega)
          rw [List.getElem_append_left (by simp; omega), List.getElem_take] at hcell
          obtain ⟨h1, h2⟩ := step_cons (T := D) (c := d) hjT
          have hset' := hset (UInt8.ofNat (((B58.step (D.drop (j + 1)) d).2 + D[j].toNat * 256) % 58)) (((ca : Int) + ((D[j].toNat : Nat) : Int) * 256) % 58) (by rw [B58.toNat_mod, HC.out]; omega)
          rw [set_mid hjT, ← h1] at hset'
          have HO2 := Lib.hid hset'
          have HC2 := Lib.hid (show (ca + D[j].toNat * 256) / 58 = (B58.step (D.drop j) d).2 by rw [h2, ← HC.out])
          have hca2 : (ca + D[j].toNat * 256) / 58 ≤ 255 := by omega
          have HB2 := Lib.hid (blk_setCell_below HB.out hg3 j (.int .u8 (((ca : Int) + ((D[j].toNat : Nat) : Int) * 256) % 58)))
          clear h1 h2 HO HC HB hset hset' hjq
          generalize D[j].toNat = t at *
          go_wp2_with fail
          exact ⟨⟨j, (ca + t * 256) / 58, _, rfl, rfl, by omega, by go_num, hca2, HC2, HO2, HB2⟩, by simp [intOf] <;> omega⟩
        · obtain rfl : j = 0 := by omega
          have hq0 : q < 0 := by omega
          clear hjq
          have HX0 := Lib.hid (show B58.dig ca ++ (B58.step D d).1 = B58.dig (B58.num (l.take (k + 1))) by rw [HC.out, List.drop_zero]; exact HT.out)
          have HO0 := Lib.hid (show Own wr w.heap.size (.slice A3 n3 c3) (B58.step D d).1 from HO.out)
          clear HC HO
          go_wp2_with fail
          go_loopw [3, 6] (fun s3 s6 wr => ∃ (ca : Nat) (X : List UInt8) (A3 : Option Addr) (n3 c3 : Nat), s3 = .slice A3 n3 c3 ∧ s6 = .int .i64 (ca : Int) ∧ ca ≤ 255 ∧ Hid (B58.dig ca ++ X = B58.dig (B58.num (l.take (k + 1)))) ∧ Hid (Own wr w.heap.size (.slice A3 n3 c3) X) ∧ Hid (Below w.heap.size w wr)) (fun _ s6 _ => (intOf s6).toNat)
          case atStart => exact ⟨ca, _, A3, n3, c3, rfl, rfl, hca, HX0, HO0, HB⟩
          case round =>
            clear HX0 HO0 HB hca
            obtain ⟨ca, X, A3, n3, c3, rfl, rfl, hca, HX, HO, HB⟩ := hrel
            by_cases h0 : ca = 0
            · have HO2 := Lib.hid (show Own wr w.heap.size (.slice A3 n3 c3) (B58.dig (B58.num (l.take (k + 1)))) by rw [← HX.out, h0, B58.dig_zero]; exact HO.out)
              clear HX HO
              subst h0
              go_wp2_with fail
              exact ⟨⟨k + 1, A3, n3, c3, by omega, by go_num, rfl, HO2, HB⟩, by simp [intOf]; omega⟩
            · have hpos : 0 < ca := by omega
              have HX2 := Lib.hid (show B58.dig (ca / 58) ++ UInt8.ofNat (ca % 58) :: X = B58.dig (B58.num (l.take (k + 1))) by rw [dig_more h0]; exact HX.out)
              have hXl : X.length ≤ 2000002 := by
                have h1 := HL.out
                rw [← HX.out, List.length_append, List.length_take] at h1
                omega
              have hsz := HB.out.size
              clear HX h0
              go_wp2_with (at_builtin; refine wpList_app rfl _ _ rfl (by rfl) (by rfl) (Own.one wr w.heap.size hsz (UInt8.ofNat (ca % 58)) (by rw [B58.toNat_mod]; omega)) (HO.out.bs.alloc (Nat.le_refl _) _) (by simp; omega) (by simp; omega) ?_; intro v5 w5 ho5 hg5 _ _; have HO5 := Lib.hid ho5; have HB5 := Lib.hid ((HB.out.alloc hsz _).trans (below_of_own (Own.one wr w.heap.size hsz (UInt8.ofNat (ca % 58)) (by rw [B58.toNat_mod]; omega)) hg5 (by simp; omega))); clear ho5 hg5)
              obtain ⟨A5, n5, c5, rfl⟩ := hid_exists_bs' HO5.out.bs
              exact ⟨⟨ca / 58, _, A5, n5, c5, rfl, by go_num, by omega, HX2, HO5, HB5⟩, by simp [intOf]; omega⟩
    · obtain rfl : k = n := by omega
      obtain ⟨D, hD⟩ : ∃ D, D = B58.dig (B58.num l) := ⟨_, rfl⟩
      have HD := Lib.hid hD
      have HDg := Lib.hid (show B58.Dig D by rw [hD]; exact (B58.dig_spec _).1)
      have HO2 := Lib.hid (show Bs wr wr.heap.size (.slice A3 n3 c3) D by have := HO.out.bs; rw [hn.out, List.take_length] at this; rw [hD]; exact this)
      clear hD HO hlt
      go_upto_block 6 with fail
      go_cut [8] (fun s8 wx => ∃ (z : Nat) (s : ByteArray), s8 = .string s ∧ Hid (s = strOf (List.replicate z 49)) ∧ s.size ≤ k ∧ Hid (z = B58.zeros l) ∧ wr = wx)
      case first =>
        go_wp2_with fail
        go_loop [8, 9] (fun s8 s9 => ∃ (j : Nat) (s : ByteArray), j ≤ k ∧ s8 = .string s ∧ Hid (s = strOf (List.replicate j 49)) ∧ s.size ≤ j ∧ s9 = .int .i64 (j : Int) ∧ Hid (l.take j = List.replicate j 0)) (fun _ s9 => k - (intOf s9).toNat)
        case atStart => exact ⟨0, _, Nat.zero_le _, rfl, Lib.hid rfl, Nat.le_refl _, rfl, Lib.hid (by simp)⟩
        case round =>
          obtain ⟨j, s, hj, rfl, Hs, hsz, rfl, hz⟩ := hrel
          by_cases hlt : j < k
          · have hjl : j < l.length := by rw [← hn.out]; exact hlt
            obtain ⟨g, o, rfl, hcell, _⟩ := (H.out.below HB.out).at' hjl
            have hq := u8_eq0 l[j]
            by_cases h0 : l[j] = 0
            · have hz2 := Lib.hid (show l.take (j + 1) = List.replicate (j + 1) 0 by rw [List.take_succ_eq_append_getElem hjl, hz.out, h0, List.replicate_succ'])
              have Hs2 := Lib.hid (show s ++ ({ data := #[49] } : ByteArray) = strOf (List.replicate (j + 1) 49) by rw [Hs.out]; exact one_more j)
              have hsz2 : (s ++ ({ data := #[49] } : ByteArray)).size ≤ j + 1 := by rw [ByteArray.size_append]; exact Nat.add_le_add_right hsz 1
              rw [decide_eq_true h0] at hq
              clear hz h0
              generalize l[j].toNat = d at *
              go_wp2_with fail
              go_round
              case rel => exact ⟨j + 1, _, by omega, rfl, Hs2, hsz2, by go_num, hz2⟩
              case measure => simp [intOf]; omega
            · have hz2 := Lib.hid (B58.zeros_next hjl hz.out h0).symm
              rw [decide_eq_false h0] at hq
              clear hz h0
              generalize l[j].toNat = d at *
              go_wp2_with fail
              go_meet
              exact ⟨j, s, rfl, Hs, by omega, hz2, rfl⟩
          · obtain rfl : j = k := by omega
            have hz2 := Lib.hid (show j = B58.zeros l by have := hz.out; rw [hn.out] at this ⊢; exact (B58.zeros_all this).symm)
            clear hz
            go_wp2_with fail
            go_meet
            exact ⟨j, s, rfl, Hs, hsz, hz2, rfl⟩
      case rest =>
        obtain ⟨z, s, rfl, Hs, hsz, Hz, rfl⟩ := hcut
        have hn3b : n3 ≤ 2000001 := by have h1 := HD.out; have h2 := dig_len l; rw [← h1] at h2; have h3 : n3 = D.length := by { obtain ⟨A', c', e, _⟩ := HO2.out.form; injection e with _ e _ }; rw [h3]; have := hn.out; omega
        have Hn3 := Lib.hid (show n3 = D.length by obtain ⟨A', c', e, _⟩ := HO2.out.form; injection e with _ e _)
        go_wp2_with fail
        go_loop [8, 71] (fun s8 s71 => ∃ (t : Nat) (s : ByteArray), t ≤ n3 ∧ s71 = .int .i64 (t : Int) ∧ s8 = .string s ∧ Hid (s = strOf (List.replicate z 49 ++ (D.take t).map B58.letter)) ∧ s.size ≤ k + t) (fun _ s71 => n3 - (intOf s71).toNat)
        case atStart => exact ⟨0, s, Nat.zero_le _, rfl, rfl, Lib.hid (by rw [Hs.out]; simp), by omega⟩
        case round =>
          clear Hs hsz
          obtain ⟨t, s, ht, rfl, rfl, Hs, hsz⟩ := hrel
          by_cases hlt : t < n3
          · have htD : t < D.length := by rw [← Hn3.out]; exact hlt
            obtain ⟨g, o, rfl, hcell, _⟩ := HO2.out.at' htD
            have hd58 := HDg.out D[t] (List.getElem_mem htD)
            have Hs2 := Lib.hid (show s ++ (strOf B58.alpha).extract D[t].toNat (D[t].toNat + 1) = strOf (List.replicate z 49 ++ (D.take (t + 1)).map B58.letter) by
              rw [letter_extract _ hd58, Hs.out]; exact letters_more htD)
            have hsz2 : (s ++ (strOf B58.alpha).extract D[t].toNat (D[t].toNat + 1)).size ≤ k + (t + 1) := by
              rw [ByteArray.size_append, ByteArray.size_extract]; omega
            generalize D[t].toNat = d at *
            go_wp2_with fail
            go_round
            case rel => exact ⟨t + 1, _, by omega, by go_num, rfl, Hs2, hsz2⟩
            case measure => simp [intOf]; omega
          · obtain rfl : t = n3 := by omega
            have Hs2 := Lib.hid (show s = strOf (B58.enc l) by rw [Hs.out, Hn3.out, List.take_length, Hz.out, HD.out]; rfl)
            obtain rfl := Hs2.out
            clear Hs Hs2
            go_wp2_with fail
            go_ret
            exact ⟨rfl, HB.out⟩
end
end Go.Proofs.YtcefcdmonfenoaaDoor

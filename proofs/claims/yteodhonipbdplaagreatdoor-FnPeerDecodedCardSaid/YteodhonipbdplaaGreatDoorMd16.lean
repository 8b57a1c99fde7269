/- Base 58's decoding of a text that its encoding wrote. -/
import Derived.Test.YteodhonipbdplaaGreatDoorMd11
import Derived.Test.YteodhonipbdplaaGreatDoorMd12
import Derived.Test.YteodhonipbdplaaGreatDoorMd15
import Derived.Deep.CutBlock
import Derived.Deep.DeepCutAuto
namespace Go.Proofs.YteodhonipbdplaaGreatDoor
open Go.RowKit
set_option maxRecDepth 100000
section
variable {w : World} {l : List UInt8} {ga : Nat}
theorem enc_len_le (l : List UInt8) : (B58.enc l).length ≤ 3 * l.length + 1 := by
  have h1 := dig_len l
  have h2 := B58.zeros_le l
  unfold B58.enc
  rw [List.length_append, List.length_replicate, List.length_map]
  omega
set_option maxHeartbeats 8000000 in
theorem fastDec (ha : Blk w ga 158 (alphaCells (decV 58))) (hl0 : l ≠ []) (hl : l.length ≤ 1000) :
    Calls Tryz.prog 144 #[.string (strOf (B58.enc l)), .pointer (some ⟨ga, 0, none⟩)] w fun e w' => ∃ v, e = .returned (.tuple #[v, .nilIface]) ∧ Bs w' w'.heap.size v l ∧ Below w.heap.size w w' := by
  have hlen := enc_len_le l
  have hlong := B58.digs_long l
  rw [← B58.enc_len] at hlong
  have hl1 : 0 < l.length := List.length_pos_iff.2 hl0
  obtain ⟨T, hT⟩ : ∃ T, T = B58.enc l := ⟨_, rfl⟩
  obtain ⟨w1, c1, cs, hr, hK, hcs, hB, hsz⟩ := conv_runes w T (by rw [hT]; exact enc_lt l) (by rw [hT]; omega)
  have hS : (strOf T).size = T.length := strOf_size T
  have hg1 := ha.lt
  have HA := Lib.hid (ha.step hB)
  obtain ⟨N, hN⟩ : ∃ N, N = T.length := ⟨_, rfl⟩
  rw [← hN] at hr hS
  have hN0 : 0 < N := by rw [hN, hT]; omega
  have hN1 : N ≤ 3001 := by rw [hN, hT]; omega
  obtain ⟨S, hSt⟩ : ∃ S, S = strOf T := ⟨_, rfl⟩
  rw [← hSt] at hr hS
  rw [← hT, ← hSt]
  obtain ⟨gr, hgr⟩ : ∃ x, x = w.heap.size := ⟨_, rfl⟩
  rw [← hgr] at hr hK
  obtain ⟨M, hM⟩ : ∃ M : Nat, ((N : Int) + 3) * 3 = (M : Int) := ⟨(N + 3) * 3, by omega⟩
  obtain ⟨n, hn⟩ : ∃ n : Nat, ((N : Int) + 3) / 4 = (n : Int) := ⟨(N + 3) / 4, by omega⟩
  obtain ⟨r, hr4⟩ : ∃ r : Nat, (N : Int) % 4 = (r : Int) := ⟨N % 4, by omega⟩
  have hm1 : ∀ W : World, (Instr.makeSlice 23 (.int .i64 (M : Int)) (.int .i64 (M : Int))).run Tryz.prog W = .ok (.slice (some ⟨W.heap.size, 0, none⟩) M M) (W.alloc (.cells (bvs (List.replicate M 0)).toArray 5)) := fun W => run_makeBytes' W M (by omega)
  have hm2 : ∀ W : World, (Instr.makeSlice 167 (.int .i64 (n : Int)) (.int .i64 (n : Int))).run Tryz.prog W = .ok (.slice (some ⟨W.heap.size, 0, none⟩) n n) (W.alloc (.cells (uvs (List.replicate n 0)).toArray 63)) := fun W => run_makeWords W n (by omega)
  have HT := Lib.hid hT
  have Hcs := Lib.hid hcs
  have HK := Lib.hid hK
  have HB := Lib.hid hB
  have HN := Lib.hid hN
  have Hgr := Lib.hid hgr
  have Hl0 := Lib.hid hl0
  clear ha hT hcs hK hB hN hgr hSt hlen hlong hl1 hl0 hsz
  obtain ⟨gb, hgb⟩ : ∃ x, x = w1.heap.size := ⟨_, rfl⟩
  have hz0 : (w1.alloc (.cells (bvs (List.replicate M 0)).toArray 5)).cell? ⟨ga, 128, none⟩ = some (.int .u8 49) := alphaLetter (HA.out.alloc _) (decV_length 58) (i := 0) (by omega)
  have KB := Lib.hid (show Blk (w1.alloc (.cells (bvs (List.replicate M 0)).toArray 5)) gb 5 (bvs (List.replicate M 0)).toArray by rw [hgb]; exact Blk.new _ _ _)
  have HA2 := Lib.hid (HA.out.alloc (.cells (bvs (List.replicate M 0)).toArray 5))
  have HK2 := Lib.hid (HK.out.alloc (.cells (bvs (List.replicate M 0)).toArray 5))
  have HB2 := Lib.hid (below_trans HB.out (below_alloc w1 (.cells (bvs (List.replicate M 0)).toArray 5)))
  have Hgb := Lib.hid hgb
  have hgrb : gr < gb := by rw [hgb]; exact HK.out.lt
  have hgab : ga < gb := by rw [hgb]; exact HA.out.lt
  have n0 : ¬ (N : Int) = 0 := by omega
  clear HA HK HB hgb
  go_enter Tryz.func144, Tryz.ntmps144
  go_upto_if 51 with fail
  rw [hn, hr4, ← Hgb.out]
  generalize w1.alloc (.cells (bvs (List.replicate M 0)).toArray 5) = w2 at *
  obtain ⟨b, hb⟩ : ∃ b : Nat, b = if r = 0 then 4 else r := ⟨_, rfl⟩
  have hr3 : r ≤ 3 := by omega
  have hb4 : 1 ≤ b ∧ b ≤ 4 := by rw [hb]; split <;> omega
  have HNb := Lib.hid (show N = 4 * (n - 1) + b ∧ 0 < n by rw [hb]; split <;> omega)
  have Hb := Lib.hid hb
  have HM := Lib.hid (show M = 3 * N + 9 by omega)
  have Hn := Lib.hid (show n = (N + 3) / 4 by omega)
  have hn1 : n ≤ 1000 := by omega
  clear hz0 hb hM hn hr4 hr hm1
  go_cut [7, 14] (fun s7 s14 wx => ∃ z : Nat, s7 = .int .u32 (z : Int) ∧ s14 = .int .i64 (b : Int) ∧ Hid (∀ x : Nat, x < 256 ^ b → x < 2 ^ 32 → bits .and .u32 (x : Int) (z : Int) = 0) ∧ wx = w2)
  case first =>
    rcases (by omega : r = 0 ∨ r = 1 ∨ r = 2 ∨ r = 3) with rfl | rfl | rfl | rfl
    · obtain rfl : b = 4 := Hb.out
      go_wp2_with fail
      go_meet
      exact ⟨0, rfl, rfl, Lib.hid (fun x _ h => maskZero (k := 32) (m := 0) h (by omega) (by omega)), rfl⟩
    · obtain rfl : b = 1 := Hb.out
      go_wp2_with fail
      go_meet
      exact ⟨2 ^ 8 * 16777215, by first | rfl | (trace_state; sorry), rfl, Lib.hid (fun x h _ => maskZero (k := 8) (m := 16777215) h (by omega) (by omega)), rfl⟩
    · obtain rfl : b = 2 := Hb.out
      go_wp2_with fail
      go_meet
      exact ⟨2 ^ 16 * 65535, by first | rfl | (trace_state; sorry), rfl, Lib.hid (fun x h _ => maskZero (k := 16) (m := 65535) h (by omega) (by omega)), rfl⟩
    · obtain rfl : b = 3 := Hb.out
      go_wp2_with fail
      go_meet
      exact ⟨2 ^ 24 * 255, by first | rfl | (trace_state; sorry), rfl, Lib.hid (fun x h _ => maskZero (k := 24) (m := 255) h (by omega) (by omega)), rfl⟩
  case rest =>
    obtain ⟨z, rfl, rfl, Hz, rfl⟩ := hcut
    obtain ⟨go, hgo⟩ : ∃ x, x = wc.heap.size := ⟨_, rfl⟩
    have KO := Lib.hid (show Blk (wc.alloc (.cells (uvs (List.replicate n 0)).toArray 63)) go 63 (uvs (List.replicate n 0)).toArray by rw [hgo]; exact Blk.new _ _ _)
    have KB3 := Lib.hid (KB.out.alloc (.cells (uvs (List.replicate n 0)).toArray 63))
    have HA3 := Lib.hid (HA2.out.alloc (.cells (uvs (List.replicate n 0)).toArray 63))
    have HK3 := Lib.hid (HK2.out.alloc (.cells (uvs (List.replicate n 0)).toArray 63))
    have HB3 := Lib.hid (below_trans HB2.out (below_alloc wc (.cells (uvs (List.replicate n 0)).toArray 63)))
    have hgbo : gb < go := by rw [hgo]; exact KB.out.lt
    have Hgo := Lib.hid hgo
    clear hgo KB HA2 HK2 HB2
    go_upto_block 0 with fail
    rw [← Hgo.out]
    generalize wc.alloc (.cells (uvs (List.replicate n 0)).toArray 63) = w3 at *
    go_cut [9] (fun s9 wx => ∃ zc : Nat, s9 = .int .i64 (zc : Int) ∧ Hid (zc = B58.zeros l) ∧ wx = w3)
    case first =>
      go_wp2_with fail
      go_loop [9, 17] (fun s9 s17 => ∃ i : Nat, i ≤ N ∧ s9 = .int .i64 (i : Int) ∧ s17 = .int .i64 (i : Int) ∧ Hid (∀ k (h : k < i) (hk : k < T.length), T[k] = 49)) (fun _ s17 => N - (intOf s17).toNat)
      case atStart => exact ⟨0, Nat.zero_le _, rfl, rfl, Lib.hid (fun k h _ => absurd h (by omega))⟩
      case round =>
        obtain ⟨i, hi, rfl, rfl, HO⟩ := hrel
        by_cases hlt : i < N
        · have hiT : i < T.length := by rw [← HN.out]; exact hlt
          have hcell : w3.cell? ⟨gr, i, none⟩ = some (.int .i32 ((T[i].toNat : Nat) : Int)) := (HK3.out.cell i).trans (Hcs.out i hiT)
          by_cases h49 : T[i] = 49
          · have HO2 := Lib.hid (show ∀ k (h : k < i + 1) (hk : k < T.length), T[k] = 49 from fun k h hk => by
              rcases Nat.lt_or_ge k i with h2 | h2
              · exact HO.out k h2 hk
              · obtain rfl : k = i := by omega
                exact h49)
            rw [h49] at hcell
            have hcell : w3.cell? ⟨gr, i, none⟩ = some (.int .i32 49) := hcell
            clear HO h49
            go_wp2_with fail
            go_round
            case rel => exact ⟨i + 1, by omega, by go_num, by go_num, HO2⟩
            case measure => simp [intOf]; omega
          · have hd : ¬ ((T[i].toNat : Nat) : Int) = 49 := fun e => h49 (UInt8.toNat_inj.1 (by have h3 : T[i].toNat = 49 := by omega
                                                                                               exact h3))
            have HZ := Lib.hid (show i = B58.zeros l by
              have ht := HT.out
              subst ht
              rcases Nat.lt_trichotomy i (B58.zeros l) with h | h | h
              · exact absurd (B58.enc_one hiT h) h49
              · exact h
              · exact absurd (HO.out _ h (by omega)) (B58.enc_next (by omega)))
            generalize T[i].toNat = d at *
            clear HO h49
            go_wp2_with fail
            go_meet
            exact ⟨i, rfl, HZ, rfl⟩
        · obtain rfl : i = N := by omega
          have HZ := Lib.hid (show i = B58.zeros l by
            have ht := HT.out
            have hN := HN.out
            subst ht
            have := B58.zeros_enc l
            rcases Nat.lt_or_ge (B58.zeros l) i with h | h
            · exact absurd (HO.out _ h (by omega)) (B58.enc_next (by omega))
            · omega)
          clear HO
          go_wp2_with fail
          go_meet
          exact ⟨i, rfl, HZ, rfl⟩
    case rest =>
      obtain ⟨zc, rfl, Hzc, rfl⟩ := hcut
      obtain ⟨w3, rfl⟩ : ∃ x : World, x = wc := ⟨_, rfl⟩
      go_upto_block 2 with fail
      obtain ⟨D, hD⟩ : ∃ D, D = B58.digs l := ⟨_, rfl⟩
      have HDl := Lib.hid (show D.length = N by rw [hD, ← B58.enc_len, ← HT.out, HN.out])
      have HDg := Lib.hid (show B58.Dig D by rw [hD]; exact B58.digs_dig l)
      have HDT := Lib.hid (show ∀ k (h : k < D.length) (h2 : k < T.length), T[k] = B58.letter D[k] from fun k h h2 => by
        have ht := HT.out
        subst ht hD
        exact B58.enc_get h)
      have HDv := Lib.hid (show B58.val D = B58.num l by rw [hD]; exact B58.digs_val l)
      have HN4 := Lib.hid (show N ≤ 4 * n by have := HNb.out; omega)
      clear hD
      have KO0 := Lib.hid (show Blk w3 go 63 (uvs (B58.mix n (B58.val (D.take 0)) (B58.val (D.take 0)) 0)).toArray by
        rw [List.take_zero, show B58.val [] = 0 from rfl, B58.mix_zero]; exact KO.out)
      have hn0 : 0 < n := HNb.out.2
      have hn00 : (0 : Int) < (n : Int) := by omega
      clear KO
      go_cut [75] (fun _ wx => Hid (Blk wx go 63 (uvs (B58.mix n (B58.num l) (B58.num l) 0)).toArray) ∧ Hid (w3.grownBy wx (some go)))
      case first =>
        go_wp2_with fail
        go_loopw [75] (fun s75 wr => ∃ k : Nat, k ≤ N ∧ s75 = .int .i64 (k : Int) ∧ Hid (Blk wr go 63 (uvs (B58.mix n (B58.val (D.take k)) (B58.val (D.take k)) 0)).toArray) ∧ Hid (w3.grownBy wr (some go))) (fun s75 _ => N - (intOf s75).toNat)
        case atStart => exact ⟨0, Nat.zero_le _, rfl, KO0, Lib.hid (grown_refl w3 (some go))⟩
        case round =>
          clear KO0
          obtain ⟨k, hk, rfl, HO, HG⟩ := hrel
          by_cases hlt : k < N
          · have hkT : k < T.length := by rw [← HN.out]; exact hlt
            have hkD : k < D.length := by rw [HDl.out]; exact hlt
            have hcr : wr.cell? ⟨gr, k, none⟩ = some (.int .i32 ((T[k].toNat : Nat) : Int)) := ((HK3.out.grown HG.out (by intro e; injection e with e; omega)).cell k).trans (Hcs.out k hkT)
            have hd58 := HDg.out D[k] (List.getElem_mem hkD)
            have hal : wr.cell? ⟨ga, T[k].toNat, none⟩ = some (.int .i8 ((D[k].toNat : Nat) : Int)) := by
              rw [HDT.out k hkD hkT]
              rw [alphaCell (HA3.out.grown HG.out (by intro e; injection e with e; omega)) (by rw [decV_length]; exact letter_lt _)]
              rw [letter_dec hd58]
            have he128 : T[k].toNat < 128 := by rw [HDT.out k hkD hkT]; exact letter_lt _
            have HV := Lib.hid (B58.val_succ hkD)
            have HVs := Lib.hid (B58.val_small HDg.out (k := k + 1) (N := N) (n := n) (by omega) HDl.out HN4.out)
            generalize T[k].toNat = e at *
            generalize D[k].toNat = d at *
            obtain ⟨V, hV⟩ : ∃ V, V = B58.val (D.take k) := ⟨_, rfl⟩
            obtain ⟨V', hV'⟩ : ∃ V, V = B58.val (D.take (k + 1)) := ⟨_, rfl⟩
            rw [← hV] at HO HV
            rw [← hV'] at HV HVs
            have HV2 := Lib.hid hV'
            have d1 : ¬ (d : Int) = -1 := by omega
            have e1 : ¬ (127 : Int) < (e : Int) := by omega
            have e2 : (e : Int) < 128 := by omega
            have HS := Lib.hid (show Blk wr go 63 (uvs (B58.mix n V V' n)).toArray by rw [B58.mix_full]; exact HO.out)
            clear hV hV' HO
            have hd57 : d ≤ 57 := by omega
            go_wp2_with fail
            go_loopw [8, 20] (fun s8 s20 wr => ∃ (j c : Nat) (q : Int), s20 = .int .i64 q ∧ q = (j : Int) - 1 ∧ j ≤ n ∧ s8 = .int .u32 (c : Int) ∧ c ≤ 57 ∧ Hid (c = B58.cy n V d j) ∧ Hid (Blk wr go 63 (uvs (B58.mix n V V' j)).toArray) ∧ Hid (w3.grownBy wr (some go))) (fun _ s20 _ => (intOf s20 + 1).toNat)
            case atStart => exact ⟨n, d, _, rfl, rfl, Nat.le_refl _, rfl, hd57, Lib.hid (B58.cy_start n V d).symm, HS, HG⟩
            case round =>
              clear HS HG
              obtain ⟨j, c, q, rfl, hjq, hjn, rfl, hc57, HC, HW, HG⟩ := hrel
              by_cases hj0 : 0 < j
              · obtain ⟨j, rfl⟩ : ∃ i, j = i + 1 := ⟨j - 1, by omega⟩
                obtain rfl : q = (j : Int) := by omega
                have hjn1 : j < n := by omega
                obtain ⟨x, hx⟩ : ∃ x, x = B58.wd n V j := ⟨_, rfl⟩
                have hxl : x < 4294967296 := by rw [hx]; exact B58.wd_lt n V j
                have hcx : wr.cell? ⟨go, j, none⟩ = some (.int .u32 (x : Int)) := by
                  rw [uCell HW.out (by rw [B58.mix_length]; exact hjn1), B58.mix_get hjn1, if_pos (by omega), hx]
                have hfx := HW.out.free j
                obtain ⟨st1, st2⟩ := B58.cy_step (V := V) (d := d) hjn1
                rw [← HC.out, ← hx] at st1 st2
                have HC2 := Lib.hid (show (x * 58 + c) / 4294967296 = B58.cy n V d j from st1)
                have HX2 := Lib.hid (show (x * 58 + c) % 4294967296 = B58.wd n V' j by rw [HV.out]; exact st2)
                have Hx := Lib.hid hx
                clear st1 st2 hx HC hjq
                have hb1 : bits .and .u32 (((x : Int) * 58 + (c : Int)) / 4294967296) 63 = (((x * 58 + c) / 4294967296 : Nat) : Int) := by
                  rw [show ((x : Int) * 58 + (c : Int)) / 4294967296 = (((x * 58 + c) / 4294967296 : Nat) : Int) by omega]
                  exact and32low (by omega)
                have hb2 : bits .and .u64 ((x : Int) * 58 + (c : Int)) 4294967295 % 4294967296 = (((x * 58 + c) % 4294967296 : Nat) : Int) := by
                  rw [show (x : Int) * 58 + (c : Int) = ((x * 58 + c : Nat) : Int) by omega, and64low (by omega)]
                  omega
                have Hb1 := Lib.hid hb1
                have Hb2 := Lib.hid hb2
                have HW2 := Lib.hid (show Blk (wr.setCell ⟨go, j, none⟩ (.int .u32 (((x * 58 + c) % 4294967296 : Nat) : Int))) go 63 (uvs (B58.mix n V V' j)).toArray by
                  have h := uSet HW.out j ((x * 58 + c) % 4294967296)
                  rw [HX2.out, B58.mix_set] at h
                  rw [HX2.out]
                  exact h)
                have HG2 := Lib.hid (grown_setCell HG.out (p := ⟨go, j, none⟩) (.inl rfl) (.int .u32 (((x * 58 + c) % 4294967296 : Nat) : Int)))
                have hc2 : (x * 58 + c) / 4294967296 ≤ 57 := by omega
                clear hb1 hb2
                go_wp2_with fail
                rw [Hb1.out, Hb2.out]
                exact ⟨⟨j, (x * 58 + c) / 4294967296, _, rfl, rfl, by omega, rfl, hc2, HC2, HW2, HG2⟩, by
                  show ((j : Int) - 1 + 1).toNat < ((j : Int) + 1).toNat
                  omega⟩
              · obtain rfl : j = 0 := by omega
                obtain rfl : c = 0 := by rw [HC.out]; exact B58.cy_end (by rw [← HV.out]; exact HVs.out.1)
                have hq0 : q < 0 := by omega
                obtain ⟨y, hy⟩ : ∃ y, y = B58.wd n V' 0 := ⟨_, rfl⟩
                have hcy : wr.cell? ⟨go, 0, none⟩ = some (.int .u32 (y : Int)) := by
                  rw [uCell HW.out (by rw [B58.mix_length]; exact hn0), B58.mix_get hn0, if_neg (by omega), hy]
                have hyz : bits .and .u32 (y : Int) (z : Int) = 0 := Hz.out y (by
                  rw [hy]
                  exact B58.wd_first hn0 (by omega) (by rw [← HNb.out.1]; exact HVs.out.2)) (by rw [hy]; exact B58.wd_lt n V' 0)
                have HO2 := Lib.hid (show Blk wr go 63 (uvs (B58.mix n V' V' 0)).toArray by rw [← B58.mix_end n V V']; exact HW.out)
                rw [HV2.out] at HO2
                clear hy HC HW hjq
                go_wp2_with fail
                exact ⟨⟨k + 1, by omega, by go_num, HO2, HG⟩, by simp [intOf]; omega⟩
          · obtain rfl : k = N := by omega
            rw [show D.take k = D by rw [← HDl.out, List.take_length], HDv.out] at HO
            go_wp2_with fail
            go_meet
            exact ⟨HO, HG⟩
      case rest =>
        clear KO0
        obtain ⟨HO, HG⟩ := hcut
        have KB4 := Lib.hid (KB3.out.grown HG.out (by intro e; injection e with e; omega))
        have HB4 := Lib.hid (below_grown HB3.out HG.out (fun k e => by injection e with e; have := Hgr.out; omega))
        clear KB3 HA3 HK3 HB3 HG
        obtain ⟨w4, rfl⟩ : ∃ x : World, x = wc := ⟨_, rfl⟩
        go_upto_block 6 with fail
        obtain ⟨V, hV⟩ : ∃ V, V = B58.num l := ⟨_, rfl⟩
        rw [← hV] at HO HDv
        have HV := Lib.hid hV
        have HMN := Lib.hid (show N ≤ M by have := HM.out; omega)
        have KB5 := Lib.hid (show Blk w4 gb 5 (bvs ((B58.be N V).take 0 ++ List.replicate (M - 0) 0)).toArray by rw [List.take_zero, List.nil_append, Nat.sub_zero]; exact KB4.out)
        clear hV KB4
        go_cut [22] (fun s22 wx => s22 = .int .i64 (N : Int) ∧ Hid (Blk wx gb 5 (bvs (B58.be N V ++ List.replicate (M - N) 0)).toArray) ∧ Hid (w4.grownBy wx (some gb)))
        case first =>
          go_wp2_with fail
          go_loopw [14, 21, 22] (fun s14 s21 s22 wr => ∃ j c bl : Nat, j ≤ n ∧ s21 = .int .i64 (j : Int) ∧ s22 = .int .i64 (c : Int) ∧ s14 = .int .i64 (bl : Int) ∧ 1 ≤ bl ∧ bl ≤ 4 ∧ c ≤ N ∧ Hid (j < n → N = c + bl + 4 * (n - 1 - j)) ∧ Hid (j = n → N = c) ∧ Hid (0 < j → bl = 4) ∧ Hid (Blk wr gb 5 (bvs ((B58.be N V).take c ++ List.replicate (M - c) 0)).toArray) ∧ Hid (w4.grownBy wr (some gb))) (fun _ s21 _ _ => n - (intOf s21).toNat)
          case atStart => exact ⟨0, 0, b, Nat.zero_le _, rfl, rfl, rfl, hb4.1, hb4.2, Nat.zero_le _, Lib.hid (fun _ => by have := HNb.out; omega), Lib.hid (fun h => by omega), Lib.hid (fun h => by omega), KB5, Lib.hid (grown_refl w4 (some gb))⟩
          case round =>
            clear KB5
            obtain ⟨j, c, bl, hjn, rfl, rfl, rfl, hbl1, hbl4, hcN, HJ, HJn, HJ0, HR, HG⟩ := hrel
            by_cases hlt : j < n
            · obtain ⟨x, hx⟩ : ∃ x, x = B58.wd n V j := ⟨_, rfl⟩
              have hxl : x < 4294967296 := by rw [hx]; exact B58.wd_lt n V j
              have HO5 := Lib.hid (show ∀ W : World, w4.grownBy W (some gb) → W.cell? ⟨go, j, none⟩ = some (.int .u32 (x : Int)) from fun W hW => by
                rw [uCell (HO.out.grown hW (by intro e; injection e with e; omega)) (by rw [B58.mix_length]; exact hlt), B58.mix_get hlt, if_neg (by omega), hx])
              have HJ2 := Lib.hid (HJ.out hlt)
              have Hx := Lib.hid hx
              clear hx
              go_upto_region 43 with fail
              go_cut [23] (fun s23 wx => ∃ m : Nat, m ≤ 3 ∧ s23 = .int .u8 ((8 * m : Nat) : Int) ∧ Hid (bl = m + 1) ∧ wx = wr)
              case first =>
                rcases (by omega : bl = 1 ∨ bl = 2 ∨ bl = 3 ∨ bl = 4) with rfl | rfl | rfl | rfl
                · go_wp2_with fail
                  go_meet
                  exact ⟨0, by omega, rfl, Lib.hid rfl, rfl⟩
                · go_wp2_with fail
                  go_meet
                  exact ⟨1, by omega, rfl, Lib.hid rfl, rfl⟩
                · go_wp2_with fail
                  go_meet
                  exact ⟨2, by omega, rfl, Lib.hid rfl, rfl⟩
                · go_wp2_with fail
                  go_meet
                  exact ⟨3, by omega, rfl, Lib.hid rfl, rfl⟩
              case rest =>
                obtain ⟨m, hm3, rfl, Hm, rfl⟩ := hcut
                obtain ⟨wr, rfl⟩ : ∃ x : World, x = wc := ⟨_, rfl⟩
                have HJ3 := Lib.hid (show N = c + 1 + 4 * (n - 1 - j) + m by have := HJ2.out; have := Hm.out; omega)
                go_wp2_with fail
                go_loopw [22, 23] (fun s22 s23 wr => ∃ (c : Nat) (q : Int), s22 = .int .i64 (c : Int) ∧ s23 = .int .u8 q ∧ c ≤ N ∧ ((∃ m : Nat, m ≤ 3 ∧ q = ((8 * m : Nat) : Int) ∧ N = c + 1 + 4 * (n - 1 - j) + m) ∨ (q = 248 ∧ N = c + 4 * (n - 1 - j))) ∧ Hid (Blk wr gb 5 (bvs ((B58.be N V).take c ++ List.replicate (M - c) 0)).toArray) ∧ Hid (w4.grownBy wr (some gb))) (fun _ s23 _ => B58.mskM (intOf s23))
                case atStart => exact ⟨c, _, rfl, rfl, hcN, .inl ⟨m, hm3, rfl, HJ3.out⟩, HR, HG⟩
                case round =>
                  clear HR HG HJ3 hcN
                  obtain ⟨c, q, rfl, rfl, hcN, hq, HR, HG⟩ := hrel
                  rcases hq with ⟨m, hm, rfl, hN4⟩ | ⟨rfl, hN4⟩
                  · have hcx := HO5.out _ HG.out
                    have HN5 := Lib.hid hN4
                    have hcL : c < (B58.be N V).length := by rw [B58.be_length]; omega
                    have hML : (B58.be N V).length ≤ M := by rw [B58.be_length]; exact HMN.out
                    have hby := B58.wd_byte (V := V) (c := c) (k := m) hm hlt hN4
                    have HY := Lib.hid (show (B58.be N V)[c] = UInt8.ofNat (x / 256 ^ m % 256) by rw [B58.be_get N V c (by rw [B58.be_length] at hcL; exact hcL), ← hby, Hx.out])
                    have HR2 := Lib.hid (show Blk (wr.setCell ⟨gb, c, none⟩ (.int .u8 (((x / 256 ^ m) % 256 : Nat) : Int))) gb 5 (bvs ((B58.be N V).take (c + 1) ++ List.replicate (M - (c + 1)) 0)).toArray by
                      have h := byteSet (k := c) (n := x / 256 ^ m) HR.out (x := ((x / 256 ^ m % 256 : Nat) : Int)) rfl
                      rw [B58.row_next hcL hML HY.out] at h
                      exact h)
                    have HG2 := Lib.hid (grown_setCell HG.out (p := ⟨gb, c, none⟩) (.inl rfl) (.int .u8 (((x / 256 ^ m) % 256 : Nat) : Int)))
                    have hc1 : c < M := by rw [B58.be_length] at hcL hML; omega
                    have hc2 : (c : Int) < (M : Int) := by omega
                    have hj2 : (j : Int) < (n : Int) := by omega
                    obtain ⟨y, hy⟩ : ∃ v, wr.cell? ⟨gb, c, none⟩ = some v := ⟨_, byteLies HR.out (k := c) (by rw [List.length_append, List.length_take, List.length_replicate, B58.be_length]; omega)⟩
                    have fy := HR.out.free c
                    have hcN1 : c + 1 ≤ N := by omega
                    clear hby hcL hML hN4 HR HG HY
                    rcases (by omega : m = 0 ∨ m = 1 ∨ m = 2 ∨ m = 3) with rfl | rfl | rfl | rfl
                    · have ey : (x : Int) % 256 = ((x / 256 ^ 0 % 256 : Nat) : Int) := by simp only [Nat.reducePow]; omega
                      have Ey := Lib.hid ey
                      clear ey
                      go_wp2_with fail
                      rw [Ey.out]
                      exact ⟨⟨c + 1, _, by go_num, rfl, hcN1, .inr ⟨rfl, by have := HN5.out; omega⟩, HR2, HG2⟩, by decide⟩
                    · have ey : (x : Int) / 256 % 256 = ((x / 256 ^ 1 % 256 : Nat) : Int) := by simp only [Nat.reducePow]; omega
                      have Ey := Lib.hid ey
                      clear ey
                      go_wp2_with fail
                      rw [Ey.out]
                      exact ⟨⟨c + 1, _, by go_num, rfl, hcN1, .inl ⟨0, by omega, rfl, by have := HN5.out; omega⟩, HR2, HG2⟩, by decide⟩
                    · have ey : (x : Int) / 65536 % 256 = ((x / 256 ^ 2 % 256 : Nat) : Int) := by simp only [Nat.reducePow]; omega
                      have Ey := Lib.hid ey
                      clear ey
                      go_wp2_with fail
                      rw [Ey.out]
                      exact ⟨⟨c + 1, _, by go_num, rfl, hcN1, .inl ⟨1, by omega, rfl, by have := HN5.out; omega⟩, HR2, HG2⟩, by decide⟩
                    · have ey : (x : Int) / 16777216 = ((x / 256 ^ 3 % 256 : Nat) : Int) := by simp only [Nat.reducePow]; omega
                      have Ey := Lib.hid ey
                      clear ey
                      go_wp2_with fail
                      rw [Ey.out]
                      exact ⟨⟨c + 1, _, by go_num, rfl, hcN1, .inl ⟨2, by omega, rfl, by have := HN5.out; omega⟩, HR2, HG2⟩, by decide⟩
                  · by_cases hj0 : j = 0
                    · subst hj0
                      have HA1 := Lib.hid (show 0 + 1 < n → N = c + 4 + 4 * (n - 1 - (0 + 1)) from fun h => by omega)
                      have HA2 := Lib.hid (show 0 + 1 = n → N = c from fun h => by omega)
                      clear hN4
                      go_wp2_with fail
                      exact ⟨⟨1, c, 4, hlt, rfl, rfl, rfl, by omega, by omega, hcN, HA1, HA2, Lib.hid (fun _ => rfl), HR, HG⟩, by simp [intOf]; omega⟩
                    · have HA1 := Lib.hid (show j + 1 < n → N = c + 4 + 4 * (n - 1 - (j + 1)) from fun h => by omega)
                      have HA2 := Lib.hid (show j + 1 = n → N = c from fun h => by omega)
                      obtain rfl : bl = 4 := HJ0.out (by omega)
                      have hj1 : ¬ (j : Int) = 0 := by omega
                      clear hN4
                      go_wp2_with fail
                      exact ⟨⟨j + 1, c, 4, hlt, by go_num, rfl, rfl, by omega, by omega, hcN, HA1, HA2, Lib.hid (fun _ => rfl), HR, HG⟩, by simp [intOf]; omega⟩
            · obtain rfl : j = n := by omega
              obtain rfl : N = c := HJn.out rfl
              rw [List.take_of_length_le (by rw [B58.be_length]; exact Nat.le_refl _)] at HR
              go_wp2_with fail
              go_meet
              exact ⟨rfl, HR, HG⟩
        case rest =>
          obtain ⟨rfl, HR, HG⟩ := hcut
          obtain ⟨w5, rfl⟩ : ∃ x : World, x = wc := ⟨_, rfl⟩
          have HB5 := Lib.hid (below_grown HB4.out HG.out (fun k e => by injection e with e; have := Hgb.out; have := Hgr.out; omega))
          clear HO HG HB4 KB5
          have HEN := Lib.hid (show N = (B58.enc l).length by rw [HN.out, HT.out])
          have HLN := Lib.hid (show l.length ≤ N by rw [HEN.out, B58.enc_len]; exact B58.digs_long l)
          obtain ⟨R, hR⟩ : ∃ R, R = B58.be N V ++ List.replicate (M - N) 0 := ⟨_, rfl⟩
          have HRR := Lib.hid (show R = B58.be (B58.enc l).length (B58.num l) ++ List.replicate (M - N) 0 by rw [hR, HEN.out, HV.out])
          have hRl : R.length = M := by rw [hR, List.length_append, B58.be_length, List.length_replicate]; have := HMN.out; omega
          rw [← hR] at HR
          clear hR
          have hNM : N ≤ M := HMN.out
          have hM1 : M ≤ 100000 := by have := HM.out; omega
          go_wp2_with fail
          go_loop [162] (fun s162 => ∃ i : Nat, i ≤ M ∧ s162 = .int .i64 (i : Int) ∧ Hid (R.take i = List.replicate i 0)) (fun s162 => M - (intOf s162).toNat)
          case atStart => exact ⟨0, Nat.zero_le _, rfl, Lib.hid (by simp)⟩
          case round =>
            obtain ⟨i, hi, rfl, HZ⟩ := hrel
            by_cases hlt : i < M
            · have hiR : i < R.length := by rw [hRl]; exact hlt
              have hcell : w5.cell? ⟨gb, i, none⟩ = some (.int .u8 ((R[i].toNat : Nat) : Int)) := byteLies HR.out hiR
              by_cases h0 : R[i] = 0
              · have HZ2 := Lib.hid (show R.take (i + 1) = List.replicate (i + 1) 0 by rw [List.take_succ_eq_append_getElem hiR, HZ.out, h0, List.replicate_succ'])
                rw [h0] at hcell
                have hcell : w5.cell? ⟨gb, i, none⟩ = some (.int .u8 0) := hcell
                clear HZ h0
                go_wp2_with fail
                go_round
                case rel => exact ⟨i + 1, by omega, by go_num, HZ2⟩
                case measure => simp [intOf]; omega
              · have hd : (0 : Int) < ((R[i].toNat : Nat) : Int) := by
                  have h1 : R[i].toNat ≠ 0 := fun e => h0 (UInt8.toNat_inj.1 e)
                  omega
                obtain ⟨hin, hiN⟩ : i = N - l.length + B58.zeros l ∧ i < N := by
                  have hz := HZ.out
                  have hR := HRR.out
                  have hE := HEN.out
                  subst hR
                  have := B58.fin_first hiR hz h0
                  rw [← hE] at this
                  exact this
                obtain ⟨st, hst⟩ : ∃ st, st = i - zc := ⟨_, rfl⟩
                have hst2 : st = N - l.length := by rw [hst, hin, Hzc.out]; omega
                have hzi : (zc : Int) ≤ (i : Int) := by rw [hin, Hzc.out]; omega
                have hz1 : (zc : Int) ≤ 3001 := by have h1 := Hzc.out; have h2 := B58.zeros_enc l; have h3 := HEN.out; omega
                obtain ⟨_, hbs⟩ := slice_mid HR.out hRl (show st ≤ N by omega) hNM (show st < M by omega) (by omega)
                have HX := Lib.hid (show Bs w5 w5.heap.size (.slice (some ⟨gb, i - zc, none⟩) (N - (i - zc)) (M - (i - zc))) l by
                  have e : (R.drop st).take (N - st) = l := by
                    rw [HRR.out, hst2, HEN.out, show (B58.enc l).length - ((B58.enc l).length - l.length) = l.length by have h1 := HEN.out; have h2 := HLN.out; omega]
                    exact B58.fin_back l _
                  rw [e] at hbs
                  rw [← hst]
                  exact hbs)
                have hiM : (i : Int) - (zc : Int) ≤ (N : Int) := by omega
                have hiM2 : (i : Int) - (zc : Int) < (M : Int) := by omega
                generalize R[i].toNat = d at *
                clear hbs hin hst hst2 HZ h0
                go_wp2_with fail
                all_goals
                  go_ret2
                  exact ⟨_, rfl, HX.out, HB5.out⟩
            · obtain rfl : i = M := by omega
              have HNl := Lib.hid (show N = l.length by
                have hz := HZ.out
                rw [← hRl, List.take_length, hRl, HRR.out] at hz
                rw [HEN.out]
                exact B58.fin_none (r := i - N) (by rw [← HEN.out] at hz ⊢; rw [hz]; congr 1; omega))
              have HX := Lib.hid (show Bs w5 w5.heap.size (.slice (some ⟨gb, 0, none⟩) N i) l by
                have h := (Bs.ofRowBlk hRl HR.out (by rw [hRl]; omega)).front (k := N) (by rw [hRl]; exact hNM)
                have e : R.take N = l := by
                  have h2 := B58.fin_back l (i - N)
                  have h3 := HEN.out
                  rw [← h3] at h2
                  rw [← HNl.out, Nat.sub_self, List.drop_zero] at h2
                  rw [HRR.out, ← h3]
                  exact h2
                rw [e] at h
                exact h)
              clear HZ hlt
              go_wp2_with fail
              go_ret2
              exact ⟨_, rfl, HX.out, HB5.out⟩
end
end Go.Proofs.YteodhonipbdplaaGreatDoor

/- The reference's PeerBase32 and PeerCid. -/
import Derived.Test.YteodhonipbdplaaGreatDoorMc01
import Derived.Test.YteodhonipbdplaaGreatDoorMc04
import Derived.Test.YteodhonipbdplaaGreatDoorMc07
import Derived.Test.YteodhonipbdplaaGreatDoorMc08
import Derived.Test.YteodhonipbdplaaGreatDoorMc11
import Derived.Deep.CutBlock
import Derived.Deep.DeepCutAuto
import Derived.Deep.RegionHeld3
import Derived.Deep.MidRow
import Derived.Laws.Rows
namespace Go.Proofs.YteodhonipbdplaaGreatDoor
open Go.RowKit
set_option maxRecDepth 100000
namespace B32
theorem letterCut {k : Nat} (hk : k < 32) : (strOf alpha).extract k (k + 1) = strOf [letter alpha k] := by
  rw [strOf_extract]
  congr 1
  unfold letter
  have h' : k < alpha.length := hk
  rw [List.take_succ_eq_append_getElem h', List.drop_left' (by simp; omega), List.getD_eq_getElem?_getD, List.getElem?_eq_getElem h']
  rfl
theorem or64 {a b : Nat} (ha : a < 2 ^ 62) (hb : b < 2 ^ 62) : bits .or .i64 (a : Int) (b : Int) = ((a ||| b : Nat) : Int) := by
  show IntKind.i64.wrap ((BitVec.ofInt 64 (a : Int) ||| BitVec.ofInt 64 (b : Int)).toNat : Int) = _
  have h1 : (BitVec.ofInt 64 (a : Int)).toNat = a := by rw [BitVec.toNat_ofInt]; omega
  have h2 : (BitVec.ofInt 64 (b : Int)).toNat = b := by rw [BitVec.toNat_ofInt]; omega
  have h3 : a ||| b < 2 ^ 62 := Nat.or_lt_two_pow (by omega) (by omega)
  rw [BitVec.toNat_or, h1, h2, IntKind.wrap_i64]
  omega
theorem holdOr {h c : Nat} (hh : h ≤ 15) (hc : c ≤ 255) : bits .or .i64 ((h : Int) * 256) (c : Int) = ((h * 256 + c : Nat) : Int) := by
  have e := or64 (a := h * 256) (b := c) (by omega) (by omega)
  rw [show ((h * 256 : Nat) : Int) = (h : Int) * 256 by omega] at e
  rw [e, Nat.or_comm, show h * 256 = 2 ^ 8 * h by omega, Nat.or_comm, ← Nat.two_pow_add_eq_or_of_lt (show c < 2 ^ 8 by omega)]
theorem and64 {a b : Nat} (ha : a < 2 ^ 62) (hb : b < 2 ^ 62) : bits .and .i64 (a : Int) (b : Int) = ((a &&& b : Nat) : Int) := by
  show IntKind.i64.wrap ((BitVec.ofInt 64 (a : Int) &&& BitVec.ofInt 64 (b : Int)).toNat : Int) = _
  have h1 : (BitVec.ofInt 64 (a : Int)).toNat = a := by rw [BitVec.toNat_ofInt]; omega
  have h2 : (BitVec.ofInt 64 (b : Int)).toNat = b := by rw [BitVec.toNat_ofInt]; omega
  have h3 : a &&& b ≤ a := Nat.and_le_left
  rw [BitVec.toNat_and, h1, h2, IntKind.wrap_i64]
  omega
theorem andLow {a : Nat} {x y : Int} (i : Nat) (hi : i < 60) (ha : a < 2 ^ 62) (hx : x = (a : Int)) (hy : y = ((2 ^ i - 1 : Nat) : Int)) : bits .and .i64 x y = ((a % 2 ^ i : Nat) : Int) := by
  subst hx hy
  have h1 : 2 ^ i < 2 ^ 62 := Nat.pow_lt_pow_right (by omega) (by omega)
  rw [and64 ha (by omega), Nat.and_two_pow_sub_one_eq_mod]
/-- what stands written and what is to come -/
def Wr (l : List UInt8) (s : ByteArray) (rest : List Nat) : Prop := ∃ P : List Nat, s = strOf (P.map (letter alpha)) ∧ feed 0 0 l = P ++ rest
theorem Wr.next {l : List UInt8} {s : ByteArray} {k : Nat} {r : List Nat} (h : Wr l s (k :: r)) (hk : k < 32) : Wr l (s ++ (strOf alpha).extract k (k + 1)) r := by
  obtain ⟨P, rfl, e⟩ := h
  refine ⟨P ++ [k], ?_, by rw [e]; simp⟩
  rw [letterCut hk, List.map_append, strOf_append]
  rfl
end B32
section
variable {w : World} {v : Value} {l : List UInt8}
set_option maxHeartbeats 8000000 in
theorem peerBase32 (h : Bs w w.heap.size v l) (hlen : l.length ≤ 1000) :
    Calls Tryz.prog 14 #[v] w fun e w' => e = .returned (.string (strOf (B32.enc B32.alpha l))) ∧ w = w' := by
  obtain ⟨A, n, c, rfl, hn, hc, hm⟩ := h.form'
  have H := Lib.hid h
  have hn6 : n ≤ 1000 := by rw [hn.out]; exact hlen
  clear h hlen
  obtain ⟨AL, hAL⟩ : ∃ S, S = strOf B32.alpha := ⟨_, rfl⟩
  have HAL := Lib.hid hAL
  have hALs : AL.size = 32 := by rw [hAL, strOf_size]; rfl
  clear hAL
  go_enter Tryz.func14, Tryz.ntmps14
  go_wp2_with fail
  go_loop [3, 4, 5, 12] (fun s3 s4 s5 s12 => ∃ (k h b : Nat) (s : ByteArray), k ≤ n ∧ s12 = .int .i64 (k : Int) ∧ s4 = .int .i64 (h : Int) ∧ s5 = .int .i64 (b : Int) ∧ s3 = .string s ∧ h ≤ 15 ∧ b < 5 ∧ s.size ≤ 2 * k ∧ Hid (B32.Wr l s (B32.feed h b (l.drop k)))) (fun _ _ _ s12 => n - (intOf s12).toNat)
  case atStart => exact ⟨0, 0, 0, { data := #[] }, Nat.zero_le _, rfl, rfl, rfl, rfl, by omega, by omega, by decide, Lib.hid ⟨[], rfl, rfl⟩⟩
  case round =>
    obtain ⟨k, h, b, s, hk, rfl, rfl, rfl, rfl, hh, hb5, hsz, HW⟩ := hrel
    by_cases hlt : k < n
    · have hkl : k < l.length := by rw [← hn.out]; exact hlt
      obtain ⟨g, o, rfl, hcell, _⟩ := H.out.at' hkl
      have hd := UInt8.toNat_lt l[k]
      have HF := Lib.hid (show B32.Wr l s (B32.emit (h * 256 + l[k].toNat) (b + 8) ++ B32.feed ((h * 256 + l[k].toNat) % 2 ^ B32.left (b + 8)) (B32.left (b + 8)) (l.drop (k + 1))) by
        have := HW.out
        rw [List.drop_eq_getElem_cons hkl, B32.feed] at this
        exact this)
      clear HW
      generalize l[k].toNat = d at *
      have hd255 : d ≤ 255 := by omega
      have hor := B32.holdOr hh hd255
      obtain ⟨G, hG⟩ : ∃ G, G = h * 256 + d := ⟨_, rfl⟩
      rw [← hG] at HF hor
      have hG1 : G ≤ 4095 := by omega
      clear hG hd
      go_wp2_with fail
      go_loop [3, 5] (fun s3 s5 => ∃ (b2 : Nat) (s : ByteArray), s3 = .string s ∧ s5 = .int .i64 (b2 : Int) ∧ b2 ≤ b + 8 ∧ Hid (b2 % 5 = (b + 8) % 5) ∧ s.size + b2 / 5 ≤ 2 * k + 2 ∧ Hid (B32.Wr l s (B32.emit G b2 ++ B32.feed (G % 2 ^ B32.left (b + 8)) (B32.left (b + 8)) (l.drop (k + 1))))) (fun _ s5 => (intOf s5).toNat)
      case atStart => exact ⟨b + 8, s, rfl, by first | rfl | (congr 1; omega) | (congr 2; omega), by omega, Lib.hid rfl, by omega, HF⟩
      case round =>
        clear hsz HF
        obtain ⟨b2, s, rfl, rfl, hb2, Hb2, hsz, HW⟩ := hrel
        have hs3000 : s.size ≤ 3000 := by omega
        by_cases hge : 5 ≤ b2
        · obtain ⟨j, rfl⟩ : ∃ j, b2 = j + 5 := ⟨b2 - 5, by omega⟩
          have hj : j ≤ 7 := by omega
          obtain ⟨q, hq⟩ : ∃ q, q = G / 2 ^ j % 32 := ⟨_, rfl⟩
          have HW2 := Lib.hid (show B32.Wr l (s ++ (strOf B32.alpha).extract q (q + 1)) (B32.emit G j ++ B32.feed (G % 2 ^ B32.left (b + 8)) (B32.left (b + 8)) (l.drop (k + 1))) by
            have h1 := HW.out
            rw [B32.emit_ge (by omega), Nat.add_sub_cancel, ← hq] at h1
            exact B32.Wr.next h1 (by omega))
          have Hq := Lib.hid hq
          have hq32 : q < 32 := by omega
          have hsz2 : (s ++ (strOf B32.alpha).extract q (q + 1)).size + j / 5 ≤ 2 * k + 2 := by
            rw [ByteArray.size_append, ByteArray.size_extract]; omega
          have HWl := HW
          clear hq HW hge
          rcases (by omega : j = 0 ∨ j = 1 ∨ j = 2 ∨ j = 3 ∨ j = 4 ∨ j = 5 ∨ j = 6 ∨ j = 7) with rfl | rfl | rfl | rfl | rfl | rfl | rfl | rfl
          · have qe : bits .and .i64 (G : Int) 31 = (q : Int) := by rw [Hq.out]; exact B32.andLow (a := G / 2 ^ 0) 5 (by omega) (by omega) (by omega) (by decide)
            go_wp2_with fail
            go_round
            case rel => exact ⟨0, _, rfl, rfl, by omega, Lib.hid (by have := Hb2.out; omega), hsz2, HW2⟩
            case measure => simp [intOf] <;> omega
          · have qe : bits .and .i64 ((G : Int) / 2) 31 = (q : Int) := by rw [Hq.out]; exact B32.andLow (a := G / 2 ^ 1) 5 (by omega) (by omega) (by omega) (by decide)
            go_wp2_with fail
            go_round
            case rel => exact ⟨1, _, rfl, rfl, by omega, Lib.hid (by have := Hb2.out; omega), hsz2, HW2⟩
            case measure => simp [intOf] <;> omega
          · have qe : bits .and .i64 ((G : Int) / 4) 31 = (q : Int) := by rw [Hq.out]; exact B32.andLow (a := G / 2 ^ 2) 5 (by omega) (by omega) (by omega) (by decide)
            go_wp2_with fail
            go_round
            case rel => exact ⟨2, _, rfl, rfl, by omega, Lib.hid (by have := Hb2.out; omega), hsz2, HW2⟩
            case measure => simp [intOf] <;> omega
          · have qe : bits .and .i64 ((G : Int) / 8) 31 = (q : Int) := by rw [Hq.out]; exact B32.andLow (a := G / 2 ^ 3) 5 (by omega) (by omega) (by omega) (by decide)
            go_wp2_with fail
            go_round
            case rel => exact ⟨3, _, rfl, rfl, by omega, Lib.hid (by have := Hb2.out; omega), hsz2, HW2⟩
            case measure => simp [intOf] <;> omega
          · have qe : bits .and .i64 ((G : Int) / 16) 31 = (q : Int) := by rw [Hq.out]; exact B32.andLow (a := G / 2 ^ 4) 5 (by omega) (by omega) (by omega) (by decide)
            go_wp2_with fail
            go_round
            case rel => exact ⟨4, _, rfl, rfl, by omega, Lib.hid (by have := Hb2.out; omega), hsz2, HW2⟩
            case measure => simp [intOf] <;> omega
          · have qe : bits .and .i64 ((G : Int) / 32) 31 = (q : Int) := by rw [Hq.out]; exact B32.andLow (a := G / 2 ^ 5) 5 (by omega) (by omega) (by omega) (by decide)
            go_wp2_with fail
            go_round
            case rel => exact ⟨5, _, rfl, rfl, by omega, Lib.hid (by have := Hb2.out; omega), hsz2, HW2⟩
            case measure => simp [intOf] <;> omega
          · have qe : bits .and .i64 ((G : Int) / 64) 31 = (q : Int) := by rw [Hq.out]; exact B32.andLow (a := G / 2 ^ 6) 5 (by omega) (by omega) (by omega) (by decide)
            go_wp2_with fail
            go_round
            case rel => exact ⟨6, _, rfl, rfl, by omega, Lib.hid (by have := Hb2.out; omega), hsz2, HW2⟩
            case measure => simp [intOf] <;> omega
          · have qe : bits .and .i64 ((G : Int) / 128) 31 = (q : Int) := by rw [Hq.out]; exact B32.andLow (a := G / 2 ^ 7) 5 (by omega) (by omega) (by omega) (by decide)
            go_wp2_with fail
            go_round
            case rel => exact ⟨7, _, rfl, rfl, by omega, Lib.hid (by have := Hb2.out; omega), hsz2, HW2⟩
            case measure => simp [intOf] <;> omega
        · have HW2 := Lib.hid (show B32.Wr l s (B32.feed (G % 2 ^ B32.left (b + 8)) (B32.left (b + 8)) (l.drop (k + 1))) by
            have h1 := HW.out
            rw [B32.emit_lt (by omega)] at h1
            exact h1)
          have Hl := Lib.hid (show B32.left (b + 8) = b2 by unfold B32.left; have := Hb2.out; omega)
          clear HW
          obtain ⟨r, hr⟩ : ∃ r, r = G % 2 ^ b2 := ⟨_, rfl⟩
          have HW3 := Lib.hid (show B32.Wr l s (B32.feed r b2 (l.drop (k + 1))) by have := HW2.out; rw [Hl.out, ← hr] at this; exact this)
          have hr15 : r ≤ 15 := by
            have h1 : G % 2 ^ b2 < 2 ^ b2 := Nat.mod_lt _ (Nat.two_pow_pos _)
            have h2 : 2 ^ b2 ≤ 2 ^ 4 := Nat.pow_le_pow_right (by omega) (by omega)
            omega
          have Hr := Lib.hid hr
          have hk1 : k + 1 ≤ n := by omega
          clear hr HW2 Hl
          rcases (by omega : b2 = 0 ∨ b2 = 1 ∨ b2 = 2 ∨ b2 = 3 ∨ b2 = 4) with rfl | rfl | rfl | rfl | rfl
          · have qe : bits .and .i64 (G : Int) 0 = (r : Int) := by rw [Hr.out]; exact B32.andLow (a := G) 0 (by omega) (by omega) rfl (by decide)
            go_wp2_with fail
            exact ⟨⟨k + 1, r, 0, s, hk1, by first | rfl | go_num, rfl, rfl, rfl, hr15, by omega, by omega, HW3⟩, by simp [intOf]; omega⟩
          · have qe : bits .and .i64 (G : Int) 1 = (r : Int) := by rw [Hr.out]; exact B32.andLow (a := G) 1 (by omega) (by omega) rfl (by decide)
            go_wp2_with fail
            exact ⟨⟨k + 1, r, 1, s, hk1, by first | rfl | go_num, rfl, rfl, rfl, hr15, by omega, by omega, HW3⟩, by simp [intOf]; omega⟩
          · have qe : bits .and .i64 (G : Int) 3 = (r : Int) := by rw [Hr.out]; exact B32.andLow (a := G) 2 (by omega) (by omega) rfl (by decide)
            go_wp2_with fail
            exact ⟨⟨k + 1, r, 2, s, hk1, by first | rfl | go_num, rfl, rfl, rfl, hr15, by omega, by omega, HW3⟩, by simp [intOf]; omega⟩
          · have qe : bits .and .i64 (G : Int) 7 = (r : Int) := by rw [Hr.out]; exact B32.andLow (a := G) 3 (by omega) (by omega) rfl (by decide)
            go_wp2_with fail
            exact ⟨⟨k + 1, r, 3, s, hk1, by first | rfl | go_num, rfl, rfl, rfl, hr15, by omega, by omega, HW3⟩, by simp [intOf]; omega⟩
          · have qe : bits .and .i64 (G : Int) 15 = (r : Int) := by rw [Hr.out]; exact B32.andLow (a := G) 4 (by omega) (by omega) rfl (by decide)
            go_wp2_with fail
            exact ⟨⟨k + 1, r, 4, s, hk1, by first | rfl | go_num, rfl, rfl, rfl, hr15, by omega, by omega, HW3⟩, by simp [intOf]; omega⟩
    · obtain rfl : k = n := by omega
      have HW0 := Lib.hid (show B32.Wr l s (if b = 0 then [] else [h * 2 ^ (5 - b) % 32]) by have := HW.out; rw [hn.out, List.drop_length, B32.feed] at this; exact this)
      clear HW
      have hs3000 : s.size ≤ 3000 := by omega
      by_cases hb0 : b = 0
      · subst hb0
        have HE := Lib.hid (show s = strOf (B32.enc B32.alpha l) by
          obtain ⟨P, h1, h2⟩ := HW0.out
          rw [if_pos rfl, List.append_nil] at h2
          rw [B32.enc, h2, h1])
        clear HW0
        go_wp2_with fail
        go_ret
        exact ⟨by rw [← HE.out]; rfl, rfl⟩
      · obtain ⟨q, hq⟩ : ∃ q, q = h * 2 ^ (5 - b) % 32 := ⟨_, rfl⟩
        have hq32 : q < 32 := by omega
        have Hq := Lib.hid hq
        have HE := Lib.hid (show s ++ (strOf B32.alpha).extract q (q + 1) = strOf (B32.enc B32.alpha l) by
          have h0 := HW0.out
          rw [if_neg hb0, ← hq] at h0
          obtain ⟨P, h1, h2⟩ := B32.Wr.next h0 hq32
          rw [List.append_nil] at h2
          rw [B32.enc, h2, h1])
        clear HW0 hq
        rcases (by omega : b = 1 ∨ b = 2 ∨ b = 3 ∨ b = 4) with rfl | rfl | rfl | rfl
        · have qe : bits .and .i64 ((h : Int) * 16) 31 = (q : Int) := by rw [Hq.out]; exact B32.andLow (a := h * 2 ^ (5 - 1)) 5 (by omega) (by omega) (by omega) (by decide)
          go_wp2_with fail
          go_ret
          exact ⟨by rw [← HE.out]; rfl, rfl⟩
        · have qe : bits .and .i64 ((h : Int) * 8) 31 = (q : Int) := by rw [Hq.out]; exact B32.andLow (a := h * 2 ^ (5 - 2)) 5 (by omega) (by omega) (by omega) (by decide)
          go_wp2_with fail
          go_ret
          exact ⟨by rw [← HE.out]; rfl, rfl⟩
        · have qe : bits .and .i64 ((h : Int) * 4) 31 = (q : Int) := by rw [Hq.out]; exact B32.andLow (a := h * 2 ^ (5 - 3)) 5 (by omega) (by omega) (by omega) (by decide)
          go_wp2_with fail
          go_ret
          exact ⟨by rw [← HE.out]; rfl, rfl⟩
        · have qe : bits .and .i64 ((h : Int) * 2) 31 = (q : Int) := by rw [Hq.out]; exact B32.andLow (a := h * 2 ^ (5 - 4)) 5 (by omega) (by omega) (by omega) (by decide)
          go_wp2_with fail
          go_ret
          exact ⟨by rw [← HE.out]; rfl, rfl⟩
set_option maxHeartbeats 1000000 in
theorem refCid (h : Bs w w.heap.size v l) (hlen : l.length ≤ 1000) :
    Calls Tryz.prog 12 #[v] w fun e w' => Fresh w (1 :: 114 :: l) e w' := by
  have HB := Lib.hid h
  have hlen2 := Lib.hid (show ([1, 114] : List UInt8).length + l.length ≤ 140737488355328 by simp; omega)
  have HO := Lib.hid (Own.lits w w.heap.size (Nat.le_refl _) #[.int .u8 1, .int .u8 114] [1, 114] (by simp [bvs, bv]) (by simp) w.heap.size 2 rfl rfl)
  clear h hlen
  go_enter Tryz.func12, Tryz.ntmps12
  go_wp2_with ((at_builtin; refine wpList_app rfl _ _ rfl (by rfl) (by rfl) HO.out (HB.out.alloc (Nat.le_refl _) _) hlen2.out (by simp) ?_; intro v' w3 ho hg hnn hmv; have HO2 := Lib.hid ho; have HB2 := Lib.hid ((below_alloc w (.cells #[.int .u8 1, .int .u8 114] 5)).trans (below_of_own HO.out hg (by simp))); clear ho hg hnn hmv))
  go_ret
  exact ⟨_, rfl, HO2.out, HB2.out⟩
end
end Go.Proofs.YteodhonipbdplaaGreatDoor

/- A byte of a row of bytes. -/
namespace Go.Proofs.YteodhonipbdplaaGreatDoor
open Go.RowKit
set_option maxRecDepth 100000
theorem byteSet {w : World} {g k n : Nat} {t : TypeId} {L : List UInt8} (h : Blk w g t (bvs L).toArray) {x : Int} (hx : x = ((n % 256 : Nat) : Int)) : Blk (w.setCell ⟨g, k, none⟩ (.int .u8 x)) g t (bvs (L.set k (UInt8.ofNat n))).toArray := by
  subst hx
  have h1 := h.set k (.int .u8 ((n % 256 : Nat) : Int))
  have e : (bvs L).set k (.int .u8 ((n % 256 : Nat) : Int)) = bvs (L.set k (UInt8.ofNat n)) := by
    unfold bvs
    rw [List.map_set]
    rfl
  rw [List.setIfInBounds_toArray, e] at h1
  exact h1
theorem byteLies {w : World} {g k : Nat} {t : TypeId} {L : List UInt8} (h : Blk w g t (bvs L).toArray) (hk : k < L.length) : w.cell? ⟨g, k, none⟩ = some (bv L[k]) := by
  rw [h.cell k]
  have := bvs_get L k hk
  simpa using this
end Go.Proofs.YteodhonipbdplaaGreatDoor

/- base 32: the encoding's block: NewEncodingCI, WithPadding. -/
namespace Go.Proofs.YteodhonipbdplaaGreatDoor
open Go.RowKit
set_option maxRecDepth 100000
/-- an encoding: its letters, a map of 256 bytes, its padding -/
def Enc32 (w : World) (g : Nat) (A : List UInt8) (M : List UInt8) (p : Int) : Prop := M.length = 256 ∧ Blk w g 153 (#[.string (strOf A)] ++ (bvs M).toArray ++ #[.int .i32 p])
theorem zeroEnc : Tryz.zeroCells153 = (#[.string { data := #[] }] ++ (bvs (List.replicate 256 0)).toArray ++ #[.int .i32 0]) := by kernel_rfl
section
variable {w : World} {g : Nat} {A M : List UInt8} {p : Int}
theorem enc_cells (s : Value) (M : List UInt8) (q : Value) : (#[s] ++ (bvs M).toArray ++ #[q] : Array Value) = (s :: (bvs M ++ [q])).toArray := by simp
theorem Enc32.str (h : Enc32 w g A M p) : w.cell? ⟨g, 0, none⟩ = some (.string (strOf A)) := by
  rw [h.2.cell 0, enc_cells]; rfl
theorem Enc32.pad (h : Enc32 w g A M p) : w.cell? ⟨g, 257, none⟩ = some (.int .i32 p) := by
  rw [h.2.cell 257, enc_cells, List.getElem?_toArray, List.getElem?_cons_succ, List.getElem?_append_right (by rw [bvs_length, h.1]; omega), bvs_length, h.1]; rfl
theorem Enc32.at_ (h : Enc32 w g A M p) {k : Nat} (hk : k < M.length) : w.cell? ⟨g, 1 + k, none⟩ = some (bv M[k]) := by
  rw [h.2.cell (1 + k), enc_cells, List.getElem?_toArray, Nat.add_comm, List.getElem?_cons_succ, List.getElem?_append_left (by rw [bvs_length]; exact hk)]
  exact bvs_get M k hk
theorem Enc32.put (h : Enc32 w g A M p) {k n : Nat} (hk : k < 256) {x : Int} (hx : x = ((n % 256 : Nat) : Int)) : Enc32 (w.setCell ⟨g, 1 + k, none⟩ (.int .u8 x)) g A (M.set k (UInt8.ofNat n)) p := by
  subst hx
  refine ⟨by rw [List.length_set]; exact h.1, ?_⟩
  have h1 := h.2.set (1 + k) (.int .u8 ((n % 256 : Nat) : Int))
  have e : (#[.string (strOf A)] ++ (bvs M).toArray ++ #[.int .i32 p] : Array Value).setIfInBounds (1 + k) (.int .u8 ((n % 256 : Nat) : Int)) = #[.string (strOf A)] ++ (bvs (M.set k (UInt8.ofNat n))).toArray ++ #[.int .i32 p] := by
    rw [enc_cells, enc_cells, List.setIfInBounds_toArray, Nat.add_comm, List.set_cons_succ, List.set_append_left _ _ (by rw [bvs_length, h.1]; exact hk)]
    congr 3
    unfold bvs
    rw [List.map_set]
    rfl
  rw [e] at h1
  exact h1
theorem Enc32.setPad (h : Enc32 w g A M p) (q : Int) : Enc32 (w.setCell ⟨g, 257, none⟩ (.int .i32 q)) g A M q := by
  refine ⟨h.1, ?_⟩
  have h1 := h.2.set 257 (.int .i32 q)
  have e : (#[.string (strOf A)] ++ (bvs M).toArray ++ #[.int .i32 p] : Array Value).setIfInBounds 257 (.int .i32 q) = #[.string (strOf A)] ++ (bvs M).toArray ++ #[.int .i32 q] := by
    rw [enc_cells, enc_cells, List.setIfInBounds_toArray, List.set_cons_succ, List.set_append_right _ _ (by rw [bvs_length, h.1]; omega), bvs_length, h.1]
    rfl
  rw [e] at h1
  exact h1
theorem Enc32.setStr {B : List UInt8} (h : Enc32 w g A M p) : Enc32 (w.setCell ⟨g, 0, none⟩ (.string (strOf B))) g B M p := by
  refine ⟨h.1, ?_⟩
  have h1 := h.2.set 0 (.string (strOf B))
  rw [enc_cells, List.setIfInBounds_toArray, List.set_cons_zero, ← enc_cells] at h1
  exact h1
theorem Enc32.free (h : Enc32 w g A M p) (k : Nat) : w.frozen? ⟨g, k, none⟩ = false := h.2.free k
end
/-- small and great letters -/
def low8 (c : Nat) : Nat := if 65 ≤ c ∧ c ≤ 90 then c + 32 else c
def up8 (c : Nat) : Nat := if 97 ≤ c ∧ c ≤ 122 then c - 32 else c
theorem toLower (w : World) {c : Nat} (hc : c ≤ 255) : Calls Tryz.prog 141 #[.int .u8 (c : Int)] w fun e w' => e = .returned (.int .u8 ((low8 c : Nat) : Int)) ∧ w = w' := by
  by_cases h1 : 65 ≤ c
  · have g1 : (65 : Int) ≤ (c : Int) := by omega
    by_cases h2 : c ≤ 90
    · have g2 : (c : Int) ≤ 90 := by omega
      have E := Lib.hid (show low8 c = c + 32 from by unfold low8; rw [if_pos ⟨h1, h2⟩])
      go_enter Tryz.func141, Tryz.ntmps141
      go_wp2_with fail
      go_ret
      rw [E.out]
      exact ⟨by rw [show ((c + 32 : Nat) : Int) = (c : Int) + 32 by omega]; rfl, rfl⟩
    · have g2 : ¬ (c : Int) ≤ 90 := by omega
      have E := Lib.hid (show low8 c = c from by unfold low8; rw [if_neg (by omega)])
      go_enter Tryz.func141, Tryz.ntmps141
      go_wp2_with fail
      go_ret
      rw [E.out]
      exact ⟨rfl, rfl⟩
  · have g1 : ¬ (65 : Int) ≤ (c : Int) := by omega
    have E := Lib.hid (show low8 c = c from by unfold low8; rw [if_neg (by omega)])
    go_enter Tryz.func141, Tryz.ntmps141
    go_wp2_with fail
    go_ret
    rw [E.out]
    exact ⟨rfl, rfl⟩
theorem toUpper (w : World) {c : Nat} (hc : c ≤ 255) : Calls Tryz.prog 142 #[.int .u8 (c : Int)] w fun e w' => e = .returned (.int .u8 ((up8 c : Nat) : Int)) ∧ w = w' := by
  by_cases h1 : 97 ≤ c
  · have g1 : (97 : Int) ≤ (c : Int) := by omega
    by_cases h2 : c ≤ 122
    · have g2 : (c : Int) ≤ 122 := by omega
      have E := Lib.hid (show up8 c = c - 32 from by unfold up8; rw [if_pos ⟨h1, h2⟩])
      go_enter Tryz.func142, Tryz.ntmps142
      go_wp2_with fail
      go_ret
      rw [E.out]
      exact ⟨by rw [show ((c - 32 : Nat) : Int) = (c : Int) - 32 by omega]; rfl, rfl⟩
    · have g2 : ¬ (c : Int) ≤ 122 := by omega
      have E := Lib.hid (show up8 c = c from by unfold up8; rw [if_neg (by omega)])
      go_enter Tryz.func142, Tryz.ntmps142
      go_wp2_with fail
      go_ret
      rw [E.out]
      exact ⟨rfl, rfl⟩
  · have g1 : ¬ (97 : Int) ≤ (c : Int) := by omega
    have E := Lib.hid (show up8 c = c from by unfold up8; rw [if_neg (by omega)])
    go_enter Tryz.func142, Tryz.ntmps142
    go_wp2_with fail
    go_ret
    rw [E.out]
    exact ⟨rfl, rfl⟩
end Go.Proofs.YteodhonipbdplaaGreatDoor

/- A CID as this program has it: a string; Defined, Bytes, Version, Type. -/
namespace Go.Proofs.YteodhonipbdplaaGreatDoor
open Go.RowKit
set_option maxRecDepth 100000
/-- a CID as a value -/
def cidV (l : List UInt8) : Value := .agg #[.string (strOf l)]
section
variable {w : World} {l m : List UInt8}
theorem strIdx (W : World) (l : List UInt8) (k : Nat) (hk : k < l.length) (t : IntKind) : (Instr.index 9 (.string (strOf l)) (.int t (k : Int))).run Tryz.prog W = .ok (.int .u8 ((l[k]'hk).toNat : Int)) W := by
  have hs : k < (strOf l).size := by rw [strOf_size]; exact hk
  rw [run_index_string W 9 (strOf l) t (k : Int) Tryz.underlying9, dif_pos (by omega)]
  congr 2
theorem strNe (hl : l ≠ []) : ∃ x r, l = x :: r := by
  cases l with
  | nil => exact absurd rfl hl
  | cons x r => exact ⟨x, r, rfl⟩
theorem cidDefined (hl : l ≠ []) :
    Calls Tryz.prog 30 #[.agg #[.string (strOf l)]] w fun e w' => e = .returned (.bool true) ∧ Below w.heap.size w w' := by
  obtain ⟨S, hS⟩ : ∃ S, S = strOf l := ⟨_, rfl⟩
  have hsz : S.size ≠ 0 := by rw [hS, strOf_size]; simpa using hl
  have hE : S.toList.isEmpty = false := by rw [hS, strOf_toList]; cases l with | nil => exact absurd rfl hl | cons x r => rfl
  rw [← hS]
  have HE := Lib.hid hE
  clear hS hE
  go_enter Tryz.func30, Tryz.ntmps30
  go_wp2_with fail
  go_ret
  refine ⟨?_, below_alloc w _⟩
  show Ending.returned (.bool (!S.toList.isEmpty)) = _
  rw [HE.out]
  rfl
theorem cidVersion (x : UInt8) (hx : x.toNat ≠ 18) :
    Calls Tryz.prog 55 #[.agg #[.string (strOf (x :: l))]] w fun e w' => e = .returned (.int .u64 1) ∧ Below w.heap.size w w' := by
  have h0 := fun W => strIdx W (x :: l) 0 (by simp) .i64
  have hx0 : ((x.toNat : Int) == 18) = false := by simp; omega
  obtain ⟨S, hS⟩ : ∃ S, S = strOf (x :: l) := ⟨_, rfl⟩
  rw [← hS] at h0 ⊢
  have h0' : ∀ W : World, (Instr.index 9 (.string S) (.int .i64 0)).run Tryz.prog W = .ok (.int .u8 (x.toNat : Int)) W := h0
  have B := Lib.hid (below_alloc w (.cells #[.string S] 41))
  clear hS h0
  go_enter Tryz.func55, Tryz.ntmps55
  go_wp2_with fail
  all_goals
    go_ret
    exact ⟨rfl, B.out⟩
/-- the first number of a text, below 128 -/
theorem cidUv (x : UInt8) (hx0 : 0 < x.toNat) (hx : x.toNat < 128) :
    Calls Tryz.prog 76 #[.string (strOf (x :: l))] w fun e w' => e = .returned (.tuple #[.int .u64 (x.toNat : Int), .int .i64 1, .nilIface]) ∧ w = w' := by
  have h0 := fun W => strIdx W (x :: l) 0 (by simp) .i64
  have hsz : (0 : Int) < ((strOf (x :: l)).size : Int) := by rw [strOf_size]; simp
  obtain ⟨S, hS⟩ : ∃ S, S = strOf (x :: l) := ⟨_, rfl⟩
  obtain ⟨k, hk⟩ : ∃ k : Nat, k = x.toNat := ⟨_, rfl⟩
  rw [← hS] at h0 hsz ⊢
  have h0' : ∀ W : World, (Instr.index 9 (.string S) (.int .i64 0)).run Tryz.prog W = .ok (.int .u8 (k : Int)) W := by rw [hk]; exact h0
  rw [← hk] at hx0 hx ⊢
  have hk1 : (k : Int) < 128 := by omega
  have hk2 : ¬ (k : Int) = 0 := by omega
  have hor : bits .or .u64 0 (k : Int) = (k : Int) := by
    have := uv_or (acc := 0) (d := k) (k := 0) (sl := 0) (by simp) (by omega) hx rfl
    simp [IntKind.wrap_u64] at this
    rw [show (k : Int) % 18446744073709551616 = k by omega] at this
    exact this
  clear hS h0 hk hx0 hx
  go_enter Tryz.func76, Tryz.ntmps76
  go_wp2_with fail
  go_loop [5, 6, 7, 8] (fun s5 s6 s7 s8 => s5 = .int .u64 0 ∧ s6 = .int .u64 0 ∧ s7 = .int .i64 0) (fun _ _ _ _ => 0)
  case atStart => exact ⟨rfl, rfl, rfl⟩
  case round =>
    obtain ⟨rfl, rfl, rfl⟩ := hrel
    go_wp2_with fail
    go_ret3
    exact ⟨rfl, rfl⟩
theorem cidBytes (hl : l ≠ []) (hlen : l.length ≤ 100000) :
    Calls Tryz.prog 31 #[.agg #[.string (strOf l)]] w fun e w' => ∃ gb c, e = .returned (.slice (some ⟨gb, 0, none⟩) l.length c) ∧ Hid (Bs w' w'.heap.size (.slice (some ⟨gb, 0, none⟩) l.length c) l) ∧ Below w.heap.size w w' ∧ l.length ≤ c := by
  have B := Lib.hid (below_alloc w (.cells #[.string (strOf l)] 41))
  have HD := Lib.hid (fun W => cidDefined (w := W) hl)
  have HC := Lib.hid (fun W => conv_bytes W l (by omega) (src := 9) Tryz.underlying9)
  have K := Lib.hid (Blk.new w 41 #[.string (strOf l)])
  obtain ⟨S, hS⟩ : ∃ S, S = strOf l := ⟨_, rfl⟩
  rw [← hS] at HD HC K B ⊢
  clear hS hlen hl
  go_enter Tryz.func31, Tryz.ntmps31
  go_wp2_with fail
  refine (HD.out _).mono ?_
  rintro e w1 ⟨rfl, hb⟩
  have B1 := Lib.hid (below_trans B.out hb)
  have c0 : w1.cell? ⟨w.heap.size, 0, none⟩ = some (.string S) := (K.out.step hb).cell 0
  obtain ⟨w2, c, hr, hbs, hbl, hc, _⟩ := HC.out w1
  have B2 := Lib.hid (below_trans B1.out hbl)
  have HB := Lib.hid hbs
  clear hb hbl hbs
  go_wp2_with fail
  go_ret
  exact ⟨_, c, rfl, HB, B2.out, hc⟩
end
end Go.Proofs.YteodhonipbdplaaGreatDoor

/- base 32: NewEncodingCI. -/
namespace Go.Proofs.YteodhonipbdplaaGreatDoor
open Go.RowKit
set_option maxRecDepth 100000
/-- the map's bytes, with k letters laid in -/
def mapK (A : List UInt8) : Nat → List UInt8
  | 0 => List.replicate 256 255
  | k + 1 => ((mapK A k).set (low8 (A.getD k 0).toNat) (UInt8.ofNat k)).set (up8 (A.getD k 0).toNat) (UInt8.ofNat k)
def mapZ (j : Nat) : List UInt8 := List.replicate j 255 ++ List.replicate (256 - j) 0
theorem mapZ_next {j : Nat} (h : j < 256) : (mapZ j).set j (UInt8.ofNat 255) = mapZ (j + 1) := by
  unfold mapZ
  rw [List.set_append_right _ _ (by simp), List.length_replicate, Nat.sub_self]
  obtain ⟨m, hm⟩ : ∃ m, 256 - j = m + 1 := ⟨255 - j, by omega⟩
  rw [hm, show 256 - (j + 1) = m by omega, List.replicate_succ, List.set_cons_zero, List.replicate_succ', List.append_assoc]
  rfl
theorem low8_le {c : Nat} (h : c ≤ 255) : low8 c ≤ 255 := by unfold low8; split <;> omega
theorem up8_le {c : Nat} (h : c ≤ 255) : up8 c ≤ 255 := by unfold up8; split <;> omega
section
variable {w : World} {A : List UInt8}
set_option maxHeartbeats 4000000 in
theorem newEnc (hA : A.length = 32) :
    Calls Tryz.prog 115 #[.string (strOf A)] w fun e w' => e = .returned (.pointer (some ⟨w.heap.size, 0, none⟩)) ∧ Enc32 w' w.heap.size A (mapK A 32) 61 ∧ Below w.heap.size w w' := by
  have HI := Lib.hid (fun (W : World) (k : Nat) (hk : k < A.length) => strIdx W A k hk .i64)
  have HA := Lib.hid hA
  obtain ⟨g, hg⟩ : ∃ g, g = w.heap.size := ⟨_, rfl⟩
  have K0 := Lib.hid (show Enc32 (w.alloc (.cells Tryz.zeroCells153 153)) g [] (mapZ 0) 0 from ⟨by simp [mapZ], by rw [hg, zeroEnc]; exact Blk.new _ _ _⟩)
  have B0 := Lib.hid (below_alloc w (.cells Tryz.zeroCells153 153))
  rw [← hg]
  have Hg := Lib.hid hg
  clear hA hg
  go_enter Tryz.func115, Tryz.ntmps115
  go_upto_region 2 with fail
  rw [← Hg.out]
  generalize w.alloc (.cells Tryz.zeroCells153 153) = w1 at *
  have c0 := K0.out.str
  have c1 := K0.out.pad
  have f0 := K0.out.free 0
  have f1 := K0.out.free 257
  have K1 := Lib.hid (K0.out.setPad 61)
  have K2 := Lib.hid (K1.out.setStr (B := A))
  have G2 := Lib.hid (grown_setCell (grown_setCell (grown_refl w1 (some g)) (p := ⟨g, 257, none⟩) (.inl rfl) (.int .i32 61)) (p := ⟨g, 0, none⟩) (.inl rfl) (.string (strOf A)))
  have B2 := Lib.hid (below_grown B0.out G2.out (fun k e => by injection e with e; have := Hg.out; omega))
  obtain ⟨S, hS⟩ : ∃ S, S = strOf A := ⟨_, rfl⟩
  have hSs : S.size = 32 := by rw [hS, strOf_size]; exact HA.out
  rw [← hS] at HI K2 B2 G2 ⊢
  go_upto_block 0 with fail
  rw [← hS]
  have HS := Lib.hid hS
  clear c0 c1 f0 f1 K0 K1 B0 G2 hS
  generalize (w1.setCell ⟨g, 257, none⟩ (.int .i32 61)).setCell ⟨g, 0, none⟩ (.string S) = w2 at *
  go_cut [4] (fun _ wx => Hid (Enc32 wx g A (mapZ 256) 61) ∧ Hid (Below w.heap.size w wx))
  case first =>
    go_wp2_with fail
    go_loopw [4, 14, 15, 16, 17, 18, 19, 20, 21, 22] (fun s4 _ _ _ _ _ _ _ _ _ wr => ∃ j : Nat, j ≤ 256 ∧ s4 = .int .i64 (j : Int) ∧ Hid (Enc32 wr g A (mapZ j) 61) ∧ Hid (Below w.heap.size w wr)) (fun s4 _ _ _ _ _ _ _ _ _ _ => 256 - (intOf s4).toNat)
    case atStart => exact ⟨0, by omega, rfl, K2, B2⟩
    case round =>
      clear K2 B2
      obtain ⟨j, hj, rfl, K, B⟩ := hrel
      by_cases h256 : j < 256
      · have j1 : (j : Int) < 256 := by omega
        have cj := K.out.at_ (k := j) (by rw [K.out.1]; exact h256)
        have fj := K.out.free (1 + j)
        go_wp2_with fail
        have K2 := Lib.hid (K.out.put (k := j) (n := 255) h256 (x := 255) rfl)
        rw [mapZ_next h256] at K2
        have B2 := Lib.hid (below_grown B.out (grown_setCell (grown_refl wr (some g)) (p := ⟨g, 1 + j, none⟩) (.inl rfl) (.int .u8 255)) (fun k e => by injection e with e; have := Hg.out; omega))
        exact ⟨⟨j + 1, by omega, rfl, K2, B2⟩, by simp [intOf]; omega⟩
      · obtain rfl : j = 256 := by omega
        go_wp2_with fail
        go_meet
        exact ⟨K, B⟩
  case rest =>
    clear K2 B2
    obtain ⟨K, B⟩ := hcut
    obtain ⟨w3, rfl⟩ : ∃ x : World, x = wc := ⟨_, rfl⟩
    go_upto_block 2 with fail
    have K0 := Lib.hid (show Enc32 w3 g A (mapK A 0) 61 from K.out)
    clear K
    go_wp2_with fail
    go_loopw [5] (fun s5 wr => ∃ j : Nat, j ≤ 32 ∧ s5 = .int .i64 (j : Int) ∧ Hid (Enc32 wr g A (mapK A j) 61) ∧ Hid (Below w.heap.size w wr)) (fun s5 _ => 32 - (intOf s5).toNat)
    case atStart => exact ⟨0, by omega, rfl, K0, B⟩
    case round =>
      clear K0 B
      obtain ⟨j, hj, rfl, K, B⟩ := hrel
      by_cases h32 : j < 32
      · have j1 : (j : Int) < 32 := by omega
        have hjA : j < A.length := by rw [HA.out]; exact h32
        obtain ⟨a, ha⟩ : ∃ a, a = A[j].toNat := ⟨_, rfl⟩
        have hix : ∀ W : World, (Instr.index 9 (.string S) (.int .i64 (j : Int))).run Tryz.prog W = .ok (.int .u8 (a : Int)) W := fun W => by rw [ha]; exact HI.out W j hjA
        have ha255 : a ≤ 255 := by have := UInt8.toNat_lt A[j]; omega
        have Ha := Lib.hid (show (A.getD j 0).toNat = a by rw [ha, List.getD_eq_getElem?_getD, List.getElem?_eq_getElem hjA, Option.getD_some])
        obtain ⟨lo, hlo⟩ : ∃ x, x = low8 a := ⟨_, rfl⟩
        obtain ⟨up, hup⟩ : ∃ x, x = up8 a := ⟨_, rfl⟩
        have hlo1 : lo ≤ 255 := by rw [hlo]; exact low8_le ha255
        have hup1 : up ≤ 255 := by rw [hup]; exact up8_le ha255
        have TL := Lib.hid (fun W => toLower W ha255)
        have TU := Lib.hid (fun W => toUpper W ha255)
        rw [← hlo] at TL
        rw [← hup] at TU
        have Hlo := Lib.hid hlo
        have Hup := Lib.hid hup
        have lo2 : (lo : Int) < 256 := by omega
        have up2 : (up : Int) < 256 := by omega
        clear ha hlo hup
        have Kd := Lib.hid (show Enc32 wr.drew g A (mapK A j) 61 from K.out)
        have cl := Kd.out.at_ (k := lo) (by rw [Kd.out.1]; omega)
        have fl := Kd.out.free (1 + lo)
        go_wp2_with fail
        go_region_held3 (fun _ => True) (trivial) ((go_at_call 141; (with_reducible refine (TL.out _).mono ?_); rintro e we ⟨rfl, rfl⟩))
        have K2 := Lib.hid (show Enc32 (wr.setCell ⟨g, 1 + lo, none⟩ (.int .u8 (IntKind.u8.wrap (j : Int)))).drew g A ((mapK A j).set lo (UInt8.ofNat j)) 61 from K.out.put (k := lo) (n := j) (by omega) (by rw [IntKind.wrap_u8]; omega))
        have B2 := Lib.hid (show Below w.heap.size w (wr.setCell ⟨g, 1 + lo, none⟩ (.int .u8 (IntKind.u8.wrap (j : Int)))).drew from (below_grown B.out (grown_setCell (grown_refl wr (some g)) (p := ⟨g, 1 + lo, none⟩) (.inl rfl) (.int .u8 (IntKind.u8.wrap (j : Int)))) (fun k e => by injection e with e; have := Hg.out; omega)).drew)
        clear cl fl Kd TL
        generalize (wr.setCell ⟨g, 1 + lo, none⟩ (.int .u8 (IntKind.u8.wrap (j : Int)))).drew = w4 at *
        have Kd := Lib.hid (show Enc32 w4.drew g A ((mapK A j).set lo (UInt8.ofNat j)) 61 from K2.out)
        have cl := Kd.out.at_ (k := up) (by rw [Kd.out.1]; omega)
        have fl := Kd.out.free (1 + up)
        go_wp2_with fail
        go_region_held3 (fun _ => True) (trivial) ((go_at_call 142; (with_reducible refine (TU.out _).mono ?_); rintro e we ⟨rfl, rfl⟩))
        have K3 := Lib.hid (show Enc32 (w4.setCell ⟨g, 1 + up, none⟩ (.int .u8 (IntKind.u8.wrap (j : Int)))).drew g A (mapK A (j + 1)) 61 from (by
          have h := K2.out.put (k := up) (n := j) (x := IntKind.u8.wrap (j : Int)) (by omega) (by rw [IntKind.wrap_u8]; omega)
          have e : mapK A (j + 1) = ((mapK A j).set lo (UInt8.ofNat j)).set up (UInt8.ofNat j) := by rw [mapK, Ha.out, Hlo.out, Hup.out]
          rw [e]
          exact h))
        have B3 := Lib.hid (show Below w.heap.size w (w4.setCell ⟨g, 1 + up, none⟩ (.int .u8 (IntKind.u8.wrap (j : Int)))).drew from (below_grown B2.out (grown_setCell (grown_refl w4 (some g)) (p := ⟨g, 1 + up, none⟩) (.inl rfl) (.int .u8 (IntKind.u8.wrap (j : Int)))) (fun k e => by injection e with e; have := Hg.out; omega)).drew)
        clear cl fl Kd TU
        generalize (w4.setCell ⟨g, 1 + up, none⟩ (.int .u8 (IntKind.u8.wrap (j : Int)))).drew = w5 at *
        go_wp2_with fail
        exact ⟨⟨j + 1, by omega, rfl, K3, B3⟩, by simp [intOf]; omega⟩
      · obtain rfl : j = 32 := by omega
        go_wp2_with fail
        go_ret
        exact ⟨rfl, K.out, by rw [Hg.out]; exact B.out⟩
end
end Go.Proofs.YteodhonipbdplaaGreatDoor

/- base 32: WithPadding, base32StdLowerNoPad, EncodedLen. -/
namespace Go.Proofs.YteodhonipbdplaaGreatDoor
open Go.RowKit
set_option maxRecDepth 100000
section
variable {w : World} {A M : List UInt8} {g : Nat} {p : Int}
/-- an encoding's cells -/
def encCells (A M : List UInt8) (p : Int) : Array Value := #[.string (strOf A)] ++ (bvs M).toArray ++ #[.int .i32 p]
theorem encCells_size (h : M.length = 256) : (encCells A M p).size = 258 := by unfold encCells; simp [bvs, h]
theorem withPad (h : M.length = 256) (q : Int) :
    Calls Tryz.prog 112 #[.agg (encCells A M p), .int .i32 q] w fun e w' => e = .returned (.pointer (some ⟨w.heap.size, 0, none⟩)) ∧ Enc32 w' w.heap.size A M q ∧ Below w.heap.size w w' := by
  obtain ⟨g, hg⟩ : ∃ g, g = w.heap.size := ⟨_, rfl⟩
  obtain ⟨Z, hZ⟩ : ∃ Z, Z = encCells A M p := ⟨_, rfl⟩
  have K := Lib.hid (show Enc32 (w.alloc (.cells Z 153)) g A M p from ⟨h, by rw [hg, hZ]; exact Blk.new _ _ _⟩)
  have B := Lib.hid (below_alloc w (.cells Z 153))
  have c1 := K.out.pad
  have f1 := K.out.free 257
  have K2 := Lib.hid (K.out.setPad q)
  have B2 := Lib.hid (below_grown B.out (grown_setCell (grown_refl _ (some g)) (p := ⟨g, 257, none⟩) (.inl rfl) (.int .i32 q)) (fun k e => by injection e with e; omega))
  have Hg := Lib.hid hg
  rw [← hZ]
  clear h hZ hg
  go_enter Tryz.func112, Tryz.ntmps112
  go_upto_region 1 with fail
  rw [← Hg.out]
  generalize w.alloc (.cells Z 153) = w1 at *
  go_wp2_with fail
  go_ret
  rw [← Hg.out]
  refine ⟨rfl, K2.out, ?_⟩
  have := B2.out
  rw [← Hg.out] at this
  exact this
end
theorem lowPad (w : World) :
    Calls Tryz.prog 85 #[] w fun e w' => e = .returned (.pointer (some ⟨w.heap.size, 0, none⟩)) ∧ Enc32 w' w.heap.size B32.alpha (mapK B32.alpha 32) 61 ∧ Below w.heap.size w w' := by
  have H := Lib.hid (newEnc (w := w) (A := B32.alpha) rfl)
  go_enter Tryz.func85, Tryz.ntmps85
  go_wp2_with fail
  refine H.out.mono ?_
  rintro e w1 ⟨rfl, hk, hb⟩
  have K := Lib.hid hk
  have B := Lib.hid hb
  clear hk hb
  go_wp2_with fail
  go_ret
  exact ⟨rfl, K.out, B.out⟩
theorem mapK_length (A : List UInt8) : ∀ k, (mapK A k).length = 256
  | 0 => by simp [mapK]
  | k + 1 => by simp [mapK, mapK_length A k]
theorem lowNoPad (w : World) :
    Calls Tryz.prog 80 #[] w fun e w' => ∃ g, e = .returned (.pointer (some ⟨g, 0, none⟩)) ∧ Hid (Enc32 w' g B32.alpha (mapK B32.alpha 32) (-1)) ∧ Below w.heap.size w w' := by
  go_enter Tryz.func80, Tryz.ntmps80
  go_wp2_with fail
  refine (lowPad w).mono ?_
  rintro e w1 ⟨rfl, hk, hb⟩
  have B := Lib.hid hb
  obtain ⟨Z, hZ⟩ : ∃ Z, Z = encCells B32.alpha (mapK B32.alpha 32) 61 := ⟨_, rfl⟩
  have hZs : Z.size = 258 := by rw [hZ]; exact encCells_size (mapK_length _ _)
  have KZ := Lib.hid (show Blk w1 w.heap.size 153 Z by rw [hZ]; exact hk.2)
  have Hi := Lib.hid (show (Tryz.prog.info? 153).map (·.size) = some Z.size by rw [hZs]; kernel_rfl)
  have HW := Lib.hid (withPad (w := w1) (A := B32.alpha) (p := 61) (mapK_length B32.alpha 32) (-1))
  rw [← hZ] at HW
  clear hk hb hZ hZs
  dsimp only
  rename_i hK
  refine hK _ _ ?_
  clear hK
  go_wp2_with (refine wpList_load_row rfl 153 _ (by rfl) w.heap.size (by rfl) 153 Z (0, 0) _ KZ.out Tryz.underlying153 rfl Hi.out ?_)
  refine HW.out.mono ?_
  rintro e w2 ⟨rfl, hk, hb⟩
  have K := Lib.hid hk
  have B2 := Lib.hid (below_trans B.out hb)
  clear hk hb
  go_wp2_with fail
  go_ret
  exact ⟨_, rfl, K, B2.out⟩
section
variable {w : World} {A M : List UInt8} {g : Nat}
theorem encLen (h : Enc32 w g A M (-1)) {n : Nat} (hn : n ≤ 100000) :
    Calls Tryz.prog 113 #[.pointer (some ⟨g, 0, none⟩), .int .i64 (n : Int)] w fun e w' => e = .returned (.int .i64 (((n * 8 + 4) / 5 : Nat) : Int)) ∧ w = w' := by
  have c1 := h.pad
  clear h
  have n1 : (n : Int) ≤ 100000 := by omega
  go_enter Tryz.func113, Tryz.ntmps113
  go_wp2_with fail
  go_ret
  refine ⟨?_, rfl⟩
  show Ending.returned (.int .i64 (((n : Int) * 8 + 4) / 5)) = _
  rw [show (((n * 8 + 4) / 5 : Nat) : Int) = ((n : Int) * 8 + 4) / 5 by omega]
end
end Go.Proofs.YteodhonipbdplaaGreatDoor

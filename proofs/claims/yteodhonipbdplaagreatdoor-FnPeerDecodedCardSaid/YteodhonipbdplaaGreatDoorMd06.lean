/- The reference's ShaSum: SHA2-256 of some bytes. -/
import Derived.Test.YteodhonipbdplaaGreatDoorMd05
import Derived.Deep.RegionHeld3
import Derived.Deep.RegionLaw
import Derived.Outline
namespace Go.Proofs.YteodhonipbdplaaGreatDoor
open Go.RowKit
set_option maxRecDepth 100000
attribute [local go_sem ↓] Go.wp_at_zero Go.wp_at_succ
def sliceLen : Value → Nat
  | .slice _ n _ => n
  | _ => 0
theorem lit128 : (#[.int .u8 128] : Array Value).toList = bvs [128] := by simp [bvs]
theorem lit0 : (#[.int .u8 0] : Array Value).toList = bvs [0] := by simp [bvs]
theorem Own.len {w : World} {base : Nat} {A : Option Addr} {n c : Nat} {l : List UInt8} (h : Own w base (.slice A n c) l) : n = l.length := by
  obtain ⟨A', c', e, _⟩ := h.bs
  injection e
/-- a row of one byte, to be appended -/
theorem oneBs (w : World) (x : UInt8) {d : Int} (hd : d = (x.toNat : Int)) : Bs (w.alloc (.cells #[.int .u8 d] 5)) (w.heap.size + 1) (.slice (some ⟨w.heap.size, 0, none⟩) 1 1) [x] := by
  subst hd
  exact Bs.new w #[bv x] [x] (by simp [bvs]) (by simp) 1 1 rfl rfl
theorem blocks_step (t : Nat) : ∀ (V : Sha.V) (P : List UInt8), Sha.blocks (t + 1) V P = Sha.block (Sha.blocks t V P) ((P.drop (64 * t)).take 64) := by
  induction t with
  | zero => intro V P; simp [Sha.blocks]
  | succ t ih =>
    intro V P
    have e := ih (Sha.block V (P.take 64)) (P.drop 64)
    rw [List.drop_drop] at e
    rw [show 64 * (t + 1) = 64 + 64 * t by omega]
    exact e
theorem be8_next {N t : Nat} {P : List UInt8} (h : t < 8) : P ++ (Sha.be8 N).take (t + 1) = (P ++ (Sha.be8 N).take t) ++ [UInt8.ofNat (N / 2 ^ (8 * (7 - t)))] := by
  have hl : t < (Sha.be8 N).length := by simpa [Sha.be8] using h
  rw [List.take_succ_eq_append_getElem hl, List.append_assoc]
  simp [Sha.be8]
theorem info32 : (Tryz.prog.info? 22).map (·.size) = some 32 := by kernel_rfl
theorem out_len (V : Sha.V) : V.out.length = 32 := by simp [Sha.V.out]
theorem out_get (V : Sha.V) {k : Nat} (h : k < V.out.length) : V.out[k] = UInt8.ofNat (V.list.getD (k / 4) 0 / 2 ^ (24 - 8 * (k % 4))) := by simp [Sha.V.out]
theorem out_cell (V : Sha.V) {k : Nat} (h : k < 32) : (bvs (V.out.take k ++ List.replicate (32 - k) 0)).toArray[k]? = some (.int .u8 0) := by
  obtain ⟨m, hm⟩ : ∃ m, 32 - k = m + 1 := ⟨32 - k - 1, by omega⟩
  have hl : (V.out.take k).length = k := by rw [List.length_take, out_len]; omega
  rw [hm, List.replicate_succ]
  unfold bvs
  rw [List.map_append, List.map_cons, List.getElem?_toArray, List.getElem?_append_right (by rw [List.length_map, hl]; exact Nat.le_refl _), List.length_map, hl, Nat.sub_self]
  rfl
theorem out_next (V : Sha.V) {k x : Nat} (h : k < 32) {hl} (hx : x = V.list[k / 4]'hl) : (bvs (V.out.take k ++ List.replicate (32 - k) 0)).set k (bv (UInt8.ofNat (x / 2 ^ (24 - 8 * (k % 4))))) = bvs (V.out.take (k + 1) ++ List.replicate (32 - (k + 1)) 0) := by
  obtain ⟨m, hm⟩ : ∃ m, 32 - k = m + 1 := ⟨32 - k - 1, by omega⟩
  have hl2 : (V.out.take k).length = k := by rw [List.length_take, out_len]; omega
  have hk : k < V.out.length := by rw [out_len]; exact h
  have e := out_get V hk
  rw [show V.list.getD (k / 4) 0 = x by rw [hx, List.getD_eq_getElem?_getD, List.getElem?_eq_getElem hl, Option.getD_some]] at e
  rw [List.take_succ_eq_append_getElem hk, e]
  unfold bvs
  rw [← List.map_set, List.set_append_right _ _ (by omega), hl2, Nat.sub_self, hm, show 32 - (k + 1) = m by omega, List.replicate_succ, List.set_cons_zero, List.append_assoc]
  rfl
def padZ (n : Nat) : Nat := (119 - n % 64) % 64
section
variable {w : World} {v : Value} {l : List UInt8}
set_option maxHeartbeats 4000000 in
theorem shaSum (h : Bs w w.heap.size v l) (hlen : l.length ≤ 1000000) :
    Calls Tryz.prog 27 #[v] w fun e w' => e = .returned (.agg (bvs (Sha.sum l)).toArray) ∧ Below w.heap.size w w' := by
  obtain ⟨A, n, c, rfl, hn, hc, hm⟩ := h.form'
  have H := Lib.hid h
  have hn6 : n ≤ 1000000 := by rw [hn.out]; exact hlen
  clear h hlen
  go_enter Tryz.func27, Tryz.ntmps27
  go_upto_region 1 with fail
  obtain ⟨w1, hw1⟩ : ∃ w1, w1 = w.alloc (.cells #[.int .u8 0, .int .u8 0, .int .u8 0, .int .u8 0, .int .u8 0, .int .u8 0, .int .u8 0, .int .u8 0, .int .u8 0, .int .u8 0, .int .u8 0, .int .u8 0, .int .u8 0, .int .u8 0, .int .u8 0, .int .u8 0, .int .u8 0, .int .u8 0, .int .u8 0, .int .u8 0, .int .u8 0, .int .u8 0, .int .u8 0, .int .u8 0, .int .u8 0, .int .u8 0, .int .u8 0, .int .u8 0, .int .u8 0, .int .u8 0, .int .u8 0, .int .u8 0] 22) := ⟨_, rfl⟩
  have K := Lib.hid (show Blk w1 w.heap.size 22 (bvs (List.replicate 32 0)).toArray by rw [hw1]; exact Blk.new _ _ _)
  have B := Lib.hid (show Below w.heap.size w w1 by rw [hw1]; exact below_alloc _ _)
  rw [← hw1]
  clear hw1
  obtain ⟨gq, hgq⟩ : ∃ g, g = w.heap.size := ⟨_, rfl⟩
  rw [← hgq] at K ⊢
  have Hgq := Lib.hid hgq
  clear hgq
  have H1 := Lib.hid (H.out.step B.out)
  clear H
  have hgq1 := K.out.lt
  go_cut [3] (fun s3 wx => ∃ (A : Option Addr) (n c : Nat), s3 = .slice A n c ∧ Hid (Own wx w1.heap.size (.slice A n c) l) ∧ Hid (Below w1.heap.size w1 wx))
  case first =>
    go_wp2_with (at_builtin; refine wpList_app rfl _ _ rfl (by rfl) (by rfl) (Own.made _ (Nat.le_refl _)) (H1.out.alloc (Nat.le_refl _) _) (by have := hn.out; simp; omega) (by simp) ?_; intro v' w2 ho hg hnn hmv; have HO := Lib.hid ho; have HB := Lib.hid (below_grown (below_alloc w1 _) hg (fun g e => by simp [Value.ownBlock] at e; omega)); clear ho hg hnn hmv)
    obtain ⟨A2, n2, c2, rfl⟩ := hid_exists_bs' HO.out.bs
    go_meet
    exact ⟨_, _, _, rfl, HO, HB⟩
  case rest =>
    obtain ⟨A2, n2, c2, rfl, HO, HB⟩ := hcut
    obtain ⟨w2, rfl⟩ : ∃ w2 : World, w2 = wc := ⟨_, rfl⟩
    go_upto_region 2 with fail
    go_cut [3] (fun s3 wx => ∃ (A : Option Addr) (n c : Nat), s3 = .slice A n c ∧ Hid (Own wx w1.heap.size (.slice A n c) (l ++ 128 :: List.replicate 0 0)) ∧ Hid (Below w1.heap.size w1 wx))
    case first =>
      have hsz := HB.out.size
      go_wp2_with (at_builtin; refine wpList_app rfl _ _ rfl (by rfl) (by rfl) (HO.out.alloc _) (oneBs w2 128 rfl) (by have := hn.out; simp; omega) (by simp; omega) ?_; intro v' w3 ho hg hnn hmv; have HO2 := Lib.hid ho; have HB2 := Lib.hid ((HB.out.alloc hsz _).trans (below_of_own (HO.out.alloc _) hg (by simp; omega))); clear ho hg hnn hmv)
      obtain ⟨A3, n3, c3, rfl⟩ := hid_exists_bs' HO2.out.bs
      go_meet
      exact ⟨_, _, _, rfl, HO2, HB2⟩
    case rest =>
      clear HO HB
      obtain ⟨A3, n3, c3, rfl, HO, HB⟩ := hcut
      obtain ⟨w3, rfl⟩ : ∃ w3 : World, w3 = wc := ⟨_, rfl⟩
      obtain ⟨z, hz⟩ : ∃ z, z = padZ n := ⟨_, rfl⟩
      have hz63 : z ≤ 63 := by rw [hz]; unfold padZ; omega
      have Hz := Lib.hid hz
      clear hz
      go_wp2_with fail
      go_loopw [3] (fun s3 wr => ∃ (j : Nat) (A : Option Addr) (n3 c : Nat), j ≤ z ∧ s3 = .slice A n3 c ∧ Hid (Own wr w1.heap.size (.slice A n3 c) (l ++ 128 :: List.replicate j 0)) ∧ Hid (Below w1.heap.size w1 wr)) (fun s3 _ => (n + 1 + z) - sliceLen s3)
      case atStart => exact ⟨0, _, _, _, Nat.zero_le _, rfl, HO, HB⟩
      case round =>
        clear HO HB
        obtain ⟨j, A3, n3, c3, hj, rfl, HO, HB⟩ := hrel
        have hn3 : n3 = n + 1 + j := by have := HO.out.len; rw [hn.out]; simp at this; omega
        have hsz := HB.out.size
        by_cases hjz : j = z
        · have ht : ((n3 : Int) % 64 != 56) = false := by
            have h1 := Hz.out
            unfold padZ at h1
            have : (n3 : Int) % 64 = 56 := by omega
            simp [this]
          have HO2 := Lib.hid (show Own wr w1.heap.size (.slice A3 n3 c3) (l ++ 128 :: List.replicate z 0) by rw [← hjz]; exact HO.out)
          have Hn3 := Lib.hid hn3
          clear hn3 hjz
          go_wp2_with fail
          have HO3 := Lib.hid (show Own wr w1.heap.size (.slice A3 n3 c3) ((l ++ 128 :: List.replicate z 0) ++ (Sha.be8 (n * 8)).take 0) by rw [List.take_zero, List.append_nil]; exact HO2.out)
          clear HO HO2 Hn3
          go_loopw [3, 5] (fun s3 s5 wr => ∃ (t : Nat) (q : Int) (A : Option Addr) (n3 c : Nat), t ≤ 8 ∧ s5 = .int .i64 q ∧ q = 7 - (t : Int) ∧ s3 = .slice A n3 c ∧ Hid (Own wr w1.heap.size (.slice A n3 c) ((l ++ 128 :: List.replicate z 0) ++ (Sha.be8 (n * 8)).take t)) ∧ Hid (Below w1.heap.size w1 wr)) (fun _ s5 _ => (intOf s5 + 1).toNat)
          case atStart => exact ⟨0, 7, _, _, _, by omega, rfl, rfl, rfl, HO3, HB⟩
          case round =>
            clear HO3 HB hsz hj
            obtain ⟨t, q, A3, n3, c3, ht8, rfl, hq, rfl, HO, HB⟩ := hrel
            have hsz := HB.out.size
            by_cases h8 : t < 8
            · have Hn := Lib.hid (show ((l ++ 128 :: List.replicate z 0) ++ (Sha.be8 (n * 8)).take t).length ≤ 1000200 by have := hn.out; simp [Sha.be8]; omega)
              have hcases : t = 0 ∨ t = 1 ∨ t = 2 ∨ t = 3 ∨ t = 4 ∨ t = 5 ∨ t = 6 ∨ t = 7 := by omega
              have He := Lib.hid (be8_next (N := n * 8) (P := l ++ 128 :: List.replicate z 0) h8)
              rcases hcases with rfl | rfl | rfl | rfl | rfl | rfl | rfl | rfl
              · obtain rfl : q = 7 := by omega
                clear hq
                go_wp2_with (at_builtin; refine wpList_app rfl _ _ rfl (by rfl) (by rfl) (HO.out.alloc _) (oneBs wr (UInt8.ofNat (n * 8 / 2 ^ (8 * (7 - 0)))) (by rw [UInt8.toNat_ofNat']; first | omega | (simp only [IntKind.wrap_u8]; omega))) (by have := Hn.out; simp at this ⊢; omega) (by simp; omega) ?_; intro v' w4 ho hg hnn hmv; have HO2 := Lib.hid (show Own w4 w1.heap.size v' ((l ++ 128 :: List.replicate z 0) ++ (Sha.be8 (n * 8)).take (0 + 1)) by rw [He.out]; exact ho); have HB2 := Lib.hid ((HB.out.alloc hsz _).trans (below_of_own (HO.out.alloc _) hg (by simp; omega))); clear ho hg hnn hmv)
                obtain ⟨A4, n4, c4, rfl⟩ := hid_exists_bs' HO2.out.bs
                exact ⟨⟨0 + 1, _, A4, n4, c4, by omega, rfl, by omega, rfl, HO2, HB2⟩, by simp [intOf]⟩
              · obtain rfl : q = 6 := by omega
                clear hq
                go_wp2_with (at_builtin; refine wpList_app rfl _ _ rfl (by rfl) (by rfl) (HO.out.alloc _) (oneBs wr (UInt8.ofNat (n * 8 / 2 ^ (8 * (7 - 1)))) (by rw [UInt8.toNat_ofNat']; first | omega | (simp only [IntKind.wrap_u8]; omega))) (by have := Hn.out; simp at this ⊢; omega) (by simp; omega) ?_; intro v' w4 ho hg hnn hmv; have HO2 := Lib.hid (show Own w4 w1.heap.size v' ((l ++ 128 :: List.replicate z 0) ++ (Sha.be8 (n * 8)).take (1 + 1)) by rw [He.out]; exact ho); have HB2 := Lib.hid ((HB.out.alloc hsz _).trans (below_of_own (HO.out.alloc _) hg (by simp; omega))); clear ho hg hnn hmv)
                obtain ⟨A4, n4, c4, rfl⟩ := hid_exists_bs' HO2.out.bs
                exact ⟨⟨1 + 1, _, A4, n4, c4, by omega, rfl, by omega, rfl, HO2, HB2⟩, by simp [intOf]⟩
              · obtain rfl : q = 5 := by omega
                clear hq
                go_wp2_with (at_builtin; refine wpList_app rfl _ _ rfl (by rfl) (by rfl) (HO.out.alloc _) (oneBs wr (UInt8.ofNat (n * 8 / 2 ^ (8 * (7 - 2)))) (by rw [UInt8.toNat_ofNat']; first | omega | (simp only [IntKind.wrap_u8]; omega))) (by have := Hn.out; simp at this ⊢; omega) (by simp; omega) ?_; intro v' w4 ho hg hnn hmv; have HO2 := Lib.hid (show Own w4 w1.heap.size v' ((l ++ 128 :: List.replicate z 0) ++ (Sha.be8 (n * 8)).take (2 + 1)) by rw [He.out]; exact ho); have HB2 := Lib.hid ((HB.out.alloc hsz _).trans (below_of_own (HO.out.alloc _) hg (by simp; omega))); clear ho hg hnn hmv)
                obtain ⟨A4, n4, c4, rfl⟩ := hid_exists_bs' HO2.out.bs
                exact ⟨⟨2 + 1, _, A4, n4, c4, by omega, rfl, by omega, rfl, HO2, HB2⟩, by simp [intOf]⟩
              · obtain rfl : q = 4 := by omega
                clear hq
                go_wp2_with (at_builtin; refine wpList_app rfl _ _ rfl (by rfl) (by rfl) (HO.out.alloc _) (oneBs wr (UInt8.ofNat (n * 8 / 2 ^ (8 * (7 - 3)))) (by rw [UInt8.toNat_ofNat']; first | omega | (simp only [IntKind.wrap_u8]; omega))) (by have := Hn.out; simp at this ⊢; omega) (by simp; omega) ?_; intro v' w4 ho hg hnn hmv; have HO2 := Lib.hid (show Own w4 w1.heap.size v' ((l ++ 128 :: List.replicate z 0) ++ (Sha.be8 (n * 8)).take (3 + 1)) by rw [He.out]; exact ho); have HB2 := Lib.hid ((HB.out.alloc hsz _).trans (below_of_own (HO.out.alloc _) hg (by simp; omega))); clear ho hg hnn hmv)
                obtain ⟨A4, n4, c4, rfl⟩ := hid_exists_bs' HO2.out.bs
                exact ⟨⟨3 + 1, _, A4, n4, c4, by omega, rfl, by omega, rfl, HO2, HB2⟩, by simp [intOf]⟩
              · obtain rfl : q = 3 := by omega
                clear hq
                go_wp2_with (at_builtin; refine wpList_app rfl _ _ rfl (by rfl) (by rfl) (HO.out.alloc _) (oneBs wr (UInt8.ofNat (n * 8 / 2 ^ (8 * (7 - 4)))) (by rw [UInt8.toNat_ofNat']; first | omega | (simp only [IntKind.wrap_u8]; omega))) (by have := Hn.out; simp at this ⊢; omega) (by simp; omega) ?_; intro v' w4 ho hg hnn hmv; have HO2 := Lib.hid (show Own w4 w1.heap.size v' ((l ++ 128 :: List.replicate z 0) ++ (Sha.be8 (n * 8)).take (4 + 1)) by rw [He.out]; exact ho); have HB2 := Lib.hid ((HB.out.alloc hsz _).trans (below_of_own (HO.out.alloc _) hg (by simp; omega))); clear ho hg hnn hmv)
                obtain ⟨A4, n4, c4, rfl⟩ := hid_exists_bs' HO2.out.bs
                exact ⟨⟨4 + 1, _, A4, n4, c4, by omega, rfl, by omega, rfl, HO2, HB2⟩, by simp [intOf]⟩
              · obtain rfl : q = 2 := by omega
                clear hq
                go_wp2_with (at_builtin; refine wpList_app rfl _ _ rfl (by rfl) (by rfl) (HO.out.alloc _) (oneBs wr (UInt8.ofNat (n * 8 / 2 ^ (8 * (7 - 5)))) (by rw [UInt8.toNat_ofNat']; first | omega | (simp only [IntKind.wrap_u8]; omega))) (by have := Hn.out; simp at this ⊢; omega) (by simp; omega) ?_; intro v' w4 ho hg hnn hmv; have HO2 := Lib.hid (show Own w4 w1.heap.size v' ((l ++ 128 :: List.replicate z 0) ++ (Sha.be8 (n * 8)).take (5 + 1)) by rw [He.out]; exact ho); have HB2 := Lib.hid ((HB.out.alloc hsz _).trans (below_of_own (HO.out.alloc _) hg (by simp; omega))); clear ho hg hnn hmv)
                obtain ⟨A4, n4, c4, rfl⟩ := hid_exists_bs' HO2.out.bs
                exact ⟨⟨5 + 1, _, A4, n4, c4, by omega, rfl, by omega, rfl, HO2, HB2⟩, by simp [intOf]⟩
              · obtain rfl : q = 1 := by omega
                clear hq
                go_wp2_with (at_builtin; refine wpList_app rfl _ _ rfl (by rfl) (by rfl) (HO.out.alloc _) (oneBs wr (UInt8.ofNat (n * 8 / 2 ^ (8 * (7 - 6)))) (by rw [UInt8.toNat_ofNat']; first | omega | (simp only [IntKind.wrap_u8]; omega))) (by have := Hn.out; simp at this ⊢; omega) (by simp; omega) ?_; intro v' w4 ho hg hnn hmv; have HO2 := Lib.hid (show Own w4 w1.heap.size v' ((l ++ 128 :: List.replicate z 0) ++ (Sha.be8 (n * 8)).take (6 + 1)) by rw [He.out]; exact ho); have HB2 := Lib.hid ((HB.out.alloc hsz _).trans (below_of_own (HO.out.alloc _) hg (by simp; omega))); clear ho hg hnn hmv)
                obtain ⟨A4, n4, c4, rfl⟩ := hid_exists_bs' HO2.out.bs
                exact ⟨⟨6 + 1, _, A4, n4, c4, by omega, rfl, by omega, rfl, HO2, HB2⟩, by simp [intOf]⟩
              · obtain rfl : q = 0 := by omega
                clear hq
                go_wp2_with (at_builtin; refine wpList_app rfl _ _ rfl (by rfl) (by rfl) (HO.out.alloc _) (oneBs wr (UInt8.ofNat (n * 8 / 2 ^ (8 * (7 - 7)))) (by rw [UInt8.toNat_ofNat']; first | omega | (simp only [IntKind.wrap_u8]; omega))) (by have := Hn.out; simp at this ⊢; omega) (by simp; omega) ?_; intro v' w4 ho hg hnn hmv; have HO2 := Lib.hid (show Own w4 w1.heap.size v' ((l ++ 128 :: List.replicate z 0) ++ (Sha.be8 (n * 8)).take (7 + 1)) by rw [He.out]; exact ho); have HB2 := Lib.hid ((HB.out.alloc hsz _).trans (below_of_own (HO.out.alloc _) hg (by simp; omega))); clear ho hg hnn hmv)
                obtain ⟨A4, n4, c4, rfl⟩ := hid_exists_bs' HO2.out.bs
                exact ⟨⟨7 + 1, _, A4, n4, c4, by omega, rfl, by omega, rfl, HO2, HB2⟩, by simp [intOf]⟩
            · have Hpad := Lib.hid (show Own wr w1.heap.size (.slice A3 n3 c3) (Sha.padded l) by
                obtain rfl : t = 8 := by omega
                have e : Sha.padded l = (l ++ 128 :: List.replicate z 0) ++ (Sha.be8 (n * 8)).take 8 := by
                  rw [List.take_of_length_le (by simp [Sha.be8]), Hz.out, hn.out]
                  unfold Sha.padded padZ
                  simp
                rw [e]; exact HO.out)
              have hq0 : q < 0 := by omega
              clear HO hq h8 ht8
              go_upto_block 4 with fail
              obtain ⟨P, hP⟩ : ∃ P, P = Sha.padded l := ⟨_, rfl⟩
              have HP := Lib.hid hP
              rw [← hP] at Hpad
              have hPm : P.length % 64 = 0 := by rw [hP]; exact Sha.padded_length l
              have hPn : n3 = P.length := Hpad.out.len
              have hPl : P.length ≤ 1000200 := by have := hn.out; rw [hP]; simp [Sha.padded, Sha.be8]; omega
              clear hP
              obtain ⟨w4, hw4⟩ : ∃ w4, w4 = wr.alloc (.cells #[.int .u32 1779033703, .int .u32 3144134277, .int .u32 1013904242, .int .u32 2773480762, .int .u32 1359893119, .int .u32 2600822924, .int .u32 528734635, .int .u32 1541459225] 64) := ⟨_, rfl⟩
              obtain ⟨gh, hgh⟩ : ∃ g, g = wr.heap.size := ⟨_, rfl⟩
              have KV := Lib.hid (show Blk w4 gh 64 (u32s (Sha.blocks 0 Sha.init P).list).toArray by rw [hw4, hgh]; exact Blk.new _ _ _)
              have HO4 := Lib.hid (show Own w4 w1.heap.size (.slice A3 n3 c3) P by rw [hw4]; exact Hpad.out.alloc _)
              have HB4 := Lib.hid (show Below w1.heap.size w1 w4 by rw [hw4]; exact HB.out.alloc hsz _)
              have Ho := Lib.hid (show ∀ k, (Value.slice A3 n3 c3).ownBlock = some k → k < gh from fun k hk => by rw [hgh]; exact (Hpad.out.lt k hk).2)
              have hgq2 : gq < gh := by omega
              rw [← hw4, ← hgh]
              have Hgh := Lib.hid (show w1.heap.size ≤ gh by rw [hgh]; exact hsz)
              clear hw4 hgh Hpad HB hsz
              obtain ⟨m, hm⟩ : ∃ m, n3 = 64 * m := ⟨P.length / 64, by omega⟩
              have Hm := Lib.hid hm
              have HPn := Lib.hid hPn
              have hm3 : n3 ≤ 1000200 := by omega
              clear hm hPn hPm hPl
              go_cut [] (fun wx => Hid (Blk wx gh 64 (u32s (Sha.blocks m Sha.init P).list).toArray) ∧ Hid (w4.grownBy wx (some gh)))
              case first =>
                have G0 := Lib.hid (grown_refl w4 (some gh))
                go_wp2_with fail
                go_loopw [7] (fun s7 wr => ∃ (t i : Nat), t ≤ m ∧ i = 64 * t ∧ s7 = .int .i64 (i : Int) ∧ Hid (Blk wr gh 64 (u32s (Sha.blocks t Sha.init P).list).toArray) ∧ Hid (w4.grownBy wr (some gh))) (fun s7 _ => m - (intOf s7).toNat / 64)
                case atStart => exact ⟨0, 0, by omega, rfl, rfl, KV, G0⟩
                case round =>
                  clear KV G0
                  obtain ⟨t, i, htm, hi, rfl, KV, G⟩ := hrel
                  have hmo := Hm.out
                  have Hi := Lib.hid hi
                  by_cases hlt : t < m
                  · have hlt' : (i : Int) < (n3 : Int) := by omega
                    have hin := Lib.hid (show i + 64 ≤ n3 by omega)
                    have hnc := Lib.hid (show n3 ≤ c3 by obtain ⟨A', c', e, h2, _⟩ := HO4.out.bs; injection e with e1 e2 e3; omega)
                    have q0 : (0 : Int) ≤ (i : Int) := by omega
                    have q2 : (i : Int) ≤ (i : Int) + 64 := by omega
                    have q3 : (i : Int) + 64 ≤ (c3 : Int) := by have := hin.out; have := hnc.out; omega
                    have q4 : ((i : Int) + 64).toNat = i + 64 := by omega
                    clear hi hmo
                    have HOr := Lib.hid (HO4.out.kept G.out (by
                      right
                      intro e
                      have := Ho.out _ e
                      omega))
                    obtain ⟨V, hV⟩ : ∃ V, V = Sha.blocks t Sha.init P := ⟨_, rfl⟩
                    have HV := Lib.hid (show V.ok by rw [hV]; exact Sha.blocks_ok t Sha.init_ok P)
                    have HS := Lib.hid (show Sha.blocks (t + 1) Sha.init P = Sha.block V ((P.drop (64 * t)).take 64) by rw [hV]; exact blocks_step t _ _)
                    rw [← hV] at KV
                    clear hV
                    have xa : wr.cell? ⟨gh, 0, none⟩ = some (.int .u32 ((V.a : Nat) : Int)) := wCell KV.out (k := 0) (by simp [Sha.V.list])
                    have xb : wr.cell? ⟨gh, 1, none⟩ = some (.int .u32 ((V.b : Nat) : Int)) := wCell KV.out (k := 1) (by simp [Sha.V.list])
                    have xc : wr.cell? ⟨gh, 2, none⟩ = some (.int .u32 ((V.c : Nat) : Int)) := wCell KV.out (k := 2) (by simp [Sha.V.list])
                    have xd : wr.cell? ⟨gh, 3, none⟩ = some (.int .u32 ((V.d : Nat) : Int)) := wCell KV.out (k := 3) (by simp [Sha.V.list])
                    have xe : wr.cell? ⟨gh, 4, none⟩ = some (.int .u32 ((V.e : Nat) : Int)) := wCell KV.out (k := 4) (by simp [Sha.V.list])
                    have xf : wr.cell? ⟨gh, 5, none⟩ = some (.int .u32 ((V.f : Nat) : Int)) := wCell KV.out (k := 5) (by simp [Sha.V.list])
                    have xg : wr.cell? ⟨gh, 6, none⟩ = some (.int .u32 ((V.g : Nat) : Int)) := wCell KV.out (k := 6) (by simp [Sha.V.list])
                    have xh : wr.cell? ⟨gh, 7, none⟩ = some (.int .u32 ((V.h : Nat) : Int)) := wCell KV.out (k := 7) (by simp [Sha.V.list])
                    have q1 : IntKind.i64.wrap ((i : Int) + 64) = (i : Int) + 64 := by have := hin.out; rw [IntKind.wrap_i64]; omega
                    go_wp2_with fail
                    go_still_tail 6, (by kernel_rfl)
                    change wpList _ _ _ _ _ wr.drew
                    clear xa xb xc xd xe xf xg xh
                    have hci : ¬ c3 = i := by have := hin.out; have := hnc.out; omega
                    have Hb := Lib.hid (show Bs wr.drew wr.drew.heap.size (.slice (Option.map (fun x => x.add i) A3) 64 (c3 - i)) ((P.drop (64 * t)).take 64) by
                      have h1 := HOr.out.bs.cut (k := i) (by have := hin.out; have := HPn.out; omega)
                      rw [if_neg hci] at h1
                      have h2 := h1.front (k := 64) (by rw [List.length_drop]; have := hin.out; have := HPn.out; omega)
                      rw [← Hi.out]
                      exact h2)
                    have hl64 := Lib.hid (show ((P.drop (64 * t)).take 64).length = 64 by rw [← Hi.out, List.length_take, List.length_drop]; have := hin.out; have := HPn.out; omega)
                    clear hci
                    have KD := Lib.hid (KV.out.drew)
                    have GD := Lib.hid (grown_drew G.out)
                    clear KV G HOr
                    generalize wr.drew = wa at *
                    go_wp2_with fail
                    refine (shaBlock HV.out Hb.out hl64.out).mono ?_
                    rintro e wb ⟨rfl, hb⟩
                    replace KD := Lib.hid (KD.out.step hb)
                    replace GD := Lib.hid (grown_step GD.out hb)
                    clear hb Hb
                    rw [← HS.out]
                    obtain ⟨U, hU⟩ : ∃ U, U = Sha.blocks (t + 1) Sha.init P := ⟨_, rfl⟩
                    have HU := Lib.hid hU
                    rw [← hU]
                    clear hU HS
                    have Ht := Lib.hid (show wb.there gh 0 (u32s U.list).toArray.size from KD.out.there rfl)
                    have Hi8 := Lib.hid (show (Tryz.prog.info? 64).map (·.size) = some (u32s U.list).toArray.size from info8)
                    have Ho1 := Lib.hid (all_oneCell_toArray (u32s_one U.list))
                    have K6 := Lib.hid (show Blk (wb.setCells gh 0 (u32s U.list)) gh 64 (u32s (Sha.blocks (t + 1) Sha.init P).list).toArray by rw [← HU.out]; exact KD.out.over (vs := u32s U.list) rfl)
                    have G6 := Lib.hid (grown_setCells gh (u32s U.list) 0 GD.out)
                    clear KD GD
                    have q5 : IntKind.i64.wrap ((i : Int) + 64) = ((i + 64 : Nat) : Int) := by rw [q1]; rfl
                    clear q1
                    dsimp only
                    rename_i hK
                    refine hK _ _ ?_
                    clear hK
                    refine wpList_store_mid rfl 64 _ _ (by rfl) gh 0 (u32s U.list).toArray (by rfl) (by rfl) Ht.out Hi8.out Ho1.out ?_
                    clear Ht Hi8 Ho1
                    change wpList _ _ _ _ _ (wb.setCells gh 0 (u32s U.list))
                    generalize (u32s U.list).toArray = au at *
                    generalize wb.setCells gh 0 (u32s U.list) = wd at *
                    go_wp2_with fail
                    exact ⟨⟨t + 1, i + 64, by omega, by have := Hi.out; omega, rfl, K6, G6⟩, by have := Hi.out; simp [intOf]; omega⟩
                  · obtain rfl : t = m := by omega
                    go_wp2_with fail
                    go_meet
                    exact ⟨KV, G⟩
              case rest =>
                clear KV
                obtain ⟨KV, G⟩ := hcut
                obtain ⟨w5, rfl⟩ : ∃ w5 : World, w5 = wc := ⟨_, rfl⟩
                obtain ⟨V, hV⟩ : ∃ V, V = Sha.blocks m Sha.init P := ⟨_, rfl⟩
                have HV := Lib.hid (show V.ok by rw [hV]; exact Sha.blocks_ok m Sha.init_ok P)
                have HS := Lib.hid (show Sha.sum l = V.out by
                  have e : P.length / 64 = m := by have := HPn.out; have := Hm.out; omega
                  rw [hV, ← e, HP.out]; rfl)
                rw [← hV] at KV
                have Kq := Lib.hid ((K.out.below HB4.out hgq1).grown G.out (by intro e; injection e with e; omega))
                have B5 := Lib.hid (below_grown (below_trans B.out HB4.out) G.out (fun k e => by injection e with e; have := B.out.size; have := Hgh.out; omega))
                have HGl := Lib.hid KV.out.lt
                have B5s := Lib.hid B5.out.size
                clear hV K B G HB4 HO4 Ho HPn Hm HP H1
                go_upto_block 6 with fail
                obtain ⟨w6, hw6⟩ : ∃ w6, w6 = w5.alloc (.cells #[.int .u8 0, .int .u8 0, .int .u8 0, .int .u8 0, .int .u8 0, .int .u8 0, .int .u8 0, .int .u8 0, .int .u8 0, .int .u8 0, .int .u8 0, .int .u8 0, .int .u8 0, .int .u8 0, .int .u8 0, .int .u8 0, .int .u8 0, .int .u8 0, .int .u8 0, .int .u8 0, .int .u8 0, .int .u8 0, .int .u8 0, .int .u8 0, .int .u8 0, .int .u8 0, .int .u8 0, .int .u8 0, .int .u8 0, .int .u8 0, .int .u8 0, .int .u8 0] 22) := ⟨_, rfl⟩
                obtain ⟨go, hgo⟩ : ∃ g, g = w5.heap.size := ⟨_, rfl⟩
                have KO := Lib.hid (show Blk w6 go 22 (bvs (V.out.take 0 ++ List.replicate (32 - 0) 0)).toArray by rw [hw6, hgo]; exact Blk.new _ _ _)
                replace KV := Lib.hid (show Blk w6 gh 64 (u32s V.list).toArray by rw [hw6]; exact KV.out.alloc _)
                replace Kq := Lib.hid (show Blk w6 gq 22 (bvs (List.replicate 32 0)).toArray by rw [hw6]; exact Kq.out.alloc _)
                have hgho : gh < go := by have h2 := HGl.out; omega
                replace B5 := Lib.hid (show Below w.heap.size w w6 by rw [hw6]; exact B5.out.alloc B5.out.size _)
                have hgo2 := Lib.hid (show w.heap.size ≤ go by rw [hgo]; exact B5s.out)
                rw [← hw6, ← hgo]
                clear hw6 hgo
                go_cut [] (fun wx => Hid (Blk wx go 22 (bvs V.out).toArray) ∧ Hid (w6.grownBy wx (some go)))
                case first =>
                  have G0 := Lib.hid (grown_refl w6 (some go))
                  go_wp2_with fail
                  go_loopw [9] (fun s9 wr => ∃ k : Nat, k ≤ 32 ∧ s9 = .int .i64 (k : Int) ∧ Hid (Blk wr go 22 (bvs (V.out.take k ++ List.replicate (32 - k) 0)).toArray) ∧ Hid (w6.grownBy wr (some go))) (fun s9 _ => 32 - (intOf s9).toNat)
                  case atStart => exact ⟨0, by omega, rfl, KO, G0⟩
                  case round =>
                    clear KO G0
                    obtain ⟨k, hk, rfl, KO, G⟩ := hrel
                    by_cases hlt : k < 32
                    · have hkl : k / 4 < V.list.length := by show k / 4 < 8; omega
                      obtain ⟨x, hx⟩ : ∃ x, x = V.list[k / 4] := ⟨_, rfl⟩
                      have xh : wr.cell? ⟨gh, k / 4, none⟩ = some (.int .u32 (x : Int)) := by rw [hx]; exact wCell (KV.out.grown G.out (by intro e; injection e with e; omega)) hkl
                      have hfree := KO.out.free k
                      have xo : wr.cell? ⟨go, k, none⟩ = some (.int .u8 0) := by
                        rw [KO.out.cell]
                        exact out_cell V hlt
                      have mx : x < 4294967296 := by rw [hx]; exact vlist_lt HV.out hkl
                      have Hn := Lib.hid (out_next V hlt hx)
                      clear hx hkl
                      have Fin : ∀ y : Int, y = ((x / 2 ^ (24 - 8 * (k % 4)) % 256 : Nat) : Int) → Blk (wr.setCell ⟨go, k, none⟩ (.int .u8 y)) go 22 (bvs (V.out.take (k + 1) ++ List.replicate (32 - (k + 1)) 0)).toArray := by
                        intro y hy
                        have h1 := KO.out.set k (bv (UInt8.ofNat (x / 2 ^ (24 - 8 * (k % 4)))))
                        rw [List.setIfInBounds_toArray, Hn.out, show bv (UInt8.ofNat (x / 2 ^ (24 - 8 * (k % 4)))) = .int .u8 y by rw [hy]; unfold bv; rw [UInt8.toNat_ofNat']] at h1
                        exact h1
                      replace Fin := Lib.hid Fin
                      have hb : (k : Int) % 4 = 0 ∨ (k : Int) % 4 = 1 ∨ (k : Int) % 4 = 2 ∨ (k : Int) % 4 = 3 := by omega
                      have kk : IntKind.i64.wrap ((k : Int) + 1) = ((k + 1 : Nat) : Int) := by rw [IntKind.wrap_i64]; omega
                      have u0 : (0 : Int) ≤ (k : Int) / 4 := by omega
                      have u1 : (k : Int) / 4 < 8 := by omega
                      rcases hb with hb | hb | hb | hb
                      · have hp : 2 ^ (24 - 8 * (k % 4)) = 16777216 := by rw [show k % 4 = 0 by omega]
                        go_wp2_with fail
                        exact ⟨⟨k + 1, by omega, rfl, Lib.hid (Fin.out _ (by rw [hp]; omega)), Lib.hid (grown_setCell G.out (.inl rfl) _)⟩, by simp [intOf]; omega⟩
                      · have hp : 2 ^ (24 - 8 * (k % 4)) = 65536 := by rw [show k % 4 = 1 by omega]
                        go_wp2_with fail
                        exact ⟨⟨k + 1, by omega, rfl, Lib.hid (Fin.out _ (by rw [hp]; omega)), Lib.hid (grown_setCell G.out (.inl rfl) _)⟩, by simp [intOf]; omega⟩
                      · have hp : 2 ^ (24 - 8 * (k % 4)) = 256 := by rw [show k % 4 = 2 by omega]
                        go_wp2_with fail
                        exact ⟨⟨k + 1, by omega, rfl, Lib.hid (Fin.out _ (by rw [hp]; omega)), Lib.hid (grown_setCell G.out (.inl rfl) _)⟩, by simp [intOf]; omega⟩
                      · have hp : 2 ^ (24 - 8 * (k % 4)) = 1 := by rw [show k % 4 = 3 by omega]
                        go_wp2_with fail
                        exact ⟨⟨k + 1, by omega, rfl, Lib.hid (Fin.out _ (by rw [hp]; omega)), Lib.hid (grown_setCell G.out (.inl rfl) _)⟩, by simp [intOf]; omega⟩
                    · obtain rfl : k = 32 := by omega
                      have K9 := Lib.hid (show Blk wr go 22 (bvs V.out).toArray by have := KO.out; rw [List.take_of_length_le (by simp [Sha.V.out])] at this; simpa using this)
                      go_wp2_with fail
                      go_meet
                      exact ⟨K9, G⟩
                case rest =>
                  clear KO
                  obtain ⟨KO, G⟩ := hcut
                  obtain ⟨w7, rfl⟩ : ∃ w7 : World, w7 = wc := ⟨_, rfl⟩
                  have Kq7 := Lib.hid (Kq.out.grown G.out (by intro e; injection e with e; omega))
                  have B7 := Lib.hid (below_grown B5.out G.out (fun k e => by injection e with e; have := hgo2.out; omega))
                  clear KV G Kq B5
                  obtain ⟨Z, hZ⟩ : ∃ Z, Z = (bvs V.out).toArray := ⟨_, rfl⟩
                  have hZs : Z.size = 32 := by rw [hZ]; simp [bvs, out_len]
                  have Hi32 := Lib.hid (show (Tryz.prog.info? 22).map (·.size) = some Z.size by rw [hZs]; exact info32)
                  have Ht := Lib.hid (show w7.there gq 0 Z.size from Kq7.out.there (by rw [hZs]; rfl))
                  have Ho := Lib.hid (show Z.all (·.oneCell') = true by rw [hZ]; exact all_oneCell_toArray (fun u hu => by unfold bvs at hu; obtain ⟨_, _, rfl⟩ := List.mem_map.1 hu; rfl))
                  have KZ := Lib.hid (show Blk w7 go 22 Z by rw [hZ]; exact KO.out)
                  have K8 := Lib.hid (show Blk (w7.setCells gq 0 Z.toList) gq 22 Z from Kq7.out.over (vs := Z.toList) (by rw [Array.length_toList, hZs]; rfl))
                  have B8 := Lib.hid (show Below w.heap.size w (w7.setCells gq 0 Z.toList) from below_grown B7.out (grown_setCells gq Z.toList 0 (grown_refl w7 (some gq))) (fun k e => by injection e with e; have := Hgq.out; omega))
                  have HZ := Lib.hid hZ
                  clear hZ hZs
                  have hres := results_cell_row (P := Tryz.prog) Tryz.results27
                  go_wp2_with (first | ((refine wpList_load_row rfl 22 _ (by rfl) go (by rfl) 22 Z (0, 0) _ KZ.out Tryz.underlying22 rfl Hi32.out ?_)) | ((refine wpList_store_mid rfl 22 _ _ (by rfl) gq 0 Z (by rfl) (by rfl) Ht.out Hi32.out Ho.out ?_)))
                  exact bodyPost_ret (hres _ _ gq _ _ (0, 0) _ rfl K8.out Tryz.underlying22 rfl Hi32.out) rfl ⟨by rw [HZ.out, HS.out], B8.out⟩
        · have ht : ((n3 : Int) % 64 != 56) = true := by
            have h1 := Hz.out
            unfold padZ at h1
            have : ¬ (n3 : Int) % 64 = 56 := by omega
            simpa using this
          have e : (l ++ 128 :: List.replicate j 0) ++ [0] = l ++ 128 :: List.replicate (j + 1) 0 := by rw [List.append_assoc, List.cons_append, ← List.replicate_succ']
          have He := Lib.hid e
          have Hn3 := Lib.hid hn3
          have hb3 : n3 ≤ 1000064 := by omega
          clear e hn3
          go_wp2_with (at_builtin; refine wpList_app rfl _ _ rfl (by rfl) (by rfl) (HO.out.alloc _) (oneBs wr 0 rfl) (by have := HO.out.len; simp at this ⊢; omega) (by simp; omega) ?_; intro v' w4 ho hg hnn hmv; have HO2 := Lib.hid (show Own w4 w1.heap.size v' (l ++ 128 :: List.replicate (j + 1) 0) by rw [← He.out]; exact ho); have HB2 := Lib.hid ((HB.out.alloc hsz _).trans (below_of_own (HO.out.alloc _) hg (by simp; omega))); clear ho hg hnn hmv)
          obtain ⟨A4, n4, c4, rfl⟩ := hid_exists_bs' HO2.out.bs
          have hn4 : n4 = n + 1 + (j + 1) := by have := HO2.out.len; rw [hn.out]; simp at this; omega
          exact ⟨⟨j + 1, A4, n4, c4, by omega, rfl, HO2, HB2⟩, by have := Hn3.out; simp [sliceLen]; omega⟩
end
end Go.Proofs.YteodhonipbdplaaGreatDoor

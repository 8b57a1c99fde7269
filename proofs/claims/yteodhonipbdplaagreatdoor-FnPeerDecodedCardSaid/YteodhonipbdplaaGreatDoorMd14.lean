/- Base 32's decode, in place, of a text that Encode wrote. -/
import Derived.Test.YteodhonipbdplaaGreatDoorMd13
import Derived.Deep.CutBlock
import Derived.Deep.DeepCutAuto
namespace Go.Proofs.YteodhonipbdplaaGreatDoor
open Go.RowKit
set_option maxRecDepth 100000
/-- a group of bytes and its digits -/
def Grp (bs : List UInt8) (X : List Nat) : Prop :=
  (∃ a b c d e : UInt8, bs = [a, b, c, d, e] ∧ X = [a.toNat / 8, a.toNat % 8 * 4 + b.toNat / 64, b.toNat / 2 % 32, b.toNat % 2 * 16 + c.toNat / 16, c.toNat % 16 * 2 + d.toNat / 128, d.toNat / 4 % 32, d.toNat % 4 * 8 + e.toNat / 32, e.toNat % 32]) ∨ (∃ a b c d : UInt8, bs = [a, b, c, d] ∧ X = [a.toNat / 8, a.toNat % 8 * 4 + b.toNat / 64, b.toNat / 2 % 32, b.toNat % 2 * 16 + c.toNat / 16, c.toNat % 16 * 2 + d.toNat / 128, d.toNat / 4 % 32, d.toNat % 4 * 8]) ∨ (∃ a b c : UInt8, bs = [a, b, c] ∧ X = [a.toNat / 8, a.toNat % 8 * 4 + b.toNat / 64, b.toNat / 2 % 32, b.toNat % 2 * 16 + c.toNat / 16, c.toNat % 16 * 2]) ∨ (∃ a b : UInt8, bs = [a, b] ∧ X = [a.toNat / 8, a.toNat % 8 * 4 + b.toNat / 64, b.toNat / 2 % 32, b.toNat % 2 * 16]) ∨ (∃ a : UInt8, bs = [a] ∧ X = [a.toNat / 8, a.toNat % 8 * 4])
theorem five_forms : ∀ m : List UInt8, m ≠ [] → ∃ bs X m', m = bs ++ m' ∧ B32.five m = X ++ B32.five m' ∧ Grp bs X ∧ (X.length = 8 ∨ (X.length < 8 ∧ m' = []))
  | a :: b :: c :: d :: e :: t, _ => ⟨[a, b, c, d, e], _, t, rfl, by rw [B32.five], .inl ⟨a, b, c, d, e, rfl, rfl⟩, .inl rfl⟩
  | [a, b, c, d], _ => ⟨[a, b, c, d], B32.five [a, b, c, d], [], rfl, by simp [B32.five], .inr (.inl ⟨a, b, c, d, rfl, by simp [B32.five]⟩), .inr ⟨by simp [B32.five], rfl⟩⟩
  | [a, b, c], _ => ⟨[a, b, c], B32.five [a, b, c], [], rfl, by simp [B32.five], .inr (.inr (.inl ⟨a, b, c, rfl, by simp [B32.five]⟩)), .inr ⟨by simp [B32.five], rfl⟩⟩
  | [a, b], _ => ⟨[a, b], B32.five [a, b], [], rfl, by simp [B32.five], .inr (.inr (.inr (.inl ⟨a, b, rfl, by simp [B32.five]⟩))), .inr ⟨by simp [B32.five], rfl⟩⟩
  | [a], _ => ⟨[a], B32.five [a], [], rfl, by simp [B32.five], .inr (.inr (.inr (.inr ⟨a, rfl, by simp [B32.five]⟩))), .inr ⟨by simp [B32.five], rfl⟩⟩
  | [], h => absurd rfl h
/-- the row: a bytes told, and the text from p on -/
def Ft (F : List UInt8) (C a q : Nat) (D T : List UInt8) : Prop := F.length = C ∧ F.take a = D ∧ ∀ i (h : i < T.length), F[q + i]? = some (T[i]'h)
theorem Ft.pack {A xs G bs D T : List UInt8} {C a q k : Nat} (h : Ft (A ++ (xs ++ G)) C a q D T) (hA : A.length = a) (hx : xs.length = bs.length) (haq : a ≤ q) (hk : bs.length ≤ k) :
    Ft (A ++ (bs ++ G)) C (a + bs.length) (q + k) (D ++ bs) (T.drop k) := by
  obtain ⟨h1, h2, h3⟩ := h
  refine ⟨by rw [← h1]; simp [hx], ?_, fun i hi => ?_⟩
  · have e : A = D := by rw [← h2, List.take_append_of_le_length (by omega), List.take_of_length_le (by omega)]
    rw [← List.append_assoc, List.take_append_of_le_length (by simp; omega), List.take_of_length_le (by simp; omega), e]
  · rw [List.length_drop] at hi
    have h4 := h3 (k + i) (by omega)
    rw [← List.append_assoc, List.getElem?_append_right (by simp; omega)] at h4 ⊢
    rw [List.getElem_drop, ← h4]
    congr 1
    simp
    omega
theorem split_at {F : List UInt8} {a r : Nat} (h : a + r ≤ F.length) : ∃ A xs G, F = A ++ (xs ++ G) ∧ A.length = a ∧ xs.length = r :=
  ⟨F.take a, (F.drop a).take r, (F.drop a).drop r, by rw [List.take_append_drop, List.take_append_drop], by rw [List.length_take]; omega, by rw [List.length_take, List.length_drop]; omega⟩
theorem put5 {A G : List UInt8} {a : Nat} {y0 y1 y2 y3 y4 b0 b1 b2 b3 b4 : UInt8} (h : A.length = a) : (((((A ++ ([y0, y1, y2, y3, y4] ++ G)).set (a + 4) b4).set (a + 3) b3).set (a + 2) b2).set (a + 1) b1).set a b0 = A ++ ([b0, b1, b2, b3, b4] ++ G) := by
  subst h; simp [List.set_append_right]
theorem put4 {A G : List UInt8} {a : Nat} {y0 y1 y2 y3 b0 b1 b2 b3 : UInt8} (h : A.length = a) : ((((A ++ ([y0, y1, y2, y3] ++ G)).set (a + 3) b3).set (a + 2) b2).set (a + 1) b1).set a b0 = A ++ ([b0, b1, b2, b3] ++ G) := by
  subst h; simp [List.set_append_right]
theorem put3 {A G : List UInt8} {a : Nat} {y0 y1 y2 b0 b1 b2 : UInt8} (h : A.length = a) : (((A ++ ([y0, y1, y2] ++ G)).set (a + 2) b2).set (a + 1) b1).set a b0 = A ++ ([b0, b1, b2] ++ G) := by
  subst h; simp [List.set_append_right]
theorem put2 {A G : List UInt8} {a : Nat} {y0 y1 b0 b1 : UInt8} (h : A.length = a) : ((A ++ ([y0, y1] ++ G)).set (a + 1) b1).set a b0 = A ++ ([b0, b1] ++ G) := by
  subst h; simp [List.set_append_right]
theorem put1 {A G : List UInt8} {a : Nat} {y0 b0 : UInt8} (h : A.length = a) : (A ++ ([y0] ++ G)).set a b0 = A ++ ([b0] ++ G) := by
  subst h; simp [List.set_append_right]
theorem slice1 {gb o n c : Nat} (hn : 1 ≤ n) (hc : n ≤ c) : ∃ o1, (∀ W : World, (Instr.slice 23 (.slice (some ⟨gb, o, none⟩) n c) (some (.int .i64 1)) none none).run Tryz.prog W = .ok (.slice (some ⟨gb, o1, none⟩) (n - 1) (c - 1)) W) ∧ (1 < n → o1 = o + 1) := by
  obtain ⟨i0, hi, hz0, hz1, hz2⟩ := info_parts Tryz.info5
  have hs : Tryz.prog.elem 23 = 5 := by kernel_rfl
  have hu : Tryz.prog.underlying 23 = some (.slice (Tryz.prog.elem 23)) := by rw [hs]; exact Tryz.underlying23
  have e : (⟨gb, o, none⟩ : Addr).add 1 = ⟨gb, o + 1, none⟩ := rfl
  have hrun : ∀ W : World, (Instr.slice 23 (.slice (some ⟨gb, o, none⟩) n c) (some (.int .i64 1)) none none).run Tryz.prog W = .ok (.slice (if c = 1 then some ⟨gb, o, none⟩ else some ⟨gb, o + 1, none⟩) (n - 1) (c - 1)) W := fun W => by
    rw [run_slice_l W 23 _ n c hu .i64 1 (by omega) (by omega)]
    simp [hs, sizeOf, typeInfo, sliced, hi, hz1, e]
  by_cases h1 : c = 1
  · exact ⟨o, fun W => by rw [hrun W, if_pos h1], fun h => by omega⟩
  · exact ⟨o + 1, fun W => by rw [hrun W, if_neg h1], fun _ => rfl⟩
theorem slice5 {gb o n c : Nat} (hn : 5 < n) (hc : n ≤ c) (W : World) : (Instr.slice 23 (.slice (some ⟨gb, o, none⟩) n c) (some (.int .i64 5)) none none).run Tryz.prog W = .ok (.slice (some ⟨gb, o + 5, none⟩) (n - 5) (c - 5)) W := by
  obtain ⟨i0, hi, hz0, hz1, hz2⟩ := info_parts Tryz.info5
  have hs : Tryz.prog.elem 23 = 5 := by kernel_rfl
  have hu : Tryz.prog.underlying 23 = some (.slice (Tryz.prog.elem 23)) := by rw [hs]; exact Tryz.underlying23
  have e : (⟨gb, o, none⟩ : Addr).add 5 = ⟨gb, o + 5, none⟩ := rfl
  have hne : ¬ c = 5 := by omega
  rw [run_slice_l W 23 _ n c hu .i64 5 (by omega) (by omega)]
  simp [hs, sizeOf, typeInfo, sliced, hi, hz1, e, hne]
theorem Enc32.kept {w w' : World} {g gb : Nat} {A M : List UInt8} {q : Int} (h : Enc32 w g A M q) (hg : w.grownBy w' (some gb)) (hne : g ≠ gb) : Enc32 w' g A M q := ⟨h.1, h.2.grown hg (by intro e; injection e with e; exact hne e)⟩
theorem zero8 : (#[.int .u8 0, .int .u8 0, .int .u8 0, .int .u8 0, .int .u8 0, .int .u8 0, .int .u8 0, .int .u8 0] : Array Value) = (bvs (List.replicate 8 0)).toArray := rfl
theorem take_set8 {X : List Nat} {j k : Nat} (hk : X.length = k) (hk8 : k ≤ 8) (hj : j < k) : ((X.take j).map UInt8.ofNat ++ List.replicate (8 - j) 0).set j (UInt8.ofNat (X[j]'(by omega))) = (X.take (j + 1)).map UInt8.ofNat ++ List.replicate (8 - (j + 1)) 0 := by
  have hl : ((X.take j).map UInt8.ofNat).length = j := by simp; omega
  rw [List.set_append_right _ _ (by omega), hl, Nat.sub_self]
  obtain ⟨n, hn⟩ : ∃ n, 8 - j = n + 1 := ⟨7 - j, by omega⟩
  rw [hn, show 8 - (j + 1) = n by omega, List.replicate_succ, List.set_cons_zero, List.take_succ_eq_append_getElem (by omega), List.map_append, List.append_assoc]
  rfl
section
variable {w : World} {l : List UInt8} {g gb : Nat} {t : TypeId}
set_option maxHeartbeats 16000000 in
theorem dec32 (h : Enc32 w g upAlpha (mapK upAlpha 32) (-1)) {F0 : List UInt8} {N C : Nat} (hK : Bm w gb t (bvs F0).toArray) (hF : Ft F0 C 0 0 [] (B32.enc B32.alpha l)) (hN : N = (B32.enc B32.alpha l).length) (hNC : N ≤ C) (hl0 : 0 < N) (hl : N ≤ 2000) (hg : g ≠ gb) :
    Calls Tryz.prog 162 #[.pointer (some ⟨g, 0, none⟩), .slice (some ⟨gb, 0, none⟩) N C, .slice (some ⟨gb, 0, none⟩) N C] w fun e w' => e = .returned (.tuple #[.int .i64 (l.length : Int), .bool false, .nilIface]) ∧ (∃ F, F.length = C ∧ F.take l.length = l ∧ Bm w' gb t (bvs F).toArray) ∧ w.grownBy w' (some gb) := by
  have H := Lib.hid h
  have HK := Lib.hid hK
  have HF := Lib.hid hF
  have HN := Lib.hid hN
  have hgw := World.block_lt_of_cell? w _ h.str
  have hbw := hK.lt
  have Hll := Lib.hid (show l.length ≤ 2000 by rw [B32.enc_length] at hN; omega)
  clear h hK hF hN
  go_enter Tryz.func162, Tryz.ntmps162
  go_wp2_with fail
  go_loopw [1, 2, 6, 7] (fun s1 s2 s6 s7 wr => ∃ (a q n o cq : Nat) (m D F : List UInt8), s2 = .slice (some ⟨gb, o, none⟩) n cq ∧ s6 = .int .i64 (a : Int) ∧ s7 = .bool false ∧ n ≤ 2000 ∧ a ≤ 2000 ∧ a ≤ q ∧ n ≤ cq ∧ Hid (n = (B32.five m).length) ∧ Hid (m ≠ [] → s1 = .slice (some ⟨gb, a, none⟩) (N - a) (C - a)) ∧ Hid (0 < n → o = q) ∧ Hid (q + n = N) ∧ Hid (l = D ++ m) ∧ Hid (D.length = a) ∧ Hid (Ft F C a q D ((B32.five m).map (B32.letter B32.alpha))) ∧ Hid (Bm wr gb t (bvs F).toArray) ∧ Hid (w.grownBy wr (some gb))) (fun _ s2 _ _ _ => match s2 with | .slice _ n _ => n | _ => 0)
  case atStart => exact ⟨0, 0, N, 0, C, l, [], F0, rfl, rfl, rfl, hl, by omega, by omega, hNC, Lib.hid (by rw [HN.out, B32.enc, List.length_map, B32.feed_five]), Lib.hid (fun _ => rfl), Lib.hid (fun _ => rfl), Lib.hid (by omega), Lib.hid rfl, Lib.hid rfl, Lib.hid (by have := HF.out; rw [B32.enc, B32.feed_five] at this; exact this), HK, Lib.hid (grown_refl w (some gb))⟩
  case round =>
    obtain ⟨a, q, n, o, cq, m, D, F, rfl, rfl, rfl, hn2, ha2, haq, hncq, Hn, Hs1, Ho, HqN, Hl, HD, HFt, HB, HG⟩ := hrel
    by_cases hm : m = []
    · subst hm
      obtain rfl : n = 0 := Hn.out
      have Hla := Lib.hid (show (l.length : Int) = (a : Int) by rw [Hl.out, List.append_nil, HD.out])
      have Hlt := Lib.hid (show F.length = C ∧ F.take l.length = l by
        have h1 := HFt.out.2.1
        have h2 := Hl.out
        rw [List.append_nil] at h2
        have h3 : l.length = a := by rw [h2, HD.out]
        exact ⟨HFt.out.1, by rw [h3, h1, h2]⟩)
      clear Hs1
      go_wp2_with fail
      go_ret3
      exact ⟨by rw [Hla.out]; rfl, ⟨F, Hlt.out.1, Hlt.out.2, HB.out⟩, HG.out⟩
    · obtain ⟨bs, X, m', hmm, hfv, hgrp, hX8⟩ := five_forms m hm
      have hs1 := Hs1.out hm
      obtain ⟨k, hk⟩ : ∃ k, k = X.length := ⟨_, rfl⟩
      have hXn : n = k + (B32.five m').length := by rw [Hn.out, hfv, List.length_append, hk]
      have hk8 : k ≤ 8 := by omega
      have hk0 : 0 < k := by
        rw [hk]
        rcases hgrp with ⟨_, _, _, _, _, _, h⟩ | ⟨_, _, _, _, _, h⟩ | ⟨_, _, _, _, h⟩ | ⟨_, _, _, h⟩ | ⟨_, _, h⟩ <;> rw [h] <;> simp
      have hn0 : 0 < n := by omega
      have hkn0 : k ≤ n := by omega
      have HX32 := Lib.hid (show ∀ i (hi : i < X.length), X[i] < 32 from fun i hi => five_lt m _ (by rw [hfv]; exact List.mem_append_left _ (List.getElem_mem hi)))
      have Hk8 := Lib.hid (show k = 8 ∨ (k < 8 ∧ n = k) by
        rcases hX8 with h | ⟨h, h2⟩
        · exact .inl (by omega)
        · subst h2
          exact .inr ⟨by omega, by rw [hXn]; simp [B32.five]⟩)
      have Hlet := Lib.hid (show ∀ i (hi : i < X.length), F[q + i]? = some (B32.letter B32.alpha X[i]) from fun i hi => by
        have h1 := HFt.out.2.2 i (by rw [List.length_map, hfv, List.length_append]; omega)
        have h2 : ((B32.five m).map (B32.letter B32.alpha))[i]? = some (B32.letter B32.alpha X[i]) := by
          rw [hfv, List.map_append, List.getElem?_append_left (by simpa using hi), List.getElem?_map, List.getElem?_eq_getElem hi]
          rfl
        rw [h1, ← List.getElem?_eq_getElem]
        exact h2)
      have Hgrp := Lib.hid hgrp
      have Hmm := Lib.hid hmm
      have Hfv := Lib.hid hfv
      have Hkx := Lib.hid hk
      have HXn := Lib.hid hXn
      have HX8 := Lib.hid hX8
      obtain rfl : o = q := Ho.out hn0
      subst hs1
      have ho2 : o + n = N := HqN.out
      clear hgrp hmm hfv hk hXn hX8 hm Hs1 Ho HqN Hn
      obtain ⟨gd, hgd⟩ : ∃ x, x = wr.heap.size := ⟨_, rfl⟩
      have KD := Lib.hid (show Blk (wr.alloc (.cells #[.int .u8 0, .int .u8 0, .int .u8 0, .int .u8 0, .int .u8 0, .int .u8 0, .int .u8 0, .int .u8 0] 204)) gd 204 (bvs ((X.take 0).map UInt8.ofNat ++ List.replicate (8 - 0) 0)).toArray by rw [hgd, zero8]; exact Blk.new _ _ _)
      have KB := Lib.hid (HB.out.alloc (.cells #[.int .u8 0, .int .u8 0, .int .u8 0, .int .u8 0, .int .u8 0, .int .u8 0, .int .u8 0, .int .u8 0] 204))
      have HG2 := Lib.hid (show w.grownBy (wr.alloc (.cells #[.int .u8 0, .int .u8 0, .int .u8 0, .int .u8 0, .int .u8 0, .int .u8 0, .int .u8 0, .int .u8 0] 204)) (some gb) from grown_step HG.out (below_alloc _ _))
      have hbd : gb < gd := by rw [hgd]; exact HB.out.lt
      have hwd : w.heap.size ≤ gd := by rw [hgd]; exact HG.out.size
      have Hgd := Lib.hid hgd
      clear hgd HB HG
      go_upto_block 2 with fail
      rw [← Hgd.out]
      generalize wr.alloc (.cells #[.int .u8 0, .int .u8 0, .int .u8 0, .int .u8 0, .int .u8 0, .int .u8 0, .int .u8 0, .int .u8 0] 204) = w1 at *
      go_cut [2, 6, 7, 11] (fun s2 s6 s7 s11 wx => ∃ o2 : Nat, s2 = .slice (some ⟨gb, o2, none⟩) (n - k) (cq - k) ∧ s6 = .int .i64 (a : Int) ∧ s7 = .bool false ∧ s11 = .int .i64 (k : Int) ∧ Hid (k < n → o2 = o + k) ∧ Hid (Blk wx gd 204 (bvs (X.map UInt8.ofNat ++ List.replicate (8 - k) 0)).toArray) ∧ Hid (Bm wx gb t (bvs F).toArray) ∧ Hid (w.grownBy wx (some gb)))
      case first =>
        as_aux_lemma =>
          go_wp2_with fail
          go_loopw [2, 6, 7, 11, 12] (fun s2 s6 s7 s11 s12 wr => ∃ j o2 : Nat, s6 = .int .i64 (a : Int) ∧ s7 = .bool false ∧ j ≤ k ∧ s12 = .int .i64 (j : Int) ∧ s2 = .slice (some ⟨gb, o2, none⟩) (n - j) (cq - j) ∧ s11 = .int .i64 8 ∧ Hid (j < n → o2 = o + j) ∧ Hid (Blk wr gd 204 (bvs ((X.take j).map UInt8.ofNat ++ List.replicate (8 - j) 0)).toArray) ∧ Hid (Bm wr gb t (bvs F).toArray) ∧ Hid (w.grownBy wr (some gb))) (fun _ _ _ _ s12 _ => 8 - (intOf s12).toNat)
          case atStart => exact ⟨0, o, rfl, rfl, Nat.zero_le _, rfl, rfl, rfl, Lib.hid (fun _ => rfl), KD, KB, HG2⟩
          case round =>
            clear KD KB HG2
            obtain ⟨j, o2, rfl, rfl, hj, rfl, rfl, rfl, Ho2, KD, KB, HG⟩ := hrel
            by_cases hjk : j < k
            · have hj8 : (j : Int) < 8 := by omega
              have hjn : j < n := by omega
              obtain rfl : o2 = o + j := Ho2.out hjn
              obtain ⟨n1, hn1⟩ : ∃ n1, n1 = n - j := ⟨_, rfl⟩
              obtain ⟨c1, hc1⟩ : ∃ c1, c1 = cq - j := ⟨_, rfl⟩
              have hjX : j < X.length := by rw [← Hkx.out]; exact hjk
              obtain ⟨x, hx⟩ : ∃ x, x = X[j] := ⟨_, rfl⟩
              have hx32 : x < 32 := by rw [hx]; exact HX32.out j hjX
              obtain ⟨y, hy⟩ : ∃ y : Nat, y = (B32.letter B32.alpha x).toNat := ⟨_, rfl⟩
              have hy1 : (B32.letter B32.alpha x).toNat ≤ 122 ∧ 50 ≤ (B32.letter B32.alpha x).toNat := letter32 ⟨x, hx32⟩
              have hy2 : (mapK upAlpha 32)[(B32.letter B32.alpha x).toNat]? = some (UInt8.ofNat x) := mapBack ⟨x, hx32⟩
              have hcy : wr.cell? ⟨gb, o + j, none⟩ = some (.int .u8 (y : Int)) := by
                have h1 := Hlet.out j hjX
                obtain ⟨h2, h3⟩ := List.getElem?_eq_some_iff.1 h1
                rw [bmLies KB.out h2, h3, hy, hx, bv]
              have hmy : wr.cell? ⟨g, 1 + y, none⟩ = some (.int .u8 (x : Int)) := by
                have h0 := H.out.kept HG.out hg
                have hy3 : y < (mapK upAlpha 32).length := by rw [mapK_length]; have := hy1.1; rw [hy]; omega
                rw [h0.at_ hy3]
                have h4 : (mapK upAlpha 32)[y]? = some (UInt8.ofNat x) := by rw [hy]; exact hy2
                have h5 := (List.getElem?_eq_some_iff.1 h4).2
                rw [h5]
                unfold bv
                rw [UInt8.toNat_ofNat']
                congr 2
                omega
              have hp := (H.out.kept HG.out hg).pad
              have hy255 : ¬ (y : Int) = 255 := by have := hy1.1; omega
              have hy256 : (y : Int) < 256 := by have := hy1.1; omega
              have hx255 : ¬ (x : Int) = 255 := by omega
              obtain ⟨d0, hd0⟩ : ∃ v, wr.cell? ⟨gd, j, none⟩ = some v := ⟨_, byteLies KD.out (k := j) (by simp; omega)⟩
              have fd0 := KD.out.free j
              have KD2 := Lib.hid (show Blk (wr.setCell ⟨gd, j, none⟩ (.int .u8 (x : Int))) gd 204 (bvs ((X.take (j + 1)).map UInt8.ofNat ++ List.replicate (8 - (j + 1)) 0)).toArray by
                have h1 := byteSet (k := j) (n := x) KD.out (x := (x : Int)) (by omega)
                rw [hx, take_set8 Hkx.out.symm hk8 hjk] at h1
                rw [hx]
                exact h1)
              have hx1 : (wr.setCell ⟨gd, j, none⟩ (.int .u8 (x : Int))).cell? ⟨gd, j, none⟩ = some (.int .u8 (x : Int)) := by
                have h1 := byteSet (k := j) (n := x) KD.out (x := (x : Int)) (by omega)
                rw [byteLies h1 (k := j) (by simp; omega)]
                simp [bv]
                omega
              have KB2 := Lib.hid (KB.out.far (p := ⟨gd, j, none⟩) (by show gd ≠ gb; omega) (.int .u8 (x : Int)))
              have HG2 := Lib.hid (grown_setCell HG.out (p := ⟨gd, j, none⟩) (.inr hwd) (.int .u8 (x : Int)))
              have hn1p : (0 : Int) < (n1 : Int) := by omega
              have hn10 : ¬ (n1 : Int) = 0 := by omega
              obtain ⟨o3, hs3, ho3⟩ := slice1 (gb := gb) (o := o + j) (n := n1) (c := c1) (by omega) (by omega)
              have Ho3 := Lib.hid (show j + 1 < n → o3 = o + (j + 1) from fun h => by rw [ho3 (by omega)]; omega)
              have Hn1 := Lib.hid (show n1 - 1 = n - (j + 1) ∧ c1 - 1 = cq - (j + 1) by omega)
              rw [← hn1, ← hc1]
              clear hn1 hc1 Ho2 ho3 hx hy hy1 hy2 KD KB
              go_wp2_with fail
              rw [Hn1.out.1, Hn1.out.2]
              exact ⟨⟨j + 1, o3, rfl, rfl, by omega, by go_num, rfl, rfl, Ho3, KD2, KB2, HG2⟩, by simp [intOf]; omega⟩
            · obtain rfl : j = k := by omega
              have Hend := Lib.hid (show Blk wr gd 204 (bvs (X.map UInt8.ofNat ++ List.replicate (8 - j) 0)).toArray by
                have h1 := KD.out
                rw [List.take_of_length_le (by rw [← Hkx.out]; exact Nat.le_refl _)] at h1
                exact h1)
              have hp := (H.out.kept HG.out hg).pad
              rcases Hk8.out with rfl | ⟨hlt8, hnk⟩
              · clear KD
                go_wp2_with fail
                go_meet
                exact ⟨o2, rfl, rfl, rfl, rfl, Ho2, Hend, KB, HG⟩
              · subst hnk
                have hj8 : (n : Int) < 8 := by omega
                have hnn : n - n = 0 := by omega
                clear KD
                rw [hnn]
                go_wp2_with fail
                go_meet
                exact ⟨o2, by first | rfl | (rw [hnn]), rfl, rfl, rfl, Ho2, Hend, KB, HG⟩
      case rest =>
        obtain ⟨o2, rfl, rfl, rfl, rfl, Ho2, KD3, KB3, HG3⟩ := hcut
        clear KD KB HG2
        rcases Hgrp.out with ⟨b0, b1, b2, b3, b4, hbs, hX⟩ | ⟨b0, b1, b2, b3, hbs, hX⟩ | ⟨b0, b1, b2, hbs, hX⟩ | ⟨b0, b1, hbs, hX⟩ | ⟨b0, hbs, hX⟩
        · as_aux_lemma =>
            obtain rfl : k = 8 := by rw [Hkx.out, hX]; rfl
            obtain ⟨z0, hz0⟩ : ∃ z, z = b0.toNat := ⟨_, rfl⟩
            have zl0 : z0 ≤ 255 := by have := UInt8.toNat_lt b0; omega
            obtain ⟨z1, hz1⟩ : ∃ z, z = b1.toNat := ⟨_, rfl⟩
            have zl1 : z1 ≤ 255 := by have := UInt8.toNat_lt b1; omega
            obtain ⟨z2, hz2⟩ : ∃ z, z = b2.toNat := ⟨_, rfl⟩
            have zl2 : z2 ≤ 255 := by have := UInt8.toNat_lt b2; omega
            obtain ⟨z3, hz3⟩ : ∃ z, z = b3.toNat := ⟨_, rfl⟩
            have zl3 : z3 ≤ 255 := by have := UInt8.toNat_lt b3; omega
            obtain ⟨z4, hz4⟩ : ∃ z, z = b4.toNat := ⟨_, rfl⟩
            have zl4 : z4 ≤ 255 := by have := UInt8.toNat_lt b4; omega
            obtain ⟨x0, hx0⟩ : ∃ x : Nat, x = z0 / 8 := ⟨_, rfl⟩
            obtain ⟨x1, hx1⟩ : ∃ x : Nat, x = z0 % 8 * 4 + z1 / 64 := ⟨_, rfl⟩
            obtain ⟨x2, hx2⟩ : ∃ x : Nat, x = z1 / 2 % 32 := ⟨_, rfl⟩
            obtain ⟨x3, hx3⟩ : ∃ x : Nat, x = z1 % 2 * 16 + z2 / 16 := ⟨_, rfl⟩
            obtain ⟨x4, hx4⟩ : ∃ x : Nat, x = z2 % 16 * 2 + z3 / 128 := ⟨_, rfl⟩
            obtain ⟨x5, hx5⟩ : ∃ x : Nat, x = z3 / 4 % 32 := ⟨_, rfl⟩
            obtain ⟨x6, hx6⟩ : ∃ x : Nat, x = z3 % 4 * 8 + z4 / 32 := ⟨_, rfl⟩
            obtain ⟨x7, hx7⟩ : ∃ x : Nat, x = z4 % 32 := ⟨_, rfl⟩
            have hXx : X = [x0, x1, x2, x3, x4, x5, x6, x7] := by rw [hX, hx0, hx1, hx2, hx3, hx4, hx5, hx6, hx7, hz0, hz1, hz2, hz3, hz4]
            have xl0 : x0 < 256 := by rw [hx0]; omega
            have xl1 : x1 < 256 := by rw [hx1]; omega
            have xl2 : x2 < 256 := by rw [hx2]; omega
            have xl3 : x3 < 256 := by rw [hx3]; omega
            have xl4 : x4 < 256 := by rw [hx4]; omega
            have xl5 : x5 < 256 := by rw [hx5]; omega
            have xl6 : x6 < 256 := by rw [hx6]; omega
            have xl7 : x7 < 256 := by rw [hx7]; omega
            have ey4 : bits .or .u8 ((x6 : Int) * 32 % 256) (x7 : Int) = (z4 : Int) := by
              have := pk4 (x6 := x6) (x7 := x7) (e := z4) (by rw [hx6]; omega) hx7 zl4
              simpa only [IntKind.wrap_u8] using this
            have ey3 : bits .or .u8 (bits .or .u8 ((x4 : Int) * 128 % 256) ((x5 : Int) * 4 % 256)) ((x6 : Int) / 8) = (z3 : Int) := by
              have := pk3 (x4 := x4) (x5 := x5) (x6 := x6) (d := z3) (by rw [hx4]; omega) hx5 (by rw [hx6]; omega) zl3
              simpa only [IntKind.wrap_u8] using this
            have ey2 : bits .or .u8 ((x3 : Int) * 16 % 256) ((x4 : Int) / 2) = (z2 : Int) := by
              have := pk2 (x3 := x3) (x4 := x4) (c := z2) (by rw [hx3]; omega) (by rw [hx4]; omega) zl2
              simpa only [IntKind.wrap_u8] using this
            have ey1 : bits .or .u8 (bits .or .u8 ((x1 : Int) * 64 % 256) ((x2 : Int) * 2 % 256)) ((x3 : Int) / 16) = (z1 : Int) := by
              have := pk1 (x1 := x1) (x2 := x2) (x3 := x3) (b := z1) (by rw [hx1]; omega) hx2 (by rw [hx3]; omega) zl1
              simpa only [IntKind.wrap_u8] using this
            have ey0 : bits .or .u8 ((x0 : Int) * 8 % 256) ((x1 : Int) / 4) = (z0 : Int) := by
              have := pk0 (x0 := x0) (x1 := x1) (a := z0) hx0 (by rw [hx1]; omega) zl0
              simpa only [IntKind.wrap_u8] using this
            have Hz := Lib.hid (show b0 = UInt8.ofNat z0 ∧ b1 = UInt8.ofNat z1 ∧ b2 = UInt8.ofNat z2 ∧ b3 = UInt8.ofNat z3 ∧ b4 = UInt8.ofNat z4 from ⟨by rw [hz0]; simp, by rw [hz1]; simp, by rw [hz2]; simp, by rw [hz3]; simp, by rw [hz4]; simp⟩)
            have Hx0 := Lib.hid hx0
            have Hx1 := Lib.hid hx1
            have Hx2 := Lib.hid hx2
            have Hx3 := Lib.hid hx3
            have Hx4 := Lib.hid hx4
            have Hx5 := Lib.hid hx5
            have Hx6 := Lib.hid hx6
            have Hx7 := Lib.hid hx7
            clear hx0 hx1 hx2 hx3 hx4 hx5 hx6 hx7 hz0 hz1 hz2 hz3 hz4
            have hkn : 8 ≤ n := by have := HXn.out; omega
            obtain ⟨A, xs, G, hAF, hAl, hxs⟩ := split_at (F := F) (a := a) (r := 5) (by rw [HFt.out.1]; omega)
            obtain ⟨v0, v1, v2, v3, v4, rfl⟩ : ∃ v0 v1 v2 v3 v4, xs = [v0, v1, v2, v3, v4] := by
              match xs, hxs with
              | [v0, v1, v2, v3, v4], _ => exact ⟨v0, v1, v2, v3, v4, rfl⟩
            have HFp := Lib.hid (show Ft (A ++ ([b0, b1, b2, b3, b4] ++ G)) C (a + 5) (o + 8) (D ++ [b0, b1, b2, b3, b4]) ((B32.five m').map (B32.letter B32.alpha)) by
              have h1 := HFt.out
              rw [hAF] at h1
              have h2 := Ft.pack (bs := [b0, b1, b2, b3, b4]) (k := 8) h1 hAl rfl haq (by simp)
              rw [Hfv.out, List.map_append, List.drop_left' (by rw [List.length_map, ← Hkx.out])] at h2
              exact h2)
            have HAF := Lib.hid hAF
            have HFl := Lib.hid HFt.out.1
            clear hxs hAF HFt
            have cx0 : ∀ W : World, Blk W gd 204 (bvs (X.map UInt8.ofNat ++ List.replicate (8 - 8) 0)).toArray → W.cell? ⟨gd, 0, none⟩ = some (.int .u8 (x0 : Int)) := fun W hW => by
              rw [hW.cell 0, hXx]
              simp [bvs, bv]
              omega
            have cx1 : ∀ W : World, Blk W gd 204 (bvs (X.map UInt8.ofNat ++ List.replicate (8 - 8) 0)).toArray → W.cell? ⟨gd, 1, none⟩ = some (.int .u8 (x1 : Int)) := fun W hW => by
              rw [hW.cell 1, hXx]
              simp [bvs, bv]
              omega
            have cx2 : ∀ W : World, Blk W gd 204 (bvs (X.map UInt8.ofNat ++ List.replicate (8 - 8) 0)).toArray → W.cell? ⟨gd, 2, none⟩ = some (.int .u8 (x2 : Int)) := fun W hW => by
              rw [hW.cell 2, hXx]
              simp [bvs, bv]
              omega
            have cx3 : ∀ W : World, Blk W gd 204 (bvs (X.map UInt8.ofNat ++ List.replicate (8 - 8) 0)).toArray → W.cell? ⟨gd, 3, none⟩ = some (.int .u8 (x3 : Int)) := fun W hW => by
              rw [hW.cell 3, hXx]
              simp [bvs, bv]
              omega
            have cx4 : ∀ W : World, Blk W gd 204 (bvs (X.map UInt8.ofNat ++ List.replicate (8 - 8) 0)).toArray → W.cell? ⟨gd, 4, none⟩ = some (.int .u8 (x4 : Int)) := fun W hW => by
              rw [hW.cell 4, hXx]
              simp [bvs, bv]
              omega
            have cx5 : ∀ W : World, Blk W gd 204 (bvs (X.map UInt8.ofNat ++ List.replicate (8 - 8) 0)).toArray → W.cell? ⟨gd, 5, none⟩ = some (.int .u8 (x5 : Int)) := fun W hW => by
              rw [hW.cell 5, hXx]
              simp [bvs, bv]
              omega
            have cx6 : ∀ W : World, Blk W gd 204 (bvs (X.map UInt8.ofNat ++ List.replicate (8 - 8) 0)).toArray → W.cell? ⟨gd, 6, none⟩ = some (.int .u8 (x6 : Int)) := fun W hW => by
              rw [hW.cell 6, hXx]
              simp [bvs, bv]
              omega
            have cx7 : ∀ W : World, Blk W gd 204 (bvs (X.map UInt8.ofNat ++ List.replicate (8 - 8) 0)).toArray → W.cell? ⟨gd, 7, none⟩ = some (.int .u8 (x7 : Int)) := fun W hW => by
              rw [hW.cell 7, hXx]
              simp [bvs, bv]
              omega
            have HCx := Lib.hid (show ∀ W : World, Blk W gd 204 (bvs (X.map UInt8.ofNat ++ List.replicate (8 - 8) 0)).toArray → W.cell? ⟨gd, 0, none⟩ = some (.int .u8 (x0 : Int)) ∧ W.cell? ⟨gd, 1, none⟩ = some (.int .u8 (x1 : Int)) ∧ W.cell? ⟨gd, 2, none⟩ = some (.int .u8 (x2 : Int)) ∧ W.cell? ⟨gd, 3, none⟩ = some (.int .u8 (x3 : Int)) ∧ W.cell? ⟨gd, 4, none⟩ = some (.int .u8 (x4 : Int)) ∧ W.cell? ⟨gd, 5, none⟩ = some (.int .u8 (x5 : Int)) ∧ W.cell? ⟨gd, 6, none⟩ = some (.int .u8 (x6 : Int)) ∧ W.cell? ⟨gd, 7, none⟩ = some (.int .u8 (x7 : Int)) from fun W hW => ⟨cx0 W hW, cx1 W hW, cx2 W hW, cx3 W hW, cx4 W hW, cx5 W hW, cx6 W hW, cx7 W hW⟩)
            clear cx0 cx1 cx2 cx3 cx4 cx5 cx6 cx7
            have hNa : 5 ≤ N - a ∨ True := .inr trivial
            obtain ⟨nd, hnd⟩ : ∃ nd, nd = N - a := ⟨_, rfl⟩
            obtain ⟨cd, hcd⟩ : ∃ cd, cd = C - a := ⟨_, rfl⟩
            have i0 : (0 : Int) < (nd : Int) := by omega
            have i1 : (1 : Int) < (nd : Int) := by omega
            have i2 : (2 : Int) < (nd : Int) := by omega
            have i3 : (3 : Int) < (nd : Int) := by omega
            have i4 : (4 : Int) < (nd : Int) := by omega
            have ndp : 0 < nd := by omega
            have hndc : nd ≤ cd := by omega
            have nd5 : (5 : Int) < (nd : Int) := by omega
            have hs5 := fun W => slice5 (gb := gb) (o := a) (n := nd) (c := cd) (by omega) (by omega) W
            rw [← hnd, ← hcd]
            have Hnd := Lib.hid hnd
            have Hcd := Lib.hid hcd
            clear hnd hcd
            go_upto_region 36 with fail
            obtain ⟨_, _, _, _, _, _, c6, c7⟩ := HCx.out _ KD3.out
            obtain ⟨w0, hw0⟩ : ∃ v, wc.cell? ⟨gb, a + 4, none⟩ = some v := ⟨_, bmLies KB3.out (k := a + 4) (by first | (rw [HFl.out]; omega) | (simp only [List.length_set]; rw [HFl.out]; omega))⟩
            have fw0 := bmFree KB3.out (k := a + 4) (by first | (rw [HFl.out]; omega) | (simp only [List.length_set]; rw [HFl.out]; omega))
            have KB4 := Lib.hid (bmSet (k := a + 4) (n := z4) KB3.out (x := (z4 : Int)) (by omega))
            have KD4 := Lib.hid (KD3.out.far (p := ⟨gb, a + 4, none⟩) (by show gb ≠ gd; omega) (.int .u8 (z4 : Int)))
            have HG4 := Lib.hid (grown_setCell HG3.out (p := ⟨gb, a + 4, none⟩) (.inl rfl) (.int .u8 (z4 : Int)))
            go_upto_region 37 with fail
            clear KB3 KD3 HG3 hw0 fw0 c6 c7 ey4
            generalize wc.setCell ⟨gb, a + 4, none⟩ (.int .u8 (z4 : Int)) = wy4 at *
            have KB3 := KB4
            have KD3 := KD4
            have HG3 := HG4
            clear KB4 KD4 HG4
            obtain ⟨_, _, _, _, c4, c5, c6, _⟩ := HCx.out _ KD3.out
            obtain ⟨w0, hw0⟩ : ∃ v, wy4.cell? ⟨gb, a + 3, none⟩ = some v := ⟨_, bmLies KB3.out (k := a + 3) (by first | (rw [HFl.out]; omega) | (simp only [List.length_set]; rw [HFl.out]; omega))⟩
            have fw0 := bmFree KB3.out (k := a + 3) (by first | (rw [HFl.out]; omega) | (simp only [List.length_set]; rw [HFl.out]; omega))
            have KB4 := Lib.hid (bmSet (k := a + 3) (n := z3) KB3.out (x := (z3 : Int)) (by omega))
            have KD4 := Lib.hid (KD3.out.far (p := ⟨gb, a + 3, none⟩) (by show gb ≠ gd; omega) (.int .u8 (z3 : Int)))
            have HG4 := Lib.hid (grown_setCell HG3.out (p := ⟨gb, a + 3, none⟩) (.inl rfl) (.int .u8 (z3 : Int)))
            go_upto_region 38 with fail
            clear KB3 KD3 HG3 hw0 fw0 c4 c5 c6 ey3
            generalize wy4.setCell ⟨gb, a + 3, none⟩ (.int .u8 (z3 : Int)) = wy3 at *
            have KB3 := KB4
            have KD3 := KD4
            have HG3 := HG4
            clear KB4 KD4 HG4
            obtain ⟨_, _, _, c3, c4, _, _, _⟩ := HCx.out _ KD3.out
            obtain ⟨w0, hw0⟩ : ∃ v, wy3.cell? ⟨gb, a + 2, none⟩ = some v := ⟨_, bmLies KB3.out (k := a + 2) (by first | (rw [HFl.out]; omega) | (simp only [List.length_set]; rw [HFl.out]; omega))⟩
            have fw0 := bmFree KB3.out (k := a + 2) (by first | (rw [HFl.out]; omega) | (simp only [List.length_set]; rw [HFl.out]; omega))
            have KB4 := Lib.hid (bmSet (k := a + 2) (n := z2) KB3.out (x := (z2 : Int)) (by omega))
            have KD4 := Lib.hid (KD3.out.far (p := ⟨gb, a + 2, none⟩) (by show gb ≠ gd; omega) (.int .u8 (z2 : Int)))
            have HG4 := Lib.hid (grown_setCell HG3.out (p := ⟨gb, a + 2, none⟩) (.inl rfl) (.int .u8 (z2 : Int)))
            go_upto_region 39 with fail
            clear KB3 KD3 HG3 hw0 fw0 c3 c4 ey2
            generalize wy3.setCell ⟨gb, a + 2, none⟩ (.int .u8 (z2 : Int)) = wy2 at *
            have KB3 := KB4
            have KD3 := KD4
            have HG3 := HG4
            clear KB4 KD4 HG4
            obtain ⟨_, c1, c2, c3, _, _, _, _⟩ := HCx.out _ KD3.out
            obtain ⟨w0, hw0⟩ : ∃ v, wy2.cell? ⟨gb, a + 1, none⟩ = some v := ⟨_, bmLies KB3.out (k := a + 1) (by first | (rw [HFl.out]; omega) | (simp only [List.length_set]; rw [HFl.out]; omega))⟩
            have fw0 := bmFree KB3.out (k := a + 1) (by first | (rw [HFl.out]; omega) | (simp only [List.length_set]; rw [HFl.out]; omega))
            have KB4 := Lib.hid (bmSet (k := a + 1) (n := z1) KB3.out (x := (z1 : Int)) (by omega))
            have KD4 := Lib.hid (KD3.out.far (p := ⟨gb, a + 1, none⟩) (by show gb ≠ gd; omega) (.int .u8 (z1 : Int)))
            have HG4 := Lib.hid (grown_setCell HG3.out (p := ⟨gb, a + 1, none⟩) (.inl rfl) (.int .u8 (z1 : Int)))
            go_upto_region 40 with fail
            clear KB3 KD3 HG3 hw0 fw0 c1 c2 c3 ey1
            generalize wy2.setCell ⟨gb, a + 1, none⟩ (.int .u8 (z1 : Int)) = wy1 at *
            have KB3 := KB4
            have KD3 := KD4
            have HG3 := HG4
            clear KB4 KD4 HG4
            obtain ⟨c0, c1, _, _, _, _, _, _⟩ := HCx.out _ KD3.out
            obtain ⟨w0, hw0⟩ : ∃ v, wy1.cell? ⟨gb, a, none⟩ = some v := ⟨_, bmLies KB3.out (k := a) (by first | (rw [HFl.out]; omega) | (simp only [List.length_set]; rw [HFl.out]; omega))⟩
            have fw0 := bmFree KB3.out (k := a) (by first | (rw [HFl.out]; omega) | (simp only [List.length_set]; rw [HFl.out]; omega))
            have KB4 := Lib.hid (bmSet (k := a) (n := z0) KB3.out (x := (z0 : Int)) (by omega))
            have KD4 := Lib.hid (KD3.out.far (p := ⟨gb, a, none⟩) (by show gb ≠ gd; omega) (.int .u8 (z0 : Int)))
            have HG4 := Lib.hid (grown_setCell HG3.out (p := ⟨gb, a, none⟩) (.inl rfl) (.int .u8 (z0 : Int)))
            go_upto_region 41 with fail
            clear KB3 KD3 HG3 hw0 fw0 c0 c1 ey0
            generalize wy1.setCell ⟨gb, a, none⟩ (.int .u8 (z0 : Int)) = wy0 at *
            have KB3 := KB4
            have KD3 := KD4
            have HG3 := HG4
            clear KB4 KD4 HG4
            have HB5 := Lib.hid (show Bm wy0 gb t (bvs (A ++ ([b0, b1, b2, b3, b4] ++ G))).toArray by
              have h1 := KB3.out
              rw [HAF.out, put5 hAl] at h1
              rw [Hz.out.1, Hz.out.2.1, Hz.out.2.2.1, Hz.out.2.2.2.1, Hz.out.2.2.2.2]
              exact h1)
            have Hl2 := Lib.hid (show l = (D ++ [b0, b1, b2, b3, b4]) ++ m' by rw [Hl.out, Hmm.out, hbs, List.append_assoc])
            have HD2 := Lib.hid (show (D ++ [b0, b1, b2, b3, b4] : List UInt8).length = a + 5 by rw [List.length_append, HD.out]; rfl)
            have HXm := HXn.out
            have ha3 : a + 5 ≤ 2000 := by have h1 := HD2.out; have h2 := Hl2.out; have h3 := Hll.out; rw [h2, List.length_append] at h3; omega
            go_wp2_with fail
            exact ⟨⟨a + 5, o + 8, n - 8, o2, cq - 8, m', _, _, rfl, by go_num, rfl, by omega, ha3, by omega, by omega, Lib.hid (by omega), Lib.hid (fun _ => by rw [Hnd.out, Hcd.out]; congr 1 <;> omega), Lib.hid (fun h => Ho2.out (by omega)), Lib.hid (by omega), Hl2, HD2, HFp, HB5, HG3⟩, by show n - 8 < n; omega⟩
        · as_aux_lemma =>
            obtain rfl : k = 7 := by rw [Hkx.out, hX]; rfl
            obtain ⟨z0, hz0⟩ : ∃ z, z = b0.toNat := ⟨_, rfl⟩
            have zl0 : z0 ≤ 255 := by have := UInt8.toNat_lt b0; omega
            obtain ⟨z1, hz1⟩ : ∃ z, z = b1.toNat := ⟨_, rfl⟩
            have zl1 : z1 ≤ 255 := by have := UInt8.toNat_lt b1; omega
            obtain ⟨z2, hz2⟩ : ∃ z, z = b2.toNat := ⟨_, rfl⟩
            have zl2 : z2 ≤ 255 := by have := UInt8.toNat_lt b2; omega
            obtain ⟨z3, hz3⟩ : ∃ z, z = b3.toNat := ⟨_, rfl⟩
            have zl3 : z3 ≤ 255 := by have := UInt8.toNat_lt b3; omega
            obtain ⟨x0, hx0⟩ : ∃ x : Nat, x = z0 / 8 := ⟨_, rfl⟩
            obtain ⟨x1, hx1⟩ : ∃ x : Nat, x = z0 % 8 * 4 + z1 / 64 := ⟨_, rfl⟩
            obtain ⟨x2, hx2⟩ : ∃ x : Nat, x = z1 / 2 % 32 := ⟨_, rfl⟩
            obtain ⟨x3, hx3⟩ : ∃ x : Nat, x = z1 % 2 * 16 + z2 / 16 := ⟨_, rfl⟩
            obtain ⟨x4, hx4⟩ : ∃ x : Nat, x = z2 % 16 * 2 + z3 / 128 := ⟨_, rfl⟩
            obtain ⟨x5, hx5⟩ : ∃ x : Nat, x = z3 / 4 % 32 := ⟨_, rfl⟩
            obtain ⟨x6, hx6⟩ : ∃ x : Nat, x = z3 % 4 * 8 := ⟨_, rfl⟩
            have hXx : X = [x0, x1, x2, x3, x4, x5, x6] := by rw [hX, hx0, hx1, hx2, hx3, hx4, hx5, hx6, hz0, hz1, hz2, hz3]
            have xl0 : x0 < 256 := by rw [hx0]; omega
            have xl1 : x1 < 256 := by rw [hx1]; omega
            have xl2 : x2 < 256 := by rw [hx2]; omega
            have xl3 : x3 < 256 := by rw [hx3]; omega
            have xl4 : x4 < 256 := by rw [hx4]; omega
            have xl5 : x5 < 256 := by rw [hx5]; omega
            have xl6 : x6 < 256 := by rw [hx6]; omega
            have ey3 : bits .or .u8 (bits .or .u8 ((x4 : Int) * 128 % 256) ((x5 : Int) * 4 % 256)) ((x6 : Int) / 8) = (z3 : Int) := by
              have := pk3 (x4 := x4) (x5 := x5) (x6 := x6) (d := z3) (by rw [hx4]; omega) hx5 (by rw [hx6]; omega) zl3
              simpa only [IntKind.wrap_u8] using this
            have ey2 : bits .or .u8 ((x3 : Int) * 16 % 256) ((x4 : Int) / 2) = (z2 : Int) := by
              have := pk2 (x3 := x3) (x4 := x4) (c := z2) (by rw [hx3]; omega) (by rw [hx4]; omega) zl2
              simpa only [IntKind.wrap_u8] using this
            have ey1 : bits .or .u8 (bits .or .u8 ((x1 : Int) * 64 % 256) ((x2 : Int) * 2 % 256)) ((x3 : Int) / 16) = (z1 : Int) := by
              have := pk1 (x1 := x1) (x2 := x2) (x3 := x3) (b := z1) (by rw [hx1]; omega) hx2 (by rw [hx3]; omega) zl1
              simpa only [IntKind.wrap_u8] using this
            have ey0 : bits .or .u8 ((x0 : Int) * 8 % 256) ((x1 : Int) / 4) = (z0 : Int) := by
              have := pk0 (x0 := x0) (x1 := x1) (a := z0) hx0 (by rw [hx1]; omega) zl0
              simpa only [IntKind.wrap_u8] using this
            have Hz := Lib.hid (show b0 = UInt8.ofNat z0 ∧ b1 = UInt8.ofNat z1 ∧ b2 = UInt8.ofNat z2 ∧ b3 = UInt8.ofNat z3 from ⟨by rw [hz0]; simp, by rw [hz1]; simp, by rw [hz2]; simp, by rw [hz3]; simp⟩)
            have Hx0 := Lib.hid hx0
            have Hx1 := Lib.hid hx1
            have Hx2 := Lib.hid hx2
            have Hx3 := Lib.hid hx3
            have Hx4 := Lib.hid hx4
            have Hx5 := Lib.hid hx5
            have Hx6 := Lib.hid hx6
            clear hx0 hx1 hx2 hx3 hx4 hx5 hx6 hz0 hz1 hz2 hz3
            have hkn : 7 ≤ n := by have := HXn.out; omega
            obtain ⟨A, xs, G, hAF, hAl, hxs⟩ := split_at (F := F) (a := a) (r := 4) (by rw [HFt.out.1]; omega)
            obtain ⟨v0, v1, v2, v3, rfl⟩ : ∃ v0 v1 v2 v3, xs = [v0, v1, v2, v3] := by
              match xs, hxs with
              | [v0, v1, v2, v3], _ => exact ⟨v0, v1, v2, v3, rfl⟩
            have HFp := Lib.hid (show Ft (A ++ ([b0, b1, b2, b3] ++ G)) C (a + 4) (o + 7) (D ++ [b0, b1, b2, b3]) ((B32.five m').map (B32.letter B32.alpha)) by
              have h1 := HFt.out
              rw [hAF] at h1
              have h2 := Ft.pack (bs := [b0, b1, b2, b3]) (k := 7) h1 hAl rfl haq (by simp)
              rw [Hfv.out, List.map_append, List.drop_left' (by rw [List.length_map, ← Hkx.out])] at h2
              exact h2)
            have HAF := Lib.hid hAF
            have HFl := Lib.hid HFt.out.1
            clear hxs hAF HFt
            have cx0 : ∀ W : World, Blk W gd 204 (bvs (X.map UInt8.ofNat ++ List.replicate (8 - 7) 0)).toArray → W.cell? ⟨gd, 0, none⟩ = some (.int .u8 (x0 : Int)) := fun W hW => by
              rw [hW.cell 0, hXx]
              simp [bvs, bv]
              omega
            have cx1 : ∀ W : World, Blk W gd 204 (bvs (X.map UInt8.ofNat ++ List.replicate (8 - 7) 0)).toArray → W.cell? ⟨gd, 1, none⟩ = some (.int .u8 (x1 : Int)) := fun W hW => by
              rw [hW.cell 1, hXx]
              simp [bvs, bv]
              omega
            have cx2 : ∀ W : World, Blk W gd 204 (bvs (X.map UInt8.ofNat ++ List.replicate (8 - 7) 0)).toArray → W.cell? ⟨gd, 2, none⟩ = some (.int .u8 (x2 : Int)) := fun W hW => by
              rw [hW.cell 2, hXx]
              simp [bvs, bv]
              omega
            have cx3 : ∀ W : World, Blk W gd 204 (bvs (X.map UInt8.ofNat ++ List.replicate (8 - 7) 0)).toArray → W.cell? ⟨gd, 3, none⟩ = some (.int .u8 (x3 : Int)) := fun W hW => by
              rw [hW.cell 3, hXx]
              simp [bvs, bv]
              omega
            have cx4 : ∀ W : World, Blk W gd 204 (bvs (X.map UInt8.ofNat ++ List.replicate (8 - 7) 0)).toArray → W.cell? ⟨gd, 4, none⟩ = some (.int .u8 (x4 : Int)) := fun W hW => by
              rw [hW.cell 4, hXx]
              simp [bvs, bv]
              omega
            have cx5 : ∀ W : World, Blk W gd 204 (bvs (X.map UInt8.ofNat ++ List.replicate (8 - 7) 0)).toArray → W.cell? ⟨gd, 5, none⟩ = some (.int .u8 (x5 : Int)) := fun W hW => by
              rw [hW.cell 5, hXx]
              simp [bvs, bv]
              omega
            have cx6 : ∀ W : World, Blk W gd 204 (bvs (X.map UInt8.ofNat ++ List.replicate (8 - 7) 0)).toArray → W.cell? ⟨gd, 6, none⟩ = some (.int .u8 (x6 : Int)) := fun W hW => by
              rw [hW.cell 6, hXx]
              simp [bvs, bv]
              omega
            have HCx := Lib.hid (show ∀ W : World, Blk W gd 204 (bvs (X.map UInt8.ofNat ++ List.replicate (8 - 7) 0)).toArray → W.cell? ⟨gd, 0, none⟩ = some (.int .u8 (x0 : Int)) ∧ W.cell? ⟨gd, 1, none⟩ = some (.int .u8 (x1 : Int)) ∧ W.cell? ⟨gd, 2, none⟩ = some (.int .u8 (x2 : Int)) ∧ W.cell? ⟨gd, 3, none⟩ = some (.int .u8 (x3 : Int)) ∧ W.cell? ⟨gd, 4, none⟩ = some (.int .u8 (x4 : Int)) ∧ W.cell? ⟨gd, 5, none⟩ = some (.int .u8 (x5 : Int)) ∧ W.cell? ⟨gd, 6, none⟩ = some (.int .u8 (x6 : Int)) from fun W hW => ⟨cx0 W hW, cx1 W hW, cx2 W hW, cx3 W hW, cx4 W hW, cx5 W hW, cx6 W hW⟩)
            clear cx0 cx1 cx2 cx3 cx4 cx5 cx6
            have hNa : 5 ≤ N - a ∨ True := .inr trivial
            obtain ⟨nd, hnd⟩ : ∃ nd, nd = N - a := ⟨_, rfl⟩
            obtain ⟨cd, hcd⟩ : ∃ cd, cd = C - a := ⟨_, rfl⟩
            have i0 : (0 : Int) < (nd : Int) := by omega
            have i1 : (1 : Int) < (nd : Int) := by omega
            have i2 : (2 : Int) < (nd : Int) := by omega
            have i3 : (3 : Int) < (nd : Int) := by omega
            have ndp : 0 < nd := by omega
            have hndc : nd ≤ cd := by omega
            rw [← hnd, ← hcd]
            have Hnd := Lib.hid hnd
            have Hcd := Lib.hid hcd
            clear hnd hcd
            go_upto_region 37 with fail
            obtain ⟨_, _, _, _, c4, c5, c6⟩ := HCx.out _ KD3.out
            obtain ⟨w0, hw0⟩ : ∃ v, wc.cell? ⟨gb, a + 3, none⟩ = some v := ⟨_, bmLies KB3.out (k := a + 3) (by first | (rw [HFl.out]; omega) | (simp only [List.length_set]; rw [HFl.out]; omega))⟩
            have fw0 := bmFree KB3.out (k := a + 3) (by first | (rw [HFl.out]; omega) | (simp only [List.length_set]; rw [HFl.out]; omega))
            have KB4 := Lib.hid (bmSet (k := a + 3) (n := z3) KB3.out (x := (z3 : Int)) (by omega))
            have KD4 := Lib.hid (KD3.out.far (p := ⟨gb, a + 3, none⟩) (by show gb ≠ gd; omega) (.int .u8 (z3 : Int)))
            have HG4 := Lib.hid (grown_setCell HG3.out (p := ⟨gb, a + 3, none⟩) (.inl rfl) (.int .u8 (z3 : Int)))
            go_upto_region 38 with fail
            clear KB3 KD3 HG3 hw0 fw0 c4 c5 c6 ey3
            generalize wc.setCell ⟨gb, a + 3, none⟩ (.int .u8 (z3 : Int)) = wy3 at *
            have KB3 := KB4
            have KD3 := KD4
            have HG3 := HG4
            clear KB4 KD4 HG4
            obtain ⟨_, _, _, c3, c4, _, _⟩ := HCx.out _ KD3.out
            obtain ⟨w0, hw0⟩ : ∃ v, wy3.cell? ⟨gb, a + 2, none⟩ = some v := ⟨_, bmLies KB3.out (k := a + 2) (by first | (rw [HFl.out]; omega) | (simp only [List.length_set]; rw [HFl.out]; omega))⟩
            have fw0 := bmFree KB3.out (k := a + 2) (by first | (rw [HFl.out]; omega) | (simp only [List.length_set]; rw [HFl.out]; omega))
            have KB4 := Lib.hid (bmSet (k := a + 2) (n := z2) KB3.out (x := (z2 : Int)) (by omega))
            have KD4 := Lib.hid (KD3.out.far (p := ⟨gb, a + 2, none⟩) (by show gb ≠ gd; omega) (.int .u8 (z2 : Int)))
            have HG4 := Lib.hid (grown_setCell HG3.out (p := ⟨gb, a + 2, none⟩) (.inl rfl) (.int .u8 (z2 : Int)))
            go_upto_region 39 with fail
            clear KB3 KD3 HG3 hw0 fw0 c3 c4 ey2
            generalize wy3.setCell ⟨gb, a + 2, none⟩ (.int .u8 (z2 : Int)) = wy2 at *
            have KB3 := KB4
            have KD3 := KD4
            have HG3 := HG4
            clear KB4 KD4 HG4
            obtain ⟨_, c1, c2, c3, _, _, _⟩ := HCx.out _ KD3.out
            obtain ⟨w0, hw0⟩ : ∃ v, wy2.cell? ⟨gb, a + 1, none⟩ = some v := ⟨_, bmLies KB3.out (k := a + 1) (by first | (rw [HFl.out]; omega) | (simp only [List.length_set]; rw [HFl.out]; omega))⟩
            have fw0 := bmFree KB3.out (k := a + 1) (by first | (rw [HFl.out]; omega) | (simp only [List.length_set]; rw [HFl.out]; omega))
            have KB4 := Lib.hid (bmSet (k := a + 1) (n := z1) KB3.out (x := (z1 : Int)) (by omega))
            have KD4 := Lib.hid (KD3.out.far (p := ⟨gb, a + 1, none⟩) (by show gb ≠ gd; omega) (.int .u8 (z1 : Int)))
            have HG4 := Lib.hid (grown_setCell HG3.out (p := ⟨gb, a + 1, none⟩) (.inl rfl) (.int .u8 (z1 : Int)))
            go_upto_region 40 with fail
            clear KB3 KD3 HG3 hw0 fw0 c1 c2 c3 ey1
            generalize wy2.setCell ⟨gb, a + 1, none⟩ (.int .u8 (z1 : Int)) = wy1 at *
            have KB3 := KB4
            have KD3 := KD4
            have HG3 := HG4
            clear KB4 KD4 HG4
            obtain ⟨c0, c1, _, _, _, _, _⟩ := HCx.out _ KD3.out
            obtain ⟨w0, hw0⟩ : ∃ v, wy1.cell? ⟨gb, a, none⟩ = some v := ⟨_, bmLies KB3.out (k := a) (by first | (rw [HFl.out]; omega) | (simp only [List.length_set]; rw [HFl.out]; omega))⟩
            have fw0 := bmFree KB3.out (k := a) (by first | (rw [HFl.out]; omega) | (simp only [List.length_set]; rw [HFl.out]; omega))
            have KB4 := Lib.hid (bmSet (k := a) (n := z0) KB3.out (x := (z0 : Int)) (by omega))
            have KD4 := Lib.hid (KD3.out.far (p := ⟨gb, a, none⟩) (by show gb ≠ gd; omega) (.int .u8 (z0 : Int)))
            have HG4 := Lib.hid (grown_setCell HG3.out (p := ⟨gb, a, none⟩) (.inl rfl) (.int .u8 (z0 : Int)))
            go_upto_region 41 with fail
            clear KB3 KD3 HG3 hw0 fw0 c0 c1 ey0
            generalize wy1.setCell ⟨gb, a, none⟩ (.int .u8 (z0 : Int)) = wy0 at *
            have KB3 := KB4
            have KD3 := KD4
            have HG3 := HG4
            clear KB4 KD4 HG4
            have HB5 := Lib.hid (show Bm wy0 gb t (bvs (A ++ ([b0, b1, b2, b3] ++ G))).toArray by
              have h1 := KB3.out
              rw [HAF.out, put4 hAl] at h1
              rw [Hz.out.1, Hz.out.2.1, Hz.out.2.2.1, Hz.out.2.2.2]
              exact h1)
            have Hl2 := Lib.hid (show l = (D ++ [b0, b1, b2, b3]) ++ m' by rw [Hl.out, Hmm.out, hbs, List.append_assoc])
            have HD2 := Lib.hid (show (D ++ [b0, b1, b2, b3] : List UInt8).length = a + 4 by rw [List.length_append, HD.out]; rfl)
            have HXm := HXn.out
            have hm0 : m' = [] := by
              rcases HX8.out with h | ⟨_, h⟩
              · rw [hX] at h; simp at h
              · exact h
            have ha3 : a + 4 ≤ 2000 := by have h1 := HD2.out; have h2 := Hl2.out; have h3 := Hll.out; rw [h2, List.length_append] at h3; omega
            by_cases nd5 : 5 < nd
            · have nd6 : (5 : Int) < (nd : Int) := by omega
              have hs5 := fun W => slice5 (gb := gb) (o := a) (n := nd) (c := cd) nd5 (by omega) W
              go_wp2_with fail
              exact ⟨⟨a + 4, o + 7, n - 7, o2, cq - 7, m', _, _, rfl, by go_num, rfl, by omega, ha3, by omega, by omega, Lib.hid (by omega), Lib.hid (fun h => absurd hm0 h), Lib.hid (fun h => Ho2.out (by omega)), Lib.hid (by omega), Hl2, HD2, HFp, HB5, HG3⟩, by show n - 7 < n; omega⟩
            · have nd6 : ¬ (5 : Int) < (nd : Int) := by omega
              go_wp2_with fail
              exact ⟨⟨a + 4, o + 7, n - 7, o2, cq - 7, m', _, _, rfl, by go_num, rfl, by omega, ha3, by omega, by omega, Lib.hid (by omega), Lib.hid (fun h => absurd hm0 h), Lib.hid (fun h => Ho2.out (by omega)), Lib.hid (by omega), Hl2, HD2, HFp, HB5, HG3⟩, by show n - 7 < n; omega⟩
        · as_aux_lemma =>
            obtain rfl : k = 5 := by rw [Hkx.out, hX]; rfl
            obtain ⟨z0, hz0⟩ : ∃ z, z = b0.toNat := ⟨_, rfl⟩
            have zl0 : z0 ≤ 255 := by have := UInt8.toNat_lt b0; omega
            obtain ⟨z1, hz1⟩ : ∃ z, z = b1.toNat := ⟨_, rfl⟩
            have zl1 : z1 ≤ 255 := by have := UInt8.toNat_lt b1; omega
            obtain ⟨z2, hz2⟩ : ∃ z, z = b2.toNat := ⟨_, rfl⟩
            have zl2 : z2 ≤ 255 := by have := UInt8.toNat_lt b2; omega
            obtain ⟨x0, hx0⟩ : ∃ x : Nat, x = z0 / 8 := ⟨_, rfl⟩
            obtain ⟨x1, hx1⟩ : ∃ x : Nat, x = z0 % 8 * 4 + z1 / 64 := ⟨_, rfl⟩
            obtain ⟨x2, hx2⟩ : ∃ x : Nat, x = z1 / 2 % 32 := ⟨_, rfl⟩
            obtain ⟨x3, hx3⟩ : ∃ x : Nat, x = z1 % 2 * 16 + z2 / 16 := ⟨_, rfl⟩
            obtain ⟨x4, hx4⟩ : ∃ x : Nat, x = z2 % 16 * 2 := ⟨_, rfl⟩
            have hXx : X = [x0, x1, x2, x3, x4] := by rw [hX, hx0, hx1, hx2, hx3, hx4, hz0, hz1, hz2]
            have xl0 : x0 < 256 := by rw [hx0]; omega
            have xl1 : x1 < 256 := by rw [hx1]; omega
            have xl2 : x2 < 256 := by rw [hx2]; omega
            have xl3 : x3 < 256 := by rw [hx3]; omega
            have xl4 : x4 < 256 := by rw [hx4]; omega
            have ey2 : bits .or .u8 ((x3 : Int) * 16 % 256) ((x4 : Int) / 2) = (z2 : Int) := by
              have := pk2 (x3 := x3) (x4 := x4) (c := z2) (by rw [hx3]; omega) (by rw [hx4]; omega) zl2
              simpa only [IntKind.wrap_u8] using this
            have ey1 : bits .or .u8 (bits .or .u8 ((x1 : Int) * 64 % 256) ((x2 : Int) * 2 % 256)) ((x3 : Int) / 16) = (z1 : Int) := by
              have := pk1 (x1 := x1) (x2 := x2) (x3 := x3) (b := z1) (by rw [hx1]; omega) hx2 (by rw [hx3]; omega) zl1
              simpa only [IntKind.wrap_u8] using this
            have ey0 : bits .or .u8 ((x0 : Int) * 8 % 256) ((x1 : Int) / 4) = (z0 : Int) := by
              have := pk0 (x0 := x0) (x1 := x1) (a := z0) hx0 (by rw [hx1]; omega) zl0
              simpa only [IntKind.wrap_u8] using this
            have Hz := Lib.hid (show b0 = UInt8.ofNat z0 ∧ b1 = UInt8.ofNat z1 ∧ b2 = UInt8.ofNat z2 from ⟨by rw [hz0]; simp, by rw [hz1]; simp, by rw [hz2]; simp⟩)
            have Hx0 := Lib.hid hx0
            have Hx1 := Lib.hid hx1
            have Hx2 := Lib.hid hx2
            have Hx3 := Lib.hid hx3
            have Hx4 := Lib.hid hx4
            clear hx0 hx1 hx2 hx3 hx4 hz0 hz1 hz2
            have hkn : 5 ≤ n := by have := HXn.out; omega
            obtain ⟨A, xs, G, hAF, hAl, hxs⟩ := split_at (F := F) (a := a) (r := 3) (by rw [HFt.out.1]; omega)
            obtain ⟨v0, v1, v2, rfl⟩ : ∃ v0 v1 v2, xs = [v0, v1, v2] := by
              match xs, hxs with
              | [v0, v1, v2], _ => exact ⟨v0, v1, v2, rfl⟩
            have HFp := Lib.hid (show Ft (A ++ ([b0, b1, b2] ++ G)) C (a + 3) (o + 5) (D ++ [b0, b1, b2]) ((B32.five m').map (B32.letter B32.alpha)) by
              have h1 := HFt.out
              rw [hAF] at h1
              have h2 := Ft.pack (bs := [b0, b1, b2]) (k := 5) h1 hAl rfl haq (by simp)
              rw [Hfv.out, List.map_append, List.drop_left' (by rw [List.length_map, ← Hkx.out])] at h2
              exact h2)
            have HAF := Lib.hid hAF
            have HFl := Lib.hid HFt.out.1
            clear hxs hAF HFt
            have cx0 : ∀ W : World, Blk W gd 204 (bvs (X.map UInt8.ofNat ++ List.replicate (8 - 5) 0)).toArray → W.cell? ⟨gd, 0, none⟩ = some (.int .u8 (x0 : Int)) := fun W hW => by
              rw [hW.cell 0, hXx]
              simp [bvs, bv]
              omega
            have cx1 : ∀ W : World, Blk W gd 204 (bvs (X.map UInt8.ofNat ++ List.replicate (8 - 5) 0)).toArray → W.cell? ⟨gd, 1, none⟩ = some (.int .u8 (x1 : Int)) := fun W hW => by
              rw [hW.cell 1, hXx]
              simp [bvs, bv]
              omega
            have cx2 : ∀ W : World, Blk W gd 204 (bvs (X.map UInt8.ofNat ++ List.replicate (8 - 5) 0)).toArray → W.cell? ⟨gd, 2, none⟩ = some (.int .u8 (x2 : Int)) := fun W hW => by
              rw [hW.cell 2, hXx]
              simp [bvs, bv]
              omega
            have cx3 : ∀ W : World, Blk W gd 204 (bvs (X.map UInt8.ofNat ++ List.replicate (8 - 5) 0)).toArray → W.cell? ⟨gd, 3, none⟩ = some (.int .u8 (x3 : Int)) := fun W hW => by
              rw [hW.cell 3, hXx]
              simp [bvs, bv]
              omega
            have cx4 : ∀ W : World, Blk W gd 204 (bvs (X.map UInt8.ofNat ++ List.replicate (8 - 5) 0)).toArray → W.cell? ⟨gd, 4, none⟩ = some (.int .u8 (x4 : Int)) := fun W hW => by
              rw [hW.cell 4, hXx]
              simp [bvs, bv]
              omega
            have HCx := Lib.hid (show ∀ W : World, Blk W gd 204 (bvs (X.map UInt8.ofNat ++ List.replicate (8 - 5) 0)).toArray → W.cell? ⟨gd, 0, none⟩ = some (.int .u8 (x0 : Int)) ∧ W.cell? ⟨gd, 1, none⟩ = some (.int .u8 (x1 : Int)) ∧ W.cell? ⟨gd, 2, none⟩ = some (.int .u8 (x2 : Int)) ∧ W.cell? ⟨gd, 3, none⟩ = some (.int .u8 (x3 : Int)) ∧ W.cell? ⟨gd, 4, none⟩ = some (.int .u8 (x4 : Int)) from fun W hW => ⟨cx0 W hW, cx1 W hW, cx2 W hW, cx3 W hW, cx4 W hW⟩)
            clear cx0 cx1 cx2 cx3 cx4
            have hNa : 5 ≤ N - a ∨ True := .inr trivial
            obtain ⟨nd, hnd⟩ : ∃ nd, nd = N - a := ⟨_, rfl⟩
            obtain ⟨cd, hcd⟩ : ∃ cd, cd = C - a := ⟨_, rfl⟩
            have i0 : (0 : Int) < (nd : Int) := by omega
            have i1 : (1 : Int) < (nd : Int) := by omega
            have i2 : (2 : Int) < (nd : Int) := by omega
            have ndp : 0 < nd := by omega
            have hndc : nd ≤ cd := by omega
            rw [← hnd, ← hcd]
            have Hnd := Lib.hid hnd
            have Hcd := Lib.hid hcd
            clear hnd hcd
            go_upto_region 38 with fail
            obtain ⟨_, _, _, c3, c4⟩ := HCx.out _ KD3.out
            obtain ⟨w0, hw0⟩ : ∃ v, wc.cell? ⟨gb, a + 2, none⟩ = some v := ⟨_, bmLies KB3.out (k := a + 2) (by first | (rw [HFl.out]; omega) | (simp only [List.length_set]; rw [HFl.out]; omega))⟩
            have fw0 := bmFree KB3.out (k := a + 2) (by first | (rw [HFl.out]; omega) | (simp only [List.length_set]; rw [HFl.out]; omega))
            have KB4 := Lib.hid (bmSet (k := a + 2) (n := z2) KB3.out (x := (z2 : Int)) (by omega))
            have KD4 := Lib.hid (KD3.out.far (p := ⟨gb, a + 2, none⟩) (by show gb ≠ gd; omega) (.int .u8 (z2 : Int)))
            have HG4 := Lib.hid (grown_setCell HG3.out (p := ⟨gb, a + 2, none⟩) (.inl rfl) (.int .u8 (z2 : Int)))
            go_upto_region 39 with fail
            clear KB3 KD3 HG3 hw0 fw0 c3 c4 ey2
            generalize wc.setCell ⟨gb, a + 2, none⟩ (.int .u8 (z2 : Int)) = wy2 at *
            have KB3 := KB4
            have KD3 := KD4
            have HG3 := HG4
            clear KB4 KD4 HG4
            obtain ⟨_, c1, c2, c3, _⟩ := HCx.out _ KD3.out
            obtain ⟨w0, hw0⟩ : ∃ v, wy2.cell? ⟨gb, a + 1, none⟩ = some v := ⟨_, bmLies KB3.out (k := a + 1) (by first | (rw [HFl.out]; omega) | (simp only [List.length_set]; rw [HFl.out]; omega))⟩
            have fw0 := bmFree KB3.out (k := a + 1) (by first | (rw [HFl.out]; omega) | (simp only [List.length_set]; rw [HFl.out]; omega))
            have KB4 := Lib.hid (bmSet (k := a + 1) (n := z1) KB3.out (x := (z1 : Int)) (by omega))
            have KD4 := Lib.hid (KD3.out.far (p := ⟨gb, a + 1, none⟩) (by show gb ≠ gd; omega) (.int .u8 (z1 : Int)))
            have HG4 := Lib.hid (grown_setCell HG3.out (p := ⟨gb, a + 1, none⟩) (.inl rfl) (.int .u8 (z1 : Int)))
            go_upto_region 40 with fail
            clear KB3 KD3 HG3 hw0 fw0 c1 c2 c3 ey1
            generalize wy2.setCell ⟨gb, a + 1, none⟩ (.int .u8 (z1 : Int)) = wy1 at *
            have KB3 := KB4
            have KD3 := KD4
            have HG3 := HG4
            clear KB4 KD4 HG4
            obtain ⟨c0, c1, _, _, _⟩ := HCx.out _ KD3.out
            obtain ⟨w0, hw0⟩ : ∃ v, wy1.cell? ⟨gb, a, none⟩ = some v := ⟨_, bmLies KB3.out (k := a) (by first | (rw [HFl.out]; omega) | (simp only [List.length_set]; rw [HFl.out]; omega))⟩
            have fw0 := bmFree KB3.out (k := a) (by first | (rw [HFl.out]; omega) | (simp only [List.length_set]; rw [HFl.out]; omega))
            have KB4 := Lib.hid (bmSet (k := a) (n := z0) KB3.out (x := (z0 : Int)) (by omega))
            have KD4 := Lib.hid (KD3.out.far (p := ⟨gb, a, none⟩) (by show gb ≠ gd; omega) (.int .u8 (z0 : Int)))
            have HG4 := Lib.hid (grown_setCell HG3.out (p := ⟨gb, a, none⟩) (.inl rfl) (.int .u8 (z0 : Int)))
            go_upto_region 41 with fail
            clear KB3 KD3 HG3 hw0 fw0 c0 c1 ey0
            generalize wy1.setCell ⟨gb, a, none⟩ (.int .u8 (z0 : Int)) = wy0 at *
            have KB3 := KB4
            have KD3 := KD4
            have HG3 := HG4
            clear KB4 KD4 HG4
            have HB5 := Lib.hid (show Bm wy0 gb t (bvs (A ++ ([b0, b1, b2] ++ G))).toArray by
              have h1 := KB3.out
              rw [HAF.out, put3 hAl] at h1
              rw [Hz.out.1, Hz.out.2.1, Hz.out.2.2]
              exact h1)
            have Hl2 := Lib.hid (show l = (D ++ [b0, b1, b2]) ++ m' by rw [Hl.out, Hmm.out, hbs, List.append_assoc])
            have HD2 := Lib.hid (show (D ++ [b0, b1, b2] : List UInt8).length = a + 3 by rw [List.length_append, HD.out]; rfl)
            have HXm := HXn.out
            have hm0 : m' = [] := by
              rcases HX8.out with h | ⟨_, h⟩
              · rw [hX] at h; simp at h
              · exact h
            have ha3 : a + 3 ≤ 2000 := by have h1 := HD2.out; have h2 := Hl2.out; have h3 := Hll.out; rw [h2, List.length_append] at h3; omega
            by_cases nd5 : 5 < nd
            · have nd6 : (5 : Int) < (nd : Int) := by omega
              have hs5 := fun W => slice5 (gb := gb) (o := a) (n := nd) (c := cd) nd5 (by omega) W
              go_wp2_with fail
              exact ⟨⟨a + 3, o + 5, n - 5, o2, cq - 5, m', _, _, rfl, by go_num, rfl, by omega, ha3, by omega, by omega, Lib.hid (by omega), Lib.hid (fun h => absurd hm0 h), Lib.hid (fun h => Ho2.out (by omega)), Lib.hid (by omega), Hl2, HD2, HFp, HB5, HG3⟩, by show n - 5 < n; omega⟩
            · have nd6 : ¬ (5 : Int) < (nd : Int) := by omega
              go_wp2_with fail
              exact ⟨⟨a + 3, o + 5, n - 5, o2, cq - 5, m', _, _, rfl, by go_num, rfl, by omega, ha3, by omega, by omega, Lib.hid (by omega), Lib.hid (fun h => absurd hm0 h), Lib.hid (fun h => Ho2.out (by omega)), Lib.hid (by omega), Hl2, HD2, HFp, HB5, HG3⟩, by show n - 5 < n; omega⟩
        · as_aux_lemma =>
            obtain rfl : k = 4 := by rw [Hkx.out, hX]; rfl
            obtain ⟨z0, hz0⟩ : ∃ z, z = b0.toNat := ⟨_, rfl⟩
            have zl0 : z0 ≤ 255 := by have := UInt8.toNat_lt b0; omega
            obtain ⟨z1, hz1⟩ : ∃ z, z = b1.toNat := ⟨_, rfl⟩
            have zl1 : z1 ≤ 255 := by have := UInt8.toNat_lt b1; omega
            obtain ⟨x0, hx0⟩ : ∃ x : Nat, x = z0 / 8 := ⟨_, rfl⟩
            obtain ⟨x1, hx1⟩ : ∃ x : Nat, x = z0 % 8 * 4 + z1 / 64 := ⟨_, rfl⟩
            obtain ⟨x2, hx2⟩ : ∃ x : Nat, x = z1 / 2 % 32 := ⟨_, rfl⟩
            obtain ⟨x3, hx3⟩ : ∃ x : Nat, x = z1 % 2 * 16 := ⟨_, rfl⟩
            have hXx : X = [x0, x1, x2, x3] := by rw [hX, hx0, hx1, hx2, hx3, hz0, hz1]
            have xl0 : x0 < 256 := by rw [hx0]; omega
            have xl1 : x1 < 256 := by rw [hx1]; omega
            have xl2 : x2 < 256 := by rw [hx2]; omega
            have xl3 : x3 < 256 := by rw [hx3]; omega
            have ey1 : bits .or .u8 (bits .or .u8 ((x1 : Int) * 64 % 256) ((x2 : Int) * 2 % 256)) ((x3 : Int) / 16) = (z1 : Int) := by
              have := pk1 (x1 := x1) (x2 := x2) (x3 := x3) (b := z1) (by rw [hx1]; omega) hx2 (by rw [hx3]; omega) zl1
              simpa only [IntKind.wrap_u8] using this
            have ey0 : bits .or .u8 ((x0 : Int) * 8 % 256) ((x1 : Int) / 4) = (z0 : Int) := by
              have := pk0 (x0 := x0) (x1 := x1) (a := z0) hx0 (by rw [hx1]; omega) zl0
              simpa only [IntKind.wrap_u8] using this
            have Hz := Lib.hid (show b0 = UInt8.ofNat z0 ∧ b1 = UInt8.ofNat z1 from ⟨by rw [hz0]; simp, by rw [hz1]; simp⟩)
            have Hx0 := Lib.hid hx0
            have Hx1 := Lib.hid hx1
            have Hx2 := Lib.hid hx2
            have Hx3 := Lib.hid hx3
            clear hx0 hx1 hx2 hx3 hz0 hz1
            have hkn : 4 ≤ n := by have := HXn.out; omega
            obtain ⟨A, xs, G, hAF, hAl, hxs⟩ := split_at (F := F) (a := a) (r := 2) (by rw [HFt.out.1]; omega)
            obtain ⟨v0, v1, rfl⟩ : ∃ v0 v1, xs = [v0, v1] := by
              match xs, hxs with
              | [v0, v1], _ => exact ⟨v0, v1, rfl⟩
            have HFp := Lib.hid (show Ft (A ++ ([b0, b1] ++ G)) C (a + 2) (o + 4) (D ++ [b0, b1]) ((B32.five m').map (B32.letter B32.alpha)) by
              have h1 := HFt.out
              rw [hAF] at h1
              have h2 := Ft.pack (bs := [b0, b1]) (k := 4) h1 hAl rfl haq (by simp)
              rw [Hfv.out, List.map_append, List.drop_left' (by rw [List.length_map, ← Hkx.out])] at h2
              exact h2)
            have HAF := Lib.hid hAF
            have HFl := Lib.hid HFt.out.1
            clear hxs hAF HFt
            have cx0 : ∀ W : World, Blk W gd 204 (bvs (X.map UInt8.ofNat ++ List.replicate (8 - 4) 0)).toArray → W.cell? ⟨gd, 0, none⟩ = some (.int .u8 (x0 : Int)) := fun W hW => by
              rw [hW.cell 0, hXx]
              simp [bvs, bv]
              omega
            have cx1 : ∀ W : World, Blk W gd 204 (bvs (X.map UInt8.ofNat ++ List.replicate (8 - 4) 0)).toArray → W.cell? ⟨gd, 1, none⟩ = some (.int .u8 (x1 : Int)) := fun W hW => by
              rw [hW.cell 1, hXx]
              simp [bvs, bv]
              omega
            have cx2 : ∀ W : World, Blk W gd 204 (bvs (X.map UInt8.ofNat ++ List.replicate (8 - 4) 0)).toArray → W.cell? ⟨gd, 2, none⟩ = some (.int .u8 (x2 : Int)) := fun W hW => by
              rw [hW.cell 2, hXx]
              simp [bvs, bv]
              omega
            have cx3 : ∀ W : World, Blk W gd 204 (bvs (X.map UInt8.ofNat ++ List.replicate (8 - 4) 0)).toArray → W.cell? ⟨gd, 3, none⟩ = some (.int .u8 (x3 : Int)) := fun W hW => by
              rw [hW.cell 3, hXx]
              simp [bvs, bv]
              omega
            have HCx := Lib.hid (show ∀ W : World, Blk W gd 204 (bvs (X.map UInt8.ofNat ++ List.replicate (8 - 4) 0)).toArray → W.cell? ⟨gd, 0, none⟩ = some (.int .u8 (x0 : Int)) ∧ W.cell? ⟨gd, 1, none⟩ = some (.int .u8 (x1 : Int)) ∧ W.cell? ⟨gd, 2, none⟩ = some (.int .u8 (x2 : Int)) ∧ W.cell? ⟨gd, 3, none⟩ = some (.int .u8 (x3 : Int)) from fun W hW => ⟨cx0 W hW, cx1 W hW, cx2 W hW, cx3 W hW⟩)
            clear cx0 cx1 cx2 cx3
            have hNa : 5 ≤ N - a ∨ True := .inr trivial
            obtain ⟨nd, hnd⟩ : ∃ nd, nd = N - a := ⟨_, rfl⟩
            obtain ⟨cd, hcd⟩ : ∃ cd, cd = C - a := ⟨_, rfl⟩
            have i0 : (0 : Int) < (nd : Int) := by omega
            have i1 : (1 : Int) < (nd : Int) := by omega
            have ndp : 0 < nd := by omega
            have hndc : nd ≤ cd := by omega
            rw [← hnd, ← hcd]
            have Hnd := Lib.hid hnd
            have Hcd := Lib.hid hcd
            clear hnd hcd
            go_upto_region 39 with fail
            obtain ⟨_, c1, c2, c3⟩ := HCx.out _ KD3.out
            obtain ⟨w0, hw0⟩ : ∃ v, wc.cell? ⟨gb, a + 1, none⟩ = some v := ⟨_, bmLies KB3.out (k := a + 1) (by first | (rw [HFl.out]; omega) | (simp only [List.length_set]; rw [HFl.out]; omega))⟩
            have fw0 := bmFree KB3.out (k := a + 1) (by first | (rw [HFl.out]; omega) | (simp only [List.length_set]; rw [HFl.out]; omega))
            have KB4 := Lib.hid (bmSet (k := a + 1) (n := z1) KB3.out (x := (z1 : Int)) (by omega))
            have KD4 := Lib.hid (KD3.out.far (p := ⟨gb, a + 1, none⟩) (by show gb ≠ gd; omega) (.int .u8 (z1 : Int)))
            have HG4 := Lib.hid (grown_setCell HG3.out (p := ⟨gb, a + 1, none⟩) (.inl rfl) (.int .u8 (z1 : Int)))
            go_upto_region 40 with fail
            clear KB3 KD3 HG3 hw0 fw0 c1 c2 c3 ey1
            generalize wc.setCell ⟨gb, a + 1, none⟩ (.int .u8 (z1 : Int)) = wy1 at *
            have KB3 := KB4
            have KD3 := KD4
            have HG3 := HG4
            clear KB4 KD4 HG4
            obtain ⟨c0, c1, _, _⟩ := HCx.out _ KD3.out
            obtain ⟨w0, hw0⟩ : ∃ v, wy1.cell? ⟨gb, a, none⟩ = some v := ⟨_, bmLies KB3.out (k := a) (by first | (rw [HFl.out]; omega) | (simp only [List.length_set]; rw [HFl.out]; omega))⟩
            have fw0 := bmFree KB3.out (k := a) (by first | (rw [HFl.out]; omega) | (simp only [List.length_set]; rw [HFl.out]; omega))
            have KB4 := Lib.hid (bmSet (k := a) (n := z0) KB3.out (x := (z0 : Int)) (by omega))
            have KD4 := Lib.hid (KD3.out.far (p := ⟨gb, a, none⟩) (by show gb ≠ gd; omega) (.int .u8 (z0 : Int)))
            have HG4 := Lib.hid (grown_setCell HG3.out (p := ⟨gb, a, none⟩) (.inl rfl) (.int .u8 (z0 : Int)))
            go_upto_region 41 with fail
            clear KB3 KD3 HG3 hw0 fw0 c0 c1 ey0
            generalize wy1.setCell ⟨gb, a, none⟩ (.int .u8 (z0 : Int)) = wy0 at *
            have KB3 := KB4
            have KD3 := KD4
            have HG3 := HG4
            clear KB4 KD4 HG4
            have HB5 := Lib.hid (show Bm wy0 gb t (bvs (A ++ ([b0, b1] ++ G))).toArray by
              have h1 := KB3.out
              rw [HAF.out, put2 hAl] at h1
              rw [Hz.out.1, Hz.out.2]
              exact h1)
            have Hl2 := Lib.hid (show l = (D ++ [b0, b1]) ++ m' by rw [Hl.out, Hmm.out, hbs, List.append_assoc])
            have HD2 := Lib.hid (show (D ++ [b0, b1] : List UInt8).length = a + 2 by rw [List.length_append, HD.out]; rfl)
            have HXm := HXn.out
            have hm0 : m' = [] := by
              rcases HX8.out with h | ⟨_, h⟩
              · rw [hX] at h; simp at h
              · exact h
            have ha3 : a + 2 ≤ 2000 := by have h1 := HD2.out; have h2 := Hl2.out; have h3 := Hll.out; rw [h2, List.length_append] at h3; omega
            by_cases nd5 : 5 < nd
            · have nd6 : (5 : Int) < (nd : Int) := by omega
              have hs5 := fun W => slice5 (gb := gb) (o := a) (n := nd) (c := cd) nd5 (by omega) W
              go_wp2_with fail
              exact ⟨⟨a + 2, o + 4, n - 4, o2, cq - 4, m', _, _, rfl, by go_num, rfl, by omega, ha3, by omega, by omega, Lib.hid (by omega), Lib.hid (fun h => absurd hm0 h), Lib.hid (fun h => Ho2.out (by omega)), Lib.hid (by omega), Hl2, HD2, HFp, HB5, HG3⟩, by show n - 4 < n; omega⟩
            · have nd6 : ¬ (5 : Int) < (nd : Int) := by omega
              go_wp2_with fail
              exact ⟨⟨a + 2, o + 4, n - 4, o2, cq - 4, m', _, _, rfl, by go_num, rfl, by omega, ha3, by omega, by omega, Lib.hid (by omega), Lib.hid (fun h => absurd hm0 h), Lib.hid (fun h => Ho2.out (by omega)), Lib.hid (by omega), Hl2, HD2, HFp, HB5, HG3⟩, by show n - 4 < n; omega⟩
        · as_aux_lemma =>
            obtain rfl : k = 2 := by rw [Hkx.out, hX]; rfl
            obtain ⟨z0, hz0⟩ : ∃ z, z = b0.toNat := ⟨_, rfl⟩
            have zl0 : z0 ≤ 255 := by have := UInt8.toNat_lt b0; omega
            obtain ⟨x0, hx0⟩ : ∃ x : Nat, x = z0 / 8 := ⟨_, rfl⟩
            obtain ⟨x1, hx1⟩ : ∃ x : Nat, x = z0 % 8 * 4 := ⟨_, rfl⟩
            have hXx : X = [x0, x1] := by rw [hX, hx0, hx1, hz0]
            have xl0 : x0 < 256 := by rw [hx0]; omega
            have xl1 : x1 < 256 := by rw [hx1]; omega
            have ey0 : bits .or .u8 ((x0 : Int) * 8 % 256) ((x1 : Int) / 4) = (z0 : Int) := by
              have := pk0 (x0 := x0) (x1 := x1) (a := z0) hx0 (by rw [hx1]; omega) zl0
              simpa only [IntKind.wrap_u8] using this
            have Hz := Lib.hid (show b0 = UInt8.ofNat z0 by rw [hz0]; simp)
            have Hx0 := Lib.hid hx0
            have Hx1 := Lib.hid hx1
            clear hx0 hx1 hz0
            have hkn : 2 ≤ n := by have := HXn.out; omega
            obtain ⟨A, xs, G, hAF, hAl, hxs⟩ := split_at (F := F) (a := a) (r := 1) (by rw [HFt.out.1]; omega)
            obtain ⟨v0, rfl⟩ : ∃ v0, xs = [v0] := by
              match xs, hxs with
              | [v0], _ => exact ⟨v0, rfl⟩
            have HFp := Lib.hid (show Ft (A ++ ([b0] ++ G)) C (a + 1) (o + 2) (D ++ [b0]) ((B32.five m').map (B32.letter B32.alpha)) by
              have h1 := HFt.out
              rw [hAF] at h1
              have h2 := Ft.pack (bs := [b0]) (k := 2) h1 hAl rfl haq (by simp)
              rw [Hfv.out, List.map_append, List.drop_left' (by rw [List.length_map, ← Hkx.out])] at h2
              exact h2)
            have HAF := Lib.hid hAF
            have HFl := Lib.hid HFt.out.1
            clear hxs hAF HFt
            have cx0 : ∀ W : World, Blk W gd 204 (bvs (X.map UInt8.ofNat ++ List.replicate (8 - 2) 0)).toArray → W.cell? ⟨gd, 0, none⟩ = some (.int .u8 (x0 : Int)) := fun W hW => by
              rw [hW.cell 0, hXx]
              simp [bvs, bv]
              omega
            have cx1 : ∀ W : World, Blk W gd 204 (bvs (X.map UInt8.ofNat ++ List.replicate (8 - 2) 0)).toArray → W.cell? ⟨gd, 1, none⟩ = some (.int .u8 (x1 : Int)) := fun W hW => by
              rw [hW.cell 1, hXx]
              simp [bvs, bv]
              omega
            have HCx := Lib.hid (show ∀ W : World, Blk W gd 204 (bvs (X.map UInt8.ofNat ++ List.replicate (8 - 2) 0)).toArray → W.cell? ⟨gd, 0, none⟩ = some (.int .u8 (x0 : Int)) ∧ W.cell? ⟨gd, 1, none⟩ = some (.int .u8 (x1 : Int)) from fun W hW => ⟨cx0 W hW, cx1 W hW⟩)
            clear cx0 cx1
            have hNa : 5 ≤ N - a ∨ True := .inr trivial
            obtain ⟨nd, hnd⟩ : ∃ nd, nd = N - a := ⟨_, rfl⟩
            obtain ⟨cd, hcd⟩ : ∃ cd, cd = C - a := ⟨_, rfl⟩
            have i0 : (0 : Int) < (nd : Int) := by omega
            have ndp : 0 < nd := by omega
            have hndc : nd ≤ cd := by omega
            rw [← hnd, ← hcd]
            have Hnd := Lib.hid hnd
            have Hcd := Lib.hid hcd
            clear hnd hcd
            go_upto_region 40 with fail
            obtain ⟨c0, c1⟩ := HCx.out _ KD3.out
            obtain ⟨w0, hw0⟩ : ∃ v, wc.cell? ⟨gb, a, none⟩ = some v := ⟨_, bmLies KB3.out (k := a) (by first | (rw [HFl.out]; omega) | (simp only [List.length_set]; rw [HFl.out]; omega))⟩
            have fw0 := bmFree KB3.out (k := a) (by first | (rw [HFl.out]; omega) | (simp only [List.length_set]; rw [HFl.out]; omega))
            have KB4 := Lib.hid (bmSet (k := a) (n := z0) KB3.out (x := (z0 : Int)) (by omega))
            have KD4 := Lib.hid (KD3.out.far (p := ⟨gb, a, none⟩) (by show gb ≠ gd; omega) (.int .u8 (z0 : Int)))
            have HG4 := Lib.hid (grown_setCell HG3.out (p := ⟨gb, a, none⟩) (.inl rfl) (.int .u8 (z0 : Int)))
            go_upto_region 41 with fail
            clear KB3 KD3 HG3 hw0 fw0 c0 c1 ey0
            generalize wc.setCell ⟨gb, a, none⟩ (.int .u8 (z0 : Int)) = wy0 at *
            have KB3 := KB4
            have KD3 := KD4
            have HG3 := HG4
            clear KB4 KD4 HG4
            have HB5 := Lib.hid (show Bm wy0 gb t (bvs (A ++ ([b0] ++ G))).toArray by
              have h1 := KB3.out
              rw [HAF.out, put1 hAl] at h1
              rw [Hz.out]
              exact h1)
            have Hl2 := Lib.hid (show l = (D ++ [b0]) ++ m' by rw [Hl.out, Hmm.out, hbs, List.append_assoc])
            have HD2 := Lib.hid (show (D ++ [b0] : List UInt8).length = a + 1 by rw [List.length_append, HD.out]; rfl)
            have HXm := HXn.out
            have hm0 : m' = [] := by
              rcases HX8.out with h | ⟨_, h⟩
              · rw [hX] at h; simp at h
              · exact h
            have ha3 : a + 1 ≤ 2000 := by have h1 := HD2.out; have h2 := Hl2.out; have h3 := Hll.out; rw [h2, List.length_append] at h3; omega
            by_cases nd5 : 5 < nd
            · have nd6 : (5 : Int) < (nd : Int) := by omega
              have hs5 := fun W => slice5 (gb := gb) (o := a) (n := nd) (c := cd) nd5 (by omega) W
              go_wp2_with fail
              exact ⟨⟨a + 1, o + 2, n - 2, o2, cq - 2, m', _, _, rfl, by go_num, rfl, by omega, ha3, by omega, by omega, Lib.hid (by omega), Lib.hid (fun h => absurd hm0 h), Lib.hid (fun h => Ho2.out (by omega)), Lib.hid (by omega), Hl2, HD2, HFp, HB5, HG3⟩, by show n - 2 < n; omega⟩
            · have nd6 : ¬ (5 : Int) < (nd : Int) := by omega
              go_wp2_with fail
              exact ⟨⟨a + 1, o + 2, n - 2, o2, cq - 2, m', _, _, rfl, by go_num, rfl, by omega, ha3, by omega, by omega, Lib.hid (by omega), Lib.hid (fun h => absurd hm0 h), Lib.hid (fun h => Ho2.out (by omega)), Lib.hid (by omega), Hl2, HD2, HFp, HB5, HG3⟩, by show n - 2 < n; omega⟩
end
end Go.Proofs.YteodhonipbdplaaGreatDoor

/- base58's FastBase58EncodingAlphabet: it comes to the plain text. -/
import Derived.Test.YteodhonipbdplaaGreatDoorMd04
import Derived.Test.YteodhonipbdplaaGreatDoorMd09
import Derived.Deep.CutBlock
import Derived.Deep.DeepCutAuto
import Derived.Deep.RegionHeld3
import Derived.Deep.DrawnRows
namespace Go.Proofs.YteodhonipbdplaaGreatDoor
open Go.RowKit
set_option maxRecDepth 100000
attribute [local go_sem ↓] Go.wp_at_zero Go.wp_at_succ

/-- one block of bytes: the result's half ahead, the digits behind -/
def Buf (w : World) (g : Nat) (F T : List UInt8) : Prop := Blk w g 5 (bvs (F ++ T)).toArray
section
variable {w : World} {g k : Nat} {F T : List UInt8}
theorem Buf.get (h : Buf w g F T) (hk : k < T.length) {n : Nat} (hn : n = F.length) : w.cell? ⟨g, n + k, none⟩ = some (.int .u8 ((T[k].toNat : Nat) : Int)) := by
  subst hn
  rw [Blk.cell h]
  have := bvs_get (F ++ T) (F.length + k) (by simp; omega)
  simpa using this
theorem Buf.front (h : Buf w g F T) (hk : k < F.length) : w.cell? ⟨g, k, none⟩ = some (.int .u8 ((F[k].toNat : Nat) : Int)) := by
  rw [Blk.cell h]
  have := bvs_get (F ++ T) k (by simp; omega)
  rw [List.getElem_append_left hk] at this
  simpa using this
theorem bs_of_blk {w : World} {g : Nat} {t : TypeId} {l : List UInt8} (h : Blk w g t (bvs l).toArray) (hm : l.length ≤ 9223372036854775807) : Bs w w.heap.size (.slice (some ⟨g, 0, none⟩) l.length l.length) l := by
  refine ⟨_, _, rfl, Nat.le_refl _, hm, fun hl => ⟨g, 0, rfl, h.lt, fun k hk => ?_⟩⟩
  rw [Nat.zero_add, h.cell]
  have := bvs_get l k hk
  simpa using this
theorem bvs_set (l : List UInt8) (k : Nat) (x : UInt8) : (bvs l).set k (bv x) = bvs (l.set k x) := by simp [bvs, List.map_set]
theorem Buf.setT (h : Buf w g F T) {n : Nat} (hn : n = F.length) (x : UInt8) {d : Int} (hd : d = (x.toNat : Int)) : Buf (w.setCell ⟨g, n + k, none⟩ (.int .u8 d)) g F (T.set k x) := by
  subst hn hd
  have := Blk.set h (F.length + k) (bv x)
  rw [List.setIfInBounds_toArray, bvs_set, List.set_append_right _ _ (by omega), Nat.add_sub_cancel_left] at this
  exact this
theorem Buf.setF (h : Buf w g F T) (hk : k < F.length) (x : UInt8) {d : Int} (hd : d = (x.toNat : Int)) : Buf (w.setCell ⟨g, k, none⟩ (.int .u8 d)) g (F.set k x) T := by
  subst hd
  have := Blk.set h k (bv x)
  rw [List.setIfInBounds_toArray, bvs_set, List.set_append_left _ _ hk] at this
  exact this
theorem Buf.bs (h : Buf w g F T) {n N : Nat} (hn : n ≤ F.length) (hN : N = (F ++ T).length) (hm : (F ++ T).length ≤ 9223372036854775807) : Bs w w.heap.size (.slice (some ⟨g, 0, none⟩) n N) (F.take n) := by
  have := (bs_of_blk h hm).front (k := n) (by simp; omega)
  rw [List.take_append_of_le_length hn] at this
  subst hN
  exact this
end
theorem set_mid {T D : List UInt8} {j : Nat} (hj : j < T.length) (x : UInt8) : (T.take (j + 1) ++ D).set j x = T.take j ++ x :: D := by
  rw [List.take_succ_eq_append_getElem hj, List.append_assoc, List.set_append_right _ _ (by simp; omega)]
  have : j - (T.take j).length = 0 := by simp; omega
  rw [this]
  rfl
theorem step_cons {T : List UInt8} {j c : Nat} (hj : j < T.length) : (B58.step (T.drop j) c).1 = UInt8.ofNat (((B58.step (T.drop (j + 1)) c).2 + T[j].toNat * 256) % 58) :: (B58.step (T.drop (j + 1)) c).1 ∧ (B58.step (T.drop j) c).2 = ((B58.step (T.drop (j + 1)) c).2 + T[j].toNat * 256) / 58 := by
  rw [List.drop_eq_getElem_cons hj]
  exact ⟨rfl, rfl⟩
/-- the digits so far -/
structure Digs (l : List UInt8) (S i hh : Nat) (T : List UInt8) : Prop where
  len : T.length = S
  dig : B58.Dig T
  val : B58.val T = B58.num (l.take i)
  lead : T.take hh = List.replicate hh 0
theorem Digs.room {l T : List UInt8} {S i hh c : Nat} (h : Digs l S i hh T) (hi : i < l.length) (hc : c = l[i].toNat) (hS : B58.num l < 58 ^ S) : (B58.step T c).2 = 0 := by
  have h1 := B58.step_val T c
  have h2 := B58.num_succ hi
  have h3 := B58.num_take_le l (i + 1)
  rw [h.val, h.len, hc, ← h2] at h1
  rcases Nat.eq_zero_or_pos (B58.step T l[i].toNat).2 with h0 | h0
  · rw [hc]; exact h0
  · exfalso
    have : 1 * 58 ^ S ≤ (B58.step T l[i].toNat).2 * 58 ^ S := Nat.mul_le_mul_right _ h0
    omega
theorem Digs.next {l T : List UInt8} {S i hh j c : Nat} (h : Digs l S i hh T) (hi : i < l.length) (hc : c = l[i].toNat) (hS : B58.num l < 58 ^ S) (hj : j ≤ hh) (h0 : (B58.step (T.drop j) c).2 = 0) :
    Digs l S (i + 1) j (T.take j ++ (B58.step (T.drop j) c).1) := by
  have hlead : T.take j = List.replicate j 0 := by
    have : (T.take hh).take j = (List.replicate hh 0).take j := by rw [h.lead]
    rwa [List.take_take, Nat.min_eq_left hj, List.take_replicate, Nat.min_eq_left hj] at this
  have hroom := h.room hi hc hS
  have hstep : (B58.step T c).1 = T.take j ++ (B58.step (T.drop j) c).1 := by
    have := B58.step_append (T.take j) (T.drop j) c
    rw [List.take_append_drop, h0, hlead, B58.step_zeros] at this
    rw [hlead, this]
  rw [← hstep]
  refine ⟨by rw [B58.step_length, h.len], B58.step_dig _ _, ?_, ?_⟩
  · have h1 := B58.step_val T c
    rw [hroom, Nat.zero_mul, Nat.zero_add, h.val] at h1
    rw [h1, B58.num_succ hi, hc]
  · rw [hstep, hlead, List.take_left' (by simp)]
theorem Digs.carry {l T : List UInt8} {S i hh j c : Nat} (h : Digs l S i hh T) (hc : c ≤ 255) : (B58.step (T.drop j) c).2 ≤ 255 := B58.step_le (fun x hx => h.dig x (List.mem_of_mem_drop hx)) hc
theorem Digs.start {l : List UInt8} (S z : Nat) (hz : l.take z = List.replicate z 0) : Digs l S z S (List.replicate S 0) := by
  refine ⟨by simp, fun x hx => by rw [(List.mem_replicate.1 hx).2]; decide, ?_, by simp⟩
  rw [hz]
  have h1 : B58.num (List.replicate z 0) = 0 := by
    have := B58.num_zeros z []
    rw [List.append_nil] at this
    rw [this]; rfl
  rw [h1]
  clear h1 hz
  induction S with
  | zero => rfl
  | succ S ih => rw [List.replicate_succ, B58.val_cons, ih]; simp
theorem u8_eq0 (x : UInt8) : (((x.toNat : Nat) : Int) == 0) = decide (x = 0) := by
  by_cases h : x = 0
  · subst h; rfl
  · have : x.toNat ≠ 0 := fun e => h (UInt8.toNat_inj.1 e)
    simp [h, this]

theorem run_makeBytes' (w : World) (n : Nat) (hn : n ≤ 140737488355328) :
    (Instr.makeSlice 23 (.int .i64 (n : Int)) (.int .i64 (n : Int))).run Tryz.prog w = .ok (.slice (some ⟨w.heap.size, 0, none⟩) n n) (w.alloc (.cells (bvs (List.replicate n 0)).toArray 5)) := by
  obtain ⟨i0, hi, hz0, hz1, hz2⟩ := info_parts Tryz.info5
  have h := run_make (P := Tryz.prog) w 23 5 i0 _ Tryz.underlying23 hi hz0 .i64 .i64 (n : Int) (n : Int) (by omega) (by omega) (by rw [hz2]; omega) (by omega)
  have e : madeCells (Value.int .u8 0).cells ((n : Int).toNat * i0.size) = (bvs (List.replicate n 0)).toArray := by
    rw [hz1, Nat.mul_one, Int.toNat_natCast]
    apply Array.toList_inj.1
    show (madeCells #[Value.int .u8 0] n).toList = _
    rw [toList_madeCells_one]
    simp [bvs, bv]
  rw [e] at h
  simpa using h
/-- 'buf[k:]' of a whole block, k below its end -/
theorem slice_at (W : World) (g k N m : Nat) (hk : k < N) (hm : k + m = N) :
    (Instr.slice 23 (.slice (some ⟨g, 0, none⟩) N N) (some (.int .i64 (k : Int))) none none).run Tryz.prog W = .ok (.slice (some ⟨g, k, none⟩) m m) W := by
  obtain ⟨i0, hi, hz0, hz1, hz2⟩ := info_parts Tryz.info5
  have hs : Tryz.prog.elem 23 = 5 := by kernel_rfl
  have hu : Tryz.prog.underlying 23 = some (.slice (Tryz.prog.elem 23)) := by rw [hs]; exact Tryz.underlying23
  rw [run_slice_l W 23 (some ⟨g, 0, none⟩) N N hu .i64 k (by omega) (by omega)]
  have h1 : ¬ N = k := by omega
  have h2 : N - k = m := by omega
  simp [hs, sizeOf, typeInfo, sliced, hi, hz1, h1, h2, Addr.add]
  omega
/-- 'buf[:k]' of a whole block -/
theorem slice_to (W : World) (g k N : Nat) (hk : k ≤ N) :
    (Instr.slice 23 (.slice (some ⟨g, 0, none⟩) N N) none (some (.int .i64 (k : Int))) none).run Tryz.prog W = .ok (.slice (some ⟨g, 0, none⟩) k N) W := by
  obtain ⟨i0, hi, hz0, hz1, hz2⟩ := info_parts Tryz.info5
  have hs : Tryz.prog.elem 23 = 5 := by kernel_rfl
  have hu : Tryz.prog.underlying 23 = some (.slice (Tryz.prog.elem 23)) := by rw [hs]; exact Tryz.underlying23
  rw [run_slice_h W 23 (some ⟨g, 0, none⟩) N N hu .i64 k (by omega) (by omega)]
  simp [hs, sizeOf, typeInfo, sliced, hi, hz1, Addr.add]
theorem ones_next {k N : Nat} (h : k < N) : (List.replicate k 49 ++ List.replicate (N - k) 0 : List UInt8).set k 49 = List.replicate (k + 1) 49 ++ List.replicate (N - (k + 1)) 0 := by
  rw [List.set_append_right _ _ (by simp), List.length_replicate, Nat.sub_self]
  obtain ⟨m, hm⟩ : ∃ m, N - k = m + 1 := ⟨N - k - 1, by omega⟩
  rw [hm, show N - (k + 1) = m by omega, List.replicate_succ, List.set_cons_zero, List.replicate_succ', List.append_assoc]
  rfl
theorem drop_get {D T : List UInt8} {j t b : Nat} (h : D = T.drop j) (ht : t < D.length) (hb : b < T.length) (e : b = j + t) : D[t] = T[b] := by
  subst h e; simp
theorem letters_len {z t S : Nat} {D : List UInt8} (h : t ≤ D.length) (hS : D.length ≤ S) : S + z = (List.replicate z 49 ++ ((D.take t).map B58.letter ++ List.replicate (S - t) 0)).length := by
  simp; omega
theorem letters_next {z t a S : Nat} {D : List UInt8} {x : UInt8} (ha : a = z + t) (ht : t < D.length) (hx : D[t] = x) (hS : t < S) :
    (List.replicate z 49 ++ ((D.take t).map B58.letter ++ List.replicate (S - t) 0)).set a (B58.letter x) = List.replicate z 49 ++ ((D.take (t + 1)).map B58.letter ++ List.replicate (S - (t + 1)) 0) := by
  subst ha hx
  rw [List.set_append_right _ _ (by simp), List.length_replicate, Nat.add_sub_cancel_left, List.set_append_right _ _ (by simp; omega)]
  have e : t - ((D.take t).map B58.letter).length = 0 := by simp; omega
  obtain ⟨m, hm⟩ : ∃ m, S - t = m + 1 := ⟨S - t - 1, by omega⟩
  rw [e, hm, show S - (t + 1) = m by omega, List.replicate_succ, List.set_cons_zero, List.take_succ_eq_append_getElem ht, List.map_append, List.append_assoc]
  rfl
section
variable {w : World} {v : Value} {l : List UInt8} {ga : Nat}
set_option maxHeartbeats 1000000 in
theorem fastEnc (h : Bs w w.heap.size v l) (ha : Blk w ga 158 (alphaCells (decV 58))) (hlen : l.length ≤ 1000000) :
    Calls Tryz.prog 117 #[v, .pointer (some ⟨ga, 0, none⟩)] w fun e w' => e = .returned (.string (strOf (B58.enc l))) ∧ Below w.heap.size w w' := by
  obtain ⟨A, n, c, rfl, hn, hc, hm⟩ := h.form'
  have H := Lib.hid h
  have Ha := Lib.hid ha
  have hn6 : n ≤ 1000000 := by rw [hn.out]; exact hlen
  have a0 : w.cell? ⟨ga, 128, none⟩ = some (.int .u8 49) := alphaLetter ha (decV_length 58) (i := 0) (by omega)
  clear h ha hlen
  go_enter Tryz.func117, Tryz.ntmps117
  go_upto_block 0 with fail
  clear a0
  go_cut [9] (fun s9 wx => ∃ z : Nat, s9 = .int .i64 (z : Int) ∧ Hid (z = B58.zeros l) ∧ z ≤ n ∧ w = wx)
  case first =>
    go_wp2_with fail
    go_loop [9] (fun s9 => ∃ k : Nat, k ≤ n ∧ s9 = .int .i64 (k : Int) ∧ Hid (l.take k = List.replicate k 0)) (fun s9 => n - (intOf s9).toNat)
    case atStart => exact ⟨0, Nat.zero_le _, rfl, by show _ = _; simp⟩
    case round =>
      obtain ⟨k, hk, rfl, hz⟩ := hrel
      by_cases hlt : k < n
      · have hkl : k < l.length := by rw [← hn.out]; exact hlt
        obtain ⟨g, o, rfl, hcell, _⟩ := H.out.at' hkl
        have hq := u8_eq0 l[k]
        by_cases h0 : l[k] = 0
        · have hz2 := Lib.hid (show l.take (k + 1) = List.replicate (k + 1) 0 by rw [List.take_succ_eq_append_getElem hkl, hz.out, h0, List.replicate_succ'])
          rw [decide_eq_true h0] at hq
          clear hz h0
          generalize l[k].toNat = d at *
          go_wp2_with fail
          go_round
          case rel => exact ⟨k + 1, by omega, by go_num, hz2⟩
          case measure => simp [intOf]; omega
        · have hz2 := Lib.hid (B58.zeros_next hkl hz.out h0).symm
          rw [decide_eq_false h0] at hq
          clear hz h0
          generalize l[k].toNat = d at *
          go_wp2_with fail
          go_meet
          exact ⟨k, rfl, hz2, hk, rfl⟩
      · obtain rfl : k = n := by omega
        have hz2 := Lib.hid (show k = B58.zeros l by have := hz.out; rw [hn.out] at this ⊢; exact (B58.zeros_all this).symm)
        clear hz
        go_wp2_with fail
        go_meet
        exact ⟨k, rfl, hz2, hk, rfl⟩
  case rest =>
    obtain ⟨z, rfl, hz, hzn, rfl⟩ := hcut
    obtain ⟨S, hS⟩ : ∃ S, S = (n - z) * 138 / 100 + 1 := ⟨_, rfl⟩
    have HS := Lib.hid hS
    have hS1 : 1 ≤ S := by omega
    have hS2 : S ≤ 2000000 := by omega
    have Hroom := Lib.hid (show B58.num l < 58 ^ S by
      have := B58.num_room (l.drop z)
      rw [hz.out, B58.num_drop, ← hz.out, List.length_drop, ← hn.out, ← hS] at this
      exact this)
    go_upto_region 7 with fail
    go_cut [12] (fun s12 wx => s12 = .int .i64 (S : Int) ∧ w = wx)
    case first =>
      have hSi : (S : Int) = ((n : Int) - (z : Int)) * 138 / 100 + 1 := by omega
      clear hS
      go_wp2_with fail
      go_meet
      exact ⟨by rw [hSi], rfl⟩
    case rest =>
      obtain ⟨rfl, rfl⟩ := hcut
      clear hS
      obtain ⟨N, hN⟩ : ∃ N, N = S * 2 + z := ⟨_, rfl⟩
      have HN := Lib.hid hN
      go_upto_region 8 with fail
      go_cut [13] (fun s13 wx => s13 = .slice (some ⟨w.heap.size, 0, none⟩) N N ∧ w.alloc (.cells (bvs (List.replicate N 0)).toArray 5) = wx)
      case first =>
        have hmk : ∀ W : World, (Instr.makeSlice 23 (.int .i64 ((S : Int) * 2 + (z : Int))) (.int .i64 ((S : Int) * 2 + (z : Int)))).run Tryz.prog W = .ok (.slice (some ⟨W.heap.size, 0, none⟩) N N) (W.alloc (.cells (bvs (List.replicate N 0)).toArray 5)) := fun W => by
          rw [show (S : Int) * 2 + (z : Int) = (N : Int) by omega]
          exact run_makeBytes' W N (by omega)
        clear hN
        go_wp2_with fail
        go_meet
        exact ⟨rfl, rfl⟩
      case rest =>
        obtain ⟨rfl, rfl⟩ := hcut
        obtain ⟨gb, hgb⟩ : ∃ g, g = w.heap.size := ⟨_, rfl⟩
        have Hgb := Lib.hid hgb
        have HB := Lib.hid (show Buf (w.alloc (.cells (bvs (List.replicate N 0)).toArray 5)) gb (List.replicate (S + z) 0) (List.replicate S 0) by
          unfold Buf
          rw [List.replicate_append_replicate, show S + z + S = N by omega, hgb]
          exact Blk.new _ _ _)
        have Hbl := Lib.hid (below_alloc w (.cells (bvs (List.replicate N 0)).toArray 5))
        rw [← hgb]
        generalize hw1 : w.alloc (.cells (bvs (List.replicate N 0)).toArray 5) = w1 at *
        clear hw1 hgb
        go_upto_region 9 with fail
        go_cut [14] (fun s14 wx => s14 = .slice (some ⟨gb, S + z, none⟩) S S ∧ w1 = wx)
        case first =>
          have hsl : ∀ W : World, (Instr.slice 23 (.slice (some ⟨gb, 0, none⟩) N N) (some (.int .i64 ((S : Int) + (z : Int)))) none none).run Tryz.prog W = .ok (.slice (some ⟨gb, S + z, none⟩) S S) W := fun W => by
            rw [show (S : Int) + (z : Int) = ((S + z : Nat) : Int) by omega]
            exact slice_at W gb (S + z) N S (by omega) (by omega)
          clear hN
          go_wp2_with fail
          go_meet
          exact ⟨rfl, rfl⟩
        case rest =>
          obtain ⟨rfl, rfl⟩ := hcut
          clear hN
          have hzi := Lib.hid (Digs.start (l := l) S z (by rw [hz.out]; exact B58.zeros_take l))
          go_wp2_with fail
          go_loopw [7, 10] (fun si sh wr => ∃ (i hh : Nat) (hq : Int) (T : List UInt8), z ≤ i ∧ i ≤ n ∧ si = .int .i64 (i : Int) ∧ sh = .int .i64 hq ∧ hq = (hh : Int) - 1 ∧ hh ≤ S ∧ Hid (Digs l S i hh T) ∧ Hid (Buf wr gb (List.replicate (S + z) 0) T) ∧ Hid (Below w.heap.size w wr)) (fun si _ _ => n - (intOf si).toNat)
          case atStart => exact ⟨z, S, _, _, Nat.le_refl _, hzn, rfl, rfl, rfl, Nat.le_refl _, hzi, HB, Hbl⟩
          case round =>
            clear HB Hbl hzi
            obtain ⟨i, hh, hq, T, hzi, hin, rfl, rfl, hhq, hhS, HD, HB, Hbl⟩ := hrel
            by_cases hlt : i < n
            · have hil : i < l.length := by rw [← hn.out]; exact hlt
              obtain ⟨g, o, rfl, hcell, _⟩ := (H.out.below Hbl.out).at' hil
              have hd := UInt8.toNat_lt l[i]
              obtain ⟨d, hdd⟩ : ∃ d, d = l[i].toNat := ⟨_, rfl⟩
              have Hdd := Lib.hid hdd
              rw [← hdd] at hcell hd
              have hd255 : d ≤ 255 := by omega
              clear hdd hd
              have HT0 := Lib.hid (show T.drop S = [] from List.drop_of_length_le (by rw [HD.out.len]; exact Nat.le_refl _))
              have HB0 := Lib.hid (show Buf wr gb (List.replicate (S + z) 0) (T.take S ++ (B58.step (T.drop S) d).1) by
                rw [HT0.out, List.take_of_length_le (by rw [HD.out.len]; exact Nat.le_refl _)]
                have e : (B58.step [] d).1 = [] := rfl
                rw [e, List.append_nil]
                exact HB.out)
              have HC0 := Lib.hid (show d = (B58.step (T.drop S) d).2 by rw [HT0.out]; rfl)
              go_wp2_with fail
              clear hcell HB
              go_loopw [8, 11] (fun sj sc wr => ∃ (j ca : Nat) (q : Int), sj = .int .i64 q ∧ q = (j : Int) - 1 ∧ j ≤ S ∧ sc = .int .u32 (ca : Int) ∧ ca ≤ 255 ∧ Hid (ca = (B58.step (T.drop j) d).2) ∧ Hid (Buf wr gb (List.replicate (S + z) 0) (T.take j ++ (B58.step (T.drop j) d).1)) ∧ Hid (Below w.heap.size w wr)) (fun sj _ _ => (intOf sj + 1).toNat)
              case atStart => exact ⟨S, d, _, rfl, rfl, Nat.le_refl _, rfl, hd255, HC0, HB0, Hbl⟩
              case round =>
                clear HB0 HC0 Hbl HT0
                obtain ⟨j, ca, q, rfl, hjq, hjS, rfl, hca, HC, HB, Hbl⟩ := hrel
                by_cases hcont : hh < j ∨ ca ≠ 0
                · have hj0 : 0 < j := by
                    rcases Nat.eq_zero_or_pos j with h0 | h0
                    · exfalso
                      subst h0
                      have := HD.out.room hil Hdd.out Hroom.out
                      have h2 := HC.out
                      rw [List.drop_zero, this] at h2
                      omega
                    · exact h0
                  obtain ⟨j, rfl⟩ : ∃ k, j = k + 1 := ⟨j - 1, by omega⟩
                  obtain rfl : q = (j : Int) := by omega
                  have hjT : j < T.length := by rw [HD.out.len]; omega
                  have hTj := HD.out.dig T[j] (List.getElem_mem hjT)
                  have hcell := HB.out.get (k := j) (n := S + z) (by simp; omega) (by simp)
                  rw [List.getElem_append_left (by simp; omega), List.getElem_take] at hcell
                  obtain ⟨h1, h2⟩ := step_cons (T := T) (c := d) hjT
                  have hfree := Blk.free HB.out (S + z + j)
                  have HB2 := Lib.hid (show Buf (wr.setCell ⟨gb, S + z + j, none⟩ (.int .u8 (((ca : Int) + 256 * ((T[j].toNat : Nat) : Int)) % 58))) gb (List.replicate (S + z) 0) (T.take j ++ (B58.step (T.drop j) d).1) by
                    have := HB.out.setT (k := j) (n := S + z) (by simp) (UInt8.ofNat (((B58.step (T.drop (j + 1)) d).2 + T[j].toNat * 256) % 58)) (d := ((ca : Int) + 256 * ((T[j].toNat : Nat) : Int)) % 58) (by rw [B58.toNat_mod, HC.out]; omega)
                    rwa [set_mid hjT, ← h1] at this)
                  have HC2 := Lib.hid (show (ca + 256 * T[j].toNat) / 58 = (B58.step (T.drop j) d).2 by rw [h2, ← HC.out]; congr 1; omega)
                  have hca2 : (ca + 256 * T[j].toNat) / 58 ≤ 255 := by omega
                  have Hbl2 := Lib.hid (blk_setCell_below Hbl.out (by have := Hgb.out; omega) (S + z + j) (.int .u8 (((ca : Int) + 256 * ((T[j].toNat : Nat) : Int)) % 58)) (g := gb))
                  clear h1 h2 HB HC Hbl hjq
                  generalize T[j].toNat = t at *
                  by_cases hgt : hh ≤ j
                  · have ht1 : hq < (j : Int) := by omega
                    clear hcont
                    go_wp2_with fail
                    exact ⟨⟨j, rfl, by omega, (ca + 256 * t) / 58, by omega, hca2, HC2, HB2⟩, by simp [intOf]; omega⟩
                  · have ht1 : ¬ hq < (j : Int) := by omega
                    have ht2 : ((ca : Int) != 0) = true := by
                      have : ca ≠ 0 := by omega
                      simpa using this
                    clear hcont
                    go_wp2_with fail
                    exact ⟨⟨j, rfl, by omega, (ca + 256 * t) / 58, by omega, hca2, HC2, HB2⟩, by simp [intOf]; omega⟩
                · have hjh : j ≤ hh := by omega
                  obtain rfl : ca = 0 := by omega
                  have ht1 : ¬ hq < q := by omega
                  have HD2 := Lib.hid (HD.out.next hil Hdd.out Hroom.out hjh HC.out.symm)
                  have HB2 := Lib.hid HB.out
                  clear hcont HC HB
                  go_wp2_with fail
                  exact ⟨⟨i + 1, j, _, _, by omega, by omega, by go_num, rfl, rfl, by omega, HD2, HB2, Hbl⟩, by simp [intOf]; omega⟩
            · obtain rfl : i = n := by omega
              have HV := Lib.hid (show B58.val T = B58.num l by have := HD.out.val; rw [hn.out, List.take_length] at this; exact this)
              have HT := Lib.hid (show T.length = S from HD.out.len)
              have HDg := Lib.hid HD.out.dig
              clear HD hzi hlt Hroom hhq hhS
              go_upto_block 6 with fail
              go_cut [8] (fun s8 wx => ∃ j : Nat, s8 = .int .i64 (j : Int) ∧ j ≤ S ∧ Hid (T.drop j = B58.dig (B58.num l)) ∧ wr = wx)
              case first =>
                go_wp2_with fail
                go_loop [8] (fun s8 => ∃ j : Nat, j ≤ S ∧ s8 = .int .i64 (j : Int) ∧ Hid (T.take j = List.replicate j 0)) (fun s8 => S - (intOf s8).toNat)
                case atStart => exact ⟨0, Nat.zero_le _, rfl, by show _ = _; simp⟩
                case round =>
                  obtain ⟨j, hj, rfl, hz⟩ := hrel
                  by_cases hlt : j < S
                  · have hjT : j < T.length := by rw [HT.out]; exact hlt
                    have hcell := HB.out.get (k := j) (n := S + z) hjT (by simp)
                    have hq := u8_eq0 T[j]
                    by_cases h0 : T[j] = 0
                    · have hz2 := Lib.hid (show T.take (j + 1) = List.replicate (j + 1) 0 by rw [List.take_succ_eq_append_getElem hjT, hz.out, h0, List.replicate_succ'])
                      rw [decide_eq_true h0] at hq
                      clear hz h0
                      generalize T[j].toNat = d at *
                      go_wp2_with fail
                      go_round
                      case rel => exact ⟨j + 1, by omega, by go_num, hz2⟩
                      case measure => simp [intOf]; omega
                    · have hz2 := Lib.hid (show T.drop j = B58.dig (B58.num l) by rw [← HV.out]; exact B58.dig_lead HDg.out hz.out (by omega) (fun _ => h0))
                      rw [decide_eq_false h0] at hq
                      clear hz h0
                      generalize T[j].toNat = d at *
                      go_wp2_with fail
                      go_meet
                      exact ⟨j, rfl, hj, hz2, rfl⟩
                  · obtain rfl : j = S := by omega
                    have hz2 := Lib.hid (show T.drop j = B58.dig (B58.num l) by rw [← HV.out]; exact B58.dig_lead HDg.out hz.out (by rw [HT.out]; exact Nat.le_refl _) (fun h => absurd h (by rw [HT.out]; omega)))
                    clear hz
                    go_wp2_with fail
                    go_meet
                    exact ⟨j, rfl, hj, hz2, rfl⟩
              case rest =>
                obtain ⟨j, rfl, hjS, Hdj, rfl⟩ := hcut
                obtain ⟨K, hK⟩ : ∃ K, K = S - j + z := ⟨_, rfl⟩
                have HK := Lib.hid hK
                have hKN : K ≤ S + z := by omega
                go_upto_region 25 with fail
                go_cut [15] (fun s15 wx => s15 = .slice (some ⟨gb, 0, none⟩) K N ∧ wr = wx)
                case first =>
                  have hsl : ∀ W : World, (Instr.slice 23 (.slice (some ⟨gb, 0, none⟩) N N) none (some (.int .i64 ((S : Int) - (j : Int) + (z : Int)))) none).run Tryz.prog W = .ok (.slice (some ⟨gb, 0, none⟩) K N) W := fun W => by
                    rw [show (S : Int) - (j : Int) + (z : Int) = (K : Int) by omega]
                    exact slice_to W gb K N (by have := HN.out; omega)
                  clear hK
                  go_wp2_with fail
                  go_meet
                  exact ⟨rfl, rfl⟩
                case rest =>
                  obtain ⟨rfl, rfl⟩ := hcut
                  clear hK
                  have hKz : z ≤ K := by have := HK.out; omega
                  go_upto_if 112 with fail
                  go_cut [] (fun wx => Hid (Buf wx gb (List.replicate z 49 ++ List.replicate S 0) T) ∧ Hid (Below w.heap.size w wx))
                  case first =>
                    by_cases h0 : z = 0
                    · have HB2 := Lib.hid (show Buf wr gb (List.replicate z 49 ++ List.replicate S 0) T by have := HB.out; rw [h0] at this ⊢; exact this)
                      subst h0
                      go_wp2_with fail
                      go_meet
                      exact ⟨HB2, Hbl⟩
                    · have ht : ((z : Int) != 0) = true := by simpa using h0
                      have HB2 := Lib.hid (show Buf wr gb (List.replicate 0 49 ++ List.replicate (S + z - 0) 0) T from HB.out)
                      clear h0 HB
                      go_wp2_with fail
                      go_loopw [7] (fun s7 wr => ∃ k : Nat, k ≤ z ∧ s7 = .int .i64 (k : Int) ∧ Hid (Buf wr gb (List.replicate k 49 ++ List.replicate (S + z - k) 0) T) ∧ Hid (Below w.heap.size w wr)) (fun s7 _ => z - (intOf s7).toNat)
                      case atStart => exact ⟨0, Nat.zero_le _, rfl, HB2, Hbl⟩
                      case round =>
                        clear HB2 Hbl
                        obtain ⟨k, hk, rfl, HB, Hbl⟩ := hrel
                        by_cases hlt : k < z
                        · have hkF : k < (List.replicate k 49 ++ List.replicate (S + z - k) 0 : List UInt8).length := by simp; omega
                          obtain ⟨dv, hcell⟩ : ∃ u, wr.cell? ⟨gb, k, none⟩ = some u := ⟨_, HB.out.front hkF⟩
                          have hfree := Blk.free HB.out k
                          have HB3 := Lib.hid (show Buf (wr.setCell ⟨gb, k, none⟩ (.int .u8 49)) gb (List.replicate (k + 1) 49 ++ List.replicate (S + z - (k + 1)) 0) T by
                            have := HB.out.setF hkF 49 (d := 49) rfl
                            rwa [ones_next (show k < S + z by omega)] at this)
                          have Hbl3 := Lib.hid (blk_setCell_below Hbl.out (by have := Hgb.out; omega) k (.int .u8 49) (g := gb))
                          have hkK : (k : Int) < (K : Int) := by omega
                          clear HB Hbl
                          go_wp2_with fail
                          go_roundw
                          case rel => exact ⟨k + 1, by omega, by go_num, HB3, Hbl3⟩
                          case measure => simp [intOf]; omega
                        · obtain rfl : k = z := by omega
                          have HB3 := Lib.hid (show Buf wr gb (List.replicate k 49 ++ List.replicate S 0) T by have := HB.out; rwa [Nat.add_sub_cancel] at this)
                          clear HB
                          go_wp2_with fail
                          go_meet
                          exact ⟨HB3, Hbl⟩
                  case rest =>
                    clear HB Hbl
                    obtain ⟨HB, Hbl⟩ := hcut
                    obtain ⟨wF, rfl⟩ : ∃ wF : World, wF = wc := ⟨_, rfl⟩
                    obtain ⟨D, hD⟩ : ∃ D, D = T.drop j := ⟨_, rfl⟩
                    have HDd := Lib.hid hD
                    have HDl := Lib.hid (show D.length = S - j by rw [hD, List.length_drop, HT.out])
                    have HB2 := Lib.hid (show Buf wF gb (List.replicate z 49 ++ ((D.take 0).map B58.letter ++ List.replicate (S - 0) 0)) T from HB.out)
                    clear hD HB
                    go_wp2_with fail
                    go_loopw [7, 8] (fun s7 s8 wr => ∃ (t a b : Nat), t ≤ S - j ∧ s7 = .int .i64 (a : Int) ∧ Hid (a = z + t) ∧ s8 = .int .i64 (b : Int) ∧ Hid (b = j + t) ∧ Hid (Buf wr gb (List.replicate z 49 ++ ((D.take t).map B58.letter ++ List.replicate (S - t) 0)) T) ∧ Hid (Below w.heap.size w wr)) (fun _ s8 _ => S - (intOf s8).toNat)
                    case atStart => exact ⟨0, z, j, Nat.zero_le _, rfl, rfl, rfl, rfl, HB2, Hbl⟩
                    case round =>
                      clear HB2 Hbl
                      obtain ⟨t, a, b, ht, rfl, Hxa, rfl, Hxb, HB, Hbl⟩ := hrel
                      have ha := Hxa.out
                      have hb := Hxb.out
                      by_cases hlt : b < S
                      · have hbT : b < T.length := by rw [HT.out]; exact hlt
                        have htD : t < D.length := by rw [HDl.out]; omega
                        have hcell := HB.out.get (k := b) hbT (letters_len (by omega) (by have := HDl.out; omega))
                        have hd58 := HDg.out T[b] (List.getElem_mem hbT)
                        have hlet := alphaLetter (Ha.out.step Hbl.out) (decV_length 58) (i := T[b].toNat) hd58
                        have haF : a < (List.replicate z 49 ++ ((D.take t).map B58.letter ++ List.replicate (S - t) 0)).length := by rw [← letters_len (by omega) (by have := HDl.out; omega)]; omega
                        obtain ⟨dv, hst⟩ : ∃ u, wr.cell? ⟨gb, a, none⟩ = some u := ⟨_, HB.out.front haF⟩
                        have hfree := Blk.free HB.out a
                        have HB3 := Lib.hid (show Buf (wr.setCell ⟨gb, a, none⟩ (bv (B58.letter T[b]))) gb (List.replicate z 49 ++ ((D.take (t + 1)).map B58.letter ++ List.replicate (S - (t + 1)) 0)) T by
                          have := HB.out.setF haF (B58.letter T[b]) rfl
                          rwa [letters_next ha htD (drop_get HDd.out htD hbT hb) (by omega)] at this)
                        have Hbl3 := Lib.hid (blk_setCell_below Hbl.out (by have := Hgb.out; omega) a (bv (B58.letter T[b])) (g := gb))
                        have haK : (a : Int) < (K : Int) := by have := HK.out; omega
                        clear HB Hbl haF
                        have hbS : (b : Int) < (S : Int) := by omega
                        have hb0 : (0 : Int) ≤ (b : Int) := by omega
                        have ha0 : (0 : Int) ≤ (a : Int) := by omega
                        clear ha hb
                        generalize hle : B58.letter T[b] = le at *
                        unfold B58.letter at hle
                        rw [hle] at hlet
                        clear hle
                        have hd0 : (0 : Int) ≤ ((T[b].toNat : Nat) : Int) := by omega
                        have hd1 : ((T[b].toNat : Nat) : Int) < 58 := by omega
                        generalize T[b].toNat = d at *
                        go_wp2_with fail
                        have hcell' : wr.drew.cell? ⟨gb, S + z + b, none⟩ = some (.int .u8 (d : Int)) := hcell
                        have hlet' : wr.drew.cell? ⟨ga, 128 + d, none⟩ = some (bv le) := hlet
                        have hcell2 : (wr.setCell ⟨gb, a, none⟩ (bv le)).drew.cell? ⟨gb, S + z + b, none⟩ = some (.int .u8 (d : Int)) := (World.cell?_setCell_other wr ⟨gb, a, none⟩ ⟨gb, S + z + b, none⟩ (bv le) (by intro e; injection e with _ e; have := Hxa.out; have := HK.out; omega)).trans hcell
                        have hlet2 : (wr.setCell ⟨gb, a, none⟩ (bv le)).drew.cell? ⟨ga, 128 + d, none⟩ = some (bv le) := (World.cell?_setCell_other wr ⟨gb, a, none⟩ ⟨ga, 128 + d, none⟩ (bv le) (by intro e; injection e with e; have := Ha.out.lt; have := Hgb.out; omega)).trans hlet
                        go_region_held3 (fun W => W.cell? ⟨gb, S + z + b, none⟩ = some (.int .u8 (d : Int)) ∧ W.cell? ⟨ga, 128 + d, none⟩ = some (bv le)) (with_reducible first | exact ⟨hcell', hlet'⟩ | exact ⟨hcell2, hlet2⟩) (fail)
                        go_wp2_with fail
                        have HB4 := Lib.hid (show Buf (wr.setCell ⟨gb, a, none⟩ (bv le)).drew gb (List.replicate z 49 ++ ((D.take (t + 1)).map B58.letter ++ List.replicate (S - (t + 1)) 0)) T from HB3.out)
                        have Hbl4 := Lib.hid (show Below w.heap.size w (wr.setCell ⟨gb, a, none⟩ (bv le)).drew from Hbl3.out.drew)
                        go_roundw
                        case rel => exact ⟨t + 1, a + 1, b + 1, by have := Hxb.out; omega, by go_num, Lib.hid (by have := Hxa.out; omega), by go_num, Lib.hid (by have := Hxb.out; omega), HB4, Hbl4⟩
                        case measure => simp [intOf]; omega
                      · have htS : t = S - j := by omega
                        have hKk : K = z + t := by have := HK.out; omega
                        have hfr := HB.out.bs (n := K) (N := N) (by rw [← letters_len (by have := HDl.out; omega) (by have := HDl.out; omega)]; omega) (by rw [List.length_append, ← letters_len (by have := HDl.out; omega) (by have := HDl.out; omega), HT.out]; have := HN.out; omega) (by rw [List.length_append, ← letters_len (by have := HDl.out; omega) (by have := HDl.out; omega), HT.out]; omega)
                        have e : (List.replicate z 49 ++ ((D.take t).map B58.letter ++ List.replicate (S - t) 0)).take K = B58.enc l := by
                          rw [List.take_of_length_le (show D.length ≤ t by rw [HDl.out]; omega), ← List.append_assoc, List.take_left' (by simp; have := HDl.out; omega), HDd.out, Hdj.out, hz.out]
                          rfl
                        rw [e] at hfr
                        have hconv := conv_str hfr Tryz.underlying9
                        clear hfr e hKk htS ha hb HB
                        go_wp2_with fail
                        go_ret
                        exact ⟨rfl, Hbl.out⟩
end
end Go.Proofs.YteodhonipbdplaaGreatDoor

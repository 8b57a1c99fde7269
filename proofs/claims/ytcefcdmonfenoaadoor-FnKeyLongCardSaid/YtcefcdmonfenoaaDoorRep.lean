/- slices.Repeat of one byte. -/
import Derived.Test.YtcefcdmonfenoaaDoorCon
import Derived.Laws.CopyOwn
import Derived.Deep.RegionLaw
namespace Go.Proofs.YtcefcdmonfenoaaDoor
open Go.RowKit
set_option maxRecDepth 100000

theorem low32n (x : Nat) (hx : x < 4294967296) : bits .and .u64 (x : Int) 4294967295 = (x : Int) := by
  have h := u64_and_nat x 4294967295 (by omega) (by omega)
  have h2 : x &&& 4294967295 = x % 4294967296 := Nat.and_two_pow_sub_one_eq_mod x 32
  rw [h2, Nat.mod_eq_of_lt hx] at h
  exact h
theorem low32 (x : Int) (h0 : 0 ≤ x) (h1 : x < 4294967296) : bits .and .u64 x 4294967295 = x := by
  obtain ⟨n, rfl⟩ := Int.eq_ofNat_of_zero_le h0
  exact low32n n (by omega)

/-- 1 times n, in two words -/
theorem mul64_one (w : World) (n : Int) (h0 : 0 ≤ n) (h1 : n < 4294967296) :
    Calls Tryd.prog 102 #[.int .u64 1, .int .u64 n] w fun e w' => e = .returned (.tuple #[.int .u64 0, .int .u64 n]) ∧ w = w' := by
  have hn := low32 n h0 h1
  have h11 : bits .and .u64 1 4294967295 = 1 := low32 1 (by omega) (by omega)
  have h00 : bits .and .u64 0 4294967295 = 0 := low32 0 (by omega) (by omega)
  have hq : n / 4294967296 = 0 := by omega
  go_enter Tryd.func102, Tryd.ntmps102
  go_wp2
  go_ret2
  exact ⟨rfl, rfl⟩

theorem mul_one_ (w : World) (n : Int) (h0 : 0 ≤ n) (h1 : n < 4294967296) :
    Calls Tryd.prog 82 #[.int .u64 1, .int .u64 n] w fun e w' => e = .returned (.tuple #[.int .u64 0, .int .u64 n]) ∧ w = w' := by
  have Hm := Lib.hid (mul64_one w n h0 h1)
  go_enter Tryd.func82, Tryd.ntmps82
  go_wp2_with fail
  refine Hm.out.mono ?_
  rintro e w1 ⟨rfl, rfl⟩
  go_wp2_with fail
  go_ret2
  exact ⟨rfl, rfl⟩

theorem run_makeBytes (w : World) (n : Nat) (hn : n ≤ 140737488355328) :
    (Instr.makeSlice 23 (.int .i64 (n : Int)) (.int .i64 (n : Int))).run Tryd.prog w = .ok (.slice (some ⟨w.heap.size, 0, none⟩) n n) (w.alloc (.cells (bvs (List.replicate n 0)).toArray 5)) := by
  obtain ⟨i0, hi, hz0, hz1, hz2⟩ := info_parts Tryd.info5
  have h := run_make (P := Tryd.prog) w 23 5 i0 _ Tryd.underlying23 hi hz0 .i64 .i64 (n : Int) (n : Int) (by omega) (by omega) (by rw [hz2]; omega) (by omega)
  have e : madeCells (Value.int .u8 0).cells ((n : Int).toNat * i0.size) = (bvs (List.replicate n 0)).toArray := by
    rw [hz1, Nat.mul_one, Int.toNat_natCast]
    apply Array.toList_inj.1
    show (madeCells #[Value.int .u8 0] n).toList = _
    rw [toList_madeCells_one]
    simp [bvs, bv]
  rw [e] at h
  simpa using h

theorem Bs.of_blk {w : World} {g : Nat} {t : TypeId} {l : List UInt8} (h : Blk w g t (bvs l).toArray) (hm : l.length ≤ 9223372036854775807) : Bs w w.heap.size (.slice (some ⟨g, 0, none⟩) l.length l.length) l := by
  refine ⟨_, _, rfl, Nat.le_refl _, hm, fun hl => ⟨g, 0, rfl, h.lt, fun k hk => ?_⟩⟩
  rw [Nat.zero_add, h.cell]
  have := bvs_get l k hk
  simpa using this

/-- m bytes b, then n - m zeros -/
def partly (b : UInt8) (m n : Nat) : List UInt8 := List.replicate m b ++ List.replicate (n - m) 0
theorem partly_length {b : UInt8} {m n : Nat} (h : m ≤ n) : (partly b m n).length = n := by simp [partly]; omega
theorem partly_get {b : UInt8} {m n j : Nat} (h : j < m) : (partly b m n)[j]? = some b := by
  unfold partly
  rw [List.getElem?_append_left (by simpa using h)]
  simp [h]
theorem partly_splice {b : UInt8} {m n k : Nat} (_h : m + k ≤ n) : splice (bvs (partly b m n)) m (bvs (List.replicate k b)) = bvs (partly b (m + k) n) := by
  unfold splice bvs partly
  rw [← List.map_take, ← List.map_drop, ← List.map_append, ← List.map_append]
  congr 1
  rw [List.take_append_of_le_length (by simp), List.take_of_length_le (by simp)]
  simp only [List.length_map, List.length_replicate]
  rw [List.drop_append]
  simp only [List.length_replicate, List.drop_replicate]
  rw [show m - (m + k) = 0 by omega, show m + k - m = k by omega, List.replicate_zero, List.nil_append, ← List.append_assoc, List.replicate_append_replicate]
  congr 2
  omega

def RepAns (w : World) (l : List UInt8) (e : Ending) (w' : World) : Prop := ∃ v', e = .returned v' ∧ Bs w' w'.heap.size v' l ∧ Below w.heap.size w w'

set_option maxHeartbeats 1000000 in
theorem repeat_ {w : World} {A : Option Addr} {c : Nat} {b : UInt8} (h : Bs w w.heap.size (.slice A 1 c) [b]) (n : Nat) (h1 : 1 ≤ n) (hn : n < 4294967296) :
    Calls Tryd.prog 55 #[.slice A 1 c, .int .i64 (n : Int)] w fun e w' => RepAns w (List.replicate n b) e w' := by
  have Hm := Lib.hid (mul_one_ w (n : Int) (by omega) (by omega))
  have hi1 : 1 ≤ (n : Int) := by omega
  have hi2 : (n : Int) < 4294967296 := by omega
  have hmk : ∀ W : World, (Instr.makeSlice 23 (.int .i64 (n : Int)) (.int .i64 (n : Int))).run Tryd.prog W = .ok (.slice (some ⟨W.heap.size, 0, none⟩) n n) (W.alloc (.cells (bvs (List.replicate n 0)).toArray 5)) := fun W => run_makeBytes W n (by omega)
  have hsz : (Tryd.prog.info? 5).map (·.size) = some 1 := by kernel_rfl
  obtain ⟨A0, c0, he, hc1, hcm, hcell⟩ := h
  injection he with e1 e2 e3
  subst e1 e3
  clear e2
  obtain ⟨g0, o0, rfl, hg0, hce⟩ := hcell (by simp)
  have hce0 := Lib.hid (hce 0 (by simp))
  clear hce hcell
  have B0 := Lib.hid (below_alloc w (.cells (bvs (List.replicate n 0)).toArray 5))
  have K0 := Lib.hid (show Blk (w.alloc (.cells (bvs (List.replicate n 0)).toArray 5)) w.heap.size 5 (bvs (partly b 0 n)).toArray from by
    have : partly b 0 n = List.replicate n 0 := by simp [partly]
    rw [this]
    exact Blk.new _ _ _)
  have S0 := Lib.hid (show ∀ j v, (bvs (List.replicate 1 b))[j]? = some v → (w.alloc (.cells (bvs (List.replicate n 0)).toArray 5)).cell? ((⟨g0, o0, none⟩ : Addr).add j) = some v from fun j v hj => by
    rw [show List.replicate 1 b = [b] from rfl] at hj
    cases j with
    | succ j => simp [bvs] at hj
    | zero =>
      have hv : bv b = v := by simpa [bvs] using hj
      subst hv
      exact (World.cell?_alloc_lt w _ ⟨g0, o0, none⟩ hg0).trans hce0.out)
  obtain ⟨one, hone⟩ : ∃ one, one = bvs (List.replicate 1 b) := ⟨_, rfl⟩
  have Hone := Lib.hid hone
  have L1 := Lib.hid (show one.length = 1 by rw [hone]; simp [bvs])
  have F1 := Lib.hid (show 0 + one.length ≤ (bvs (partly b 0 n)).length by rw [bvs_length, partly_length (by omega), hone]; simp [bvs]; omega)
  have O1 := Lib.hid (show ∀ v ∈ one, v.oneCell' = true by rw [hone]; exact bvs_one _)
  have M1 := Lib.hid (show one.length = Nat.min 1 n by rw [L1.out]; exact (Nat.min_eq_left h1).symm)
  rw [← hone] at S0
  clear hone hce0 hc1 hg0
  generalize hi : (n : Int) = i at Hm hi1 hi2 hmk ⊢
  have Hi := Lib.hid hi
  clear hi hn
  go_enter Tryd.func55, Tryd.ntmps55
  go_wp2_with fail
  refine Hm.out.mono ?_
  rintro e w1 ⟨rfl, rfl⟩
  go_wp2_with (refine wpList_copy_splice rfl (.tmp 31) (.tmp 32) 23 23 rfl 5 Tryd.underlying23 hsz _ _ n n 1 c (by rfl) (by rfl) w.heap.size 0 (bvs (partly b 0 n)) 5 K0.out one M1.out (fun _ => ⟨rfl, _, rfl, S0.out⟩) F1.out O1.out w.heap.size w B0.out (Nat.le_refl _) ?_; intro w2 hg2 hb2)
  have K1 := Lib.hid (show Blk w2 w.heap.size 5 (bvs (partly b 1 n)).toArray from by
    have := hg2.out
    rw [Hone.out, partly_splice (m := 0) (k := 1) (by omega)] at this
    exact this)
  have B1 := Lib.hid hb2
  have L1' := L1.out
  clear hg2 hb2 K0 B0 hmk Hm S0 F1 O1 M1 Hone
  go_loopw [8] (fun s wr => ∃ m : Nat, 1 ≤ m ∧ m ≤ n ∧ s = .int .i64 m ∧ Hid (Blk wr w.heap.size 5 (bvs (partly b m n)).toArray) ∧ Hid (Below w.heap.size w wr)) (fun s _ => n - (intOf s).toNat)
  case atStart => exact ⟨1, Nat.le_refl _, h1, by rw [L1'], K1, B1⟩
  case round =>
    clear K1 B1 L1 L1'
    obtain ⟨m, hm1, hmn, rfl, K, B⟩ := hrel
    have hn63 : (n : Int) < 4294967296 := by rw [Hi.out]; exact hi2
    clear hi1 hi2
    by_cases hlt : m < n
    · obtain ⟨X, hX⟩ : ∃ X, X = bvs (List.replicate (Nat.min m (n - m)) b) := ⟨_, rfl⟩
      have LX : X.length = Nat.min m (n - m) := by rw [hX]; simp [bvs]
      have HX := Lib.hid hX
      have LX1 := Lib.hid LX
      have S1 := Lib.hid (show ∀ (W : World), (∀ p : Addr, W.cell? p = wr.cell? p) → ∀ j v, X[j]? = some v → W.cell? ((⟨w.heap.size, 0, none⟩ : Addr).add j) = some v from fun W hW j v hj => by
        have hjl : j < X.length := (List.getElem?_eq_some_iff.1 hj).1
        have hjm : j < m := by have : Nat.min m (n - m) ≤ m := Nat.min_le_left _ _; omega
        rw [hW]
        have e : (⟨w.heap.size, 0, none⟩ : Addr).add j = ⟨w.heap.size, j, none⟩ := by simp [Addr.add]; omega
        rw [e, K.out.cell]
        have hv : bv b = v := by
          rw [hX] at hj
          have h := bvs_get (List.replicate (Nat.min m (n - m)) b) j (by rw [hX] at hjl; simpa [bvs] using hjl)
          rw [h] at hj
          simpa using hj
        rw [← hv]
        have h2 := partly_get (b := b) (n := n) hjm
        simp [bvs, h2])
      have F2 := Lib.hid (show m + X.length ≤ (bvs (partly b m n)).length by rw [bvs_length, partly_length hmn, LX]; have : Nat.min m (n - m) ≤ n - m := Nat.min_le_right _ _; omega)
      have O2 := Lib.hid (show ∀ v ∈ X, v.oneCell' = true by rw [hX]; exact bvs_one _)
      have P2 := Lib.hid (show splice (bvs (partly b m n)) m X = bvs (partly b (m + X.length) n) by
        rw [LX, hX]
        exact partly_splice (by have : Nat.min m (n - m) ≤ n - m := Nat.min_le_right _ _; omega))
      have Q2 := Lib.hid (show 1 ≤ X.length ∧ m + X.length ≤ n by
        rw [LX]
        rcases Nat.le_total m (n - m) with h | h
        · rw [show Nat.min m (n - m) = m from Nat.min_eq_left h]; omega
        · rw [show Nat.min m (n - m) = n - m from Nat.min_eq_right h]; omega)
      clear hX LX
      go_wp2_with fail
      go_region_law (refine step_copy_splice rfl (.tmp 41) (.tmp 44) 23 23 rfl 5 Tryd.underlying23 hsz (some ⟨w.heap.size, m, none⟩) (some ⟨w.heap.size, 0, none⟩) (n - m) (n - m) m n (by simp [Act.eval, Act.put]; omega) (by simp [Act.eval, Act.put]) w.heap.size m (bvs (partly b m n)) 5 K.out X LX1.out (fun _ => ⟨rfl, _, rfl, S1.out _ (fun _ => rfl)⟩) F2.out O2.out w.heap.size w B.out.drew (Nat.le_refl _) ?_; intro w4 hg4 hb4)
      have q1 := Q2.out.1
      have q2 := Q2.out.2
      have K4 := Lib.hid (show Blk w4 w.heap.size 5 (bvs (partly b (m + X.length) n)).toArray from by
        have := hg4.out
        rw [P2.out] at this
        exact this)
      have B4 := Lib.hid hb4
      clear hg4 hb4 P2 Q2 O2 F2 S1 LX1 HX K B
      have hw : IntKind.i64.wrap (m + X.length) = ((m + X.length : Nat) : Int) := by rw [IntKind.wrap_i64]; omega
      rw [hw]
      clear hw hn63
      have q3 : m < m + X.length := by omega
      clear q1
      generalize m + X.length = m2 at *
      go_wp2_with fail
      go_roundw
      case rel => exact ⟨m2, by omega, q2, rfl, K4⟩
      case measure => simp [intOf]; omega
    · obtain rfl : m = n := by omega
      go_wp2_with fail
      go_ret
      refine ⟨_, rfl, ?_, B.out⟩
      have e : partly b m m = List.replicate m b := by simp [partly]
      have h := K.out
      rw [e] at h
      have := Bs.of_blk h (by simp; omega)
      simpa using this
end Go.Proofs.YtcefcdmonfenoaaDoor

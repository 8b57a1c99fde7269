/- AppendVarint: onto a row of the call's own; one walk a length. -/
import Derived.Test.YtcefcdmonfenoaaDoorBase
namespace Go.Proofs.YtcefcdmonfenoaaDoor
open Go.RowKit
set_option maxRecDepth 100000

theorem orb (y : Int) (n : Nat) (hy : y = n) (hn : n < 18446744073709551616) : Value.int .u8 (bits .or .u64 (bits .and .u64 y 127) 128 % 256) = bv (UInt8.ofNat (n % 128 + 128)) := by
  subst hy
  have h1 := u64_and_nat n 127 hn (by omega)
  have h2 : n &&& 127 = n % 128 := Nat.and_two_pow_sub_one_eq_mod n 7
  rw [h2] at h1
  have h3 := u64_or_nat (n % 128) 128 (by omega) (by omega)
  have h4 : n % 128 ||| 128 = n % 128 + 128 := by
    have := (Nat.two_pow_add_eq_or_of_lt (i := 7) (b := n % 128) (by omega) 1)
    rw [Nat.or_comm, Nat.add_comm]
    simpa using this.symm
  rw [h4] at h3
  have h1' : bits .and .u64 (n : Int) 127 = ((n % 128 : Nat) : Int) := h1
  have h3' : bits .or .u64 ((n % 128 : Nat) : Int) 128 = ((n % 128 + 128 : Nat) : Int) := h3
  rw [h1', h3']
  show Value.int .u8 _ = Value.int .u8 _
  first | (congr 1; done) | (congr 1; rw [Wire.ofNat_toNat (by omega)]; omega)
theorem lastb (y : Int) (n : Nat) (hy : y = n) (hn : n < 256) : Value.int .u8 y = bv (UInt8.ofNat n) := by
  subst hy
  show Value.int .u8 _ = Value.int .u8 _
  rw [Wire.ofNat_toNat hn]

theorem enc1n (x : Nat) (h0 : 0 ≤ x) (h1 : x < 128) : [.int .u8 (x : Int)] = bvs (Wire.venc x) := by
  have hv : Wire.venc x = [UInt8.ofNat x] := by
    rw [Wire.venc_lt (by omega)]
  rw [hv]
  simp only [bvs, List.map_cons, List.map_nil]
  exact congr (congrArg _ (lastb _ x (by omega) (by omega))) rfl

theorem enc2n (x : Nat) (h0 : 128 ≤ x) (h1 : x < 16384) : [.int .u8 (bits .or .u64 (bits .and .u64 (x : Int) 127) 128 % 256), .int .u8 ((x : Int) / 128)] = bvs (Wire.venc x) := by
  have hv : Wire.venc x = [UInt8.ofNat (x % 128 + 128), UInt8.ofNat (x / 128)] := by
    rw [Wire.venc_ge (by omega)]
    rw [Wire.venc_lt (by omega)]
  rw [hv]
  simp only [bvs, List.map_cons, List.map_nil]
  exact congr (congrArg _ (orb _ x (by omega) (by omega))) ((congr (congrArg _ (lastb _ (x / 128) (by omega) (by omega))) rfl))

theorem enc3n (x : Nat) (h0 : 16384 ≤ x) (h1 : x < 2097152) : [.int .u8 (bits .or .u64 (bits .and .u64 (x : Int) 127) 128 % 256), .int .u8 (bits .or .u64 (bits .and .u64 ((x : Int) / 128) 127) 128 % 256), .int .u8 ((x : Int) / 16384)] = bvs (Wire.venc x) := by
  have hv : Wire.venc x = [UInt8.ofNat (x % 128 + 128), UInt8.ofNat (x / 128 % 128 + 128), UInt8.ofNat (x / 16384)] := by
    rw [Wire.venc_ge (by omega)]
    rw [Wire.venc_ge (by omega)]
    rw [Wire.venc_lt (by omega)]
    simp only [Nat.div_div_eq_div_mul, Nat.reduceMul]
  rw [hv]
  simp only [bvs, List.map_cons, List.map_nil]
  exact congr (congrArg _ (orb _ x (by omega) (by omega))) ((congr (congrArg _ (orb _ (x / 128) (by omega) (by omega)))  (congr (congrArg _ (lastb _ (x / 16384) (by omega) (by omega))) rfl)))

theorem enc4n (x : Nat) (h0 : 2097152 ≤ x) (h1 : x < 268435456) : [.int .u8 (bits .or .u64 (bits .and .u64 (x : Int) 127) 128 % 256), .int .u8 (bits .or .u64 (bits .and .u64 ((x : Int) / 128) 127) 128 % 256), .int .u8 (bits .or .u64 (bits .and .u64 ((x : Int) / 16384) 127) 128 % 256), .int .u8 ((x : Int) / 2097152)] = bvs (Wire.venc x) := by
  have hv : Wire.venc x = [UInt8.ofNat (x % 128 + 128), UInt8.ofNat (x / 128 % 128 + 128), UInt8.ofNat (x / 16384 % 128 + 128), UInt8.ofNat (x / 2097152)] := by
    rw [Wire.venc_ge (by omega)]
    rw [Wire.venc_ge (by omega)]
    rw [Wire.venc_ge (by omega)]
    rw [Wire.venc_lt (by omega)]
    simp only [Nat.div_div_eq_div_mul, Nat.reduceMul]
  rw [hv]
  simp only [bvs, List.map_cons, List.map_nil]
  exact congr (congrArg _ (orb _ x (by omega) (by omega))) ((congr (congrArg _ (orb _ (x / 128) (by omega) (by omega)))  (congr (congrArg _ (orb _ (x / 16384) (by omega) (by omega)))  (congr (congrArg _ (lastb _ (x / 2097152) (by omega) (by omega))) rfl))))

theorem enc5n (x : Nat) (h0 : 268435456 ≤ x) (h1 : x < 34359738368) : [.int .u8 (bits .or .u64 (bits .and .u64 (x : Int) 127) 128 % 256), .int .u8 (bits .or .u64 (bits .and .u64 ((x : Int) / 128) 127) 128 % 256), .int .u8 (bits .or .u64 (bits .and .u64 ((x : Int) / 16384) 127) 128 % 256), .int .u8 (bits .or .u64 (bits .and .u64 ((x : Int) / 2097152) 127) 128 % 256), .int .u8 ((x : Int) / 268435456)] = bvs (Wire.venc x) := by
  have hv : Wire.venc x = [UInt8.ofNat (x % 128 + 128), UInt8.ofNat (x / 128 % 128 + 128), UInt8.ofNat (x / 16384 % 128 + 128), UInt8.ofNat (x / 2097152 % 128 + 128), UInt8.ofNat (x / 268435456)] := by
    rw [Wire.venc_ge (by omega)]
    rw [Wire.venc_ge (by omega)]
    rw [Wire.venc_ge (by omega)]
    rw [Wire.venc_ge (by omega)]
    rw [Wire.venc_lt (by omega)]
    simp only [Nat.div_div_eq_div_mul, Nat.reduceMul]
  rw [hv]
  simp only [bvs, List.map_cons, List.map_nil]
  exact congr (congrArg _ (orb _ x (by omega) (by omega))) ((congr (congrArg _ (orb _ (x / 128) (by omega) (by omega)))  (congr (congrArg _ (orb _ (x / 16384) (by omega) (by omega)))  (congr (congrArg _ (orb _ (x / 2097152) (by omega) (by omega)))  (congr (congrArg _ (lastb _ (x / 268435456) (by omega) (by omega))) rfl)))))

theorem enc6n (x : Nat) (h0 : 34359738368 ≤ x) (h1 : x < 4398046511104) : [.int .u8 (bits .or .u64 (bits .and .u64 (x : Int) 127) 128 % 256), .int .u8 (bits .or .u64 (bits .and .u64 ((x : Int) / 128) 127) 128 % 256), .int .u8 (bits .or .u64 (bits .and .u64 ((x : Int) / 16384) 127) 128 % 256), .int .u8 (bits .or .u64 (bits .and .u64 ((x : Int) / 2097152) 127) 128 % 256), .int .u8 (bits .or .u64 (bits .and .u64 ((x : Int) / 268435456) 127) 128 % 256), .int .u8 ((x : Int) / 34359738368)] = bvs (Wire.venc x) := by
  have hv : Wire.venc x = [UInt8.ofNat (x % 128 + 128), UInt8.ofNat (x / 128 % 128 + 128), UInt8.ofNat (x / 16384 % 128 + 128), UInt8.ofNat (x / 2097152 % 128 + 128), UInt8.ofNat (x / 268435456 % 128 + 128), UInt8.ofNat (x / 34359738368)] := by
    rw [Wire.venc_ge (by omega)]
    rw [Wire.venc_ge (by omega)]
    rw [Wire.venc_ge (by omega)]
    rw [Wire.venc_ge (by omega)]
    rw [Wire.venc_ge (by omega)]
    rw [Wire.venc_lt (by omega)]
    simp only [Nat.div_div_eq_div_mul, Nat.reduceMul]
  rw [hv]
  simp only [bvs, List.map_cons, List.map_nil]
  exact congr (congrArg _ (orb _ x (by omega) (by omega))) ((congr (congrArg _ (orb _ (x / 128) (by omega) (by omega)))  (congr (congrArg _ (orb _ (x / 16384) (by omega) (by omega)))  (congr (congrArg _ (orb _ (x / 2097152) (by omega) (by omega)))  (congr (congrArg _ (orb _ (x / 268435456) (by omega) (by omega)))  (congr (congrArg _ (lastb _ (x / 34359738368) (by omega) (by omega))) rfl))))))

theorem enc7n (x : Nat) (h0 : 4398046511104 ≤ x) (h1 : x < 562949953421312) : [.int .u8 (bits .or .u64 (bits .and .u64 (x : Int) 127) 128 % 256), .int .u8 (bits .or .u64 (bits .and .u64 ((x : Int) / 128) 127) 128 % 256), .int .u8 (bits .or .u64 (bits .and .u64 ((x : Int) / 16384) 127) 128 % 256), .int .u8 (bits .or .u64 (bits .and .u64 ((x : Int) / 2097152) 127) 128 % 256), .int .u8 (bits .or .u64 (bits .and .u64 ((x : Int) / 268435456) 127) 128 % 256), .int .u8 (bits .or .u64 (bits .and .u64 ((x : Int) / 34359738368) 127) 128 % 256), .int .u8 ((x : Int) / 4398046511104)] = bvs (Wire.venc x) := by
  have hv : Wire.venc x = [UInt8.ofNat (x % 128 + 128), UInt8.ofNat (x / 128 % 128 + 128), UInt8.ofNat (x / 16384 % 128 + 128), UInt8.ofNat (x / 2097152 % 128 + 128), UInt8.ofNat (x / 268435456 % 128 + 128), UInt8.ofNat (x / 34359738368 % 128 + 128), UInt8.ofNat (x / 4398046511104)] := by
    rw [Wire.venc_ge (by omega)]
    rw [Wire.venc_ge (by omega)]
    rw [Wire.venc_ge (by omega)]
    rw [Wire.venc_ge (by omega)]
    rw [Wire.venc_ge (by omega)]
    rw [Wire.venc_ge (by omega)]
    rw [Wire.venc_lt (by omega)]
    simp only [Nat.div_div_eq_div_mul, Nat.reduceMul]
  rw [hv]
  simp only [bvs, List.map_cons, List.map_nil]
  exact congr (congrArg _ (orb _ x (by omega) (by omega))) ((congr (congrArg _ (orb _ (x / 128) (by omega) (by omega)))  (congr (congrArg _ (orb _ (x / 16384) (by omega) (by omega)))  (congr (congrArg _ (orb _ (x / 2097152) (by omega) (by omega)))  (congr (congrArg _ (orb _ (x / 268435456) (by omega) (by omega)))  (congr (congrArg _ (orb _ (x / 34359738368) (by omega) (by omega)))  (congr (congrArg _ (lastb _ (x / 4398046511104) (by omega) (by omega))) rfl)))))))

theorem enc8n (x : Nat) (h0 : 562949953421312 ≤ x) (h1 : x < 72057594037927936) : [.int .u8 (bits .or .u64 (bits .and .u64 (x : Int) 127) 128 % 256), .int .u8 (bits .or .u64 (bits .and .u64 ((x : Int) / 128) 127) 128 % 256), .int .u8 (bits .or .u64 (bits .and .u64 ((x : Int) / 16384) 127) 128 % 256), .int .u8 (bits .or .u64 (bits .and .u64 ((x : Int) / 2097152) 127) 128 % 256), .int .u8 (bits .or .u64 (bits .and .u64 ((x : Int) / 268435456) 127) 128 % 256), .int .u8 (bits .or .u64 (bits .and .u64 ((x : Int) / 34359738368) 127) 128 % 256), .int .u8 (bits .or .u64 (bits .and .u64 ((x : Int) / 4398046511104) 127) 128 % 256), .int .u8 ((x : Int) / 562949953421312)] = bvs (Wire.venc x) := by
  have hv : Wire.venc x = [UInt8.ofNat (x % 128 + 128), UInt8.ofNat (x / 128 % 128 + 128), UInt8.ofNat (x / 16384 % 128 + 128), UInt8.ofNat (x / 2097152 % 128 + 128), UInt8.ofNat (x / 268435456 % 128 + 128), UInt8.ofNat (x / 34359738368 % 128 + 128), UInt8.ofNat (x / 4398046511104 % 128 + 128), UInt8.ofNat (x / 562949953421312)] := by
    rw [Wire.venc_ge (by omega)]
    rw [Wire.venc_ge (by omega)]
    rw [Wire.venc_ge (by omega)]
    rw [Wire.venc_ge (by omega)]
    rw [Wire.venc_ge (by omega)]
    rw [Wire.venc_ge (by omega)]
    rw [Wire.venc_ge (by omega)]
    rw [Wire.venc_lt (by omega)]
    simp only [Nat.div_div_eq_div_mul, Nat.reduceMul]
  rw [hv]
  simp only [bvs, List.map_cons, List.map_nil]
  exact congr (congrArg _ (orb _ x (by omega) (by omega))) ((congr (congrArg _ (orb _ (x / 128) (by omega) (by omega)))  (congr (congrArg _ (orb _ (x / 16384) (by omega) (by omega)))  (congr (congrArg _ (orb _ (x / 2097152) (by omega) (by omega)))  (congr (congrArg _ (orb _ (x / 268435456) (by omega) (by omega)))  (congr (congrArg _ (orb _ (x / 34359738368) (by omega) (by omega)))  (congr (congrArg _ (orb _ (x / 4398046511104) (by omega) (by omega)))  (congr (congrArg _ (lastb _ (x / 562949953421312) (by omega) (by omega))) rfl))))))))

theorem enc9n (x : Nat) (h0 : 72057594037927936 ≤ x) (h1 : x < 9223372036854775808) : [.int .u8 (bits .or .u64 (bits .and .u64 (x : Int) 127) 128 % 256), .int .u8 (bits .or .u64 (bits .and .u64 ((x : Int) / 128) 127) 128 % 256), .int .u8 (bits .or .u64 (bits .and .u64 ((x : Int) / 16384) 127) 128 % 256), .int .u8 (bits .or .u64 (bits .and .u64 ((x : Int) / 2097152) 127) 128 % 256), .int .u8 (bits .or .u64 (bits .and .u64 ((x : Int) / 268435456) 127) 128 % 256), .int .u8 (bits .or .u64 (bits .and .u64 ((x : Int) / 34359738368) 127) 128 % 256), .int .u8 (bits .or .u64 (bits .and .u64 ((x : Int) / 4398046511104) 127) 128 % 256), .int .u8 (bits .or .u64 (bits .and .u64 ((x : Int) / 562949953421312) 127) 128 % 256), .int .u8 ((x : Int) / 72057594037927936)] = bvs (Wire.venc x) := by
  have hv : Wire.venc x = [UInt8.ofNat (x % 128 + 128), UInt8.ofNat (x / 128 % 128 + 128), UInt8.ofNat (x / 16384 % 128 + 128), UInt8.ofNat (x / 2097152 % 128 + 128), UInt8.ofNat (x / 268435456 % 128 + 128), UInt8.ofNat (x / 34359738368 % 128 + 128), UInt8.ofNat (x / 4398046511104 % 128 + 128), UInt8.ofNat (x / 562949953421312 % 128 + 128), UInt8.ofNat (x / 72057594037927936)] := by
    rw [Wire.venc_ge (by omega)]
    rw [Wire.venc_ge (by omega)]
    rw [Wire.venc_ge (by omega)]
    rw [Wire.venc_ge (by omega)]
    rw [Wire.venc_ge (by omega)]
    rw [Wire.venc_ge (by omega)]
    rw [Wire.venc_ge (by omega)]
    rw [Wire.venc_ge (by omega)]
    rw [Wire.venc_lt (by omega)]
    simp only [Nat.div_div_eq_div_mul, Nat.reduceMul]
  rw [hv]
  simp only [bvs, List.map_cons, List.map_nil]
  exact congr (congrArg _ (orb _ x (by omega) (by omega))) ((congr (congrArg _ (orb _ (x / 128) (by omega) (by omega)))  (congr (congrArg _ (orb _ (x / 16384) (by omega) (by omega)))  (congr (congrArg _ (orb _ (x / 2097152) (by omega) (by omega)))  (congr (congrArg _ (orb _ (x / 268435456) (by omega) (by omega)))  (congr (congrArg _ (orb _ (x / 34359738368) (by omega) (by omega)))  (congr (congrArg _ (orb _ (x / 4398046511104) (by omega) (by omega)))  (congr (congrArg _ (orb _ (x / 562949953421312) (by omega) (by omega)))  (congr (congrArg _ (lastb _ (x / 72057594037927936) (by omega) (by omega))) rfl)))))))))

theorem enc10n (x : Nat) (h0 : 9223372036854775808 ≤ x) (h1 : x < 18446744073709551616) : [.int .u8 (bits .or .u64 (bits .and .u64 (x : Int) 127) 128 % 256), .int .u8 (bits .or .u64 (bits .and .u64 ((x : Int) / 128) 127) 128 % 256), .int .u8 (bits .or .u64 (bits .and .u64 ((x : Int) / 16384) 127) 128 % 256), .int .u8 (bits .or .u64 (bits .and .u64 ((x : Int) / 2097152) 127) 128 % 256), .int .u8 (bits .or .u64 (bits .and .u64 ((x : Int) / 268435456) 127) 128 % 256), .int .u8 (bits .or .u64 (bits .and .u64 ((x : Int) / 34359738368) 127) 128 % 256), .int .u8 (bits .or .u64 (bits .and .u64 ((x : Int) / 4398046511104) 127) 128 % 256), .int .u8 (bits .or .u64 (bits .and .u64 ((x : Int) / 562949953421312) 127) 128 % 256), .int .u8 (bits .or .u64 (bits .and .u64 ((x : Int) / 72057594037927936) 127) 128 % 256), .int .u8 1] = bvs (Wire.venc x) := by
  have hv : Wire.venc x = [UInt8.ofNat (x % 128 + 128), UInt8.ofNat (x / 128 % 128 + 128), UInt8.ofNat (x / 16384 % 128 + 128), UInt8.ofNat (x / 2097152 % 128 + 128), UInt8.ofNat (x / 268435456 % 128 + 128), UInt8.ofNat (x / 34359738368 % 128 + 128), UInt8.ofNat (x / 4398046511104 % 128 + 128), UInt8.ofNat (x / 562949953421312 % 128 + 128), UInt8.ofNat (x / 72057594037927936 % 128 + 128), UInt8.ofNat 1] := by
    rw [Wire.venc_ge (by omega)]
    rw [Wire.venc_ge (by omega)]
    rw [Wire.venc_ge (by omega)]
    rw [Wire.venc_ge (by omega)]
    rw [Wire.venc_ge (by omega)]
    rw [Wire.venc_ge (by omega)]
    rw [Wire.venc_ge (by omega)]
    rw [Wire.venc_ge (by omega)]
    rw [Wire.venc_ge (by omega)]
    rw [Wire.venc_lt (by omega)]
    simp only [Nat.div_div_eq_div_mul, Nat.reduceMul]
    rw [show x / 9223372036854775808 = 1 by omega]
  rw [hv]
  simp only [bvs, List.map_cons, List.map_nil]
  exact congr (congrArg _ (orb _ x (by omega) (by omega))) ((congr (congrArg _ (orb _ (x / 128) (by omega) (by omega)))  (congr (congrArg _ (orb _ (x / 16384) (by omega) (by omega)))  (congr (congrArg _ (orb _ (x / 2097152) (by omega) (by omega)))  (congr (congrArg _ (orb _ (x / 268435456) (by omega) (by omega)))  (congr (congrArg _ (orb _ (x / 34359738368) (by omega) (by omega)))  (congr (congrArg _ (orb _ (x / 4398046511104) (by omega) (by omega)))  (congr (congrArg _ (orb _ (x / 562949953421312) (by omega) (by omega)))  (congr (congrArg _ (orb _ (x / 72057594037927936) (by omega) (by omega)))  (congr (congrArg _ (lastb _ 1 (by omega) (by omega))) rfl))))))))))

theorem enc1 (x : Int) (h0 : 0 ≤ x) (h1 : x < 128) : [.int .u8 x] = bvs (Wire.venc x.toNat) := by
  obtain ⟨n, rfl⟩ := Int.eq_ofNat_of_zero_le (show 0 ≤ x by omega)
  rw [Int.toNat_natCast]
  exact enc1n n (by omega) (by omega)

theorem enc2 (x : Int) (h0 : 128 ≤ x) (h1 : x < 16384) : [.int .u8 (bits .or .u64 (bits .and .u64 x 127) 128 % 256), .int .u8 (x / 128)] = bvs (Wire.venc x.toNat) := by
  obtain ⟨n, rfl⟩ := Int.eq_ofNat_of_zero_le (show 0 ≤ x by omega)
  rw [Int.toNat_natCast]
  exact enc2n n (by omega) (by omega)

theorem enc3 (x : Int) (h0 : 16384 ≤ x) (h1 : x < 2097152) : [.int .u8 (bits .or .u64 (bits .and .u64 x 127) 128 % 256), .int .u8 (bits .or .u64 (bits .and .u64 (x / 128) 127) 128 % 256), .int .u8 (x / 16384)] = bvs (Wire.venc x.toNat) := by
  obtain ⟨n, rfl⟩ := Int.eq_ofNat_of_zero_le (show 0 ≤ x by omega)
  rw [Int.toNat_natCast]
  exact enc3n n (by omega) (by omega)

theorem enc4 (x : Int) (h0 : 2097152 ≤ x) (h1 : x < 268435456) : [.int .u8 (bits .or .u64 (bits .and .u64 x 127) 128 % 256), .int .u8 (bits .or .u64 (bits .and .u64 (x / 128) 127) 128 % 256), .int .u8 (bits .or .u64 (bits .and .u64 (x / 16384) 127) 128 % 256), .int .u8 (x / 2097152)] = bvs (Wire.venc x.toNat) := by
  obtain ⟨n, rfl⟩ := Int.eq_ofNat_of_zero_le (show 0 ≤ x by omega)
  rw [Int.toNat_natCast]
  exact enc4n n (by omega) (by omega)

theorem enc5 (x : Int) (h0 : 268435456 ≤ x) (h1 : x < 34359738368) : [.int .u8 (bits .or .u64 (bits .and .u64 x 127) 128 % 256), .int .u8 (bits .or .u64 (bits .and .u64 (x / 128) 127) 128 % 256), .int .u8 (bits .or .u64 (bits .and .u64 (x / 16384) 127) 128 % 256), .int .u8 (bits .or .u64 (bits .and .u64 (x / 2097152) 127) 128 % 256), .int .u8 (x / 268435456)] = bvs (Wire.venc x.toNat) := by
  obtain ⟨n, rfl⟩ := Int.eq_ofNat_of_zero_le (show 0 ≤ x by omega)
  rw [Int.toNat_natCast]
  exact enc5n n (by omega) (by omega)

theorem enc6 (x : Int) (h0 : 34359738368 ≤ x) (h1 : x < 4398046511104) : [.int .u8 (bits .or .u64 (bits .and .u64 x 127) 128 % 256), .int .u8 (bits .or .u64 (bits .and .u64 (x / 128) 127) 128 % 256), .int .u8 (bits .or .u64 (bits .and .u64 (x / 16384) 127) 128 % 256), .int .u8 (bits .or .u64 (bits .and .u64 (x / 2097152) 127) 128 % 256), .int .u8 (bits .or .u64 (bits .and .u64 (x / 268435456) 127) 128 % 256), .int .u8 (x / 34359738368)] = bvs (Wire.venc x.toNat) := by
  obtain ⟨n, rfl⟩ := Int.eq_ofNat_of_zero_le (show 0 ≤ x by omega)
  rw [Int.toNat_natCast]
  exact enc6n n (by omega) (by omega)

theorem enc7 (x : Int) (h0 : 4398046511104 ≤ x) (h1 : x < 562949953421312) : [.int .u8 (bits .or .u64 (bits .and .u64 x 127) 128 % 256), .int .u8 (bits .or .u64 (bits .and .u64 (x / 128) 127) 128 % 256), .int .u8 (bits .or .u64 (bits .and .u64 (x / 16384) 127) 128 % 256), .int .u8 (bits .or .u64 (bits .and .u64 (x / 2097152) 127) 128 % 256), .int .u8 (bits .or .u64 (bits .and .u64 (x / 268435456) 127) 128 % 256), .int .u8 (bits .or .u64 (bits .and .u64 (x / 34359738368) 127) 128 % 256), .int .u8 (x / 4398046511104)] = bvs (Wire.venc x.toNat) := by
  obtain ⟨n, rfl⟩ := Int.eq_ofNat_of_zero_le (show 0 ≤ x by omega)
  rw [Int.toNat_natCast]
  exact enc7n n (by omega) (by omega)

theorem enc8 (x : Int) (h0 : 562949953421312 ≤ x) (h1 : x < 72057594037927936) : [.int .u8 (bits .or .u64 (bits .and .u64 x 127) 128 % 256), .int .u8 (bits .or .u64 (bits .and .u64 (x / 128) 127) 128 % 256), .int .u8 (bits .or .u64 (bits .and .u64 (x / 16384) 127) 128 % 256), .int .u8 (bits .or .u64 (bits .and .u64 (x / 2097152) 127) 128 % 256), .int .u8 (bits .or .u64 (bits .and .u64 (x / 268435456) 127) 128 % 256), .int .u8 (bits .or .u64 (bits .and .u64 (x / 34359738368) 127) 128 % 256), .int .u8 (bits .or .u64 (bits .and .u64 (x / 4398046511104) 127) 128 % 256), .int .u8 (x / 562949953421312)] = bvs (Wire.venc x.toNat) := by
  obtain ⟨n, rfl⟩ := Int.eq_ofNat_of_zero_le (show 0 ≤ x by omega)
  rw [Int.toNat_natCast]
  exact enc8n n (by omega) (by omega)

theorem enc9 (x : Int) (h0 : 72057594037927936 ≤ x) (h1 : x < 9223372036854775808) : [.int .u8 (bits .or .u64 (bits .and .u64 x 127) 128 % 256), .int .u8 (bits .or .u64 (bits .and .u64 (x / 128) 127) 128 % 256), .int .u8 (bits .or .u64 (bits .and .u64 (x / 16384) 127) 128 % 256), .int .u8 (bits .or .u64 (bits .and .u64 (x / 2097152) 127) 128 % 256), .int .u8 (bits .or .u64 (bits .and .u64 (x / 268435456) 127) 128 % 256), .int .u8 (bits .or .u64 (bits .and .u64 (x / 34359738368) 127) 128 % 256), .int .u8 (bits .or .u64 (bits .and .u64 (x / 4398046511104) 127) 128 % 256), .int .u8 (bits .or .u64 (bits .and .u64 (x / 562949953421312) 127) 128 % 256), .int .u8 (x / 72057594037927936)] = bvs (Wire.venc x.toNat) := by
  obtain ⟨n, rfl⟩ := Int.eq_ofNat_of_zero_le (show 0 ≤ x by omega)
  rw [Int.toNat_natCast]
  exact enc9n n (by omega) (by omega)

theorem enc10 (x : Int) (h0 : 9223372036854775808 ≤ x) (h1 : x < 18446744073709551616) : [.int .u8 (bits .or .u64 (bits .and .u64 x 127) 128 % 256), .int .u8 (bits .or .u64 (bits .and .u64 (x / 128) 127) 128 % 256), .int .u8 (bits .or .u64 (bits .and .u64 (x / 16384) 127) 128 % 256), .int .u8 (bits .or .u64 (bits .and .u64 (x / 2097152) 127) 128 % 256), .int .u8 (bits .or .u64 (bits .and .u64 (x / 268435456) 127) 128 % 256), .int .u8 (bits .or .u64 (bits .and .u64 (x / 34359738368) 127) 128 % 256), .int .u8 (bits .or .u64 (bits .and .u64 (x / 4398046511104) 127) 128 % 256), .int .u8 (bits .or .u64 (bits .and .u64 (x / 562949953421312) 127) 128 % 256), .int .u8 (bits .or .u64 (bits .and .u64 (x / 72057594037927936) 127) 128 % 256), .int .u8 1] = bvs (Wire.venc x.toNat) := by
  obtain ⟨n, rfl⟩ := Int.eq_ofNat_of_zero_le (show 0 ≤ x by omega)
  rw [Int.toNat_natCast]
  exact enc10n n (by omega) (by omega)

/-- what it leaves: the row with the number behind it -/
def appAns (w : World) (base : Nat) (v : Value) (l : List UInt8) (e : Ending) (w' : World) : Prop :=
  ∃ v', e = .returned v' ∧ Own w' base v' l ∧ w.grownBy w' v.ownBlock ∧ NN v' ∧ Moved w v v'
theorem moved_alloc {w : World} {o : Obj} {v v' : Value} (h : Moved (w.alloc o) v v') : Moved w v v' := by
  rcases h with h | ⟨g, h, hg⟩
  · exact .inl h
  · exact .inr ⟨g, h, by have := World.size_alloc w o; omega⟩
theorem own_nn {w : World} {base : Nat} {v : Value} {l : List UInt8} (h : Own w base v l) (hl : 0 < l.length) : NN v := NN.of_len h.bs hl

set_option maxHeartbeats 800000 in
theorem av1 {w : World} {base : Nat} {v : Value} {l : List UInt8} (hown : Own w base v l) (hb : base ≤ w.heap.size) (x : Int) (h0 : 0 ≤ x) (h1 : x < 128) (hlen : l.length + 1 ≤ 140737488355328) (hvl : (Wire.venc x.toNat).length = 1) :
    Calls Tryd.prog 92 #[v, .int .u64 x] w fun e w' => appAns w base v (l ++ Wire.venc x.toNat) e w' := by
  have Hvl := Lib.hid hvl
  clear hvl
  go_enter Tryd.func92, Tryd.ntmps92
  go_wp2_with (at_builtin; refine wpList_app rfl _ _ rfl (by rfl) (by rfl) (hown.alloc _) (Bs.new _ _ (Wire.venc x.toNat) (enc1 x h0 h1) (by rw [Hvl.out]; omega) 1 1 Hvl.out.symm Hvl.out.symm) (by rw [Hvl.out]; exact hlen) (by simp; omega) ?_; intro v' w1 ho hg hnn hmv)
  go_ret
  exact ⟨v', rfl, ho, (World.grownBy_alloc w _ _).trans hg, own_nn ho (by rw [List.length_append, Hvl.out]; omega), moved_alloc hmv⟩

set_option maxHeartbeats 800000 in
theorem av2 {w : World} {base : Nat} {v : Value} {l : List UInt8} (hown : Own w base v l) (hb : base ≤ w.heap.size) (x : Int) (h0 : 128 ≤ x) (h1 : x < 16384) (hlen : l.length + 2 ≤ 140737488355328) (hvl : (Wire.venc x.toNat).length = 2) :
    Calls Tryd.prog 92 #[v, .int .u64 x] w fun e w' => appAns w base v (l ++ Wire.venc x.toNat) e w' := by
  have Hvl := Lib.hid hvl
  clear hvl
  go_enter Tryd.func92, Tryd.ntmps92
  go_wp2_with (at_builtin; refine wpList_app rfl _ _ rfl (by rfl) (by rfl) (hown.alloc _) (Bs.new _ _ (Wire.venc x.toNat) (enc2 x h0 h1) (by rw [Hvl.out]; omega) 2 2 Hvl.out.symm Hvl.out.symm) (by rw [Hvl.out]; exact hlen) (by simp; omega) ?_; intro v' w1 ho hg hnn hmv)
  go_ret
  exact ⟨v', rfl, ho, (World.grownBy_alloc w _ _).trans hg, own_nn ho (by rw [List.length_append, Hvl.out]; omega), moved_alloc hmv⟩

set_option maxHeartbeats 800000 in
theorem av3 {w : World} {base : Nat} {v : Value} {l : List UInt8} (hown : Own w base v l) (hb : base ≤ w.heap.size) (x : Int) (h0 : 16384 ≤ x) (h1 : x < 2097152) (hlen : l.length + 3 ≤ 140737488355328) (hvl : (Wire.venc x.toNat).length = 3) :
    Calls Tryd.prog 92 #[v, .int .u64 x] w fun e w' => appAns w base v (l ++ Wire.venc x.toNat) e w' := by
  have Hvl := Lib.hid hvl
  clear hvl
  go_enter Tryd.func92, Tryd.ntmps92
  go_wp2_with (at_builtin; refine wpList_app rfl _ _ rfl (by rfl) (by rfl) (hown.alloc _) (Bs.new _ _ (Wire.venc x.toNat) (enc3 x h0 h1) (by rw [Hvl.out]; omega) 3 3 Hvl.out.symm Hvl.out.symm) (by rw [Hvl.out]; exact hlen) (by simp; omega) ?_; intro v' w1 ho hg hnn hmv)
  go_ret
  exact ⟨v', rfl, ho, (World.grownBy_alloc w _ _).trans hg, own_nn ho (by rw [List.length_append, Hvl.out]; omega), moved_alloc hmv⟩

set_option maxHeartbeats 800000 in
theorem av4 {w : World} {base : Nat} {v : Value} {l : List UInt8} (hown : Own w base v l) (hb : base ≤ w.heap.size) (x : Int) (h0 : 2097152 ≤ x) (h1 : x < 268435456) (hlen : l.length + 4 ≤ 140737488355328) (hvl : (Wire.venc x.toNat).length = 4) :
    Calls Tryd.prog 92 #[v, .int .u64 x] w fun e w' => appAns w base v (l ++ Wire.venc x.toNat) e w' := by
  have Hvl := Lib.hid hvl
  clear hvl
  go_enter Tryd.func92, Tryd.ntmps92
  go_wp2_with (at_builtin; refine wpList_app rfl _ _ rfl (by rfl) (by rfl) (hown.alloc _) (Bs.new _ _ (Wire.venc x.toNat) (enc4 x h0 h1) (by rw [Hvl.out]; omega) 4 4 Hvl.out.symm Hvl.out.symm) (by rw [Hvl.out]; exact hlen) (by simp; omega) ?_; intro v' w1 ho hg hnn hmv)
  go_ret
  exact ⟨v', rfl, ho, (World.grownBy_alloc w _ _).trans hg, own_nn ho (by rw [List.length_append, Hvl.out]; omega), moved_alloc hmv⟩

set_option maxHeartbeats 800000 in
theorem av5 {w : World} {base : Nat} {v : Value} {l : List UInt8} (hown : Own w base v l) (hb : base ≤ w.heap.size) (x : Int) (h0 : 268435456 ≤ x) (h1 : x < 34359738368) (hlen : l.length + 5 ≤ 140737488355328) (hvl : (Wire.venc x.toNat).length = 5) :
    Calls Tryd.prog 92 #[v, .int .u64 x] w fun e w' => appAns w base v (l ++ Wire.venc x.toNat) e w' := by
  have Hvl := Lib.hid hvl
  clear hvl
  go_enter Tryd.func92, Tryd.ntmps92
  go_wp2_with (at_builtin; refine wpList_app rfl _ _ rfl (by rfl) (by rfl) (hown.alloc _) (Bs.new _ _ (Wire.venc x.toNat) (enc5 x h0 h1) (by rw [Hvl.out]; omega) 5 5 Hvl.out.symm Hvl.out.symm) (by rw [Hvl.out]; exact hlen) (by simp; omega) ?_; intro v' w1 ho hg hnn hmv)
  go_ret
  exact ⟨v', rfl, ho, (World.grownBy_alloc w _ _).trans hg, own_nn ho (by rw [List.length_append, Hvl.out]; omega), moved_alloc hmv⟩

set_option maxHeartbeats 800000 in
theorem av6 {w : World} {base : Nat} {v : Value} {l : List UInt8} (hown : Own w base v l) (hb : base ≤ w.heap.size) (x : Int) (h0 : 34359738368 ≤ x) (h1 : x < 4398046511104) (hlen : l.length + 6 ≤ 140737488355328) (hvl : (Wire.venc x.toNat).length = 6) :
    Calls Tryd.prog 92 #[v, .int .u64 x] w fun e w' => appAns w base v (l ++ Wire.venc x.toNat) e w' := by
  have Hvl := Lib.hid hvl
  clear hvl
  go_enter Tryd.func92, Tryd.ntmps92
  go_wp2_with (at_builtin; refine wpList_app rfl _ _ rfl (by rfl) (by rfl) (hown.alloc _) (Bs.new _ _ (Wire.venc x.toNat) (enc6 x h0 h1) (by rw [Hvl.out]; omega) 6 6 Hvl.out.symm Hvl.out.symm) (by rw [Hvl.out]; exact hlen) (by simp; omega) ?_; intro v' w1 ho hg hnn hmv)
  go_ret
  exact ⟨v', rfl, ho, (World.grownBy_alloc w _ _).trans hg, own_nn ho (by rw [List.length_append, Hvl.out]; omega), moved_alloc hmv⟩

set_option maxHeartbeats 800000 in
theorem av7 {w : World} {base : Nat} {v : Value} {l : List UInt8} (hown : Own w base v l) (hb : base ≤ w.heap.size) (x : Int) (h0 : 4398046511104 ≤ x) (h1 : x < 562949953421312) (hlen : l.length + 7 ≤ 140737488355328) (hvl : (Wire.venc x.toNat).length = 7) :
    Calls Tryd.prog 92 #[v, .int .u64 x] w fun e w' => appAns w base v (l ++ Wire.venc x.toNat) e w' := by
  have Hvl := Lib.hid hvl
  clear hvl
  go_enter Tryd.func92, Tryd.ntmps92
  go_wp2_with (at_builtin; refine wpList_app rfl _ _ rfl (by rfl) (by rfl) (hown.alloc _) (Bs.new _ _ (Wire.venc x.toNat) (enc7 x h0 h1) (by rw [Hvl.out]; omega) 7 7 Hvl.out.symm Hvl.out.symm) (by rw [Hvl.out]; exact hlen) (by simp; omega) ?_; intro v' w1 ho hg hnn hmv)
  go_ret
  exact ⟨v', rfl, ho, (World.grownBy_alloc w _ _).trans hg, own_nn ho (by rw [List.length_append, Hvl.out]; omega), moved_alloc hmv⟩

set_option maxHeartbeats 800000 in
theorem av8 {w : World} {base : Nat} {v : Value} {l : List UInt8} (hown : Own w base v l) (hb : base ≤ w.heap.size) (x : Int) (h0 : 562949953421312 ≤ x) (h1 : x < 72057594037927936) (hlen : l.length + 8 ≤ 140737488355328) (hvl : (Wire.venc x.toNat).length = 8) :
    Calls Tryd.prog 92 #[v, .int .u64 x] w fun e w' => appAns w base v (l ++ Wire.venc x.toNat) e w' := by
  have Hvl := Lib.hid hvl
  clear hvl
  go_enter Tryd.func92, Tryd.ntmps92
  go_wp2_with (at_builtin; refine wpList_app rfl _ _ rfl (by rfl) (by rfl) (hown.alloc _) (Bs.new _ _ (Wire.venc x.toNat) (enc8 x h0 h1) (by rw [Hvl.out]; omega) 8 8 Hvl.out.symm Hvl.out.symm) (by rw [Hvl.out]; exact hlen) (by simp; omega) ?_; intro v' w1 ho hg hnn hmv)
  go_ret
  exact ⟨v', rfl, ho, (World.grownBy_alloc w _ _).trans hg, own_nn ho (by rw [List.length_append, Hvl.out]; omega), moved_alloc hmv⟩

set_option maxHeartbeats 800000 in
theorem av9 {w : World} {base : Nat} {v : Value} {l : List UInt8} (hown : Own w base v l) (hb : base ≤ w.heap.size) (x : Int) (h0 : 72057594037927936 ≤ x) (h1 : x < 9223372036854775808) (hlen : l.length + 9 ≤ 140737488355328) (hvl : (Wire.venc x.toNat).length = 9) :
    Calls Tryd.prog 92 #[v, .int .u64 x] w fun e w' => appAns w base v (l ++ Wire.venc x.toNat) e w' := by
  have Hvl := Lib.hid hvl
  clear hvl
  go_enter Tryd.func92, Tryd.ntmps92
  go_wp2_with (at_builtin; refine wpList_app rfl _ _ rfl (by rfl) (by rfl) (hown.alloc _) (Bs.new _ _ (Wire.venc x.toNat) (enc9 x h0 h1) (by rw [Hvl.out]; omega) 9 9 Hvl.out.symm Hvl.out.symm) (by rw [Hvl.out]; exact hlen) (by simp; omega) ?_; intro v' w1 ho hg hnn hmv)
  go_ret
  exact ⟨v', rfl, ho, (World.grownBy_alloc w _ _).trans hg, own_nn ho (by rw [List.length_append, Hvl.out]; omega), moved_alloc hmv⟩

set_option maxHeartbeats 800000 in
theorem av10 {w : World} {base : Nat} {v : Value} {l : List UInt8} (hown : Own w base v l) (hb : base ≤ w.heap.size) (x : Int) (h0 : 9223372036854775808 ≤ x) (h1 : x < 18446744073709551616) (hlen : l.length + 10 ≤ 140737488355328) (hvl : (Wire.venc x.toNat).length = 10) :
    Calls Tryd.prog 92 #[v, .int .u64 x] w fun e w' => appAns w base v (l ++ Wire.venc x.toNat) e w' := by
  have Hvl := Lib.hid hvl
  clear hvl
  go_enter Tryd.func92, Tryd.ntmps92
  go_wp2_with (at_builtin; refine wpList_app rfl _ _ rfl (by rfl) (by rfl) (hown.alloc _) (Bs.new _ _ (Wire.venc x.toNat) (enc10 x h0 h1) (by rw [Hvl.out]; omega) 10 10 Hvl.out.symm Hvl.out.symm) (by rw [Hvl.out]; exact hlen) (by simp; omega) ?_; intro v' w1 ho hg hnn hmv)
  go_ret
  exact ⟨v', rfl, ho, (World.grownBy_alloc w _ _).trans hg, own_nn ho (by rw [List.length_append, Hvl.out]; omega), moved_alloc hmv⟩

end Go.Proofs.YtcefcdmonfenoaaDoor

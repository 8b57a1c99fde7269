/- AppendVarint: onto a row of the call's own; one walk a length. -/
import Derived.Test.YtkmjjoffamdnfaaGreatDoorMi01
import Derived.Test.YtkmjjoffamdnfaaGreatDoorMi16
namespace Go.Proofs.YtkmjjoffamdnfaaGreatDoor
open Go.RowKit
set_option maxRecDepth 100000

theorem orb (y : Int) (n : Nat) (hy : y = n) (hn : n < 18446744073709551616) : Value.int .u8 (bits .or .u64 (bits .and .u64 y 127) 128 % 256) = bv (UInt8.ofNat (n % 128 + 128)) := by
  subst hy
  have h1 := u64_and_nat n 127 hn (by omega)
  have h2 : n &&& 127 = n % 128 := Nat.and_two_pow_sub_one_eq_mod n 7
  rw [h2] at h1
  have h3 := u64_or_nat (n % 128) 128 (by omega) (by omega)
  have h4 : n % 128 ||| 128 = n % 128 + 128 := by
    have := (Nat.two_pow_add_eq_or_of_lt (i := 7) (b := n % 128) (by omega) 1)
    rw [Nat.or_comm, Nat.add_comm]
    simpa using this.symm
  rw [h4] at h3
  have h1' : bits .and .u64 (n : Int) 127 = ((n % 128 : Nat) : Int) := h1
  have h3' : bits .or .u64 ((n % 128 : Nat) : Int) 128 = ((n % 128 + 128 : Nat) : Int) := h3
  rw [h1', h3']
  show Value.int .u8 _ = Value.int .u8 _
  first | (congr 1; done) | (congr 1; rw [Wire.ofNat_toNat (by omega)]; omega)
theorem lastb (y : Int) (n : Nat) (hy : y = n) (hn : n < 256) : Value.int .u8 y = bv (UInt8.ofNat n) := by
  subst hy
  show Value.int .u8 _ = Value.int .u8 _
  rw [Wire.ofNat_toNat hn]

theorem enc1n (x : Nat) (h0 : 0 ≤ x) (h1 : x < 128) : [.int .u8 (x : Int)] = bvs (Wire.venc x) := by
  have hv : Wire.venc x = [UInt8.ofNat x] := by
    rw [Wire.venc_lt (by omega)]
  rw [hv]
  simp only [bvs, List.map_cons, List.map_nil]
  exact congr (congrArg _ (lastb _ x (by omega) (by omega))) rfl

theorem enc2n (x : Nat) (h0 : 128 ≤ x) (h1 : x < 16384) : [.int .u8 (bits .or .u64 (bits .and .u64 (x : Int) 127) 128 % 256), .int .u8 ((x : Int) / 128)] = bvs (Wire.venc x) := by
  have hv : Wire.venc x = [UInt8.ofNat (x % 128 + 128), UInt8.ofNat (x / 128)] := by
    rw [Wire.venc_ge (by omega)]
    rw [Wire.venc_lt (by omega)]
  rw [hv]
  simp only [bvs, List.map_cons, List.map_nil]
  exact congr (congrArg _ (orb _ x (by omega) (by omega))) ((congr (congrArg _ (lastb _ (x / 128) (by omega) (by omega))) rfl))

theorem enc3n (x : Nat) (h0 : 16384 ≤ x) (h1 : x < 2097152) : [.int .u8 (bits .or .u64 (bits .and .u64 (x : Int) 127) 128 % 256), .int .u8 (bits .or .u64 (bits .and .u64 ((x : Int) / 128) 127) 128 % 256), .int .u8 ((x : Int) / 16384)] = bvs (Wire.venc x) := by
  have hv : Wire.venc x = [UInt8.ofNat (x % 128 + 128), UInt8.ofNat (x / 128 % 128 + 128), UInt8.ofNat (x / 16384)] := by
    rw [Wire.venc_ge (by omega)]
    rw [Wire.venc_ge (by omega)]
    rw [Wire.venc_lt (by omega)]
    simp only [Nat.div_div_eq_div_mul, Nat.reduceMul]
  rw [hv]
  simp only [bvs, List.map_cons, List.map_nil]
  exact congr (congrArg _ (orb _ x (by omega) (by omega))) ((congr (congrArg _ (orb _ (x / 128) (by omega) (by omega)))  (congr (congrArg _ (lastb _ (x / 16384) (by omega) (by omega))) rfl)))

theorem enc4n (x : Nat) (h0 : 2097152 ≤ x) (h1 : x < 268435456) : [.int .u8 (bits .or .u64 (bits .and .u64 (x : Int) 127) 128 % 256), .int .u8 (bits .or .u64 (bits .and .u64 ((x : Int) / 128) 127) 128 % 256), .int .u8 (bits .or .u64 (bits .and .u64 ((x : Int) / 16384) 127) 128 % 256), .int .u8 ((x : Int) / 2097152)] = bvs (Wire.venc x) := by
  have hv : Wire.venc x = [UInt8.ofNat (x % 128 + 128), UInt8.ofNat (x / 128 % 128 + 128), UInt8.ofNat (x / 16384 % 128 + 128), UInt8.ofNat (x / 2097152)] := by
    rw [Wire.venc_ge (by omega)]
    rw [Wire.venc_ge (by omega)]
    rw [Wire.venc_ge (by omega)]
    rw [Wire.venc_lt (by omega)]
    simp only [Nat.div_div_eq_div_mul, Nat.reduceMul]
  rw [hv]
  simp only [bvs, List.map_cons, List.map_nil]
  exact congr (congrArg _ (orb _ x (by omega) (by omega))) ((congr (congrArg _ (orb _ (x / 128) (by omega) (by omega)))  (congr (congrArg _ (orb _ (x / 16384) (by omega) (by omega)))  (congr (congrArg _ (lastb _ (x / 2097152) (by omega) (by omega))) rfl))))

theorem enc5n (x : Nat) (h0 : 268435456 ≤ x) (h1 : x < 34359738368) : [.int .u8 (bits .or .u64 (bits .and .u64 (x : Int) 127) 128 % 256), .int .u8 (bits .or .u64 (bits .and .u64 ((x : Int) / 128) 127) 128 % 256), .int .u8 (bits .or .u64 (bits .and .u64 ((x : Int) / 16384) 127) 128 % 256), .int .u8 (bits .or .u64 (bits .and .u64 ((x : Int) / 2097152) 127) 128 % 256), .int .u8 ((x : Int) / 268435456)] = bvs (Wire.venc x) := by
  have hv : Wire.venc x = [UInt8.ofNat (x % 128 + 128), UInt8.ofNat (x / 128 % 128 + 128), UInt8.ofNat (x / 16384 % 128 + 128), UInt8.ofNat (x / 2097152 % 128 + 128), UInt8.ofNat (x / 268435456)] := by
    rw [Wire.venc_ge (by omega)]
    rw [Wire.venc_ge (by omega)]
    rw [Wire.venc_ge (by omega)]
    rw [Wire.venc_ge (by omega)]
    rw [Wire.venc_lt (by omega)]
    simp only [Nat.div_div_eq_div_mul, Nat.reduceMul]
  rw [hv]
  simp only [bvs, List.map_cons, List.map_nil]
  exact congr (congrArg _ (orb _ x (by omega) (by omega))) ((congr (congrArg _ (orb _ (x / 128) (by omega) (by omega)))  (congr (congrArg _ (orb _ (x / 16384) (by omega) (by omega)))  (congr (congrArg _ (orb _ (x / 2097152) (by omega) (by omega)))  (congr (congrArg _ (lastb _ (x / 268435456) (by omega) (by omega))) rfl)))))

theorem enc6n (x : Nat) (h0 : 34359738368 ≤ x) (h1 : x < 4398046511104) : [.int .u8 (bits .or .u64 (bits .and .u64 (x : Int) 127) 128 % 256), .int .u8 (bits .or .u64 (bits .and .u64 ((x : Int) / 128) 127) 128 % 256), .int .u8 (bits .or .u64 (bits .and .u64 ((x : Int) / 16384) 127) 128 % 256), .int .u8 (bits .or .u64 (bits .and .u64 ((x : Int) / 2097152) 127) 128 % 256), .int .u8 (bits .or .u64 (bits .and .u64 ((x : Int) / 268435456) 127) 128 % 256), .int .u8 ((x : Int) / 34359738368)] = bvs (Wire.venc x) := by
  have hv : Wire.venc x = [UInt8.ofNat (x % 128 + 128), UInt8.ofNat (x / 128 % 128 + 128), UInt8.ofNat (x / 16384 % 128 + 128), UInt8.ofNat (x / 2097152 % 128 + 128), UInt8.ofNat (x / 268435456 % 128 + 128), UInt8.ofNat (x / 34359738368)] := by
    rw [Wire.venc_ge (by omega)]
    rw [Wire.venc_ge (by omega)]
    rw [Wire.venc_ge (by omega)]
    rw [Wire.venc_ge (by omega)]
    rw [Wire.venc_ge (by omega)]
    rw [Wire.venc_lt (by omega)]
    simp only [Nat.div_div_eq_div_mul, Nat.reduceMul]
  rw [hv]
  simp only [bvs, List.map_cons, List.map_nil]
  exact congr (congrArg _ (orb _ x (by omega) (by omega))) ((congr (congrArg _ (orb _ (x / 128) (by omega) (by omega)))  (congr (congrArg _ (orb _ (x / 16384) (by omega) (by omega)))  (congr (congrArg _ (orb _ (x / 2097152) (by omega) (by omega)))  (congr (congrArg _ (orb _ (x / 268435456) (by omega) (by omega)))  (congr (congrArg _ (lastb _ (x / 34359738368) (by omega) (by omega))) rfl))))))

theorem enc7n (x : Nat) (h0 : 4398046511104 ≤ x) (h1 : x < 562949953421312) : [.int .u8 (bits .or .u64 (bits .and .u64 (x : Int) 127) 128 % 256), .int .u8 (bits .or .u64 (bits .and .u64 ((x : Int) / 128) 127) 128 % 256), .int .u8 (bits .or .u64 (bits .and .u64 ((x : Int) / 16384) 127) 128 % 256), .int .u8 (bits .or .u64 (bits .and .u64 ((x : Int) / 2097152) 127) 128 % 256), .int .u8 (bits .or .u64 (bits .and .u64 ((x : Int) / 268435456) 127) 128 % 256), .int .u8 (bits .or .u64 (bits .and .u64 ((x : Int) / 34359738368) 127) 128 % 256), .int .u8 ((x : Int) / 4398046511104)] = bvs (Wire.venc x) := by
  have hv : Wire.venc x = [UInt8.ofNat (x % 128 + 128), UInt8.ofNat (x / 128 % 128 + 128), UInt8.ofNat (x / 16384 % 128 + 128), UInt8.ofNat (x / 2097152 % 128 + 128), UInt8.ofNat (x / 268435456 % 128 + 128), UInt8.ofNat (x / 34359738368 % 128 + 128), UInt8.ofNat (x / 4398046511104)] := by
    rw [Wire.venc_ge (by omega)]
    rw [Wire.venc_ge (by omega)]
    rw [Wire.venc_ge (by omega)]
    rw [Wire.venc_ge (by omega)]
    rw [Wire.venc_ge (by omega)]
    rw [Wire.venc_ge (by omega)]
    rw [Wire.venc_lt (by omega)]
    simp only [Nat.div_div_eq_div_mul, Nat.reduceMul]
  rw [hv]
  simp only [bvs, List.map_cons, List.map_nil]
  exact congr (congrArg _ (orb _ x (by omega) (by omega))) ((congr (congrArg _ (orb _ (x / 128) (by omega) (by omega)))  (congr (congrArg _ (orb _ (x / 16384) (by omega) (by omega)))  (congr (congrArg _ (orb _ (x / 2097152) (by omega) (by omega)))  (congr (congrArg _ (orb _ (x / 268435456) (by omega) (by omega)))  (congr (congrArg _ (orb _ (x / 34359738368) (by omega) (by omega)))  (congr (congrArg _ (lastb _ (x / 4398046511104) (by omega) (by omega))) rfl)))))))

theorem enc8n (x : Nat) (h0 : 562949953421312 ≤ x) (h1 : x < 72057594037927936) : [.int .u8 (bits .or .u64 (bits .and .u64 (x : Int) 127) 128 % 256), .int .u8 (bits .or .u64 (bits .and .u64 ((x : Int) / 128) 127) 128 % 256), .int .u8 (bits .or .u64 (bits .and .u64 ((x : Int) / 16384) 127) 128 % 256), .int .u8 (bits .or .u64 (bits .and .u64 ((x : Int) / 2097152) 127) 128 % 256), .int .u8 (bits .or .u64 (bits .and .u64 ((x : Int) / 268435456) 127) 128 % 256), .int .u8 (bits .or .u64 (bits .and .u64 ((x : Int) / 34359738368) 127) 128 % 256), .int .u8 (bits .or .u64 (bits .and .u64 ((x : Int) / 4398046511104) 127) 128 % 256), .int .u8 ((x : Int) / 562949953421312)] = bvs (Wire.venc x) := by
  have hv : Wire.venc x = [UInt8.ofNat (x % 128 + 128), UInt8.ofNat (x / 128 % 128 + 128), UInt8.ofNat (x / 16384 % 128 + 128), UInt8.ofNat (x / 2097152 % 128 + 128), UInt8.ofNat (x / 268435456 % 128 + 128), UInt8.ofNat (x / 34359738368 % 128 + 128), UInt8.ofNat (x / 4398046511104 % 128 + 128), UInt8.ofNat (x / 562949953421312)] := by
    rw [Wire.venc_ge (by omega)]
    rw [Wire.venc_ge (by omega)]
    rw [Wire.venc_ge (by omega)]
    rw [Wire.venc_ge (by omega)]
    rw [Wire.venc_ge (by omega)]
    rw [Wire.venc_ge (by omega)]
    rw [Wire.venc_ge (by omega)]
    rw [Wire.venc_lt (by omega)]
    simp only [Nat.div_div_eq_div_mul, Nat.reduceMul]
  rw [hv]
  simp only [bvs, List.map_cons, List.map_nil]
  exact congr (congrArg _ (orb _ x (by omega) (by omega))) ((congr (congrArg _ (orb _ (x / 128) (by omega) (by omega)))  (congr (congrArg _ (orb _ (x / 16384) (by omega) (by omega)))  (congr (congrArg _ (orb _ (x / 2097152) (by omega) (by omega)))  (congr (congrArg _ (orb _ (x / 268435456) (by omega) (by omega)))  (congr (congrArg _ (orb _ (x / 34359738368) (by omega) (by omega)))  (congr (congrArg _ (orb _ (x / 4398046511104) (by omega) (by omega)))  (congr (congrArg _ (lastb _ (x / 562949953421312) (by omega) (by omega))) rfl))))))))

theorem enc9n (x : Nat) (h0 : 72057594037927936 ≤ x) (h1 : x < 9223372036854775808) : [.int .u8 (bits .or .u64 (bits .and .u64 (x : Int) 127) 128 % 256), .int .u8 (bits .or .u64 (bits .and .u64 ((x : Int) / 128) 127) 128 % 256), .int .u8 (bits .or .u64 (bits .and .u64 ((x : Int) / 16384) 127) 128 % 256), .int .u8 (bits .or .u64 (bits .and .u64 ((x : Int) / 2097152) 127) 128 % 256), .int .u8 (bits .or .u64 (bits .and .u64 ((x : Int) / 268435456) 127) 128 % 256), .int .u8 (bits .or .u64 (bits .and .u64 ((x : Int) / 34359738368) 127) 128 % 256), .int .u8 (bits .or .u64 (bits .and .u64 ((x : Int) / 4398046511104) 127) 128 % 256), .int .u8 (bits .or .u64 (bits .and .u64 ((x : Int) / 562949953421312) 127) 128 % 256), .int .u8 ((x : Int) / 72057594037927936)] = bvs (Wire.venc x) := by
  have hv : Wire.venc x = [UInt8.ofNat (x % 128 + 128), UInt8.ofNat (x / 128 % 128 + 128), UInt8.ofNat (x / 16384 % 128 + 128), UInt8.ofNat (x / 2097152 % 128 + 128), UInt8.ofNat (x / 268435456 % 128 + 128), UInt8.ofNat (x / 34359738368 % 128 + 128), UInt8.ofNat (x / 4398046511104 % 128 + 128), UInt8.ofNat (x / 562949953421312 % 128 + 128), UInt8.ofNat (x / 72057594037927936)] := by
    rw [Wire.venc_ge (by omega)]
    rw [Wire.venc_ge (by omega)]
    rw [Wire.venc_ge (by omega)]
    rw [Wire.venc_ge (by omega)]
    rw [Wire.venc_ge (by omega)]
    rw [Wire.venc_ge (by omega)]
    rw [Wire.venc_ge (by omega)]
    rw [Wire.venc_ge (by omega)]
    rw [Wire.venc_lt (by omega)]
    simp only [Nat.div_div_eq_div_mul, Nat.reduceMul]
  rw [hv]
  simp only [bvs, List.map_cons, List.map_nil]
  exact congr (congrArg _ (orb _ x (by omega) (by omega))) ((congr (congrArg _ (orb _ (x / 128) (by omega) (by omega)))  (congr (congrArg _ (orb _ (x / 16384) (by omega) (by omega)))  (congr (congrArg _ (orb _ (x / 2097152) (by omega) (by omega)))  (congr (congrArg _ (orb _ (x / 268435456) (by omega) (by omega)))  (congr (congrArg _ (orb _ (x / 34359738368) (by omega) (by omega)))  (congr (congrArg _ (orb _ (x / 4398046511104) (by omega) (by omega)))  (congr (congrArg _ (orb _ (x / 562949953421312) (by omega) (by omega)))  (congr (congrArg _ (lastb _ (x / 72057594037927936) (by omega) (by omega))) rfl)))))))))

theorem enc10n (x : Nat) (h0 : 9223372036854775808 ≤ x) (h1 : x < 18446744073709551616) : [.int .u8 (bits .or .u64 (bits .and .u64 (x : Int) 127) 128 % 256), .int .u8 (bits .or .u64 (bits .and .u64 ((x : Int) / 128) 127) 128 % 256), .int .u8 (bits .or .u64 (bits .and .u64 ((x : Int) / 16384) 127) 128 % 256), .int .u8 (bits .or .u64 (bits .and .u64 ((x : Int) / 2097152) 127) 128 % 256), .int .u8 (bits .or .u64 (bits .and .u64 ((x : Int) / 268435456) 127) 128 % 256), .int .u8 (bits .or .u64 (bits .and .u64 ((x : Int) / 34359738368) 127) 128 % 256), .int .u8 (bits .or .u64 (bits .and .u64 ((x : Int) / 4398046511104) 127) 128 % 256), .int .u8 (bits .or .u64 (bits .and .u64 ((x : Int) / 562949953421312) 127) 128 % 256), .int .u8 (bits .or .u64 (bits .and .u64 ((x : Int) / 72057594037927936) 127) 128 % 256), .int .u8 1] = bvs (Wire.venc x) := by
  have hv : Wire.venc x = [UInt8.ofNat (x % 128 + 128), UInt8.ofNat (x / 128 % 128 + 128), UInt8.ofNat (x / 16384 % 128 + 128), UInt8.ofNat (x / 2097152 % 128 + 128), UInt8.ofNat (x / 268435456 % 128 + 128), UInt8.ofNat (x / 34359738368 % 128 + 128), UInt8.ofNat (x / 4398046511104 % 128 + 128), UInt8.ofNat (x / 562949953421312 % 128 + 128), UInt8.ofNat (x / 72057594037927936 % 128 + 128), UInt8.ofNat 1] := by
    rw [Wire.venc_ge (by omega)]
    rw [Wire.venc_ge (by omega)]
    rw [Wire.venc_ge (by omega)]
    rw [Wire.venc_ge (by omega)]
    rw [Wire.venc_ge (by omega)]
    rw [Wire.venc_ge (by omega)]
    rw [Wire.venc_ge (by omega)]
    rw [Wire.venc_ge (by omega)]
    rw [Wire.venc_ge (by omega)]
    rw [Wire.venc_lt (by omega)]
    simp only [Nat.div_div_eq_div_mul, Nat.reduceMul]
    rw [show x / 9223372036854775808 = 1 by omega]
  rw [hv]
  simp only [bvs, List.map_cons, List.map_nil]
  exact congr (congrArg _ (orb _ x (by omega) (by omega))) ((congr (congrArg _ (orb _ (x / 128) (by omega) (by omega)))  (congr (congrArg _ (orb _ (x / 16384) (by omega) (by omega)))  (congr (congrArg _ (orb _ (x / 2097152) (by omega) (by omega)))  (congr (congrArg _ (orb _ (x / 268435456) (by omega) (by omega)))  (congr (congrArg _ (orb _ (x / 34359738368) (by omega) (by omega)))  (congr (congrArg _ (orb _ (x / 4398046511104) (by omega) (by omega)))  (congr (congrArg _ (orb _ (x / 562949953421312) (by omega) (by omega)))  (congr (congrArg _ (orb _ (x / 72057594037927936) (by omega) (by omega)))  (congr (congrArg _ (lastb _ 1 (by omega) (by omega))) rfl))))))))))

theorem enc1 (x : Int) (h0 : 0 ≤ x) (h1 : x < 128) : [.int .u8 x] = bvs (Wire.venc x.toNat) := by
  obtain ⟨n, rfl⟩ := Int.eq_ofNat_of_zero_le (show 0 ≤ x by omega)
  rw [Int.toNat_natCast]
  exact enc1n n (by omega) (by omega)

theorem enc2 (x : Int) (h0 : 128 ≤ x) (h1 : x < 16384) : [.int .u8 (bits .or .u64 (bits .and .u64 x 127) 128 % 256), .int .u8 (x / 128)] = bvs (Wire.venc x.toNat) := by
  obtain ⟨n, rfl⟩ := Int.eq_ofNat_of_zero_le (show 0 ≤ x by omega)
  rw [Int.toNat_natCast]
  exact enc2n n (by omega) (by omega)

theorem enc3 (x : Int) (h0 : 16384 ≤ x) (h1 : x < 2097152) : [.int .u8 (bits .or .u64 (bits .and .u64 x 127) 128 % 256), .int .u8 (bits .or .u64 (bits .and .u64 (x / 128) 127) 128 % 256), .int .u8 (x / 16384)] = bvs (Wire.venc x.toNat) := by
  obtain ⟨n, rfl⟩ := Int.eq_ofNat_of_zero_le (show 0 ≤ x by omega)
  rw [Int.toNat_natCast]
  exact enc3n n (by omega) (by omega)

theorem enc4 (x : Int) (h0 : 2097152 ≤ x) (h1 : x < 268435456) : [.int .u8 (bits .or .u64 (bits .and .u64 x 127) 128 % 256), .int .u8 (bits .or .u64 (bits .and .u64 (x / 128) 127) 128 % 256), .int .u8 (bits .or .u64 (bits .and .u64 (x / 16384) 127) 128 % 256), .int .u8 (x / 2097152)] = bvs (Wire.venc x.toNat) := by
  obtain ⟨n, rfl⟩ := Int.eq_ofNat_of_zero_le (show 0 ≤ x by omega)
  rw [Int.toNat_natCast]
  exact enc4n n (by omega) (by omega)

theorem enc5 (x : Int) (h0 : 268435456 ≤ x) (h1 : x < 34359738368) : [.int .u8 (bits .or .u64 (bits .and .u64 x 127) 128 % 256), .int .u8 (bits .or .u64 (bits .and .u64 (x / 128) 127) 128 % 256), .int .u8 (bits .or .u64 (bits .and .u64 (x / 16384) 127) 128 % 256), .int .u8 (bits .or .u64 (bits .and .u64 (x / 2097152) 127) 128 % 256), .int .u8 (x / 268435456)] = bvs (Wire.venc x.toNat) := by
  obtain ⟨n, rfl⟩ := Int.eq_ofNat_of_zero_le (show 0 ≤ x by omega)
  rw [Int.toNat_natCast]
  exact enc5n n (by omega) (by omega)

theorem enc6 (x : Int) (h0 : 34359738368 ≤ x) (h1 : x < 4398046511104) : [.int .u8 (bits .or .u64 (bits .and .u64 x 127) 128 % 256), .int .u8 (bits .or .u64 (bits .and .u64 (x / 128) 127) 128 % 256), .int .u8 (bits .or .u64 (bits .and .u64 (x / 16384) 127) 128 % 256), .int .u8 (bits .or .u64 (bits .and .u64 (x / 2097152) 127) 128 % 256), .int .u8 (bits .or .u64 (bits .and .u64 (x / 268435456) 127) 128 % 256), .int .u8 (x / 34359738368)] = bvs (Wire.venc x.toNat) := by
  obtain ⟨n, rfl⟩ := Int.eq_ofNat_of_zero_le (show 0 ≤ x by omega)
  rw [Int.toNat_natCast]
  exact enc6n n (by omega) (by omega)

theorem enc7 (x : Int) (h0 : 4398046511104 ≤ x) (h1 : x < 562949953421312) : [.int .u8 (bits .or .u64 (bits .and .u64 x 127) 128 % 256), .int .u8 (bits .or .u64 (bits .and .u64 (x / 128) 127) 128 % 256), .int .u8 (bits .or .u64 (bits .and .u64 (x / 16384) 127) 128 % 256), .int .u8 (bits .or .u64 (bits .and .u64 (x / 2097152) 127) 128 % 256), .int .u8 (bits .or .u64 (bits .and .u64 (x / 268435456) 127) 128 % 256), .int .u8 (bits .or .u64 (bits .and .u64 (x / 34359738368) 127) 128 % 256), .int .u8 (x / 4398046511104)] = bvs (Wire.venc x.toNat) := by
  obtain ⟨n, rfl⟩ := Int.eq_ofNat_of_zero_le (show 0 ≤ x by omega)
  rw [Int.toNat_natCast]
  exact enc7n n (by omega) (by omega)

theorem enc8 (x : Int) (h0 : 562949953421312 ≤ x) (h1 : x < 72057594037927936) : [.int .u8 (bits .or .u64 (bits .and .u64 x 127) 128 % 256), .int .u8 (bits .or .u64 (bits .and .u64 (x / 128) 127) 128 % 256), .int .u8 (bits .or .u64 (bits .and .u64 (x / 16384) 127) 128 % 256), .int .u8 (bits .or .u64 (bits .and .u64 (x / 2097152) 127) 128 % 256), .int .u8 (bits .or .u64 (bits .and .u64 (x / 268435456) 127) 128 % 256), .int .u8 (bits .or .u64 (bits .and .u64 (x / 34359738368) 127) 128 % 256), .int .u8 (bits .or .u64 (bits .and .u64 (x / 4398046511104) 127) 128 % 256), .int .u8 (x / 562949953421312)] = bvs (Wire.venc x.toNat) := by
  obtain ⟨n, rfl⟩ := Int.eq_ofNat_of_zero_le (show 0 ≤ x by omega)
  rw [Int.toNat_natCast]
  exact enc8n n (by omega) (by omega)

theorem enc9 (x : Int) (h0 : 72057594037927936 ≤ x) (h1 : x < 9223372036854775808) : [.int .u8 (bits .or .u64 (bits .and .u64 x 127) 128 % 256), .int .u8 (bits .or .u64 (bits .and .u64 (x / 128) 127) 128 % 256), .int .u8 (bits .or .u64 (bits .and .u64 (x / 16384) 127) 128 % 256), .int .u8 (bits .or .u64 (bits .and .u64 (x / 2097152) 127) 128 % 256), .int .u8 (bits .or .u64 (bits .and .u64 (x / 268435456) 127) 128 % 256), .int .u8 (bits .or .u64 (bits .and .u64 (x / 34359738368) 127) 128 % 256), .int .u8 (bits .or .u64 (bits .and .u64 (x / 4398046511104) 127) 128 % 256), .int .u8 (bits .or .u64 (bits .and .u64 (x / 562949953421312) 127) 128 % 256), .int .u8 (x / 72057594037927936)] = bvs (Wire.venc x.toNat) := by
  obtain ⟨n, rfl⟩ := Int.eq_ofNat_of_zero_le (show 0 ≤ x by omega)
  rw [Int.toNat_natCast]
  exact enc9n n (by omega) (by omega)

theorem enc10 (x : Int) (h0 : 9223372036854775808 ≤ x) (h1 : x < 18446744073709551616) : [.int .u8 (bits .or .u64 (bits .and .u64 x 127) 128 % 256), .int .u8 (bits .or .u64 (bits .and .u64 (x / 128) 127) 128 % 256), .int .u8 (bits .or .u64 (bits .and .u64 (x / 16384) 127) 128 % 256), .int .u8 (bits .or .u64 (bits .and .u64 (x / 2097152) 127) 128 % 256), .int .u8 (bits .or .u64 (bits .and .u64 (x / 268435456) 127) 128 % 256), .int .u8 (bits .or .u64 (bits .and .u64 (x / 34359738368) 127) 128 % 256), .int .u8 (bits .or .u64 (bits .and .u64 (x / 4398046511104) 127) 128 % 256), .int .u8 (bits .or .u64 (bits .and .u64 (x / 562949953421312) 127) 128 % 256), .int .u8 (bits .or .u64 (bits .and .u64 (x / 72057594037927936) 127) 128 % 256), .int .u8 1] = bvs (Wire.venc x.toNat) := by
  obtain ⟨n, rfl⟩ := Int.eq_ofNat_of_zero_le (show 0 ≤ x by omega)
  rw [Int.toNat_natCast]
  exact enc10n n (by omega) (by omega)

/-- what it leaves: the row with the number behind it -/
def appAns (w : World) (base : Nat) (v : Value) (l : List UInt8) (e : Ending) (w' : World) : Prop :=
  ∃ v', e = .returned v' ∧ Own w' base v' l ∧ w.grownBy w' v.ownBlock ∧ NN v' ∧ Moved w v v'
theorem moved_alloc {w : World} {o : Obj} {v v' : Value} (h : Moved (w.alloc o) v v') : Moved w v v' := by
  rcases h with h | ⟨g, h, hg⟩
  · exact .inl h
  · exact .inr ⟨g, h, by have := World.size_alloc w o; omega⟩
theorem own_nn {w : World} {base : Nat} {v : Value} {l : List UInt8} (h : Own w base v l) (hl : 0 < l.length) : NN v := NN.of_len h.bs hl

set_option maxHeartbeats 800000 in
theorem av1 {w : World} {base : Nat} {v : Value} {l : List UInt8} (hown : Own w base v l) (hb : base ≤ w.heap.size) (x : Int) (h0 : 0 ≤ x) (h1 : x < 128) (hlen : l.length + 1 ≤ 140737488355328) (hvl : (Wire.venc x.toNat).length = 1) :
    Calls Tryz.prog 53 #[v, .int .u64 x] w fun e w' => appAns w base v (l ++ Wire.venc x.toNat) e w' := by
  have Hvl := Lib.hid hvl
  clear hvl
  go_enter Tryz.func53, Tryz.ntmps53
  go_wp2_with (at_builtin; refine wpList_app rfl _ _ rfl (by rfl) (by rfl) (hown.alloc _) (Bs.new _ _ (Wire.venc x.toNat) (enc1 x h0 h1) (by rw [Hvl.out]; omega) 1 1 Hvl.out.symm Hvl.out.symm) (by rw [Hvl.out]; exact hlen) (by simp; omega) ?_; intro v' w1 ho hg hnn hmv)
  go_ret
  exact ⟨v', rfl, ho, (World.grownBy_alloc w _ _).trans hg, own_nn ho (by rw [List.length_append, Hvl.out]; omega), moved_alloc hmv⟩

set_option maxHeartbeats 800000 in
theorem av2 {w : World} {base : Nat} {v : Value} {l : List UInt8} (hown : Own w base v l) (hb : base ≤ w.heap.size) (x : Int) (h0 : 128 ≤ x) (h1 : x < 16384) (hlen : l.length + 2 ≤ 140737488355328) (hvl : (Wire.venc x.toNat).length = 2) :
    Calls Tryz.prog 53 #[v, .int .u64 x] w fun e w' => appAns w base v (l ++ Wire.venc x.toNat) e w' := by
  have Hvl := Lib.hid hvl
  clear hvl
  go_enter Tryz.func53, Tryz.ntmps53
  go_wp2_with (at_builtin; refine wpList_app rfl _ _ rfl (by rfl) (by rfl) (hown.alloc _) (Bs.new _ _ (Wire.venc x.toNat) (enc2 x h0 h1) (by rw [Hvl.out]; omega) 2 2 Hvl.out.symm Hvl.out.symm) (by rw [Hvl.out]; exact hlen) (by simp; omega) ?_; intro v' w1 ho hg hnn hmv)
  go_ret
  exact ⟨v', rfl, ho, (World.grownBy_alloc w _ _).trans hg, own_nn ho (by rw [List.length_append, Hvl.out]; omega), moved_alloc hmv⟩

set_option maxHeartbeats 800000 in
theorem av3 {w : World} {base : Nat} {v : Value} {l : List UInt8} (hown : Own w base v l) (hb : base ≤ w.heap.size) (x : Int) (h0 : 16384 ≤ x) (h1 : x < 2097152) (hlen : l.length + 3 ≤ 140737488355328) (hvl : (Wire.venc x.toNat).length = 3) :
    Calls Tryz.prog 53 #[v, .int .u64 x] w fun e w' => appAns w base v (l ++ Wire.venc x.toNat) e w' := by
  have Hvl := Lib.hid hvl
  clear hvl
  go_enter Tryz.func53, Tryz.ntmps53
  go_wp2_with (at_builtin; refine wpList_app rfl _ _ rfl (by rfl) (by rfl) (hown.alloc _) (Bs.new _ _ (Wire.venc x.toNat) (enc3 x h0 h1) (by rw [Hvl.out]; omega) 3 3 Hvl.out.symm Hvl.out.symm) (by rw [Hvl.out]; exact hlen) (by simp; omega) ?_; intro v' w1 ho hg hnn hmv)
  go_ret
  exact ⟨v', rfl, ho, (World.grownBy_alloc w _ _).trans hg, own_nn ho (by rw [List.length_append, Hvl.out]; omega), moved_alloc hmv⟩

set_option maxHeartbeats 800000 in
theorem av4 {w : World} {base : Nat} {v : Value} {l : List UInt8} (hown : Own w base v l) (hb : base ≤ w.heap.size) (x : Int) (h0 : 2097152 ≤ x) (h1 : x < 268435456) (hlen : l.length + 4 ≤ 140737488355328) (hvl : (Wire.venc x.toNat).length = 4) :
    Calls Tryz.prog 53 #[v, .int .u64 x] w fun e w' => appAns w base v (l ++ Wire.venc x.toNat) e w' := by
  have Hvl := Lib.hid hvl
  clear hvl
  go_enter Tryz.func53, Tryz.ntmps53
  go_wp2_with (at_builtin; refine wpList_app rfl _ _ rfl (by rfl) (by rfl) (hown.alloc _) (Bs.new _ _ (Wire.venc x.toNat) (enc4 x h0 h1) (by rw [Hvl.out]; omega) 4 4 Hvl.out.symm Hvl.out.symm) (by rw [Hvl.out]; exact hlen) (by simp; omega) ?_; intro v' w1 ho hg hnn hmv)
  go_ret
  exact ⟨v', rfl, ho, (World.grownBy_alloc w _ _).trans hg, own_nn ho (by rw [List.length_append, Hvl.out]; omega), moved_alloc hmv⟩

set_option maxHeartbeats 800000 in
theorem av5 {w : World} {base : Nat} {v : Value} {l : List UInt8} (hown : Own w base v l) (hb : base ≤ w.heap.size) (x : Int) (h0 : 268435456 ≤ x) (h1 : x < 34359738368) (hlen : l.length + 5 ≤ 140737488355328) (hvl : (Wire.venc x.toNat).length = 5) :
    Calls Tryz.prog 53 #[v, .int .u64 x] w fun e w' => appAns w base v (l ++ Wire.venc x.toNat) e w' := by
  have Hvl := Lib.hid hvl
  clear hvl
  go_enter Tryz.func53, Tryz.ntmps53
  go_wp2_with (at_builtin; refine wpList_app rfl _ _ rfl (by rfl) (by rfl) (hown.alloc _) (Bs.new _ _ (Wire.venc x.toNat) (enc5 x h0 h1) (by rw [Hvl.out]; omega) 5 5 Hvl.out.symm Hvl.out.symm) (by rw [Hvl.out]; exact hlen) (by simp; omega) ?_; intro v' w1 ho hg hnn hmv)
  go_ret
  exact ⟨v', rfl, ho, (World.grownBy_alloc w _ _).trans hg, own_nn ho (by rw [List.length_append, Hvl.out]; omega), moved_alloc hmv⟩

set_option maxHeartbeats 800000 in
theorem av6 {w : World} {base : Nat} {v : Value} {l : List UInt8} (hown : Own w base v l) (hb : base ≤ w.heap.size) (x : Int) (h0 : 34359738368 ≤ x) (h1 : x < 4398046511104) (hlen : l.length + 6 ≤ 140737488355328) (hvl : (Wire.venc x.toNat).length = 6) :
    Calls Tryz.prog 53 #[v, .int .u64 x] w fun e w' => appAns w base v (l ++ Wire.venc x.toNat) e w' := by
  have Hvl := Lib.hid hvl
  clear hvl
  go_enter Tryz.func53, Tryz.ntmps53
  go_wp2_with (at_builtin; refine wpList_app rfl _ _ rfl (by rfl) (by rfl) (hown.alloc _) (Bs.new _ _ (Wire.venc x.toNat) (enc6 x h0 h1) (by rw [Hvl.out]; omega) 6 6 Hvl.out.symm Hvl.out.symm) (by rw [Hvl.out]; exact hlen) (by simp; omega) ?_; intro v' w1 ho hg hnn hmv)
  go_ret
  exact ⟨v', rfl, ho, (World.grownBy_alloc w _ _).trans hg, own_nn ho (by rw [List.length_append, Hvl.out]; omega), moved_alloc hmv⟩

set_option maxHeartbeats 800000 in
theorem av7 {w : World} {base : Nat} {v : Value} {l : List UInt8} (hown : Own w base v l) (hb : base ≤ w.heap.size) (x : Int) (h0 : 4398046511104 ≤ x) (h1 : x < 562949953421312) (hlen : l.length + 7 ≤ 140737488355328) (hvl : (Wire.venc x.toNat).length = 7) :
    Calls Tryz.prog 53 #[v, .int .u64 x] w fun e w' => appAns w base v (l ++ Wire.venc x.toNat) e w' := by
  have Hvl := Lib.hid hvl
  clear hvl
  go_enter Tryz.func53, Tryz.ntmps53
  go_wp2_with (at_builtin; refine wpList_app rfl _ _ rfl (by rfl) (by rfl) (hown.alloc _) (Bs.new _ _ (Wire.venc x.toNat) (enc7 x h0 h1) (by rw [Hvl.out]; omega) 7 7 Hvl.out.symm Hvl.out.symm) (by rw [Hvl.out]; exact hlen) (by simp; omega) ?_; intro v' w1 ho hg hnn hmv)
  go_ret
  exact ⟨v', rfl, ho, (World.grownBy_alloc w _ _).trans hg, own_nn ho (by rw [List.length_append, Hvl.out]; omega), moved_alloc hmv⟩

set_option maxHeartbeats 800000 in
theorem av8 {w : World} {base : Nat} {v : Value} {l : List UInt8} (hown : Own w base v l) (hb : base ≤ w.heap.size) (x : Int) (h0 : 562949953421312 ≤ x) (h1 : x < 72057594037927936) (hlen : l.length + 8 ≤ 140737488355328) (hvl : (Wire.venc x.toNat).length = 8) :
    Calls Tryz.prog 53 #[v, .int .u64 x] w fun e w' => appAns w base v (l ++ Wire.venc x.toNat) e w' := by
  have Hvl := Lib.hid hvl
  clear hvl
  go_enter Tryz.func53, Tryz.ntmps53
  go_wp2_with (at_builtin; refine wpList_app rfl _ _ rfl (by rfl) (by rfl) (hown.alloc _) (Bs.new _ _ (Wire.venc x.toNat) (enc8 x h0 h1) (by rw [Hvl.out]; omega) 8 8 Hvl.out.symm Hvl.out.symm) (by rw [Hvl.out]; exact hlen) (by simp; omega) ?_; intro v' w1 ho hg hnn hmv)
  go_ret
  exact ⟨v', rfl, ho, (World.grownBy_alloc w _ _).trans hg, own_nn ho (by rw [List.length_append, Hvl.out]; omega), moved_alloc hmv⟩

set_option maxHeartbeats 800000 in
theorem av9 {w : World} {base : Nat} {v : Value} {l : List UInt8} (hown : Own w base v l) (hb : base ≤ w.heap.size) (x : Int) (h0 : 72057594037927936 ≤ x) (h1 : x < 9223372036854775808) (hlen : l.length + 9 ≤ 140737488355328) (hvl : (Wire.venc x.toNat).length = 9) :
    Calls Tryz.prog 53 #[v, .int .u64 x] w fun e w' => appAns w base v (l ++ Wire.venc x.toNat) e w' := by
  have Hvl := Lib.hid hvl
  clear hvl
  go_enter Tryz.func53, Tryz.ntmps53
  go_wp2_with (at_builtin; refine wpList_app rfl _ _ rfl (by rfl) (by rfl) (hown.alloc _) (Bs.new _ _ (Wire.venc x.toNat) (enc9 x h0 h1) (by rw [Hvl.out]; omega) 9 9 Hvl.out.symm Hvl.out.symm) (by rw [Hvl.out]; exact hlen) (by simp; omega) ?_; intro v' w1 ho hg hnn hmv)
  go_ret
  exact ⟨v', rfl, ho, (World.grownBy_alloc w _ _).trans hg, own_nn ho (by rw [List.length_append, Hvl.out]; omega), moved_alloc hmv⟩

set_option maxHeartbeats 800000 in
theorem av10 {w : World} {base : Nat} {v : Value} {l : List UInt8} (hown : Own w base v l) (hb : base ≤ w.heap.size) (x : Int) (h0 : 9223372036854775808 ≤ x) (h1 : x < 18446744073709551616) (hlen : l.length + 10 ≤ 140737488355328) (hvl : (Wire.venc x.toNat).length = 10) :
    Calls Tryz.prog 53 #[v, .int .u64 x] w fun e w' => appAns w base v (l ++ Wire.venc x.toNat) e w' := by
  have Hvl := Lib.hid hvl
  clear hvl
  go_enter Tryz.func53, Tryz.ntmps53
  go_wp2_with (at_builtin; refine wpList_app rfl _ _ rfl (by rfl) (by rfl) (hown.alloc _) (Bs.new _ _ (Wire.venc x.toNat) (enc10 x h0 h1) (by rw [Hvl.out]; omega) 10 10 Hvl.out.symm Hvl.out.symm) (by rw [Hvl.out]; exact hlen) (by simp; omega) ?_; intro v' w1 ho hg hnn hmv)
  go_ret
  exact ⟨v', rfl, ho, (World.grownBy_alloc w _ _).trans hg, own_nn ho (by rw [List.length_append, Hvl.out]; omega), moved_alloc hmv⟩

end Go.Proofs.YtkmjjoffamdnfaaGreatDoor

/- The writers of protowire: AppendVarint's contract whole, AppendTag, AppendBytes. -/
namespace Go.Proofs.YtkmjjoffamdnfaaGreatDoor
open Go.RowKit
set_option maxRecDepth 100000

theorem appendVarint {w : World} {base : Nat} {v : Value} {l : List UInt8} (hown : Own w base v l) (hb : base ≤ w.heap.size) (x : Int) (h0 : 0 ≤ x) (h1 : x < 18446744073709551616) (hlen : l.length + 10 ≤ 140737488355328) :
    Calls Tryz.prog 53 #[v, .int .u64 x] w fun e w' => appAns w base v (l ++ Wire.venc x.toNat) e w' := by
  obtain ⟨n, hn⟩ := Int.eq_ofNat_of_zero_le h0
  by_cases c1 : x < 128
  · exact av1 hown hb x (by omega) c1 (by omega) (by rw [hn, Int.toNat_natCast, ← bvs_length, ← enc1n n (by omega) (by omega)]; rfl)
  by_cases c2 : x < 16384
  · exact av2 hown hb x (by omega) c2 (by omega) (by rw [hn, Int.toNat_natCast, ← bvs_length, ← enc2n n (by omega) (by omega)]; rfl)
  by_cases c3 : x < 2097152
  · exact av3 hown hb x (by omega) c3 (by omega) (by rw [hn, Int.toNat_natCast, ← bvs_length, ← enc3n n (by omega) (by omega)]; rfl)
  by_cases c4 : x < 268435456
  · exact av4 hown hb x (by omega) c4 (by omega) (by rw [hn, Int.toNat_natCast, ← bvs_length, ← enc4n n (by omega) (by omega)]; rfl)
  by_cases c5 : x < 34359738368
  · exact av5 hown hb x (by omega) c5 (by omega) (by rw [hn, Int.toNat_natCast, ← bvs_length, ← enc5n n (by omega) (by omega)]; rfl)
  by_cases c6 : x < 4398046511104
  · exact av6 hown hb x (by omega) c6 (by omega) (by rw [hn, Int.toNat_natCast, ← bvs_length, ← enc6n n (by omega) (by omega)]; rfl)
  by_cases c7 : x < 562949953421312
  · exact av7 hown hb x (by omega) c7 (by omega) (by rw [hn, Int.toNat_natCast, ← bvs_length, ← enc7n n (by omega) (by omega)]; rfl)
  by_cases c8 : x < 72057594037927936
  · exact av8 hown hb x (by omega) c8 (by omega) (by rw [hn, Int.toNat_natCast, ← bvs_length, ← enc8n n (by omega) (by omega)]; rfl)
  by_cases c9 : x < 9223372036854775808
  · exact av9 hown hb x (by omega) c9 (by omega) (by rw [hn, Int.toNat_natCast, ← bvs_length, ← enc9n n (by omega) (by omega)]; rfl)
  exact av10 hown hb x (by omega) h1 (by omega) (by rw [hn, Int.toNat_natCast, ← bvs_length, ← enc10n n (by omega) (by omega)]; rfl)

def u64Ans (n : Int) (e : Ending) : Prop := e = .returned (.int .u64 n)
/-- the tags that are written -/
def TagOk (num typ : Int) : Prop := (num = 1 ∧ typ = 0) ∨ (num = 1 ∧ typ = 2) ∨ (num = 2 ∧ typ = 0) ∨ (num = 2 ∧ typ = 2) ∨ (num = 3 ∧ typ = 2) ∨ (num = 5 ∧ typ = 2)

theorem encodeTag {w : World} {num typ : Int} (h : TagOk num typ) :
    Calls Tryz.prog 62 #[.int .i32 num, .int .i8 typ] w fun e w' => u64Ans (num * 8 + typ) e ∧ w = w' := by
  rcases h with ⟨rfl, rfl⟩ | ⟨rfl, rfl⟩ | ⟨rfl, rfl⟩ | ⟨rfl, rfl⟩ | ⟨rfl, rfl⟩ | ⟨rfl, rfl⟩
  all_goals
    go_enter Tryz.func62, Tryz.ntmps62
    go_wp2
    go_ret
    exact ⟨rfl, rfl⟩

theorem appendTag {w : World} {base : Nat} {v : Value} {l : List UInt8} (hown : Own w base v l) (hb : base ≤ w.heap.size) {num typ : Int} (h : TagOk num typ) (hlen : l.length + 10 ≤ 140737488355328) :
    Calls Tryz.prog 52 #[v, .int .i32 num, .int .i8 typ] w fun e w' => appAns w base v (l ++ [UInt8.ofNat (num * 8 + typ).toNat]) e w' := by
  have h8 : 0 ≤ num * 8 + typ ∧ num * 8 + typ < 128 := by unfold TagOk at h; omega
  have hv : Wire.venc (num * 8 + typ).toNat = [UInt8.ofNat (num * 8 + typ).toNat] := Wire.venc_lt (by omega)
  have Hc := Lib.hid (appendVarint hown hb (num * 8 + typ) h8.1 (by omega) hlen)
  have Hv := Lib.hid hv
  have H := Lib.hid h
  clear hv h
  go_enter Tryz.func52, Tryz.ntmps52
  go_wp2_with (first | (go_at_call 62; refine (encodeTag H.out).mono ?_; rintro e w' ⟨rfl, rfl⟩) | (go_at_call 53; refine (Hc.out).mono ?_; rintro e w' ⟨v', rfl, ho, hg, hnn, hmv⟩))
  go_ret
  exact ⟨v', rfl, by rw [← Hv.out]; exact ho, hg, hnn, hmv⟩

/-- a length and the bytes behind it -/
def lenEnc (m : List UInt8) : List UInt8 := Wire.venc m.length ++ m

theorem appendBytes {w : World} {base : Nat} {v y : Value} {l m : List UInt8} {B : Nat} (hown : Own w base v l) (hb : base ≤ w.heap.size) (hm : Bs w B y m) (hBw : B ≤ w.heap.size) (hne : ∀ g, v.ownBlock = some g → B ≤ g) (hlen : l.length + m.length + 10 ≤ 140737488355328) :
    Calls Tryz.prog 54 #[v, y] w fun e w' => appAns w base v (l ++ lenEnc m) e w' := by
  have hx : (m.length : Int) < 18446744073709551616 := by omega
  have Hc := Lib.hid (appendVarint hown hb (m.length : Int) (by omega) hx (by omega))
  have hv10 : (Wire.venc m.length).length ≤ 10 := Wire.venc_length_u64 (by omega)
  obtain ⟨A, c, rfl, hlc, hc63⟩ := hm.form
  have Hm := Lib.hid hm
  clear hm hx
  go_enter Tryz.func54, Tryz.ntmps54
  go_wp2_with (first
    | (go_at_call 53; refine (Hc.out).mono ?_; rintro e w' ⟨v', rfl, ho, hg, hnn, hmv⟩; have hy := Lib.hid (Hm.out.grown hg hBw hne); rw [Int.toNat_natCast] at ho)
    | (at_builtin; refine wpList_app rfl _ _ rfl (by rfl) (by rfl) ho hy.out (by rw [List.length_append]; omega) (Nat.le_trans hb hg.size) ?_; intro v2 w2 ho2 hg2 hnn2 hmv2))
  go_ret
  exact ⟨v2, rfl, by unfold lenEnc; rw [← List.append_assoc]; exact ho2, grown_trans hg hmv hg2, hnn2 hnn, hmv.trans hmv2 hg.size⟩
end Go.Proofs.YtkmjjoffamdnfaaGreatDoor

/- Messages of keys: the plain reading, its place in memory, and the walks of crypto/pb's key. -/
namespace Go.Proofs.YtkmjjoffamdnfaaGreatDoor
open Go.RowKit
set_option maxRecDepth 100000

/-- what a key's message has told so far -/
structure KS where
  kind : Option Int
  data : Option (List UInt8)

def KS.none : KS := ⟨.none, .none⟩

/-- a field taken over what is there -/
def keyStep (s : KS) (num typ : Int) (l : List UInt8) : Option (KS × Nat) :=
  if num = 1 ∧ typ = 0 then (if (Wire.cvar l).2 < 0 then .none else some ({ s with kind := some (wrap32 (Wire.cvar l).1) }, (Wire.cvar l).2.toNat))
  else if num = 2 ∧ typ = 2 then (if (Wire.cbytes l).2 < 0 then .none else some ({ s with data := some (Wire.cbytes l).1 }, (Wire.cbytes l).2.toNat))
  else (if fval num typ l < 0 then .none else some (s, (fval num typ l).toNat))

def keyRun (s : KS) (l : List UInt8) : Option KS := Wire.mrun keyStep s l

section
variable {s : KS} {l : List UInt8} {n m : Nat} {a b c : Int} {x : Nat} {d : List UInt8}
theorem keyRun_nil : keyRun s [] = some s := Wire.mrun_nil
theorem keyRun_torn (ht : Wire.ctag l = (a, b, c)) (hl : 0 < l.length) (h : c < 0) : keyRun s l = .none := Wire.mrun_torn' ht hl h
theorem keyRun_far (ht : Wire.ctag l = (a, b, c)) (hl : 0 < l.length) (h : 536870911 < a) : keyRun s l = .none := Wire.mrun_far' ht hl h
theorem keyRun_kind_bad (ht : Wire.ctag l = (1, 0, (n : Int))) (hl : 0 < l.length) (hc : Wire.cvar (l.drop n) = (x, c)) (h : c < 0) : keyRun s l = .none :=
  Wire.mrun_none' ht hl (by omega) (by unfold keyStep; rw [if_pos ⟨rfl, rfl⟩, hc]; exact if_pos h)
theorem keyRun_kind (ht : Wire.ctag l = (1, 0, (n : Int))) (hl : 0 < l.length) (hc : Wire.cvar (l.drop n) = (x, (m : Int))) : keyRun s l = keyRun { s with kind := some (wrap32 x) } ((l.drop n).drop m) :=
  Wire.mrun_some' ht hl (by omega) (by unfold keyStep; rw [if_pos ⟨rfl, rfl⟩, hc]; exact if_neg (by simp only []; omega))
theorem keyRun_data_bad (ht : Wire.ctag l = (2, 2, (n : Int))) (hl : 0 < l.length) (hc : Wire.cbytes (l.drop n) = (d, c)) (h : c < 0) : keyRun s l = .none :=
  Wire.mrun_none' ht hl (by omega) (by unfold keyStep; rw [if_neg (by omega), if_pos ⟨rfl, rfl⟩, hc]; exact if_pos h)
theorem keyRun_data (ht : Wire.ctag l = (2, 2, (n : Int))) (hl : 0 < l.length) (hc : Wire.cbytes (l.drop n) = (d, (m : Int))) : keyRun s l = keyRun { s with data := some d } ((l.drop n).drop m) :=
  Wire.mrun_some' ht hl (by omega) (by unfold keyStep; rw [if_neg (by omega), if_pos ⟨rfl, rfl⟩, hc]; exact if_neg (by simp only []; omega))
theorem keyRun_skip_bad (ht : Wire.ctag l = (a, b, (n : Int))) (hl : 0 < l.length) (ha : ¬ 536870911 < a) (h1 : ¬ (a = 1 ∧ b = 0)) (h2 : ¬ (a = 2 ∧ b = 2)) (hc : fval a b (l.drop n) = c) (h : c < 0) : keyRun s l = .none :=
  Wire.mrun_none' ht hl ha (by unfold keyStep; rw [if_neg h1, if_neg h2, hc]; exact if_pos h)
theorem keyRun_skip (ht : Wire.ctag l = (a, b, (n : Int))) (hl : 0 < l.length) (ha : ¬ 536870911 < a) (h1 : ¬ (a = 1 ∧ b = 0)) (h2 : ¬ (a = 2 ∧ b = 2)) (hc : fval a b (l.drop n) = (m : Int)) : keyRun s l = keyRun s ((l.drop n).drop m) :=
  Wire.mrun_some' ht hl ha (by unfold keyStep; rw [if_neg h1, if_neg h2, hc]; exact if_neg (by omega))
end

/-- how it lies: a pointer to the kind, the data -/
def KindAt (w : World) (tp : Value) : Option Int → Prop
  | .none => tp = .pointer .none
  | some k => ∃ g, tp = .pointer (some ⟨g, 0, .none⟩) ∧ w.cell? ⟨g, 0, .none⟩ = some (.int .i32 k)
def DataAt (w : World) (dv : Value) : Option (List UInt8) → Prop
  | .none => dv = .slice .none 0 0
  | some d => Bs w w.heap.size dv d ∧ NN dv ∧ d.length ≤ 140737488355328
def KRep (w : World) (tp dv : Value) (s : KS) : Prop := KindAt w tp s.kind ∧ DataAt w dv s.data

section
variable {w w' : World} {tp dv : Value} {s : KS} {k : Option Int} {d : Option (List UInt8)} {g : Nat} {t : TypeId} {cs : Array Value}
theorem KindAt.noInt (h : KindAt w tp k) : NoInt tp := by
  cases k with
  | none => rw [show tp = _ from h]; exact noInt_ptr _
  | some k => obtain ⟨g, rfl, _⟩ := h; exact noInt_ptr _
theorem DataAt.noInt (h : DataAt w dv d) : NoInt dv := by
  cases d with
  | none => rw [show dv = _ from h]; exact noInt_slice _ _ _
  | some d => obtain ⟨A, c, rfl, _⟩ := h.1.form; exact noInt_slice _ _ _
theorem KindAt.step (h : KindAt w tp k) (hb : Below w.heap.size w w') : KindAt w' tp k := by
  cases k with
  | none => exact h
  | some k => obtain ⟨g, rfl, hc⟩ := h; exact ⟨g, rfl, (hb.cell (p := ⟨g, 0, .none⟩) (World.block_lt_of_cell? w _ hc)).trans hc⟩
theorem DataAt.step (h : DataAt w dv d) (hb : Below w.heap.size w w') : DataAt w' dv d := by
  cases d with
  | none => exact h
  | some d => exact ⟨h.1.step hb, h.2⟩
theorem KRep.step (h : KRep w tp dv s) (hb : Below w.heap.size w w') : KRep w' tp dv s := ⟨h.1.step hb, h.2.step hb⟩
theorem KindAt.keepBlk (h : KindAt w tp k) (hb : Blk w g t cs) (hn : ∀ u ∈ cs.toList, NoInt u) (hg : w.grownBy w' (some g)) : KindAt w' tp k := by
  cases k with
  | none => exact h
  | some k =>
    obtain ⟨g', rfl, hc⟩ := h
    refine ⟨g', rfl, hg.cell hc ?_⟩
    intro e
    have e' : g' = g := by simpa using e
    subst e'
    rw [hb.cell] at hc
    exact hn _ (by simpa using Array.mem_of_getElem? hc) _ _ rfl
theorem DataAt.keepBlk (h : DataAt w dv d) (hb : Blk w g t cs) (hn : ∀ u ∈ cs.toList, NoInt u) (hg : w.grownBy w' (some g)) : DataAt w' dv d := by
  cases d with
  | none => exact h
  | some d => exact ⟨h.1.keepBlk hb hn hg, h.2⟩
theorem KRep.keepBlk (h : KRep w tp dv s) (hb : Blk w g t cs) (hn : ∀ u ∈ cs.toList, NoInt u) (hg : w.grownBy w' (some g)) : KRep w' tp dv s := ⟨h.1.keepBlk hb hn hg, h.2.keepBlk hb hn hg⟩
theorem KRep.noInt (h : KRep w tp dv s) : ∀ u ∈ (#[tp, dv] : Array Value).toList, NoInt u := by
  intro u hu
  simp at hu
  rcases hu with rfl | rfl
  · exact h.1.noInt
  · exact h.2.noInt
theorem KRep.nil (w : World) : KRep w (.pointer .none) (.slice .none 0 0) KS.none := ⟨rfl, rfl⟩
end

/-- a pointer to a new number -/
def EnumAns (w : World) (k : Int) (e : Ending) (w' : World) : Prop := ∃ g, e = .returned (.pointer (some ⟨g, 0, none⟩)) ∧ w'.cell? ⟨g, 0, none⟩ = some (.int .i32 k) ∧ Below w.heap.size w w'

theorem enum (w : World) (k : Int) : Calls Tryz.prog 28 #[.int .i32 k] w fun e w' => EnumAns w k e w' := by
  go_enter Tryz.func28, Tryz.ntmps28
  go_wp2
  go_ret
  exact ⟨_, rfl, by simp [World.cell?_alloc_at], below_alloc w _⟩

end Go.Proofs.YtkmjjoffamdnfaaGreatDoor

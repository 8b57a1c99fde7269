/- SHA2-256 in plain words; no program. -/
import Derived.Test.YtcefcdmonfenoaaDoorWire
namespace Go.Proofs.YtcefcdmonfenoaaDoor
namespace Sha
def M : Nat := 4294967296
def wadd (a b : Nat) : Nat := (a + b) % 4294967296
def rotr (x n : Nat) : Nat := (x / 2 ^ n) ||| (x * 2 ^ (32 - n) % 4294967296)
def s0 (x : Nat) : Nat := rotr x 7 ^^^ rotr x 18 ^^^ x / 8
def s1 (x : Nat) : Nat := rotr x 17 ^^^ rotr x 19 ^^^ x / 1024
def t1 (e : Nat) : Nat := rotr e 6 ^^^ rotr e 11 ^^^ rotr e 25
def t0 (a : Nat) : Nat := rotr a 2 ^^^ rotr a 13 ^^^ rotr a 22
def ch (e f g : Nat) : Nat := (e &&& f) ^^^ ((4294967295 - e) &&& g)
def maj (a b c : Nat) : Nat := (a &&& b) ^^^ (a &&& c) ^^^ (b &&& c)
def keys : List Nat := [
  0x428a2f98, 0x71374491, 0xb5c0fbcf, 0xe9b5dba5, 0x3956c25b, 0x59f111f1, 0x923f82a4, 0xab1c5ed5,
  0xd807aa98, 0x12835b01, 0x243185be, 0x550c7dc3, 0x72be5d74, 0x80deb1fe, 0x9bdc06a7, 0xc19bf174,
  0xe49b69c1, 0xefbe4786, 0x0fc19dc6, 0x240ca1cc, 0x2de92c6f, 0x4a7484aa, 0x5cb0a9dc, 0x76f988da,
  0x983e5152, 0xa831c66d, 0xb00327c8, 0xbf597fc7, 0xc6e00bf3, 0xd5a79147, 0x06ca6351, 0x14292967,
  0x27b70a85, 0x2e1b2138, 0x4d2c6dfc, 0x53380d13, 0x650a7354, 0x766a0abb, 0x81c2c92e, 0x92722c85,
  0xa2bfe8a1, 0xa81a664b, 0xc24b8b70, 0xc76c51a3, 0xd192e819, 0xd6990624, 0xf40e3585, 0x106aa070,
  0x19a4c116, 0x1e376c08, 0x2748774c, 0x34b0bcb5, 0x391c0cb3, 0x4ed8aa4a, 0x5b9cca4f, 0x682e6ff3,
  0x748f82ee, 0x78a5636f, 0x84c87814, 0x8cc70208, 0x90befffa, 0xa4506ceb, 0xbef9a3f7, 0xc67178f2]
/-- a word of four bytes -/
def word (b : List UInt8) (i : Nat) : Nat := (b.getD (4 * i) 0).toNat * 16777216 + (b.getD (4 * i + 1) 0).toNat * 65536 + (b.getD (4 * i + 2) 0).toNat * 256 + (b.getD (4 * i + 3) 0).toNat
def words (b : List UInt8) (n : Nat) : List Nat := (List.range n).map (word b)
/-- one word more -/
def nextW (l : List Nat) : Nat := wadd (wadd (wadd (l.getD (l.length - 16) 0) (l.getD (l.length - 7) 0)) (s0 (l.getD (l.length - 15) 0))) (s1 (l.getD (l.length - 2) 0))
def sched (b : List UInt8) : Nat → List Nat
  | 0 => words b 16
  | n + 1 => sched b n ++ [nextW (sched b n)]
structure V where
  a : Nat
  b : Nat
  c : Nat
  d : Nat
  e : Nat
  f : Nat
  g : Nat
  h : Nat
  deriving DecidableEq
def one (v : V) (k w : Nat) : Nat := wadd (wadd (wadd (wadd v.h (t1 v.e)) (ch v.e v.f v.g)) k) w
def two (v : V) : Nat := wadd (t0 v.a) (maj v.a v.b v.c)
def round (v : V) (k w : Nat) : V := ⟨wadd (one v k w) (two v), v.a, v.b, v.c, wadd v.d (one v k w), v.e, v.f, v.g⟩
def rounds (ws : List Nat) : Nat → V → V
  | 0, v => v
  | i + 1, v => round (rounds ws i v) (keys.getD i 0) (ws.getD i 0)
def V.add (u v : V) : V := ⟨wadd u.a v.a, wadd u.b v.b, wadd u.c v.c, wadd u.d v.d, wadd u.e v.e, wadd u.f v.f, wadd u.g v.g, wadd u.h v.h⟩
def block (u : V) (b : List UInt8) : V := u.add (rounds (sched b 48) 64 u)
def init : V := ⟨0x6a09e667, 0xbb67ae85, 0x3c6ef372, 0xa54ff53a, 0x510e527f, 0x9b05688c, 0x1f83d9ab, 0x5be0cd19⟩
/-- eight bytes of a number, the greatest ahead -/
def be8 (n : Nat) : List UInt8 := (List.range 8).map fun i => UInt8.ofNat (n / 2 ^ (8 * (7 - i)))
def padded (l : List UInt8) : List UInt8 := l ++ 128 :: (List.replicate ((119 - l.length % 64) % 64) 0 ++ be8 (l.length * 8))
def blocks : Nat → V → List UInt8 → V
  | 0, v, _ => v
  | n + 1, v, l => blocks n (block v (l.take 64)) (l.drop 64)
def V.list (v : V) : List Nat := [v.a, v.b, v.c, v.d, v.e, v.f, v.g, v.h]
def V.out (v : V) : List UInt8 := (List.range 32).map fun i => UInt8.ofNat (v.list.getD (i / 4) 0 / 2 ^ (24 - 8 * (i % 4)))
def sum (l : List UInt8) : List UInt8 := (blocks ((padded l).length / 64) init (padded l)).out
theorem sum_length (l : List UInt8) : (sum l).length = 32 := by simp [sum, V.out]
theorem wadd_lt (a b : Nat) : wadd a b < 4294967296 := Nat.mod_lt _ (by omega)
theorem rotr_lt {x n : Nat} (h : x < 4294967296) : rotr x n < 4294967296 := by
  unfold rotr
  have h1 : x / 2 ^ n < 2 ^ 32 := Nat.lt_of_le_of_lt (Nat.div_le_self _ _) h
  have h2 : x * 2 ^ (32 - n) % 4294967296 < 2 ^ 32 := Nat.mod_lt _ (by omega)
  exact Nat.or_lt_two_pow h1 h2
theorem xor_lt {a b : Nat} (h : a < 4294967296) (k : b < 4294967296) : a ^^^ b < 4294967296 := Nat.xor_lt_two_pow (n := 32) h k
theorem and_lt {a b : Nat} (k : b < 4294967296) : a &&& b < 4294967296 := Nat.and_lt_two_pow (n := 32) a k
theorem s0_lt {x : Nat} (h : x < 4294967296) : s0 x < 4294967296 := xor_lt (xor_lt (rotr_lt h) (rotr_lt h)) (by omega)
theorem s1_lt {x : Nat} (h : x < 4294967296) : s1 x < 4294967296 := xor_lt (xor_lt (rotr_lt h) (rotr_lt h)) (by omega)
theorem t0_lt {x : Nat} (h : x < 4294967296) : t0 x < 4294967296 := xor_lt (xor_lt (rotr_lt h) (rotr_lt h)) (rotr_lt h)
theorem t1_lt {x : Nat} (h : x < 4294967296) : t1 x < 4294967296 := xor_lt (xor_lt (rotr_lt h) (rotr_lt h)) (rotr_lt h)
structure V.ok (v : V) : Prop where
  a : v.a < 4294967296
  b : v.b < 4294967296
  c : v.c < 4294967296
  d : v.d < 4294967296
  e : v.e < 4294967296
  f : v.f < 4294967296
  g : v.g < 4294967296
  h : v.h < 4294967296
theorem V.ok.round {v : V} (h : v.ok) (k w : Nat) : (Sha.round v k w).ok := ⟨wadd_lt _ _, h.a, h.b, h.c, wadd_lt _ _, h.e, h.f, h.g⟩
theorem V.ok.rounds {ws : List Nat} {v : V} (h : v.ok) : ∀ i, (Sha.rounds ws i v).ok
  | 0 => h
  | i + 1 => (V.ok.rounds h i).round _ _
theorem V.ok.add (u v : V) : (u.add v).ok := ⟨wadd_lt _ _, wadd_lt _ _, wadd_lt _ _, wadd_lt _ _, wadd_lt _ _, wadd_lt _ _, wadd_lt _ _, wadd_lt _ _⟩
theorem init_ok : init.ok := ⟨by decide, by decide, by decide, by decide, by decide, by decide, by decide, by decide⟩
theorem block_ok (u : V) (b : List UInt8) : (block u b).ok := V.ok.add _ _
theorem blocks_ok : ∀ (n : Nat) {u : V} (_ : u.ok) (l : List UInt8), (blocks n u l).ok
  | 0, _, h, _ => h
  | n + 1, _, _, _ => blocks_ok n (block_ok _ _) _
theorem words_length (b : List UInt8) (n : Nat) : (words b n).length = n := by simp [words]
theorem sched_length (b : List UInt8) (n : Nat) : (sched b n).length = n + 16 := by
  induction n with
  | zero => simp [sched, words]
  | succ n ih => simp [sched, ih]
theorem word_lt (b : List UInt8) (i : Nat) : word b i < 4294967296 := by
  unfold word
  have h1 := UInt8.toNat_lt (b.getD (4 * i) 0)
  have h2 := UInt8.toNat_lt (b.getD (4 * i + 1) 0)
  have h3 := UInt8.toNat_lt (b.getD (4 * i + 2) 0)
  have h4 := UInt8.toNat_lt (b.getD (4 * i + 3) 0)
  omega
def Small (l : List Nat) : Prop := ∀ x ∈ l, x < 4294967296
theorem Small.getD {l : List Nat} (h : Small l) (i : Nat) : l.getD i 0 < 4294967296 := by
  rw [List.getD_eq_getElem?_getD]
  cases e : l[i]? with
  | none => simp
  | some x => exact h x (List.mem_of_getElem? e)
theorem words_small (b : List UInt8) (n : Nat) : Small (words b n) := by
  intro x hx
  obtain ⟨i, _, rfl⟩ := List.mem_map.1 hx
  exact word_lt b i
theorem sched_small (b : List UInt8) (n : Nat) : Small (sched b n) := by
  induction n with
  | zero => exact words_small b 16
  | succ n ih =>
    intro x hx
    rcases List.mem_append.1 hx with hx | hx
    · exact ih x hx
    · obtain rfl : x = nextW (sched b n) := by simpa using hx
      exact wadd_lt _ _
theorem keys_small : Small keys := by unfold Small keys; decide
theorem padded_length (l : List UInt8) : (padded l).length % 64 = 0 := by simp [padded, be8]; omega
end Sha
end Go.Proofs.YtcefcdmonfenoaaDoor

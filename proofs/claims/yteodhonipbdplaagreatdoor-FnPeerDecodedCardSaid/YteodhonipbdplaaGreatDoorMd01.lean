/- The wire format of protocol buffers on lists of bytes: numbers in groups of seven bits, tags, fields; plain functions, no program. -/
import Derived.Below
import Derived.Test.YteodhonipbdplaaGreatDoorChecked
import Derived.WalkKit
import Derived.Lib.Hide
import Derived.BigQuiet
import Derived.Deep.QuietTactic
import Derived.Deep.AppendLies
import Derived.Deep.Draws
import Derived.Maps.AppendAt
import Derived.KernelRfl
import Derived.WalkSpells
import Derived.Laws.BytesArg
import Derived.Laws.BytesString
import Derived.Lib.SliceRun
namespace Go.Proofs.YteodhonipbdplaaGreatDoor
namespace Wire

/-- A number in groups of seven bits, the lowest ahead. -/
def venc (n : Nat) : List UInt8 :=
  if h : n < 128 then [UInt8.ofNat n] else UInt8.ofNat (n % 128 + 128) :: venc (n / 128)
termination_by n
decreasing_by omega

/-- What ConsumeVarint does behind k bytes whose sum is acc: the number and how many bytes, or 0 and a code. -/
def cvarGo (k acc : Nat) : List UInt8 → Nat × Int
  | [] => (0, -1)
  | c :: l =>
    if k = 9 then (if c.toNat < 2 then (acc + c.toNat * 2 ^ 63, 10) else (0, -3))
    else if c.toNat < 128 then (acc + c.toNat * 2 ^ (7 * k), (k : Int) + 1)
    else cvarGo (k + 1) (acc + (c.toNat - 128) * 2 ^ (7 * k)) l

def cvar (l : List UInt8) : Nat × Int := cvarGo 0 0 l

theorem venc_lt {n : Nat} (h : n < 128) : venc n = [UInt8.ofNat n] := by rw [venc, dif_pos h]
theorem venc_ge {n : Nat} (h : 128 ≤ n) : venc n = UInt8.ofNat (n % 128 + 128) :: venc (n / 128) := by rw [venc, dif_neg (by omega)]

theorem venc_ne (n : Nat) : venc n ≠ [] := by
  rw [venc]; split <;> simp

theorem venc_pos (n : Nat) : 0 < (venc n).length := by
  have := venc_ne n
  exact List.length_pos_iff.2 this

theorem ofNat_toNat {n : Nat} (h : n < 256) : (UInt8.ofNat n).toNat = n := by
  simp [Nat.mod_eq_of_lt h]

/-- how long: at most k + 1 groups below 128 ^ (k + 1) -/
theorem venc_length_le (k : Nat) : ∀ n, n < 128 ^ (k + 1) → (venc n).length ≤ k + 1 := by
  induction k with
  | zero => intro n h; rw [venc_lt (by simpa using h)]; simp
  | succ k ih =>
    intro n h
    by_cases hn : n < 128
    · rw [venc_lt hn]; simp
    · rw [venc_ge (by omega)]
      have := ih (n / 128) (by rw [Nat.div_lt_iff_lt_mul (by omega)]; rw [Nat.pow_succ] at h; exact h)
      simp only [List.length_cons]; omega

theorem venc_length_u64 {n : Nat} (h : n < 2 ^ 64) : (venc n).length ≤ 10 := venc_length_le 9 n (by omega)

/-- reading what was written, at any place k of the number -/
theorem cvarGo_venc (d : Nat) : ∀ (k acc n : Nat) (l : List UInt8), k + d = 9 → n < 2 ^ (64 - 7 * k) →
    cvarGo k acc (venc n ++ l) = (acc + n * 2 ^ (7 * k), (k : Int) + (venc n).length) := by
  induction d with
  | zero =>
    intro k acc n l hk hn
    obtain rfl : k = 9 := by omega
    have h2 : n < 2 := by simpa using hn
    rw [venc_lt (by omega)]
    simp only [List.cons_append, List.nil_append, cvarGo, if_true, ofNat_toNat (show n < 256 by omega), if_pos h2]
    simp
  | succ d ih =>
    intro k acc n l hk hn
    by_cases h : n < 128
    · rw [venc_lt h]
      simp only [List.cons_append, List.nil_append, cvarGo, ofNat_toNat (show n < 256 by omega)]
      rw [if_neg (by omega), if_pos h]
      simp
    · rw [venc_ge (by omega)]
      simp only [List.cons_append, cvarGo, ofNat_toNat (show n % 128 + 128 < 256 by omega)]
      rw [if_neg (by omega), if_neg (by omega)]
      have hp : 2 ^ (64 - 7 * k) = 128 * 2 ^ (64 - 7 * (k + 1)) := by
        rw [show 64 - 7 * k = 7 + (64 - 7 * (k + 1)) by omega, Nat.pow_add]
      rw [ih (k + 1) _ (n / 128) l (by omega) (by rw [Nat.div_lt_iff_lt_mul (by omega)]; rw [hp] at hn; rw [Nat.mul_comm]; exact hn)]
      refine Prod.ext ?_ ?_
      · show acc + (n % 128 + 128 - 128) * 2 ^ (7 * k) + n / 128 * 2 ^ (7 * (k + 1)) = acc + n * 2 ^ (7 * k)
        rw [Nat.add_sub_cancel, show 7 * (k + 1) = 7 * k + 7 by omega, Nat.pow_add, Nat.add_assoc, ← Nat.mul_assoc, Nat.mul_right_comm, ← Nat.add_mul]
        congr 2; omega
      · simp only [List.length_cons]; omega

theorem cvar_venc {n : Nat} (h : n < 2 ^ 64) (l : List UInt8) : cvar (venc n ++ l) = (n, ((venc n).length : Int)) := by
  have := cvarGo_venc 9 0 0 n l rfl (by simpa using h)
  simpa [cvar] using this

theorem cvar_venc' {n : Nat} (h : n < 2 ^ 64) : cvar (venc n) = (n, ((venc n).length : Int)) := by
  have := cvar_venc h []
  simpa using this

/-- where it ends: the count is a code, or at least 1 and at most the bytes that there are -/
theorem cvarGo_bounds : ∀ (l : List UInt8) (k acc : Nat), k ≤ 9 →
    ((cvarGo k acc l).2 < 0 ∧ (cvarGo k acc l).1 = 0 ∧ -3 ≤ (cvarGo k acc l).2) ∨ ((k : Int) < (cvarGo k acc l).2 ∧ (cvarGo k acc l).2 ≤ k + l.length ∧ (cvarGo k acc l).2 ≤ 10) := by
  intro l
  induction l with
  | nil => intro k acc _; left; simp [cvarGo]
  | cons c l ih =>
    intro k acc hk
    simp only [cvarGo]
    by_cases h9 : k = 9
    · rw [if_pos h9]
      by_cases h2 : c.toNat < 2
      · rw [if_pos h2]; right; simp only [List.length_cons]; omega
      · rw [if_neg h2]; left; simp
    · rw [if_neg h9]
      by_cases h : c.toNat < 128
      · rw [if_pos h]; right; simp only [List.length_cons]; omega
      · rw [if_neg h]
        rcases ih (k + 1) (acc + (c.toNat - 128) * 2 ^ (7 * k)) (by omega) with h' | h'
        · left; exact h'
        · right; simp only [List.length_cons]; omega

theorem cvar_bounds (l : List UInt8) : ((cvar l).2 < 0 ∧ (cvar l).1 = 0 ∧ -3 ≤ (cvar l).2) ∨ (0 < (cvar l).2 ∧ (cvar l).2 ≤ l.length ∧ (cvar l).2 ≤ 10) := by
  have := cvarGo_bounds l 0 0 (by omega)
  simpa [cvar] using this

theorem cvarGo_lt : ∀ (l : List UInt8) (k acc : Nat), k ≤ 9 → acc < 2 ^ (7 * k) → (cvarGo k acc l).1 < 2 ^ 64 := by
  intro l
  induction l with
  | nil => intro k acc _ _; simp [cvarGo]
  | cons c l ih =>
    intro k acc hk ha
    have hc : c.toNat < 256 := UInt8.toNat_lt c
    have hp : 2 ^ (7 * (k + 1)) = 128 * 2 ^ (7 * k) := by rw [show 7 * (k + 1) = 7 + 7 * k by omega, Nat.pow_add]
    simp only [cvarGo]
    by_cases h9 : k = 9
    · subst h9
      rw [if_pos rfl]
      by_cases h2 : c.toNat < 2
      · rw [if_pos h2]; show acc + c.toNat * 2 ^ 63 < _; simp only [Nat.reduceMul] at ha; omega
      · rw [if_neg h2]; show (0 : Nat) < _; omega
    · rw [if_neg h9]
      by_cases h : c.toNat < 128
      · rw [if_pos h]
        show acc + c.toNat * 2 ^ (7 * k) < _
        have h1 : acc + c.toNat * 2 ^ (7 * k) < 2 ^ (7 * (k + 1)) := by
          rw [hp]
          have : c.toNat * 2 ^ (7 * k) ≤ 127 * 2 ^ (7 * k) := Nat.mul_le_mul_right _ (by omega)
          omega
        have h2 : 2 ^ (7 * (k + 1)) ≤ 2 ^ 63 := Nat.pow_le_pow_right (by omega) (by omega)
        omega
      · rw [if_neg h]
        refine ih (k + 1) _ (by omega) ?_
        rw [hp]
        have : (c.toNat - 128) * 2 ^ (7 * k) ≤ 127 * 2 ^ (7 * k) := Nat.mul_le_mul_right _ (by omega)
        omega

theorem cvar_lt (l : List UInt8) : (cvar l).1 < 2 ^ 64 := cvarGo_lt l 0 0 (by omega) (by simp)

/-- a number that is cut is none -/
theorem cvarGo_torn (d : Nat) : ∀ (k acc n j : Nat), k + d = 9 → n < 2 ^ (64 - 7 * k) → j < (venc n).length →
    cvarGo k acc ((venc n).take j) = (0, -1) := by
  induction d with
  | zero =>
    intro k acc n j hk hn hj
    obtain rfl : k = 9 := by omega
    have h2 : n < 2 := by simpa using hn
    rw [venc_lt (by omega)] at hj ⊢
    obtain rfl : j = 0 := by simpa using hj
    simp [cvarGo]
  | succ d ih =>
    intro k acc n j hk hn hj
    by_cases h : n < 128
    · rw [venc_lt h] at hj ⊢
      obtain rfl : j = 0 := by simpa using hj
      simp [cvarGo]
    · rw [venc_ge (by omega)] at hj ⊢
      rcases j with _ | j
      · simp [cvarGo]
      · simp only [List.take_succ_cons, cvarGo, ofNat_toNat (show n % 128 + 128 < 256 by omega)]
        rw [if_neg (by omega), if_neg (by omega)]
        have hp : 2 ^ (64 - 7 * k) = 128 * 2 ^ (64 - 7 * (k + 1)) := by
          rw [show 64 - 7 * k = 7 + (64 - 7 * (k + 1)) by omega, Nat.pow_add]
        exact ih (k + 1) _ (n / 128) j (by omega) (by rw [Nat.div_lt_iff_lt_mul (by omega)]; rw [hp] at hn; rw [Nat.mul_comm]; exact hn) (by simpa using hj)

theorem cvar_torn {n j : Nat} (h : n < 2 ^ 64) (hj : j < (venc n).length) : cvar ((venc n).take j) = (0, -1) :=
  cvarGo_torn 9 0 0 n j rfl (by simpa using h) hj

end Wire
end Go.Proofs.YteodhonipbdplaaGreatDoor

/- SHA2-256 in plain words; no program. -/
namespace Go.Proofs.YteodhonipbdplaaGreatDoor
namespace Sha
def M : Nat := 4294967296
def wadd (a b : Nat) : Nat := (a + b) % 4294967296
def rotr (x n : Nat) : Nat := (x / 2 ^ n) ||| (x * 2 ^ (32 - n) % 4294967296)
def s0 (x : Nat) : Nat := rotr x 7 ^^^ rotr x 18 ^^^ x / 8
def s1 (x : Nat) : Nat := rotr x 17 ^^^ rotr x 19 ^^^ x / 1024
def t1 (e : Nat) : Nat := rotr e 6 ^^^ rotr e 11 ^^^ rotr e 25
def t0 (a : Nat) : Nat := rotr a 2 ^^^ rotr a 13 ^^^ rotr a 22
def ch (e f g : Nat) : Nat := (e &&& f) ^^^ ((4294967295 - e) &&& g)
def maj (a b c : Nat) : Nat := (a &&& b) ^^^ (a &&& c) ^^^ (b &&& c)
def keys : List Nat := [
  0x428a2f98, 0x71374491, 0xb5c0fbcf, 0xe9b5dba5, 0x3956c25b, 0x59f111f1, 0x923f82a4, 0xab1c5ed5,
  0xd807aa98, 0x12835b01, 0x243185be, 0x550c7dc3, 0x72be5d74, 0x80deb1fe, 0x9bdc06a7, 0xc19bf174,
  0xe49b69c1, 0xefbe4786, 0x0fc19dc6, 0x240ca1cc, 0x2de92c6f, 0x4a7484aa, 0x5cb0a9dc, 0x76f988da,
  0x983e5152, 0xa831c66d, 0xb00327c8, 0xbf597fc7, 0xc6e00bf3, 0xd5a79147, 0x06ca6351, 0x14292967,
  0x27b70a85, 0x2e1b2138, 0x4d2c6dfc, 0x53380d13, 0x650a7354, 0x766a0abb, 0x81c2c92e, 0x92722c85,
  0xa2bfe8a1, 0xa81a664b, 0xc24b8b70, 0xc76c51a3, 0xd192e819, 0xd6990624, 0xf40e3585, 0x106aa070,
  0x19a4c116, 0x1e376c08, 0x2748774c, 0x34b0bcb5, 0x391c0cb3, 0x4ed8aa4a, 0x5b9cca4f, 0x682e6ff3,
  0x748f82ee, 0x78a5636f, 0x84c87814, 0x8cc70208, 0x90befffa, 0xa4506ceb, 0xbef9a3f7, 0xc67178f2]
/-- a word of four bytes -/
def word (b : List UInt8) (i : Nat) : Nat := (b.getD (4 * i) 0).toNat * 16777216 + (b.getD (4 * i + 1) 0).toNat * 65536 + (b.getD (4 * i + 2) 0).toNat * 256 + (b.getD (4 * i + 3) 0).toNat
def words (b : List UInt8) (n : Nat) : List Nat := (List.range n).map (word b)
/-- one word more -/
def nextW (l : List Nat) : Nat := wadd (wadd (wadd (l.getD (l.length - 16) 0) (l.getD (l.length - 7) 0)) (s0 (l.getD (l.length - 15) 0))) (s1 (l.getD (l.length - 2) 0))
def sched (b : List UInt8) : Nat → List Nat
  | 0 => words b 16
  | n + 1 => sched b n ++ [nextW (sched b n)]
structure V where
  a : Nat
  b : Nat
  c : Nat
  d : Nat
  e : Nat
  f : Nat
  g : Nat
  h : Nat
  deriving DecidableEq
def one (v : V) (k w : Nat) : Nat := wadd (wadd (wadd (wadd v.h (t1 v.e)) (ch v.e v.f v.g)) k) w
def two (v : V) : Nat := wadd (t0 v.a) (maj v.a v.b v.c)
def round (v : V) (k w : Nat) : V := ⟨wadd (one v k w) (two v), v.a, v.b, v.c, wadd v.d (one v k w), v.e, v.f, v.g⟩
def rounds (ws : List Nat) : Nat → V → V
  | 0, v => v
  | i + 1, v => round (rounds ws i v) (keys.getD i 0) (ws.getD i 0)
def V.add (u v : V) : V := ⟨wadd u.a v.a, wadd u.b v.b, wadd u.c v.c, wadd u.d v.d, wadd u.e v.e, wadd u.f v.f, wadd u.g v.g, wadd u.h v.h⟩
def block (u : V) (b : List UInt8) : V := u.add (rounds (sched b 48) 64 u)
def init : V := ⟨0x6a09e667, 0xbb67ae85, 0x3c6ef372, 0xa54ff53a, 0x510e527f, 0x9b05688c, 0x1f83d9ab, 0x5be0cd19⟩
/-- eight bytes of a number, the greatest ahead -/
def be8 (n : Nat) : List UInt8 := (List.range 8).map fun i => UInt8.ofNat (n / 2 ^ (8 * (7 - i)))
def padded (l : List UInt8) : List UInt8 := l ++ 128 :: (List.replicate ((119 - l.length % 64) % 64) 0 ++ be8 (l.length * 8))
def blocks : Nat → V → List UInt8 → V
  | 0, v, _ => v
  | n + 1, v, l => blocks n (block v (l.take 64)) (l.drop 64)
def V.list (v : V) : List Nat := [v.a, v.b, v.c, v.d, v.e, v.f, v.g, v.h]
def V.out (v : V) : List UInt8 := (List.range 32).map fun i => UInt8.ofNat (v.list.getD (i / 4) 0 / 2 ^ (24 - 8 * (i % 4)))
def sum (l : List UInt8) : List UInt8 := (blocks ((padded l).length / 64) init (padded l)).out
theorem sum_length (l : List UInt8) : (sum l).length = 32 := by simp [sum, V.out]
theorem wadd_lt (a b : Nat) : wadd a b < 4294967296 := Nat.mod_lt _ (by omega)
theorem rotr_lt {x n : Nat} (h : x < 4294967296) : rotr x n < 4294967296 := by
  unfold rotr
  have h1 : x / 2 ^ n < 2 ^ 32 := Nat.lt_of_le_of_lt (Nat.div_le_self _ _) h
  have h2 : x * 2 ^ (32 - n) % 4294967296 < 2 ^ 32 := Nat.mod_lt _ (by omega)
  exact Nat.or_lt_two_pow h1 h2
theorem xor_lt {a b : Nat} (h : a < 4294967296) (k : b < 4294967296) : a ^^^ b < 4294967296 := Nat.xor_lt_two_pow (n := 32) h k
theorem and_lt {a b : Nat} (k : b < 4294967296) : a &&& b < 4294967296 := Nat.and_lt_two_pow (n := 32) a k
theorem s0_lt {x : Nat} (h : x < 4294967296) : s0 x < 4294967296 := xor_lt (xor_lt (rotr_lt h) (rotr_lt h)) (by omega)
theorem s1_lt {x : Nat} (h : x < 4294967296) : s1 x < 4294967296 := xor_lt (xor_lt (rotr_lt h) (rotr_lt h)) (by omega)
theorem t0_lt {x : Nat} (h : x < 4294967296) : t0 x < 4294967296 := xor_lt (xor_lt (rotr_lt h) (rotr_lt h)) (rotr_lt h)
theorem t1_lt {x : Nat} (h : x < 4294967296) : t1 x < 4294967296 := xor_lt (xor_lt (rotr_lt h) (rotr_lt h)) (rotr_lt h)
structure V.ok (v : V) : Prop where
  a : v.a < 4294967296
  b : v.b < 4294967296
  c : v.c < 4294967296
  d : v.d < 4294967296
  e : v.e < 4294967296
  f : v.f < 4294967296
  g : v.g < 4294967296
  h : v.h < 4294967296
theorem V.ok.round {v : V} (h : v.ok) (k w : Nat) : (Sha.round v k w).ok := ⟨wadd_lt _ _, h.a, h.b, h.c, wadd_lt _ _, h.e, h.f, h.g⟩
theorem V.ok.rounds {ws : List Nat} {v : V} (h : v.ok) : ∀ i, (Sha.rounds ws i v).ok
  | 0 => h
  | i + 1 => (V.ok.rounds h i).round _ _
theorem V.ok.add (u v : V) : (u.add v).ok := ⟨wadd_lt _ _, wadd_lt _ _, wadd_lt _ _, wadd_lt _ _, wadd_lt _ _, wadd_lt _ _, wadd_lt _ _, wadd_lt _ _⟩
theorem init_ok : init.ok := ⟨by decide, by decide, by decide, by decide, by decide, by decide, by decide, by decide⟩
theorem block_ok (u : V) (b : List UInt8) : (block u b).ok := V.ok.add _ _
theorem blocks_ok : ∀ (n : Nat) {u : V} (_ : u.ok) (l : List UInt8), (blocks n u l).ok
  | 0, _, h, _ => h
  | n + 1, _, _, _ => blocks_ok n (block_ok _ _) _
theorem words_length (b : List UInt8) (n : Nat) : (words b n).length = n := by simp [words]
theorem sched_length (b : List UInt8) (n : Nat) : (sched b n).length = n + 16 := by
  induction n with
  | zero => simp [sched, words]
  | succ n ih => simp [sched, ih]
theorem word_lt (b : List UInt8) (i : Nat) : word b i < 4294967296 := by
  unfold word
  have h1 := UInt8.toNat_lt (b.getD (4 * i) 0)
  have h2 := UInt8.toNat_lt (b.getD (4 * i + 1) 0)
  have h3 := UInt8.toNat_lt (b.getD (4 * i + 2) 0)
  have h4 := UInt8.toNat_lt (b.getD (4 * i + 3) 0)
  omega
def Small (l : List Nat) : Prop := ∀ x ∈ l, x < 4294967296
theorem Small.getD {l : List Nat} (h : Small l) (i : Nat) : l.getD i 0 < 4294967296 := by
  rw [List.getD_eq_getElem?_getD]
  cases e : l[i]? with
  | none => simp
  | some x => exact h x (List.mem_of_getElem? e)
theorem words_small (b : List UInt8) (n : Nat) : Small (words b n) := by
  intro x hx
  obtain ⟨i, _, rfl⟩ := List.mem_map.1 hx
  exact word_lt b i
theorem sched_small (b : List UInt8) (n : Nat) : Small (sched b n) := by
  induction n with
  | zero => exact words_small b 16
  | succ n ih =>
    intro x hx
    rcases List.mem_append.1 hx with hx | hx
    · exact ih x hx
    · obtain rfl : x = nextW (sched b n) := by simpa using hx
      exact wadd_lt _ _
theorem keys_small : Small keys := by unfold Small keys; decide
theorem padded_length (l : List UInt8) : (padded l).length % 64 = 0 := by simp [padded, be8]; omega
end Sha
end Go.Proofs.YteodhonipbdplaaGreatDoor

/- Slices of bytes as lists of bytes in a world; rows of the call's own; the words that all contracts use. -/
namespace Go.Proofs.YteodhonipbdplaaGreatDoor
open Go.RowKit

/-- A byte as a value; bytes as values. -/
abbrev bv (u : UInt8) : Value := .int .u8 (u.toNat : Int)
def bvs (l : List UInt8) : List Value := l.map bv
theorem bvs_length (l : List UInt8) : (bvs l).length = l.length := by simp [bvs]
theorem bvs_append (l m : List UInt8) : bvs (l ++ m) = bvs l ++ bvs m := by simp [bvs]
theorem bvs_get (l : List UInt8) (k : Nat) (h : k < l.length) : (bvs l)[k]? = some (bv l[k]) := by simp [bvs, h]
theorem bvs_one (l : List UInt8) : ∀ u ∈ bvs l, u.oneCell' = true := by
  intro u hu
  obtain ⟨x, _, rfl⟩ := List.mem_map.1 hu
  rfl
theorem bvs_inj {l m : List UInt8} (h : bvs l = bvs m) : l = m := by
  refine List.map_inj_right (f := bv) ?_ |>.1 h
  intro x y hxy
  have : (x.toNat : Int) = y.toNat := by injection hxy
  exact UInt8.toNat_inj.1 (by omega)

/-- The slice value v reads as the bytes l, below block B. -/
def Bs (w : World) (B : Nat) (v : Value) (l : List UInt8) : Prop :=
  ∃ A c, v = .slice A l.length c ∧ l.length ≤ c ∧ c ≤ 9223372036854775807 ∧ (0 < l.length → ∃ g o, A = some ⟨g, o, none⟩ ∧ g < B ∧ ∀ k, (h : k < l.length) → w.cell? ⟨g, o + k, none⟩ = some (bv l[k]))

/-- The slice value v is nil, or a row of the call's own from block 'base' on, and holds the bytes l. -/
def Own (w : World) (base : Nat) (v : Value) (l : List UInt8) : Prop := w.ownsRow base 5 1 v l.length (bvs l)

/-- v is not the nil slice. -/
def NN (v : Value) : Prop := ∃ a n c, v = .slice (some a) n c

/-- where the slice's block is, behind what may have moved it -/
def Moved (w : World) (v v' : Value) : Prop := v'.ownBlock = v.ownBlock ∨ ∃ g, v'.ownBlock = some g ∧ w.heap.size ≤ g

section
variable {w w' : World} {B B' : Nat} {v : Value} {l : List UInt8}

theorem Bs.keep (h : Bs w B v l) (hk : ∀ p : Addr, p.block < B → w'.cell? p = w.cell? p) : Bs w' B v l := by
  obtain ⟨A, c, rfl, h1, h2, h3⟩ := h
  refine ⟨A, c, rfl, h1, h2, fun hl => ?_⟩
  obtain ⟨g, o, rfl, hg, hc⟩ := h3 hl
  exact ⟨g, o, rfl, hg, fun k hk' => (hk _ hg).trans (hc k hk')⟩
theorem Bs.more (h : Bs w B v l) (hB : B ≤ B') : Bs w B' v l := by
  obtain ⟨A, c, rfl, h1, h2, h3⟩ := h
  refine ⟨A, c, rfl, h1, h2, fun hl => ?_⟩
  obtain ⟨g, o, rfl, hg, hc⟩ := h3 hl
  exact ⟨g, o, rfl, by omega, hc⟩
theorem Bs.below (h : Bs w B v l) (hb : Below B w w') : Bs w' B v l := h.keep fun _ hp => hb.cell hp
/-- below the heap's size, behind a step that leaves what was there -/
theorem Bs.step (h : Bs w w.heap.size v l) (hb : Below w.heap.size w w') : Bs w' w'.heap.size v l := (h.below hb).more hb.size
theorem Bs.drew (h : Bs w B v l) : Bs w.drew B v l := h
theorem Bs.drewN (h : Bs w B v l) (n : Nat) : Bs (w.drewN n) B v l := h
theorem Bs.alloc (h : Bs w B v l) (hB : B ≤ w.heap.size) (o : Obj) : Bs (w.alloc o) B v l := h.keep fun p hp => World.cell?_alloc_lt w o p (by omega)
theorem Bs.setCell (h : Bs w B v l) {p : Addr} (hB : B ≤ p.block) (u : Value) : Bs (w.setCell p u) B v l :=
  h.keep fun q hq => World.cell?_setCell_other w p q u (fun e => by subst e; omega)
theorem Bs.grown (h : Bs w B v l) {row : Option Nat} (hg : w.grownBy w' row) (hB : B ≤ w.heap.size) (hr : ∀ g, row = some g → B ≤ g) : Bs w' B v l :=
  h.keep fun p hp => World.cell?_of_block (hg.block p.block (by omega) (fun e => by have := hr _ e.symm; omega))
theorem Bs.nil (w : World) (B : Nat) (A : Option Addr) (c : Nat) (hc : c ≤ 9223372036854775807) : Bs w B (.slice A 0 c) [] := ⟨A, c, rfl, Nat.zero_le _, hc, fun h => absurd h (by simp)⟩
theorem Bs.nil0 (w : World) (B : Nat) : Bs w B (.slice none 0 0) [] := Bs.nil w B none 0 (by omega)
theorem Bs.len_le (h : Bs w B v l) : l.length ≤ 9223372036854775807 := by
  obtain ⟨A, c, rfl, h1, h2, h3⟩ := h; omega
theorem Bs.form (h : Bs w B v l) : ∃ A c, v = .slice A l.length c ∧ l.length ≤ c ∧ c ≤ 9223372036854775807 := by
  obtain ⟨A, c, rfl, h1, h2, h3⟩ := h; exact ⟨A, c, rfl, h1, h2⟩

/-- 'b[n:]', as the walk spells it -/
theorem Bs.cut {A : Option Addr} {n c k : Nat} (h : Bs w B (.slice A n c) l) (hk : k ≤ l.length) :
    Bs w B (.slice (if c = k then A else A.map (·.add k)) (n - k) (c - k)) (l.drop k) := by
  obtain ⟨A', c', he, h1, h2, h3⟩ := h
  injection he with e1 e2 e3
  subst e1 e2 e3
  refine ⟨_, _, by rw [List.length_drop], by simp; omega, by omega, fun hl => ?_⟩
  rw [List.length_drop] at hl
  obtain ⟨g, o, rfl, hg, hc⟩ := h3 (by omega)
  rw [if_neg (by omega)]
  by_cases h0 : k = 0
  · subst h0
    refine ⟨g, o, by simp [Addr.add], hg, fun j hj => ?_⟩
    have := hc j (by simpa using hj)
    simpa using this
  · refine ⟨g, o + k, by simp [Addr.add, h0], hg, fun j hj => ?_⟩
    rw [List.length_drop] at hj
    have := hc (k + j) (by omega)
    rw [Nat.add_assoc, this]
    simp
/-- 'b[:n]' -/
theorem Bs.front {A : Option Addr} {n c k : Nat} (h : Bs w B (.slice A n c) l) (hk : k ≤ l.length) : Bs w B (.slice A k c) (l.take k) := by
  obtain ⟨A', c', he, h1, h2, h3⟩ := h
  injection he with e1 e2 e3
  subst e1 e2 e3
  refine ⟨_, _, by rw [List.length_take, Nat.min_eq_left hk], by simp; omega, by omega, fun hl => ?_⟩
  rw [List.length_take] at hl
  obtain ⟨g, o, rfl, hg, hc⟩ := h3 (by omega)
  refine ⟨g, o, rfl, hg, fun j hj => ?_⟩
  rw [List.length_take] at hj
  rw [hc j (by omega)]
  simp

/-- a list of cells that was just laid in a block of its own -/
theorem Bs.new (w : World) (cs : Array Value) (m : List UInt8) (h : cs.toList = bvs m) (hm : m.length ≤ 9223372036854775807) (n c : Nat) (hn : n = m.length) (hc : c = m.length) :
    Bs (w.alloc (.cells cs 5)) (w.heap.size + 1) (.slice (some ⟨w.heap.size, 0, none⟩) n c) m := by
  subst hn hc
  refine ⟨_, _, rfl, Nat.le_refl _, hm, fun hl => ⟨w.heap.size, 0, rfl, by omega, fun k hk => ?_⟩⟩
  rw [Nat.zero_add, cell_of_row (w.alloc (.cells cs 5)) w.heap.size k cs 5 (0, 0) (heap_alloc_new w _)]
  have := bvs_get m k hk
  rw [← h] at this
  simpa using this
/-- the same, the block's number spelled as it comes -/
theorem Bs.newAt (w : World) (cs : Array Value) (m : List UInt8) (h : cs.toList = bvs m) (hm : m.length ≤ 9223372036854775807) (g n c : Nat) (hg : w.heap.size = g) (hn : n = m.length) (hc : c = m.length) :
    Bs (w.alloc (.cells cs 5)) (w.alloc (.cells cs 5)).heap.size (.slice (some ⟨g, 0, none⟩) n c) m := by
  subst hg
  exact (Bs.new w cs m h hm n c hn hc).more (by simp)
end

section
variable {w w' : World} {base : Nat} {v : Value} {l : List UInt8}
theorem Own.nil (w : World) (base : Nat) : Own w base (.slice none 0 0) [] := World.ownsRow_nil w base _ 1
theorem Own.made (w : World) (hb : base ≤ w.heap.size) : Own (w.alloc (.cells #[] 5)) base (.slice (some ⟨w.heap.size, 0, none⟩) 0 0) [] :=
  World.ownsRow_made w #[] 0 hb (by unfold maxLen; omega) rfl
theorem Own.bs (h : Own w base v l) : Bs w w.heap.size v l := by
  unfold Own at h
  rcases h.2 with ⟨rfl, h0⟩ | ⟨g, cap, cur, rfl, hbg, hg, hnc, hcm, hcs, ht⟩
  · rw [List.length_eq_zero_iff] at h0; subst h0; exact Bs.nil0 _ _
  · refine ⟨_, _, rfl, hnc, hcm, fun _ => ⟨g, 0, rfl, (Array.getElem?_eq_some_iff.1 hg).1, fun k hk => ?_⟩⟩
    have := h.cells (g := g) rfl k _ (bvs_get l k hk)
    rw [Addr.add] at this
    split at this
    · next h0 => subst h0; simpa using this
    · simpa using this
theorem Own.lt (h : Own w base v l) : ∀ k, v.ownBlock = some k → base ≤ k ∧ k < w.heap.size := World.ownsRow.lt h
theorem Own.kept {row : Option Nat} (h : Own w base v l) (hg : w.grownBy w' row) (hne : v.ownBlock = none ∨ v.ownBlock ≠ row) : Own w' base v l := World.ownsRow.kept h hg hne
theorem Own.alloc (h : Own w base v l) (o : Obj) : Own (w.alloc o) base v l := World.ownsRow.alloc h o
theorem Own.drew (h : Own w base v l) : Own w.drew base v l := h
theorem Own.drewN (h : Own w base v l) (n : Nat) : Own (w.drewN n) base v l := h
theorem Own.more {base' : Nat} (h : Own w base v l) (hb : base' ≤ base) : Own w base' v l := by
  unfold Own at h ⊢
  refine ⟨h.1, ?_⟩
  rcases h.2 with h2 | ⟨g, cap, cur, rfl, hbg, r⟩
  · exact .inl h2
  · exact .inr ⟨g, cap, cur, rfl, by omega, r⟩
/-- what lies below B, and was made below B, stays the call's own behind a step that turns nothing below B -/
theorem Own.below {B : Nat} (h : Own w base v l) (hv : ∀ k, v.ownBlock = some k → k < B) (hb : Below B w w') : Own w' base v l := by
  unfold Own at h ⊢
  refine ⟨h.1, ?_⟩
  rcases h.2 with h2 | ⟨g, cap, cur, rfl, hbg, hg, r⟩
  · exact .inl h2
  · exact .inr ⟨g, cap, cur, rfl, hbg, by rw [hb.block g (hv g rfl)]; exact hg, r⟩
/-- behind a step that turns nothing that was there -/
theorem Own.step (h : Own w base v l) (hb : Below w.heap.size w w') : Own w' base v l := h.below (fun k hk => (h.lt k hk).2) hb
theorem Own.form (h : Own w base v l) : (v = .slice none 0 0 ∧ l = []) ∨ ∃ g c, v = .slice (some ⟨g, 0, none⟩) l.length c ∧ base ≤ g ∧ g < w.heap.size ∧ l.length ≤ c ∧ c ≤ 9223372036854775807 := by
  unfold Own at h
  rcases h.2 with ⟨rfl, h0⟩ | ⟨g, cap, cur, rfl, hbg, hg, hnc, hcm, hcs, ht⟩
  · exact .inl ⟨rfl, List.length_eq_zero_iff.1 h0⟩
  · exact .inr ⟨g, cap, rfl, hbg, (Array.getElem?_eq_some_iff.1 hg).1, hnc, hcm⟩
/-- the blocks below 'base' stand behind an append onto a row of the call's own -/
theorem below_of_own (h : Own w base v l) (hg : w.grownBy w' v.ownBlock) (hb : base ≤ w.heap.size) : Below base w w' :=
  ⟨hg.os, hg.tape, hg.output, hg.size, fun k hk => hg.block k (by omega) (fun e => by have := (h.lt k e.symm).1; omega)⟩
theorem grown_alloc {row : Option Nat} {a w : World} (h : a.grownBy w row) (o : Obj) : a.grownBy (w.alloc o) row := h.trans (World.grownBy_alloc w o row)
theorem grown_refl (w : World) (row : Option Nat) : w.grownBy w row := ⟨rfl, rfl, rfl, Nat.le_refl _, fun _ _ _ => rfl⟩
theorem grown_of_below {w w' : World} (h : Below w.heap.size w w') (row : Option Nat) : w.grownBy w' row := ⟨h.os, h.tape, h.output, h.size, fun k hk _ => h.block k hk⟩
theorem Moved.refl (w : World) (v : Value) : Moved w v v := .inl rfl
theorem Moved.trans {w w' : World} {a b c : Value} (h : Moved w a b) (k : Moved w' b c) (hs : w.heap.size ≤ w'.heap.size) : Moved w a c := by
  rcases k with k | ⟨g, k, hg⟩
  · rcases h with h | ⟨g, h, hg⟩
    · exact .inl (k.trans h)
    · exact .inr ⟨g, k.trans h, hg⟩
  · exact .inr ⟨g, k, by omega⟩
/-- two steps on a row that moves -/
theorem grown_trans {a b c : World} {v v' : Value} (h : a.grownBy b v.ownBlock) (hm : Moved a v v') (k : b.grownBy c v'.ownBlock) : a.grownBy c v.ownBlock := by
  refine ⟨k.os.trans h.os, k.tape.trans h.tape, k.output.trans h.output, Nat.le_trans h.size k.size, fun i hi hne => ?_⟩
  refine (k.block i (Nat.lt_of_lt_of_le hi h.size) ?_).trans (h.block i hi hne)
  rcases hm with hm | ⟨g, hm, hg⟩
  · rw [hm]; exact hne
  · rw [hm]; intro e; injection e with e; omega
theorem NN.own (h : NN v) : v ≠ .slice none 0 0 := by rintro rfl; obtain ⟨a, n, c, h⟩ := h; cases h
theorem Own.nn (h : Own w base v l) (hv : v ≠ .slice none 0 0) : NN v := by
  rcases h.form with ⟨h, _⟩ | ⟨g, c, rfl, _⟩
  · exact absurd h hv
  · exact ⟨_, _, _, rfl⟩
theorem NN.of_len {w : World} {B : Nat} (h : Bs w B v l) (hl : 0 < l.length) : NN v := by
  obtain ⟨A, c, rfl, h1, h2, h3⟩ := h
  obtain ⟨g, o, rfl, _⟩ := h3 hl
  exact ⟨_, _, _, rfl⟩
end

theorem Tryz.info5 : (Tryz.prog.info? 5).map (fun i => (i.zero, i.size, i.bytes)) = some (some (.int .u8 0), 1, 1) := by kernel_rfl

/-- append of bytes onto a row of the call's own, whatever the source -/
theorem run_app {w : World} {base : Nat} {v x : Value} {l m : List UInt8} {B : Nat} (ty : TypeId) (hown : Own w base v l) (hx : Bs w B x m) (hlen : l.length + m.length ≤ 140737488355328) (hb : base ≤ w.heap.size) :
    ∃ v' w', (Builtin.append_ #[23, 23] ty #[v, x]).run Tryz.prog w = .ok v' w' ∧ Own w' base v' (l ++ m) ∧ w.grownBy w' v.ownBlock ∧ (NN v → NN v') ∧ Moved w v v' := by
  obtain ⟨i0, hi, hz0, hz1, hz2⟩ := info_parts Tryz.info5
  have hown' : w.ownsRow base 5 1 v l.length (bvs l) := hown
  obtain ⟨A, c, rfl, h1, h2, h3⟩ := hx
  by_cases hm : 0 < m.length
  · obtain ⟨g, o, rfl, hg, hc⟩ := h3 hm
    obtain ⟨v', w', hr, r1, r2, r3, r4⟩ := run_append_own_at (P := Tryz.prog) w base 23 ty 5 i0 (.int .u8 0) 1 1 Tryz.underlying23 hi hz0 hz1 hz2 rfl (by decide) v l.length (bvs l) hown'
      ⟨g, o, none⟩ m.length c (bvs m) (by rw [bvs_length, Nat.mul_one]) (fun j u hj => by
        have hjm : j < m.length := by
          have := (List.getElem?_eq_some_iff.1 hj).1
          rwa [bvs_length] at this
        rw [bvs_get m j hjm] at hj
        obtain rfl := Option.some.inj hj
        rw [Addr.add]
        split
        · next h0 => subst h0; exact hc 0 hjm
        · exact hc j hjm) (bvs_one m) (by unfold maxLen; omega) (by omega) hb
    refine ⟨v', w', hr, ?_, r2, fun hn => ?_, ?_⟩
    · unfold Own; rw [List.length_append, bvs_append]; exact r1
    · have hne : v' ≠ .slice none 0 0 := fun e => hn.own (r3.1 e).1
      have ho : Own w' base v' (l ++ m) := by unfold Own; rw [List.length_append, bvs_append]; exact r1
      exact ho.nn hne
    · rcases r4 with r4 | r4
      · exact .inl r4
      · exact .inr ⟨_, r4, Nat.le_refl _⟩
  · have h0 : m = [] := List.length_eq_zero_iff.1 (by omega)
    subst h0
    refine ⟨v, w, ?_, by simpa using hown, grown_refl w _, id, Moved.refl w v⟩
    rcases hown.form with ⟨rfl, rfl⟩ | ⟨g, c', rfl, _, _, hnc, _⟩
    · cases A <;> simp [Builtin.append_, run_underlying Tryz.underlying23, sizeOf, typeInfo, hi, Builtin.lenOf, Builtin.firstCells, loadCells, loadCellsFrom]
    · cases A <;> simp [Builtin.append_, run_underlying Tryz.underlying23, sizeOf, typeInfo, hi, Builtin.lenOf, Builtin.firstCells, loadCells, loadCellsFrom, hnc, storeCells]

/-- the same at the operation, for the walk: behind it 'intro v' w1 hown1 hg1 hnn1 hmv1' -/
theorem wpList_app {ops : Array Oper} {rest : List Oper} {o : Oper} {a : Act} {Q : Exit → Act → World → Prop} {w : World} (hgd : o.guard = none) (s x : Operand)
    (ho : o.op = .call { callee := .builtin .append, args := #[s, x], argTypes := #[23, 23] })
    {base : Nat} {v y : Value} {l m : List UInt8} {B : Nat} (hs : a.eval s = v) (hx : a.eval x = y) (hown : Own w base v l) (hy : Bs w B y m) (hlen : l.length + m.length ≤ 140737488355328) (hb : base ≤ w.heap.size)
    (h : ∀ v' w', Own w' base v' (l ++ m) → w.grownBy w' v.ownBlock → (NN v → NN v') → Moved w v v' → wpList Tryz.prog ops Q rest (a.put o.dst v') w') :
    wpList Tryz.prog ops Q (o :: rest) a w := by
  refine wpList_plain hgd fun K hK => ?_
  obtain ⟨v', w', hr, h2, h3, h4, h5⟩ := run_app o.type hown hy hlen hb
  unfold Oper.wp execOp
  simp only [ho, resolve, invoke, builtin, Sem.run_bind, Sem.run_pure, Result.andThen_ok, List.map_toArray, List.map_cons, List.map_nil, hs, hx, hr]
  exact hK _ _ (h v' w' h2 h3 h4 h5)

/-- 's[n:]' as one step: where it begins under one name -/
theorem slice_from {w : World} {B N c n : Nat} {A : Option Addr} {l : List UInt8} (h : Bs w B (.slice A N c) l) (hn : n ≤ N) :
    ∃ A', (∀ (W : World) (k : IntKind), (Instr.slice 23 (.slice A N c) (some (.int k (n : Int))) none none).run Tryz.prog W = .ok (.slice A' (N - n) (c - n)) W) ∧ Bs w B (.slice A' (N - n) (c - n)) (l.drop n) := by
  obtain ⟨A', c', he, h1, h2, h3⟩ := h
  injection he with e1 e2 e3
  subst e1 e2 e3
  refine ⟨_, fun W k => ?_, Bs.cut ⟨A, c, rfl, h1, h2, h3⟩ hn⟩
  obtain ⟨i0, hi, hz0, hz1, hz2⟩ := info_parts Tryz.info5
  have hs : Tryz.prog.elem 23 = 5 := by kernel_rfl
  have hu : Tryz.prog.underlying 23 = some (.slice (Tryz.prog.elem 23)) := by rw [hs]; exact Tryz.underlying23
  rw [run_slice_l W 23 A l.length c hu k n (by omega) (by omega)]
  simp [hs, sizeOf, typeInfo, sliced, hi, hz1]

end Go.Proofs.YteodhonipbdplaaGreatDoor

/- Blocks that are known whole, and what stays as it was behind a step that turns one block alone. -/
namespace Go.Proofs.YteodhonipbdplaaGreatDoor
open Go.RowKit

/-- block g holds just the cells cs, none of them frozen -/
def Blk (w : World) (g : Nat) (t : TypeId) (cs : Array Value) : Prop := w.heap[g]? = some (.cells cs t (0, 0))

section
variable {w w' : World} {g : Nat} {t : TypeId} {cs : Array Value}
theorem Blk.lt (h : Blk w g t cs) : g < w.heap.size := (Array.getElem?_eq_some_iff.1 h).1
theorem Blk.cell (h : Blk w g t cs) (i : Nat) : w.cell? ⟨g, i, none⟩ = cs[i]? := cell_of_row w g i cs t (0, 0) h
theorem Blk.free (h : Blk w g t cs) (i : Nat) : w.frozen? ⟨g, i, none⟩ = false := by
  have h' : w.heap[g]? = some (.cells cs t (0, 0)) := h
  simp [World.frozen?, h']
theorem Blk.new (w : World) (t : TypeId) (cs : Array Value) : Blk (w.alloc (.cells cs t)) w.heap.size t cs := heap_alloc_new w _
theorem Blk.drewN (h : Blk w g t cs) (n : Nat) : Blk (w.drewN n) g t cs := h
theorem Blk.drew (h : Blk w g t cs) : Blk w.drew g t cs := h
theorem Blk.keep (h : Blk w g t cs) (hb : w'.heap[g]? = w.heap[g]?) : Blk w' g t cs := hb.trans h
theorem Blk.alloc (h : Blk w g t cs) (o : Obj) : Blk (w.alloc o) g t cs := h.keep (Below.heap_alloc w o g h.lt)
theorem Blk.step (h : Blk w g t cs) (hb : Below w.heap.size w w') : Blk w' g t cs := h.keep (hb.block g h.lt)
theorem Blk.below {B : Nat} (h : Blk w g t cs) (hb : Below B w w') (hg : g < B) : Blk w' g t cs := h.keep (hb.block g hg)
theorem Blk.grown {row : Option Nat} (h : Blk w g t cs) (hg : w.grownBy w' row) (hne : some g ≠ row) : Blk w' g t cs := h.keep (hg.block g h.lt hne)
theorem Blk.set (h : Blk w g t cs) (i : Nat) (u : Value) : Blk (w.setCell ⟨g, i, none⟩ u) g t (cs.setIfInBounds i u) := by
  have h' : w.heap[g]? = some (.cells cs t (0, 0)) := h
  show (w.setCell ⟨g, i, none⟩ u).heap[g]? = _
  simp [World.setCell, Array.getElem?_modify, h']
theorem Blk.far (h : Blk w g t cs) {p : Addr} (hp : p.block ≠ g) (u : Value) : Blk (w.setCell p u) g t cs := h.keep (Below.heap_setCell w p u g (by omega))

/-- a cell that holds no number at all -/
def NoInt (v : Value) : Prop := ∀ k n, v ≠ .int k n
theorem noInt_ptr (a : Option Addr) : NoInt (.pointer a) := fun _ _ h => by cases h
theorem noInt_slice (a : Option Addr) (n c : Nat) : NoInt (.slice a n c) := fun _ _ h => by cases h

/-- bytes do not lie in a block whose cells hold no numbers -/
theorem Bs.apart {B : Nat} {v : Value} {l : List UInt8} (h : Bs w B v l) (hb : Blk w g t cs) (hn : ∀ u ∈ cs.toList, NoInt u) : l = [] ∨ v.ownBlock ≠ some g := by
  obtain ⟨A, c, rfl, h1, h2, h3⟩ := h
  rcases Nat.eq_zero_or_pos l.length with h0 | h0
  · exact .inl (List.length_eq_zero_iff.1 h0)
  · right
    obtain ⟨g', o, rfl, _, hc⟩ := h3 h0
    intro e
    have e' : g' = g := by simpa [Value.ownBlock] using e
    subst e'
    have h4 := hc 0 h0
    rw [hb.cell] at h4
    have hm := Array.mem_of_getElem? h4
    exact hn _ (by simpa using hm) _ _ rfl

theorem Bs.keepRow {B : Nat} {v : Value} {l : List UInt8} {row : Option Nat} (h : Bs w B v l) (hg : w.grownBy w' row) (hB : B ≤ w.heap.size) (hne : l = [] ∨ v.ownBlock ≠ row ∨ row = none) : Bs w' B v l := by
  obtain ⟨A, c, rfl, h1, h2, h3⟩ := h
  refine ⟨A, c, rfl, h1, h2, fun hl => ?_⟩
  obtain ⟨g', o, rfl, hgB, hc⟩ := h3 hl
  refine ⟨g', o, rfl, hgB, fun k hk => ?_⟩
  refine (World.cell?_of_block (hg.block g' (by omega) ?_)).trans (hc k hk)
  rcases hne with rfl | hne | rfl
  · simp at hl
  · simpa [Value.ownBlock] using hne
  · simp
theorem Bs.drew1 {v : Value} {l : List UInt8} (h : Bs w w.heap.size v l) : Bs w.drew w.drew.heap.size v l := h
theorem Bs.drewN1 {v : Value} {l : List UInt8} (h : Bs w w.heap.size v l) (n : Nat) : Bs (w.drewN n) (w.drewN n).heap.size v l := h
theorem below_drew (w : World) : Below w.heap.size w w.drew := (Below.refl _ _).drew
theorem Bs.form' {B : Nat} {v : Value} {l : List UInt8} (h : Bs w B v l) : ∃ A n c, v = .slice A n c ∧ Hid (n = l.length) ∧ n ≤ c ∧ c ≤ 9223372036854775807 := by
  obtain ⟨A, c, rfl, h1, h2⟩ := h.form; exact ⟨A, _, c, rfl, rfl, h1, h2⟩
/-- bytes read as they did behind a step that turned a block without numbers -/
theorem Bs.keepBlk {v : Value} {l : List UInt8} (h : Bs w w.heap.size v l) (hb : Blk w g t cs) (hn : ∀ u ∈ cs.toList, NoInt u) (hg : w.grownBy w' (some g)) : Bs w' w'.heap.size v l := by
  refine (h.keepRow hg (Nat.le_refl _) ?_).more hg.size
  rcases h.apart hb hn with h0 | h0
  · exact .inl h0
  · exact .inr (.inl h0)

/-- what a step turned, as a row -/
theorem grown_setCell {a : World} {row : Nat} (h : a.grownBy w (some row)) {p : Addr} (hp : p.block = row ∨ a.heap.size ≤ p.block) (u : Value) : a.grownBy (w.setCell p u) (some row) :=
  ⟨h.os, h.tape, h.output, by simpa [World.setCell] using h.size, fun i hi hne => (Below.heap_setCell w p u i (by
    rintro rfl
    rcases hp with hp | hp
    · exact hne (by rw [hp])
    · omega)).trans (h.block i hi hne)⟩
theorem grown_drewN {a : World} {row : Option Nat} (h : a.grownBy w row) (n : Nat) : a.grownBy (w.drewN n) row := ⟨h.os, h.tape, h.output, h.size, h.block⟩
theorem grown_drew {a : World} {row : Option Nat} (h : a.grownBy w row) : a.grownBy w.drew row := ⟨h.os, h.tape, h.output, h.size, h.block⟩
theorem grown_step {a b c : World} {row : Option Nat} (h : a.grownBy b row) (k : Below b.heap.size b c) : a.grownBy c row := h.trans (grown_of_below k row)
/-- only blocks that are new have turned -/
theorem below_of_new {a b c : World} {g : Nat} (h : Below a.heap.size a b) (hg : a.heap.size ≤ g) (k : b.grownBy c (some g)) : Below a.heap.size a c :=
  h.grown k h.size fun _ e => by injection e with e; omega
theorem below_drewN {B : Nat} {a w : World} (h : Below B a w) (n : Nat) : Below B a (w.drewN n) := ⟨h.os, h.tape, h.output, h.size, h.block⟩
theorem below_refl (w : World) : Below w.heap.size w w := Below.refl _ _
theorem below_alloc (w : World) (o : Obj) : Below w.heap.size w (w.alloc o) := (Below.refl _ _).alloc (Nat.le_refl _) o
theorem below_trans {a b c : World} (h : Below a.heap.size a b) (k : Below b.heap.size b c) : Below a.heap.size a c := h.trans (k.mono h.size)
theorem below_grown {a b c : World} {row : Option Nat} (h : Below a.heap.size a b) (k : b.grownBy c row) (hr : ∀ g, row = some g → a.heap.size ≤ g) : Below a.heap.size a c := h.grown k h.size hr
end

/-- a slice of the call's own making that holds the bytes l; nothing that was there has turned -/
def Fresh (w : World) (l : List UInt8) (e : Ending) (w' : World) : Prop := ∃ v', e = .returned v' ∧ Own w' w.heap.size v' l ∧ Below w.heap.size w w'
/-- likewise, and it is not nil -/
def FreshN (w : World) (l : List UInt8) (e : Ending) (w' : World) : Prop := ∃ v', e = .returned v' ∧ Own w' w.heap.size v' l ∧ Below w.heap.size w w' ∧ NN v'

theorem Own.under {w w' : World} {base : Nat} {v : Value} {l : List UInt8} (h : Own w base v l) (hg : w.grownBy w' v.ownBlock) (hb : base ≤ w.heap.size) : Below base w w' := below_of_own h hg hb

end Go.Proofs.YteodhonipbdplaaGreatDoor

/- bytes.Clone, present, bytes.Equal. -/
namespace Go.Proofs.YteodhonipbdplaaGreatDoor
open Go.RowKit
set_option maxRecDepth 100000

theorem eql_nil (W : World) (a : Option Addr) (n c n' c' : Nat) : (binOp .eql 23 (.slice a n c) (.slice none n' c')).run Tryz.prog W = .ok (.bool a.isNone) W := Lib.run_eql_slice_nil W _ _ a n c n' c' Tryz.underlying23

/-- bytes as a string -/
def strOf (l : List UInt8) : ByteArray := ⟨l.toArray⟩
theorem strOf_toList (l : List UInt8) : (strOf l).toList = l := by rw [ByteArray.toList_eq]; rfl
theorem strOf_size (l : List UInt8) : (strOf l).size = l.length := by simp [strOf, ByteArray.size]
theorem strOf_data (l : List UInt8) : (strOf l).data.toList = l := by simp [strOf]
theorem strOf_of (s : ByteArray) : strOf s.data.toList = s := by cases s; simp [strOf]

/-- 'string(b)' -/
theorem conv_str {w : World} {B : Nat} {v : Value} {l : List UInt8} (h : Bs w B v l) {dst : TypeId} (hd : Tryz.prog.underlying dst = some .string) : (convert 23 dst v).run Tryz.prog w = .ok (.string (strOf l)) w := by
  obtain ⟨A, c, rfl, h1, h2, h3⟩ := h
  rcases Nat.eq_zero_or_pos l.length with h0 | h0
  · have := List.length_eq_zero_iff.1 h0
    subst this
    rw [show ([] : List UInt8).length = 0 from rfl, run_convert_bytes_string w 23 dst 5 _ 0 c Tryz.underlying23 Tryz.underlying5 hd]
    cases A <;> simp [Conv.bytesToString, loadCells] <;> rfl
  · obtain ⟨g, o, rfl, _, hc⟩ := h3 h0
    have hs : strOf l = strOfNums (l.map fun u => (u.toNat : Int)) := by
      unfold strOf strOfNums
      congr 2
      rw [List.map_map]
      conv => lhs; rw [← List.map_id l]
      refine List.map_congr_left fun u _ => ?_
      simp
    rw [hs]
    refine run_convert_bytes_arg w 23 5 Tryz.underlying23 Tryz.underlying5 g o l.length c _ (by simp) (fun i hi => ?_) dst hd
    rw [hc i hi]
    simp [bv, List.getD, hi]

theorem bytesEqual {w : World} {B C : Nat} {v x : Value} {l m : List UInt8} (h : Bs w B v l) (k : Bs w C x m) :
    Calls Tryz.prog 11 #[v, x] w fun e w' => e = .returned (.bool (l == m)) ∧ w = w' := by
  have c1 := conv_str h Tryz.underlying9
  have c2 := conv_str k Tryz.underlying9
  have Hb := Lib.hid (show ((strOf l).toList == (strOf m).toList) = (l == m) by rw [strOf_toList, strOf_toList])
  clear h k
  go_enter Tryz.func11, Tryz.ntmps11
  go_wp2
  go_ret
  exact ⟨by rw [← Hb.out]; rfl, rfl⟩

theorem bytesClone {w : World} {v : Value} {l : List UInt8} (h : Bs w w.heap.size v l) (hlen : l.length ≤ 140737488355328) :
    Calls Tryz.prog 9 #[v] w fun e w' => Fresh w l e w' := by
  obtain ⟨A, c, rfl, hlc, hc63⟩ := h.form
  have H := Lib.hid h
  cases A with
  | none =>
    have h0 : l = [] := by
      obtain ⟨A', c', he, _, _, h3⟩ := h
      injection he with e1 e2 e3
      rcases Nat.eq_zero_or_pos l.length with h0 | h0
      · exact List.length_eq_zero_iff.1 h0
      · obtain ⟨g, o, e, _⟩ := h3 h0; rw [← e1] at e; cases e
    clear h
    subst h0
    have hq := eql_nil
    go_enter Tryz.func9, Tryz.ntmps9
    go_wp2
    go_ret
    exact ⟨_, rfl, Own.nil _ _, below_refl w⟩
  | some a =>
    clear h
    have hq := eql_nil
    go_enter Tryz.func9, Tryz.ntmps9
    go_wp2_with (at_builtin; refine wpList_app rfl _ _ rfl (by rfl) (by rfl) (Own.made _ (Nat.le_refl _)) (H.out.alloc (Nat.le_refl _) _) (by simpa using hlen) (by simp) ?_; intro v' w1 ho hg hnn hmv)
    go_ret
    exact ⟨v', rfl, ho, below_grown (below_alloc w _) hg (fun g e => by simp [Value.ownBlock] at e; omega)⟩

end Go.Proofs.YteodhonipbdplaaGreatDoor

/- What the statements' walks answer; bytes.Equal told yes and no. -/
namespace Go.Proofs.YteodhonipbdplaaGreatDoor
open Go.RowKit
set_option maxRecDepth 100000

/-- the call answers true, and nothing that was there has turned -/
def Yes (w : World) (e : Ending) (w' : World) : Prop := e = .returned (.bool true) ∧ Below w.heap.size w w'

theorem Bs.cast {w : World} {B : Nat} {v : Value} {l m : List UInt8} (h : Bs w B v l) (e : l = m) : Bs w B v m := e ▸ h
theorem eqTrue {w : World} {B C : Nat} {v x : Value} {l m : List UInt8} (h : Bs w B v l) (k : Bs w C x m) (e : l = m) :
    Calls Tryz.prog 11 #[v, x] w fun e w' => e = .returned (.bool true) ∧ w = w' := by
  have := bytesEqual h k
  rw [show (l == m) = true by simpa using e] at this
  exact this
theorem eqFalse {w : World} {B C : Nat} {v x : Value} {l m : List UInt8} (h : Bs w B v l) (k : Bs w C x m) (e : l ≠ m) :
    Calls Tryz.prog 11 #[v, x] w fun e w' => e = .returned (.bool false) ∧ w = w' := by
  have := bytesEqual h k
  rw [show (l == m) = false by simpa using e] at this
  exact this

theorem hid_exists_bs' {w : World} {B : Nat} {v : Value} {l : List UInt8} (h : Bs w B v l) : ∃ A n c, v = .slice A n c := by obtain ⟨A, c, rfl, _⟩ := h.form; exact ⟨_, _, _, rfl⟩
end Go.Proofs.YteodhonipbdplaaGreatDoor

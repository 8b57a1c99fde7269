/- The wire format of protocol buffers on lists of bytes: numbers in groups of seven bits, tags, fields; plain functions, no program. -/
import Derived.Below
namespace Go.Proofs.YtcefcdmonfenoaaDoor
namespace Wire

/-- A number in groups of seven bits, the lowest ahead. -/
def venc (n : Nat) : List UInt8 :=
  if h : n < 128 then [UInt8.ofNat n] else UInt8.ofNat (n % 128 + 128) :: venc (n / 128)
termination_by n
decreasing_by omega

/-- What ConsumeVarint does behind k bytes whose sum is acc: the number and how many bytes, or 0 and a code. -/
def cvarGo (k acc : Nat) : List UInt8 → Nat × Int
  | [] => (0, -1)
  | c :: l =>
    if k = 9 then (if c.toNat < 2 then (acc + c.toNat * 2 ^ 63, 10) else (0, -3))
    else if c.toNat < 128 then (acc + c.toNat * 2 ^ (7 * k), (k : Int) + 1)
    else cvarGo (k + 1) (acc + (c.toNat - 128) * 2 ^ (7 * k)) l

def cvar (l : List UInt8) : Nat × Int := cvarGo 0 0 l

theorem venc_lt {n : Nat} (h : n < 128) : venc n = [UInt8.ofNat n] := by rw [venc, dif_pos h]
theorem venc_ge {n : Nat} (h : 128 ≤ n) : venc n = UInt8.ofNat (n % 128 + 128) :: venc (n / 128) := by rw [venc, dif_neg (by omega)]

theorem venc_ne (n : Nat) : venc n ≠ [] := by
  rw [venc]; split <;> simp

theorem venc_pos (n : Nat) : 0 < (venc n).length := by
  have := venc_ne n
  exact List.length_pos_iff.2 this

theorem ofNat_toNat {n : Nat} (h : n < 256) : (UInt8.ofNat n).toNat = n := by
  simp [Nat.mod_eq_of_lt h]

/-- how long: at most k + 1 groups below 128 ^ (k + 1) -/
theorem venc_length_le (k : Nat) : ∀ n, n < 128 ^ (k + 1) → (venc n).length ≤ k + 1 := by
  induction k with
  | zero => intro n h; rw [venc_lt (by simpa using h)]; simp
  | succ k ih =>
    intro n h
    by_cases hn : n < 128
    · rw [venc_lt hn]; simp
    · rw [venc_ge (by omega)]
      have := ih (n / 128) (by rw [Nat.div_lt_iff_lt_mul (by omega)]; rw [Nat.pow_succ] at h; exact h)
      simp only [List.length_cons]; omega

theorem venc_length_u64 {n : Nat} (h : n < 2 ^ 64) : (venc n).length ≤ 10 := venc_length_le 9 n (by omega)

/-- reading what was written, at any place k of the number -/
theorem cvarGo_venc (d : Nat) : ∀ (k acc n : Nat) (l : List UInt8), k + d = 9 → n < 2 ^ (64 - 7 * k) →
    cvarGo k acc (venc n ++ l) = (acc + n * 2 ^ (7 * k), (k : Int) + (venc n).length) := by
  induction d with
  | zero =>
    intro k acc n l hk hn
    obtain rfl : k = 9 := by omega
    have h2 : n < 2 := by simpa using hn
    rw [venc_lt (by omega)]
    simp only [List.cons_append, List.nil_append, cvarGo, if_true, ofNat_toNat (show n < 256 by omega), if_pos h2]
    simp
  | succ d ih =>
    intro k acc n l hk hn
    by_cases h : n < 128
    · rw [venc_lt h]
      simp only [List.cons_append, List.nil_append, cvarGo, ofNat_toNat (show n < 256 by omega)]
      rw [if_neg (by omega), if_pos h]
      simp
    · rw [venc_ge (by omega)]
      simp only [List.cons_append, cvarGo, ofNat_toNat (show n % 128 + 128 < 256 by omega)]
      rw [if_neg (by omega), if_neg (by omega)]
      have hp : 2 ^ (64 - 7 * k) = 128 * 2 ^ (64 - 7 * (k + 1)) := by
        rw [show 64 - 7 * k = 7 + (64 - 7 * (k + 1)) by omega, Nat.pow_add]
      rw [ih (k + 1) _ (n / 128) l (by omega) (by rw [Nat.div_lt_iff_lt_mul (by omega)]; rw [hp] at hn; rw [Nat.mul_comm]; exact hn)]
      refine Prod.ext ?_ ?_
      · show acc + (n % 128 + 128 - 128) * 2 ^ (7 * k) + n / 128 * 2 ^ (7 * (k + 1)) = acc + n * 2 ^ (7 * k)
        rw [Nat.add_sub_cancel, show 7 * (k + 1) = 7 * k + 7 by omega, Nat.pow_add, Nat.add_assoc, ← Nat.mul_assoc, Nat.mul_right_comm, ← Nat.add_mul]
        congr 2; omega
      · simp only [List.length_cons]; omega

theorem cvar_venc {n : Nat} (h : n < 2 ^ 64) (l : List UInt8) : cvar (venc n ++ l) = (n, ((venc n).length : Int)) := by
  have := cvarGo_venc 9 0 0 n l rfl (by simpa using h)
  simpa [cvar] using this

theorem cvar_venc' {n : Nat} (h : n < 2 ^ 64) : cvar (venc n) = (n, ((venc n).length : Int)) := by
  have := cvar_venc h []
  simpa using this

/-- where it ends: the count is a code, or at least 1 and at most the bytes that there are -/
theorem cvarGo_bounds : ∀ (l : List UInt8) (k acc : Nat), k ≤ 9 →
    ((cvarGo k acc l).2 < 0 ∧ (cvarGo k acc l).1 = 0 ∧ -3 ≤ (cvarGo k acc l).2) ∨ ((k : Int) < (cvarGo k acc l).2 ∧ (cvarGo k acc l).2 ≤ k + l.length ∧ (cvarGo k acc l).2 ≤ 10) := by
  intro l
  induction l with
  | nil => intro k acc _; left; simp [cvarGo]
  | cons c l ih =>
    intro k acc hk
    simp only [cvarGo]
    by_cases h9 : k = 9
    · rw [if_pos h9]
      by_cases h2 : c.toNat < 2
      · rw [if_pos h2]; right; simp only [List.length_cons]; omega
      · rw [if_neg h2]; left; simp
    · rw [if_neg h9]
      by_cases h : c.toNat < 128
      · rw [if_pos h]; right; simp only [List.length_cons]; omega
      · rw [if_neg h]
        rcases ih (k + 1) (acc + (c.toNat - 128) * 2 ^ (7 * k)) (by omega) with h' | h'
        · left; exact h'
        · right; simp only [List.length_cons]; omega

theorem cvar_bounds (l : List UInt8) : ((cvar l).2 < 0 ∧ (cvar l).1 = 0 ∧ -3 ≤ (cvar l).2) ∨ (0 < (cvar l).2 ∧ (cvar l).2 ≤ l.length ∧ (cvar l).2 ≤ 10) := by
  have := cvarGo_bounds l 0 0 (by omega)
  simpa [cvar] using this

theorem cvarGo_lt : ∀ (l : List UInt8) (k acc : Nat), k ≤ 9 → acc < 2 ^ (7 * k) → (cvarGo k acc l).1 < 2 ^ 64 := by
  intro l
  induction l with
  | nil => intro k acc _ _; simp [cvarGo]
  | cons c l ih =>
    intro k acc hk ha
    have hc : c.toNat < 256 := UInt8.toNat_lt c
    have hp : 2 ^ (7 * (k + 1)) = 128 * 2 ^ (7 * k) := by rw [show 7 * (k + 1) = 7 + 7 * k by omega, Nat.pow_add]
    simp only [cvarGo]
    by_cases h9 : k = 9
    · subst h9
      rw [if_pos rfl]
      by_cases h2 : c.toNat < 2
      · rw [if_pos h2]; show acc + c.toNat * 2 ^ 63 < _; simp only [Nat.reduceMul] at ha; omega
      · rw [if_neg h2]; show (0 : Nat) < _; omega
    · rw [if_neg h9]
      by_cases h : c.toNat < 128
      · rw [if_pos h]
        show acc + c.toNat * 2 ^ (7 * k) < _
        have h1 : acc + c.toNat * 2 ^ (7 * k) < 2 ^ (7 * (k + 1)) := by
          rw [hp]
          have : c.toNat * 2 ^ (7 * k) ≤ 127 * 2 ^ (7 * k) := Nat.mul_le_mul_right _ (by omega)
          omega
        have h2 : 2 ^ (7 * (k + 1)) ≤ 2 ^ 63 := Nat.pow_le_pow_right (by omega) (by omega)
        omega
      · rw [if_neg h]
        refine ih (k + 1) _ (by omega) ?_
        rw [hp]
        have : (c.toNat - 128) * 2 ^ (7 * k) ≤ 127 * 2 ^ (7 * k) := Nat.mul_le_mul_right _ (by omega)
        omega

theorem cvar_lt (l : List UInt8) : (cvar l).1 < 2 ^ 64 := cvarGo_lt l 0 0 (by omega) (by simp)

/-- a number that is cut is none -/
theorem cvarGo_torn (d : Nat) : ∀ (k acc n j : Nat), k + d = 9 → n < 2 ^ (64 - 7 * k) → j < (venc n).length →
    cvarGo k acc ((venc n).take j) = (0, -1) := by
  induction d with
  | zero =>
    intro k acc n j hk hn hj
    obtain rfl : k = 9 := by omega
    have h2 : n < 2 := by simpa using hn
    rw [venc_lt (by omega)] at hj ⊢
    obtain rfl : j = 0 := by simpa using hj
    simp [cvarGo]
  | succ d ih =>
    intro k acc n j hk hn hj
    by_cases h : n < 128
    · rw [venc_lt h] at hj ⊢
      obtain rfl : j = 0 := by simpa using hj
      simp [cvarGo]
    · rw [venc_ge (by omega)] at hj ⊢
      rcases j with _ | j
      · simp [cvarGo]
      · simp only [List.take_succ_cons, cvarGo, ofNat_toNat (show n % 128 + 128 < 256 by omega)]
        rw [if_neg (by omega), if_neg (by omega)]
        have hp : 2 ^ (64 - 7 * k) = 128 * 2 ^ (64 - 7 * (k + 1)) := by
          rw [show 64 - 7 * k = 7 + (64 - 7 * (k + 1)) by omega, Nat.pow_add]
        exact ih (k + 1) _ (n / 128) j (by omega) (by rw [Nat.div_lt_iff_lt_mul (by omega)]; rw [hp] at hn; rw [Nat.mul_comm]; exact hn) (by simpa using hj)

theorem cvar_torn {n j : Nat} (h : n < 2 ^ 64) (hj : j < (venc n).length) : cvar ((venc n).take j) = (0, -1) :=
  cvarGo_torn 9 0 0 n j rfl (by simpa using h) hj

end Wire
end Go.Proofs.YtcefcdmonfenoaaDoor

/- Multihashes: unsigned varints and what they lead; no program. -/
import Derived.Test.YtcefcdmonfenoaaDoorWire
namespace Go.Proofs.YtcefcdmonfenoaaDoor
namespace Mh
/-- an unsigned varint in the shortest form, up to nine bytes: its number, and how many bytes -/
def uvGo : Nat → Nat → List UInt8 → Option (Nat × Nat)
  | _, _, [] => none
  | i, acc, b :: l => if 9 ≤ i ∨ (i = 8 ∧ 128 ≤ b.toNat) then none
    else if b.toNat < 128 then (if b.toNat = 0 ∧ 0 < i then none else some (acc + b.toNat * 2 ^ (7 * i), i + 1))
    else uvGo (i + 1) (acc + (b.toNat - 128) * 2 ^ (7 * i)) l
def uv (l : List UInt8) : Option (Nat × Nat) := uvGo 0 0 l
theorem uvGo_nil (i acc : Nat) : uvGo i acc [] = none := rfl
theorem uvGo_over {i acc : Nat} {b : UInt8} {l : List UInt8} (h : 9 ≤ i ∨ (i = 8 ∧ 128 ≤ b.toNat)) : uvGo i acc (b :: l) = none := by
  unfold uvGo; rw [if_pos h]
theorem uvGo_zero {i acc : Nat} {b : UInt8} {l : List UInt8} (h : ¬ (9 ≤ i ∨ (i = 8 ∧ 128 ≤ b.toNat))) (hb : b.toNat = 0) (hi : 0 < i) : uvGo i acc (b :: l) = none := by
  unfold uvGo; rw [if_neg h, if_pos (by omega), if_pos ⟨hb, hi⟩]
theorem uvGo_end {i acc : Nat} {b : UInt8} {l : List UInt8} (h : ¬ (9 ≤ i ∨ (i = 8 ∧ 128 ≤ b.toNat))) (hb : b.toNat < 128) (hz : ¬ (b.toNat = 0 ∧ 0 < i)) : uvGo i acc (b :: l) = some (acc + b.toNat * 2 ^ (7 * i), i + 1) := by
  unfold uvGo; rw [if_neg h, if_pos hb, if_neg hz]
theorem uvGo_next {i acc : Nat} {b : UInt8} {l : List UInt8} (h : ¬ (9 ≤ i ∨ (i = 8 ∧ 128 ≤ b.toNat))) (hb : ¬ b.toNat < 128) : uvGo i acc (b :: l) = uvGo (i + 1) (acc + (b.toNat - 128) * 2 ^ (7 * i)) l := by
  conv => lhs; unfold uvGo
  rw [if_neg h, if_neg hb]
theorem uvGo_some : ∀ {l : List UInt8} {i acc x n : Nat}, acc < 2 ^ (7 * i) → uvGo i acc l = some (x, n) → i < n ∧ n ≤ i + l.length ∧ n ≤ 9 ∧ x < 2 ^ (7 * n) := by
  intro l
  induction l with
  | nil => intro i acc x n _ h; cases h
  | cons b l ih =>
    intro i acc x n hacc h
    have hb := UInt8.toNat_lt b
    have hp : 0 < 2 ^ (7 * i) := Nat.pow_pos (by omega)
    have e7 : 2 ^ (7 * (i + 1)) = 2 ^ (7 * i) * 128 := by rw [Nat.mul_add, Nat.pow_add]
    unfold uvGo at h
    split at h
    · cases h
    · next h1 =>
      split at h
      · next h2 =>
        split at h
        · cases h
        · injection h with h
          injection h with e1 e2
          subst e1 e2
          refine ⟨by omega, by simp, by omega, ?_⟩
          rw [e7]
          have : b.toNat * 2 ^ (7 * i) ≤ 127 * 2 ^ (7 * i) := Nat.mul_le_mul_right _ (by omega)
          omega
      · next h2 =>
        have := ih (i := i + 1) (acc := acc + (b.toNat - 128) * 2 ^ (7 * i)) (by
          rw [e7]
          have : (b.toNat - 128) * 2 ^ (7 * i) ≤ 127 * 2 ^ (7 * i) := Nat.mul_le_mul_right _ (by omega)
          omega) h
        refine ⟨by omega, by simp; omega, this.2.2.1, this.2.2.2⟩
theorem uv_some {l : List UInt8} {x n : Nat} (h : uv l = some (x, n)) : 0 < n ∧ n ≤ l.length ∧ n ≤ 9 ∧ x < 2 ^ 63 := by
  obtain ⟨h1, h2, h3, h4⟩ := uvGo_some (by simp) h
  refine ⟨h1, by omega, h3, Nat.lt_of_lt_of_le h4 (Nat.pow_le_pow_right (by omega) (by omega))⟩
/-- what a multihash's bytes tell: how long it is, its number, its digest -/
def read (l : List UInt8) : Option (Nat × Nat × List UInt8) :=
  if l.length < 2 then none else
  match uv l with
  | none => none
  | some (code, n) => match uv (l.drop n) with
    | none => none
    | some (len, m) => if 2147483647 < len then none else if ((l.drop n).drop m).length < len then none else some (n + m + len, code, ((l.drop n).drop m).take len)
/-- bytes are a multihash -/
def ok (l : List UInt8) : Bool := match read l with
  | none => false
  | some (r, _, _) => decide (l.length = r)
section
variable {l : List UInt8} {code n len m : Nat}
theorem read_short (h : l.length < 2) : read l = none := by unfold read; rw [if_pos h]
theorem read_bad (h : ¬ l.length < 2) (h1 : uv l = none) : read l = none := by unfold read; rw [if_neg h, h1]
theorem read_bad2 (h : ¬ l.length < 2) (h1 : uv l = some (code, n)) (h2 : uv (l.drop n) = none) : read l = none := by unfold read; rw [if_neg h, h1]; simp only [h2]
theorem read_big (h : ¬ l.length < 2) (h1 : uv l = some (code, n)) (h2 : uv (l.drop n) = some (len, m)) (h3 : 2147483647 < len) : read l = none := by unfold read; rw [if_neg h, h1]; simp only [h2]; rw [if_pos h3]
theorem read_less (h : ¬ l.length < 2) (h1 : uv l = some (code, n)) (h2 : uv (l.drop n) = some (len, m)) (h3 : ¬ 2147483647 < len) (h4 : ((l.drop n).drop m).length < len) : read l = none := by unfold read; rw [if_neg h, h1]; simp only [h2]; rw [if_neg h3, if_pos h4]
theorem read_some (h : ¬ l.length < 2) (h1 : uv l = some (code, n)) (h2 : uv (l.drop n) = some (len, m)) (h3 : ¬ 2147483647 < len) (h4 : ¬ ((l.drop n).drop m).length < len) : read l = some (n + m + len, code, ((l.drop n).drop m).take len) := by unfold read; rw [if_neg h, h1]; simp only [h2]; rw [if_neg h3, if_neg h4]
end
end Mh
end Go.Proofs.YtcefcdmonfenoaaDoor

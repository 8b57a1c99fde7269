/- Base 58: the plain text of bytes; no program. -/
import Derived.Test.YtcefcdmonfenoaaDoorWire
namespace Go.Proofs.YtcefcdmonfenoaaDoor
namespace B58
/-- the number that bytes tell, the greatest ahead; the same of digits to the base of 58 -/
def num (l : List UInt8) : Nat := l.foldl (fun a c => a * 256 + c.toNat) 0
def val (ds : List UInt8) : Nat := ds.foldl (fun a d => a * 58 + d.toNat) 0
theorem num_nil : num [] = 0 := rfl
theorem num_snoc (l : List UInt8) (c : UInt8) : num (l ++ [c]) = num l * 256 + c.toNat := by simp [num, List.foldl_append]
theorem val_snoc (l : List UInt8) (c : UInt8) : val (l ++ [c]) = val l * 58 + c.toNat := by simp [val, List.foldl_append]
theorem val_go (ds : List UInt8) : ∀ a, ds.foldl (fun a d => a * 58 + d.toNat) a = a * 58 ^ ds.length + val ds := by
  induction ds with
  | nil => intro a; simp [val]
  | cons d ds ih =>
    intro a
    unfold val
    rw [List.foldl_cons, List.foldl_cons, ih, ih (0 * 58 + d.toNat), List.length_cons, Nat.pow_succ, Nat.add_mul]
    have : a * 58 * 58 ^ ds.length = a * (58 ^ ds.length * 58) := by rw [Nat.mul_assoc, Nat.mul_comm 58]
    rw [this, Nat.add_assoc]
    simp
theorem val_cons (d : UInt8) (ds : List UInt8) : val (d :: ds) = d.toNat * 58 ^ ds.length + val ds := by
  unfold val; rw [List.foldl_cons, val_go]; simp [val]
theorem num_go (l : List UInt8) : ∀ a, l.foldl (fun a d => a * 256 + d.toNat) a = a * 256 ^ l.length + num l := by
  induction l with
  | nil => intro a; simp [num]
  | cons d l ih =>
    intro a
    unfold num
    rw [List.foldl_cons, List.foldl_cons, ih, ih (0 * 256 + d.toNat), List.length_cons, Nat.pow_succ, Nat.add_mul]
    have : a * 256 * 256 ^ l.length = a * (256 ^ l.length * 256) := by rw [Nat.mul_assoc, Nat.mul_comm 256]
    rw [this, Nat.add_assoc]
    simp
theorem num_cons (d : UInt8) (l : List UInt8) : num (d :: l) = d.toNat * 256 ^ l.length + num l := by
  unfold num; rw [List.foldl_cons, num_go]; simp [num]
theorem num_lt (l : List UInt8) : num l < 256 ^ l.length := by
  induction l with
  | nil => simp [num]
  | cons d l ih =>
    rw [num_cons, List.length_cons, Nat.pow_succ]
    have hd := UInt8.toNat_lt d
    have : d.toNat * 256 ^ l.length ≤ 255 * 256 ^ l.length := Nat.mul_le_mul_right _ (by omega)
    omega
/-- digits that are below 58 -/
def Dig (ds : List UInt8) : Prop := ∀ d ∈ ds, d.toNat < 58
theorem val_lt {ds : List UInt8} (h : Dig ds) : val ds < 58 ^ ds.length := by
  induction ds with
  | nil => simp [val]
  | cons d ds ih =>
    rw [val_cons, List.length_cons, Nat.pow_succ]
    have hd := h d (by simp)
    have h2 := ih fun x hx => h x (by simp [hx])
    have : d.toNat * 58 ^ ds.length ≤ 57 * 58 ^ ds.length := Nat.mul_le_mul_right _ (by omega)
    omega
/-- the digits of a number, without zeros ahead -/
def dig (n : Nat) : List UInt8 := if _h : n = 0 then [] else dig (n / 58) ++ [UInt8.ofNat (n % 58)]
termination_by n
decreasing_by omega
theorem dig_zero : dig 0 = [] := by unfold dig; simp
theorem dig_pos {n : Nat} (h : n ≠ 0) : dig n = dig (n / 58) ++ [UInt8.ofNat (n % 58)] := by
  conv => lhs; unfold dig
  rw [dif_neg h]
theorem toNat_mod (n : Nat) : (UInt8.ofNat (n % 58)).toNat = n % 58 := by
  rw [UInt8.toNat_ofNat']; omega
theorem dig_spec (n : Nat) : Dig (dig n) ∧ val (dig n) = n ∧ n < 58 ^ (dig n).length ∧ (n ≠ 0 → 58 ^ ((dig n).length - 1) ≤ n) := by
  induction n using Nat.strongRecOn with
  | ind n ih =>
    by_cases h : n = 0
    · subst h; rw [dig_zero]; exact ⟨fun d hd => by simp at hd, rfl, by simp, fun h => absurd rfl h⟩
    · obtain ⟨h1, h2, h3, h4⟩ := ih (n / 58) (by omega)
      rw [dig_pos h]
      refine ⟨fun d hd => ?_, ?_, ?_, fun _ => ?_⟩
      · rcases List.mem_append.1 hd with hd | hd
        · exact h1 d hd
        · obtain rfl : d = UInt8.ofNat (n % 58) := by simpa using hd
          rw [toNat_mod]; omega
      · rw [val_snoc, h2, toNat_mod]; omega
      · rw [List.length_append, List.length_singleton, Nat.pow_succ]
        omega
      · rw [List.length_append, List.length_singleton, Nat.add_sub_cancel]
        by_cases h0 : n / 58 = 0
        · rw [h0, dig_zero]; simp; omega
        · have h5 := h4 h0
          have hl : 0 < (dig (n / 58)).length := by rw [dig_pos h0]; simp
          obtain ⟨m, hm⟩ : ∃ m, (dig (n / 58)).length = m + 1 := ⟨(dig (n / 58)).length - 1, by omega⟩
          rw [hm] at h5 ⊢
          rw [Nat.add_sub_cancel] at h5
          rw [Nat.pow_succ]
          omega
theorem ofNat_toNat (d : UInt8) : UInt8.ofNat d.toNat = d := by simp
/-- a list of digits whose number has that many digits -/
theorem dig_of_len : ∀ (L : Nat) (ds : List UInt8), ds.length = L → Dig ds → (ds ≠ [] → 58 ^ (L - 1) ≤ val ds) → ds = dig (val ds) := by
  intro L
  induction L with
  | zero =>
    intro ds hl _ _
    obtain rfl := List.length_eq_zero_iff.1 hl
    show [] = dig 0
    rw [dig_zero]
  | succ L ih =>
    intro ds hl hd hv
    have hne : ds ≠ [] := by intro h; subst h; simp at hl
    obtain ⟨r, d, rfl⟩ : ∃ r d, ds = r ++ [d] := ⟨_, _, (List.dropLast_concat_getLast hne).symm⟩
    have hv := hv hne
    rw [List.length_append, List.length_singleton] at hl
    have hl' : r.length = L := by omega
    have hdd : d.toNat < 58 := hd d (by simp)
    rw [val_snoc] at hv ⊢
    rw [Nat.add_sub_cancel] at hv
    have hdiv : (val r * 58 + d.toNat) / 58 = val r := by omega
    have hmod : (val r * 58 + d.toNat) % 58 = d.toNat := by omega
    have hpos : 0 < 58 ^ L := Nat.pow_pos (by omega)
    have hr := ih r hl' (fun x hx => hd x (by simp [hx])) (fun hne' => by
      obtain ⟨m, rfl⟩ : ∃ m, L = m + 1 := ⟨L - 1, by have : r.length ≠ 0 := fun h => hne' (List.length_eq_zero_iff.1 h); omega⟩
      rw [Nat.pow_succ] at hv
      rw [Nat.add_sub_cancel]
      omega)
    rw [dig_pos (by omega), hdiv, hmod, ofNat_toNat, ← hr]
/-- digits behind those of a number -/
theorem dig_append {n : Nat} (h : n ≠ 0) : ∀ (k : Nat) (ds : List UInt8), ds.length = k → Dig ds → dig (n * 58 ^ ds.length + val ds) = dig n ++ ds := by
  intro k
  induction k with
  | zero =>
    intro ds hl _
    obtain rfl := List.length_eq_zero_iff.1 hl
    simp [val]
  | succ k ih =>
    intro ds hl hd
    have hne : ds ≠ [] := by intro h; subst h; simp at hl
    obtain ⟨r, d, rfl⟩ : ∃ r d, ds = r ++ [d] := ⟨_, _, (List.dropLast_concat_getLast hne).symm⟩
    rw [List.length_append, List.length_singleton] at hl ⊢
    have hdd : d.toNat < 58 := hd d (by simp)
    have hr := ih r (by omega) (fun x hx => hd x (by simp [hx]))
    have e : n * 58 ^ (r.length + 1) + val (r ++ [d]) = (n * 58 ^ r.length + val r) * 58 + d.toNat := by
      rw [val_snoc, Nat.pow_succ, Nat.add_mul, Nat.mul_assoc]; omega
    have hp : 0 < n * 58 ^ r.length := Nat.mul_pos (by omega) (Nat.pow_pos (by omega))
    rw [e, dig_pos (by omega), show ((n * 58 ^ r.length + val r) * 58 + d.toNat) / 58 = n * 58 ^ r.length + val r by omega, hr, show ((n * 58 ^ r.length + val r) * 58 + d.toNat) % 58 = d.toNat by omega, ofNat_toNat, List.append_assoc]

/-- one byte more, from the last digit on: the new digits, and what is carried -/
def step : List UInt8 → Nat → List UInt8 × Nat
  | [], c => ([], c)
  | d :: ds, c => (UInt8.ofNat (((step ds c).2 + d.toNat * 256) % 58) :: (step ds c).1, ((step ds c).2 + d.toNat * 256) / 58)
theorem step_length (ds : List UInt8) (c : Nat) : (step ds c).1.length = ds.length := by
  induction ds with
  | nil => rfl
  | cons d ds ih => simp [step, ih]
theorem step_dig (ds : List UInt8) (c : Nat) : Dig (step ds c).1 := by
  induction ds with
  | nil => intro d hd; simp [step] at hd
  | cons d ds ih =>
    intro x hx
    rcases List.mem_cons.1 hx with rfl | hx
    · rw [toNat_mod]; omega
    · exact ih x hx
theorem step_val (ds : List UInt8) (c : Nat) : (step ds c).2 * 58 ^ ds.length + val (step ds c).1 = val ds * 256 + c := by
  induction ds with
  | nil => simp [step, val]
  | cons d ds ih =>
    unfold step
    simp only [val_cons, toNat_mod, step_length, List.length_cons]
    have hdm := Nat.div_add_mod ((step ds c).2 + d.toNat * 256) 58
    generalize ((step ds c).2 + d.toNat * 256) / 58 = q at *
    generalize ((step ds c).2 + d.toNat * 256) % 58 = r at *
    have h1 : q * 58 ^ (ds.length + 1) + (r * 58 ^ ds.length + val (step ds c).1) = (58 * q + r) * 58 ^ ds.length + val (step ds c).1 := by
      rw [Nat.pow_succ, Nat.add_mul, ← Nat.mul_assoc, Nat.add_assoc]
      congr 1
      rw [Nat.mul_right_comm, Nat.mul_comm q 58]
    rw [h1, hdm, Nat.add_mul, Nat.add_mul]
    have h2 : d.toNat * 256 * 58 ^ ds.length = d.toNat * 58 ^ ds.length * 256 := Nat.mul_right_comm _ _ _
    omega
theorem step_le {ds : List UInt8} (h : Dig ds) {c : Nat} (hc : c ≤ 255) : (step ds c).2 ≤ 255 := by
  induction ds with
  | nil => exact hc
  | cons d ds ih =>
    have h1 := ih fun x hx => h x (by simp [hx])
    have h2 := h d (by simp)
    show ((step ds c).2 + d.toNat * 256) / 58 ≤ 255
    omega
theorem step_append (a b : List UInt8) (c : Nat) : step (a ++ b) c = ((step a (step b c).2).1 ++ (step b c).1, (step a (step b c).2).2) := by
  induction a with
  | nil => rfl
  | cons d a ih => simp only [List.cons_append, step, ih]
theorem step_zeros (n : Nat) : step (List.replicate n 0) 0 = (List.replicate n 0, 0) := by
  induction n with
  | zero => rfl
  | succ n ih => rw [List.replicate_succ]; simp only [step, ih]; rfl
/-- the reference's step: the digits of the number with one byte more -/
theorem dig_step (m c : Nat) : dig (m * 256 + c) = dig (step (dig m) c).2 ++ (step (dig m) c).1 := by
  obtain ⟨h1, h2, h3, h4⟩ := dig_spec m
  have hv := step_val (dig m) c
  rw [h2] at hv
  by_cases hk : (step (dig m) c).2 = 0
  · rw [hk, dig_zero, List.nil_append]
    rw [hk, Nat.zero_mul, Nat.zero_add] at hv
    have hd := dig_of_len _ _ rfl (step_dig (dig m) c) (fun hne => by
      rw [step_length, hv]
      have hm : m ≠ 0 := by
        intro h0; subst h0; rw [dig_zero] at hne; exact hne rfl
      have := h4 hm
      omega)
    rw [hv] at hd
    exact hd.symm
  · rw [← dig_append hk _ _ rfl (step_dig (dig m) c), step_length, hv]

/-- the digits' letters -/
def alpha : List UInt8 := [49, 50, 51, 52, 53, 54, 55, 56, 57, 65, 66, 67, 68, 69, 70, 71, 72, 74, 75, 76, 77, 78, 80, 81, 82, 83, 84, 85, 86, 87, 88, 89, 90, 97, 98, 99, 100, 101, 102, 103, 104, 105, 106, 107, 109, 110, 111, 112, 113, 114, 115, 116, 117, 118, 119, 120, 121, 122]
def letter (d : UInt8) : UInt8 := alpha.getD d.toNat 0
/-- how many zeros stand ahead -/
def zeros (l : List UInt8) : Nat := (l.takeWhile (· == 0)).length
theorem zeros_le (l : List UInt8) : zeros l ≤ l.length := by unfold zeros; exact (List.takeWhile_sublist _).length_le
theorem zeros_take (l : List UInt8) : l.take (zeros l) = List.replicate (zeros l) 0 := by
  unfold zeros
  induction l with
  | nil => rfl
  | cons a l ih =>
    by_cases h : a = 0
    · subst h; simp [List.replicate_succ, ih]
    · simp [h]
theorem zeros_next {l : List UInt8} {k : Nat} (hk : k < l.length) (hz : l.take k = List.replicate k 0) (h : l[k] ≠ 0) : zeros l = k := by
  have e : l = List.replicate k 0 ++ l[k] :: l.drop (k + 1) := by rw [← hz, ← List.drop_eq_getElem_cons hk, List.take_append_drop]
  have hw : l.takeWhile (· == 0) = List.replicate k 0 := by
    conv => lhs; rw [e]
    rw [List.takeWhile_append_of_pos (by intro x hx; rw [(List.mem_replicate.1 hx).2]; rfl)]
    rw [List.takeWhile_cons_of_neg (by simpa using h), List.append_nil]
  unfold zeros
  rw [hw, List.length_replicate]
theorem zeros_all {l : List UInt8} (hz : l.take l.length = List.replicate l.length 0) : zeros l = l.length := by
  rw [List.take_length] at hz
  unfold zeros
  conv => lhs; rw [hz]
  simp
theorem num_zeros (k : Nat) (l : List UInt8) : num (List.replicate k 0 ++ l) = num l := by
  induction k with
  | zero => rfl
  | succ k ih => rw [List.replicate_succ, List.cons_append, num_cons, ih]; simp
theorem num_drop (l : List UInt8) : num (l.drop (zeros l)) = num l := by
  conv => rhs; rw [← List.take_append_drop (zeros l) l, zeros_take, num_zeros]
/-- the text of bytes -/
def enc (l : List UInt8) : List UInt8 := List.replicate (zeros l) 49 ++ (dig (num l)).map letter

/-- enough digits -/
theorem room (n : Nat) : 256 ^ n ≤ 58 ^ (n * 138 / 100 + 1) := by
  have h1 : (256 : Nat) ^ 100 ≤ 58 ^ 138 := by decide
  have h3 : (256 ^ n) ^ 100 = (256 ^ 100) ^ n := by rw [← Nat.pow_mul, ← Nat.pow_mul, Nat.mul_comm]
  have h4 : (58 ^ 138) ^ n ≤ (58 ^ (n * 138 / 100 + 1)) ^ 100 := by
    rw [← Nat.pow_mul, ← Nat.pow_mul]
    exact Nat.pow_le_pow_right (by omega) (by omega)
  have h2 : (256 ^ n) ^ 100 ≤ (58 ^ (n * 138 / 100 + 1)) ^ 100 := h3 ▸ Nat.le_trans (Nat.pow_le_pow_left h1 n) h4
  exact (Nat.pow_le_pow_iff_left (by omega)).1 h2
theorem num_room (l : List UInt8) : num l < 58 ^ (l.length * 138 / 100 + 1) := Nat.lt_of_lt_of_le (num_lt l) (room _)
theorem num_take_le (l : List UInt8) (k : Nat) : num (l.take k) ≤ num l := by
  conv => rhs; rw [← List.take_append_drop k l]
  generalize l.take k = a
  generalize l.drop k = b
  have e : num (a ++ b) = num a * 256 ^ b.length + num b := by
    rw [← num_go b (num a)]; unfold num; rw [List.foldl_append]
  rw [e]
  have : 0 < 256 ^ b.length := Nat.pow_pos (by omega)
  exact Nat.le_trans (Nat.le_mul_of_pos_right _ this) (Nat.le_add_right _ _)
theorem num_succ {l : List UInt8} {k : Nat} (h : k < l.length) : num (l.take (k + 1)) = num (l.take k) * 256 + l[k].toNat := by
  rw [List.take_succ_eq_append_getElem h, num_snoc]
/-- a list of digits with zeros ahead -/
theorem dig_lead {ds : List UInt8} (h : Dig ds) {j : Nat} (hz : ds.take j = List.replicate j 0) (_hj : j ≤ ds.length) (hn : ∀ (hlt : j < ds.length), ds[j] ≠ 0) : ds.drop j = dig (val ds) := by
  have hv : val ds = val (ds.drop j) := by
    conv => lhs; rw [← List.take_append_drop j ds, hz]
    clear hn hz _hj
    generalize ds.drop j = b
    induction j with
    | zero => rfl
    | succ j ih => rw [List.replicate_succ, List.cons_append, val_cons, ih]; simp
  rw [hv]
  refine dig_of_len _ _ rfl (fun x hx => h x (List.mem_of_mem_drop hx)) (fun hne => ?_)
  have hlt : j < ds.length := by
    rcases Nat.lt_or_ge j ds.length with h | h
    · exact h
    · exact absurd (List.drop_eq_nil_of_le h) hne
  have e : ds.drop j = ds[j] :: ds.drop (j + 1) := List.drop_eq_getElem_cons hlt
  rw [e, val_cons, List.length_cons, Nat.add_sub_cancel]
  have : 0 < ds[j].toNat := Nat.pos_of_ne_zero fun h0 => hn hlt (UInt8.toNat_inj.1 h0)
  exact Nat.le_trans (Nat.le_mul_of_pos_left _ this) (Nat.le_add_right _ _)
end B58
end Go.Proofs.YtcefcdmonfenoaaDoor

/- Base 58's text told back: words, bytes, digits; plain lists, no program. -/
import Derived.Test.YteodhonipbdplaaGreatDoorMd08
import Derived.Test.YteodhonipbdplaaGreatDoorMd10
import Derived.Laws.IdiomStrings
import Derived.Laws.RangeString
namespace Go.Proofs.YteodhonipbdplaaGreatDoor
namespace B58
/-- the greatest word and one -/
def W32 : Nat := 4294967296
theorem W32_eq : W32 = 256 ^ 4 := by decide
/-- n bytes of a number, the greatest ahead -/
def be : Nat → Nat → List UInt8
  | 0, _ => []
  | n + 1, V => be n (V / 256) ++ [UInt8.ofNat (V % 256)]
theorem be_length : ∀ (n V : Nat), (be n V).length = n
  | 0, _ => rfl
  | n + 1, V => by rw [be, List.length_append, be_length n]; rfl
theorem be_get : ∀ (n V i : Nat) (h : i < n), (be n V)[i]'(by rw [be_length]; exact h) = UInt8.ofNat (V / 256 ^ (n - 1 - i) % 256)
  | n + 1, V, i, h => by
    simp only [be]
    by_cases hi : i < n
    · rw [List.getElem_append_left (by rw [be_length]; exact hi), be_get n (V / 256) i hi, Nat.div_div_eq_div_mul, show 256 * 256 ^ (n - 1 - i) = 256 ^ (n + 1 - 1 - i) by rw [Nat.mul_comm, ← Nat.pow_succ]; congr 1; omega]
    · obtain rfl : i = n := by omega
      rw [List.getElem_append_right (by rw [be_length]; omega)]
      simp [be_length]
theorem be_zero : ∀ n : Nat, be n 0 = List.replicate n 0
  | 0 => rfl
  | n + 1 => by rw [be, Nat.zero_div, be_zero n, List.replicate_succ']; rfl
theorem be_pad (k : Nat) (l : List UInt8) : be (k + l.length) (num l) = List.replicate k 0 ++ l := by
  induction hn : l.length generalizing l with
  | zero =>
    obtain rfl := List.length_eq_zero_iff.1 hn
    rw [num_nil, be_zero]
    simp
  | succ n ih =>
    have hne : l ≠ [] := by intro h; subst h; simp at hn
    obtain ⟨r, d, rfl⟩ : ∃ r d, l = r ++ [d] := ⟨_, _, (List.dropLast_concat_getLast hne).symm⟩
    rw [List.length_append, List.length_singleton] at hn
    have hd := UInt8.toNat_lt d
    rw [← Nat.add_assoc, be, num_snoc, show (num r * 256 + d.toNat) / 256 = num r by omega, show (num r * 256 + d.toNat) % 256 = d.toNat by omega, ih r (by omega), ofNat_toNat, List.append_assoc]
/-- word j of n -/
def wd (n V j : Nat) : Nat := V / W32 ^ (n - 1 - j) % W32
theorem wd_lt (n V j : Nat) : wd n V j < W32 := Nat.mod_lt _ (by decide)
/-- the words with those from j on turned -/
def mix (n V V' j : Nat) : List Nat := (List.range n).map fun i => if i < j then wd n V i else wd n V' i
theorem mix_length (n V V' j : Nat) : (mix n V V' j).length = n := by simp [mix]
theorem mix_get {n V V' j i : Nat} (h : i < n) : (mix n V V' j)[i]'(by rw [mix_length]; exact h) = if i < j then wd n V i else wd n V' i := by simp [mix]
theorem mix_full (n V V' : Nat) : mix n V V' n = mix n V V 0 := by
  apply List.ext_getElem (by rw [mix_length, mix_length])
  intro i h1 h2
  rw [mix_length] at h1
  rw [mix_get h1, mix_get h1, if_pos h1, if_neg (by omega)]
theorem mix_end (n V V' : Nat) : mix n V V' 0 = mix n V' V' 0 := by
  apply List.ext_getElem (by rw [mix_length, mix_length])
  intro i h1 h2
  rw [mix_length] at h1
  rw [mix_get h1, mix_get h1]
  simp
theorem mix_set {n V V' j : Nat} : (mix n V V' (j + 1)).set j (wd n V' j) = mix n V V' j := by
  apply List.ext_getElem (by rw [List.length_set, mix_length, mix_length])
  intro i h1 h2
  rw [mix_length] at h2
  rw [List.getElem_set, mix_get h2]
  by_cases hij : j = i
  · subst hij; rw [if_pos rfl]; rw [mix_get h2, if_neg (by omega)]
  · rw [if_neg hij, mix_get h2]
    by_cases h : i < j
    · rw [if_pos (by omega), if_pos h]
    · rw [if_neg (by omega), if_neg h]
theorem mix_zero (n : Nat) : mix n 0 0 0 = List.replicate n 0 := by
  apply List.ext_getElem (by rw [mix_length, List.length_replicate])
  intro i h1 h2
  rw [mix_length] at h1
  rw [mix_get h1]
  simp [wd]
/-- what is carried when j words are still to come -/
def cy (n V d j : Nat) : Nat := (V % W32 ^ (n - j) * 58 + d) / W32 ^ (n - j)
theorem cy_start (n V d : Nat) : cy n V d n = d := by unfold cy; rw [Nat.sub_self, Nat.pow_zero, Nat.mod_one]; omega
theorem cy_le {n V d j : Nat} (hd : d < 58) : cy n V d j ≤ 57 := by
  unfold cy
  have hp : 0 < W32 ^ (n - j) := Nat.pow_pos (by decide)
  have hm := Nat.mod_lt V hp
  generalize W32 ^ (n - j) = B at *
  have : V % B * 58 + d < 58 * B := by
    have : V % B * 58 ≤ (B - 1) * 58 := Nat.mul_le_mul_right _ (by omega)
    have h2 : (B - 1) * 58 + 58 = 58 * B := by rw [Nat.mul_comm 58, ← Nat.succ_mul]; congr 1; omega
    omega
  have := (Nat.div_lt_iff_lt_mul hp).2 this
  omega
theorem cy_step {n V d j : Nat} (hj : j < n) : (wd n V j * 58 + cy n V d (j + 1)) / W32 = cy n V d j ∧ (wd n V j * 58 + cy n V d (j + 1)) % W32 = wd n (V * 58 + d) j := by
  obtain ⟨m, hm⟩ : ∃ m, m = n - (j + 1) := ⟨_, rfl⟩
  have e1 : n - 1 - j = m := by omega
  have e2 : n - j = m + 1 := by omega
  unfold wd cy
  rw [e1, e2, ← hm]
  have hp : 0 < W32 ^ m := Nat.pow_pos (by decide)
  rw [Nat.pow_succ]
  generalize W32 ^ m = B at *
  generalize hW : W32 = U at *
  have hU : 0 < U := by rw [← hW]; decide
  -- V = (q * U + x) * B + r
  obtain ⟨r, hr⟩ : ∃ r, r = V % B := ⟨_, rfl⟩
  obtain ⟨y, hy⟩ : ∃ y, y = V / B := ⟨_, rfl⟩
  have hV : V = B * y + r := by rw [hr, hy]; exact (Nat.div_add_mod V B).symm
  obtain ⟨x, hx⟩ : ∃ x, x = y % U := ⟨_, rfl⟩
  obtain ⟨q, hq⟩ : ∃ q, q = y / U := ⟨_, rfl⟩
  have hyq : y = U * q + x := by rw [hx, hq]; exact (Nat.div_add_mod y U).symm
  have hrB : r < B := by rw [hr]; exact Nat.mod_lt _ hp
  have hxU : x < U := by rw [hx]; exact Nat.mod_lt _ hU
  have hmod : V % (B * U) = B * x + r := by
    rw [hV, hyq, Nat.mul_add, ← Nat.mul_assoc, Nat.add_assoc, Nat.mul_add_mod]
    apply Nat.mod_eq_of_lt
    have h1 : B * x + r < B * (x + 1) := by rw [Nat.mul_succ]; omega
    exact Nat.lt_of_lt_of_le h1 (Nat.mul_le_mul_left B hxU)
  rw [hmod, ← hr, ← hy, ← hx]
  -- t = x * 58 + (r * 58 + d) / B
  have ht : (B * x + r) * 58 + d = B * (x * 58) + (r * 58 + d) := by rw [Nat.add_mul, Nat.mul_assoc]; omega
  have ht2 : ((B * x + r) * 58 + d) / B = x * 58 + (r * 58 + d) / B := by rw [ht, Nat.mul_add_div hp]
  constructor
  · rw [← ht2, Nat.div_div_eq_div_mul]
  · have hV' : (V * 58 + d) / B = y * 58 + (r * 58 + d) / B := by
      rw [hV, show (B * y + r) * 58 + d = B * (y * 58) + (r * 58 + d) by rw [Nat.add_mul, Nat.mul_assoc]; omega, Nat.mul_add_div hp]
    rw [hV', hyq, show (U * q + x) * 58 + (r * 58 + d) / B = U * (q * 58) + (x * 58 + (r * 58 + d) / B) by rw [Nat.add_mul, Nat.mul_assoc]; omega, Nat.mul_add_mod]
theorem cy_end {n V d : Nat} (h : V * 58 + d < W32 ^ n) : cy n V d 0 = 0 := by
  unfold cy
  rw [Nat.sub_zero, Nat.mod_eq_of_lt (by omega), Nat.div_eq_of_lt h]
/-- a byte of a word is a byte of the number -/
theorem wd_byte {n V j N c k : Nat} (hk : k ≤ 3) (_hj : j < n) (hN : N = c + 1 + 4 * (n - 1 - j) + k) : wd n V j / 256 ^ k % 256 = V / 256 ^ (N - 1 - c) % 256 := by
  have e : N - 1 - c = 4 * (n - 1 - j) + k := by omega
  unfold wd
  rw [e, Nat.pow_add, Nat.pow_mul, ← W32_eq, ← Nat.div_div_eq_div_mul]
  generalize V / W32 ^ (n - 1 - j) = X
  unfold W32
  rcases (by omega : k = 0 ∨ k = 1 ∨ k = 2 ∨ k = 3) with rfl | rfl | rfl | rfl <;> simp only [Nat.reducePow] <;> omega
/-- the first word has few bytes -/
theorem wd_first {n V b : Nat} (_hn : 0 < n) (_hb : b ≤ 4) (h : V < 256 ^ (4 * (n - 1) + b)) : wd n V 0 < 256 ^ b := by
  unfold wd
  refine Nat.lt_of_le_of_lt (Nat.mod_le _ _) ?_
  rw [Nat.sub_zero, W32_eq, ← Nat.pow_mul]
  rw [Nat.pow_add] at h
  exact Nat.div_lt_of_lt_mul h
/-- the text's digits: its zeros, and those of the number -/
def digs (l : List UInt8) : List UInt8 := List.replicate (zeros l) 0 ++ dig (num l)
theorem enc_digs (l : List UInt8) : enc l = (digs l).map letter := by unfold enc digs; rw [List.map_append, List.map_replicate]; rfl
theorem digs_dig (l : List UInt8) : Dig (digs l) := by
  intro d hd
  rcases List.mem_append.1 hd with h | h
  · rw [(List.mem_replicate.1 h).2]; decide
  · exact (dig_spec _).1 d h
theorem val_zeros (k : Nat) (ds : List UInt8) : val (List.replicate k 0 ++ ds) = val ds := by
  induction k with
  | zero => rfl
  | succ k ih => rw [List.replicate_succ, List.cons_append, val_cons, ih]; simp
theorem digs_val (l : List UInt8) : val (digs l) = num l := by unfold digs; rw [val_zeros, (dig_spec _).2.1]
theorem val_succ {ds : List UInt8} {k : Nat} (h : k < ds.length) : val (ds.take (k + 1)) = val (ds.take k) * 58 + ds[k].toNat := by
  rw [List.take_succ_eq_append_getElem h, val_snoc]
theorem val_small {ds : List UInt8} (h : Dig ds) {k N n : Nat} (hk : k ≤ ds.length) (hN : ds.length = N) (hn : N ≤ 4 * n) : val (ds.take k) < W32 ^ n ∧ val (ds.take k) < 256 ^ N := by
  have h1 := val_lt (ds := ds.take k) (fun d hd => h d (List.mem_of_mem_take hd))
  rw [List.length_take, Nat.min_eq_left hk] at h1
  have h2 : 58 ^ k ≤ 256 ^ k := Nat.pow_le_pow_left (by omega) k
  have h3 : 256 ^ k ≤ 256 ^ N := Nat.pow_le_pow_right (by omega) (by omega)
  have h4 : 256 ^ N ≤ 256 ^ (4 * n) := Nat.pow_le_pow_right (by omega) hn
  rw [Nat.pow_mul, ← W32_eq] at h4
  omega
theorem zeros_ne {l : List UInt8} (hlt : zeros l < l.length) : l[zeros l] ≠ 0 := by
  have e3 : ∀ m : List UInt8, (hm : (m.takeWhile (· == 0)).length < m.length) → m[(m.takeWhile (· == 0)).length] ≠ 0 := by
    intro m
    induction m with
    | nil => intro hm; simp at hm
    | cons a m ih =>
      intro hm
      by_cases h : a = 0
      · subst h
        have e : ((0 :: m : List UInt8).takeWhile (· == 0)).length = (m.takeWhile (· == 0)).length + 1 := by simp
        have hm2 : (m.takeWhile (· == 0)).length < m.length := by rw [e, List.length_cons] at hm; omega
        have := ih hm2
        simpa [e] using this
      · have e : ((a :: m : List UInt8).takeWhile (· == 0)).length = 0 := by simp [h]
        simpa [e] using h
  exact e3 l hlt
theorem zeros_lt {l : List UInt8} {i : Nat} (h : i < zeros l) : l[i]'(Nat.lt_of_lt_of_le h (zeros_le l)) = 0 := by
  have h1 := zeros_take l
  have h2 : (l.take (zeros l))[i]'(by rw [h1, List.length_replicate]; exact h) = 0 := by simp [h1]
  simpa using h2
/-- a number that is zero has zeros alone -/
theorem num_zero {l : List UInt8} (hz : num l = 0) : zeros l = l.length ∧ l = List.replicate l.length 0 := by
  have h0 := zeros_le l
  have h1 := num_drop l
  rw [hz] at h1
  have hl : zeros l = l.length := by
    by_cases hlt : zeros l < l.length
    · exfalso
      have e : l.drop (zeros l) = l[zeros l] :: l.drop (zeros l + 1) := List.drop_eq_getElem_cons hlt
      rw [e, num_cons] at h1
      have hp : 0 < 256 ^ (l.drop (zeros l + 1)).length := Nat.pow_pos (by omega)
      have h2 : l[zeros l].toNat * 256 ^ (l.drop (zeros l + 1)).length = 0 := by omega
      have h3 : l[zeros l].toNat = 0 := by
        rcases Nat.mul_eq_zero.1 h2 with h | h
        · exact h
        · omega
      exact zeros_ne hlt (UInt8.toNat_inj.1 h3)
    · omega
  refine ⟨hl, ?_⟩
  have := zeros_take l
  rw [hl, List.take_length] at this
  exact this
theorem digs_long (l : List UInt8) : l.length ≤ (digs l).length := by
  unfold digs
  rw [List.length_append, List.length_replicate]
  have h0 := zeros_le l
  by_cases hz : num l = 0
  · have := (num_zero hz).1
    omega
  · -- the number's bytes
    have h1 := num_drop l
    have hlt : zeros l < l.length := by
      rcases Nat.lt_or_ge (zeros l) l.length with h | h
      · exact h
      · rw [List.drop_of_length_le h] at h1; exact absurd h1.symm hz
    have e : l.drop (zeros l) = l[zeros l] :: l.drop (zeros l + 1) := List.drop_eq_getElem_cons hlt
    have hne : l[zeros l].toNat ≠ 0 := fun h3 => zeros_ne hlt (UInt8.toNat_inj.1 h3)
    have h2 : 256 ^ (l.length - zeros l - 1) ≤ num l := by
      rw [← h1, e, num_cons, List.length_drop, show l.length - (zeros l + 1) = l.length - zeros l - 1 by omega]
      exact Nat.le_trans (Nat.le_mul_of_pos_left _ (by omega)) (Nat.le_add_right _ _)
    have h3 := (dig_spec (num l)).2.2.1
    have h4 : 58 ^ (dig (num l)).length ≤ 256 ^ (dig (num l)).length := Nat.pow_le_pow_left (by omega) _
    have h5 : 256 ^ (l.length - zeros l - 1) < 256 ^ (dig (num l)).length := by omega
    have := (Nat.pow_lt_pow_iff_right (a := 256) (by omega)).1 h5
    omega
theorem enc_len (l : List UInt8) : (enc l).length = (digs l).length := by rw [enc_digs, List.length_map]
/-- the digits' letters ahead of the number's are ones; the next is none -/
theorem letter_inj {d : UInt8} (h : d.toNat < 58) (h49 : letter d = 49) : d = 0 := by
  have : ∀ k : Fin 58, alpha.getD k.val 0 = 49 → k.val = 0 := by decide
  have h2 := this ⟨d.toNat, h⟩ h49
  exact UInt8.toNat_inj.1 h2
theorem dig_head {n : Nat} (h : 0 < (dig n).length) : (dig n)[0] ≠ 0 := by
  obtain ⟨h1, h2, h3, h4⟩ := dig_spec n
  intro h0
  have hn : n ≠ 0 := by intro e; subst e; rw [dig_zero] at h; simp at h
  have h5 := h4 hn
  generalize dig n = ds at *
  cases ds with
  | nil => simp at h
  | cons d ds =>
    have hd : d = 0 := h0
    subst hd
    rw [val_cons, show (0 : UInt8).toNat = 0 from rfl, Nat.zero_mul, Nat.zero_add] at h2
    have h6 := val_lt (ds := ds) (fun x hx => h1 x (by simp [hx]))
    rw [List.length_cons, Nat.add_sub_cancel] at h5
    omega
theorem app_left {L A X : List UInt8} (e : L = A ++ X) {i : Nat} (h : i < L.length) (hA : i < A.length) : L[i] = A[i] := by subst e; rw [List.getElem_append_left hA]
theorem app_at {L A X : List UInt8} {i : Nat} (e : L = A ++ X) (hi : i = A.length) (h : i < L.length) (hX : 0 < X.length) : L[i] = X[0] := by subst e hi; rw [List.getElem_append_right (Nat.le_refl _)]; simp
theorem rep_get {M : List UInt8} {k n : Nat} {x : UInt8} (hM : M = List.replicate k x) (h : n < M.length) : M[n] = x := by subst hM; simp
theorem enc_one {l : List UInt8} {i : Nat} (hi : i < (enc l).length) (h : i < zeros l) : (enc l)[i] = 49 := by
  rw [app_left (show enc l = List.replicate (zeros l) 49 ++ (dig (num l)).map letter from rfl) hi (by simpa using h)]
  simp
theorem enc_next {l : List UInt8} (hi : zeros l < (enc l).length) : (enc l)[zeros l] ≠ 49 := by
  have hd : 0 < (dig (num l)).length := by
    have h2 : (enc l).length = zeros l + (dig (num l)).length := by unfold enc; rw [List.length_append, List.length_replicate, List.length_map]
    omega
  have e : (enc l)[zeros l] = letter ((dig (num l))[0]) := by
    rw [app_at (show enc l = List.replicate (zeros l) 49 ++ (dig (num l)).map letter from rfl) (by simp) hi (by simpa using hd)]
    simp
  rw [e]
  intro h
  exact dig_head hd (letter_inj ((dig_spec _).1 _ (List.getElem_mem hd)) h)
theorem enc_get {l : List UInt8} {i : Nat} (hi : i < (digs l).length) : (enc l)[i]'(by rw [enc_len]; exact hi) = letter (digs l)[i] := by
  simp [enc_digs]
theorem zeros_enc (l : List UInt8) : zeros l ≤ (enc l).length := by unfold enc; rw [List.length_append, List.length_replicate]; omega
/-- the row of bytes at the end, and its first byte that is no zero -/
theorem fin_row (l : List UInt8) : be (enc l).length (num l) = List.replicate ((enc l).length - l.length) 0 ++ l := by
  have h := digs_long l
  rw [← enc_len] at h
  have := be_pad ((enc l).length - l.length) l
  rw [Nat.sub_add_cancel h] at this
  exact this
theorem fin_first {l : List UInt8} {r n : Nat} (hn : n < (be (enc l).length (num l) ++ List.replicate r 0).length) (hz : (be (enc l).length (num l) ++ List.replicate r 0).take n = List.replicate n 0) (hne : (be (enc l).length (num l) ++ List.replicate r 0)[n] ≠ 0) :
    n = (enc l).length - l.length + zeros l ∧ n < (enc l).length := by
  have hlong := digs_long l
  rw [← enc_len] at hlong
  have e : ∀ L : List UInt8, L = List.replicate ((enc l).length - l.length) 0 ++ (l ++ List.replicate r 0) → (h1 : n < L.length) → L.take n = List.replicate n 0 → L[n] ≠ 0 → n = (enc l).length - l.length + zeros l ∧ n < (enc l).length := by
    intro L hL h1 h2 h3
    have z1 := zeros_next h1 h2 h3
    have z2 : zeros L = (enc l).length - l.length + zeros l := by
      by_cases hlt : zeros l < l.length
      · have hm : (enc l).length - l.length + zeros l < L.length := by rw [hL]; simp; omega
        refine zeros_next hm ?_ ?_
        · subst hL
          rw [List.take_append, List.length_replicate, List.take_of_length_le (by simp), Nat.add_sub_cancel_left, List.take_append_of_le_length (by omega), zeros_take, List.replicate_append_replicate]
        · subst hL
          rw [List.getElem_append_right (by simp), List.getElem_append_left (by simp; omega)]
          simpa using zeros_ne hlt
      · have hl := zeros_le l
        have hz0 : l = List.replicate l.length 0 := by have := zeros_take l; rw [show zeros l = l.length by omega, List.take_length] at this; exact this
        exfalso
        apply h3
        have hall : L = List.replicate L.length 0 := by
          have e5 : L = List.replicate ((enc l).length - l.length) 0 ++ (List.replicate l.length 0 ++ List.replicate r 0) := by rw [← hz0]; exact hL
          rw [e5, List.replicate_append_replicate, List.replicate_append_replicate, List.length_replicate]
        exact rep_get hall h1
    have z3 := zeros_le l
    have hzl : zeros l < l.length := by
      rcases Nat.lt_or_ge (zeros l) l.length with h | h
      · exact h
      · exfalso
        have hz0 : l = List.replicate l.length 0 := by have := zeros_take l; rw [show zeros l = l.length by omega, List.take_length] at this; exact this
        apply h3
        have e5 : L = List.replicate ((enc l).length - l.length) 0 ++ (List.replicate l.length 0 ++ List.replicate r 0) := by rw [← hz0]; exact hL
        rw [List.replicate_append_replicate, List.replicate_append_replicate] at e5
        exact rep_get e5 h1
    omega
  exact e _ (by rw [fin_row, List.append_assoc]) hn hz hne
theorem fin_none {l : List UInt8} {r : Nat} (hz : be (enc l).length (num l) ++ List.replicate r 0 = List.replicate ((enc l).length + r) 0) : (enc l).length = l.length := by
  have h0 : num l = 0 := by
    rw [fin_row, List.append_assoc] at hz
    have hall : ∀ x ∈ l, x = 0 := by
      intro x hx
      have : x ∈ List.replicate ((enc l).length + r) (0 : UInt8) := by rw [← hz]; simp [hx]
      exact (List.mem_replicate.1 this).2
    have hl : l = List.replicate l.length 0 := List.eq_replicate_iff.2 ⟨rfl, hall⟩
    have := num_zeros l.length []
    rw [List.append_nil, ← hl] at this
    exact this
  unfold enc
  rw [h0, dig_zero, (num_zero h0).1]
  simp
theorem fin_back (l : List UInt8) (r : Nat) : ((be (enc l).length (num l) ++ List.replicate r 0).drop ((enc l).length - l.length)).take l.length = l := by
  rw [fin_row, List.append_assoc, List.drop_left' (by simp), List.take_left' rfl]
/-- the row of bytes with one more -/
theorem row_next {L : List UInt8} {c M : Nat} {y : Nat} (hc : c < L.length) (hM : L.length ≤ M) (hy : L[c] = UInt8.ofNat (y % 256)) : (L.take c ++ List.replicate (M - c) 0).set c (UInt8.ofNat y) = L.take (c + 1) ++ List.replicate (M - (c + 1)) 0 := by
  have hlen : (L.take c).length = c := by rw [List.length_take]; omega
  rw [List.set_append_right _ _ (by omega), hlen, Nat.sub_self]
  obtain ⟨m, hm⟩ : ∃ m, M - c = m + 1 := ⟨M - c - 1, by omega⟩
  have e : UInt8.ofNat y = UInt8.ofNat (y % 256) := by
    apply UInt8.toNat_inj.1
    rw [UInt8.toNat_ofNat', UInt8.toNat_ofNat']
    omega
  rw [hm, show M - (c + 1) = m by omega, List.replicate_succ, List.set_cons_zero, List.take_succ_eq_append_getElem hc, hy, e, List.append_assoc]
  rfl
def mskM : Int → Nat := fun q => if q ≤ 24 then (q + 1).toNat else 0
end B58
end Go.Proofs.YteodhonipbdplaaGreatDoor

/- Base 58's decoding: words and runes in memory. -/
namespace Go.Proofs.YteodhonipbdplaaGreatDoor
open Go.RowKit
set_option maxRecDepth 100000
/-- words as cells -/
def uvs (ws : List Nat) : List Value := ws.map fun (n : Nat) => Value.int .u32 (n : Int)
theorem uvs_length (ws : List Nat) : (uvs ws).length = ws.length := by simp [uvs]
section
variable {w : World} {g : Nat} {t : TypeId} {ws : List Nat}
theorem uCell (h : Blk w g t (uvs ws).toArray) {i : Nat} (hi : i < ws.length) : w.cell? ⟨g, i, none⟩ = some (.int .u32 (ws[i] : Int)) := by
  rw [h.cell]
  simp [uvs, hi]
theorem uSet (h : Blk w g t (uvs ws).toArray) (i x : Nat) : Blk (w.setCell ⟨g, i, none⟩ (.int .u32 (x : Int))) g t (uvs (ws.set i x)).toArray := by
  have := h.set i (.int .u32 (x : Int))
  rw [show (uvs ws).toArray.setIfInBounds i (.int .u32 (x : Int)) = (uvs (ws.set i x)).toArray by rw [List.setIfInBounds_toArray]; simp [uvs, List.map_set]] at this
  exact this
end
theorem infoU32 : (Tryz.prog.info? 63).map (fun i => (i.zero, i.size, i.bytes)) = some (some (.int .u32 0), 1, 4) := by kernel_rfl
theorem run_makeWords (w : World) (n : Nat) (hn : n ≤ 1000000) :
    (Instr.makeSlice 167 (.int .i64 (n : Int)) (.int .i64 (n : Int))).run Tryz.prog w = .ok (.slice (some ⟨w.heap.size, 0, none⟩) n n) (w.alloc (.cells (uvs (List.replicate n 0)).toArray 63)) := by
  obtain ⟨i0, hi, hz0, hz1, hz2⟩ := info_parts infoU32
  have h := run_make (P := Tryz.prog) w 167 63 i0 _ Tryz.underlying167 hi hz0 .i64 .i64 (n : Int) (n : Int) (by omega) (by omega) (by rw [hz2]; omega) (by omega)
  have e : madeCells (Value.int .u32 0).cells ((n : Int).toNat * i0.size) = (uvs (List.replicate n 0)).toArray := by
    rw [hz1, Nat.mul_one, Int.toNat_natCast]
    apply Array.toList_inj.1
    show (madeCells #[Value.int .u32 0] n).toList = _
    rw [toList_madeCells_one]
    simp [uvs]
  rw [e] at h
  simpa using h
/-- a text of seven bits' letters as runes -/
theorem runesGo (l : List UInt8) (h : ∀ c ∈ l, c.toNat < 128) : ∀ (k i : Nat) (acc : Array Value), i + k = l.length → Conv.runesFrom (strOf l) k i acc = acc ++ ((l.drop i).map fun c => Value.int .i32 (c.toNat : Int)).toArray
  | 0, i, acc, hk => by
    rw [List.drop_of_length_le (by omega)]
    simp [Conv.runesFrom]
  | k + 1, i, acc, hk => by
    have hi : i < l.length := by omega
    have hs : i < (strOf l).size := by rw [strOf_size]; exact hi
    have hb : (strOf l)[i]'hs = l[i] := rfl
    have he : l.drop i = l[i] :: l.drop (i + 1) := List.drop_eq_getElem_cons hi
    have hd := decode_ascii (strOf l) i hs (by rw [hb]; exact h _ (List.getElem_mem hi))
    unfold Conv.runesFrom
    rw [if_pos hs, hd, hb]
    show Conv.runesFrom (strOf l) k (i + 1) _ = _
    rw [runesGo l h k (i + 1) _ (by omega), he, List.map_cons]
    generalize (l.drop (i + 1)).map (fun c : UInt8 => Value.int .i32 (c.toNat : Int)) = L
    have hp : ∀ (x : Value), acc.push x ++ L.toArray = acc ++ (x :: L).toArray := fun x => by apply Array.toList_inj.1; simp
    exact hp _
theorem runesAll (l : List UInt8) (h : ∀ c ∈ l, c.toNat < 128) : Conv.runesFrom (strOf l) (strOf l).size 0 #[] = (l.map fun c => Value.int .i32 (c.toNat : Int)).toArray := by
  rw [runesGo l h _ 0 _ (by rw [strOf_size]; omega)]
  simp
theorem conv_runes (w : World) (l : List UInt8) (h : ∀ c ∈ l, c.toNat < 128) (hl : l.length ≤ 1000000) :
    ∃ w' c cs, (convert 9 174 (.string (strOf l))).run Tryz.prog w = .ok (.slice (some ⟨w.heap.size, 0, none⟩) l.length c) w' ∧ Blk w' w.heap.size 21 cs ∧ (∀ i (hi : i < l.length), cs[i]? = some (.int .i32 ((l[i]'hi).toNat : Int))) ∧ Below w.heap.size w w' ∧ w'.heap.size = w.heap.size + 1 := by
  have hr := run_runes_of_string (P := Tryz.prog) w 9 174 21 (strOf l) Tryz.underlying9 Tryz.underlying174 Tryz.underlying21 (by rw [runesAll l h]; simp; omega)
  rw [runesAll l h] at hr
  have hsz : ((l.map fun c => Value.int .i32 (c.toNat : Int)).toArray).size = l.length := by simp
  rw [hsz] at hr
  refine ⟨_, _, _, hr, Blk.new _ _ _, fun i hi => ?_, below_trans (below_drew w) (below_alloc _ _), by simp [World.alloc]⟩
  rw [Array.getElem?_append_left (by simpa using hi)]
  simp [hi]
/-- letters of base 58 have seven bits, and are told back -/
theorem letter_lt (d : UInt8) : (B58.letter d).toNat < 128 := alpha_lt
theorem enc_lt (l : List UInt8) : ∀ c ∈ B58.enc l, c.toNat < 128 := by
  intro c hc
  rw [B58.enc_digs] at hc
  obtain ⟨d, _, rfl⟩ := List.mem_map.1 hc
  exact letter_lt d
theorem alpha_apart : ∀ a b : Fin 58, a ≠ b → (B58.alpha.getD a.val 0).toNat ≠ (B58.alpha.getD b.val 0).toNat := by decide
theorem decV_get {k : Nat} : ∀ n : Nat, k < n → n ≤ 58 → (decV n)[(B58.alpha.getD k 0).toNat]? = some (.int .i8 (k : Int))
  | 0, h, _ => by omega
  | n + 1, h, hn => by
    unfold decV
    by_cases e : k = n
    · subst e
      show ((decV k).set (B58.alpha.getD k 0).toNat (.int .i8 (k : Int)))[(B58.alpha.getD k 0).toNat]? = _
      rw [List.getElem?_set_self (by rw [decV_length]; exact alpha_lt)]
    · have ha := alpha_apart ⟨k, by omega⟩ ⟨n, by omega⟩ (by intro h2; injection h2 with h2; exact e h2)
      have ha2 : (B58.alpha.getD n 0).toNat ≠ (B58.alpha.getD k 0).toNat := fun h2 => ha h2.symm
      rw [List.getElem?_set_ne ha2]
      exact decV_get n (by have h2 : k ≠ n := e; have h3 : k < n + 1 := h; exact Nat.lt_of_le_of_ne (Nat.le_of_lt_succ h3) h2) (by have h4 : n + 1 ≤ 58 := hn; exact Nat.le_of_succ_le h4)
theorem letter_dec {d : UInt8} (h : d.toNat < 58) : (decV 58)[(B58.letter d).toNat]'(by rw [decV_length]; exact letter_lt d) = .int .i8 (d.toNat : Int) :=
  (List.getElem?_eq_some_iff.1 (decV_get 58 h (Nat.le_refl 58))).2
theorem maskZero {x k m : Nat} (hx : x < 2 ^ k) (hk : k ≤ 32) (hm : 2 ^ k * m < 2 ^ 32) : bits .and .u32 (x : Int) ((2 ^ k * m : Nat) : Int) = 0 := by
  have h0 : 2 ^ k ≤ 2 ^ 32 := Nat.pow_le_pow_right (by omega) hk
  show IntKind.u32.wrap ((BitVec.ofInt 32 (x : Int) &&& BitVec.ofInt 32 ((2 ^ k * m : Nat) : Int)).toNat : Int) = _
  have h1 : (BitVec.ofInt 32 (x : Int)).toNat = x := by rw [BitVec.toNat_ofInt]; omega
  have h2 : (BitVec.ofInt 32 ((2 ^ k * m : Nat) : Int)).toNat = 2 ^ k * m := by rw [BitVec.toNat_ofInt]; omega
  have h3 : x &&& (2 ^ k * m) = 0 := by
    apply Nat.eq_of_testBit_eq
    intro i
    rw [Nat.testBit_and, Nat.zero_testBit]
    by_cases hi : i < k
    · rw [Nat.testBit_two_pow_mul, decide_eq_false (by omega)]; simp
    · rw [Nat.testBit_lt_two_pow (Nat.lt_of_lt_of_le hx (Nat.pow_le_pow_right (by omega) (by omega)))]; simp
  rw [BitVec.toNat_and, h1, h2, h3]
  rfl
theorem and32low {a : Nat} (ha : a < 64) : bits .and .u32 (a : Int) 63 = (a : Int) := by
  show IntKind.u32.wrap ((BitVec.ofInt 32 (a : Int) &&& BitVec.ofInt 32 63).toNat : Int) = _
  have h1 : (BitVec.ofInt 32 (a : Int)).toNat = a := by rw [BitVec.toNat_ofInt]; omega
  have h2 : (BitVec.ofInt 32 63).toNat = 2 ^ 6 - 1 := rfl
  rw [BitVec.toNat_and, h1, h2, Nat.and_two_pow_sub_one_eq_mod, Nat.mod_eq_of_lt (by omega), IntKind.wrap_u32]
  omega
theorem and64low {a : Nat} (ha : a < 2 ^ 62) : bits .and .u64 (a : Int) 4294967295 = ((a % 4294967296 : Nat) : Int) := by
  show IntKind.u64.wrap ((BitVec.ofInt 64 (a : Int) &&& BitVec.ofInt 64 4294967295).toNat : Int) = _
  have h1 : (BitVec.ofInt 64 (a : Int)).toNat = a := by rw [BitVec.toNat_ofInt]; omega
  have h2 : (BitVec.ofInt 64 4294967295).toNat = 2 ^ 32 - 1 := rfl
  rw [BitVec.toNat_and, h1, h2, Nat.and_two_pow_sub_one_eq_mod, IntKind.wrap_u64]
  omega
/-- 'binu[a:b]' of a whole row -/
theorem slice_mid {w : World} {g M N st : Nat} {t : TypeId} {L : List UInt8} (h : Blk w g t (bvs L).toArray) (hL : L.length = M) (h1 : st ≤ N) (h2 : N ≤ M) (hs : st < M) (hM : M ≤ 1000000) :
    (∀ W : World, (Instr.slice 23 (.slice (some ⟨g, 0, none⟩) M M) (some (.int .i64 (st : Int))) (some (.int .i64 (N : Int))) none).run Tryz.prog W = .ok (.slice (some ⟨g, st, none⟩) (N - st) (M - st)) W) ∧
      Bs w w.heap.size (.slice (some ⟨g, st, none⟩) (N - st) (M - st)) ((L.drop st).take (N - st)) := by
  obtain ⟨i0, hi, hz0, hz1, hz2⟩ := info_parts Tryz.info5
  have hel : Tryz.prog.elem 23 = 5 := by kernel_rfl
  have hu : Tryz.prog.underlying 23 = some (.slice (Tryz.prog.elem 23)) := by rw [hel]; exact Tryz.underlying23
  have e : (⟨g, 0, none⟩ : Addr).add st = ⟨g, st, none⟩ := by
    unfold Addr.add
    split
    · next h0 => subst h0; rfl
    · simp
  refine ⟨fun W => ?_, ?_⟩
  · rw [run_slice_lh W 23 _ M M hu .i64 .i64 st N (by omega) (by omega) (by omega)]
    have hne : ¬ M = st := by omega
    simp [hel, sizeOf, typeInfo, sliced, hi, hz1, e, hne]
    try omega
  · have hlen : ((L.drop st).take (N - st)).length = N - st := by rw [List.length_take, List.length_drop]; omega
    generalize hl : (L.drop st).take (N - st) = l' at *
    rw [← hlen]
    refine ⟨_, _, rfl, by omega, by omega, fun h0 => ⟨g, st, rfl, h.lt, fun k hk => ?_⟩⟩
    have hk2 : st + k < L.length := by omega
    rw [h.cell (st + k)]
    have := bvs_get L (st + k) hk2
    have e2 : l'[k] = L[st + k] := by subst hl; simp
    rw [e2]
    simpa using this
end Go.Proofs.YteodhonipbdplaaGreatDoor

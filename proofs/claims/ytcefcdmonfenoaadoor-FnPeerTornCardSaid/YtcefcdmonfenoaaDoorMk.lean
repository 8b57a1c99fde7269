/- What PeerMade comes to is a multihash; with a byte less, or more, it is none. -/
import Derived.Test.YtcefcdmonfenoaaDoorPm
namespace Go.Proofs.YtcefcdmonfenoaaDoor
theorem ok_two {a b : UInt8} (ha : a.toNat < 128) (hb : b.toNat < 128) (D : List UInt8) : Mh.ok (a :: b :: D) = decide (D.length = b.toNat) := by
  have h1 : Mh.uv (a :: b :: D) = some (a.toNat, 1) := by
    unfold Mh.uv; rw [Mh.uvGo_end (by omega) ha (by omega)]; simp
  have h2 : Mh.uv ((a :: b :: D).drop 1) = some (b.toNat, 1) := by
    show Mh.uv (b :: D) = _
    unfold Mh.uv; rw [Mh.uvGo_end (by omega) hb (by omega)]; simp
  have e : (((a :: b :: D).drop 1).drop 1) = D := rfl
  by_cases hl : D.length < b.toNat
  · unfold Mh.ok
    rw [Mh.read_less (by simp) h1 h2 (by omega) (by rw [e]; exact hl)]
    have : ¬ D.length = b.toNat := by omega
    simp [this]
  · unfold Mh.ok
    rw [Mh.read_some (by simp) h1 h2 (by omega) (by rw [e]; exact hl)]
    simp only [List.length_cons]
    congr 1
    apply propext
    omega
theorem ok_four (D : List UInt8) : Mh.ok (178 :: 144 :: 64 :: 16 :: D) = decide (D.length = 16) := by
  have h1 : Mh.uv (178 :: 144 :: 64 :: 16 :: D) = some (50 + 16 * 128 + 64 * 16384, 3) := by
    unfold Mh.uv
    rw [Mh.uvGo_next (by omega) (by decide), Mh.uvGo_next (by omega) (by decide), Mh.uvGo_end (by omega) (by decide) (by decide)]
    rfl
  have h2 : Mh.uv ((178 :: 144 :: 64 :: 16 :: D : List UInt8).drop 3) = some (16, 1) := by
    show Mh.uv (16 :: D) = _
    unfold Mh.uv; rw [Mh.uvGo_end (by omega) (by decide) (by omega)]; rfl
  have e : (((178 :: 144 :: 64 :: 16 :: D : List UInt8).drop 3).drop 1) = D := rfl
  by_cases hl : D.length < 16
  · unfold Mh.ok
    rw [Mh.read_less (by simp) h1 h2 (by omega) (by rw [e]; exact hl)]
    have : ¬ D.length = 16 := by omega
    simp [this]
  · unfold Mh.ok
    rw [Mh.read_some (by simp) h1 h2 (by omega) (by rw [e]; exact hl)]
    simp only [List.length_cons]
    congr 1
    apply propext
    omega
theorem torn_two {a b : UInt8} (ha : a.toNat < 128) (hb : b.toNat < 128) {D : List UInt8} (hD : D.length = b.toNat) {j : Nat} (hj : j < D.length + 2) : Mh.ok ((a :: b :: D).take j) = false := by
  match j, hj with
  | 0, _ => rfl
  | 1, _ => unfold Mh.ok; rw [Mh.read_short (by simp)]
  | j + 2, hj =>
    show Mh.ok (a :: b :: D.take j) = false
    rw [ok_two ha hb, List.length_take]
    have : ¬ min j D.length = b.toNat := by omega
    simp [this]
theorem torn_four {D : List UInt8} (hD : D.length = 16) {j : Nat} (hj : j < D.length + 4) : Mh.ok ((178 :: 144 :: 64 :: 16 :: D).take j) = false := by
  match j, hj with
  | 0, _ => rfl
  | 1, _ => unfold Mh.ok; rw [Mh.read_short (by simp)]
  | 2, _ => exact (by decide : Mh.ok [178, 144] = false)
  | 3, _ => exact (by decide : Mh.ok [178, 144, 64] = false)
  | j + 4, hj =>
    show Mh.ok (178 :: 144 :: 64 :: 16 :: D.take j) = false
    rw [ok_four, List.length_take]
    have : ¬ min j D.length = 16 := by omega
    simp [this]
section
variable {l : List UInt8} (hl : l.length = 32) (k : Nat)
include hl
theorem made_cases : (∃ a b : UInt8, ∃ D : List UInt8, made l k = a :: b :: D ∧ a.toNat < 128 ∧ b.toNat < 128 ∧ D.length = b.toNat ∧ D.length ≤ 32) ∨ ∃ D : List UInt8, made l k = 178 :: 144 :: 64 :: 16 :: D ∧ D.length = 16 := by
  unfold made
  split
  · exact .inl ⟨18, 32, Sha.sum l, rfl, by decide, by decide, by rw [sum_len]; rfl, by rw [sum_len]; omega⟩
  · split
    · exact .inl ⟨18, 32, l, rfl, by decide, by decide, by rw [hl]; rfl, by omega⟩
    · split
      · refine .inl ⟨0, UInt8.ofNat ((l.headD 0).toNat % 33), l.take ((l.headD 0).toNat % 33), rfl, by decide, ?_, ?_, by simp; omega⟩
        · rw [Wire.ofNat_toNat (by omega)]; omega
        · rw [Wire.ofNat_toNat (by omega), List.length_take]; omega
      · exact .inr ⟨l.take 16, rfl, by simp; omega⟩
theorem made_len : 2 ≤ (made l k).length ∧ (made l k).length ≤ 34 := by
  rcases made_cases hl k with ⟨a, b, D, e, _, _, h, h2⟩ | ⟨D, e, h⟩ <;> rw [e] <;> simp <;> omega
theorem made_ok : Mh.ok (made l k) = true := by
  rcases made_cases hl k with ⟨a, b, D, e, ha, hb, h, h2⟩ | ⟨D, e, h⟩
  · rw [e, ok_two ha hb]; simpa using h
  · rw [e, ok_four]; simpa using h
theorem made_torn {j : Nat} (hj : j < (made l k).length) : Mh.ok ((made l k).take j) = false := by
  rcases made_cases hl k with ⟨a, b, D, e, ha, hb, h, h2⟩ | ⟨D, e, h⟩ <;> rw [e] at hj ⊢
  · exact torn_two ha hb h hj
  · exact torn_four h hj
theorem made_more (x : UInt8) : Mh.ok (made l k ++ [x]) = false := by
  rcases made_cases hl k with ⟨a, b, D, e, ha, hb, h, h2⟩ | ⟨D, e, h⟩ <;> rw [e]
  · show Mh.ok (a :: b :: (D ++ [x])) = false
    rw [ok_two ha hb]
    have : ¬ (D ++ [x]).length = b.toNat := by simp; omega
    simpa using this
  · show Mh.ok (178 :: 144 :: 64 :: 16 :: (D ++ [x])) = false
    rw [ok_four]
    have : ¬ (D ++ [x]).length = 16 := by simp; omega
    simpa using this
end
end Go.Proofs.YtcefcdmonfenoaaDoor

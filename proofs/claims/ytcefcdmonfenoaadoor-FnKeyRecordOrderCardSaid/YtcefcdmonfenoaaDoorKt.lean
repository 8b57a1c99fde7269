/- Keys' messages that are cut, halved, of other wires, or too long: what they tell; plain lists, no program. -/
import Derived.Test.YtcefcdmonfenoaaDoorSq
namespace Go.Proofs.YtcefcdmonfenoaaDoor
open Go.RowKit

theorem fval_ex (num typ : Int) (l : List UInt8) : ∃ g, fval num typ l = Wire.cfvB g typ l := by
  unfold fval
  generalize 10001 = d
  cases d with
  | zero => exact ⟨_, rfl⟩
  | succ d => exact ⟨_, rfl⟩
theorem fval_0 (num : Int) (l : List UInt8) : fval num 0 l = (Wire.cvar l).2 := by
  obtain ⟨g, h⟩ := fval_ex num 0 l
  rw [h]; exact if_pos rfl
theorem fval_2 (num : Int) (l : List UInt8) : fval num 2 l = (Wire.cbytes l).2 := by
  obtain ⟨g, h⟩ := fval_ex num 2 l
  rw [h]; unfold Wire.cfvB; rw [if_neg (by omega), if_neg (by omega), if_neg (by omega), if_pos rfl]
theorem fval_1 (num : Int) {l : List UInt8} (hl : 8 ≤ l.length) : fval num 1 l = 8 := by
  obtain ⟨g, h⟩ := fval_ex num 1 l
  rw [h]; unfold Wire.cfvB; rw [if_neg (by omega), if_neg (by omega), if_pos rfl, if_neg (by omega)]
theorem fval_5 (num : Int) {l : List UInt8} (hl : 4 ≤ l.length) : fval num 5 l = 4 := by
  obtain ⟨g, h⟩ := fval_ex num 5 l
  rw [h]; unfold Wire.cfvB; rw [if_neg (by omega), if_pos rfl, if_neg (by omega)]

theorem lenEnc_torn (d : List UInt8) (h : d.length < 2 ^ 64) (i : Nat) (hi : i < (lenEnc d).length) : (Wire.cbytes ((lenEnc d).take i)).2 < 0 := by
  by_cases h1 : i < (Wire.venc d.length).length
  · have e : (lenEnc d).take i = (Wire.venc d.length).take i := by
      unfold lenEnc; rw [List.take_append_of_le_length (by omega)]
    rw [e, Wire.cbytes_neg (Wire.cvar_torn h h1) (by omega)]
    show (-1 : Int) < 0
    omega
  · have e : (lenEnc d).take i = Wire.venc d.length ++ d.take (i - (Wire.venc d.length).length) := by
      unfold lenEnc
      rw [List.take_append, List.take_of_length_le (by omega)]
    rw [lenEnc_length] at hi
    rw [e, Wire.cbytes_bad (Wire.cvar_venc h _) (by simp only [List.length_append, List.length_take]; omega)]
    show (-1 : Int) < 0
    omega

section
variable {s : KS} {k : Int} {d : List UInt8}

theorem keyRun_kindF_torn (i : Nat) (h0 : 0 < i) (hi : i < (kindF k).length) : keyRun s ((kindF k).take i) = none := by
  obtain ⟨i, rfl⟩ : ∃ j, i = j + 1 := ⟨i - 1, by omega⟩
  have e : (kindF k).take (i + 1) = UInt8.ofNat 8 :: (Wire.venc (kindNum k)).take i := rfl
  have hi' : i < (Wire.venc (kindNum k)).length := by simpa [kindF] using hi
  rw [e]
  exact keyRun_kind_bad (n := 1) (ctag_one (by omega) (by omega) _) (by simp) (x := 0) (c := -1) (by simpa using Wire.cvar_torn (kindNum_lt k) hi') (by omega)

theorem keyRun_dataF_torn (h : d.length < 2 ^ 64) (i : Nat) (h0 : 0 < i) (hi : i < (dataF d).length) : keyRun s ((dataF d).take i) = none := by
  obtain ⟨i, rfl⟩ : ∃ j, i = j + 1 := ⟨i - 1, by omega⟩
  have e : (dataF d).take (i + 1) = UInt8.ofNat 18 :: (lenEnc d).take i := rfl
  have hi' : i < (lenEnc d).length := by simpa [dataF] using hi
  rw [e]
  exact keyRun_data_bad (n := 1) (ctag_one (by omega) (by omega) _) (by simp) (d := (Wire.cbytes ((lenEnc d).take i)).1) (c := (Wire.cbytes ((lenEnc d).take i)).2) (by simp) (lenEnc_torn d h i hi')

theorem keyDec_torn (h1 : -2147483648 ≤ k) (h2 : k ≤ 2147483647) (h : d.length < 2 ^ 64) (j : Nat) (hj : j < (keyEnc k d).length) : keyDec ((keyEnc k d).take j) = none := by
  rw [keyEnc_eq] at hj ⊢
  rw [List.length_append] at hj
  by_cases hk : j < (kindF k).length
  · rw [List.take_append_of_le_length (by omega)]
    by_cases h0 : j = 0
    · subst h0
      exact keyDec_part (s := KS.none) (by rw [List.take_zero]; exact keyRun_nil) rfl
    · exact keyDec_none (keyRun_kindF_torn j (by omega) hk)
  · rw [List.take_append, List.take_of_length_le (by omega)]
    by_cases h0 : j = (kindF k).length
    · subst h0
      refine keyDec_part (s := ⟨some k, none⟩) ?_ rfl
      rw [Nat.sub_self, List.take_zero, keyRun_kindF h1 h2, keyRun_nil]
      rfl
    · refine keyDec_none ?_
      rw [keyRun_kindF h1 h2]
      exact keyRun_dataF_torn h _ (by omega) (by omega)

theorem keyDec_kindF (h1 : -2147483648 ≤ k) (h2 : k ≤ 2147483647) : keyDec (kindF k) = none := by
  refine keyDec_part (s := ⟨some k, none⟩) ?_ rfl
  rw [← List.append_nil (kindF k), keyRun_kindF h1 h2, keyRun_nil]
  rfl
theorem keyDec_dataF (h : d.length < 2 ^ 64) : keyDec (dataF d) = none := by
  refine keyDec_part (s := ⟨none, some d⟩) ?_ rfl
  rw [← List.append_nil (dataF d), keyRun_dataF h, keyRun_nil]
  rfl
theorem keyDec_turned (h1 : -2147483648 ≤ k) (h2 : k ≤ 2147483647) (h : d.length < 2 ^ 64) : keyDec (dataF d ++ kindF k) = some (k, d) := by
  have e : keyRun KS.none (dataF d ++ kindF k) = some ⟨some k, some d⟩ := by
    rw [keyRun_dataF h, ← List.append_nil (kindF k), keyRun_kindF h1 h2, keyRun_nil]
  unfold keyDec; rw [e]
theorem keyEnc_take : (keyEnc k d).take (kindLen k) = kindF k := by rw [keyEnc_eq, kindLen_eq, List.take_left]
theorem keyEnc_drop : (keyEnc k d).drop (kindLen k) = dataF d := by rw [keyEnc_eq, kindLen_eq, List.drop_left]

/-- a number in the place of the data is passed over -/
theorem keyRun_num2 {n : Nat} (hn : n < 2 ^ 64) (l : List UInt8) : keyRun s (numEnc 2 n ++ l) = keyRun s l := by
  have hc := Wire.cvar_venc hn l
  have e : numEnc 2 n ++ l = UInt8.ofNat 16 :: (Wire.venc n ++ l) := by
    unfold numEnc; rw [Wire.venc_lt (by omega)]; rfl
  have := keyRun_skip (s := s) (l := numEnc 2 n ++ l) (n := 1) (m := (Wire.venc n).length) (a := 2) (b := 0) (by rw [e]; exact ctag_one (by omega) (by omega) _) (by rw [e]; simp) (by omega) (by omega) (by omega)
    (by rw [e, fval_0, List.drop_succ_cons, List.drop_zero, hc])
  rw [this, e]
  simp
/-- bytes in the place of the kind are passed over -/
theorem keyRun_bytes1 (h : d.length < 2 ^ 64) (l : List UInt8) : keyRun s (fieldEnc 1 d ++ l) = keyRun s l := by
  have hc := cbytes_lenEnc d l h
  have e : fieldEnc 1 d ++ l = UInt8.ofNat 10 :: (lenEnc d ++ l) := rfl
  have := keyRun_skip (s := s) (l := fieldEnc 1 d ++ l) (n := 1) (m := (lenEnc d).length) (a := 1) (b := 2) (by rw [e]; exact ctag_one (by omega) (by omega) _) (by rw [e]; simp) (by omega) (by omega) (by omega)
    (by rw [e, fval_2, List.drop_succ_cons, List.drop_zero, hc])
  rw [this, e]
  simp
/-- eight bytes, four bytes -/
theorem keyRun_eight {m : List UInt8} (h : m.length = 8) (l : List UInt8) : keyRun s (UInt8.ofNat 9 :: (m ++ l)) = keyRun s l := by
  have := keyRun_skip (s := s) (l := UInt8.ofNat 9 :: (m ++ l)) (n := 1) (m := 8) (a := 1) (b := 1) (ctag_one (by omega) (by omega) _) (by simp) (by omega) (by omega) (by omega)
    (by rw [List.drop_succ_cons, List.drop_zero, fval_1 _ (by rw [List.length_append]; omega)]; rfl)
  rw [this]
  simp [← h]
theorem keyRun_four {m : List UInt8} (h : m.length = 4) (l : List UInt8) : keyRun s (UInt8.ofNat 21 :: (m ++ l)) = keyRun s l := by
  have := keyRun_skip (s := s) (l := UInt8.ofNat 21 :: (m ++ l)) (n := 1) (m := 4) (a := 2) (b := 5) (ctag_one (by omega) (by omega) _) (by simp) (by omega) (by omega) (by omega)
    (by rw [List.drop_succ_cons, List.drop_zero, fval_5 _ (by rw [List.length_append]; omega)]; rfl)
  rw [this]
  simp [← h]

/-- a length that tells more than there is -/
theorem keyDec_long (h1 : -2147483648 ≤ k) (h2 : k ≤ 2147483647) {x : Nat} (hx : x < 2 ^ 64) (hd : d.length < x) : keyDec (kindF k ++ UInt8.ofNat 18 :: (Wire.venc x ++ d)) = none := by
  refine keyDec_none ?_
  rw [keyRun_kindF h1 h2]
  have hc := Wire.cvar_venc hx d
  refine keyRun_data_bad (n := 1) (ctag_one (by omega) (by omega) _) (by simp) (d := []) (c := -1) ?_ (by omega)
  rw [List.drop_succ_cons, List.drop_zero]
  exact Wire.cbytes_bad hc (by simp only [List.length_append]; omega)

theorem cvarGo_wide (j : Nat) : ∀ (i acc : Nat) (l : List UInt8), i + j = 9 → Wire.cvarGo i acc (List.replicate (j + 1) 128 ++ l) = (0, -3) := by
  induction j with
  | zero =>
    intro i acc l h
    obtain rfl : i = 9 := by omega
    simp [Wire.cvarGo]
  | succ j ih =>
    intro i acc l h
    rw [List.replicate_succ, List.cons_append, Wire.cvarGo, if_neg (by omega), if_neg (by decide)]
    exact ih (i + 1) _ l (by omega)

theorem keyDec_wide (g : Nat) (hg : 10 ≤ g) (l : List UInt8) : keyDec (UInt8.ofNat 8 :: (List.replicate g 128 ++ l)) = none := by
  refine keyDec_none ?_
  have hc : Wire.cvar (List.replicate g 128 ++ l) = (0, -3) := by
    have := cvarGo_wide 9 0 0 (List.replicate (g - 10) 128 ++ l) rfl
    rw [← List.append_assoc, List.replicate_append_replicate, show 9 + 1 + (g - 10) = g by omega] at this
    exact this
  exact keyRun_kind_bad (n := 1) (ctag_one (by omega) (by omega) _) (by simp) (x := 0) (c := -3) (by simpa using hc) (by omega)
end
end Go.Proofs.YtcefcdmonfenoaaDoor

/- The reference's KeyBytes and KeyKind; the statements' keyNumber and keyField. -/
import Derived.Test.YtcefcdmonfenoaaDoorSp
namespace Go.Proofs.YtcefcdmonfenoaaDoor
open Go.RowKit
set_option maxRecDepth 100000

theorem lit8 : (#[.int .u8 8] : Array Value).toList = bvs [8] := by simp [bvs]
theorem keyEnc_flat (k : Int) (d : List UInt8) : [[8], Wire.venc (kindNum k), fieldEnc 2 d].flatten = keyEnc k d := by
  simp [keyEnc, fieldEnc]
theorem keyEnc_length (k : Int) (d : List UInt8) (hd : d.length < 2 ^ 64) : (keyEnc k d).length ≤ d.length + 22 ∧ 0 < (keyEnc k d).length := by
  have h1 : (Wire.venc (kindNum k)).length ≤ 10 := Wire.venc_length_u64 (kindNum_lt k)
  have h2 : (keyEnc k d).length = 1 + (Wire.venc (kindNum k)).length + 1 + ((Wire.venc d.length).length + d.length) := by simp [keyEnc, lenEnc]; omega
  have h3 : (Wire.venc d.length).length ≤ 10 := Wire.venc_length_u64 hd
  omega

theorem specKeyBytes {w : World} {v : Value} {d : List UInt8} {k : Int} (h : Bs w w.heap.size v d) (hk1 : -2147483648 ≤ k) (hk2 : k ≤ 2147483647) (hlen : d.length + 60 ≤ 140737488355328) :
    Calls Tryd.prog 29 #[.int .i32 k, v] w fun e w' => FreshN w (keyEnc k d) e w' := by
  have H := Lib.hid h
  have Hlen := Lib.hid (show (keyEnc k d).length ≤ 140737488355328 ∧ 0 < (keyEnc k d).length by
    have := keyEnc_length k d (by omega)
    omega)
  have Hv := Lib.hid (show ∀ W : World, Calls Tryd.prog 68 #[.int .u64 (IntKind.u64.wrap k)] W fun e w' => FreshN W (Wire.venc (kindNum k)) e w' from fun W => by
    have := wireVarint W _ (kindNum_of k).1 (kindNum_of k).2.1
    rw [(kindNum_of k).2.2] at this
    exact this)
  clear h
  go_enter Tryd.func29, Tryd.ntmps29
  go_wp2_with fail
  refine (Hv.out _).mono ?_
  rintro e w1 ⟨v1, rfl, ho1, hb1, ⟨a1, n1, c1, rfl⟩⟩
  have hba := below_alloc w (.cells #[.int .u8 8] 5)
  have X0 := Lib.hid ((Bs.newAt w #[.int .u8 8] [8] lit8 (by simp) _ 1 1 rfl rfl rfl).step hb1)
  have X1 := Lib.hid (ho1.bs)
  have B1 := Lib.hid (below_trans hba hb1)
  have X2 := Lib.hid (H.out.step B1.out)
  clear ho1 hb1 hba
  go_wp2_with fail
  refine (wireBytes X2.out 2 (by omega) true (.inl rfl) (by omega)).mono ?_
  rintro e w2 ⟨v2, rfl, ho2, hb2, ⟨a2, n2, c2, rfl⟩⟩
  have Y0 := Lib.hid (X0.out.step hb2)
  have Y1 := Lib.hid (X1.out.step hb2)
  have Y2 := Lib.hid (ho2.bs)
  have B2 := Lib.hid (below_trans B1.out hb2)
  clear ho2 hb2
  go_wp2_with fail
  refine (concat (Bss.lit w2 23 [_, _, _] [[8], _, _] ⟨Y0.out, Y1.out, Y2.out, trivial⟩ (by simp) _ 3 3 rfl rfl rfl) (by rw [keyEnc_flat]; exact Hlen.out.1)).mono ?_
  rintro e w3 ⟨v3, rfl, ho3, hb3⟩
  have hbb := fun o => below_alloc w2 o
  have B3 := Lib.hid (below_trans B2.out (below_trans (hbb _) hb3))
  have Ho3 := Lib.hid ho3
  have hsz := B2.out.size
  clear hbb hb3 ho3
  go_wp2_with fail
  go_ret
  have Ho := Ho3.out.more (base' := w.heap.size) (by simp; omega)
  rw [keyEnc_flat] at Ho
  exact ⟨_, rfl, Ho, B3.out, NN.of_len Ho.bs Hlen.out.2⟩

/-- how many bytes the kind takes -/
def kindLen (k : Int) : Nat := 1 + (Wire.venc (kindNum k)).length
theorem kindLen_eq (k : Int) : kindLen k = (kindF k).length := by simp [kindLen, kindF]; omega

theorem specKeyKind {w : World} {k : Int} (hk1 : -2147483648 ≤ k) (hk2 : k ≤ 2147483647) :
    Calls Tryd.prog 30 #[.int .i32 k] w fun e w' => e = .returned (.int .i64 (kindLen k : Int)) ∧ Below w.heap.size w w' := by
  have h10 : (Wire.venc (kindNum k)).length ≤ 10 := Wire.venc_length_u64 (kindNum_lt k)
  have Hv := Lib.hid (show ∀ W : World, Calls Tryd.prog 68 #[.int .u64 (IntKind.u64.wrap k)] W fun e w' => FreshN W (Wire.venc (kindNum k)) e w' from fun W => by
    have := wireVarint W _ (kindNum_of k).1 (kindNum_of k).2.1
    rw [(kindNum_of k).2.2] at this
    exact this)
  have Hk := Lib.hid (show kindLen k = 1 + (Wire.venc (kindNum k)).length from rfl)
  generalize Wire.venc (kindNum k) = z at *
  generalize kindLen k = m at *
  go_enter Tryd.func30, Tryd.ntmps30
  go_wp2_with fail
  refine (Hv.out _).mono ?_
  rintro e w1 ⟨v1, rfl, ho1, hb1, _⟩
  obtain ⟨A, c, rfl, _, _⟩ := ho1.bs.form
  go_wp2_with fail
  go_ret
  exact ⟨by rw [Hk.out]; show Ending.returned (.int .i64 _) = Ending.returned (.int .i64 _); congr 2, hb1⟩

/-- a field of a number -/
def numEnc (f : Nat) (n : Nat) : List UInt8 := Wire.venc (f * 8) ++ Wire.venc n

theorem keyNumber {w : World} {f : Nat} (hf : f < 16) {n : Int} (h0 : 0 ≤ n) (h1 : n < 18446744073709551616) :
    Calls Tryd.prog 33 #[.int .u64 (f : Int), .int .u64 n] w fun e w' => FreshN w (numEnc f n.toNat) e w' := by
  have Hf := Lib.hid (show ∀ W : World, Calls Tryd.prog 35 #[.int .u64 ((f : Int) * 8)] W fun e w' => FreshN W (Wire.venc (f * 8)) e w' from fun W => by
    have := wireNumber W ((f : Int) * 8) (by omega) (by omega)
    rw [show ((f : Int) * 8).toNat = f * 8 by omega] at this
    exact this)
  have Hn := Lib.hid (fun W => wireNumber W n h0 h1)
  have Hl := Lib.hid (show (Wire.venc (f * 8)).length ≤ 10 ∧ (Wire.venc n.toNat).length ≤ 10 from ⟨Wire.venc_length_u64 (by omega), Wire.venc_length_u64 (by omega)⟩)
  clear h1
  go_enter Tryd.func33, Tryd.ntmps33
  go_wp2_with fail
  refine (Hf.out _).mono ?_
  rintro e w1 ⟨v1, rfl, ho1, hb1, ⟨a1, n1, c1, rfl⟩⟩
  have X1 := Lib.hid (ho1.bs)
  have B1 := Lib.hid hb1
  clear ho1 hb1
  go_wp2_with fail
  refine (Hn.out _).mono ?_
  rintro e w2 ⟨v2, rfl, ho2, hb2, ⟨a2, n2, c2, rfl⟩⟩
  have Y1 := Lib.hid (X1.out.step hb2)
  have Y2 := Lib.hid (ho2.bs)
  have B2 := Lib.hid (below_trans B1.out hb2)
  clear ho2 hb2
  go_wp2_with fail
  refine (concat (Bss.lit w2 23 [_, _] [_, _] ⟨Y1.out, Y2.out, trivial⟩ (by simp) _ 2 2 rfl rfl rfl) (by have := Hl.out; simp; omega)).mono ?_
  rintro e w3 ⟨v3, rfl, ho3, hb3⟩
  have hbb := fun o => below_alloc w2 o
  have B3 := Lib.hid (below_trans B2.out (below_trans (hbb _) hb3))
  have Ho3 := Lib.hid ho3
  have hsz := B2.out.size
  clear hbb hb3 ho3
  go_wp2_with fail
  go_ret
  have Ho := Ho3.out.more (base' := w.heap.size) (by simp; omega)
  rw [show [Wire.venc (f * 8), Wire.venc n.toNat].flatten = numEnc f n.toNat by simp [numEnc]] at Ho
  exact ⟨_, rfl, Ho, B3.out, NN.of_len Ho.bs (by unfold numEnc; rw [List.length_append]; have := Wire.venc_pos (f * 8); omega)⟩

theorem tag64 : ∀ f : Fin 16, bits .or .u64 ((f.val : Int) * 8) 2 = ((f.val * 8 + 2 : Nat) : Int) := by
  intro f
  obtain ⟨f, hf⟩ := f
  have h1 := u64_or_nat (f * 8) 2 (by omega) (by omega)
  have h2 : ∀ a : Fin 16, (a.val * 8) ||| 2 = a.val * 8 + 2 := by decide
  have h3 := h2 ⟨f, hf⟩
  simp only [] at h3
  rw [h3] at h1
  rw [← h1]; simp

theorem keyField {w : World} {f : Nat} (hf : f < 16) {v : Value} {d : List UInt8} (h : Bs w w.heap.size v d) (hlen : d.length + 60 ≤ 140737488355328) :
    Calls Tryd.prog 34 #[.int .u64 (f : Int), v] w fun e w' => FreshN w (fieldEnc f d) e w' := by
  have H := Lib.hid h
  have Ht := tag64 ⟨f, hf⟩
  simp only [] at Ht
  have Hf := Lib.hid (show ∀ W : World, Calls Tryd.prog 35 #[.int .u64 ((f : Int) * 8 + 2)] W fun e w' => FreshN W [UInt8.ofNat (8 * f + 2)] e w' from fun W => by
    have := wireNumber W ((f : Int) * 8 + 2) (by omega) (by omega)
    by_cases h16 : f * 8 + 2 < 128
    · rw [show ((f : Int) * 8 + 2).toNat = 8 * f + 2 by omega, Wire.venc_lt (by omega)] at this
      exact this
    · omega)
  have Hn := Lib.hid (fun W => wireNumber W (d.length : Int) (by omega) (by omega))
  have Hl := Lib.hid (show (Wire.venc d.length).length ≤ 10 from Wire.venc_length_u64 (by omega))
  obtain ⟨A, c, rfl, hlc, hc63⟩ := h.form
  clear h
  go_enter Tryd.func34, Tryd.ntmps34
  go_wp2_with fail
  refine (Hf.out _).mono ?_
  rintro e w1 ⟨v1, rfl, ho1, hb1, ⟨a1, n1, c1, rfl⟩⟩
  have X1 := Lib.hid (ho1.bs)
  have B1 := Lib.hid hb1
  clear ho1 hb1
  go_wp2_with fail
  refine (Hn.out _).mono ?_
  rintro e w2 ⟨v2, rfl, ho2, hb2, ⟨a2, n2, c2, rfl⟩⟩
  have Y1 := Lib.hid (X1.out.step hb2)
  have Y2 := Lib.hid (ho2.bs)
  have B2 := Lib.hid (below_trans B1.out hb2)
  have Y3 := Lib.hid (H.out.step B2.out)
  clear ho2 hb2
  go_wp2_with fail
  refine (concat (Bss.lit w2 23 [_, _, _] [_, _, _] ⟨Y1.out, Y2.out, Y3.out, trivial⟩ (by simp) _ 3 3 rfl rfl rfl) (by have := Hl.out; simp; omega)).mono ?_
  rintro e w3 ⟨v3, rfl, ho3, hb3⟩
  have hbb := fun o => below_alloc w2 o
  have B3 := Lib.hid (below_trans B2.out (below_trans (hbb _) hb3))
  have Ho3 := Lib.hid ho3
  have hsz := B2.out.size
  clear hbb hb3 ho3
  go_wp2_with fail
  go_ret
  have Ho := Ho3.out.more (base' := w.heap.size) (by simp; omega)
  rw [show [[UInt8.ofNat (8 * f + 2)], Wire.venc (d.length : Int).toNat, d].flatten = fieldEnc f d by simp [fieldEnc, lenEnc]] at Ho
  exact ⟨_, rfl, Ho, B3.out, NN.of_len Ho.bs (by rw [fieldEnc_length]; omega)⟩
end Go.Proofs.YtcefcdmonfenoaaDoor

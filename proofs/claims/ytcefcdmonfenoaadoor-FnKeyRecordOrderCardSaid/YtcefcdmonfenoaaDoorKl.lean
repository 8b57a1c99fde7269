/- Keys' messages: what is written is read again; plain lists, no program. -/
import Derived.Test.YtcefcdmonfenoaaDoorKi
namespace Go.Proofs.YtcefcdmonfenoaaDoor
open Go.RowKit

theorem toNat_ofNat8 {n : Nat} (h : n < 256) : (UInt8.ofNat n).toNat = n := Wire.ofNat_toNat h

theorem ctag_one {t : Nat} (h : t < 128) (h8 : 8 ≤ t) (l : List UInt8) : Wire.ctag (UInt8.ofNat t :: l) = (((t / 8 : Nat) : Int), ((t % 8 : Nat) : Int), 1) := by
  have hc : Wire.cvar (UInt8.ofNat t :: l) = (t, 1) := by
    have := Wire.cvar_venc (n := t) (by omega) l
    rw [Wire.venc_lt h] at this
    exact this
  exact Wire.ctag_ok hc (by omega) (by omega) (by omega)

theorem lenEnc_length (d : List UInt8) : (lenEnc d).length = (Wire.venc d.length).length + d.length := by simp [lenEnc]

theorem cbytes_lenEnc (d l : List UInt8) (h : d.length < 2 ^ 64) : Wire.cbytes (lenEnc d ++ l) = (d, ((lenEnc d).length : Int)) := by
  have hc := Wire.cvar_venc h (d ++ l)
  rw [← List.append_assoc] at hc
  have hok := Wire.cbytes_ok hc (by simp only [List.length_append]; omega)
  unfold lenEnc
  rw [hok]
  refine Prod.ext ?_ ?_
  · show ((Wire.venc d.length ++ d ++ l).drop _).take _ = d
    rw [List.append_assoc, List.drop_left, List.take_left]
  · simp

/-- the two fields of a key's message -/
def kindF (k : Int) : List UInt8 := 8 :: Wire.venc (kindNum k)
def dataF (d : List UInt8) : List UInt8 := 18 :: lenEnc d
theorem keyEnc_eq (k : Int) (d : List UInt8) : keyEnc k d = kindF k ++ dataF d := by simp [keyEnc, kindF, dataF]

theorem wrap32_kindNum {k : Int} (h1 : -2147483648 ≤ k) (h2 : k ≤ 2147483647) : wrap32 (kindNum k : Nat) = k := by
  unfold wrap32 kindNum
  omega

theorem keyRun_kindF {s : KS} {k : Int} (h1 : -2147483648 ≤ k) (h2 : k ≤ 2147483647) (l : List UInt8) : keyRun s (kindF k ++ l) = keyRun { s with kind := some k } l := by
  have ht := ctag_one (t := 8) (by omega) (by omega) (Wire.venc (kindNum k) ++ l)
  have hc := Wire.cvar_venc (kindNum_lt k) l
  have := keyRun_kind (s := s) (l := kindF k ++ l) (n := 1) (x := kindNum k) (m := (Wire.venc (kindNum k)).length) ht (by simp [kindF]) (by simpa [kindF] using hc)
  rw [this, wrap32_kindNum h1 h2]
  congr 1
  simp [kindF]

theorem keyRun_dataF {s : KS} {d : List UInt8} (h : d.length < 2 ^ 64) (l : List UInt8) : keyRun s (dataF d ++ l) = keyRun { s with data := some d } l := by
  have ht := ctag_one (t := 18) (by omega) (by omega) (lenEnc d ++ l)
  have hc := cbytes_lenEnc d l h
  have := keyRun_data (s := s) (l := dataF d ++ l) (n := 1) (d := d) (m := (lenEnc d).length) ht (by simp [dataF]) (by simpa [dataF] using hc)
  rw [this]
  congr 1
  simp [dataF]

theorem keyDec_enc {k : Int} {d : List UInt8} (h1 : -2147483648 ≤ k) (h2 : k ≤ 2147483647) (h : d.length < 2 ^ 64) : keyDec (keyEnc k d) = some (k, d) := by
  have e : keyRun KS.none (keyEnc k d) = some ⟨some k, some d⟩ := by
    rw [keyEnc_eq, keyRun_kindF h1 h2, ← List.append_nil (dataF d), keyRun_dataF h, keyRun_nil]
  unfold keyDec; rw [e]

theorem keyEnc_inj {a b : Int} {d e : List UInt8} (ha1 : -2147483648 ≤ a) (ha2 : a ≤ 2147483647) (hb1 : -2147483648 ≤ b) (hb2 : b ≤ 2147483647) (hd : d.length < 2 ^ 64) (he : e.length < 2 ^ 64) :
    keyEnc a d = keyEnc b e ↔ a = b ∧ d = e := by
  constructor
  · intro h
    have h1 := keyDec_enc ha1 ha2 hd
    rw [h, keyDec_enc hb1 hb2 he] at h1
    simp only [Option.some.injEq, Prod.mk.injEq] at h1
    exact ⟨h1.1.symm, h1.2.symm⟩
  · rintro ⟨rfl, rfl⟩; rfl

theorem keyEnc_small : keyEnc 1 [7] = [8, 1, 18, 1, 7] := by
  unfold keyEnc lenEnc
  rw [show kindNum 1 = 1 by decide, Wire.venc_lt (by omega), Wire.venc_lt (by simp)]
  rfl
theorem keyDec_small : keyDec [8, 1, 18, 1, 7] = some (1, [7]) := by
  rw [← keyEnc_small]; exact keyDec_enc (by omega) (by omega) (by simp)
end Go.Proofs.YtcefcdmonfenoaaDoor

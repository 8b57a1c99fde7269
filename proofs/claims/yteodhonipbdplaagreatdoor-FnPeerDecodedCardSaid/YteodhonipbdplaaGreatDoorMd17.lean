/- How the text of an ID begins: "Qm", or a one. -/
import Derived.Test.YteodhonipbdplaaGreatDoorMd01
import Derived.Test.YteodhonipbdplaaGreatDoorMd07
import Derived.Test.YteodhonipbdplaaGreatDoorMd08
import Derived.Test.YteodhonipbdplaaGreatDoorMd12
import Derived.Test.YteodhonipbdplaaGreatDoorMd14
import Derived.Test.YteodhonipbdplaaGreatDoorMd15
import Derived.Test.YteodhonipbdplaaGreatDoorMd16
import Derived.Deep.RegionHeld3
namespace Go.Proofs.YteodhonipbdplaaGreatDoor
set_option maxRecDepth 100000
namespace B58
theorem dig_split {V k : Nat} (h : V / 58 ^ k ≠ 0) : ∃ ds : List UInt8, dig V = dig (V / 58 ^ k) ++ ds := by
  have hp : 0 < 58 ^ k := Nat.pow_pos (by omega)
  have hr := Nat.mod_lt V hp
  obtain ⟨h1, h2, h3, h4⟩ := dig_spec (V % 58 ^ k)
  have hlen : (dig (V % 58 ^ k)).length ≤ k := by
    by_cases h0 : V % 58 ^ k = 0
    · rw [h0, dig_zero]; simp
    · have h5 := h4 h0
      have h6 : 58 ^ ((dig (V % 58 ^ k)).length - 1) < 58 ^ k := by omega
      have := (Nat.pow_lt_pow_iff_right (a := 58) (by omega)).1 h6
      omega
  obtain ⟨ds, hds⟩ : ∃ ds, ds = List.replicate (k - (dig (V % 58 ^ k)).length) (0 : UInt8) ++ dig (V % 58 ^ k) := ⟨_, rfl⟩
  have hdl : ds.length = k := by rw [hds, List.length_append, List.length_replicate]; omega
  have hdd : Dig ds := by
    intro d hd
    rw [hds] at hd
    rcases List.mem_append.1 hd with h | h
    · rw [(List.mem_replicate.1 h).2]; decide
    · exact h1 d h
  have hdv : val ds = V % 58 ^ k := by rw [hds, val_zeros, h2]
  refine ⟨ds, ?_⟩
  have := dig_append h k ds hdl hdd
  rw [hdl, hdv] at this
  rw [← this]
  congr 1
  rw [Nat.mul_comm]
  exact (Nat.div_add_mod V (58 ^ k)).symm
theorem dig_1378 : dig 1378 = [23, 44] := by
  rw [dig_pos (by omega), show (1378 : Nat) / 58 = 23 by decide, dig_pos (by omega), show (23 : Nat) / 58 = 0 by decide, dig_zero]
  rfl
theorem enc_Qm {D : List UInt8} (hD : D.length = 32) : ∃ r, enc (18 :: 32 :: D) = 81 :: 109 :: r := by
  have hz : zeros (18 :: 32 :: D) = 0 := rfl
  have hv : num (18 :: 32 :: D) = 4640 * 256 ^ 32 + num D := by
    rw [num_cons, num_cons, List.length_cons, hD, show (18 : UInt8).toNat = 18 from rfl, show (32 : UInt8).toNat = 32 from rfl]
    have : (256 : Nat) ^ (32 + 1) = 256 * 256 ^ 32 := by rw [Nat.pow_succ, Nat.mul_comm]
    rw [this]
    omega
  have hl := num_lt D
  rw [hD] at hl
  have hq : num (18 :: 32 :: D) / 58 ^ 44 = 1378 := by
    rw [hv]
    have e : (4640 : Nat) * 256 ^ 32 = 1378 * 58 ^ 44 + (4640 * 256 ^ 32 - 1378 * 58 ^ 44) := by decide
    have e2 : (4640 : Nat) * 256 ^ 32 - 1378 * 58 ^ 44 + 256 ^ 32 < 58 ^ 44 := by decide
    rw [Nat.div_eq_iff (by decide)]
    generalize (256 : Nat) ^ 32 = X at *
    generalize (58 : Nat) ^ 44 = Y at *
    omega
  obtain ⟨ds, hds⟩ := dig_split (V := num (18 :: 32 :: D)) (k := 44) (by rw [hq]; decide)
  rw [hq, dig_1378] at hds
  refine ⟨ds.map letter, ?_⟩
  unfold enc
  rw [hz, hds]
  rfl
theorem enc_1 {x : UInt8} {D : List UInt8} : ∃ y r, enc (0 :: x :: D) = 49 :: y :: r := by
  have hz : zeros (0 :: x :: D) = zeros (x :: D) + 1 := by unfold zeros; simp
  have hl := digs_long (0 :: x :: D)
  rw [← enc_len] at hl
  simp only [List.length_cons] at hl
  have e : enc (0 :: x :: D) = 49 :: (List.replicate (zeros (x :: D)) 49 ++ (dig (num (0 :: x :: D))).map letter) := by
    unfold enc
    rw [hz, List.replicate_succ]
    rfl
  rw [e] at hl ⊢
  rw [List.length_cons] at hl
  cases h : List.replicate (zeros (x :: D)) 49 ++ (dig (num (0 :: x :: D))).map letter with
  | nil => rw [h] at hl; simp at hl
  | cons y r => exact ⟨y, r, rfl⟩
/-- how the text of an ID begins -/
def Begins (t : List UInt8) : Prop := (∃ r, t = 81 :: 109 :: r) ∨ ∃ y r, t = 49 :: y :: r
theorem made_begins {l : List UInt8} (hl : l.length = 32) {k : Nat} (hk : k % 4 ≠ 3) : Begins (enc (made l k)) := by
  unfold made
  split
  · exact .inl (enc_Qm (D := Sha.sum l) (sum_len l))
  · split
    · exact .inl (enc_Qm (D := l) hl)
    · split
      · exact .inr (enc_1 (x := UInt8.ofNat ((l.headD 0).toNat % 33)) (D := l.take ((l.headD 0).toNat % 33)))
      · exact absurd (by omega) hk
end B58
end Go.Proofs.YteodhonipbdplaaGreatDoor

/- A multihash as an ID. -/
namespace Go.Proofs.YteodhonipbdplaaGreatDoor
open Go.RowKit
set_option maxRecDepth 100000
/-- 'ID(hash)' -/
theorem conv_strM {w : World} {B : Nat} {v : Value} {l : List UInt8} (h : Bs w B v l) {dst : TypeId} (hd : Tryz.prog.underlying dst = some .string) : (convert 68 dst v).run Tryz.prog w = .ok (.string (strOf l)) w := by
  obtain ⟨A, c, rfl, h1, h2, h3⟩ := h
  rcases Nat.eq_zero_or_pos l.length with h0 | h0
  · have := List.length_eq_zero_iff.1 h0
    subst this
    rw [show ([] : List UInt8).length = 0 from rfl, run_convert_bytes_string w 68 dst 5 _ 0 c Tryz.underlying68 Tryz.underlying5 hd]
    cases A <;> simp [Conv.bytesToString, loadCells] <;> rfl
  · obtain ⟨g, o, rfl, _, hc⟩ := h3 h0
    have hs : strOf l = strOfNums (l.map fun u => (u.toNat : Int)) := by
      unfold strOf strOfNums
      congr 2
      rw [List.map_map]
      conv => lhs; rw [← List.map_id l]
      refine List.map_congr_left fun u _ => ?_
      simp
    rw [hs]
    refine run_convert_bytes_arg w 68 5 Tryz.underlying68 Tryz.underlying5 g o l.length c _ (by simp) (fun i hi => ?_) dst hd
    rw [hc i hi]
    simp [bv, List.getD, hi]
end Go.Proofs.YteodhonipbdplaaGreatDoor

/- The text of an ID told back: base58.Decode, FromB58String, peer.Decode; the forms of an ID. -/
namespace Go.Proofs.YteodhonipbdplaaGreatDoor
open Go.RowKit
set_option maxRecDepth 100000
section
variable {w : World} {l : List UInt8} {v : Value}
/-- a slice of the bytes, and no error -/
def BsNil (w : World) (l : List UInt8) (e : Ending) (w' : World) : Prop := ∃ v, e = .returned (.tuple #[v, .nilIface]) ∧ Bs w' w'.heap.size v l ∧ Below w.heap.size w w'
theorem fastDecB (hl0 : l ≠ []) (hl : l.length ≤ 1000) :
    Calls Tryz.prog 125 #[.string (strOf (B58.enc l))] w fun e w' => BsNil w l e w' := by
  have HF := Lib.hid (fun W ga ha => fastDec (w := W) (ga := ga) ha hl0 hl)
  obtain ⟨S, hS⟩ : ∃ S, S = strOf (B58.enc l) := ⟨_, rfl⟩
  rw [← hS] at HF ⊢
  clear hS hl0
  go_enter Tryz.func125, Tryz.ntmps125
  go_wp2_with fail
  refine (btcAlphabet w).mono ?_
  rintro e w1 ⟨g, rfl, hb, hbl, hg⟩
  have Hb := Lib.hid hb
  have Hbl := Lib.hid hbl
  clear hb hbl hg
  go_wp2_with fail
  refine (HF.out _ _ Hb.out).mono ?_
  rintro e w2 ⟨v2, rfl, hbs, hb2⟩
  have X := Lib.hid hbs
  clear hbs
  go_wp2_with fail
  go_ret2
  exact ⟨v2, rfl, X.out, below_trans Hbl.out hb2⟩
theorem b58Decode (hl0 : l ≠ []) (hl : l.length ≤ 1000) :
    Calls Tryz.prog 98 #[.string (strOf (B58.enc l))] w fun e w' => BsNil w l e w' := by
  have HF := Lib.hid (fun W => fastDecB (w := W) hl0 hl)
  obtain ⟨S, hS⟩ : ∃ S, S = strOf (B58.enc l) := ⟨_, rfl⟩
  rw [← hS] at HF ⊢
  clear hS hl0
  go_enter Tryz.func98, Tryz.ntmps98
  go_wp2_with fail
  refine (HF.out _).mono ?_
  rintro e w2 ⟨v2, rfl, hbs, hb2⟩
  have X := Lib.hid hbs
  clear hbs
  go_wp2_with fail
  go_ret2
  exact ⟨v2, rfl, X.out, hb2⟩
theorem fromB58 (he : MErr w) (hok : Mh.ok l = true) (hl0 : l ≠ []) (hl : l.length ≤ 1000) :
    Calls Tryz.prog 60 #[.string (strOf (B58.enc l))] w fun e w' => BsNil w l e w' := by
  have HF := Lib.hid (fun W => b58Decode (w := W) hl0 hl)
  have He := Lib.hid he
  have Hok := Lib.hid hok
  obtain ⟨S, hS⟩ : ∃ S, S = strOf (B58.enc l) := ⟨_, rfl⟩
  rw [← hS] at HF ⊢
  clear hS hl0 he hok
  go_enter Tryz.func60, Tryz.ntmps60
  go_wp2_with fail
  refine (HF.out _).mono ?_
  rintro e w2 ⟨v2, rfl, hbs, hb2⟩
  have X := Lib.hid hbs
  have B := Lib.hid hb2
  clear hbs hb2
  go_wp2_with fail
  refine (mhCast X.out (He.out.step B.out) (by omega)).mono ?_
  rintro e w3 ⟨hb, ⟨_, rfl⟩ | ⟨h1, _⟩⟩
  · have X3 := Lib.hid (X.out.step hb)
    have B3 := Lib.hid (below_trans B.out hb)
    clear hb
    go_wp2_with fail
    go_ret2
    exact ⟨v2, rfl, X3.out, B3.out⟩
  · rw [Hok.out] at h1; cases h1
/-- a text's beginning -/
theorem hasPre {S P : ByteArray} {b : Bool} (hle : P.size ≤ S.size) (_hS : S.size ≤ 100000) (hb : ((S.extract 0 P.size).toList == P.toList) = b) :
    Calls Tryz.prog 97 #[.string S, .string P] w fun e w' => e = .returned (.bool b) ∧ w = w' := by
  have hle2 : (P.size : Int) ≤ (S.size : Int) := by omega
  have Hb := Lib.hid hb
  clear hb
  go_enter Tryz.func97, Tryz.ntmps97
  go_wp2_with fail
  go_ret
  refine ⟨?_, rfl⟩
  rw [← Hb.out]
  rfl
theorem hasPrefix {S P : ByteArray} {b : Bool} (hle : P.size ≤ S.size) (hS : S.size ≤ 100000) (hb : ((S.extract 0 P.size).toList == P.toList) = b) :
    Calls Tryz.prog 59 #[.string S, .string P] w fun e w' => e = .returned (.bool b) ∧ w = w' := by
  have H := Lib.hid (hasPre (w := w) hle hS hb)
  clear hb
  go_enter Tryz.func59, Tryz.ntmps59
  go_wp2_with fail
  refine H.out.mono ?_
  rintro e w1 ⟨rfl, rfl⟩
  go_wp2_with fail
  go_ret
  exact ⟨rfl, rfl⟩
theorem extract2 (t p : List UInt8) (_h : p.length ≤ t.length) : ((strOf t).extract 0 p.length).toList = t.take p.length := by
  rw [strOf_extract, List.drop_zero, strOf_toList]
set_option maxHeartbeats 1000000 in
theorem decodeId (he : MErr w) (hok : Mh.ok l = true) (hl0 : l ≠ []) (hl : l.length ≤ 1000) (hb : B58.Begins (B58.enc l)) :
    Calls Tryz.prog 36 #[.string (strOf (B58.enc l))] w fun e w' => e = .returned (.tuple #[.string (strOf l), .nilIface]) ∧ Below w.heap.size w w' := by
  have HF := Lib.hid (fromB58 he hok hl0 hl)
  have hlen := enc_len_le l
  have hsz : (strOf (B58.enc l)).size ≤ 100000 := by rw [strOf_size]; omega
  obtain ⟨S2, hS2⟩ : ∃ S, S = strOf l := ⟨_, rfl⟩
  have HS2 := Lib.hid hS2
  obtain ⟨t, ht⟩ : ∃ t, t = B58.enc l := ⟨_, rfl⟩
  rw [← ht] at hb HF hsz ⊢
  rw [← hS2]
  clear he hok hl0 hlen ht hS2
  rcases hb with ⟨r, rfl⟩ | ⟨y, r, rfl⟩
  · have HQ := Lib.hid (hasPrefix (w := w) (S := strOf (81 :: 109 :: r)) (P := { data := #[81, 109] }) (b := true) (by rw [strOf_size]; simp; show 2 ≤ _; omega) hsz (by rw [show ({ data := #[81, 109] } : ByteArray) = strOf [81, 109] from rfl, strOf_size, extract2 _ [81, 109] (by simp), strOf_toList]; rfl))
    obtain ⟨S, hS⟩ : ∃ S, S = strOf (81 :: 109 :: r) := ⟨_, rfl⟩
    rw [← hS] at HF HQ ⊢
    clear hS hsz
    go_enter Tryz.func36, Tryz.ntmps36
    go_wp2_with fail
    refine HQ.out.mono ?_
    rintro e w1 ⟨rfl, rfl⟩
    go_wp2_with fail
    refine HF.out.mono ?_
    rintro e w2 ⟨v2, rfl, hbs, hb2⟩
    have hcv := conv_strM hbs (dst := 43) Tryz.underlying43
    rw [← HS2.out] at hcv
    obtain ⟨A, n, c, rfl, _, _, _⟩ := hbs.form'
    have B := Lib.hid hb2
    clear hbs hb2
    go_wp2_with fail
    go_ret2
    exact ⟨rfl, B.out⟩
  · have HQ := Lib.hid (hasPrefix (w := w) (S := strOf (49 :: y :: r)) (P := { data := #[81, 109] }) (b := false) (by rw [strOf_size]; simp; show 2 ≤ _; omega) hsz (by rw [show ({ data := #[81, 109] } : ByteArray) = strOf [81, 109] from rfl, strOf_size, extract2 _ [81, 109] (by simp), strOf_toList]; rfl))
    have H1 := Lib.hid (hasPrefix (w := w) (S := strOf (49 :: y :: r)) (P := { data := #[49] }) (b := true) (by rw [strOf_size]; simp; show 1 ≤ _; omega) hsz (by rw [show ({ data := #[49] } : ByteArray) = strOf [49] from rfl, strOf_size, extract2 _ [49] (by simp), strOf_toList]; rfl))
    obtain ⟨S, hS⟩ : ∃ S, S = strOf (49 :: y :: r) := ⟨_, rfl⟩
    rw [← hS] at HF HQ H1 ⊢
    clear hS hsz
    go_enter Tryz.func36, Tryz.ntmps36
    go_wp2_with fail
    refine HQ.out.mono ?_
    rintro e w1 ⟨rfl, rfl⟩
    go_wp2_with fail
    refine H1.out.mono ?_
    rintro e w1 ⟨rfl, rfl⟩
    go_wp2_with fail
    refine HF.out.mono ?_
    rintro e w2 ⟨v2, rfl, hbs, hb2⟩
    have hcv := conv_strM hbs (dst := 43) Tryz.underlying43
    rw [← HS2.out] at hcv
    obtain ⟨A, n, c, rfl, _, _, _⟩ := hbs.form'
    have B := Lib.hid hb2
    clear hbs hb2
    go_wp2_with fail
    go_ret2
    exact ⟨rfl, B.out⟩
end
end Go.Proofs.YteodhonipbdplaaGreatDoor

/- Base 32's DecodeString; a rune of seven bits; multibase's Decode at base 32 and base 58. -/
namespace Go.Proofs.YteodhonipbdplaaGreatDoor
open Go.RowKit
set_option maxRecDepth 100000
section
variable {w : World} {l : List UInt8} {g gb : Nat} {t : TypeId}
theorem enc32_min (l : List UInt8) : ∀ i (h : i < (B32.enc B32.alpha l).length), 50 ≤ ((B32.enc B32.alpha l)[i]'h).toNat ∧ ((B32.enc B32.alpha l)[i]'h).toNat ≤ 122 := by
  intro i h
  have hm : (B32.enc B32.alpha l)[i] ∈ B32.enc B32.alpha l := List.getElem_mem h
  have h2 : ∀ y ∈ B32.enc B32.alpha l, 50 ≤ y.toNat ∧ y.toNat ≤ 122 := by
    intro y hy
    rw [B32.enc, B32.feed_five] at hy
    obtain ⟨x, hx, rfl⟩ := List.mem_map.1 hy
    have := letter32 ⟨x, five_lt l x hx⟩
    exact ⟨this.2, this.1⟩
  exact h2 _ hm
set_option maxHeartbeats 2000000 in
theorem decInPlace (h : Enc32 w g upAlpha (mapK upAlpha 32) (-1)) {Z : List UInt8} {N C : Nat} (hK : Bm w gb t (bvs (B32.enc B32.alpha l ++ Z)).toArray) (hN : N = (B32.enc B32.alpha l).length) (hC : C = N + Z.length) (hl0 : 0 < N) (hl : N ≤ 2000) (hg : g ≠ gb) :
    Calls Tryz.prog 150 #[.pointer (some ⟨g, 0, none⟩), .slice (some ⟨gb, 0, none⟩) N C] w fun e w' => e = .returned (.tuple #[.int .i64 (l.length : Int), .nilIface]) ∧ (∃ F, F.length = C ∧ F.take l.length = l ∧ Bm w' gb t (bvs F).toArray) ∧ w.grownBy w' (some gb) := by
  have H := Lib.hid h
  have HK := Lib.hid hK
  have HN := Lib.hid hN
  obtain ⟨F0, hF0⟩ : ∃ F, F = B32.enc B32.alpha l ++ Z := ⟨_, rfl⟩
  have HF0 := Lib.hid hF0
  have hFl : F0.length = C := by rw [hF0, List.length_append, ← hN, hC]
  rw [← hF0] at HK
  have hNC : N ≤ C := by omega
  have HFt := Lib.hid (show Ft F0 C 0 0 [] (B32.enc B32.alpha l) from ⟨hFl, by simp, fun i hi => by
    rw [hF0, Nat.zero_add, List.getElem?_append_left hi, List.getElem?_eq_getElem hi]⟩)
  have Hmin := Lib.hid (show ∀ i (hi : i < N), ∃ hj : i < F0.length, 50 ≤ (F0[i]'hj).toNat from fun i hi => by
    have h1 : i < (B32.enc B32.alpha l).length := by omega
    refine ⟨by omega, ?_⟩
    have e : F0[i]'(by omega) = (B32.enc B32.alpha l)[i] := by
      have h2 := HFt.out.2.2 i h1
      rw [Nat.zero_add] at h2
      exact (List.getElem?_eq_some_iff.1 h2).2
    rw [e]
    exact (enc32_min l i h1).1)
  clear h hK hN hC hF0
  go_enter Tryz.func150, Tryz.ntmps150
  go_upto_block 0 with fail
  go_cut [6] (fun s6 wx => s6 = .int .i64 (N : Int) ∧ Hid (Bm wx gb t (bvs F0).toArray) ∧ Hid (w.grownBy wx (some gb)))
  case first =>
    go_wp2_with fail
    go_loopw [6, 11] (fun s6 s11 wr => ∃ i : Nat, i ≤ N ∧ s6 = .int .i64 (i : Int) ∧ s11 = .int .i64 (i : Int) ∧ Hid (Bm wr gb t (bvs F0).toArray) ∧ Hid (w.grownBy wr (some gb))) (fun _ s11 _ => N - (intOf s11).toNat)
    case atStart => exact ⟨0, Nat.zero_le _, rfl, rfl, HK, Lib.hid (grown_refl w (some gb))⟩
    case round =>
      obtain ⟨i, hi, rfl, rfl, KB, HG⟩ := hrel
      by_cases hlt : i < N
      · obtain ⟨hj, h50⟩ := Hmin.out i hlt
        obtain ⟨y, hy⟩ : ∃ y, y = F0[i].toNat := ⟨_, rfl⟩
        have hc : wr.cell? ⟨gb, i, none⟩ = some (.int .u8 (y : Int)) := by rw [bmLies KB.out hj, hy, bv]
        have hf := bmFree KB.out hj
        have y255 : y ≤ 255 := by rw [hy]; have := UInt8.toNat_lt F0[i]; omega
        have KB2 := Lib.hid (show Bm (wr.setCell ⟨gb, i, none⟩ (.int .u8 (y : Int))) gb t (bvs F0).toArray by
          have h1 := bmSet (k := i) (n := y) KB.out (x := (y : Int)) (by omega)
          rw [hy, UInt8.ofNat_toNat, List.set_getElem_self] at h1
          rw [hy]
          exact h1)
        have HG2 := Lib.hid (grown_setCell HG.out (p := ⟨gb, i, none⟩) (.inl rfl) (.int .u8 (y : Int)))
        have q10 : ((y : Int) == 10) = false := by simp; omega
        have q13 : ((y : Int) == 13) = false := by simp; omega
        have i1 : (i : Int) < (N : Int) := by omega
        clear hy KB HG
        go_wp2_with fail
        exact ⟨⟨i + 1, by omega, by go_num, by go_num, KB2, HG2⟩, by simp [intOf]; omega⟩
      · obtain rfl : i = N := by omega
        go_wp2_with fail
        go_meet
        exact ⟨rfl, KB, HG⟩
  case rest =>
    obtain ⟨rfl, KB, HG⟩ := hcut
    obtain ⟨w1, rfl⟩ : ∃ x : World, x = wc := ⟨_, rfl⟩
    have H1 := Lib.hid (H.out.kept HG.out hg)
    clear H HK
    go_wp2_with fail
    refine (dec32 H1.out KB.out HFt.out HN.out hNC hl0 hl hg).mono ?_
    rintro e w2 ⟨rfl, hF, hgr⟩
    have HF := Lib.hid hF
    have HG2 := Lib.hid (HG.out.trans hgr)
    clear hF hgr
    go_wp2_with fail
    go_ret2
    exact ⟨rfl, HF.out, HG2.out⟩
set_option maxHeartbeats 1000000 in
theorem decString (h : Enc32 w g upAlpha (mapK upAlpha 32) (-1)) (hl0 : l ≠ []) (hl : l.length ≤ 1000) :
    Calls Tryz.prog 130 #[.pointer (some ⟨g, 0, none⟩), .string (strOf (B32.enc B32.alpha l))] w fun e w' => BsNil w l e w' := by
  have hlen := B32.enc_length B32.alpha l
  have hl1 : 0 < l.length := List.length_pos_iff.2 hl0
  obtain ⟨w1, c, Z, hr, hb, hc, hB, hcm⟩ := conv_row w (B32.enc B32.alpha l) (by omega) (src := 9) Tryz.underlying9
  obtain ⟨N, hN⟩ : ∃ N, N = (B32.enc B32.alpha l).length := ⟨_, rfl⟩
  have hgw : g < w.heap.size := World.block_lt_of_cell? w _ h.str
  have HD := Lib.hid (decInPlace (w := w1) (g := g) (gb := w.heap.size) (l := l) (Z := Z) (N := N) (C := c) ⟨h.1, h.2.step hB⟩ hb hN (by rw [hN]; exact hc) (by omega) (by omega) (by omega))
  rw [← hN] at hr
  obtain ⟨S, hS⟩ : ∃ S, S = strOf (B32.enc B32.alpha l) := ⟨_, rfl⟩
  rw [← hS] at hr ⊢
  obtain ⟨gb, hgb⟩ : ∃ x, x = w.heap.size := ⟨_, rfl⟩
  rw [← hgb] at hr HD
  have HB := Lib.hid hB
  have Hgb := Lib.hid hgb
  have hlc : (l.length : Int) ≤ (c : Int) := by omega
  have Hlc := Lib.hid (show l.length ≤ c ∧ c ≤ 9223372036854775807 by omega)
  have Hll := Lib.hid hl
  obtain ⟨n, hn⟩ : ∃ n, n = l.length := ⟨_, rfl⟩
  have Hn := Lib.hid hn
  rw [← hn] at hlc HD
  clear h hb hB hS hN hgb hc hl0 hl1 hlen hn
  go_enter Tryz.func130, Tryz.ntmps130
  go_wp2_with fail
  refine HD.out.mono ?_
  rintro e w2 ⟨rfl, ⟨F, hF1, hF2, hF3⟩, hg⟩
  have X := Lib.hid (hF3.front (n := n) (c := c) hF2 Hn.out (by have := Hlc.out; have := Hn.out; omega) Hlc.out.2)
  have B2 := Lib.hid (below_grown HB.out hg (fun k e => by injection e with e; have := Hgb.out; omega))
  clear hF1 hF2 hF3 hg
  go_wp2_with fail
  go_ret2
  exact ⟨_, rfl, X.out, B2.out⟩
theorem rawStd (w : World) :
    Calls Tryz.prog 129 #[] w fun e w' => ∃ g, e = .returned (.pointer (some ⟨g, 0, none⟩)) ∧ Hid (Enc32 w' g upAlpha (mapK upAlpha 32) (-1)) ∧ Below w.heap.size w w' := by
  have H := Lib.hid (newEnc (w := w) (A := upAlpha) rfl)
  go_enter Tryz.func129, Tryz.ntmps129
  go_wp2_with fail
  refine H.out.mono ?_
  rintro e w1 ⟨rfl, hk, hb⟩
  have B := Lib.hid hb
  obtain ⟨Z, hZ⟩ : ∃ Z, Z = encCells upAlpha (mapK upAlpha 32) 61 := ⟨_, rfl⟩
  have hZs : Z.size = 258 := by rw [hZ]; exact encCells_size (mapK_length _ _)
  have KZ := Lib.hid (show Blk w1 w.heap.size 153 Z by rw [hZ]; exact hk.2)
  have Hi := Lib.hid (show (Tryz.prog.info? 153).map (·.size) = some Z.size by rw [hZs]; kernel_rfl)
  have HW := Lib.hid (withPad (w := w1) (A := upAlpha) (p := 61) (mapK_length upAlpha 32) (-1))
  rw [← hZ] at HW
  clear hk hb hZ hZs
  dsimp only
  rename_i hK
  refine hK _ _ ?_
  clear hK
  go_wp2_with (refine wpList_load_row rfl 153 _ (by rfl) w.heap.size (by rfl) 153 Z (0, 0) _ KZ.out Tryz.underlying153 rfl Hi.out ?_)
  refine HW.out.mono ?_
  rintro e w2 ⟨rfl, hk, hb⟩
  have K := Lib.hid hk
  have B2 := Lib.hid (below_trans B.out hb)
  clear hk hb
  go_wp2_with fail
  go_ret
  exact ⟨_, rfl, K, B2.out⟩
/-- a rune of seven bits -/
theorem decRune {x : UInt8} {r : List UInt8} (hx : x.toNat < 128) :
    Calls Tryz.prog 126 #[.string (strOf (x :: r))] w fun e w' => e = .returned (.tuple #[.int .i32 (x.toNat : Int), .int .i64 1]) ∧ w = w' := by
  have h0 := fun W => strIdx W (x :: r) 0 (by simp) .i64
  have hE : (strOf (x :: r)).toList.isEmpty = false := by rw [strOf_toList]; rfl
  obtain ⟨S, hS⟩ : ∃ S, S = strOf (x :: r) := ⟨_, rfl⟩
  obtain ⟨k, hk⟩ : ∃ k : Nat, k = x.toNat := ⟨_, rfl⟩
  rw [← hS] at h0 hE ⊢
  have h0' : ∀ W : World, (Instr.index 9 (.string S) (.int .i64 0)).run Tryz.prog W = .ok (.int .u8 (k : Int)) W := by rw [hk]; exact h0
  rw [← hk] at hx ⊢
  have hk1 : (k : Int) < 128 := by omega
  clear hS h0 hk hx
  go_enter Tryz.func126, Tryz.ntmps126
  go_wp2_with fail
  go_ret2
  exact ⟨rfl, rfl⟩
theorem decAlpha (ha : Blk w g 158 (alphaCells (decV 58))) (hl0 : l ≠ []) (hl : l.length ≤ 1000) :
    Calls Tryz.prog 135 #[.string (strOf (B58.enc l)), .pointer (some ⟨g, 0, none⟩)] w fun e w' => BsNil w l e w' := by
  have HF := Lib.hid (fastDec ha hl0 hl)
  obtain ⟨S, hS⟩ : ∃ S, S = strOf (B58.enc l) := ⟨_, rfl⟩
  rw [← hS] at HF ⊢
  clear hS hl0 ha
  go_enter Tryz.func135, Tryz.ntmps135
  go_wp2_with fail
  refine HF.out.mono ?_
  rintro e w2 ⟨v2, rfl, hbs, hb2⟩
  have X := Lib.hid hbs
  clear hbs
  go_wp2_with fail
  go_ret2
  exact ⟨v2, rfl, X.out, hb2⟩
end
end Go.Proofs.YteodhonipbdplaaGreatDoor

/- Type and Hash of a CID; CidFromBytes, Cast, FromCid. -/
namespace Go.Proofs.YteodhonipbdplaaGreatDoor
open Go.RowKit
set_option maxRecDepth 100000
section
variable {w : World} {n c : Nat} {l m : List UInt8} {A : Option Addr}
theorem uv_one {x : UInt8} {r : List UInt8} (h : x.toNat < 128) : Mh.uv (x :: r) = some (x.toNat, 1) := by
  unfold Mh.uv Mh.uvGo
  rw [if_neg (by omega), if_pos h, if_neg (by omega)]
  simp
/-- a number's first byte tells it -/
theorem uvFirst {x : UInt8} {r : List UInt8} {e : Ending} (h : x.toNat < 128) (hu : UvAns (x :: r) e) : e = .returned (.tuple #[.int .u64 (x.toNat : Int), .int .i64 1, .nilIface]) := by
  rcases hu with ⟨h1, _⟩ | ⟨y, k, h1, rfl⟩
  · rw [uv_one h] at h1; cases h1
  · rw [uv_one h] at h1
    simp only [Option.some.injEq, Prod.mk.injEq] at h1
    obtain ⟨rfl, rfl⟩ := h1
    rfl
theorem strFrom1 {x : UInt8} {r : List UInt8} (W : World) : (Instr.slice 9 (.string (strOf (x :: r))) (some (.int .i64 1)) none none).run Tryz.prog W = .ok (.string (strOf r)) W := by
  rw [run_slice_string_l W 9 (strOf (x :: r)) Tryz.underlying9 .i64 1 (by omega) (by rw [strOf_size]; simp only [List.length_cons]; omega)]
  congr 2
  rw [strOf_size]
  show (strOf (x :: r)).extract 1 (x :: r).length = _
  rw [strOf_extract]
  simp
theorem cidType (x : UInt8) (hx0 : 0 < x.toNat) (hx : x.toNat < 18) (y : UInt8) (hy0 : 0 < y.toNat) (hy : y.toNat < 128) :
    Calls Tryz.prog 53 #[.agg #[.string (strOf (x :: y :: l))]] w fun e w' => e = .returned (.int .u64 (y.toNat : Int)) ∧ Below w.heap.size w w' := by
  have HV := Lib.hid (fun W => cidVersion (w := W) (l := y :: l) x (by omega))
  have H1 := Lib.hid (fun W => cidUv (w := W) (l := y :: l) x hx0 (by omega))
  have H2 := Lib.hid (fun W => cidUv (w := W) (l := l) y hy0 hy)
  have hs := fun W => strFrom1 (x := x) (r := y :: l) W
  obtain ⟨S, hS⟩ : ∃ S, S = strOf (x :: y :: l) := ⟨_, rfl⟩
  obtain ⟨S2, hS2⟩ : ∃ S, S = strOf (y :: l) := ⟨_, rfl⟩
  obtain ⟨k, hk⟩ : ∃ k : Nat, k = y.toNat := ⟨_, rfl⟩
  obtain ⟨k1, hk1⟩ : ∃ k : Nat, k = x.toNat := ⟨_, rfl⟩
  rw [← hS] at HV H1 hs ⊢
  rw [← hS2] at H2 hs
  rw [← hk] at H2 ⊢
  rw [← hk1] at H1
  have B := Lib.hid (below_alloc w (.cells #[.string S] 41))
  have K := Lib.hid (Blk.new w 41 #[.string S])
  clear hS hS2 hk hk1 hx0 hx hy0 hy
  go_enter Tryz.func53, Tryz.ntmps53
  go_wp2_with fail
  refine (HV.out _).mono ?_
  rintro e w1 ⟨rfl, hb⟩
  have B1 := Lib.hid (below_trans B.out hb)
  have c0 : w1.cell? ⟨w.heap.size, 0, none⟩ = some (.string S) := (K.out.step hb).cell 0
  clear hb
  go_wp2_with fail
  refine (H1.out w1).mono ?_
  rintro e w2 ⟨rfl, rfl⟩
  go_wp2_with fail
  refine (H2.out w1).mono ?_
  rintro e w2 ⟨rfl, rfl⟩
  go_wp2_with fail
  go_ret
  exact ⟨rfl, B1.out⟩
theorem cidHash (he : VErr w) (x : UInt8) (hx : x.toNat < 18) (y : UInt8) (hy : y.toNat < 128) (hlen : l.length ≤ 1000) (hl : l ≠ []) :
    Calls Tryz.prog 54 #[.agg #[.string (strOf (x :: y :: l))]] w fun e w' => ∃ A n c, e = .returned (.slice A n c) ∧ Hid (Bs w' w'.heap.size (.slice A n c) l) ∧ Below w.heap.size w w' := by
  have He := Lib.hid he
  have HV := Lib.hid (fun W => cidVersion (w := W) (l := y :: l) x (by omega))
  have HBy := Lib.hid (fun W => cidBytes (w := W) (l := x :: y :: l) (by simp) (by simp; omega))
  have Hl := Lib.hid hl
  obtain ⟨S, hS⟩ : ∃ S, S = strOf (x :: y :: l) := ⟨_, rfl⟩
  rw [← hS] at HV HBy ⊢
  have B := Lib.hid (below_alloc w (.cells #[.string S] 41))
  have K := Lib.hid (Blk.new w 41 #[.string S])
  clear hS he hl
  go_enter Tryz.func54, Tryz.ntmps54
  go_wp2_with fail
  refine (HBy.out _).mono ?_
  rintro e w1 ⟨gb, c, rfl, hbs, hb, hc⟩
  have c0 : w1.cell? ⟨w.heap.size, 0, none⟩ = some (.string S) := (K.out.step hb).cell 0
  have K1 := Lib.hid (K.out.step hb)
  have B1 := Lib.hid (below_trans B.out hb)
  have H1 := Lib.hid hbs.out
  obtain ⟨N, hN⟩ : ∃ N, N = (x :: y :: l).length := ⟨_, rfl⟩
  rw [← hN] at H1 hc ⊢
  have hN2 : 2 ≤ N := by rw [hN]; simp
  have HN := Lib.hid hN
  clear hb hbs hN HBy
  go_wp2_with fail
  refine (HV.out w1).mono ?_
  rintro e w2 ⟨rfl, hb⟩
  have B2 := Lib.hid (below_trans B1.out hb)
  have H2 := Lib.hid (H1.out.step hb)
  clear hb H1 B1 c0 K1
  go_wp2_with fail
  refine (fromUvarint H2.out (He.out.step B2.out)).mono ?_
  rintro e w3 ⟨hu, hb⟩
  obtain rfl := uvFirst (by omega) hu
  have B3 := Lib.hid (below_trans B2.out hb)
  have H3 := Lib.hid (H2.out.step hb)
  obtain ⟨A1, hs1, hb1⟩ := slice_from (n := 1) H3.out (by omega)
  obtain ⟨A2, hs2, hb2⟩ := slice_from (n := 2) H3.out hN2
  have hs1' : ∀ W : World, (Instr.slice 23 (.slice (some ⟨gb, 0, none⟩) N c) (some (.int .i64 1)) none none).run Tryz.prog W = .ok (.slice A1 (N - 1) (c - 1)) W := fun W => hs1 W .i64
  have hs2' : ∀ W : World, (Instr.slice 23 (.slice (some ⟨gb, 0, none⟩) N c) (some (.int .i64 2)) none none).run Tryz.prog W = .ok (.slice A2 (N - 2) (c - 2)) W := fun W => hs2 W .i64
  have hq1 : (1 : Int) ≤ (c : Int) := by omega
  have hq2 : (2 : Int) ≤ (c : Int) := by omega
  have X1 := Lib.hid (show Bs w3 w3.heap.size (.slice A1 (N - 1) (c - 1)) (y :: l) from hb1)
  have X2 := Lib.hid (show Bs w3 w3.heap.size (.slice A2 (N - 2) (c - 2)) l from hb2)
  clear hb hu H2 B2 hs1 hs2 hb1 hb2 H3
  go_wp2_with fail
  refine (fromUvarint X1.out (He.out.step B3.out)).mono ?_
  rintro e w4 ⟨hu, hb⟩
  obtain rfl := uvFirst hy hu
  have B4 := Lib.hid (below_trans B3.out hb)
  have X4 := Lib.hid (X2.out.step hb)
  clear hb hu B3 X1 X2
  go_wp2_with fail
  go_ret
  exact ⟨_, _, _, rfl, X4, B4.out⟩
end
end Go.Proofs.YteodhonipbdplaaGreatDoor

/- MHFromBytes, CidFromBytes, Cast, FromCid, PeerOfCid. -/
namespace Go.Proofs.YteodhonipbdplaaGreatDoor
open Go.RowKit
set_option maxRecDepth 100000
section
variable {w : World} {n c N : Nat} {l m : List UInt8} {A : Option Addr} {v : Value}
theorem sliceHead (W : World) (A : Option Addr) (N c n : Nat) (hc : n ≤ c) : (Instr.slice 23 (.slice A N c) none (some (.int .i64 (n : Int))) none).run Tryz.prog W = .ok (.slice A n c) W := by
  obtain ⟨i0, hi, hz0, hz1, hz2⟩ := info_parts Tryz.info5
  have hs : Tryz.prog.elem 23 = 5 := by kernel_rfl
  have hu : Tryz.prog.underlying 23 = some (.slice (Tryz.prog.elem 23)) := by rw [hs]; exact Tryz.underlying23
  rw [run_slice_h W 23 A N c hu .i64 n (by omega) (by omega)]
  cases A <;> simp [hs, sizeOf, typeInfo, sliced, hi, hz1, Addr.add]
theorem sliceHead0 (W : World) (A : Option Addr) (N c n : Nat) (hc : n ≤ c) : (Instr.slice 23 (.slice A N c) (some (.int .i64 0)) (some (.int .i64 (n : Int))) none).run Tryz.prog W = .ok (.slice A n c) W := by
  obtain ⟨i0, hi, hz0, hz1, hz2⟩ := info_parts Tryz.info5
  have hs : Tryz.prog.elem 23 = 5 := by kernel_rfl
  have hu : Tryz.prog.underlying 23 = some (.slice (Tryz.prog.elem 23)) := by rw [hs]; exact Tryz.underlying23
  rw [run_slice_lh W 23 A N c hu .i64 .i64 0 n (by omega) (by omega) (by omega)]
  cases A <;> simp [hs, sizeOf, typeInfo, sliced, hi, hz1, Addr.add]
theorem mhFromBytes (h : Bs w w.heap.size (.slice A N c) m) (he : MErr w) (hN : N = m.length) (hok : Mh.ok m = true) (hm : m.length ≤ 1000) :
    Calls Tryz.prog 75 #[.slice A N c] w fun e w' => e = .returned (.tuple #[.int .i64 (N : Int), .slice A N c, .nilIface]) ∧ Below w.heap.size w w' := by
  obtain ⟨A2, N2, c2, e2, _, hc, _⟩ := h.form'
  injection e2 with e1 e2 e3
  subst e1 e2 e3
  have HR := Lib.hid (readMultihash h he (by omega))
  have HN := Lib.hid hN
  have Hok := Lib.hid hok
  have hs := fun W : World => sliceHead W A N c N hc
  have hnc : (N : Int) ≤ (c : Int) := by omega
  clear h he hN hok
  go_enter Tryz.func75, Tryz.ntmps75
  go_wp2_with fail
  refine HR.out.mono ?_
  rintro e w1 ⟨hb, ⟨h1, _⟩ | ⟨r, x, d, A', c', h1, hr, rfl, hd⟩⟩
  · have := ok_none h1; rw [Hok.out] at this; cases this
  have h2 := ok_some h1
  rw [Hok.out] at h2
  have h3 : m.length = r := of_decide_eq_true h2.symm
  obtain rfl : r = N := by rw [HN.out]; exact h3.symm
  have B := Lib.hid hb
  clear h1 hr hd h2 h3 hb HR
  generalize d.length = dl at *
  go_wp2_with fail
  go_quiet (fail)
  go_wp2_with fail
  go_ret3
  exact ⟨rfl, below_drewN B.out _⟩
theorem ok_long (h : Mh.ok m = true) : 2 ≤ m.length := by
  rcases Nat.lt_or_ge m.length 2 with h2 | h2
  · unfold Mh.ok Mh.read at h
    rw [if_pos h2] at h
    cases h
  · exact h2
set_option maxHeartbeats 1000000 in
theorem cidFromBytes (h : Bs w w.heap.size (.slice A N c) (1 :: 114 :: m)) (he : MErr w) (hN : N = (1 :: 114 :: m).length) (hok : Mh.ok m = true) (hm : m.length ≤ 1000) :
    Calls Tryz.prog 51 #[.slice A N c] w fun e w' => e = .returned (.tuple #[.int .i64 (N : Int), .agg #[.string (strOf (1 :: 114 :: m))], .nilIface]) ∧ Below w.heap.size w w' := by
  obtain ⟨A2, N2, c2, e2, _, hc, _⟩ := h.form'
  injection e2 with e1 e2 e3
  subst e1 e2 e3
  have H := Lib.hid h
  have He := Lib.hid he
  have Hok := Lib.hid hok
  have hlong := ok_long hok
  have hN3 : (2 : Int) < (N : Int) := by rw [hN]; simp only [List.length_cons]; omega
  have Hml := Lib.hid (show N = m.length + 2 by rw [hN]; simp)
  obtain ⟨gb, ob, rfl, hcell, _⟩ := h.at' (k := 0) (by simp)
  have c00 : w.cell? ⟨gb, ob, none⟩ = some (.int .u8 1) := hcell
  have hgl : gb < w.heap.size := World.block_lt_of_cell? w _ c00
  obtain ⟨gr, hgr⟩ : ∃ x, x = w.heap.size := ⟨_, rfl⟩
  have B1 := Lib.hid (below_alloc w (.cells #[.string { data := #[] }] 41))
  have K1 := Lib.hid (show Blk (w.alloc (.cells #[.string { data := #[] }] 41)) gr 41 #[.string { data := #[] }] by rw [hgr]; exact Blk.new _ _ _)
  have c0 : (w.alloc (.cells #[.string { data := #[] }] 41)).cell? ⟨gb, ob, none⟩ = some (.int .u8 1) := (B1.out.cell (p := ⟨gb, ob, none⟩) hgl).trans c00
  have H1 := Lib.hid (H.out.step B1.out)
  have HN := Lib.hid hN
  have Hgr := Lib.hid hgr
  have hN2 : (2 : Int) ≤ (N : Int) := by omega
  have hN0 : (0 : Int) < (N : Int) := by omega
  have hcc : (N : Int) ≤ (c : Int) := by omega
  clear h he hok hcell c00 H hgr hN
  go_enter Tryz.func51, Tryz.ntmps51
  go_wp2_with fail
  rw [← Hgr.out]
  generalize w.alloc (.cells #[.string { data := #[] }] 41) = w1 at *
  refine (fromUvarint H1.out (He.out.step B1.out).v).mono ?_
  rintro e w3 ⟨hu, hb⟩
  obtain rfl := uvFirst (show (1 : UInt8).toNat < 128 by decide) hu
  have B3 := Lib.hid (below_trans B1.out hb)
  have K3 := Lib.hid (K1.out.step hb)
  have H3 := Lib.hid (H1.out.step hb)
  obtain ⟨A1, hs1, hb1⟩ := slice_from (n := 1) H3.out (by omega)
  obtain ⟨A2, hs2, hb2⟩ := slice_from (n := 2) H3.out (by omega)
  have hs1' : ∀ W : World, (Instr.slice 23 (.slice (some ⟨gb, ob, none⟩) N c) (some (.int .i64 1)) none none).run Tryz.prog W = .ok (.slice A1 (N - 1) (c - 1)) W := fun W => hs1 W .i64
  have hs2' : ∀ W : World, (Instr.slice 23 (.slice (some ⟨gb, ob, none⟩) N c) (some (.int .i64 2)) none none).run Tryz.prog W = .ok (.slice A2 (N - 2) (c - 2)) W := fun W => hs2 W .i64
  have X1 := Lib.hid (show Bs w3 w3.heap.size (.slice A1 (N - 1) (c - 1)) (114 :: m) from hb1)
  have X2 := Lib.hid (show Bs w3 w3.heap.size (.slice A2 (N - 2) (c - 2)) m from hb2)
  have hsF : ∀ W : World, (Instr.slice 23 (.slice (some ⟨gb, ob, none⟩) N c) (some (.int .i64 0)) (some (.int .i64 (2 + ((N - 2 : Nat) : Int)))) none).run Tryz.prog W = .ok (.slice (some ⟨gb, ob, none⟩) N c) W := fun W => by
    have := sliceHead0 W (some ⟨gb, ob, none⟩) N c N hc
    rw [show (N : Int) = 2 + ((N - 2 : Nat) : Int) by omega] at this
    exact this
  have Hcv := Lib.hid (fun (W : World) (h : Bs W W.heap.size (.slice (some ⟨gb, ob, none⟩) N c) (1 :: 114 :: m)) => conv_str h (dst := 9) Tryz.underlying9)
  clear hb hu B1 K1 H1 hs1 hs2 hb1 hb2 c0
  obtain ⟨q, hq⟩ : ∃ q, q = N - 2 := ⟨_, rfl⟩
  obtain ⟨c2, hc2⟩ : ∃ q, q = c - 2 := ⟨_, rfl⟩
  rw [← hq] at hs2' X2 hsF
  rw [← hc2] at hs2' X2
  have Hq := Lib.hid hq
  have hqm : q = m.length := by rw [hq, Hml.out]; omega
  have Hqm := Lib.hid hqm
  have hqb : (q : Int) ≤ 1000 := by omega
  clear hq hc2 hqm
  go_wp2_with fail
  refine (fromUvarint X1.out (He.out.step B3.out).v).mono ?_
  rintro e w4 ⟨hu, hb⟩
  obtain rfl := uvFirst (show (114 : UInt8).toNat < 128 by decide) hu
  have B4 := Lib.hid (below_trans B3.out hb)
  have K4 := Lib.hid (K3.out.step hb)
  have H4 := Lib.hid (H3.out.step hb)
  have X4 := Lib.hid (X2.out.step hb)
  clear hb hu B3 K3 H3 X1 X2
  go_wp2_with fail
  refine (mhFromBytes X4.out (He.out.step B4.out) Hqm.out Hok.out hm).mono ?_
  rintro e w5 ⟨rfl, hb⟩
  have B5 := Lib.hid (below_trans B4.out hb)
  have K5 := Lib.hid (K4.out.step hb)
  have H5 := Lib.hid (H4.out.step hb)
  have hcv := Hcv.out w5.drew H5.out.drew1
  obtain ⟨S, hS⟩ : ∃ S, S = strOf (1 :: 114 :: m) := ⟨_, rfl⟩
  have hcv2 := Hcv.out w5 H5.out
  rw [← hS] at hcv hcv2
  have HS := Lib.hid hS
  have c0 : w5.drew.cell? ⟨gr, 0, none⟩ = some (.string { data := #[] }) := K5.out.drew.cell 0
  have f0 := K5.out.drew.free 0
  have c02 : w5.cell? ⟨gr, 0, none⟩ = some (.string { data := #[] }) := K5.out.cell 0
  have f02 := K5.out.free 0
  have y0 : (w5.setCell ⟨gr, 0, none⟩ (.string S)).cell? ⟨gr, 0, none⟩ = some (.string S) := (K5.out.set 0 (.string S)).cell 0
  have HqN := Lib.hid (show (2 : Int) + (q : Int) = (N : Int) by rw [Hqm.out, Hml.out]; omega)
  have hcv3 := Hcv.out (w5.setCell ⟨gr, 0, none⟩ (.string S)).drew ((H5.out.keepBlk K5.out (fun u hu => by simp at hu; subst hu; exact fun _ _ h => by cases h) (grown_setCell (grown_refl w5 (some gr)) (p := ⟨gr, 0, none⟩) (.inl rfl) (.string S))).drew1)
  rw [← hS] at hcv3
  clear hb B4 K4 H4 X4 hs1' hs2' Hcv hS
  go_wp2_with fail
  go_region_held3 (fun W => (convert 23 9 (.slice (some ⟨gb, ob, none⟩) N c)).run Tryz.prog W = .ok (.string S) W) (with_reducible first | exact hcv | exact hcv3) (fail)
  go_wp2_with fail
  have y1 : (w5.setCell ⟨gr, 0, none⟩ (.string S)).drew.cell? ⟨gr, 0, none⟩ = some (.string S) := y0
  refine bodyPost_ret (by simp [results, Tryz.results51, go_sem, y1]; rfl) rfl ?_
  refine ⟨?_, (below_grown B5.out (grown_setCell (grown_refl w5 (some gr)) (p := ⟨gr, 0, none⟩) (.inl rfl) (.string S)) (fun k e => by injection e with e; have := Hgr.out; omega)).drew⟩
  rw [← HS.out, ← HqN.out]
set_option maxHeartbeats 1000000 in
theorem cidCast (h : Bs w w.heap.size (.slice A N c) (1 :: 114 :: m)) (he : MErr w) (hN : N = (1 :: 114 :: m).length) (hok : Mh.ok m = true) (hm : m.length ≤ 1000) :
    Calls Tryz.prog 32 #[.slice A N c] w fun e w' => e = .returned (.tuple #[.agg #[.string (strOf (1 :: 114 :: m))], .nilIface]) ∧ Below w.heap.size w w' := by
  obtain ⟨gr, hgr⟩ : ∃ x, x = w.heap.size := ⟨_, rfl⟩
  have B1 := Lib.hid (below_alloc w (.cells #[.string { data := #[] }] 41))
  have K1 := Lib.hid (show Blk (w.alloc (.cells #[.string { data := #[] }] 41)) gr 41 #[.string { data := #[] }] by rw [hgr]; exact Blk.new _ _ _)
  have HC := Lib.hid (cidFromBytes (h.step B1.out) (he.step B1.out) hN hok hm)
  have Hgr := Lib.hid hgr
  obtain ⟨S, hS⟩ : ∃ S, S = strOf (1 :: 114 :: m) := ⟨_, rfl⟩
  rw [← hS] at HC ⊢
  clear h he hN hok hgr hS
  go_enter Tryz.func32, Tryz.ntmps32
  go_wp2_with fail
  rw [← Hgr.out]
  generalize w.alloc (.cells #[.string { data := #[] }] 41) = w1 at *
  refine HC.out.mono ?_
  rintro e w2 ⟨rfl, hb⟩
  have B2 := Lib.hid (below_trans B1.out hb)
  have K2 := Lib.hid (K1.out.step hb)
  have hg2 := K2.out.lt
  obtain ⟨g5, hg5⟩ : ∃ x, x = w2.heap.size := ⟨_, rfl⟩
  have KC := Lib.hid (show Blk (w2.alloc (.cells #[.string S] 41)) g5 41 #[.string S] by rw [hg5]; exact Blk.new _ _ _)
  have B3 := Lib.hid (below_trans B2.out (below_alloc w2 (.cells #[.string S] 41)))
  have K3 := Lib.hid (K2.out.alloc (.cells #[.string S] 41))
  have c0 : (w2.alloc (.cells #[.string S] 41)).cell? ⟨gr, 0, none⟩ = some (.string { data := #[] }) := K3.out.cell 0
  have f0 := K3.out.free 0
  have y0 : ((w2.setCell ⟨gr, 0, none⟩ (.string S)).alloc (.cells #[.string S] 41)).cell? ⟨gr, 0, none⟩ = some (.string S) := ((K2.out.set 0 (.string S)).alloc _).cell 0
  have B4 := Lib.hid (below_trans (below_grown B2.out (grown_setCell (grown_refl w2 (some gr)) (p := ⟨gr, 0, none⟩) (.inl rfl) (.string S)) (fun k e => by injection e with e; have := Hgr.out; omega)) (below_alloc _ (.cells #[.string S] 41)))
  clear hb B1 K1 HC B2
  go_wp2_with fail
  refine bodyPost_ret (by simp [results, Tryz.results32, go_sem, y0]; rfl) rfl ?_
  exact ⟨rfl, B4.out⟩
theorem fromCid (he : VErr w) (hm : m.length ≤ 1000) (hm0 : m ≠ []) :
    Calls Tryz.prog 33 #[.agg #[.string (strOf (1 :: 114 :: m))]] w fun e w' => e = .returned (.tuple #[.string (strOf m), .nilIface]) ∧ Below w.heap.size w w' := by
  have He := Lib.hid he
  have HT := Lib.hid (fun W => cidType (w := W) (l := m) 1 (by decide) (by decide) 114 (by decide) (by decide))
  have HH := Lib.hid (fun W he => cidHash (w := W) (l := m) he 1 (by decide) 114 (by decide) hm hm0)
  obtain ⟨S, hS⟩ : ∃ S, S = strOf (1 :: 114 :: m) := ⟨_, rfl⟩
  rw [← hS] at HT HH ⊢
  have B := Lib.hid (below_alloc w (.cells #[.string S] 41))
  have K := Lib.hid (Blk.new w 41 #[.string S])
  clear hS he
  go_enter Tryz.func33, Tryz.ntmps33
  go_wp2_with fail
  refine (HT.out _).mono ?_
  rintro e w1 ⟨rfl, hb⟩
  have B1 := Lib.hid (below_trans B.out hb)
  have c0 : w1.cell? ⟨w.heap.size, 0, none⟩ = some (.string S) := (K.out.step hb).cell 0
  clear hb
  go_wp2_with fail
  refine (HH.out w1 (He.out.step B1.out)).mono ?_
  rintro e w2 ⟨A, n, c, rfl, hbs, hb⟩
  have hcv := conv_strM hbs.out (dst := 43) Tryz.underlying43
  have B2 := Lib.hid (below_trans B1.out hb)
  obtain ⟨S2, hS2⟩ : ∃ S, S = strOf m := ⟨_, rfl⟩
  rw [← hS2] at hcv
  have HS2 := Lib.hid hS2
  clear hb hbs hS2
  go_wp2_with fail
  go_ret2
  exact ⟨by rw [← HS2.out]; rfl, B2.out⟩
set_option maxHeartbeats 1000000 in
theorem peerOfCid (h : Bs w w.heap.size v (1 :: 114 :: m)) (he : MErr w) (hok : Mh.ok m = true) (hm : m.length ≤ 1000) :
    Calls Tryz.prog 10 #[v] w fun e w' => ∃ v', e = .returned (.tuple #[v', .bool true]) ∧ Bs w' w'.heap.size v' m ∧ Below w.heap.size w w' := by
  have H := Lib.hid h
  have He := Lib.hid he
  have Hok := Lib.hid hok
  have hm0 : m ≠ [] := by have := ok_long hok; intro e; rw [e] at this; simp at this
  have HF := Lib.hid (fun W he => fromCid (w := W) (m := m) he hm hm0)
  have HC := Lib.hid (fun W A N c h he hN => cidCast (w := W) (A := A) (N := N) (c := c) h he hN hok hm)
  have hlen : (1 :: 114 :: m).length ≤ 140737488355328 := by simp only [List.length_cons]; omega
  obtain ⟨S, hS⟩ : ∃ S, S = strOf (1 :: 114 :: m) := ⟨_, rfl⟩
  rw [← hS] at HF HC
  clear hS h he hok hm0
  go_enter Tryz.func10, Tryz.ntmps10
  go_wp2_with fail
  refine (bytesClone H.out hlen).mono ?_
  rintro e w1 ⟨v1, rfl, ho, hb⟩
  obtain ⟨A1, n1, c1, rfl, hn1, _, _⟩ := ho.bs.form'
  have B1 := Lib.hid hb
  have X1 := Lib.hid ho.bs
  clear ho hb H
  go_wp2_with fail
  refine (HC.out w1 A1 n1 c1 X1.out (He.out.step B1.out) hn1.out).mono ?_
  rintro e w2 ⟨rfl, hb⟩
  have B2 := Lib.hid (below_trans B1.out hb)
  clear hb X1 HC
  go_wp2_with fail
  have B3 := Lib.hid (below_trans B2.out (below_alloc w2 (.cells #[.string S] 41)))
  refine (HF.out _ (He.out.step B3.out).v).mono ?_
  rintro e w3 ⟨rfl, hb⟩
  have B4 := Lib.hid (below_trans B3.out hb)
  obtain ⟨w5, c5, hr, hbs, hbl, _, _⟩ := conv_bytes w3 m (by omega) (src := 43) Tryz.underlying43
  have X5 := Lib.hid hbs
  have B5 := Lib.hid (below_trans B4.out hbl)
  clear hb hbs hbl
  go_wp2_with fail
  go_ret2
  exact ⟨_, rfl, X5.out, B5.out⟩
end
end Go.Proofs.YteodhonipbdplaaGreatDoor

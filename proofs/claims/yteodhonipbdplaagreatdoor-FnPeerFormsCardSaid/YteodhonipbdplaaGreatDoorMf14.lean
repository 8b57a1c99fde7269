/- How the text of an ID begins: "Qm", or a one. -/
import Derived.Test.YteodhonipbdplaaGreatDoorMf01
import Derived.Test.YteodhonipbdplaaGreatDoorMf07
import Derived.Test.YteodhonipbdplaaGreatDoorMf08
import Derived.Test.YteodhonipbdplaaGreatDoorMf11
import Derived.Test.YteodhonipbdplaaGreatDoorMf12
import Derived.Test.YteodhonipbdplaaGreatDoorMf13
import Derived.Deep.RegionHeld3
import Derived.Deep.DrawnRows
import Derived.Lay
import Derived.Stop.Joined
namespace Go.Proofs.YteodhonipbdplaaGreatDoor
set_option maxRecDepth 100000
namespace B58
theorem dig_split {V k : Nat} (h : V / 58 ^ k ≠ 0) : ∃ ds : List UInt8, dig V = dig (V / 58 ^ k) ++ ds := by
  have hp : 0 < 58 ^ k := Nat.pow_pos (by omega)
  have hr := Nat.mod_lt V hp
  obtain ⟨h1, h2, h3, h4⟩ := dig_spec (V % 58 ^ k)
  have hlen : (dig (V % 58 ^ k)).length ≤ k := by
    by_cases h0 : V % 58 ^ k = 0
    · rw [h0, dig_zero]; simp
    · have h5 := h4 h0
      have h6 : 58 ^ ((dig (V % 58 ^ k)).length - 1) < 58 ^ k := by omega
      have := (Nat.pow_lt_pow_iff_right (a := 58) (by omega)).1 h6
      omega
  obtain ⟨ds, hds⟩ : ∃ ds, ds = List.replicate (k - (dig (V % 58 ^ k)).length) (0 : UInt8) ++ dig (V % 58 ^ k) := ⟨_, rfl⟩
  have hdl : ds.length = k := by rw [hds, List.length_append, List.length_replicate]; omega
  have hdd : Dig ds := by
    intro d hd
    rw [hds] at hd
    rcases List.mem_append.1 hd with h | h
    · rw [(List.mem_replicate.1 h).2]; decide
    · exact h1 d h
  have hdv : val ds = V % 58 ^ k := by rw [hds, val_zeros, h2]
  refine ⟨ds, ?_⟩
  have := dig_append h k ds hdl hdd
  rw [hdl, hdv] at this
  rw [← this]
  congr 1
  rw [Nat.mul_comm]
  exact (Nat.div_add_mod V (58 ^ k)).symm
theorem dig_1378 : dig 1378 = [23, 44] := by
  rw [dig_pos (by omega), show (1378 : Nat) / 58 = 23 by decide, dig_pos (by omega), show (23 : Nat) / 58 = 0 by decide, dig_zero]
  rfl
theorem enc_Qm {D : List UInt8} (hD : D.length = 32) : ∃ r, enc (18 :: 32 :: D) = 81 :: 109 :: r := by
  have hz : zeros (18 :: 32 :: D) = 0 := rfl
  have hv : num (18 :: 32 :: D) = 4640 * 256 ^ 32 + num D := by
    rw [num_cons, num_cons, List.length_cons, hD, show (18 : UInt8).toNat = 18 from rfl, show (32 : UInt8).toNat = 32 from rfl]
    have : (256 : Nat) ^ (32 + 1) = 256 * 256 ^ 32 := by rw [Nat.pow_succ, Nat.mul_comm]
    rw [this]
    omega
  have hl := num_lt D
  rw [hD] at hl
  have hq : num (18 :: 32 :: D) / 58 ^ 44 = 1378 := by
    rw [hv]
    have e : (4640 : Nat) * 256 ^ 32 = 1378 * 58 ^ 44 + (4640 * 256 ^ 32 - 1378 * 58 ^ 44) := by decide
    have e2 : (4640 : Nat) * 256 ^ 32 - 1378 * 58 ^ 44 + 256 ^ 32 < 58 ^ 44 := by decide
    rw [Nat.div_eq_iff (by decide)]
    generalize (256 : Nat) ^ 32 = X at *
    generalize (58 : Nat) ^ 44 = Y at *
    omega
  obtain ⟨ds, hds⟩ := dig_split (V := num (18 :: 32 :: D)) (k := 44) (by rw [hq]; decide)
  rw [hq, dig_1378] at hds
  refine ⟨ds.map letter, ?_⟩
  unfold enc
  rw [hz, hds]
  rfl
theorem enc_1 {x : UInt8} {D : List UInt8} : ∃ y r, enc (0 :: x :: D) = 49 :: y :: r := by
  have hz : zeros (0 :: x :: D) = zeros (x :: D) + 1 := by unfold zeros; simp
  have hl := digs_long (0 :: x :: D)
  rw [← enc_len] at hl
  simp only [List.length_cons] at hl
  have e : enc (0 :: x :: D) = 49 :: (List.replicate (zeros (x :: D)) 49 ++ (dig (num (0 :: x :: D))).map letter) := by
    unfold enc
    rw [hz, List.replicate_succ]
    rfl
  rw [e] at hl ⊢
  rw [List.length_cons] at hl
  cases h : List.replicate (zeros (x :: D)) 49 ++ (dig (num (0 :: x :: D))).map letter with
  | nil => rw [h] at hl; simp at hl
  | cons y r => exact ⟨y, r, rfl⟩
/-- how the text of an ID begins -/
def Begins (t : List UInt8) : Prop := (∃ r, t = 81 :: 109 :: r) ∨ ∃ y r, t = 49 :: y :: r
theorem made_begins {l : List UInt8} (hl : l.length = 32) {k : Nat} (hk : k % 4 ≠ 3) : Begins (enc (made l k)) := by
  unfold made
  split
  · exact .inl (enc_Qm (D := Sha.sum l) (sum_len l))
  · split
    · exact .inl (enc_Qm (D := l) hl)
    · split
      · exact .inr (enc_1 (x := UInt8.ofNat ((l.headD 0).toNat % 33)) (D := l.take ((l.headD 0).toNat % 33)))
      · exact absurd (by omega) hk
end B58
end Go.Proofs.YteodhonipbdplaaGreatDoor

/- A multihash as an ID. -/
namespace Go.Proofs.YteodhonipbdplaaGreatDoor
open Go.RowKit
set_option maxRecDepth 100000
/-- 'ID(hash)' -/
theorem conv_strM {w : World} {B : Nat} {v : Value} {l : List UInt8} (h : Bs w B v l) {dst : TypeId} (hd : Tryz.prog.underlying dst = some .string) : (convert 68 dst v).run Tryz.prog w = .ok (.string (strOf l)) w := by
  obtain ⟨A, c, rfl, h1, h2, h3⟩ := h
  rcases Nat.eq_zero_or_pos l.length with h0 | h0
  · have := List.length_eq_zero_iff.1 h0
    subst this
    rw [show ([] : List UInt8).length = 0 from rfl, run_convert_bytes_string w 68 dst 5 _ 0 c Tryz.underlying68 Tryz.underlying5 hd]
    cases A <;> simp [Conv.bytesToString, loadCells] <;> rfl
  · obtain ⟨g, o, rfl, _, hc⟩ := h3 h0
    have hs : strOf l = strOfNums (l.map fun u => (u.toNat : Int)) := by
      unfold strOf strOfNums
      congr 2
      rw [List.map_map]
      conv => lhs; rw [← List.map_id l]
      refine List.map_congr_left fun u _ => ?_
      simp
    rw [hs]
    refine run_convert_bytes_arg w 68 5 Tryz.underlying68 Tryz.underlying5 g o l.length c _ (by simp) (fun i hi => ?_) dst hd
    rw [hc i hi]
    simp [bv, List.getD, hi]
end Go.Proofs.YteodhonipbdplaaGreatDoor

/- The text of an ID told back: base58.Decode, FromB58String, peer.Decode; the forms of an ID. -/
namespace Go.Proofs.YteodhonipbdplaaGreatDoor
open Go.RowKit
set_option maxRecDepth 100000
section
variable {w : World} {l : List UInt8} {v : Value}
/-- a slice of the bytes, and no error -/
def BsNil (w : World) (l : List UInt8) (e : Ending) (w' : World) : Prop := ∃ v, e = .returned (.tuple #[v, .nilIface]) ∧ Bs w' w'.heap.size v l ∧ Below w.heap.size w w'
theorem fastDecB (hl0 : l ≠ []) (hl : l.length ≤ 1000) :
    Calls Tryz.prog 125 #[.string (strOf (B58.enc l))] w fun e w' => BsNil w l e w' := by
  have HF := Lib.hid (fun W ga ha => fastDec (w := W) (ga := ga) ha hl0 hl)
  obtain ⟨S, hS⟩ : ∃ S, S = strOf (B58.enc l) := ⟨_, rfl⟩
  rw [← hS] at HF ⊢
  clear hS hl0
  go_enter Tryz.func125, Tryz.ntmps125
  go_wp2_with fail
  refine (btcAlphabet w).mono ?_
  rintro e w1 ⟨g, rfl, hb, hbl, hg⟩
  have Hb := Lib.hid hb
  have Hbl := Lib.hid hbl
  clear hb hbl hg
  go_wp2_with fail
  refine (HF.out _ _ Hb.out).mono ?_
  rintro e w2 ⟨v2, rfl, hbs, hb2⟩
  have X := Lib.hid hbs
  clear hbs
  go_wp2_with fail
  go_ret2
  exact ⟨v2, rfl, X.out, below_trans Hbl.out hb2⟩
theorem b58Decode (hl0 : l ≠ []) (hl : l.length ≤ 1000) :
    Calls Tryz.prog 98 #[.string (strOf (B58.enc l))] w fun e w' => BsNil w l e w' := by
  have HF := Lib.hid (fun W => fastDecB (w := W) hl0 hl)
  obtain ⟨S, hS⟩ : ∃ S, S = strOf (B58.enc l) := ⟨_, rfl⟩
  rw [← hS] at HF ⊢
  clear hS hl0
  go_enter Tryz.func98, Tryz.ntmps98
  go_wp2_with fail
  refine (HF.out _).mono ?_
  rintro e w2 ⟨v2, rfl, hbs, hb2⟩
  have X := Lib.hid hbs
  clear hbs
  go_wp2_with fail
  go_ret2
  exact ⟨v2, rfl, X.out, hb2⟩
theorem fromB58 (he : MErr w) (hok : Mh.ok l = true) (hl0 : l ≠ []) (hl : l.length ≤ 1000) :
    Calls Tryz.prog 60 #[.string (strOf (B58.enc l))] w fun e w' => BsNil w l e w' := by
  have HF := Lib.hid (fun W => b58Decode (w := W) hl0 hl)
  have He := Lib.hid he
  have Hok := Lib.hid hok
  obtain ⟨S, hS⟩ : ∃ S, S = strOf (B58.enc l) := ⟨_, rfl⟩
  rw [← hS] at HF ⊢
  clear hS hl0 he hok
  go_enter Tryz.func60, Tryz.ntmps60
  go_wp2_with fail
  refine (HF.out _).mono ?_
  rintro e w2 ⟨v2, rfl, hbs, hb2⟩
  have X := Lib.hid hbs
  have B := Lib.hid hb2
  clear hbs hb2
  go_wp2_with fail
  refine (mhCast X.out (He.out.step B.out) (by omega)).mono ?_
  rintro e w3 ⟨hb, ⟨_, rfl⟩ | ⟨h1, _⟩⟩
  · have X3 := Lib.hid (X.out.step hb)
    have B3 := Lib.hid (below_trans B.out hb)
    clear hb
    go_wp2_with fail
    go_ret2
    exact ⟨v2, rfl, X3.out, B3.out⟩
  · rw [Hok.out] at h1; cases h1
/-- a text's beginning -/
theorem hasPre {S P : ByteArray} {b : Bool} (hle : P.size ≤ S.size) (_hS : S.size ≤ 100000) (hb : ((S.extract 0 P.size).toList == P.toList) = b) :
    Calls Tryz.prog 97 #[.string S, .string P] w fun e w' => e = .returned (.bool b) ∧ w = w' := by
  have hle2 : (P.size : Int) ≤ (S.size : Int) := by omega
  have Hb := Lib.hid hb
  clear hb
  go_enter Tryz.func97, Tryz.ntmps97
  go_wp2_with fail
  go_ret
  refine ⟨?_, rfl⟩
  rw [← Hb.out]
  rfl
theorem hasPrefix {S P : ByteArray} {b : Bool} (hle : P.size ≤ S.size) (hS : S.size ≤ 100000) (hb : ((S.extract 0 P.size).toList == P.toList) = b) :
    Calls Tryz.prog 59 #[.string S, .string P] w fun e w' => e = .returned (.bool b) ∧ w = w' := by
  have H := Lib.hid (hasPre (w := w) hle hS hb)
  clear hb
  go_enter Tryz.func59, Tryz.ntmps59
  go_wp2_with fail
  refine H.out.mono ?_
  rintro e w1 ⟨rfl, rfl⟩
  go_wp2_with fail
  go_ret
  exact ⟨rfl, rfl⟩
theorem extract2 (t p : List UInt8) (_h : p.length ≤ t.length) : ((strOf t).extract 0 p.length).toList = t.take p.length := by
  rw [strOf_extract, List.drop_zero, strOf_toList]
set_option maxHeartbeats 1000000 in
theorem decodeId (he : MErr w) (hok : Mh.ok l = true) (hl0 : l ≠ []) (hl : l.length ≤ 1000) (hb : B58.Begins (B58.enc l)) :
    Calls Tryz.prog 36 #[.string (strOf (B58.enc l))] w fun e w' => e = .returned (.tuple #[.string (strOf l), .nilIface]) ∧ Below w.heap.size w w' := by
  have HF := Lib.hid (fromB58 he hok hl0 hl)
  have hlen := enc_len_le l
  have hsz : (strOf (B58.enc l)).size ≤ 100000 := by rw [strOf_size]; omega
  obtain ⟨S2, hS2⟩ : ∃ S, S = strOf l := ⟨_, rfl⟩
  have HS2 := Lib.hid hS2
  obtain ⟨t, ht⟩ : ∃ t, t = B58.enc l := ⟨_, rfl⟩
  rw [← ht] at hb HF hsz ⊢
  rw [← hS2]
  clear he hok hl0 hlen ht hS2
  rcases hb with ⟨r, rfl⟩ | ⟨y, r, rfl⟩
  · have HQ := Lib.hid (hasPrefix (w := w) (S := strOf (81 :: 109 :: r)) (P := { data := #[81, 109] }) (b := true) (by rw [strOf_size]; simp; show 2 ≤ _; omega) hsz (by rw [show ({ data := #[81, 109] } : ByteArray) = strOf [81, 109] from rfl, strOf_size, extract2 _ [81, 109] (by simp), strOf_toList]; rfl))
    obtain ⟨S, hS⟩ : ∃ S, S = strOf (81 :: 109 :: r) := ⟨_, rfl⟩
    rw [← hS] at HF HQ ⊢
    clear hS hsz
    go_enter Tryz.func36, Tryz.ntmps36
    go_wp2_with fail
    refine HQ.out.mono ?_
    rintro e w1 ⟨rfl, rfl⟩
    go_wp2_with fail
    refine HF.out.mono ?_
    rintro e w2 ⟨v2, rfl, hbs, hb2⟩
    have hcv := conv_strM hbs (dst := 43) Tryz.underlying43
    rw [← HS2.out] at hcv
    obtain ⟨A, n, c, rfl, _, _, _⟩ := hbs.form'
    have B := Lib.hid hb2
    clear hbs hb2
    go_wp2_with fail
    go_ret2
    exact ⟨rfl, B.out⟩
  · have HQ := Lib.hid (hasPrefix (w := w) (S := strOf (49 :: y :: r)) (P := { data := #[81, 109] }) (b := false) (by rw [strOf_size]; simp; show 2 ≤ _; omega) hsz (by rw [show ({ data := #[81, 109] } : ByteArray) = strOf [81, 109] from rfl, strOf_size, extract2 _ [81, 109] (by simp), strOf_toList]; rfl))
    have H1 := Lib.hid (hasPrefix (w := w) (S := strOf (49 :: y :: r)) (P := { data := #[49] }) (b := true) (by rw [strOf_size]; simp; show 1 ≤ _; omega) hsz (by rw [show ({ data := #[49] } : ByteArray) = strOf [49] from rfl, strOf_size, extract2 _ [49] (by simp), strOf_toList]; rfl))
    obtain ⟨S, hS⟩ : ∃ S, S = strOf (49 :: y :: r) := ⟨_, rfl⟩
    rw [← hS] at HF HQ H1 ⊢
    clear hS hsz
    go_enter Tryz.func36, Tryz.ntmps36
    go_wp2_with fail
    refine HQ.out.mono ?_
    rintro e w1 ⟨rfl, rfl⟩
    go_wp2_with fail
    refine H1.out.mono ?_
    rintro e w1 ⟨rfl, rfl⟩
    go_wp2_with fail
    refine HF.out.mono ?_
    rintro e w2 ⟨v2, rfl, hbs, hb2⟩
    have hcv := conv_strM hbs (dst := 43) Tryz.underlying43
    rw [← HS2.out] at hcv
    obtain ⟨A, n, c, rfl, _, _, _⟩ := hbs.form'
    have B := Lib.hid hb2
    clear hbs hb2
    go_wp2_with fail
    go_ret2
    exact ⟨rfl, B.out⟩
end
end Go.Proofs.YteodhonipbdplaaGreatDoor

/- The forms of an ID: as bytes, as a text, and back; its size; that it is no empty one. -/
namespace Go.Proofs.YteodhonipbdplaaGreatDoor
open Go.RowKit
set_option maxRecDepth 100000
section
variable {w : World} {l : List UInt8} {v : Value} {g : Nat}
/-- bytes, and 'true' -/
def BsTrue (w : World) (l : List UInt8) (e : Ending) (w' : World) : Prop := ∃ v, e = .returned (.tuple #[v, .bool true]) ∧ Bs w' w'.heap.size v l ∧ Below w.heap.size w w'
theorem idMarshal (w : World) (l : List UInt8) (hl : l.length ≤ 1000) :
    Calls Tryz.prog 63 #[.string (strOf l)] w fun e w' => BsNil w l e w' := by
  obtain ⟨w1, c, hr, hb, hbl, hc, hm⟩ := conv_bytes w l (by omega) (src := 43) Tryz.underlying43
  have Hb := Lib.hid hb
  have Hbl := Lib.hid hbl
  clear hb hbl
  go_enter Tryz.func63, Tryz.ntmps63
  go_wp2_with fail
  go_ret2
  exact ⟨_, rfl, Hb.out, Hbl.out⟩
theorem idMarshalBinary (w : World) (l : List UInt8) (hl : l.length ≤ 1000) :
    Calls Tryz.prog 41 #[.string (strOf l)] w fun e w' => BsNil w l e w' := by
  have H := Lib.hid (idMarshal w l hl)
  obtain ⟨S, hS⟩ : ∃ S, S = strOf l := ⟨_, rfl⟩
  rw [← hS] at H ⊢
  clear hS
  go_enter Tryz.func41, Tryz.ntmps41
  go_wp2_with fail
  refine H.out.mono ?_
  rintro e w1 ⟨v1, rfl, hb, hbl⟩
  have X := Lib.hid hb
  clear hb
  go_wp2_with fail
  go_ret2
  exact ⟨_, rfl, X.out, hbl⟩
theorem idMarshalText (w : World) (l : List UInt8) (hl : l.length ≤ 1000) :
    Calls Tryz.prog 42 #[.string (strOf l)] w fun e w' => BsNil w (B58.enc l) e w' := by
  have H := Lib.hid (idString w l (by omega))
  have hlen := enc_len_le l
  obtain ⟨t, ht⟩ : ∃ t, t = B58.enc l := ⟨_, rfl⟩
  rw [← ht] at H hlen ⊢
  have HC := Lib.hid (fun W => conv_bytes W t (by omega) (src := 9) Tryz.underlying9)
  obtain ⟨S, hS⟩ : ∃ S, S = strOf l := ⟨_, rfl⟩
  obtain ⟨S2, hS2⟩ : ∃ S, S = strOf t := ⟨_, rfl⟩
  unfold Txt at H
  rw [← hS] at H ⊢
  rw [← hS2] at H HC
  clear hS hS2 ht
  go_enter Tryz.func42, Tryz.ntmps42
  go_wp2_with fail
  refine H.out.mono ?_
  rintro e w1 ⟨rfl, hbl⟩
  obtain ⟨w2, c, hr, hb, hbl2, hc, hm⟩ := HC.out w1
  have X := Lib.hid hb
  have B := Lib.hid (below_trans hbl hbl2)
  clear hb hbl hbl2
  go_wp2_with fail
  go_ret2
  exact ⟨_, rfl, X.out, B.out⟩
theorem peerBinary (h : Bs w w.heap.size v l) (hl : l.length ≤ 1000) :
    Calls Tryz.prog 21 #[v] w fun e w' => BsTrue w l e w' := by
  have hcv := conv_str h (dst := 43) Tryz.underlying43
  have H := Lib.hid (idMarshalBinary w l hl)
  obtain ⟨S, hS⟩ : ∃ S, S = strOf l := ⟨_, rfl⟩
  rw [← hS] at H hcv
  obtain ⟨A, n, c, rfl, _, _, _⟩ := h.form'
  clear hS h
  go_enter Tryz.func21, Tryz.ntmps21
  go_wp2_with fail
  refine H.out.mono ?_
  rintro e w1 ⟨v1, rfl, hb, hbl⟩
  have X := Lib.hid hb
  have B := Lib.hid hbl
  clear hb hbl
  go_wp2_with fail
  go_quiet (fail)
  go_wp2_with fail
  go_ret2
  exact ⟨_, rfl, X.out.drewN1 _, below_drewN B.out _⟩
theorem peerLetters (h : Bs w w.heap.size v l) (hl : l.length ≤ 1000) :
    Calls Tryz.prog 22 #[v] w fun e w' => BsTrue w (B58.enc l) e w' := by
  have hcv := conv_str h (dst := 43) Tryz.underlying43
  have H := Lib.hid (idMarshalText w l hl)
  obtain ⟨S, hS⟩ : ∃ S, S = strOf l := ⟨_, rfl⟩
  rw [← hS] at H hcv
  obtain ⟨A, n, c, rfl, _, _, _⟩ := h.form'
  clear hS h
  go_enter Tryz.func22, Tryz.ntmps22
  go_wp2_with fail
  refine H.out.mono ?_
  rintro e w1 ⟨v1, rfl, hb, hbl⟩
  have X := Lib.hid hb
  have B := Lib.hid hbl
  clear hb hbl
  go_wp2_with fail
  go_quiet (fail)
  go_wp2_with fail
  go_ret2
  exact ⟨_, rfl, X.out.drewN1 _, below_drewN B.out _⟩
/-- the cell of an ID -/
theorem idUnmarshal (h : Bs w w.heap.size v l) (he : MErr w) (hok : Mh.ok l = true) (hl : l.length ≤ 1000) {u : Value} (hg : Blk w g 43 #[u]) :
    Calls Tryz.prog 64 #[.pointer (some ⟨g, 0, none⟩), v] w fun e w' => e = .returned .nilIface ∧ ∃ w1, Below w.heap.size w w1 ∧ Blk w1 g 43 #[u] ∧ w' = w1.setCell ⟨g, 0, none⟩ (.string (strOf l)) := by
  have H := Lib.hid (idFromBytes h he (by omega))
  have K := Lib.hid hg
  have Hok := Lib.hid hok
  obtain ⟨S, hS⟩ : ∃ S, S = strOf l := ⟨_, rfl⟩
  unfold IdAns at H
  rw [← hS] at H ⊢
  obtain ⟨A, n, c, rfl, _, _, _⟩ := h.form'
  clear hS h hg he hok
  go_enter Tryz.func64, Tryz.ntmps64
  go_wp2_with fail
  refine H.out.mono ?_
  rintro e w1 ⟨hb, ⟨_, rfl⟩ | ⟨h1, _⟩⟩
  · have B := Lib.hid hb
    have K1 := Lib.hid (K.out.step hb)
    have c0 : w1.cell? ⟨g, 0, none⟩ = some u := K1.out.cell 0
    have f0 := K1.out.free 0
    clear hb
    go_wp2_with fail
    go_ret
    exact ⟨rfl, w1, B.out, K1.out, rfl⟩
  · rw [Hok.out] at h1; cases h1
theorem idUnmarshalBinary (h : Bs w w.heap.size v l) (he : MErr w) (hok : Mh.ok l = true) (hl : l.length ≤ 1000) {u : Value} (hg : Blk w g 43 #[u]) :
    Calls Tryz.prog 43 #[.pointer (some ⟨g, 0, none⟩), v] w fun e w' => e = .returned .nilIface ∧ ∃ w1, Below w.heap.size w w1 ∧ Blk w1 g 43 #[u] ∧ w' = w1.setCell ⟨g, 0, none⟩ (.string (strOf l)) := by
  have H := Lib.hid (idUnmarshal h he hok hl hg)
  obtain ⟨S, hS⟩ : ∃ S, S = strOf l := ⟨_, rfl⟩
  rw [← hS] at H ⊢
  obtain ⟨A, n, c, rfl, _, _, _⟩ := h.form'
  clear hS h hg he hok
  go_enter Tryz.func43, Tryz.ntmps43
  go_wp2_with fail
  refine H.out.mono ?_
  rintro e w2 ⟨rfl, w1, hb, hk, rfl⟩
  go_wp2_with fail
  go_ret
  exact ⟨rfl, w1, hb, hk, rfl⟩
theorem idUnmarshalText (h : Bs w w.heap.size v (B58.enc l)) (he : MErr w) (hok : Mh.ok l = true) (hl0 : l ≠ []) (hl : l.length ≤ 1000) (hbg : B58.Begins (B58.enc l)) {u : Value} (hg : Blk w g 43 #[u]) :
    Calls Tryz.prog 44 #[.pointer (some ⟨g, 0, none⟩), v] w fun e w' => e = .returned .nilIface ∧ ∃ w1, Below w.heap.size w w1 ∧ Blk w1 g 43 #[u] ∧ w' = w1.setCell ⟨g, 0, none⟩ (.string (strOf l)) := by
  have hcv := conv_str h (dst := 9) Tryz.underlying9
  have H := Lib.hid (decodeId he hok hl0 hl hbg)
  have K := Lib.hid hg
  obtain ⟨S, hS⟩ : ∃ S, S = strOf l := ⟨_, rfl⟩
  obtain ⟨T, hT⟩ : ∃ T, T = strOf (B58.enc l) := ⟨_, rfl⟩
  rw [← hS, ← hT] at H
  rw [← hS]
  rw [← hT] at hcv
  obtain ⟨A, n, c, rfl, _, _, _⟩ := h.form'
  clear hS h hg he hok hT hbg hl0
  go_enter Tryz.func44, Tryz.ntmps44
  go_wp2_with fail
  refine H.out.mono ?_
  rintro e w1 ⟨rfl, hb⟩
  have B := Lib.hid hb
  have K1 := Lib.hid (K.out.step hb)
  have c0 : w1.cell? ⟨g, 0, none⟩ = some u := K1.out.cell 0
  have f0 := K1.out.free 0
  clear hb
  go_wp2_with fail
  go_ret
  exact ⟨rfl, w1, B.out, K1.out, rfl⟩
theorem idSize (w : World) (l : List UInt8) (hl : l.length ≤ 1000) :
    Calls Tryz.prog 45 #[.string (strOf l)] w fun e w' => e = .returned (.int .i64 (l.length : Int)) ∧ Below w.heap.size w w' := by
  obtain ⟨w1, c, hr, hb, hbl, hc, hm⟩ := conv_bytes w l (by omega) (src := 43) Tryz.underlying43
  have Hbl := Lib.hid hbl
  clear hb hbl
  go_enter Tryz.func45, Tryz.ntmps45
  go_wp2_with fail
  go_ret
  exact ⟨rfl, Hbl.out⟩
theorem idValidate (w : World) (l : List UInt8) (hl0 : l ≠ []) :
    Calls Tryz.prog 46 #[.string (strOf l)] w fun e w' => e = .returned .nilIface ∧ w = w' := by
  have hE : (strOf l).toList.isEmpty = false := by rw [strOf_toList]; cases l with | nil => exact absurd rfl hl0 | cons x r => rfl
  obtain ⟨S, hS⟩ : ∃ S, S = strOf l := ⟨_, rfl⟩
  rw [← hS] at hE ⊢
  clear hS
  go_enter Tryz.func46, Tryz.ntmps46
  go_wp2_with fail
  go_ret
  exact ⟨rfl, rfl⟩
theorem peerSize (h : Bs w w.heap.size v l) (hl : l.length ≤ 1000) :
    Calls Tryz.prog 25 #[v] w fun e w' => e = .returned (.int .i64 (l.length : Int)) ∧ Below w.heap.size w w' := by
  have hcv := conv_str h (dst := 43) Tryz.underlying43
  have H := Lib.hid (idSize w l hl)
  obtain ⟨S, hS⟩ : ∃ S, S = strOf l := ⟨_, rfl⟩
  rw [← hS] at H hcv
  obtain ⟨A, n, c, rfl, _, _, _⟩ := h.form'
  clear hS h
  go_enter Tryz.func25, Tryz.ntmps25
  go_wp2_with fail
  refine H.out.mono ?_
  rintro e w1 ⟨rfl, hbl⟩
  go_wp2_with fail
  go_ret
  exact ⟨rfl, hbl⟩
theorem peerValid (h : Bs w w.heap.size v l) (hl0 : l ≠ []) :
    Calls Tryz.prog 26 #[v] w fun e w' => e = .returned (.bool true) ∧ w = w' := by
  have hcv := conv_str h (dst := 43) Tryz.underlying43
  have H := Lib.hid (idValidate w l hl0)
  obtain ⟨S, hS⟩ : ∃ S, S = strOf l := ⟨_, rfl⟩
  rw [← hS] at H hcv
  obtain ⟨A, n, c, rfl, _, _, _⟩ := h.form'
  clear hS h hl0
  go_enter Tryz.func26, Tryz.ntmps26
  go_wp2_with fail
  refine H.out.mono ?_
  rintro e w1 ⟨rfl, rfl⟩
  go_wp2_with fail
  go_ret
  exact ⟨rfl, rfl⟩
theorem peerOfBinary (h : Bs w w.heap.size v l) (he : MErr w) (hok : Mh.ok l = true) (hl : l.length ≤ 1000) :
    Calls Tryz.prog 23 #[v] w fun e w' => BsTrue w l e w' := by
  have HX := Lib.hid h
  have He := Lib.hid he
  have HU := Lib.hid (fun (W : World) (v : Value) (u : Value) (g : Nat) (h : Bs W W.heap.size v l) (he : MErr W) (hg : Blk W g 43 #[u]) => idUnmarshalBinary (w := W) h he hok hl hg)
  have HC := Lib.hid (fun W => conv_bytes W l (by omega) (src := 43) Tryz.underlying43)
  obtain ⟨S, hS⟩ : ∃ S, S = strOf l := ⟨_, rfl⟩
  rw [← hS] at HU HC
  obtain ⟨A, n, c, rfl, _, _, _⟩ := h.form'
  obtain ⟨g, hg⟩ : ∃ g, g = w.heap.size := ⟨_, rfl⟩
  have B0 := Lib.hid (below_alloc w (.cells #[.string { data := #[] }] 43))
  have K0 := Lib.hid (show Blk (w.alloc (.cells #[.string { data := #[] }] 43)) g 43 #[.string { data := #[] }] by rw [hg]; exact Blk.new _ _ _)
  have Hg := Lib.hid hg
  have X0 := Lib.hid (HX.out.step B0.out)
  clear hS h he hok hg HX
  go_enter Tryz.func23, Tryz.ntmps23
  go_wp2_with fail
  rw [← Hg.out]
  generalize w.alloc (.cells #[.string { data := #[] }] 43) = w0 at *
  refine (bytesClone X0.out (by omega)).mono ?_
  rintro e w1 ⟨v1, rfl, ho, hb⟩
  have B1 := Lib.hid (below_trans B0.out hb)
  have K1 := Lib.hid (K0.out.step hb)
  have X1 := Lib.hid ho.bs
  clear ho hb
  go_wp2_with fail
  refine (HU.out _ _ _ _ X1.out (He.out.step B1.out) K1.out).mono ?_
  rintro e w3 ⟨rfl, w2, hb, hk, rfl⟩
  have B2 := Lib.hid (below_trans B1.out hb)
  have B3 := Lib.hid (below_grown B2.out (grown_setCell (grown_refl w2 (some g)) (p := ⟨g, 0, none⟩) (.inl rfl) (.string S)) (fun k e => by injection e with e; have := Hg.out; omega))
  have c0 : (w2.setCell ⟨g, 0, none⟩ (.string S)).cell? ⟨g, 0, none⟩ = some (.string S) := (hk.set 0 (.string S)).cell 0
  obtain ⟨w4, c4, hr, hbs, hbl, _, _⟩ := HC.out (w2.setCell ⟨g, 0, none⟩ (.string S))
  rw [show (w2.setCell ⟨g, 0, none⟩ (.string S)).heap.size = w2.heap.size by simp] at hbs
  have X4 := Lib.hid hbs
  have B4 := Lib.hid (below_trans B3.out hbl)
  clear hb hk hbs hbl
  go_wp2_with fail
  go_ret2
  exact ⟨_, rfl, X4.out, B4.out⟩
theorem peerOfLetters (h : Bs w w.heap.size v (B58.enc l)) (he : MErr w) (hok : Mh.ok l = true) (hl0 : l ≠ []) (hl : l.length ≤ 1000) (hbg : B58.Begins (B58.enc l)) :
    Calls Tryz.prog 24 #[v] w fun e w' => BsTrue w l e w' := by
  have HX := Lib.hid h
  have He := Lib.hid he
  have hlen := enc_len_le l
  have HU := Lib.hid (fun (W : World) (v : Value) (u : Value) (g : Nat) (h : Bs W W.heap.size v (B58.enc l)) (he : MErr W) (hg : Blk W g 43 #[u]) => idUnmarshalText (w := W) h he hok hl0 hl hbg hg)
  have HC := Lib.hid (fun W => conv_bytes W l (by omega) (src := 43) Tryz.underlying43)
  obtain ⟨S, hS⟩ : ∃ S, S = strOf l := ⟨_, rfl⟩
  rw [← hS] at HU HC
  obtain ⟨A, n, c, rfl, _, _, _⟩ := h.form'
  obtain ⟨g, hg⟩ : ∃ g, g = w.heap.size := ⟨_, rfl⟩
  have B0 := Lib.hid (below_alloc w (.cells #[.string { data := #[] }] 43))
  have K0 := Lib.hid (show Blk (w.alloc (.cells #[.string { data := #[] }] 43)) g 43 #[.string { data := #[] }] by rw [hg]; exact Blk.new _ _ _)
  have Hg := Lib.hid hg
  have X0 := Lib.hid (HX.out.step B0.out)
  clear hS h he hok hg HX hbg hl0
  go_enter Tryz.func24, Tryz.ntmps24
  go_wp2_with fail
  rw [← Hg.out]
  generalize w.alloc (.cells #[.string { data := #[] }] 43) = w0 at *
  refine (bytesClone X0.out (by omega)).mono ?_
  rintro e w1 ⟨v1, rfl, ho, hb⟩
  have B1 := Lib.hid (below_trans B0.out hb)
  have K1 := Lib.hid (K0.out.step hb)
  have X1 := Lib.hid ho.bs
  clear ho hb
  go_wp2_with fail
  refine (HU.out _ _ _ _ X1.out (He.out.step B1.out) K1.out).mono ?_
  rintro e w3 ⟨rfl, w2, hb, hk, rfl⟩
  have B2 := Lib.hid (below_trans B1.out hb)
  have B3 := Lib.hid (below_grown B2.out (grown_setCell (grown_refl w2 (some g)) (p := ⟨g, 0, none⟩) (.inl rfl) (.string S)) (fun k e => by injection e with e; have := Hg.out; omega))
  have c0 : (w2.setCell ⟨g, 0, none⟩ (.string S)).cell? ⟨g, 0, none⟩ = some (.string S) := (hk.set 0 (.string S)).cell 0
  obtain ⟨w4, c4, hr, hbs, hbl, _, _⟩ := HC.out (w2.setCell ⟨g, 0, none⟩ (.string S))
  rw [show (w2.setCell ⟨g, 0, none⟩ (.string S)).heap.size = w2.heap.size by simp] at hbs
  have X4 := Lib.hid hbs
  have B4 := Lib.hid (below_trans B3.out hbl)
  clear hb hk hbs hbl
  go_wp2_with fail
  go_ret2
  exact ⟨_, rfl, X4.out, B4.out⟩
end
end Go.Proofs.YteodhonipbdplaaGreatDoor

/- The walk of FnPeerForms. -/
namespace Go.Proofs.YteodhonipbdplaaGreatDoor
open Go.RowKit
set_option maxRecDepth 100000
section
variable {w : World} {v0 v1 : Value} {l : List UInt8}
theorem bs32_size {l : List UInt8} (hl : l.length = 32) : (Tryz.prog.info? 22).map (·.size) = some (bvs l).toArray.size := by
  rw [show (bvs l).toArray.size = 32 by simp [bvs, hl]]; exact info32
theorem eqSame {B C : Nat} {v x : Value} (h : Bs w B v l) (k : Bs w C x l) :
    Calls Tryz.prog 11 #[v, x] w fun e w' => e = .returned (.bool true) ∧ w = w' :=
  (bytesEqual h k).mono fun e w' ⟨h1, h2⟩ => ⟨by rw [h1]; simp, h2⟩
set_option maxHeartbeats 8000000 in
theorem FnPeerForms_main {k : Nat} (hl : l.length = 32) (hk : k ≤ 255) (he : MErr w) :
    Calls Tryz.prog 6 #[.agg (bvs l).toArray, .int .u8 (k : Int)] w fun e w' => Yes w e w' := by
  obtain ⟨q, hq⟩ : ∃ q : Nat, (k : Int) % 3 = (q : Int) := ⟨k % 3, by omega⟩
  have hq2 : q ≤ 2 := by omega
  have hba := below_alloc w (.cells (bvs l).toArray 22)
  have K := Lib.hid (Blk.new w 22 (bvs l).toArray)
  have Hi32 := Lib.hid (bs32_size hl)
  have B := Lib.hid hba
  have He := Lib.hid (he.step hba)
  have Hlen := Lib.hid (made_len hl q)
  have Hok := Lib.hid (made_ok hl q)
  have Hbg := Lib.hid (B58.made_begins hl (k := q) (by omega))
  have HP := Lib.hid (fun W => peerMade W l hl q (by omega))
  clear hba he hl
  obtain ⟨m, hm⟩ : ∃ m, m = made l q := ⟨_, rfl⟩
  rw [← hm] at Hlen Hok HP Hbg
  clear hm
  have Hm0 := Lib.hid (show m ≠ [] by intro e; have := Hlen.out; rw [e] at this; simp at this)
  have Hml := Lib.hid (show m.length ≤ 1000 by have := Hlen.out; omega)
  have H58 := Lib.hid (fun (W : World) (v : Value) (h : Bs W W.heap.size v m) => peerBase58 (w := W) h (by have := Hml.out; omega))
  have Hel := Lib.hid (show (B58.enc m).length ≤ 10000 by have := enc_len_le m; have := Hml.out; omega)
  obtain ⟨T, hT⟩ : ∃ T, T = strOf (B58.enc m) := ⟨_, rfl⟩
  rw [← hT] at H58
  have HT := Lib.hid hT
  clear hT
  go_enter Tryz.func6, Tryz.ntmps6
  go_wp2_with ((refine wpList_load_row rfl 22 _ (by rfl) w.heap.size (by rfl) 22 (bvs l).toArray (0, 0) _ K.out Tryz.underlying22 rfl Hi32.out ?_))
  refine (HP.out _).mono ?_
  rintro e w1 ⟨v1, rfl, ho, hb⟩
  replace B := Lib.hid (below_trans B.out hb)
  replace He := Lib.hid (He.out.step hb)
  have X := Lib.hid ho.bs
  obtain ⟨A, n, c, rfl, hn, _, _⟩ := ho.bs.form'
  clear ho hb HP K Hi32
  go_wp2_with fail
  refine (bytesClone X.out (by have := Hml.out; omega)).mono ?_
  rintro e w2 ⟨v2, rfl, ho, hb⟩
  replace B := Lib.hid (below_trans B.out hb)
  replace He := Lib.hid (He.out.step hb)
  replace X := Lib.hid (X.out.step hb)
  have X2 := Lib.hid ho.bs
  clear ho hb
  go_wp2_with fail
  refine (peerBinary X2.out Hml.out).mono ?_
  rintro e w2 ⟨v3, rfl, hbs, hb⟩
  obtain ⟨A3, n3, c3, rfl, _, _, _⟩ := hbs.form'
  replace B := Lib.hid (below_trans B.out hb)
  replace He := Lib.hid (He.out.step hb)
  replace X := Lib.hid (X.out.step hb)
  have Yb := Lib.hid hbs
  clear hbs hb X2
  go_wp2_with fail
  refine (bytesClone X.out (by have := Hml.out; omega)).mono ?_
  rintro e w2 ⟨v2, rfl, ho, hb⟩
  replace B := Lib.hid (below_trans B.out hb)
  replace He := Lib.hid (He.out.step hb)
  replace X := Lib.hid (X.out.step hb)
  replace Yb := Lib.hid (Yb.out.step hb)
  have X2 := Lib.hid ho.bs
  clear ho hb
  go_wp2_with fail
  refine (peerLetters X2.out Hml.out).mono ?_
  rintro e w2 ⟨v4, rfl, hbs, hb⟩
  obtain ⟨A4, n4, c4, rfl, _, _, _⟩ := hbs.form'
  replace B := Lib.hid (below_trans B.out hb)
  replace He := Lib.hid (He.out.step hb)
  replace X := Lib.hid (X.out.step hb)
  replace Yb := Lib.hid (Yb.out.step hb)
  have Zs := Lib.hid hbs
  clear hbs hb X2
  go_wp2_with fail
  refine (bytesClone Yb.out (by have := Hml.out; omega)).mono ?_
  rintro e w2 ⟨v2, rfl, ho, hb⟩
  replace B := Lib.hid (below_trans B.out hb)
  replace He := Lib.hid (He.out.step hb)
  replace X := Lib.hid (X.out.step hb)
  replace Yb := Lib.hid (Yb.out.step hb)
  replace Zs := Lib.hid (Zs.out.step hb)
  have X2 := Lib.hid ho.bs
  clear ho hb
  go_wp2_with fail
  refine (peerOfBinary X2.out He.out Hok.out Hml.out).mono ?_
  rintro e w2 ⟨v5, rfl, hbs, hb⟩
  obtain ⟨A5, n5, c5, rfl, _, _, _⟩ := hbs.form'
  replace B := Lib.hid (below_trans B.out hb)
  replace He := Lib.hid (He.out.step hb)
  replace X := Lib.hid (X.out.step hb)
  replace Yb := Lib.hid (Yb.out.step hb)
  replace Zs := Lib.hid (Zs.out.step hb)
  have Px := Lib.hid hbs
  clear hbs hb X2
  go_wp2_with fail
  refine (bytesClone Zs.out (by have := Hel.out; omega)).mono ?_
  rintro e w2 ⟨v2, rfl, ho, hb⟩
  replace B := Lib.hid (below_trans B.out hb)
  replace He := Lib.hid (He.out.step hb)
  replace X := Lib.hid (X.out.step hb)
  replace Yb := Lib.hid (Yb.out.step hb)
  replace Zs := Lib.hid (Zs.out.step hb)
  replace Px := Lib.hid (Px.out.step hb)
  have X2 := Lib.hid ho.bs
  clear ho hb
  go_wp2_with fail
  refine (peerOfLetters X2.out He.out Hok.out Hm0.out Hml.out Hbg.out).mono ?_
  rintro e w5 ⟨v6, rfl, hbs, hb⟩
  obtain ⟨A6, n6, c6, rfl, _, _, _⟩ := hbs.form'
  replace B := Lib.hid (below_trans B.out hb)
  replace He := Lib.hid (He.out.step hb)
  replace X := Lib.hid (X.out.step hb)
  replace Yb := Lib.hid (Yb.out.step hb)
  replace Zs := Lib.hid (Zs.out.step hb)
  replace Px := Lib.hid (Px.out.step hb)
  have Qy := Lib.hid hbs
  clear hbs hb X2
  have hcv : (convert 23 9 (.slice A4 n4 c4)).run Tryz.prog w5.drew = .ok (.string T) w5.drew := by rw [HT.out]; exact conv_str Zs.out.drew1 Tryz.underlying9
  have Bd := Lib.hid (below_trans B.out (below_drew w5))
  have Hed := Lib.hid (He.out.step (below_drew w5))
  have Hcv := Lib.hid (fun (W : World) (h : Bs W W.heap.size (.slice A4 n4 c4) (B58.enc m)) => (show (convert 23 9 (.slice A4 n4 c4)).run Tryz.prog W = .ok (.string T) W by rw [HT.out]; exact conv_str h Tryz.underlying9))
  have HSz := Lib.hid (fun (W : World) (v : Value) (h : Bs W W.heap.size v m) => (show Calls Tryz.prog 25 #[v] W fun e w' => e = .returned (.int .i64 (n : Int)) ∧ Below W.heap.size W w' by rw [hn.out]; exact peerSize h Hml.out))
  clear B He
  go_upto_region 6 with fail
  go_region_held3 (fun W => (convert 23 9 (.slice A4 n4 c4)).run Tryz.prog W = .ok (.string T) W) (with_reducible first | exact hcv | exact hcv6 | exact hcv7 | exact hcv8 | exact hcv9 | exact hcv10) (first
    | (go_at_call 11; (with_reducible refine (eqSame Yb.out.drew1 X.out.drew1).mono ?_); rintro e we ⟨rfl, rfl⟩)
    | (go_at_call 20; (with_reducible refine (H58.out _ _ X.out.drew1).mono ?_); rintro e w6 ⟨rfl, hb⟩; have X6 := Lib.hid (X.out.drew1.step hb); have P6 := Lib.hid (Px.out.drew1.step hb); have Q6 := Lib.hid (Qy.out.drew1.step hb); have Z6 := Lib.hid (Zs.out.drew1.step hb); have hcv6 := Hcv.out _ Z6.out; have B6 := Lib.hid (below_trans Bd.out hb); have He6 := Lib.hid (Hed.out.step hb); clear hb)
    | (go_at_call 11; (with_reducible refine (eqSame P6.out X6.out).mono ?_); rintro e we ⟨rfl, rfl⟩)
    | (go_at_call 11; (with_reducible refine (eqSame Q6.out X6.out).mono ?_); rintro e we ⟨rfl, rfl⟩)
    | (go_at_call 9; (with_reducible refine (bytesClone X6.out (by have := Hml.out; omega)).mono ?_); rintro e w7 ⟨v7, rfl, ho, hb⟩; have X7 := Lib.hid (X6.out.step hb); have C7 := Lib.hid ho.bs; have Z7 := Lib.hid (Z6.out.step hb); have hcv7 := Hcv.out _ Z7.out; have B7 := Lib.hid (below_trans B6.out hb); have He7 := Lib.hid (He6.out.step hb); clear hb ho)
    | (go_at_call 25; (with_reducible refine (HSz.out _ _ C7.out).mono ?_); rintro e w8 ⟨rfl, hb⟩; have X8 := Lib.hid (X7.out.step hb); have Z8 := Lib.hid (Z7.out.step hb); have hcv8 := Hcv.out _ Z8.out; have B8 := Lib.hid (below_trans B7.out hb); have He8 := Lib.hid (He7.out.step hb); clear hb)
    | (go_at_call 9; (with_reducible refine (bytesClone X8.out (by have := Hml.out; omega)).mono ?_); rintro e w9 ⟨v9, rfl, ho, hb⟩; have C9 := Lib.hid ho.bs; have Z9 := Lib.hid (Z8.out.step hb); have hcv9 := Hcv.out _ Z9.out; have B9 := Lib.hid (below_trans B8.out hb); have He9 := Lib.hid (He8.out.step hb); clear hb ho)
    | (go_at_call 26; (with_reducible refine (peerValid C9.out Hm0.out).mono ?_); rintro e we ⟨rfl, rfl⟩)
    | (go_at_call 15; (with_reducible refine (peersLive He9.out).mono ?_); rintro e w10 ⟨rfl, hb⟩; have hcv10 := Hcv.out _ (Z9.out.step hb); have B10 := Lib.hid (below_trans B9.out hb); clear hb))
  go_wp2_with fail
  go_ret
  exact ⟨rfl, B10.out⟩
theorem walk_FnPeerForms {k : Int} (f0 : IsArr v0 32 l) (f1 : IsInt .u8 v1 k)
    (he : HasErr w 4 ∧ HasErr w 6 ∧ HasErr w 5 ∧ HasErr w 8 ∧ HasErr w 11 ∧ HasErr w 12) :
    Calls Tryz.prog 6 #[v0, v1] w fun e w' => Yes w e w' := by
  obtain ⟨rfl, hl⟩ := f0
  obtain ⟨rfl, a1, a2⟩ := isU8 f1
  obtain ⟨k, rfl⟩ := Int.eq_ofNat_of_zero_le a1
  exact FnPeerForms_main hl (by omega) ⟨⟨he.1, he.2.1, he.2.2.1⟩, he.2.2.2.1, he.2.2.2.2.1, he.2.2.2.2.2⟩
end
end Go.Proofs.YteodhonipbdplaaGreatDoor

/- The listed variables of the laws of peers: each holds an error. -/
namespace Go.Proofs.YteodhonipbdplaaGreatDoor
set_option maxRecDepth 100000
theorem Tryz.gVOver : Tryz.prog.globalNamed "pub-symmory/pub/govarint.ErrOverflow" = some 4 ∧ (Tryz.prog.globals[4]?).map (·.type) = some 46 := ⟨by kernel_rfl, by kernel_rfl⟩
theorem Tryz.gVUnder : Tryz.prog.globalNamed "pub-symmory/pub/govarint.ErrUnderflow" = some 6 ∧ (Tryz.prog.globals[6]?).map (·.type) = some 46 := ⟨by kernel_rfl, by kernel_rfl⟩
theorem Tryz.gVMin : Tryz.prog.globalNamed "pub-symmory/pub/govarint.ErrNotMinimal" = some 5 ∧ (Tryz.prog.globals[5]?).map (·.type) = some 46 := ⟨by kernel_rfl, by kernel_rfl⟩
theorem Tryz.gMShort : Tryz.prog.globalNamed "pub-symmory/pub/gomultihash.ErrTooShort" = some 8 ∧ (Tryz.prog.globals[8]?).map (·.type) = some 46 := ⟨by kernel_rfl, by kernel_rfl⟩
theorem Tryz.gMBuf : Tryz.prog.globalNamed "pub-symmory/pub/gomultihash.ErrVarintBufferShort" = some 11 ∧ (Tryz.prog.globals[11]?).map (·.type) = some 46 := ⟨by kernel_rfl, by kernel_rfl⟩
theorem Tryz.gMLong : Tryz.prog.globalNamed "pub-symmory/pub/gomultihash.ErrVarintTooLong" = some 12 ∧ (Tryz.prog.globals[12]?).map (·.type) = some 46 := ⟨by kernel_rfl, by kernel_rfl⟩
end Go.Proofs.YteodhonipbdplaaGreatDoor

/- A witness for a row over stops whose world lays every listed datum, great tables too. -/
namespace Go.Proofs.YteodhonipbdplaaGreatDoor
theorem witnessZip {H : Type} {enc : TypeId × Value → H} {C : Checked} {os : Os} {f : FuncId} {fn : Func} {s : OpenSpec} {laid : List (String × DataW Unit)} (w0 : World) (args : Array Value) (hos : w0.os = os)
    (hs : (w0.forCall (fun _ _ => 0) ⟨#[], args, []⟩).Shaped C.prog) (hok : Input.okWideB C.prog (w0.forCall (fun _ _ => 0) ⟨#[], args, []⟩) f ⟨#[], args, []⟩ = true)
    (hrow : s.preRow enc C.prog fn [] false laid (w0.forCall (fun _ _ => 0) ⟨#[], args, []⟩).memory args) (F : Stop.Interp) :
    ∃ (w : World) (tape : Tape) (i : Input), w.os = os ∧ (w.forCall tape i).Shaped C.prog ∧ i.vars = [] ∧ Input.okWide C.prog (w.forCall tape i) .any w.heap.size f i ∧
      s.preRow enc C.prog fn [] false laid (w.forCall tape i).memory i.args ∧ ({} : Assume).holds C.prog (lone (Frame.enter C.prog f i.args .normal) [] (w.forCall tape i)) ∧ F.answers tape := by
  have h1 := Input.okWide_of_okWideB (base := 0) hok
  have h2 := Input.okWide_of_okWideB (base := w0.heap.size) hok
  refine ⟨w0, F.over fun _ _ => 0, ⟨#[], args, []⟩, hos, hs, h1.1, h2.2, hrow, ?_, F.over_answers _⟩
  simp only [Assume.holds]
  exact ⟨by simp, by simp, fun _ => F.over_modest Modest.zero, by simp, by simp⟩
end Go.Proofs.YteodhonipbdplaaGreatDoor

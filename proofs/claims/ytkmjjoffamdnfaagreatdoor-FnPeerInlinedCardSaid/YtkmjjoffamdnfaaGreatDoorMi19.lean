/- multihash.Sum, MarshalPublicKey, IDFromPublicKey, PeerOfKey. -/
import Derived.Test.YtkmjjoffamdnfaaGreatDoorMi01
import Derived.Test.YtkmjjoffamdnfaaGreatDoorMi15
import Derived.Test.YtkmjjoffamdnfaaGreatDoorMi18
namespace Go.Proofs.YtkmjjoffamdnfaaGreatDoor
open Go.RowKit
set_option maxRecDepth 100000
theorem Bs.form0 {w : World} {B n c : Nat} {A : Option Addr} {l : List UInt8} (h : Bs w B (.slice A n c) l) (hl : 0 < l.length) : ∃ gp op, A = some ⟨gp, op, none⟩ ∧ gp < B := by
  obtain ⟨A2, c2, he, h1, hc, hcell⟩ := h
  injection he with e1 e2 e3
  obtain ⟨g2, o2, hA, hlt, _⟩ := hcell hl
  exact ⟨g2, o2, by rw [e1, hA], hlt⟩
/-- 'ID(hash)' -/
theorem conv_strM {w : World} {B : Nat} {v : Value} {l : List UInt8} (h : Bs w B v l) {dst : TypeId} (hd : Tryz.prog.underlying dst = some .string) : (convert 74 dst v).run Tryz.prog w = .ok (.string (strOf l)) w := by
  obtain ⟨A, c, rfl, h1, h2, h3⟩ := h
  rcases Nat.eq_zero_or_pos l.length with h0 | h0
  · have := List.length_eq_zero_iff.1 h0
    subst this
    rw [show ([] : List UInt8).length = 0 from rfl, run_convert_bytes_string w 74 dst 5 _ 0 c Tryz.underlying74 Tryz.underlying5 hd]
    cases A <;> simp [Conv.bytesToString, loadCells] <;> rfl
  · obtain ⟨g, o, rfl, _, hc⟩ := h3 h0
    have hs : strOf l = strOfNums (l.map fun u => (u.toNat : Int)) := by
      unfold strOf strOfNums
      congr 2
      rw [List.map_map]
      conv => lhs; rw [← List.map_id l]
      refine List.map_congr_left fun u _ => ?_
      simp
    rw [hs]
    refine run_convert_bytes_arg w 74 5 Tryz.underlying74 Tryz.underlying5 g o l.length c _ (by simp) (fun i hi => ?_) dst hd
    rw [hc i hi]
    simp [bv, List.getD, hi]
/-- the ID of a message -/
def idOf (K : List Nat) (m : List UInt8) : List UInt8 := if m.length ≤ 42 then 0 :: UInt8.ofNat m.length :: m else 18 :: 32 :: Sha.sumK K m
section
variable {w : World} {g n c gp op x : Nat} {l : List UInt8} {K : List Nat} {A : Option Addr} {k : Int}
set_option maxHeartbeats 1000000 in
theorem mhSumSha (hK : K.length = 64) (hKs : Sha.Small K) (hk : Blk w 19 100 (u32s K).toArray)
    (h : Bs w w.heap.size (.slice A n c) l) (hn : n = l.length) (hn0 : 0 < n) (hn1 : n ≤ 60000) :
    Calls Tryz.prog 36 #[.slice A n c, .int .u64 18, .int .i64 (-1)] w fun e w' => Tup1 w (18 :: 32 :: Sha.sumK K l) e w' := by
  obtain ⟨gp, op, rfl, hgp⟩ := h.form0 (by omega)
  have HK := Lib.hid (And.intro hK hKs)
  have Hk := Lib.hid hk
  have H := Lib.hid h
  have Hn := Lib.hid hn
  have hm1 := methodShaWrite
  have hklt := hk.lt
  clear hK hKs hk h hn
  go_enter Tryz.func36, Tryz.ntmps36
  go_wp2_with fail
  refine (hasherSha w).mono ?_
  rintro e w1 ⟨rfl, hd, hb⟩
  have HD := Lib.hid hd
  have Hk1 := Lib.hid (Hk.out.step hb)
  have H1 := Lib.hid (H.out.step hb)
  have B1 := Lib.hid hb
  clear hd hb Hk H
  go_wp2_with fail
  refine (digWrite0 Sha.init_ok HK.out.1 HK.out.2 (by omega) Hk1.out HD.out (Sha.Fed.new (K := K)) H1.out Hn.out hn0 hn1 (by omega) (by omega)).mono ?_
  rintro e w2 ⟨rfl, ⟨V2, X2, nx2, hv2, hd2, hf2⟩, hg2⟩
  rw [← Hn.out, Nat.zero_add] at hd2 hf2
  rw [List.nil_append] at hf2
  have HD2 := Lib.hid hd2
  have HF2 := Lib.hid hf2
  have HV2 := Lib.hid hv2
  have Hk2 := Lib.hid (Hk1.out.grown hg2 (by intro e; injection e with e; omega))
  have B2 := Lib.hid (below_grown B1.out hg2 (fun k e => by injection e with e; omega))
  clear hd2 hf2 hv2 hg2 HD Hk1 B1 H1
  go_wp2_with fail
  refine (encodeSha HV2.out HK.out.1 HK.out.2 Hk2.out HD2.out HF2.out (by omega)).mono ?_
  rintro e w3 ⟨v', rfl, ho, hb⟩
  have HO := Lib.hid ho
  have hsz := B2.out.size
  have B3 := Lib.hid (below_trans B2.out hb)
  clear ho hb
  go_wp2_with fail
  go_ret2
  exact ⟨v', rfl, HO.out.more hsz, B3.out⟩
set_option maxHeartbeats 1000000 in
theorem mhSumId (h : Bs w w.heap.size (.slice A n c) l) (hn : n = l.length) (hn0 : 0 < n) (hn1 : n ≤ 64) :
    Calls Tryz.prog 36 #[.slice A n c, .int .u64 0, .int .i64 (-1)] w fun e w' => Tup1 w (0 :: UInt8.ofNat n :: l) e w' := by
  obtain ⟨gp, op, rfl, hgp⟩ := h.form0 (by omega)
  have H := Lib.hid h
  have Hn := Lib.hid hn
  have hm1 := methodIdWrite
  clear h hn
  go_enter Tryz.func36, Tryz.ntmps36
  go_wp2_with fail
  refine (hasherId w).mono ?_
  rintro e w1 ⟨rfl, hd, hb⟩
  have HD := Lib.hid hd
  have H1 := Lib.hid (H.out.step hb)
  have B1 := Lib.hid hb
  clear hd hb H
  go_wp2_with fail
  refine (bufWrite HD.out H1.out (by omega) Hn.out hn0 hn1).mono ?_
  rintro e w2 ⟨rfl, ⟨gb, hb2, hp2⟩, hg2⟩
  have HB2 := Lib.hid hb2
  have HP2 := Lib.hid hp2
  have B2 := Lib.hid (below_grown B1.out hg2 (fun k e => by injection e with e; omega))
  clear hb2 hp2 hg2 HD H1 B1
  go_wp2_with fail
  refine (encodeId HB2.out HP2.out Hn.out hn0 hn1).mono ?_
  rintro e w3 ⟨v', rfl, ho, hb⟩
  have HO := Lib.hid ho
  have hsz := B2.out.size
  have B3 := Lib.hid (below_trans B2.out hb)
  clear ho hb
  go_wp2_with fail
  go_ret2
  exact ⟨v', rfl, HO.out.more hsz, B3.out⟩
theorem marshalPub {d : List UInt8} (hg : Blk w g 87 #[.int .i32 k, .slice A n c]) (h : Bs w w.heap.size (.slice A n c) d) (hn0 : 0 < d.length) (hle : d.length ≤ 100000) (hk1 : -2147483648 ≤ k) (hk2 : k ≤ 2147483647) :
    Calls Tryz.prog 35 #[.iface 41 (.pointer (some ⟨g, 0, none⟩))] w fun e w' => Tup1 w (keyEnc k d) e w' := by
  obtain ⟨gp, op, rfl, hgp⟩ := h.form0 hn0
  have H := Lib.hid h
  have HG := Lib.hid hg
  clear h hg
  go_enter Tryz.func35, Tryz.ntmps35
  go_wp2_with fail
  refine (toProto HG.out).mono ?_
  rintro e w1 ⟨gk, gm, rfl, hgk, hgm, hbk, hbm, hb⟩
  have B1 := Lib.hid hb.out
  have H1 := Lib.hid (H.out.step hb.out)
  clear hb H HG
  go_wp2_with fail
  refine (pubMarshal hbm.out (hbk.out.cell 0) H1.out ⟨_, _, _, rfl⟩ (by omega) hk1 hk2).mono ?_
  rintro e w2 ⟨v', rfl, ho, hb, hnn⟩
  have HO := Lib.hid ho
  have hsz := B1.out.size
  have B2 := Lib.hid (below_trans B1.out hb)
  clear ho hb hnn
  go_wp2_with fail
  go_ret2
  exact ⟨v', rfl, HO.out.more hsz, B2.out⟩
theorem idFromPub {d : List UInt8} (hK : K.length = 64) (hKs : Sha.Small K) (hk : Blk w 19 100 (u32s K).toArray)
    (hg : Blk w g 87 #[.int .i32 k, .slice A n c]) (h : Bs w w.heap.size (.slice A n c) d) (hn0 : 0 < d.length) (hle : d.length ≤ 50000) (hk1 : -2147483648 ≤ k) (hk2 : k ≤ 2147483647) (hm0 : 0 < (keyEnc k d).length) (hm1 : (keyEnc k d).length ≤ 60000) :
    Calls Tryz.prog 21 #[.iface 41 (.pointer (some ⟨g, 0, none⟩))] w fun e w' => e = .returned (.tuple #[.string (strOf (idOf K (keyEnc k d))), .nilIface]) ∧ Below w.heap.size w w' := by
  have HM := Lib.hid (marshalPub hg h hn0 (by omega) hk1 hk2)
  have HK := Lib.hid (And.intro hK hKs)
  have Hk := Lib.hid hk
  obtain ⟨m, hm⟩ : ∃ m, m = keyEnc k d := ⟨_, rfl⟩
  rw [← hm] at HM hm0 hm1 ⊢
  clear hK hKs hk hg h hm hn0 hle
  go_enter Tryz.func21, Tryz.ntmps21
  go_wp2_with fail
  refine HM.out.mono ?_
  rintro e w1 ⟨v, rfl, ho, hb⟩
  obtain ⟨gs, c1, rfl, hgs, hc⟩ := ho.at0 hm0
  have HR := Lib.hid ho.bs
  have Hk1 := Lib.hid (Hk.out.step hb)
  have B1 := Lib.hid hb
  have hsz := hb.size
  obtain ⟨N, hN⟩ : ∃ N, N = m.length := ⟨_, rfl⟩
  rw [← hN] at hm0 hm1 hc HR ⊢
  have HN := Lib.hid hN
  clear ho hb HM Hk hN
  by_cases h42 : N ≤ 42
  · have h42' : (N : Int) ≤ 42 := by omega
    have HI := Lib.hid (show idOf K m = 0 :: UInt8.ofNat N :: m by unfold idOf; rw [← HN.out, if_pos h42])
    go_wp2_with fail
    refine (mhSumId HR.out HN.out hm0 (by omega)).mono ?_
    rintro e w2 ⟨v', rfl, ho, hb⟩
    rw [← HI.out] at ho
    have hcv := conv_strM ho.bs (dst := 46) Tryz.underlying46
    have B2 := Lib.hid (below_trans B1.out hb)
    clear ho hb
    go_wp2_with fail
    go_ret2
    exact ⟨rfl, B2.out⟩
  · have h42' : ¬ (N : Int) ≤ 42 := by omega
    have HI := Lib.hid (show idOf K m = 18 :: 32 :: Sha.sumK K m by unfold idOf; rw [← HN.out, if_neg h42])
    go_wp2_with fail
    refine (mhSumSha HK.out.1 HK.out.2 Hk1.out HR.out HN.out hm0 hm1).mono ?_
    rintro e w2 ⟨v', rfl, ho, hb⟩
    rw [← HI.out] at ho
    have hcv := conv_strM ho.bs (dst := 46) Tryz.underlying46
    have B2 := Lib.hid (below_trans B1.out hb)
    clear ho hb
    go_wp2_with fail
    go_ret2
    exact ⟨rfl, B2.out⟩
theorem peerOfKey {k : Nat} {d : List UInt8} (hK : K.length = 64) (hKs : Sha.Small K) (hk : Blk w 19 100 (u32s K).toArray)
    (h : Bs w w.heap.size (.slice A n c) d) (hn : n = d.length) (hn0 : 0 < n) (hle : n ≤ 50000) (hk3 : k ≤ 3) (hm0 : 0 < (keyEnc (k : Int) d).length) (hm1 : (keyEnc (k : Int) d).length ≤ 60000) :
    Calls Tryz.prog 8 #[.int .i32 (k : Int), .slice A n c] w fun e w' => ∃ v', e = .returned (.tuple #[v', .bool true]) ∧ Bs w' w'.heap.size v' (idOf K (keyEnc (k : Int) d)) ∧ Below w.heap.size w w' := by
  have HK := Lib.hid (And.intro hK hKs)
  have Hk := Lib.hid hk
  have H := Lib.hid h
  have Hn := Lib.hid hn
  have hd0 : 0 < d.length := by omega
  have hdl : d.length ≤ 50000 := by omega
  have hil : (idOf K (keyEnc (k : Int) d)).length ≤ 140737488355328 := by
    unfold idOf
    split
    · simp; omega
    · simp [Sha.sumK_length]
  clear hK hKs hk h hn
  go_enter Tryz.func8, Tryz.ntmps8
  go_wp2_with fail
  refine (toyOf w hk3 H.out Hn.out hn0 (by omega)).mono ?_
  rintro e w1 ⟨g, A1, n1, c1, rfl, hb, hbs, hg, hbl⟩
  have HB := Lib.hid hb.out
  have HS := Lib.hid hbs.out
  have B1 := Lib.hid hbl.out
  have Hk1 := Lib.hid (Hk.out.step hbl.out)
  clear hb hbs hbl Hk H
  go_wp2_with fail
  refine (idFromPub HK.out.1 HK.out.2 Hk1.out HB.out HS.out hd0 hdl (by omega) (by omega) hm0 hm1).mono ?_
  rintro e w2 ⟨rfl, hb⟩
  have B2 := Lib.hid (below_trans B1.out hb)
  obtain ⟨I, hI⟩ : ∃ I, I = idOf K (keyEnc (k : Int) d) := ⟨_, rfl⟩
  rw [← hI] at hil ⊢
  have HI := Lib.hid hI
  obtain ⟨w3, c3, hr, hb3, hbl, hc, hm⟩ := conv_bytes w2 I hil (src := 46) Tryz.underlying46
  have HB3 := Lib.hid hb3
  have B3 := Lib.hid (below_trans B2.out hbl)
  clear hb hb3 hbl hI
  go_wp2_with fail
  go_ret2
  exact ⟨_, rfl, by rw [← HI.out]; exact HB3.out, B3.out⟩
end
end Go.Proofs.YtkmjjoffamdnfaaGreatDoor

/- Keys' messages: what is written is read again; plain lists, no program. -/
namespace Go.Proofs.YtkmjjoffamdnfaaGreatDoor
open Go.RowKit

theorem toNat_ofNat8 {n : Nat} (h : n < 256) : (UInt8.ofNat n).toNat = n := Wire.ofNat_toNat h

theorem ctag_one {t : Nat} (h : t < 128) (h8 : 8 ≤ t) (l : List UInt8) : Wire.ctag (UInt8.ofNat t :: l) = (((t / 8 : Nat) : Int), ((t % 8 : Nat) : Int), 1) := by
  have hc : Wire.cvar (UInt8.ofNat t :: l) = (t, 1) := by
    have := Wire.cvar_venc (n := t) (by omega) l
    rw [Wire.venc_lt h] at this
    exact this
  exact Wire.ctag_ok hc (by omega) (by omega) (by omega)

theorem lenEnc_length (d : List UInt8) : (lenEnc d).length = (Wire.venc d.length).length + d.length := by simp [lenEnc]

theorem cbytes_lenEnc (d l : List UInt8) (h : d.length < 2 ^ 64) : Wire.cbytes (lenEnc d ++ l) = (d, ((lenEnc d).length : Int)) := by
  have hc := Wire.cvar_venc h (d ++ l)
  rw [← List.append_assoc] at hc
  have hok := Wire.cbytes_ok hc (by simp only [List.length_append]; omega)
  unfold lenEnc
  rw [hok]
  refine Prod.ext ?_ ?_
  · show ((Wire.venc d.length ++ d ++ l).drop _).take _ = d
    rw [List.append_assoc, List.drop_left, List.take_left]
  · simp

/-- the two fields of a key's message -/
def kindF (k : Int) : List UInt8 := 8 :: Wire.venc (kindNum k)
def dataF (d : List UInt8) : List UInt8 := 18 :: lenEnc d
theorem keyEnc_eq (k : Int) (d : List UInt8) : keyEnc k d = kindF k ++ dataF d := by simp [keyEnc, kindF, dataF]

theorem wrap32_kindNum {k : Int} (h1 : -2147483648 ≤ k) (h2 : k ≤ 2147483647) : wrap32 (kindNum k : Nat) = k := by
  unfold wrap32 kindNum
  omega

theorem keyRun_kindF {s : KS} {k : Int} (h1 : -2147483648 ≤ k) (h2 : k ≤ 2147483647) (l : List UInt8) : keyRun s (kindF k ++ l) = keyRun { s with kind := some k } l := by
  have ht := ctag_one (t := 8) (by omega) (by omega) (Wire.venc (kindNum k) ++ l)
  have hc := Wire.cvar_venc (kindNum_lt k) l
  have := keyRun_kind (s := s) (l := kindF k ++ l) (n := 1) (x := kindNum k) (m := (Wire.venc (kindNum k)).length) ht (by simp [kindF]) (by simpa [kindF] using hc)
  rw [this, wrap32_kindNum h1 h2]
  congr 1
  simp [kindF]

theorem keyRun_dataF {s : KS} {d : List UInt8} (h : d.length < 2 ^ 64) (l : List UInt8) : keyRun s (dataF d ++ l) = keyRun { s with data := some d } l := by
  have ht := ctag_one (t := 18) (by omega) (by omega) (lenEnc d ++ l)
  have hc := cbytes_lenEnc d l h
  have := keyRun_data (s := s) (l := dataF d ++ l) (n := 1) (d := d) (m := (lenEnc d).length) ht (by simp [dataF]) (by simpa [dataF] using hc)
  rw [this]
  congr 1
  simp [dataF]

theorem keyDec_enc {k : Int} {d : List UInt8} (h1 : -2147483648 ≤ k) (h2 : k ≤ 2147483647) (h : d.length < 2 ^ 64) : keyDec (keyEnc k d) = some (k, d) := by
  have e : keyRun KS.none (keyEnc k d) = some ⟨some k, some d⟩ := by
    rw [keyEnc_eq, keyRun_kindF h1 h2, ← List.append_nil (dataF d), keyRun_dataF h, keyRun_nil]
  unfold keyDec; rw [e]

theorem keyEnc_inj {a b : Int} {d e : List UInt8} (ha1 : -2147483648 ≤ a) (ha2 : a ≤ 2147483647) (hb1 : -2147483648 ≤ b) (hb2 : b ≤ 2147483647) (hd : d.length < 2 ^ 64) (he : e.length < 2 ^ 64) :
    keyEnc a d = keyEnc b e ↔ a = b ∧ d = e := by
  constructor
  · intro h
    have h1 := keyDec_enc ha1 ha2 hd
    rw [h, keyDec_enc hb1 hb2 he] at h1
    simp only [Option.some.injEq, Prod.mk.injEq] at h1
    exact ⟨h1.1.symm, h1.2.symm⟩
  · rintro ⟨rfl, rfl⟩; rfl

theorem keyEnc_small : keyEnc 1 [7] = [8, 1, 18, 1, 7] := by
  unfold keyEnc lenEnc
  rw [show kindNum 1 = 1 by decide, Wire.venc_lt (by omega), Wire.venc_lt (by simp)]
  rfl
theorem keyDec_small : keyDec [8, 1, 18, 1, 7] = some (1, [7]) := by
  rw [← keyEnc_small]; exact keyDec_enc (by omega) (by omega) (by simp)
end Go.Proofs.YtkmjjoffamdnfaaGreatDoor

/- Multihashes: unsigned varints and what they lead; no program. -/
namespace Go.Proofs.YtkmjjoffamdnfaaGreatDoor
namespace Mh
/-- an unsigned varint in the shortest form, up to nine bytes: its number, and how many bytes -/
def uvGo : Nat → Nat → List UInt8 → Option (Nat × Nat)
  | _, _, [] => none
  | i, acc, b :: l => if 9 ≤ i ∨ (i = 8 ∧ 128 ≤ b.toNat) then none
    else if b.toNat < 128 then (if b.toNat = 0 ∧ 0 < i then none else some (acc + b.toNat * 2 ^ (7 * i), i + 1))
    else uvGo (i + 1) (acc + (b.toNat - 128) * 2 ^ (7 * i)) l
def uv (l : List UInt8) : Option (Nat × Nat) := uvGo 0 0 l
theorem uvGo_nil (i acc : Nat) : uvGo i acc [] = none := rfl
theorem uvGo_over {i acc : Nat} {b : UInt8} {l : List UInt8} (h : 9 ≤ i ∨ (i = 8 ∧ 128 ≤ b.toNat)) : uvGo i acc (b :: l) = none := by
  unfold uvGo; rw [if_pos h]
theorem uvGo_zero {i acc : Nat} {b : UInt8} {l : List UInt8} (h : ¬ (9 ≤ i ∨ (i = 8 ∧ 128 ≤ b.toNat))) (hb : b.toNat = 0) (hi : 0 < i) : uvGo i acc (b :: l) = none := by
  unfold uvGo; rw [if_neg h, if_pos (by omega), if_pos ⟨hb, hi⟩]
theorem uvGo_end {i acc : Nat} {b : UInt8} {l : List UInt8} (h : ¬ (9 ≤ i ∨ (i = 8 ∧ 128 ≤ b.toNat))) (hb : b.toNat < 128) (hz : ¬ (b.toNat = 0 ∧ 0 < i)) : uvGo i acc (b :: l) = some (acc + b.toNat * 2 ^ (7 * i), i + 1) := by
  unfold uvGo; rw [if_neg h, if_pos hb, if_neg hz]
theorem uvGo_next {i acc : Nat} {b : UInt8} {l : List UInt8} (h : ¬ (9 ≤ i ∨ (i = 8 ∧ 128 ≤ b.toNat))) (hb : ¬ b.toNat < 128) : uvGo i acc (b :: l) = uvGo (i + 1) (acc + (b.toNat - 128) * 2 ^ (7 * i)) l := by
  conv => lhs; unfold uvGo
  rw [if_neg h, if_neg hb]
theorem uvGo_some : ∀ {l : List UInt8} {i acc x n : Nat}, acc < 2 ^ (7 * i) → uvGo i acc l = some (x, n) → i < n ∧ n ≤ i + l.length ∧ n ≤ 9 ∧ x < 2 ^ (7 * n) := by
  intro l
  induction l with
  | nil => intro i acc x n _ h; cases h
  | cons b l ih =>
    intro i acc x n hacc h
    have hb := UInt8.toNat_lt b
    have hp : 0 < 2 ^ (7 * i) := Nat.pow_pos (by omega)
    have e7 : 2 ^ (7 * (i + 1)) = 2 ^ (7 * i) * 128 := by rw [Nat.mul_add, Nat.pow_add]
    unfold uvGo at h
    split at h
    · cases h
    · next h1 =>
      split at h
      · next h2 =>
        split at h
        · cases h
        · injection h with h
          injection h with e1 e2
          subst e1 e2
          refine ⟨by omega, by simp, by omega, ?_⟩
          rw [e7]
          have : b.toNat * 2 ^ (7 * i) ≤ 127 * 2 ^ (7 * i) := Nat.mul_le_mul_right _ (by omega)
          omega
      · next h2 =>
        have := ih (i := i + 1) (acc := acc + (b.toNat - 128) * 2 ^ (7 * i)) (by
          rw [e7]
          have : (b.toNat - 128) * 2 ^ (7 * i) ≤ 127 * 2 ^ (7 * i) := Nat.mul_le_mul_right _ (by omega)
          omega) h
        refine ⟨by omega, by simp; omega, this.2.2.1, this.2.2.2⟩
theorem uv_some {l : List UInt8} {x n : Nat} (h : uv l = some (x, n)) : 0 < n ∧ n ≤ l.length ∧ n ≤ 9 ∧ x < 2 ^ 63 := by
  obtain ⟨h1, h2, h3, h4⟩ := uvGo_some (by simp) h
  refine ⟨h1, by omega, h3, Nat.lt_of_lt_of_le h4 (Nat.pow_le_pow_right (by omega) (by omega))⟩
/-- what a multihash's bytes tell: how long it is, its number, its digest -/
def read (l : List UInt8) : Option (Nat × Nat × List UInt8) :=
  if l.length < 2 then none else
  match uv l with
  | none => none
  | some (code, n) => match uv (l.drop n) with
    | none => none
    | some (len, m) => if 2147483647 < len then none else if ((l.drop n).drop m).length < len then none else some (n + m + len, code, ((l.drop n).drop m).take len)
/-- bytes are a multihash -/
def ok (l : List UInt8) : Bool := match read l with
  | none => false
  | some (r, _, _) => decide (l.length = r)
section
variable {l : List UInt8} {code n len m : Nat}
theorem read_short (h : l.length < 2) : read l = none := by unfold read; rw [if_pos h]
theorem read_bad (h : ¬ l.length < 2) (h1 : uv l = none) : read l = none := by unfold read; rw [if_neg h, h1]
theorem read_bad2 (h : ¬ l.length < 2) (h1 : uv l = some (code, n)) (h2 : uv (l.drop n) = none) : read l = none := by unfold read; rw [if_neg h, h1]; simp only [h2]
theorem read_big (h : ¬ l.length < 2) (h1 : uv l = some (code, n)) (h2 : uv (l.drop n) = some (len, m)) (h3 : 2147483647 < len) : read l = none := by unfold read; rw [if_neg h, h1]; simp only [h2]; rw [if_pos h3]
theorem read_less (h : ¬ l.length < 2) (h1 : uv l = some (code, n)) (h2 : uv (l.drop n) = some (len, m)) (h3 : ¬ 2147483647 < len) (h4 : ((l.drop n).drop m).length < len) : read l = none := by unfold read; rw [if_neg h, h1]; simp only [h2]; rw [if_neg h3, if_pos h4]
theorem read_some (h : ¬ l.length < 2) (h1 : uv l = some (code, n)) (h2 : uv (l.drop n) = some (len, m)) (h3 : ¬ 2147483647 < len) (h4 : ¬ ((l.drop n).drop m).length < len) : read l = some (n + m + len, code, ((l.drop n).drop m).take len) := by unfold read; rw [if_neg h, h1]; simp only [h2]; rw [if_neg h3, if_neg h4]
end
end Mh
end Go.Proofs.YtkmjjoffamdnfaaGreatDoor

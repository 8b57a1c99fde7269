/- The texts of a CID told back: multibase's Decode, cid.Decode, peer.Decode, impl.PeerDecode. -/
import Derived.Test.YteodhonipbdplaaGreatDoorMd01
import Derived.Test.YteodhonipbdplaaGreatDoorMd04
import Derived.Test.YteodhonipbdplaaGreatDoorMd07
import Derived.Test.YteodhonipbdplaaGreatDoorMd11
import Derived.Test.YteodhonipbdplaaGreatDoorMd17
import Derived.Deep.CutBlock
import Derived.Deep.DeepCutAuto
namespace Go.Proofs.YteodhonipbdplaaGreatDoor
open Go.RowKit
set_option maxRecDepth 100000
section
variable {w : World} {l m t : List UInt8} {v : Value}
/-- a number of a base, bytes, and no error -/
def MbAns (w : World) (x : Int) (l : List UInt8) (e : Ending) (w' : World) : Prop := ∃ v, e = .returned (.tuple #[.int .i64 x, v, .nilIface]) ∧ Bs w' w'.heap.size v l ∧ Below w.heap.size w w'
theorem tail1 (x : UInt8) (t : List UInt8) : (strOf (x :: t)).extract 1 (t.length + 1) = strOf t := by
  rw [strOf_extract, List.take_of_length_le (by simp)]
  rfl
set_option maxHeartbeats 4000000 in
theorem mbDecB (hl0 : l ≠ []) (hl : l.length ≤ 1000) :
    Calls Tryz.prog 100 #[.string (strOf (98 :: B32.enc B32.alpha l))] w fun e w' => MbAns w 98 l e w' := by
  have HR := Lib.hid (decRune (w := w) (x := 98) (r := B32.enc B32.alpha l) (by decide))
  have HD := Lib.hid (fun W g h => decString (w := W) (g := g) h hl0 hl)
  have hlen := B32.enc_length B32.alpha l
  have hx := tail1 98 (B32.enc B32.alpha l)
  have hsz : (strOf (98 :: B32.enc B32.alpha l)).size = (B32.enc B32.alpha l).length + 1 := by rw [strOf_size]; rfl
  rw [← hsz] at hx
  obtain ⟨T, hT⟩ : ∃ T, T = strOf (B32.enc B32.alpha l) := ⟨_, rfl⟩
  obtain ⟨S, hS⟩ : ∃ S, S = strOf (98 :: B32.enc B32.alpha l) := ⟨_, rfl⟩
  rw [← hS] at HR hx hsz ⊢
  rw [← hT] at HD hx
  have hs0 : ¬ (S.size : Int) = 0 := by omega
  have hs1 : (1 : Int) ≤ (S.size : Int) := by omega
  have hsl : ∀ W : World, (Instr.slice 9 (.string S) (some (.int .i64 1)) none none).run Tryz.prog W = .ok (.string T) W := fun W => by
    rw [run_slice_string_l W 9 S Tryz.underlying9 .i64 1 (by omega) (by omega), ← hx]
    rfl
  clear hS hT hl0 hlen hx hsz
  go_enter Tryz.func100, Tryz.ntmps100
  go_wp2_with fail
  refine HR.out.mono ?_
  rintro e w1 ⟨rfl, rfl⟩
  go_upto_region 18 with fail
  go_region_held3 (fun _ => True) (trivial) (first
    | (go_at_call 129; (with_reducible refine (rawStd w.drew).mono ?_); rintro e w2 ⟨g, rfl, hk, hb⟩; have B2 := Lib.hid (below_trans (below_drew w) hb); clear hb)
    | (go_at_call 130; (with_reducible refine (HD.out _ _ hk.out).mono ?_); rintro e w3 ⟨v3, rfl, hbs, hb⟩; have B3 := Lib.hid (below_trans B2.out hb); have X3 := Lib.hid hbs; clear hb hbs))
  go_wp2_with fail
  go_ret3
  exact ⟨_, rfl, X3.out, B3.out⟩
set_option maxHeartbeats 4000000 in
theorem mbDecZ (hl0 : l ≠ []) (hl : l.length ≤ 1000) :
    Calls Tryz.prog 100 #[.string (strOf (122 :: B58.enc l))] w fun e w' => MbAns w 122 l e w' := by
  have HR := Lib.hid (decRune (w := w) (x := 122) (r := B58.enc l) (by decide))
  have HD := Lib.hid (fun W g h => decAlpha (w := W) (g := g) h hl0 hl)
  have hlen := enc_len_le l
  have hx := tail1 122 (B58.enc l)
  have hsz : (strOf (122 :: B58.enc l)).size = (B58.enc l).length + 1 := by rw [strOf_size]; rfl
  rw [← hsz] at hx
  obtain ⟨T, hT⟩ : ∃ T, T = strOf (B58.enc l) := ⟨_, rfl⟩
  obtain ⟨S, hS⟩ : ∃ S, S = strOf (122 :: B58.enc l) := ⟨_, rfl⟩
  rw [← hS] at HR hx hsz ⊢
  rw [← hT] at HD hx
  have hs0 : ¬ (S.size : Int) = 0 := by omega
  have hs1 : (1 : Int) ≤ (S.size : Int) := by omega
  have hsl : ∀ W : World, (Instr.slice 9 (.string S) (some (.int .i64 1)) none none).run Tryz.prog W = .ok (.string T) W := fun W => by
    rw [run_slice_string_l W 9 S Tryz.underlying9 .i64 1 (by omega) (by omega), ← hx]
    rfl
  clear hS hT hl0 hlen hx hsz
  go_enter Tryz.func100, Tryz.ntmps100
  go_wp2_with fail
  refine HR.out.mono ?_
  rintro e w1 ⟨rfl, rfl⟩
  go_upto_region 37 with fail
  go_region_held3 (fun _ => True) (trivial) (first
    | (go_at_call 92; (with_reducible refine (btcAlphabet w.drew).mono ?_); rintro e w2 ⟨g, rfl, hk, hb, _⟩; have B2 := Lib.hid (below_trans (below_drew w) hb); have K2 := Lib.hid hk; clear hb hk)
    | (go_at_call 135; (with_reducible refine (HD.out _ _ K2.out).mono ?_); rintro e w3 ⟨v3, rfl, hbs, hb⟩; have B3 := Lib.hid (below_trans B2.out hb); have X3 := Lib.hid hbs; clear hb hbs))
  go_wp2_with fail
  go_ret3
  exact ⟨_, rfl, X3.out, B3.out⟩
end
end Go.Proofs.YteodhonipbdplaaGreatDoor

/- The forms of an ID: as bytes, as a text, and back; its size; that it is no empty one. -/
namespace Go.Proofs.YteodhonipbdplaaGreatDoor
open Go.RowKit
set_option maxRecDepth 100000
section
variable {w : World} {l : List UInt8} {v : Value} {g : Nat}
/-- bytes, and 'true' -/
def BsTrue (w : World) (l : List UInt8) (e : Ending) (w' : World) : Prop := ∃ v, e = .returned (.tuple #[v, .bool true]) ∧ Bs w' w'.heap.size v l ∧ Below w.heap.size w w'
theorem idMarshal (w : World) (l : List UInt8) (hl : l.length ≤ 1000) :
    Calls Tryz.prog 63 #[.string (strOf l)] w fun e w' => BsNil w l e w' := by
  obtain ⟨w1, c, hr, hb, hbl, hc, hm⟩ := conv_bytes w l (by omega) (src := 43) Tryz.underlying43
  have Hb := Lib.hid hb
  have Hbl := Lib.hid hbl
  clear hb hbl
  go_enter Tryz.func63, Tryz.ntmps63
  go_wp2_with fail
  go_ret2
  exact ⟨_, rfl, Hb.out, Hbl.out⟩
theorem idMarshalBinary (w : World) (l : List UInt8) (hl : l.length ≤ 1000) :
    Calls Tryz.prog 41 #[.string (strOf l)] w fun e w' => BsNil w l e w' := by
  have H := Lib.hid (idMarshal w l hl)
  obtain ⟨S, hS⟩ : ∃ S, S = strOf l := ⟨_, rfl⟩
  rw [← hS] at H ⊢
  clear hS
  go_enter Tryz.func41, Tryz.ntmps41
  go_wp2_with fail
  refine H.out.mono ?_
  rintro e w1 ⟨v1, rfl, hb, hbl⟩
  have X := Lib.hid hb
  clear hb
  go_wp2_with fail
  go_ret2
  exact ⟨_, rfl, X.out, hbl⟩
theorem idMarshalText (w : World) (l : List UInt8) (hl : l.length ≤ 1000) :
    Calls Tryz.prog 42 #[.string (strOf l)] w fun e w' => BsNil w (B58.enc l) e w' := by
  have H := Lib.hid (idString w l (by omega))
  have hlen := enc_len_le l
  obtain ⟨t, ht⟩ : ∃ t, t = B58.enc l := ⟨_, rfl⟩
  rw [← ht] at H hlen ⊢
  have HC := Lib.hid (fun W => conv_bytes W t (by omega) (src := 9) Tryz.underlying9)
  obtain ⟨S, hS⟩ : ∃ S, S = strOf l := ⟨_, rfl⟩
  obtain ⟨S2, hS2⟩ : ∃ S, S = strOf t := ⟨_, rfl⟩
  unfold Txt at H
  rw [← hS] at H ⊢
  rw [← hS2] at H HC
  clear hS hS2 ht
  go_enter Tryz.func42, Tryz.ntmps42
  go_wp2_with fail
  refine H.out.mono ?_
  rintro e w1 ⟨rfl, hbl⟩
  obtain ⟨w2, c, hr, hb, hbl2, hc, hm⟩ := HC.out w1
  have X := Lib.hid hb
  have B := Lib.hid (below_trans hbl hbl2)
  clear hb hbl hbl2
  go_wp2_with fail
  go_ret2
  exact ⟨_, rfl, X.out, B.out⟩
theorem peerBinary (h : Bs w w.heap.size v l) (hl : l.length ≤ 1000) :
    Calls Tryz.prog 21 #[v] w fun e w' => BsTrue w l e w' := by
  have hcv := conv_str h (dst := 43) Tryz.underlying43
  have H := Lib.hid (idMarshalBinary w l hl)
  obtain ⟨S, hS⟩ : ∃ S, S = strOf l := ⟨_, rfl⟩
  rw [← hS] at H hcv
  obtain ⟨A, n, c, rfl, _, _, _⟩ := h.form'
  clear hS h
  go_enter Tryz.func21, Tryz.ntmps21
  go_wp2_with fail
  refine H.out.mono ?_
  rintro e w1 ⟨v1, rfl, hb, hbl⟩
  have X := Lib.hid hb
  have B := Lib.hid hbl
  clear hb hbl
  go_wp2_with fail
  go_quiet (fail)
  go_wp2_with fail
  go_ret2
  exact ⟨_, rfl, X.out.drewN1 _, below_drewN B.out _⟩
theorem peerLetters (h : Bs w w.heap.size v l) (hl : l.length ≤ 1000) :
    Calls Tryz.prog 22 #[v] w fun e w' => BsTrue w (B58.enc l) e w' := by
  have hcv := conv_str h (dst := 43) Tryz.underlying43
  have H := Lib.hid (idMarshalText w l hl)
  obtain ⟨S, hS⟩ : ∃ S, S = strOf l := ⟨_, rfl⟩
  rw [← hS] at H hcv
  obtain ⟨A, n, c, rfl, _, _, _⟩ := h.form'
  clear hS h
  go_enter Tryz.func22, Tryz.ntmps22
  go_wp2_with fail
  refine H.out.mono ?_
  rintro e w1 ⟨v1, rfl, hb, hbl⟩
  have X := Lib.hid hb
  have B := Lib.hid hbl
  clear hb hbl
  go_wp2_with fail
  go_quiet (fail)
  go_wp2_with fail
  go_ret2
  exact ⟨_, rfl, X.out.drewN1 _, below_drewN B.out _⟩
/-- the cell of an ID -/
theorem idUnmarshal (h : Bs w w.heap.size v l) (he : MErr w) (hok : Mh.ok l = true) (hl : l.length ≤ 1000) {u : Value} (hg : Blk w g 43 #[u]) :
    Calls Tryz.prog 64 #[.pointer (some ⟨g, 0, none⟩), v] w fun e w' => e = .returned .nilIface ∧ ∃ w1, Below w.heap.size w w1 ∧ Blk w1 g 43 #[u] ∧ w' = w1.setCell ⟨g, 0, none⟩ (.string (strOf l)) := by
  have H := Lib.hid (idFromBytes h he (by omega))
  have K := Lib.hid hg
  have Hok := Lib.hid hok
  obtain ⟨S, hS⟩ : ∃ S, S = strOf l := ⟨_, rfl⟩
  unfold IdAns at H
  rw [← hS] at H ⊢
  obtain ⟨A, n, c, rfl, _, _, _⟩ := h.form'
  clear hS h hg he hok
  go_enter Tryz.func64, Tryz.ntmps64
  go_wp2_with fail
  refine H.out.mono ?_
  rintro e w1 ⟨hb, ⟨_, rfl⟩ | ⟨h1, _⟩⟩
  · have B := Lib.hid hb
    have K1 := Lib.hid (K.out.step hb)
    have c0 : w1.cell? ⟨g, 0, none⟩ = some u := K1.out.cell 0
    have f0 := K1.out.free 0
    clear hb
    go_wp2_with fail
    go_ret
    exact ⟨rfl, w1, B.out, K1.out, rfl⟩
  · rw [Hok.out] at h1; cases h1
theorem idUnmarshalBinary (h : Bs w w.heap.size v l) (he : MErr w) (hok : Mh.ok l = true) (hl : l.length ≤ 1000) {u : Value} (hg : Blk w g 43 #[u]) :
    Calls Tryz.prog 43 #[.pointer (some ⟨g, 0, none⟩), v] w fun e w' => e = .returned .nilIface ∧ ∃ w1, Below w.heap.size w w1 ∧ Blk w1 g 43 #[u] ∧ w' = w1.setCell ⟨g, 0, none⟩ (.string (strOf l)) := by
  have H := Lib.hid (idUnmarshal h he hok hl hg)
  obtain ⟨S, hS⟩ : ∃ S, S = strOf l := ⟨_, rfl⟩
  rw [← hS] at H ⊢
  obtain ⟨A, n, c, rfl, _, _, _⟩ := h.form'
  clear hS h hg he hok
  go_enter Tryz.func43, Tryz.ntmps43
  go_wp2_with fail
  refine H.out.mono ?_
  rintro e w2 ⟨rfl, w1, hb, hk, rfl⟩
  go_wp2_with fail
  go_ret
  exact ⟨rfl, w1, hb, hk, rfl⟩
theorem idUnmarshalText (h : Bs w w.heap.size v (B58.enc l)) (he : MErr w) (hok : Mh.ok l = true) (hl0 : l ≠ []) (hl : l.length ≤ 1000) (hbg : B58.Begins (B58.enc l)) {u : Value} (hg : Blk w g 43 #[u]) :
    Calls Tryz.prog 44 #[.pointer (some ⟨g, 0, none⟩), v] w fun e w' => e = .returned .nilIface ∧ ∃ w1, Below w.heap.size w w1 ∧ Blk w1 g 43 #[u] ∧ w' = w1.setCell ⟨g, 0, none⟩ (.string (strOf l)) := by
  have hcv := conv_str h (dst := 9) Tryz.underlying9
  have H := Lib.hid (decodeId he hok hl0 hl hbg)
  have K := Lib.hid hg
  obtain ⟨S, hS⟩ : ∃ S, S = strOf l := ⟨_, rfl⟩
  obtain ⟨T, hT⟩ : ∃ T, T = strOf (B58.enc l) := ⟨_, rfl⟩
  rw [← hS, ← hT] at H
  rw [← hS]
  rw [← hT] at hcv
  obtain ⟨A, n, c, rfl, _, _, _⟩ := h.form'
  clear hS h hg he hok hT hbg hl0
  go_enter Tryz.func44, Tryz.ntmps44
  go_wp2_with fail
  refine H.out.mono ?_
  rintro e w1 ⟨rfl, hb⟩
  have B := Lib.hid hb
  have K1 := Lib.hid (K.out.step hb)
  have c0 : w1.cell? ⟨g, 0, none⟩ = some u := K1.out.cell 0
  have f0 := K1.out.free 0
  clear hb
  go_wp2_with fail
  go_ret
  exact ⟨rfl, w1, B.out, K1.out, rfl⟩
theorem idSize (w : World) (l : List UInt8) (hl : l.length ≤ 1000) :
    Calls Tryz.prog 45 #[.string (strOf l)] w fun e w' => e = .returned (.int .i64 (l.length : Int)) ∧ Below w.heap.size w w' := by
  obtain ⟨w1, c, hr, hb, hbl, hc, hm⟩ := conv_bytes w l (by omega) (src := 43) Tryz.underlying43
  have Hbl := Lib.hid hbl
  clear hb hbl
  go_enter Tryz.func45, Tryz.ntmps45
  go_wp2_with fail
  go_ret
  exact ⟨rfl, Hbl.out⟩
theorem idValidate (w : World) (l : List UInt8) (hl0 : l ≠ []) :
    Calls Tryz.prog 46 #[.string (strOf l)] w fun e w' => e = .returned .nilIface ∧ w = w' := by
  have hE : (strOf l).toList.isEmpty = false := by rw [strOf_toList]; cases l with | nil => exact absurd rfl hl0 | cons x r => rfl
  obtain ⟨S, hS⟩ : ∃ S, S = strOf l := ⟨_, rfl⟩
  rw [← hS] at hE ⊢
  clear hS
  go_enter Tryz.func46, Tryz.ntmps46
  go_wp2_with fail
  go_ret
  exact ⟨rfl, rfl⟩
theorem peerSize (h : Bs w w.heap.size v l) (hl : l.length ≤ 1000) :
    Calls Tryz.prog 25 #[v] w fun e w' => e = .returned (.int .i64 (l.length : Int)) ∧ Below w.heap.size w w' := by
  have hcv := conv_str h (dst := 43) Tryz.underlying43
  have H := Lib.hid (idSize w l hl)
  obtain ⟨S, hS⟩ : ∃ S, S = strOf l := ⟨_, rfl⟩
  rw [← hS] at H hcv
  obtain ⟨A, n, c, rfl, _, _, _⟩ := h.form'
  clear hS h
  go_enter Tryz.func25, Tryz.ntmps25
  go_wp2_with fail
  refine H.out.mono ?_
  rintro e w1 ⟨rfl, hbl⟩
  go_wp2_with fail
  go_ret
  exact ⟨rfl, hbl⟩
theorem peerValid (h : Bs w w.heap.size v l) (hl0 : l ≠ []) :
    Calls Tryz.prog 26 #[v] w fun e w' => e = .returned (.bool true) ∧ w = w' := by
  have hcv := conv_str h (dst := 43) Tryz.underlying43
  have H := Lib.hid (idValidate w l hl0)
  obtain ⟨S, hS⟩ : ∃ S, S = strOf l := ⟨_, rfl⟩
  rw [← hS] at H hcv
  obtain ⟨A, n, c, rfl, _, _, _⟩ := h.form'
  clear hS h hl0
  go_enter Tryz.func26, Tryz.ntmps26
  go_wp2_with fail
  refine H.out.mono ?_
  rintro e w1 ⟨rfl, rfl⟩
  go_wp2_with fail
  go_ret
  exact ⟨rfl, rfl⟩
theorem peerOfBinary (h : Bs w w.heap.size v l) (he : MErr w) (hok : Mh.ok l = true) (hl : l.length ≤ 1000) :
    Calls Tryz.prog 23 #[v] w fun e w' => BsTrue w l e w' := by
  have HX := Lib.hid h
  have He := Lib.hid he
  have HU := Lib.hid (fun (W : World) (v : Value) (u : Value) (g : Nat) (h : Bs W W.heap.size v l) (he : MErr W) (hg : Blk W g 43 #[u]) => idUnmarshalBinary (w := W) h he hok hl hg)
  have HC := Lib.hid (fun W => conv_bytes W l (by omega) (src := 43) Tryz.underlying43)
  obtain ⟨S, hS⟩ : ∃ S, S = strOf l := ⟨_, rfl⟩
  rw [← hS] at HU HC
  obtain ⟨A, n, c, rfl, _, _, _⟩ := h.form'
  obtain ⟨g, hg⟩ : ∃ g, g = w.heap.size := ⟨_, rfl⟩
  have B0 := Lib.hid (below_alloc w (.cells #[.string { data := #[] }] 43))
  have K0 := Lib.hid (show Blk (w.alloc (.cells #[.string { data := #[] }] 43)) g 43 #[.string { data := #[] }] by rw [hg]; exact Blk.new _ _ _)
  have Hg := Lib.hid hg
  have X0 := Lib.hid (HX.out.step B0.out)
  clear hS h he hok hg HX
  go_enter Tryz.func23, Tryz.ntmps23
  go_wp2_with fail
  rw [← Hg.out]
  generalize w.alloc (.cells #[.string { data := #[] }] 43) = w0 at *
  refine (bytesClone X0.out (by omega)).mono ?_
  rintro e w1 ⟨v1, rfl, ho, hb⟩
  have B1 := Lib.hid (below_trans B0.out hb)
  have K1 := Lib.hid (K0.out.step hb)
  have X1 := Lib.hid ho.bs
  clear ho hb
  go_wp2_with fail
  refine (HU.out _ _ _ _ X1.out (He.out.step B1.out) K1.out).mono ?_
  rintro e w3 ⟨rfl, w2, hb, hk, rfl⟩
  have B2 := Lib.hid (below_trans B1.out hb)
  have B3 := Lib.hid (below_grown B2.out (grown_setCell (grown_refl w2 (some g)) (p := ⟨g, 0, none⟩) (.inl rfl) (.string S)) (fun k e => by injection e with e; have := Hg.out; omega))
  have c0 : (w2.setCell ⟨g, 0, none⟩ (.string S)).cell? ⟨g, 0, none⟩ = some (.string S) := (hk.set 0 (.string S)).cell 0
  obtain ⟨w4, c4, hr, hbs, hbl, _, _⟩ := HC.out (w2.setCell ⟨g, 0, none⟩ (.string S))
  rw [show (w2.setCell ⟨g, 0, none⟩ (.string S)).heap.size = w2.heap.size by simp] at hbs
  have X4 := Lib.hid hbs
  have B4 := Lib.hid (below_trans B3.out hbl)
  clear hb hk hbs hbl
  go_wp2_with fail
  go_ret2
  exact ⟨_, rfl, X4.out, B4.out⟩
theorem peerOfLetters (h : Bs w w.heap.size v (B58.enc l)) (he : MErr w) (hok : Mh.ok l = true) (hl0 : l ≠ []) (hl : l.length ≤ 1000) (hbg : B58.Begins (B58.enc l)) :
    Calls Tryz.prog 24 #[v] w fun e w' => BsTrue w l e w' := by
  have HX := Lib.hid h
  have He := Lib.hid he
  have hlen := enc_len_le l
  have HU := Lib.hid (fun (W : World) (v : Value) (u : Value) (g : Nat) (h : Bs W W.heap.size v (B58.enc l)) (he : MErr W) (hg : Blk W g 43 #[u]) => idUnmarshalText (w := W) h he hok hl0 hl hbg hg)
  have HC := Lib.hid (fun W => conv_bytes W l (by omega) (src := 43) Tryz.underlying43)
  obtain ⟨S, hS⟩ : ∃ S, S = strOf l := ⟨_, rfl⟩
  rw [← hS] at HU HC
  obtain ⟨A, n, c, rfl, _, _, _⟩ := h.form'
  obtain ⟨g, hg⟩ : ∃ g, g = w.heap.size := ⟨_, rfl⟩
  have B0 := Lib.hid (below_alloc w (.cells #[.string { data := #[] }] 43))
  have K0 := Lib.hid (show Blk (w.alloc (.cells #[.string { data := #[] }] 43)) g 43 #[.string { data := #[] }] by rw [hg]; exact Blk.new _ _ _)
  have Hg := Lib.hid hg
  have X0 := Lib.hid (HX.out.step B0.out)
  clear hS h he hok hg HX hbg hl0
  go_enter Tryz.func24, Tryz.ntmps24
  go_wp2_with fail
  rw [← Hg.out]
  generalize w.alloc (.cells #[.string { data := #[] }] 43) = w0 at *
  refine (bytesClone X0.out (by omega)).mono ?_
  rintro e w1 ⟨v1, rfl, ho, hb⟩
  have B1 := Lib.hid (below_trans B0.out hb)
  have K1 := Lib.hid (K0.out.step hb)
  have X1 := Lib.hid ho.bs
  clear ho hb
  go_wp2_with fail
  refine (HU.out _ _ _ _ X1.out (He.out.step B1.out) K1.out).mono ?_
  rintro e w3 ⟨rfl, w2, hb, hk, rfl⟩
  have B2 := Lib.hid (below_trans B1.out hb)
  have B3 := Lib.hid (below_grown B2.out (grown_setCell (grown_refl w2 (some g)) (p := ⟨g, 0, none⟩) (.inl rfl) (.string S)) (fun k e => by injection e with e; have := Hg.out; omega))
  have c0 : (w2.setCell ⟨g, 0, none⟩ (.string S)).cell? ⟨g, 0, none⟩ = some (.string S) := (hk.set 0 (.string S)).cell 0
  obtain ⟨w4, c4, hr, hbs, hbl, _, _⟩ := HC.out (w2.setCell ⟨g, 0, none⟩ (.string S))
  rw [show (w2.setCell ⟨g, 0, none⟩ (.string S)).heap.size = w2.heap.size by simp] at hbs
  have X4 := Lib.hid hbs
  have B4 := Lib.hid (below_trans B3.out hbl)
  clear hb hk hbs hbl
  go_wp2_with fail
  go_ret2
  exact ⟨_, rfl, X4.out, B4.out⟩
end
end Go.Proofs.YteodhonipbdplaaGreatDoor

/- The texts of a CID told back: cid.Decode, peer.Decode, impl.PeerDecode. -/
namespace Go.Proofs.YteodhonipbdplaaGreatDoor
open Go.RowKit
set_option maxRecDepth 100000
section
variable {w : World} {m : List UInt8} {S : ByteArray} {z : Int}
set_option maxHeartbeats 4000000 in
theorem cidDec (HM : ∀ W : World, Calls Tryz.prog 100 #[.string S] W fun e w' => MbAns W z (1 :: 114 :: m) e w') (h2 : 2 ≤ S.size) (hQ : ((S.extract 0 2).toList == [81, 109]) = false) (he : MErr w) (hok : Mh.ok m = true) (hm : m.length ≤ 900) :
    Calls Tryz.prog 61 #[.string S] w fun e w' => e = .returned (.tuple #[.agg #[.string (strOf (1 :: 114 :: m))], .nilIface]) ∧ Below w.heap.size w w' := by
  obtain ⟨gr, hgr⟩ : ∃ x, x = w.heap.size := ⟨_, rfl⟩
  have B1 := Lib.hid (below_alloc w (.cells #[.string { data := #[] }] 41))
  have K1 := Lib.hid (show Blk (w.alloc (.cells #[.string { data := #[] }] 41)) gr 41 #[.string { data := #[] }] by rw [hgr]; exact Blk.new _ _ _)
  have He1 := Lib.hid (he.step B1.out)
  have HM2 := Lib.hid HM
  have HC := Lib.hid (fun (W : World) (A : Option Addr) (n c : Nat) (h : Bs W W.heap.size (.slice A n c) (1 :: 114 :: m)) (he : MErr W) (hn : n = (1 :: 114 :: m).length) => cidCast (w := W) h he hn hok (by omega))
  obtain ⟨S2, hS2⟩ : ∃ S, S = strOf (1 :: 114 :: m) := ⟨_, rfl⟩
  rw [← hS2] at HC ⊢
  have Hgr := Lib.hid hgr
  have s2 : (2 : Int) ≤ (S.size : Int) := by omega
  have s3 : ¬ (S.size : Int) < 2 := by omega
  clear HM he hok hgr hS2
  by_cases h46 : (S.size : Int) = 46
  all_goals
    go_enter Tryz.func61, Tryz.ntmps61
    go_wp2_with fail
    rw [← Hgr.out]
    generalize w.alloc (.cells #[.string { data := #[] }] 41) = w1 at *
    refine (HM2.out _).mono ?_
    rintro e w2 ⟨v, rfl, hbs, hb⟩
    obtain ⟨A, n, c, rfl, hn, _, _⟩ := hbs.form'
    have B2 := Lib.hid (below_trans B1.out hb)
    have K2 := Lib.hid (K1.out.step hb)
    have He2 := Lib.hid (He1.out.step hb)
    have X2 := Lib.hid hbs
    clear hbs hb
    go_wp2_with fail
    refine (HC.out _ _ _ _ X2.out He2.out hn.out).mono ?_
    rintro e w3 ⟨rfl, hb⟩
    have B3 := Lib.hid (below_trans B2.out hb)
    have K3 := Lib.hid (K2.out.step hb)
    have c0 : w3.cell? ⟨gr, 0, none⟩ = some (.string { data := #[] }) := K3.out.cell 0
    have f0 := K3.out.free 0
    have y0 : (w3.setCell ⟨gr, 0, none⟩ (.string S2)).cell? ⟨gr, 0, none⟩ = some (.string S2) := (K3.out.set 0 (.string S2)).cell 0
    have B4 := Lib.hid (below_grown B3.out (grown_setCell (grown_refl w3 (some gr)) (p := ⟨gr, 0, none⟩) (.inl rfl) (.string S2)) (fun k e => by injection e with e; have := Hgr.out; omega))
    clear hb
    go_wp2_with fail
    refine bodyPost_ret (by simp [results, Tryz.results61, go_sem, y0]; rfl) rfl ?_
    exact ⟨rfl, B4.out⟩
set_option maxHeartbeats 2000000 in
theorem decodeCid (HM : ∀ W : World, Calls Tryz.prog 100 #[.string S] W fun e w' => MbAns W z (1 :: 114 :: m) e w') (h2 : 2 ≤ S.size) (hsz : S.size ≤ 100000) (hQ : ((S.extract 0 2).toList == [81, 109]) = false) (h1 : ((S.extract 0 1).toList == [49]) = false) (he : MErr w) (hok : Mh.ok m = true) (hm : m.length ≤ 900) (hm0 : m ≠ []) :
    Calls Tryz.prog 36 #[.string S] w fun e w' => e = .returned (.tuple #[.string (strOf m), .nilIface]) ∧ Below w.heap.size w w' := by
  have P1 := Lib.hid (hasPrefix (w := w) (S := S) (P := { data := #[81, 109] }) (b := false) h2 hsz (by rw [show ({ data := #[81, 109] } : ByteArray) = strOf [81, 109] from rfl, strOf_size, strOf_toList]; exact hQ))
  have P2 := Lib.hid (hasPrefix (w := w) (S := S) (P := { data := #[49] }) (b := false) (by show 1 ≤ _; omega) hsz (by rw [show ({ data := #[49] } : ByteArray) = strOf [49] from rfl, strOf_size, strOf_toList]; exact h1))
  have HC := Lib.hid (cidDec HM h2 hQ he hok hm)
  have HF := Lib.hid (fun (W : World) (he : VErr W) => fromCid (w := W) (m := m) he (by omega) hm0)
  have He := Lib.hid he
  obtain ⟨S2, hS2⟩ : ∃ S, S = strOf (1 :: 114 :: m) := ⟨_, rfl⟩
  obtain ⟨S3, hS3⟩ : ∃ S, S = strOf m := ⟨_, rfl⟩
  rw [← hS2] at HC HF
  rw [← hS3] at HF ⊢
  clear HM he hok hm0 hQ h1 hS2 hS3
  go_enter Tryz.func36, Tryz.ntmps36
  go_wp2_with fail
  refine P1.out.mono ?_
  rintro e w1 ⟨rfl, rfl⟩
  go_wp2_with fail
  refine P2.out.mono ?_
  rintro e w1 ⟨rfl, rfl⟩
  go_wp2_with fail
  refine HC.out.mono ?_
  rintro e w2 ⟨rfl, hb⟩
  have B2 := Lib.hid (below_trans hb (below_alloc w2 (.cells #[.string S2] 41)))
  have K := Lib.hid (Blk.new w2 41 #[.string S2])
  clear hb
  go_wp2_with fail
  refine (HF.out _ (He.out.step B2.out).v).mono ?_
  rintro e w3 ⟨rfl, hb⟩
  have B3 := Lib.hid (below_trans B2.out hb)
  clear hb
  go_wp2_with fail
  go_ret2
  exact ⟨rfl, B3.out⟩
theorem peerDecode (HD : Calls Tryz.prog 36 #[.string S] w fun e w' => e = .returned (.tuple #[.string (strOf m), .nilIface]) ∧ Below w.heap.size w w') (hm : m.length ≤ 1000) :
    Calls Tryz.prog 16 #[.string S] w fun e w' => BsTrue w m e w' := by
  have H := Lib.hid HD
  have HC := Lib.hid (fun W => conv_bytes W m (by omega) (src := 43) Tryz.underlying43)
  obtain ⟨S3, hS3⟩ : ∃ S, S = strOf m := ⟨_, rfl⟩
  rw [← hS3] at H HC
  clear HD hS3
  go_enter Tryz.func16, Tryz.ntmps16
  go_wp2_with fail
  refine H.out.mono ?_
  rintro e w1 ⟨rfl, hb⟩
  obtain ⟨w4, c4, hr, hbs, hbl, _, _⟩ := HC.out w1
  have X4 := Lib.hid hbs
  have B4 := Lib.hid (below_trans hb hbl)
  clear hb hbs hbl
  go_wp2_with fail
  go_ret2
  exact ⟨_, rfl, X4.out, B4.out⟩
theorem peerDecodeB (he : MErr w) (hok : Mh.ok m = true) (hm : m.length ≤ 900) (hm0 : m ≠ []) :
    Calls Tryz.prog 16 #[.string (strOf (98 :: B32.enc B32.alpha (1 :: 114 :: m)))] w fun e w' => BsTrue w m e w' := by
  have hlen := B32.enc_length B32.alpha (1 :: 114 :: m)
  simp only [List.length_cons] at hlen
  have hs : (strOf (98 :: B32.enc B32.alpha (1 :: 114 :: m))).size = (B32.enc B32.alpha (1 :: 114 :: m)).length + 1 := by rw [strOf_size]; rfl
  obtain ⟨y, r, hyr⟩ : ∃ y r, B32.enc B32.alpha (1 :: 114 :: m) = y :: r := by
    cases h : B32.enc B32.alpha (1 :: 114 :: m) with
    | nil => rw [h] at hlen; simp at hlen; omega
    | cons y r => exact ⟨y, r, rfl⟩
  exact peerDecode (decodeCid (fun W => mbDecB (w := W) (l := 1 :: 114 :: m) (by simp) (by simp only [List.length_cons]; omega)) (by omega) (by omega) (by rw [hyr, strOf_extract, strOf_toList]; rfl) (by rw [strOf_extract, strOf_toList]; rfl) he hok hm hm0) (by omega)
theorem peerDecodeZ (he : MErr w) (hok : Mh.ok m = true) (hm : m.length ≤ 900) (hm0 : m ≠ []) :
    Calls Tryz.prog 16 #[.string (strOf (122 :: B58.enc (1 :: 114 :: m)))] w fun e w' => BsTrue w m e w' := by
  have hlen := enc_len_le (1 :: 114 :: m)
  simp only [List.length_cons] at hlen
  have hlong := B58.digs_long (1 :: 114 :: m)
  rw [← B58.enc_len] at hlong
  simp only [List.length_cons] at hlong
  have hs : (strOf (122 :: B58.enc (1 :: 114 :: m))).size = (B58.enc (1 :: 114 :: m)).length + 1 := by rw [strOf_size]; rfl
  obtain ⟨y, r, hyr⟩ : ∃ y r, B58.enc (1 :: 114 :: m) = y :: r := by
    cases h : B58.enc (1 :: 114 :: m) with
    | nil => rw [h] at hlong; simp at hlong
    | cons y r => exact ⟨y, r, rfl⟩
  exact peerDecode (decodeCid (fun W => mbDecZ (w := W) (l := 1 :: 114 :: m) (by simp) (by simp only [List.length_cons]; omega)) (by omega) (by omega) (by rw [hyr, strOf_extract, strOf_toList]; rfl) (by rw [strOf_extract, strOf_toList]; rfl) he hok hm hm0) (by omega)
theorem peerDecodeI (he : MErr w) (hok : Mh.ok m = true) (hm : m.length ≤ 900) (hm0 : m ≠ []) (hb : B58.Begins (B58.enc m)) :
    Calls Tryz.prog 16 #[.string (strOf (B58.enc m))] w fun e w' => BsTrue w m e w' :=
  peerDecode (decodeId he hok hm0 (by omega) hb) (by omega)
end
end Go.Proofs.YteodhonipbdplaaGreatDoor

/- The reference's PeerBase32 and PeerCid. -/
namespace Go.Proofs.YteodhonipbdplaaGreatDoor
open Go.RowKit
set_option maxRecDepth 100000
namespace B32
theorem letterCut {k : Nat} (hk : k < 32) : (strOf alpha).extract k (k + 1) = strOf [letter alpha k] := by
  rw [strOf_extract]
  congr 1
  unfold letter
  have h' : k < alpha.length := hk
  rw [List.take_succ_eq_append_getElem h', List.drop_left' (by simp; omega), List.getD_eq_getElem?_getD, List.getElem?_eq_getElem h']
  rfl
theorem or64 {a b : Nat} (ha : a < 2 ^ 62) (hb : b < 2 ^ 62) : bits .or .i64 (a : Int) (b : Int) = ((a ||| b : Nat) : Int) := by
  show IntKind.i64.wrap ((BitVec.ofInt 64 (a : Int) ||| BitVec.ofInt 64 (b : Int)).toNat : Int) = _
  have h1 : (BitVec.ofInt 64 (a : Int)).toNat = a := by rw [BitVec.toNat_ofInt]; omega
  have h2 : (BitVec.ofInt 64 (b : Int)).toNat = b := by rw [BitVec.toNat_ofInt]; omega
  have h3 : a ||| b < 2 ^ 62 := Nat.or_lt_two_pow (by omega) (by omega)
  rw [BitVec.toNat_or, h1, h2, IntKind.wrap_i64]
  omega
theorem holdOr {h c : Nat} (hh : h ≤ 15) (hc : c ≤ 255) : bits .or .i64 ((h : Int) * 256) (c : Int) = ((h * 256 + c : Nat) : Int) := by
  have e := or64 (a := h * 256) (b := c) (by omega) (by omega)
  rw [show ((h * 256 : Nat) : Int) = (h : Int) * 256 by omega] at e
  rw [e, Nat.or_comm, show h * 256 = 2 ^ 8 * h by omega, Nat.or_comm, ← Nat.two_pow_add_eq_or_of_lt (show c < 2 ^ 8 by omega)]
theorem and64 {a b : Nat} (ha : a < 2 ^ 62) (hb : b < 2 ^ 62) : bits .and .i64 (a : Int) (b : Int) = ((a &&& b : Nat) : Int) := by
  show IntKind.i64.wrap ((BitVec.ofInt 64 (a : Int) &&& BitVec.ofInt 64 (b : Int)).toNat : Int) = _
  have h1 : (BitVec.ofInt 64 (a : Int)).toNat = a := by rw [BitVec.toNat_ofInt]; omega
  have h2 : (BitVec.ofInt 64 (b : Int)).toNat = b := by rw [BitVec.toNat_ofInt]; omega
  have h3 : a &&& b ≤ a := Nat.and_le_left
  rw [BitVec.toNat_and, h1, h2, IntKind.wrap_i64]
  omega
theorem andLow {a : Nat} {x y : Int} (i : Nat) (hi : i < 60) (ha : a < 2 ^ 62) (hx : x = (a : Int)) (hy : y = ((2 ^ i - 1 : Nat) : Int)) : bits .and .i64 x y = ((a % 2 ^ i : Nat) : Int) := by
  subst hx hy
  have h1 : 2 ^ i < 2 ^ 62 := Nat.pow_lt_pow_right (by omega) (by omega)
  rw [and64 ha (by omega), Nat.and_two_pow_sub_one_eq_mod]
/-- what stands written and what is to come -/
def Wr (l : List UInt8) (s : ByteArray) (rest : List Nat) : Prop := ∃ P : List Nat, s = strOf (P.map (letter alpha)) ∧ feed 0 0 l = P ++ rest
theorem Wr.next {l : List UInt8} {s : ByteArray} {k : Nat} {r : List Nat} (h : Wr l s (k :: r)) (hk : k < 32) : Wr l (s ++ (strOf alpha).extract k (k + 1)) r := by
  obtain ⟨P, rfl, e⟩ := h
  refine ⟨P ++ [k], ?_, by rw [e]; simp⟩
  rw [letterCut hk, List.map_append, strOf_append]
  rfl
end B32
section
variable {w : World} {v : Value} {l : List UInt8}
set_option maxHeartbeats 8000000 in
theorem peerBase32 (h : Bs w w.heap.size v l) (hlen : l.length ≤ 1000) :
    Calls Tryz.prog 14 #[v] w fun e w' => e = .returned (.string (strOf (B32.enc B32.alpha l))) ∧ w = w' := by
  obtain ⟨A, n, c, rfl, hn, hc, hm⟩ := h.form'
  have H := Lib.hid h
  have hn6 : n ≤ 1000 := by rw [hn.out]; exact hlen
  clear h hlen
  obtain ⟨AL, hAL⟩ : ∃ S, S = strOf B32.alpha := ⟨_, rfl⟩
  have HAL := Lib.hid hAL
  have hALs : AL.size = 32 := by rw [hAL, strOf_size]; rfl
  clear hAL
  go_enter Tryz.func14, Tryz.ntmps14
  go_wp2_with fail
  go_loop [3, 4, 5, 12] (fun s3 s4 s5 s12 => ∃ (k h b : Nat) (s : ByteArray), k ≤ n ∧ s12 = .int .i64 (k : Int) ∧ s4 = .int .i64 (h : Int) ∧ s5 = .int .i64 (b : Int) ∧ s3 = .string s ∧ h ≤ 15 ∧ b < 5 ∧ s.size ≤ 2 * k ∧ Hid (B32.Wr l s (B32.feed h b (l.drop k)))) (fun _ _ _ s12 => n - (intOf s12).toNat)
  case atStart => exact ⟨0, 0, 0, { data := #[] }, Nat.zero_le _, rfl, rfl, rfl, rfl, by omega, by omega, by decide, Lib.hid ⟨[], rfl, rfl⟩⟩
  case round =>
    obtain ⟨k, h, b, s, hk, rfl, rfl, rfl, rfl, hh, hb5, hsz, HW⟩ := hrel
    by_cases hlt : k < n
    · have hkl : k < l.length := by rw [← hn.out]; exact hlt
      obtain ⟨g, o, rfl, hcell, _⟩ := H.out.at' hkl
      have hd := UInt8.toNat_lt l[k]
      have HF := Lib.hid (show B32.Wr l s (B32.emit (h * 256 + l[k].toNat) (b + 8) ++ B32.feed ((h * 256 + l[k].toNat) % 2 ^ B32.left (b + 8)) (B32.left (b + 8)) (l.drop (k + 1))) by
        have := HW.out
        rw [List.drop_eq_getElem_cons hkl, B32.feed] at this
        exact this)
      clear HW
      generalize l[k].toNat = d at *
      have hd255 : d ≤ 255 := by omega
      have hor := B32.holdOr hh hd255
      obtain ⟨G, hG⟩ : ∃ G, G = h * 256 + d := ⟨_, rfl⟩
      rw [← hG] at HF hor
      have hG1 : G ≤ 4095 := by omega
      clear hG hd
      go_wp2_with fail
      go_loop [3, 5] (fun s3 s5 => ∃ (b2 : Nat) (s : ByteArray), s3 = .string s ∧ s5 = .int .i64 (b2 : Int) ∧ b2 ≤ b + 8 ∧ Hid (b2 % 5 = (b + 8) % 5) ∧ s.size + b2 / 5 ≤ 2 * k + 2 ∧ Hid (B32.Wr l s (B32.emit G b2 ++ B32.feed (G % 2 ^ B32.left (b + 8)) (B32.left (b + 8)) (l.drop (k + 1))))) (fun _ s5 => (intOf s5).toNat)
      case atStart => exact ⟨b + 8, s, rfl, by first | rfl | (congr 1; omega) | (congr 2; omega), by omega, Lib.hid rfl, by omega, HF⟩
      case round =>
        clear hsz HF
        obtain ⟨b2, s, rfl, rfl, hb2, Hb2, hsz, HW⟩ := hrel
        have hs3000 : s.size ≤ 3000 := by omega
        by_cases hge : 5 ≤ b2
        · obtain ⟨j, rfl⟩ : ∃ j, b2 = j + 5 := ⟨b2 - 5, by omega⟩
          have hj : j ≤ 7 := by omega
          obtain ⟨q, hq⟩ : ∃ q, q = G / 2 ^ j % 32 := ⟨_, rfl⟩
          have HW2 := Lib.hid (show B32.Wr l (s ++ (strOf B32.alpha).extract q (q + 1)) (B32.emit G j ++ B32.feed (G % 2 ^ B32.left (b + 8)) (B32.left (b + 8)) (l.drop (k + 1))) by
            have h1 := HW.out
            rw [B32.emit_ge (by omega), Nat.add_sub_cancel, ← hq] at h1
            exact B32.Wr.next h1 (by omega))
          have Hq := Lib.hid hq
          have hq32 : q < 32 := by omega
          have hsz2 : (s ++ (strOf B32.alpha).extract q (q + 1)).size + j / 5 ≤ 2 * k + 2 := by
            rw [ByteArray.size_append, ByteArray.size_extract]; omega
          have HWl := HW
          clear hq HW hge
          rcases (by omega : j = 0 ∨ j = 1 ∨ j = 2 ∨ j = 3 ∨ j = 4 ∨ j = 5 ∨ j = 6 ∨ j = 7) with rfl | rfl | rfl | rfl | rfl | rfl | rfl | rfl
          · have qe : bits .and .i64 (G : Int) 31 = (q : Int) := by rw [Hq.out]; exact B32.andLow (a := G / 2 ^ 0) 5 (by omega) (by omega) (by omega) (by decide)
            go_wp2_with fail
            go_round
            case rel => exact ⟨0, _, rfl, rfl, by omega, Lib.hid (by have := Hb2.out; omega), hsz2, HW2⟩
            case measure => simp [intOf] <;> omega
          · have qe : bits .and .i64 ((G : Int) / 2) 31 = (q : Int) := by rw [Hq.out]; exact B32.andLow (a := G / 2 ^ 1) 5 (by omega) (by omega) (by omega) (by decide)
            go_wp2_with fail
            go_round
            case rel => exact ⟨1, _, rfl, rfl, by omega, Lib.hid (by have := Hb2.out; omega), hsz2, HW2⟩
            case measure => simp [intOf] <;> omega
          · have qe : bits .and .i64 ((G : Int) / 4) 31 = (q : Int) := by rw [Hq.out]; exact B32.andLow (a := G / 2 ^ 2) 5 (by omega) (by omega) (by omega) (by decide)
            go_wp2_with fail
            go_round
            case rel => exact ⟨2, _, rfl, rfl, by omega, Lib.hid (by have := Hb2.out; omega), hsz2, HW2⟩
            case measure => simp [intOf] <;> omega
          · have qe : bits .and .i64 ((G : Int) / 8) 31 = (q : Int) := by rw [Hq.out]; exact B32.andLow (a := G / 2 ^ 3) 5 (by omega) (by omega) (by omega) (by decide)
            go_wp2_with fail
            go_round
            case rel => exact ⟨3, _, rfl, rfl, by omega, Lib.hid (by have := Hb2.out; omega), hsz2, HW2⟩
            case measure => simp [intOf] <;> omega
          · have qe : bits .and .i64 ((G : Int) / 16) 31 = (q : Int) := by rw [Hq.out]; exact B32.andLow (a := G / 2 ^ 4) 5 (by omega) (by omega) (by omega) (by decide)
            go_wp2_with fail
            go_round
            case rel => exact ⟨4, _, rfl, rfl, by omega, Lib.hid (by have := Hb2.out; omega), hsz2, HW2⟩
            case measure => simp [intOf] <;> omega
          · have qe : bits .and .i64 ((G : Int) / 32) 31 = (q : Int) := by rw [Hq.out]; exact B32.andLow (a := G / 2 ^ 5) 5 (by omega) (by omega) (by omega) (by decide)
            go_wp2_with fail
            go_round
            case rel => exact ⟨5, _, rfl, rfl, by omega, Lib.hid (by have := Hb2.out; omega), hsz2, HW2⟩
            case measure => simp [intOf] <;> omega
          · have qe : bits .and .i64 ((G : Int) / 64) 31 = (q : Int) := by rw [Hq.out]; exact B32.andLow (a := G / 2 ^ 6) 5 (by omega) (by omega) (by omega) (by decide)
            go_wp2_with fail
            go_round
            case rel => exact ⟨6, _, rfl, rfl, by omega, Lib.hid (by have := Hb2.out; omega), hsz2, HW2⟩
            case measure => simp [intOf] <;> omega
          · have qe : bits .and .i64 ((G : Int) / 128) 31 = (q : Int) := by rw [Hq.out]; exact B32.andLow (a := G / 2 ^ 7) 5 (by omega) (by omega) (by omega) (by decide)
            go_wp2_with fail
            go_round
            case rel => exact ⟨7, _, rfl, rfl, by omega, Lib.hid (by have := Hb2.out; omega), hsz2, HW2⟩
            case measure => simp [intOf] <;> omega
        · have HW2 := Lib.hid (show B32.Wr l s (B32.feed (G % 2 ^ B32.left (b + 8)) (B32.left (b + 8)) (l.drop (k + 1))) by
            have h1 := HW.out
            rw [B32.emit_lt (by omega)] at h1
            exact h1)
          have Hl := Lib.hid (show B32.left (b + 8) = b2 by unfold B32.left; have := Hb2.out; omega)
          clear HW
          obtain ⟨r, hr⟩ : ∃ r, r = G % 2 ^ b2 := ⟨_, rfl⟩
          have HW3 := Lib.hid (show B32.Wr l s (B32.feed r b2 (l.drop (k + 1))) by have := HW2.out; rw [Hl.out, ← hr] at this; exact this)
          have hr15 : r ≤ 15 := by
            have h1 : G % 2 ^ b2 < 2 ^ b2 := Nat.mod_lt _ (Nat.two_pow_pos _)
            have h2 : 2 ^ b2 ≤ 2 ^ 4 := Nat.pow_le_pow_right (by omega) (by omega)
            omega
          have Hr := Lib.hid hr
          have hk1 : k + 1 ≤ n := by omega
          clear hr HW2 Hl
          rcases (by omega : b2 = 0 ∨ b2 = 1 ∨ b2 = 2 ∨ b2 = 3 ∨ b2 = 4) with rfl | rfl | rfl | rfl | rfl
          · have qe : bits .and .i64 (G : Int) 0 = (r : Int) := by rw [Hr.out]; exact B32.andLow (a := G) 0 (by omega) (by omega) rfl (by decide)
            go_wp2_with fail
            exact ⟨⟨k + 1, r, 0, s, hk1, by first | rfl | go_num, rfl, rfl, rfl, hr15, by omega, by omega, HW3⟩, by simp [intOf]; omega⟩
          · have qe : bits .and .i64 (G : Int) 1 = (r : Int) := by rw [Hr.out]; exact B32.andLow (a := G) 1 (by omega) (by omega) rfl (by decide)
            go_wp2_with fail
            exact ⟨⟨k + 1, r, 1, s, hk1, by first | rfl | go_num, rfl, rfl, rfl, hr15, by omega, by omega, HW3⟩, by simp [intOf]; omega⟩
          · have qe : bits .and .i64 (G : Int) 3 = (r : Int) := by rw [Hr.out]; exact B32.andLow (a := G) 2 (by omega) (by omega) rfl (by decide)
            go_wp2_with fail
            exact ⟨⟨k + 1, r, 2, s, hk1, by first | rfl | go_num, rfl, rfl, rfl, hr15, by omega, by omega, HW3⟩, by simp [intOf]; omega⟩
          · have qe : bits .and .i64 (G : Int) 7 = (r : Int) := by rw [Hr.out]; exact B32.andLow (a := G) 3 (by omega) (by omega) rfl (by decide)
            go_wp2_with fail
            exact ⟨⟨k + 1, r, 3, s, hk1, by first | rfl | go_num, rfl, rfl, rfl, hr15, by omega, by omega, HW3⟩, by simp [intOf]; omega⟩
          · have qe : bits .and .i64 (G : Int) 15 = (r : Int) := by rw [Hr.out]; exact B32.andLow (a := G) 4 (by omega) (by omega) rfl (by decide)
            go_wp2_with fail
            exact ⟨⟨k + 1, r, 4, s, hk1, by first | rfl | go_num, rfl, rfl, rfl, hr15, by omega, by omega, HW3⟩, by simp [intOf]; omega⟩
    · obtain rfl : k = n := by omega
      have HW0 := Lib.hid (show B32.Wr l s (if b = 0 then [] else [h * 2 ^ (5 - b) % 32]) by have := HW.out; rw [hn.out, List.drop_length, B32.feed] at this; exact this)
      clear HW
      have hs3000 : s.size ≤ 3000 := by omega
      by_cases hb0 : b = 0
      · subst hb0
        have HE := Lib.hid (show s = strOf (B32.enc B32.alpha l) by
          obtain ⟨P, h1, h2⟩ := HW0.out
          rw [if_pos rfl, List.append_nil] at h2
          rw [B32.enc, h2, h1])
        clear HW0
        go_wp2_with fail
        go_ret
        exact ⟨by rw [← HE.out]; rfl, rfl⟩
      · obtain ⟨q, hq⟩ : ∃ q, q = h * 2 ^ (5 - b) % 32 := ⟨_, rfl⟩
        have hq32 : q < 32 := by omega
        have Hq := Lib.hid hq
        have HE := Lib.hid (show s ++ (strOf B32.alpha).extract q (q + 1) = strOf (B32.enc B32.alpha l) by
          have h0 := HW0.out
          rw [if_neg hb0, ← hq] at h0
          obtain ⟨P, h1, h2⟩ := B32.Wr.next h0 hq32
          rw [List.append_nil] at h2
          rw [B32.enc, h2, h1])
        clear HW0 hq
        rcases (by omega : b = 1 ∨ b = 2 ∨ b = 3 ∨ b = 4) with rfl | rfl | rfl | rfl
        · have qe : bits .and .i64 ((h : Int) * 16) 31 = (q : Int) := by rw [Hq.out]; exact B32.andLow (a := h * 2 ^ (5 - 1)) 5 (by omega) (by omega) (by omega) (by decide)
          go_wp2_with fail
          go_ret
          exact ⟨by rw [← HE.out]; rfl, rfl⟩
        · have qe : bits .and .i64 ((h : Int) * 8) 31 = (q : Int) := by rw [Hq.out]; exact B32.andLow (a := h * 2 ^ (5 - 2)) 5 (by omega) (by omega) (by omega) (by decide)
          go_wp2_with fail
          go_ret
          exact ⟨by rw [← HE.out]; rfl, rfl⟩
        · have qe : bits .and .i64 ((h : Int) * 4) 31 = (q : Int) := by rw [Hq.out]; exact B32.andLow (a := h * 2 ^ (5 - 3)) 5 (by omega) (by omega) (by omega) (by decide)
          go_wp2_with fail
          go_ret
          exact ⟨by rw [← HE.out]; rfl, rfl⟩
        · have qe : bits .and .i64 ((h : Int) * 2) 31 = (q : Int) := by rw [Hq.out]; exact B32.andLow (a := h * 2 ^ (5 - 4)) 5 (by omega) (by omega) (by omega) (by decide)
          go_wp2_with fail
          go_ret
          exact ⟨by rw [← HE.out]; rfl, rfl⟩
set_option maxHeartbeats 1000000 in
theorem refCid (h : Bs w w.heap.size v l) (hlen : l.length ≤ 1000) :
    Calls Tryz.prog 12 #[v] w fun e w' => Fresh w (1 :: 114 :: l) e w' := by
  have HB := Lib.hid h
  have hlen2 := Lib.hid (show ([1, 114] : List UInt8).length + l.length ≤ 140737488355328 by simp; omega)
  have HO := Lib.hid (Own.lits w w.heap.size (Nat.le_refl _) #[.int .u8 1, .int .u8 114] [1, 114] (by simp [bvs, bv]) (by simp) w.heap.size 2 rfl rfl)
  clear h hlen
  go_enter Tryz.func12, Tryz.ntmps12
  go_wp2_with ((at_builtin; refine wpList_app rfl _ _ rfl (by rfl) (by rfl) HO.out (HB.out.alloc (Nat.le_refl _) _) hlen2.out (by simp) ?_; intro v' w3 ho hg hnn hmv; have HO2 := Lib.hid ho; have HB2 := Lib.hid ((below_alloc w (.cells #[.int .u8 1, .int .u8 114] 5)).trans (below_of_own HO.out hg (by simp))); clear ho hg hnn hmv))
  go_ret
  exact ⟨_, rfl, HO2.out, HB2.out⟩
end
end Go.Proofs.YteodhonipbdplaaGreatDoor

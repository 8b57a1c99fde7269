/- The walk of FnPeerDecoded. -/
import Derived.Test.YteodhonipbdplaaGreatDoorMd07
import Derived.Test.YteodhonipbdplaaGreatDoorMd11
import Derived.Test.YteodhonipbdplaaGreatDoorMd18
import Derived.Deep.RegionHeld3
import Derived.Deep.DrawnRows
import Derived.Lay
import Derived.Stop.Joined
namespace Go.Proofs.YteodhonipbdplaaGreatDoor
open Go.RowKit
set_option maxRecDepth 100000
section
variable {w : World} {v0 v1 : Value} {l : List UInt8}
theorem bs32_size {l : List UInt8} (hl : l.length = 32) : (Tryz.prog.info? 22).map (·.size) = some (bvs l).toArray.size := by
  rw [show (bvs l).toArray.size = 32 by simp [bvs, hl]]; exact info32
theorem eqSame {B C : Nat} {v x : Value} (h : Bs w B v l) (k : Bs w C x l) :
    Calls Tryz.prog 11 #[v, x] w fun e w' => e = .returned (.bool true) ∧ w = w' :=
  (bytesEqual h k).mono fun e w' ⟨h1, h2⟩ => ⟨by rw [h1]; simp, h2⟩
set_option maxHeartbeats 8000000 in
theorem FnPeerDecoded_main {k : Nat} (hl : l.length = 32) (hk : k ≤ 255) (he : MErr w) :
    Calls Tryz.prog 5 #[.agg (bvs l).toArray, .int .u8 (k : Int)] w fun e w' => Yes w e w' := by
  obtain ⟨q, hq⟩ : ∃ q : Nat, (k : Int) % 3 = (q : Int) := ⟨k % 3, by omega⟩
  have hq2 : q ≤ 2 := by omega
  have hba := below_alloc w (.cells (bvs l).toArray 22)
  have K := Lib.hid (Blk.new w 22 (bvs l).toArray)
  have Hi32 := Lib.hid (bs32_size hl)
  have B := Lib.hid hba
  have He := Lib.hid (he.step hba)
  have Hlen := Lib.hid (made_len hl q)
  have Hok := Lib.hid (made_ok hl q)
  have Hbg := Lib.hid (B58.made_begins hl (k := q) (by omega))
  have HP := Lib.hid (fun W => peerMade W l hl q (by omega))
  clear hba he hl
  obtain ⟨m, hm⟩ : ∃ m, m = made l q := ⟨_, rfl⟩
  rw [← hm] at Hlen Hok HP Hbg
  clear hm
  have Hm0 := Lib.hid (show m ≠ [] by intro e; have := Hlen.out; rw [e] at this; simp at this)
  have Hml := Lib.hid (show m.length ≤ 800 by have := Hlen.out; omega)
  have Hcl := Lib.hid (show (1 :: 114 :: m : List UInt8).length ≤ 900 by have := Hlen.out; simp only [List.length_cons]; omega)
  have HT := Lib.hid (fun (W : World) (v : Value) (h : Bs W W.heap.size v m) => peerText (w := W) h (by have := Hml.out; omega))
  have HI := Lib.hid (fun (W : World) (he : MErr W) => peerDecodeI (w := W) he Hok.out (by have := Hml.out; omega) Hm0.out Hbg.out)
  have H32 := Lib.hid (fun (W : World) (v : Value) (h : Bs W W.heap.size v (1 :: 114 :: m)) => peerBase32 (w := W) h (by have := Hcl.out; omega))
  have H58 := Lib.hid (fun (W : World) (v : Value) (h : Bs W W.heap.size v (1 :: 114 :: m)) => peerBase58 (w := W) h (by have := Hcl.out; omega))
  have HB := Lib.hid (fun (W : World) (he : MErr W) => (show Calls Tryz.prog 16 #[.string (({ data := #[98] } : ByteArray) ++ strOf (B32.enc B32.alpha (1 :: 114 :: m)))] W fun e w' => BsTrue W m e w' by
    have := peerDecodeB (w := W) he Hok.out (by have := Hml.out; omega) Hm0.out
    rw [show (98 :: B32.enc B32.alpha (1 :: 114 :: m)) = [98] ++ B32.enc B32.alpha (1 :: 114 :: m) from rfl, ← strOf_append] at this
    exact this))
  have HZ := Lib.hid (fun (W : World) (he : MErr W) => (show Calls Tryz.prog 16 #[.string (({ data := #[122] } : ByteArray) ++ strOf (B58.enc (1 :: 114 :: m)))] W fun e w' => BsTrue W m e w' by
    have := peerDecodeZ (w := W) he Hok.out (by have := Hml.out; omega) Hm0.out
    rw [show (122 :: B58.enc (1 :: 114 :: m)) = [122] ++ B58.enc (1 :: 114 :: m) from rfl, ← strOf_append] at this
    exact this))
  have hs32 : (strOf (B32.enc B32.alpha (1 :: 114 :: m))).size ≤ 10000 := by rw [strOf_size, B32.enc_length]; have := Hcl.out; omega
  have hs58 : (strOf (B58.enc (1 :: 114 :: m))).size ≤ 10000 := by rw [strOf_size]; have := enc_len_le (1 :: 114 :: m); have := Hcl.out; omega
  unfold Txt at HT
  obtain ⟨T, hT⟩ : ∃ T, T = strOf (B58.enc m) := ⟨_, rfl⟩
  rw [← hT] at HT HI
  obtain ⟨S32, hS32⟩ : ∃ T, T = strOf (B32.enc B32.alpha (1 :: 114 :: m)) := ⟨_, rfl⟩
  rw [← hS32] at H32 HB hs32
  obtain ⟨S58, hS58⟩ : ∃ T, T = strOf (B58.enc (1 :: 114 :: m)) := ⟨_, rfl⟩
  rw [← hS58] at H58 HZ hs58
  clear hT hS32 hS58
  go_enter Tryz.func5, Tryz.ntmps5
  go_wp2_with ((refine wpList_load_row rfl 22 _ (by rfl) w.heap.size (by rfl) 22 (bvs l).toArray (0, 0) _ K.out Tryz.underlying22 rfl Hi32.out ?_))
  refine (HP.out _).mono ?_
  rintro e w1 ⟨v1, rfl, ho, hb⟩
  replace B := Lib.hid (below_trans B.out hb)
  replace He := Lib.hid (He.out.step hb)
  have X := Lib.hid ho.bs
  obtain ⟨A, n, c, rfl, hn, _, _⟩ := ho.bs.form'
  clear ho hb HP K Hi32
  go_wp2_with fail
  refine (refCid X.out (by have := Hml.out; omega)).mono ?_
  rintro e w2 ⟨v2, rfl, ho, hb⟩
  replace B := Lib.hid (below_trans B.out hb)
  replace He := Lib.hid (He.out.step hb)
  replace X := Lib.hid (X.out.step hb)
  have C := Lib.hid ho.bs
  clear ho hb
  go_wp2_with fail
  refine (bytesClone X.out (by have := Hml.out; omega)).mono ?_
  rintro e w3 ⟨v3, rfl, ho, hb⟩
  replace B := Lib.hid (below_trans B.out hb)
  replace He := Lib.hid (He.out.step hb)
  replace X := Lib.hid (X.out.step hb)
  replace C := Lib.hid (C.out.step hb)
  have X2 := Lib.hid ho.bs
  clear ho hb
  go_wp2_with fail
  refine (HT.out _ _ X2.out).mono ?_
  rintro e w4 ⟨rfl, hb⟩
  replace B := Lib.hid (below_trans B.out hb)
  replace He := Lib.hid (He.out.step hb)
  replace X := Lib.hid (X.out.step hb)
  replace C := Lib.hid (C.out.step hb)
  clear hb X2
  go_wp2_with fail
  refine (HI.out _ He.out).mono ?_
  rintro e w5 ⟨v5, rfl, hbs, hb⟩
  obtain ⟨A5, n5, c5, rfl, _, _, _⟩ := hbs.form'
  replace B := Lib.hid (below_trans B.out hb)
  replace He := Lib.hid (He.out.step hb)
  replace X := Lib.hid (X.out.step hb)
  replace C := Lib.hid (C.out.step hb)
  have Ya := Lib.hid hbs
  clear hbs hb
  go_wp2_with fail
  refine (H32.out _ _ C.out).mono ?_
  rintro e w6 ⟨rfl, rfl⟩
  go_wp2_with fail
  refine (HB.out _ He.out).mono ?_
  rintro e w6 ⟨v6, rfl, hbs, hb⟩
  obtain ⟨A6, n6, c6, rfl, _, _, _⟩ := hbs.form'
  replace B := Lib.hid (below_trans B.out hb)
  replace He := Lib.hid (He.out.step hb)
  replace X := Lib.hid (X.out.step hb)
  replace C := Lib.hid (C.out.step hb)
  replace Ya := Lib.hid (Ya.out.step hb)
  have Yb := Lib.hid hbs
  clear hbs hb
  go_wp2_with fail
  refine (H58.out _ _ C.out).mono ?_
  rintro e w7 ⟨rfl, hb⟩
  replace B := Lib.hid (below_trans B.out hb)
  replace He := Lib.hid (He.out.step hb)
  replace X := Lib.hid (X.out.step hb)
  replace Ya := Lib.hid (Ya.out.step hb)
  replace Yb := Lib.hid (Yb.out.step hb)
  clear hb C
  go_wp2_with fail
  refine (HZ.out _ He.out).mono ?_
  rintro e w8 ⟨v8, rfl, hbs, hb⟩
  obtain ⟨A8, n8, c8, rfl, _, _, _⟩ := hbs.form'
  replace B := Lib.hid (below_trans B.out hb)
  replace He := Lib.hid (He.out.step hb)
  replace X := Lib.hid (X.out.step hb)
  replace Ya := Lib.hid (Ya.out.step hb)
  replace Yb := Lib.hid (Yb.out.step hb)
  have Yc := Lib.hid hbs
  clear hbs hb
  go_wp2_with fail
  refine (eqSame Ya.out X.out).mono ?_
  rintro e w9 ⟨rfl, rfl⟩
  go_wp2_with fail
  refine (eqSame Yb.out X.out).mono ?_
  rintro e w9 ⟨rfl, rfl⟩
  go_wp2_with fail
  refine (eqSame Yc.out X.out).mono ?_
  rintro e w9 ⟨rfl, rfl⟩
  go_wp2_with fail
  refine (peersLive He.out).mono ?_
  rintro e w9 ⟨rfl, hb⟩
  replace B := Lib.hid (below_trans B.out hb)
  clear hb
  go_wp2_with fail
  go_ret
  exact ⟨rfl, B.out⟩
theorem walk_FnPeerDecoded {k : Int} (f0 : IsArr v0 32 l) (f1 : IsInt .u8 v1 k)
    (he : HasErr w 4 ∧ HasErr w 6 ∧ HasErr w 5 ∧ HasErr w 8 ∧ HasErr w 11 ∧ HasErr w 12) :
    Calls Tryz.prog 5 #[v0, v1] w fun e w' => Yes w e w' := by
  obtain ⟨rfl, hl⟩ := f0
  obtain ⟨rfl, a1, a2⟩ := isU8 f1
  obtain ⟨k, rfl⟩ := Int.eq_ofNat_of_zero_le a1
  exact FnPeerDecoded_main hl (by omega) ⟨⟨he.1, he.2.1, he.2.2.1⟩, he.2.2.2.1, he.2.2.2.2.1, he.2.2.2.2.2⟩
end
end Go.Proofs.YteodhonipbdplaaGreatDoor

/- The listed variables of the laws of peers: each holds an error. -/
namespace Go.Proofs.YteodhonipbdplaaGreatDoor
set_option maxRecDepth 100000
theorem Tryz.gVOver : Tryz.prog.globalNamed "pub-symmory/pub/govarint.ErrOverflow" = some 4 ∧ (Tryz.prog.globals[4]?).map (·.type) = some 46 := ⟨by kernel_rfl, by kernel_rfl⟩
theorem Tryz.gVUnder : Tryz.prog.globalNamed "pub-symmory/pub/govarint.ErrUnderflow" = some 6 ∧ (Tryz.prog.globals[6]?).map (·.type) = some 46 := ⟨by kernel_rfl, by kernel_rfl⟩
theorem Tryz.gVMin : Tryz.prog.globalNamed "pub-symmory/pub/govarint.ErrNotMinimal" = some 5 ∧ (Tryz.prog.globals[5]?).map (·.type) = some 46 := ⟨by kernel_rfl, by kernel_rfl⟩
theorem Tryz.gMShort : Tryz.prog.globalNamed "pub-symmory/pub/gomultihash.ErrTooShort" = some 8 ∧ (Tryz.prog.globals[8]?).map (·.type) = some 46 := ⟨by kernel_rfl, by kernel_rfl⟩
theorem Tryz.gMBuf : Tryz.prog.globalNamed "pub-symmory/pub/gomultihash.ErrVarintBufferShort" = some 11 ∧ (Tryz.prog.globals[11]?).map (·.type) = some 46 := ⟨by kernel_rfl, by kernel_rfl⟩
theorem Tryz.gMLong : Tryz.prog.globalNamed "pub-symmory/pub/gomultihash.ErrVarintTooLong" = some 12 ∧ (Tryz.prog.globals[12]?).map (·.type) = some 46 := ⟨by kernel_rfl, by kernel_rfl⟩
end Go.Proofs.YteodhonipbdplaaGreatDoor

/- A witness for a row over stops whose world lays every listed datum, great tables too. -/
namespace Go.Proofs.YteodhonipbdplaaGreatDoor
theorem witnessZip {H : Type} {enc : TypeId × Value → H} {C : Checked} {os : Os} {f : FuncId} {fn : Func} {s : OpenSpec} {laid : List (String × DataW Unit)} (w0 : World) (args : Array Value) (hos : w0.os = os)
    (hs : (w0.forCall (fun _ _ => 0) ⟨#[], args, []⟩).Shaped C.prog) (hok : Input.okWideB C.prog (w0.forCall (fun _ _ => 0) ⟨#[], args, []⟩) f ⟨#[], args, []⟩ = true)
    (hrow : s.preRow enc C.prog fn [] false laid (w0.forCall (fun _ _ => 0) ⟨#[], args, []⟩).memory args) (F : Stop.Interp) :
    ∃ (w : World) (tape : Tape) (i : Input), w.os = os ∧ (w.forCall tape i).Shaped C.prog ∧ i.vars = [] ∧ Input.okWide C.prog (w.forCall tape i) .any w.heap.size f i ∧
      s.preRow enc C.prog fn [] false laid (w.forCall tape i).memory i.args ∧ ({} : Assume).holds C.prog (lone (Frame.enter C.prog f i.args .normal) [] (w.forCall tape i)) ∧ F.answers tape := by
  have h1 := Input.okWide_of_okWideB (base := 0) hok
  have h2 := Input.okWide_of_okWideB (base := w0.heap.size) hok
  refine ⟨w0, F.over fun _ _ => 0, ⟨#[], args, []⟩, hos, hs, h1.1, h2.2, hrow, ?_, F.over_answers _⟩
  simp only [Assume.holds]
  exact ⟨by simp, by simp, fun _ => F.over_modest Modest.zero, by simp, by simp⟩
end Go.Proofs.YteodhonipbdplaaGreatDoor

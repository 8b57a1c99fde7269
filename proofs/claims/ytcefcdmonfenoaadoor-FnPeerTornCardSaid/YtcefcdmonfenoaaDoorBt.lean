/- The texts of IDs: what stands above base58's encoding. -/
import Derived.Test.YtcefcdmonfenoaaDoorBe
import Derived.Test.YtcefcdmonfenoaaDoorCs
namespace Go.Proofs.YtcefcdmonfenoaaDoor
open Go.RowKit
set_option maxRecDepth 100000
section
variable {w : World} {v : Value} {l : List UInt8}
def Txt (w : World) (t : List UInt8) (e : Ending) (w' : World) : Prop := e = .returned (.string (strOf t)) ∧ Below w.heap.size w w'
theorem fastB58 (h : Bs w w.heap.size v l) (hlen : l.length ≤ 1000000) :
    Calls Tryd.prog 106 #[v] w fun e w' => Txt w (B58.enc l) e w' := by
  have H := Lib.hid h
  clear h
  go_enter Tryd.func106, Tryd.ntmps106
  go_wp2_with fail
  refine (btcAlphabet w).mono ?_
  rintro e w1 ⟨g, rfl, hb, hbl, hg⟩
  have Hb := Lib.hid hb
  have Hbl := Lib.hid hbl
  clear hb hbl hg
  go_wp2_with fail
  refine (fastEnc (H.out.step Hbl.out) Hb.out hlen).mono ?_
  rintro e w2 ⟨rfl, hb2⟩
  go_wp2_with fail
  go_ret
  exact ⟨rfl, below_trans Hbl.out hb2⟩
theorem b58Encode (h : Bs w w.heap.size v l) (hlen : l.length ≤ 1000000) :
    Calls Tryd.prog 86 #[v] w fun e w' => Txt w (B58.enc l) e w' := by
  have H := Lib.hid h
  clear h
  go_enter Tryd.func86, Tryd.ntmps86
  go_wp2_with fail
  refine (fastB58 H.out hlen).mono ?_
  rintro e w2 ⟨rfl, hb2⟩
  go_wp2_with fail
  go_ret
  exact ⟨rfl, hb2⟩
theorem idString (w : World) (l : List UInt8) (hlen : l.length ≤ 1000000) :
    Calls Tryd.prog 64 #[.string (strOf l)] w fun e w' => Txt w (B58.enc l) e w' := by
  obtain ⟨w1, c, hr, hb, hbl, hc, hm⟩ := conv_bytes w l (by omega) (src := 77) Tryd.underlying77
  have Hb := Lib.hid hb
  have Hbl := Lib.hid hbl
  clear hb hbl
  go_enter Tryd.func64, Tryd.ntmps64
  go_wp2_with fail
  refine (b58Encode Hb.out hlen).mono ?_
  rintro e w2 ⟨rfl, hb2⟩
  go_wp2_with fail
  go_ret
  exact ⟨rfl, below_trans Hbl.out hb2⟩
theorem peerText (h : Bs w w.heap.size v l) (hlen : l.length ≤ 1000000) :
    Calls Tryd.prog 25 #[v] w fun e w' => Txt w (B58.enc l) e w' := by
  have hconv := conv_str h (dst := 77) Tryd.underlying77
  clear h
  go_enter Tryd.func25, Tryd.ntmps25
  go_wp2_with fail
  refine (idString w l hlen).mono ?_
  rintro e w2 ⟨rfl, hb2⟩
  go_wp2_with fail
  go_ret
  exact ⟨rfl, hb2⟩
end
end Go.Proofs.YtcefcdmonfenoaaDoor

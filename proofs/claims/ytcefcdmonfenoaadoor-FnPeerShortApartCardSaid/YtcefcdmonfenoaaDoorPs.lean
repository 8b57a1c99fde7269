/- ID.ShortString, PeerShort. -/
import Derived.Test.YtcefcdmonfenoaaDoorBt
import Derived.Test.YtcefcdmonfenoaaDoorBp
import Derived.Deep.QuietTactic
import Derived.BigQuiet
namespace Go.Proofs.YtcefcdmonfenoaaDoor
open Go.RowKit
set_option maxRecDepth 100000
def preT : List UInt8 := [60, 112, 101, 101, 114, 46, 73, 68, 32]
/-- the short text of a text -/
def shortOf (t : List UInt8) : List UInt8 := if t.length ≤ 10 then preT ++ (t ++ [62]) else preT ++ (t.take 2 ++ (42 :: (t.drop (t.length - 6) ++ [62])))
theorem enc_len (l : List UInt8) : (B58.enc l).length ≤ 3 * l.length + 1 := by
  have h1 := dig_len l
  have h2 : B58.zeros l ≤ l.length := by unfold B58.zeros; exact (List.takeWhile_sublist _).length_le
  unfold B58.enc; simp; omega
section
variable {w : World}
set_option maxHeartbeats 1000000 in
theorem shortString (w : World) (l : List UInt8) (hlen : l.length ≤ 1000000) :
    Calls Tryd.prog 63 #[.string (strOf l)] w fun e w' => Txt w (shortOf (B58.enc l)) e w' := by
  have HI := Lib.hid (idString w l hlen)
  have hle := enc_len l
  obtain ⟨t, ht⟩ : ∃ t, t = B58.enc l := ⟨_, rfl⟩
  rw [← ht] at HI hle ⊢
  clear ht
  obtain ⟨s, hs⟩ : ∃ s, s = strOf t := ⟨_, rfl⟩
  have hsz : s.size = t.length := by rw [hs, strOf_size]
  by_cases h10 : t.length ≤ 10
  · have HR := Lib.hid (show ({ data := #[60, 112, 101, 101, 114, 46, 73, 68, 32] } : ByteArray) ++ s ++ ({ data := #[62] } : ByteArray) = strOf (shortOf t) by
      unfold shortOf; rw [if_pos h10, hs]
      show strOf preT ++ strOf t ++ strOf [62] = _
      rw [strOf_append, strOf_append, List.append_assoc])
    rw [← hsz] at h10
    clear hle hsz
    go_enter Tryd.func63, Tryd.ntmps63
    go_wp2_with fail
    refine HI.out.mono ?_
    rintro e w2 ⟨rfl, hb⟩
    rw [← hs]
    clear hs
    go_wp2_with fail
    go_ret
    exact ⟨by rw [← HR.out]; rfl, hb⟩
  · have HR := Lib.hid (show ({ data := #[60, 112, 101, 101, 114, 46, 73, 68, 32] } : ByteArray) ++ s.extract 0 2 ++ ({ data := #[42] } : ByteArray) ++ s.extract (s.size - 6) s.size ++ ({ data := #[62] } : ByteArray) = strOf (shortOf t) by
      unfold shortOf; rw [if_neg h10, hsz, hs, strOf_extract, strOf_extract, List.drop_zero, List.take_length]
      show strOf preT ++ strOf _ ++ strOf [42] ++ strOf _ ++ strOf [62] = _
      rw [strOf_append, strOf_append, strOf_append, strOf_append]
      congr 1
      simp)
    rw [← hsz] at h10 hle
    clear hsz
    go_enter Tryd.func63, Tryd.ntmps63
    go_wp2_with fail
    refine HI.out.mono ?_
    rintro e w2 ⟨rfl, hb⟩
    rw [← hs]
    clear hs
    go_wp2_with fail
    have hb1 : (2 : Int) ≤ (s.size : Int) := by omega
    have hb2 : (0 : Int) ≤ (s.size : Int) - 6 := by omega
    go_quiet (fail)
    go_wp2_with fail
    go_ret
    exact ⟨by rw [← HR.out]; rfl, below_drewN hb _⟩
theorem peerShort {v : Value} {l : List UInt8} (h : Bs w w.heap.size v l) (hlen : l.length ≤ 1000000) :
    Calls Tryd.prog 24 #[v] w fun e w' => Txt w (shortOf (B58.enc l)) e w' := by
  have hconv := conv_str h (dst := 77) Tryd.underlying77
  clear h
  go_enter Tryd.func24, Tryd.ntmps24
  go_wp2_with fail
  refine (shortString w l hlen).mono ?_
  rintro e w2 ⟨rfl, hb2⟩
  go_wp2_with fail
  go_ret
  exact ⟨rfl, hb2⟩
end
end Go.Proofs.YtcefcdmonfenoaaDoor

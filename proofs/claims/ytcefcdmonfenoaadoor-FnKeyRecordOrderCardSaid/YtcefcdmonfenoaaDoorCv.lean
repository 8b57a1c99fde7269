/- ConsumeVarint: what it returns of bytes that are read, walked way by way. -/
import Derived.Test.YtcefcdmonfenoaaDoorChecked
import Derived.Test.YtcefcdmonfenoaaDoorWire
import Derived.WalkKit
import Derived.Lib.Hide
namespace Go.Proofs.YtcefcdmonfenoaaDoor
open Go.RowKit

namespace Wire
/-- a byte as a number -/
def nb (l : List UInt8) (k : Nat) : Nat := (l.getD k 0).toNat
theorem nb_lt (l : List UInt8) (k : Nat) : nb l k ≤ 255 := by unfold nb; have := UInt8.toNat_lt (l.getD k 0); omega
theorem drop_nb {l : List UInt8} {k : Nat} (h : k < l.length) : ∃ c, l.drop k = c :: l.drop (k + 1) ∧ c.toNat = nb l k := by
  refine ⟨l[k], List.drop_eq_getElem_cons h, ?_⟩
  simp [nb, List.getD, List.getElem?_eq_getElem h]
theorem cv_stop (l : List UInt8) (k acc : Nat) (h : l.length ≤ k) : cvarGo k acc (l.drop k) = (0, -1) := by
  rw [List.drop_eq_nil_of_le h]; rfl
theorem cv_end (l : List UInt8) (k acc : Nat) (h : k < l.length) (h9 : k < 9) (hb : nb l k < 128) : cvarGo k acc (l.drop k) = (acc + nb l k * 2 ^ (7 * k), (k : Int) + 1) := by
  obtain ⟨c, hc, hn⟩ := drop_nb h
  rw [hc, cvarGo, if_neg (by omega), hn, if_pos hb]
theorem cv_next (l : List UInt8) (k acc : Nat) (h : k < l.length) (h9 : k < 9) (hb : ¬ nb l k < 128) : cvarGo k acc (l.drop k) = cvarGo (k + 1) (acc + (nb l k - 128) * 2 ^ (7 * k)) (l.drop (k + 1)) := by
  obtain ⟨c, hc, hn⟩ := drop_nb h
  rw [hc, cvarGo, if_neg (by omega), hn, if_neg hb]
theorem cv_nine (l : List UInt8) (acc : Nat) (h : 9 < l.length) (hb : nb l 9 < 2) : cvarGo 9 acc (l.drop 9) = (acc + nb l 9 * 2 ^ 63, 10) := by
  obtain ⟨c, hc, hn⟩ := drop_nb h
  rw [hc, cvarGo, if_pos rfl, hn, if_pos hb]
theorem cv_over (l : List UInt8) (acc : Nat) (h : 9 < l.length) (hb : ¬ nb l 9 < 2) : cvarGo 9 acc (l.drop 9) = (0, -3) := by
  obtain ⟨c, hc, hn⟩ := drop_nb h
  rw [hc, cvarGo, if_pos rfl, hn, if_neg hb]
end Wire

def cvAns (l : List UInt8) (e : Ending) : Prop := e = .returned (.tuple #[.int .u64 (Wire.cvar l).1, .int .i64 (Wire.cvar l).2])
theorem cvAns_of {l : List UInt8} {v n : Int} {m : Nat} {k : Int} (h : Hid (Wire.cvar l = (m, k))) (hv : v = m) (hn : n = k) : cvAns l (.returned (.tuple #[.int .u64 v, .int .i64 n])) := by
  unfold cvAns; rw [h.out, hv, hn]
theorem hid_next {l : List UInt8} {k acc : Nat} {t : Nat × Int} (h : Hid (Wire.cvar l = Wire.cvarGo k acc (l.drop k))) (h2 : Wire.cvarGo k acc (l.drop k) = t) : Hid (Wire.cvar l = t) := h.out.trans h2

set_option maxRecDepth 100000

theorem cv_w0_end (g o c n b0 : Nat) (w : World) (hn : 0 < n) (hm : n ≤ 9223372036854775807) (c0 : w.cell? ⟨g, o, none⟩ = some (.int .u8 (b0 : Int))) (q0 : b0 ≤ 255)  (p0 : b0 < 128) :
    Calls Tryd.prog 98 #[.slice (some ⟨g, o, none⟩) n c] w fun e w' => (∃ v : Int, e = .returned (.tuple #[.int .u64 v, .int .i64 (1)]) ∧ v = (((0 + b0 * 2 ^ 0 : Nat)) : Int)) ∧ w = w' := by
  go_enter Tryd.func98, Tryd.ntmps98
  go_wp2
  go_ret2
  exact ⟨⟨_, rfl, by first | rfl | (simp; done) | omega⟩, rfl⟩

theorem cv_w1_stop (g o c n b0 : Nat) (w : World) (hn : n = 1) (c0 : w.cell? ⟨g, o, none⟩ = some (.int .u8 (b0 : Int))) (q0 : b0 ≤ 255) (p0 : 128 ≤ b0) :
    Calls Tryd.prog 98 #[.slice (some ⟨g, o, none⟩) n c] w fun e w' => (∃ v : Int, e = .returned (.tuple #[.int .u64 v, .int .i64 (-1)]) ∧ v = 0) ∧ w = w' := by
  subst hn
  go_enter Tryd.func98, Tryd.ntmps98
  go_wp2
  go_ret2
  exact ⟨⟨_, rfl, by first | rfl | (simp; done) | omega⟩, rfl⟩

theorem cv_w1_end (g o c n b0 b1 : Nat) (w : World) (hn : 1 < n) (hm : n ≤ 9223372036854775807) (c0 : w.cell? ⟨g, o, none⟩ = some (.int .u8 (b0 : Int))) (q0 : b0 ≤ 255) (c1 : w.cell? ⟨g, o + 1, none⟩ = some (.int .u8 (b1 : Int))) (q1 : b1 ≤ 255) (p0 : 128 ≤ b0) (p1 : b1 < 128) :
    Calls Tryd.prog 98 #[.slice (some ⟨g, o, none⟩) n c] w fun e w' => (∃ v : Int, e = .returned (.tuple #[.int .u64 v, .int .i64 (2)]) ∧ v = (((0 + (b0 - 128) * 2 ^ (7 * 0) + b1 * 2 ^ 7 : Nat)) : Int)) ∧ w = w' := by
  go_enter Tryd.func98, Tryd.ntmps98
  go_wp2
  go_ret2
  exact ⟨⟨_, rfl, by first | rfl | (simp; done) | omega⟩, rfl⟩

theorem cv_w2_stop (g o c n b0 b1 : Nat) (w : World) (hn : n = 2) (c0 : w.cell? ⟨g, o, none⟩ = some (.int .u8 (b0 : Int))) (q0 : b0 ≤ 255) (c1 : w.cell? ⟨g, o + 1, none⟩ = some (.int .u8 (b1 : Int))) (q1 : b1 ≤ 255) (p0 : 128 ≤ b0) (p1 : 128 ≤ b1) :
    Calls Tryd.prog 98 #[.slice (some ⟨g, o, none⟩) n c] w fun e w' => (∃ v : Int, e = .returned (.tuple #[.int .u64 v, .int .i64 (-1)]) ∧ v = 0) ∧ w = w' := by
  subst hn
  go_enter Tryd.func98, Tryd.ntmps98
  go_wp2
  go_ret2
  exact ⟨⟨_, rfl, by first | rfl | (simp; done) | omega⟩, rfl⟩

theorem cv_w2_end (g o c n b0 b1 b2 : Nat) (w : World) (hn : 2 < n) (hm : n ≤ 9223372036854775807) (c0 : w.cell? ⟨g, o, none⟩ = some (.int .u8 (b0 : Int))) (q0 : b0 ≤ 255) (c1 : w.cell? ⟨g, o + 1, none⟩ = some (.int .u8 (b1 : Int))) (q1 : b1 ≤ 255) (c2 : w.cell? ⟨g, o + 2, none⟩ = some (.int .u8 (b2 : Int))) (q2 : b2 ≤ 255) (p0 : 128 ≤ b0) (p1 : 128 ≤ b1) (p2 : b2 < 128) :
    Calls Tryd.prog 98 #[.slice (some ⟨g, o, none⟩) n c] w fun e w' => (∃ v : Int, e = .returned (.tuple #[.int .u64 v, .int .i64 (3)]) ∧ v = (((0 + (b0 - 128) * 2 ^ (7 * 0) + (b1 - 128) * 2 ^ (7 * 1) + b2 * 2 ^ 14 : Nat)) : Int)) ∧ w = w' := by
  go_enter Tryd.func98, Tryd.ntmps98
  go_wp2
  go_ret2
  exact ⟨⟨_, rfl, by first | rfl | (simp; done) | omega⟩, rfl⟩

theorem cv_w3_stop (g o c n b0 b1 b2 : Nat) (w : World) (hn : n = 3) (c0 : w.cell? ⟨g, o, none⟩ = some (.int .u8 (b0 : Int))) (q0 : b0 ≤ 255) (c1 : w.cell? ⟨g, o + 1, none⟩ = some (.int .u8 (b1 : Int))) (q1 : b1 ≤ 255) (c2 : w.cell? ⟨g, o + 2, none⟩ = some (.int .u8 (b2 : Int))) (q2 : b2 ≤ 255) (p0 : 128 ≤ b0) (p1 : 128 ≤ b1) (p2 : 128 ≤ b2) :
    Calls Tryd.prog 98 #[.slice (some ⟨g, o, none⟩) n c] w fun e w' => (∃ v : Int, e = .returned (.tuple #[.int .u64 v, .int .i64 (-1)]) ∧ v = 0) ∧ w = w' := by
  subst hn
  go_enter Tryd.func98, Tryd.ntmps98
  go_wp2
  go_ret2
  exact ⟨⟨_, rfl, by first | rfl | (simp; done) | omega⟩, rfl⟩

theorem cv_w3_end (g o c n b0 b1 b2 b3 : Nat) (w : World) (hn : 3 < n) (hm : n ≤ 9223372036854775807) (c0 : w.cell? ⟨g, o, none⟩ = some (.int .u8 (b0 : Int))) (q0 : b0 ≤ 255) (c1 : w.cell? ⟨g, o + 1, none⟩ = some (.int .u8 (b1 : Int))) (q1 : b1 ≤ 255) (c2 : w.cell? ⟨g, o + 2, none⟩ = some (.int .u8 (b2 : Int))) (q2 : b2 ≤ 255) (c3 : w.cell? ⟨g, o + 3, none⟩ = some (.int .u8 (b3 : Int))) (q3 : b3 ≤ 255) (p0 : 128 ≤ b0) (p1 : 128 ≤ b1) (p2 : 128 ≤ b2) (p3 : b3 < 128) :
    Calls Tryd.prog 98 #[.slice (some ⟨g, o, none⟩) n c] w fun e w' => (∃ v : Int, e = .returned (.tuple #[.int .u64 v, .int .i64 (4)]) ∧ v = (((0 + (b0 - 128) * 2 ^ (7 * 0) + (b1 - 128) * 2 ^ (7 * 1) + (b2 - 128) * 2 ^ (7 * 2) + b3 * 2 ^ 21 : Nat)) : Int)) ∧ w = w' := by
  go_enter Tryd.func98, Tryd.ntmps98
  go_wp2
  go_ret2
  exact ⟨⟨_, rfl, by first | rfl | (simp; done) | omega⟩, rfl⟩

theorem cv_w4_stop (g o c n b0 b1 b2 b3 : Nat) (w : World) (hn : n = 4) (c0 : w.cell? ⟨g, o, none⟩ = some (.int .u8 (b0 : Int))) (q0 : b0 ≤ 255) (c1 : w.cell? ⟨g, o + 1, none⟩ = some (.int .u8 (b1 : Int))) (q1 : b1 ≤ 255) (c2 : w.cell? ⟨g, o + 2, none⟩ = some (.int .u8 (b2 : Int))) (q2 : b2 ≤ 255) (c3 : w.cell? ⟨g, o + 3, none⟩ = some (.int .u8 (b3 : Int))) (q3 : b3 ≤ 255) (p0 : 128 ≤ b0) (p1 : 128 ≤ b1) (p2 : 128 ≤ b2) (p3 : 128 ≤ b3) :
    Calls Tryd.prog 98 #[.slice (some ⟨g, o, none⟩) n c] w fun e w' => (∃ v : Int, e = .returned (.tuple #[.int .u64 v, .int .i64 (-1)]) ∧ v = 0) ∧ w = w' := by
  subst hn
  go_enter Tryd.func98, Tryd.ntmps98
  go_wp2
  go_ret2
  exact ⟨⟨_, rfl, by first | rfl | (simp; done) | omega⟩, rfl⟩

theorem cv_w4_end (g o c n b0 b1 b2 b3 b4 : Nat) (w : World) (hn : 4 < n) (hm : n ≤ 9223372036854775807) (c0 : w.cell? ⟨g, o, none⟩ = some (.int .u8 (b0 : Int))) (q0 : b0 ≤ 255) (c1 : w.cell? ⟨g, o + 1, none⟩ = some (.int .u8 (b1 : Int))) (q1 : b1 ≤ 255) (c2 : w.cell? ⟨g, o + 2, none⟩ = some (.int .u8 (b2 : Int))) (q2 : b2 ≤ 255) (c3 : w.cell? ⟨g, o + 3, none⟩ = some (.int .u8 (b3 : Int))) (q3 : b3 ≤ 255) (c4 : w.cell? ⟨g, o + 4, none⟩ = some (.int .u8 (b4 : Int))) (q4 : b4 ≤ 255) (p0 : 128 ≤ b0) (p1 : 128 ≤ b1) (p2 : 128 ≤ b2) (p3 : 128 ≤ b3) (p4 : b4 < 128) :
    Calls Tryd.prog 98 #[.slice (some ⟨g, o, none⟩) n c] w fun e w' => (∃ v : Int, e = .returned (.tuple #[.int .u64 v, .int .i64 (5)]) ∧ v = (((0 + (b0 - 128) * 2 ^ (7 * 0) + (b1 - 128) * 2 ^ (7 * 1) + (b2 - 128) * 2 ^ (7 * 2) + (b3 - 128) * 2 ^ (7 * 3) + b4 * 2 ^ 28 : Nat)) : Int)) ∧ w = w' := by
  go_enter Tryd.func98, Tryd.ntmps98
  go_wp2
  go_ret2
  exact ⟨⟨_, rfl, by first | rfl | (simp; done) | omega⟩, rfl⟩

theorem cv_w5_stop (g o c n b0 b1 b2 b3 b4 : Nat) (w : World) (hn : n = 5) (c0 : w.cell? ⟨g, o, none⟩ = some (.int .u8 (b0 : Int))) (q0 : b0 ≤ 255) (c1 : w.cell? ⟨g, o + 1, none⟩ = some (.int .u8 (b1 : Int))) (q1 : b1 ≤ 255) (c2 : w.cell? ⟨g, o + 2, none⟩ = some (.int .u8 (b2 : Int))) (q2 : b2 ≤ 255) (c3 : w.cell? ⟨g, o + 3, none⟩ = some (.int .u8 (b3 : Int))) (q3 : b3 ≤ 255) (c4 : w.cell? ⟨g, o + 4, none⟩ = some (.int .u8 (b4 : Int))) (q4 : b4 ≤ 255) (p0 : 128 ≤ b0) (p1 : 128 ≤ b1) (p2 : 128 ≤ b2) (p3 : 128 ≤ b3) (p4 : 128 ≤ b4) :
    Calls Tryd.prog 98 #[.slice (some ⟨g, o, none⟩) n c] w fun e w' => (∃ v : Int, e = .returned (.tuple #[.int .u64 v, .int .i64 (-1)]) ∧ v = 0) ∧ w = w' := by
  subst hn
  go_enter Tryd.func98, Tryd.ntmps98
  go_wp2
  go_ret2
  exact ⟨⟨_, rfl, by first | rfl | (simp; done) | omega⟩, rfl⟩

theorem cv_w5_end (g o c n b0 b1 b2 b3 b4 b5 : Nat) (w : World) (hn : 5 < n) (hm : n ≤ 9223372036854775807) (c0 : w.cell? ⟨g, o, none⟩ = some (.int .u8 (b0 : Int))) (q0 : b0 ≤ 255) (c1 : w.cell? ⟨g, o + 1, none⟩ = some (.int .u8 (b1 : Int))) (q1 : b1 ≤ 255) (c2 : w.cell? ⟨g, o + 2, none⟩ = some (.int .u8 (b2 : Int))) (q2 : b2 ≤ 255) (c3 : w.cell? ⟨g, o + 3, none⟩ = some (.int .u8 (b3 : Int))) (q3 : b3 ≤ 255) (c4 : w.cell? ⟨g, o + 4, none⟩ = some (.int .u8 (b4 : Int))) (q4 : b4 ≤ 255) (c5 : w.cell? ⟨g, o + 5, none⟩ = some (.int .u8 (b5 : Int))) (q5 : b5 ≤ 255) (p0 : 128 ≤ b0) (p1 : 128 ≤ b1) (p2 : 128 ≤ b2) (p3 : 128 ≤ b3) (p4 : 128 ≤ b4) (p5 : b5 < 128) :
    Calls Tryd.prog 98 #[.slice (some ⟨g, o, none⟩) n c] w fun e w' => (∃ v : Int, e = .returned (.tuple #[.int .u64 v, .int .i64 (6)]) ∧ v = (((0 + (b0 - 128) * 2 ^ (7 * 0) + (b1 - 128) * 2 ^ (7 * 1) + (b2 - 128) * 2 ^ (7 * 2) + (b3 - 128) * 2 ^ (7 * 3) + (b4 - 128) * 2 ^ (7 * 4) + b5 * 2 ^ 35 : Nat)) : Int)) ∧ w = w' := by
  go_enter Tryd.func98, Tryd.ntmps98
  go_wp2
  go_ret2
  exact ⟨⟨_, rfl, by first | rfl | (simp; done) | omega⟩, rfl⟩

theorem cv_w6_stop (g o c n b0 b1 b2 b3 b4 b5 : Nat) (w : World) (hn : n = 6) (c0 : w.cell? ⟨g, o, none⟩ = some (.int .u8 (b0 : Int))) (q0 : b0 ≤ 255) (c1 : w.cell? ⟨g, o + 1, none⟩ = some (.int .u8 (b1 : Int))) (q1 : b1 ≤ 255) (c2 : w.cell? ⟨g, o + 2, none⟩ = some (.int .u8 (b2 : Int))) (q2 : b2 ≤ 255) (c3 : w.cell? ⟨g, o + 3, none⟩ = some (.int .u8 (b3 : Int))) (q3 : b3 ≤ 255) (c4 : w.cell? ⟨g, o + 4, none⟩ = some (.int .u8 (b4 : Int))) (q4 : b4 ≤ 255) (c5 : w.cell? ⟨g, o + 5, none⟩ = some (.int .u8 (b5 : Int))) (q5 : b5 ≤ 255) (p0 : 128 ≤ b0) (p1 : 128 ≤ b1) (p2 : 128 ≤ b2) (p3 : 128 ≤ b3) (p4 : 128 ≤ b4) (p5 : 128 ≤ b5) :
    Calls Tryd.prog 98 #[.slice (some ⟨g, o, none⟩) n c] w fun e w' => (∃ v : Int, e = .returned (.tuple #[.int .u64 v, .int .i64 (-1)]) ∧ v = 0) ∧ w = w' := by
  subst hn
  go_enter Tryd.func98, Tryd.ntmps98
  go_wp2
  go_ret2
  exact ⟨⟨_, rfl, by first | rfl | (simp; done) | omega⟩, rfl⟩

theorem cv_w6_end (g o c n b0 b1 b2 b3 b4 b5 b6 : Nat) (w : World) (hn : 6 < n) (hm : n ≤ 9223372036854775807) (c0 : w.cell? ⟨g, o, none⟩ = some (.int .u8 (b0 : Int))) (q0 : b0 ≤ 255) (c1 : w.cell? ⟨g, o + 1, none⟩ = some (.int .u8 (b1 : Int))) (q1 : b1 ≤ 255) (c2 : w.cell? ⟨g, o + 2, none⟩ = some (.int .u8 (b2 : Int))) (q2 : b2 ≤ 255) (c3 : w.cell? ⟨g, o + 3, none⟩ = some (.int .u8 (b3 : Int))) (q3 : b3 ≤ 255) (c4 : w.cell? ⟨g, o + 4, none⟩ = some (.int .u8 (b4 : Int))) (q4 : b4 ≤ 255) (c5 : w.cell? ⟨g, o + 5, none⟩ = some (.int .u8 (b5 : Int))) (q5 : b5 ≤ 255) (c6 : w.cell? ⟨g, o + 6, none⟩ = some (.int .u8 (b6 : Int))) (q6 : b6 ≤ 255) (p0 : 128 ≤ b0) (p1 : 128 ≤ b1) (p2 : 128 ≤ b2) (p3 : 128 ≤ b3) (p4 : 128 ≤ b4) (p5 : 128 ≤ b5) (p6 : b6 < 128) :
    Calls Tryd.prog 98 #[.slice (some ⟨g, o, none⟩) n c] w fun e w' => (∃ v : Int, e = .returned (.tuple #[.int .u64 v, .int .i64 (7)]) ∧ v = (((0 + (b0 - 128) * 2 ^ (7 * 0) + (b1 - 128) * 2 ^ (7 * 1) + (b2 - 128) * 2 ^ (7 * 2) + (b3 - 128) * 2 ^ (7 * 3) + (b4 - 128) * 2 ^ (7 * 4) + (b5 - 128) * 2 ^ (7 * 5) + b6 * 2 ^ 42 : Nat)) : Int)) ∧ w = w' := by
  go_enter Tryd.func98, Tryd.ntmps98
  go_wp2
  go_ret2
  exact ⟨⟨_, rfl, by first | rfl | (simp; done) | omega⟩, rfl⟩

theorem cv_w7_stop (g o c n b0 b1 b2 b3 b4 b5 b6 : Nat) (w : World) (hn : n = 7) (c0 : w.cell? ⟨g, o, none⟩ = some (.int .u8 (b0 : Int))) (q0 : b0 ≤ 255) (c1 : w.cell? ⟨g, o + 1, none⟩ = some (.int .u8 (b1 : Int))) (q1 : b1 ≤ 255) (c2 : w.cell? ⟨g, o + 2, none⟩ = some (.int .u8 (b2 : Int))) (q2 : b2 ≤ 255) (c3 : w.cell? ⟨g, o + 3, none⟩ = some (.int .u8 (b3 : Int))) (q3 : b3 ≤ 255) (c4 : w.cell? ⟨g, o + 4, none⟩ = some (.int .u8 (b4 : Int))) (q4 : b4 ≤ 255) (c5 : w.cell? ⟨g, o + 5, none⟩ = some (.int .u8 (b5 : Int))) (q5 : b5 ≤ 255) (c6 : w.cell? ⟨g, o + 6, none⟩ = some (.int .u8 (b6 : Int))) (q6 : b6 ≤ 255) (p0 : 128 ≤ b0) (p1 : 128 ≤ b1) (p2 : 128 ≤ b2) (p3 : 128 ≤ b3) (p4 : 128 ≤ b4) (p5 : 128 ≤ b5) (p6 : 128 ≤ b6) :
    Calls Tryd.prog 98 #[.slice (some ⟨g, o, none⟩) n c] w fun e w' => (∃ v : Int, e = .returned (.tuple #[.int .u64 v, .int .i64 (-1)]) ∧ v = 0) ∧ w = w' := by
  subst hn
  go_enter Tryd.func98, Tryd.ntmps98
  go_wp2
  go_ret2
  exact ⟨⟨_, rfl, by first | rfl | (simp; done) | omega⟩, rfl⟩

theorem cv_w7_end (g o c n b0 b1 b2 b3 b4 b5 b6 b7 : Nat) (w : World) (hn : 7 < n) (hm : n ≤ 9223372036854775807) (c0 : w.cell? ⟨g, o, none⟩ = some (.int .u8 (b0 : Int))) (q0 : b0 ≤ 255) (c1 : w.cell? ⟨g, o + 1, none⟩ = some (.int .u8 (b1 : Int))) (q1 : b1 ≤ 255) (c2 : w.cell? ⟨g, o + 2, none⟩ = some (.int .u8 (b2 : Int))) (q2 : b2 ≤ 255) (c3 : w.cell? ⟨g, o + 3, none⟩ = some (.int .u8 (b3 : Int))) (q3 : b3 ≤ 255) (c4 : w.cell? ⟨g, o + 4, none⟩ = some (.int .u8 (b4 : Int))) (q4 : b4 ≤ 255) (c5 : w.cell? ⟨g, o + 5, none⟩ = some (.int .u8 (b5 : Int))) (q5 : b5 ≤ 255) (c6 : w.cell? ⟨g, o + 6, none⟩ = some (.int .u8 (b6 : Int))) (q6 : b6 ≤ 255) (c7 : w.cell? ⟨g, o + 7, none⟩ = some (.int .u8 (b7 : Int))) (q7 : b7 ≤ 255) (p0 : 128 ≤ b0) (p1 : 128 ≤ b1) (p2 : 128 ≤ b2) (p3 : 128 ≤ b3) (p4 : 128 ≤ b4) (p5 : 128 ≤ b5) (p6 : 128 ≤ b6) (p7 : b7 < 128) :
    Calls Tryd.prog 98 #[.slice (some ⟨g, o, none⟩) n c] w fun e w' => (∃ v : Int, e = .returned (.tuple #[.int .u64 v, .int .i64 (8)]) ∧ v = (((0 + (b0 - 128) * 2 ^ (7 * 0) + (b1 - 128) * 2 ^ (7 * 1) + (b2 - 128) * 2 ^ (7 * 2) + (b3 - 128) * 2 ^ (7 * 3) + (b4 - 128) * 2 ^ (7 * 4) + (b5 - 128) * 2 ^ (7 * 5) + (b6 - 128) * 2 ^ (7 * 6) + b7 * 2 ^ 49 : Nat)) : Int)) ∧ w = w' := by
  go_enter Tryd.func98, Tryd.ntmps98
  go_wp2
  go_ret2
  exact ⟨⟨_, rfl, by first | rfl | (simp; done) | omega⟩, rfl⟩

theorem cv_w8_stop (g o c n b0 b1 b2 b3 b4 b5 b6 b7 : Nat) (w : World) (hn : n = 8) (c0 : w.cell? ⟨g, o, none⟩ = some (.int .u8 (b0 : Int))) (q0 : b0 ≤ 255) (c1 : w.cell? ⟨g, o + 1, none⟩ = some (.int .u8 (b1 : Int))) (q1 : b1 ≤ 255) (c2 : w.cell? ⟨g, o + 2, none⟩ = some (.int .u8 (b2 : Int))) (q2 : b2 ≤ 255) (c3 : w.cell? ⟨g, o + 3, none⟩ = some (.int .u8 (b3 : Int))) (q3 : b3 ≤ 255) (c4 : w.cell? ⟨g, o + 4, none⟩ = some (.int .u8 (b4 : Int))) (q4 : b4 ≤ 255) (c5 : w.cell? ⟨g, o + 5, none⟩ = some (.int .u8 (b5 : Int))) (q5 : b5 ≤ 255) (c6 : w.cell? ⟨g, o + 6, none⟩ = some (.int .u8 (b6 : Int))) (q6 : b6 ≤ 255) (c7 : w.cell? ⟨g, o + 7, none⟩ = some (.int .u8 (b7 : Int))) (q7 : b7 ≤ 255) (p0 : 128 ≤ b0) (p1 : 128 ≤ b1) (p2 : 128 ≤ b2) (p3 : 128 ≤ b3) (p4 : 128 ≤ b4) (p5 : 128 ≤ b5) (p6 : 128 ≤ b6) (p7 : 128 ≤ b7) :
    Calls Tryd.prog 98 #[.slice (some ⟨g, o, none⟩) n c] w fun e w' => (∃ v : Int, e = .returned (.tuple #[.int .u64 v, .int .i64 (-1)]) ∧ v = 0) ∧ w = w' := by
  subst hn
  go_enter Tryd.func98, Tryd.ntmps98
  go_wp2
  go_ret2
  exact ⟨⟨_, rfl, by first | rfl | (simp; done) | omega⟩, rfl⟩

theorem cv_w8_end (g o c n b0 b1 b2 b3 b4 b5 b6 b7 b8 : Nat) (w : World) (hn : 8 < n) (hm : n ≤ 9223372036854775807) (c0 : w.cell? ⟨g, o, none⟩ = some (.int .u8 (b0 : Int))) (q0 : b0 ≤ 255) (c1 : w.cell? ⟨g, o + 1, none⟩ = some (.int .u8 (b1 : Int))) (q1 : b1 ≤ 255) (c2 : w.cell? ⟨g, o + 2, none⟩ = some (.int .u8 (b2 : Int))) (q2 : b2 ≤ 255) (c3 : w.cell? ⟨g, o + 3, none⟩ = some (.int .u8 (b3 : Int))) (q3 : b3 ≤ 255) (c4 : w.cell? ⟨g, o + 4, none⟩ = some (.int .u8 (b4 : Int))) (q4 : b4 ≤ 255) (c5 : w.cell? ⟨g, o + 5, none⟩ = some (.int .u8 (b5 : Int))) (q5 : b5 ≤ 255) (c6 : w.cell? ⟨g, o + 6, none⟩ = some (.int .u8 (b6 : Int))) (q6 : b6 ≤ 255) (c7 : w.cell? ⟨g, o + 7, none⟩ = some (.int .u8 (b7 : Int))) (q7 : b7 ≤ 255) (c8 : w.cell? ⟨g, o + 8, none⟩ = some (.int .u8 (b8 : Int))) (q8 : b8 ≤ 255) (p0 : 128 ≤ b0) (p1 : 128 ≤ b1) (p2 : 128 ≤ b2) (p3 : 128 ≤ b3) (p4 : 128 ≤ b4) (p5 : 128 ≤ b5) (p6 : 128 ≤ b6) (p7 : 128 ≤ b7) (p8 : b8 < 128) :
    Calls Tryd.prog 98 #[.slice (some ⟨g, o, none⟩) n c] w fun e w' => (∃ v : Int, e = .returned (.tuple #[.int .u64 v, .int .i64 (9)]) ∧ v = (((0 + (b0 - 128) * 2 ^ (7 * 0) + (b1 - 128) * 2 ^ (7 * 1) + (b2 - 128) * 2 ^ (7 * 2) + (b3 - 128) * 2 ^ (7 * 3) + (b4 - 128) * 2 ^ (7 * 4) + (b5 - 128) * 2 ^ (7 * 5) + (b6 - 128) * 2 ^ (7 * 6) + (b7 - 128) * 2 ^ (7 * 7) + b8 * 2 ^ 56 : Nat)) : Int)) ∧ w = w' := by
  go_enter Tryd.func98, Tryd.ntmps98
  go_wp2
  go_ret2
  exact ⟨⟨_, rfl, by first | rfl | (simp; done) | omega⟩, rfl⟩

theorem cv_w9_stop (g o c n b0 b1 b2 b3 b4 b5 b6 b7 b8 : Nat) (w : World) (hn : n = 9) (c0 : w.cell? ⟨g, o, none⟩ = some (.int .u8 (b0 : Int))) (q0 : b0 ≤ 255) (c1 : w.cell? ⟨g, o + 1, none⟩ = some (.int .u8 (b1 : Int))) (q1 : b1 ≤ 255) (c2 : w.cell? ⟨g, o + 2, none⟩ = some (.int .u8 (b2 : Int))) (q2 : b2 ≤ 255) (c3 : w.cell? ⟨g, o + 3, none⟩ = some (.int .u8 (b3 : Int))) (q3 : b3 ≤ 255) (c4 : w.cell? ⟨g, o + 4, none⟩ = some (.int .u8 (b4 : Int))) (q4 : b4 ≤ 255) (c5 : w.cell? ⟨g, o + 5, none⟩ = some (.int .u8 (b5 : Int))) (q5 : b5 ≤ 255) (c6 : w.cell? ⟨g, o + 6, none⟩ = some (.int .u8 (b6 : Int))) (q6 : b6 ≤ 255) (c7 : w.cell? ⟨g, o + 7, none⟩ = some (.int .u8 (b7 : Int))) (q7 : b7 ≤ 255) (c8 : w.cell? ⟨g, o + 8, none⟩ = some (.int .u8 (b8 : Int))) (q8 : b8 ≤ 255) (p0 : 128 ≤ b0) (p1 : 128 ≤ b1) (p2 : 128 ≤ b2) (p3 : 128 ≤ b3) (p4 : 128 ≤ b4) (p5 : 128 ≤ b5) (p6 : 128 ≤ b6) (p7 : 128 ≤ b7) (p8 : 128 ≤ b8) :
    Calls Tryd.prog 98 #[.slice (some ⟨g, o, none⟩) n c] w fun e w' => (∃ v : Int, e = .returned (.tuple #[.int .u64 v, .int .i64 (-1)]) ∧ v = 0) ∧ w = w' := by
  subst hn
  go_enter Tryd.func98, Tryd.ntmps98
  go_wp2
  go_ret2
  exact ⟨⟨_, rfl, by first | rfl | (simp; done) | omega⟩, rfl⟩

theorem cv_w9_end (g o c n b0 b1 b2 b3 b4 b5 b6 b7 b8 b9 : Nat) (w : World) (hn : 9 < n) (hm : n ≤ 9223372036854775807) (c0 : w.cell? ⟨g, o, none⟩ = some (.int .u8 (b0 : Int))) (q0 : b0 ≤ 255) (c1 : w.cell? ⟨g, o + 1, none⟩ = some (.int .u8 (b1 : Int))) (q1 : b1 ≤ 255) (c2 : w.cell? ⟨g, o + 2, none⟩ = some (.int .u8 (b2 : Int))) (q2 : b2 ≤ 255) (c3 : w.cell? ⟨g, o + 3, none⟩ = some (.int .u8 (b3 : Int))) (q3 : b3 ≤ 255) (c4 : w.cell? ⟨g, o + 4, none⟩ = some (.int .u8 (b4 : Int))) (q4 : b4 ≤ 255) (c5 : w.cell? ⟨g, o + 5, none⟩ = some (.int .u8 (b5 : Int))) (q5 : b5 ≤ 255) (c6 : w.cell? ⟨g, o + 6, none⟩ = some (.int .u8 (b6 : Int))) (q6 : b6 ≤ 255) (c7 : w.cell? ⟨g, o + 7, none⟩ = some (.int .u8 (b7 : Int))) (q7 : b7 ≤ 255) (c8 : w.cell? ⟨g, o + 8, none⟩ = some (.int .u8 (b8 : Int))) (q8 : b8 ≤ 255) (c9 : w.cell? ⟨g, o + 9, none⟩ = some (.int .u8 (b9 : Int))) (q9 : b9 ≤ 255) (p0 : 128 ≤ b0) (p1 : 128 ≤ b1) (p2 : 128 ≤ b2) (p3 : 128 ≤ b3) (p4 : 128 ≤ b4) (p5 : 128 ≤ b5) (p6 : 128 ≤ b6) (p7 : 128 ≤ b7) (p8 : 128 ≤ b8) (p9 : b9 < 2) :
    Calls Tryd.prog 98 #[.slice (some ⟨g, o, none⟩) n c] w fun e w' => (∃ v : Int, e = .returned (.tuple #[.int .u64 v, .int .i64 (10)]) ∧ v = (((0 + (b0 - 128) * 2 ^ (7 * 0) + (b1 - 128) * 2 ^ (7 * 1) + (b2 - 128) * 2 ^ (7 * 2) + (b3 - 128) * 2 ^ (7 * 3) + (b4 - 128) * 2 ^ (7 * 4) + (b5 - 128) * 2 ^ (7 * 5) + (b6 - 128) * 2 ^ (7 * 6) + (b7 - 128) * 2 ^ (7 * 7) + (b8 - 128) * 2 ^ (7 * 8) + b9 * 2 ^ 63 : Nat)) : Int)) ∧ w = w' := by
  go_enter Tryd.func98, Tryd.ntmps98
  go_wp2
  go_ret2
  exact ⟨⟨_, rfl, by first | rfl | (simp; done) | omega⟩, rfl⟩

theorem cv_w9_over (g o c n b0 b1 b2 b3 b4 b5 b6 b7 b8 b9 : Nat) (w : World) (hn : 9 < n) (hm : n ≤ 9223372036854775807) (c0 : w.cell? ⟨g, o, none⟩ = some (.int .u8 (b0 : Int))) (q0 : b0 ≤ 255) (c1 : w.cell? ⟨g, o + 1, none⟩ = some (.int .u8 (b1 : Int))) (q1 : b1 ≤ 255) (c2 : w.cell? ⟨g, o + 2, none⟩ = some (.int .u8 (b2 : Int))) (q2 : b2 ≤ 255) (c3 : w.cell? ⟨g, o + 3, none⟩ = some (.int .u8 (b3 : Int))) (q3 : b3 ≤ 255) (c4 : w.cell? ⟨g, o + 4, none⟩ = some (.int .u8 (b4 : Int))) (q4 : b4 ≤ 255) (c5 : w.cell? ⟨g, o + 5, none⟩ = some (.int .u8 (b5 : Int))) (q5 : b5 ≤ 255) (c6 : w.cell? ⟨g, o + 6, none⟩ = some (.int .u8 (b6 : Int))) (q6 : b6 ≤ 255) (c7 : w.cell? ⟨g, o + 7, none⟩ = some (.int .u8 (b7 : Int))) (q7 : b7 ≤ 255) (c8 : w.cell? ⟨g, o + 8, none⟩ = some (.int .u8 (b8 : Int))) (q8 : b8 ≤ 255) (c9 : w.cell? ⟨g, o + 9, none⟩ = some (.int .u8 (b9 : Int))) (q9 : b9 ≤ 255) (p0 : 128 ≤ b0) (p1 : 128 ≤ b1) (p2 : 128 ≤ b2) (p3 : 128 ≤ b3) (p4 : 128 ≤ b4) (p5 : 128 ≤ b5) (p6 : 128 ≤ b6) (p7 : 128 ≤ b7) (p8 : 128 ≤ b8) (p9 : 2 ≤ b9) :
    Calls Tryd.prog 98 #[.slice (some ⟨g, o, none⟩) n c] w fun e w' => (∃ v : Int, e = .returned (.tuple #[.int .u64 v, .int .i64 (-3)]) ∧ v = 0) ∧ w = w' := by
  go_enter Tryd.func98, Tryd.ntmps98
  go_wp2
  go_ret2
  exact ⟨⟨_, rfl, by first | rfl | (simp; done) | omega⟩, rfl⟩

end Go.Proofs.YtcefcdmonfenoaaDoor

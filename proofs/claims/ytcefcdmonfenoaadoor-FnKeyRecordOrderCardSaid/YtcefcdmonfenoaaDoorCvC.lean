/- ConsumeVarint's contract, whole. -/
import Derived.Test.YtcefcdmonfenoaaDoorCv
import Derived.Test.YtcefcdmonfenoaaDoorBase
namespace Go.Proofs.YtcefcdmonfenoaaDoor
open Go.RowKit
set_option maxRecDepth 100000

theorem Bs.cellnb {w : World} {B : Nat} {v : Value} {l : List UInt8} (h : Bs w B v l) (hl : 0 < l.length) :
    ∃ g o c, v = .slice (some ⟨g, o, none⟩) l.length c ∧ g < B ∧ l.length ≤ c ∧ c ≤ 9223372036854775807 ∧ ∀ k, k < l.length → w.cell? ⟨g, o + k, none⟩ = some (.int .u8 (Wire.nb l k : Int)) := by
  obtain ⟨A, c, rfl, h1, h2, h3⟩ := h
  obtain ⟨g, o, rfl, hg, hc⟩ := h3 hl
  refine ⟨g, o, c, rfl, hg, h1, h2, fun k hk => ?_⟩
  rw [hc k hk]
  simp [bv, Wire.nb, List.getD, List.getElem?_eq_getElem hk]

theorem consumeVarint_nil (A : Option Addr) (c : Nat) (w : World) :
    Calls Tryd.prog 98 #[.slice A 0 c] w fun e w' => e = .returned (.tuple #[.int .u64 0, .int .i64 (-1)]) ∧ w = w' := by
  go_enter Tryd.func98, Tryd.ntmps98
  go_wp2
  go_ret2
  exact ⟨rfl, rfl⟩

theorem consumeVarint {w : World} {B : Nat} {v : Value} {l : List UInt8} (h : Bs w B v l) :
    Calls Tryd.prog 98 #[v] w fun e w' => e = .returned (.tuple #[.int .u64 (Wire.cvar l).1, .int .i64 (Wire.cvar l).2]) ∧ w = w' := by
  have key : Calls Tryd.prog 98 #[v] w fun e w' => cvAns l e ∧ w = w' := by
    have E0 : Hid (Wire.cvar l = Wire.cvarGo 0 0 (l.drop 0)) := rfl
    rcases Nat.eq_zero_or_pos l.length with h0 | hl
    · obtain ⟨A, c, rfl, _⟩ := h
      rw [h0]
      exact (consumeVarint_nil A c w).mono fun e w' ⟨he, hw⟩ => ⟨by subst he; exact cvAns_of (m := 0) (k := -1) (hid_next E0 (Wire.cv_stop l 0 0 (by omega))) rfl rfl, hw⟩
    obtain ⟨g, o, c, rfl, _, hn, hc, hcell⟩ := h.cellnb hl
    have hm : l.length ≤ 9223372036854775807 := by omega
    have c0 := hcell 0 hl
    have q0 := Wire.nb_lt l 0
    by_cases p0' : Wire.nb l 0 < 128
    · exact (cv_w0_end g o c _ _ w hl hm c0 q0  p0').mono fun e w' ⟨⟨x, he, hx⟩, hw⟩ => ⟨by subst he; exact cvAns_of (hid_next E0 (Wire.cv_end l 0 _ hl (by omega) p0')) hx rfl, hw⟩
    have p0 : 128 ≤ Wire.nb l 0 := by omega
    have E1 := hid_next E0 (Wire.cv_next l 0 _ hl (by omega) p0')
    rcases Nat.lt_or_ge 1 l.length with l1 | l1
    rotate_left
    · exact (cv_w1_stop g o c _ _ w (by omega) c0 q0 p0).mono fun e w' ⟨⟨x, he, hx⟩, hw⟩ => ⟨by subst he; exact cvAns_of (hid_next E1 (Wire.cv_stop l 1 _ (by omega))) hx rfl, hw⟩
    have c1 := hcell 1 l1
    have q1 := Wire.nb_lt l 1
    by_cases p1' : Wire.nb l 1 < 128
    · exact (cv_w1_end g o c _ _ _ w l1 hm c0 q0 c1 q1 p0 p1').mono fun e w' ⟨⟨x, he, hx⟩, hw⟩ => ⟨by subst he; exact cvAns_of (hid_next E1 (Wire.cv_end l 1 _ l1 (by omega) p1')) hx rfl, hw⟩
    have p1 : 128 ≤ Wire.nb l 1 := by omega
    have E2 := hid_next E1 (Wire.cv_next l 1 _ l1 (by omega) p1')
    rcases Nat.lt_or_ge 2 l.length with l2 | l2
    rotate_left
    · exact (cv_w2_stop g o c _ _ _ w (by omega) c0 q0 c1 q1 p0 p1).mono fun e w' ⟨⟨x, he, hx⟩, hw⟩ => ⟨by subst he; exact cvAns_of (hid_next E2 (Wire.cv_stop l 2 _ (by omega))) hx rfl, hw⟩
    have c2 := hcell 2 l2
    have q2 := Wire.nb_lt l 2
    by_cases p2' : Wire.nb l 2 < 128
    · exact (cv_w2_end g o c _ _ _ _ w l2 hm c0 q0 c1 q1 c2 q2 p0 p1 p2').mono fun e w' ⟨⟨x, he, hx⟩, hw⟩ => ⟨by subst he; exact cvAns_of (hid_next E2 (Wire.cv_end l 2 _ l2 (by omega) p2')) hx rfl, hw⟩
    have p2 : 128 ≤ Wire.nb l 2 := by omega
    have E3 := hid_next E2 (Wire.cv_next l 2 _ l2 (by omega) p2')
    rcases Nat.lt_or_ge 3 l.length with l3 | l3
    rotate_left
    · exact (cv_w3_stop g o c _ _ _ _ w (by omega) c0 q0 c1 q1 c2 q2 p0 p1 p2).mono fun e w' ⟨⟨x, he, hx⟩, hw⟩ => ⟨by subst he; exact cvAns_of (hid_next E3 (Wire.cv_stop l 3 _ (by omega))) hx rfl, hw⟩
    have c3 := hcell 3 l3
    have q3 := Wire.nb_lt l 3
    by_cases p3' : Wire.nb l 3 < 128
    · exact (cv_w3_end g o c _ _ _ _ _ w l3 hm c0 q0 c1 q1 c2 q2 c3 q3 p0 p1 p2 p3').mono fun e w' ⟨⟨x, he, hx⟩, hw⟩ => ⟨by subst he; exact cvAns_of (hid_next E3 (Wire.cv_end l 3 _ l3 (by omega) p3')) hx rfl, hw⟩
    have p3 : 128 ≤ Wire.nb l 3 := by omega
    have E4 := hid_next E3 (Wire.cv_next l 3 _ l3 (by omega) p3')
    rcases Nat.lt_or_ge 4 l.length with l4 | l4
    rotate_left
    · exact (cv_w4_stop g o c _ _ _ _ _ w (by omega) c0 q0 c1 q1 c2 q2 c3 q3 p0 p1 p2 p3).mono fun e w' ⟨⟨x, he, hx⟩, hw⟩ => ⟨by subst he; exact cvAns_of (hid_next E4 (Wire.cv_stop l 4 _ (by omega))) hx rfl, hw⟩
    have c4 := hcell 4 l4
    have q4 := Wire.nb_lt l 4
    by_cases p4' : Wire.nb l 4 < 128
    · exact (cv_w4_end g o c _ _ _ _ _ _ w l4 hm c0 q0 c1 q1 c2 q2 c3 q3 c4 q4 p0 p1 p2 p3 p4').mono fun e w' ⟨⟨x, he, hx⟩, hw⟩ => ⟨by subst he; exact cvAns_of (hid_next E4 (Wire.cv_end l 4 _ l4 (by omega) p4')) hx rfl, hw⟩
    have p4 : 128 ≤ Wire.nb l 4 := by omega
    have E5 := hid_next E4 (Wire.cv_next l 4 _ l4 (by omega) p4')
    rcases Nat.lt_or_ge 5 l.length with l5 | l5
    rotate_left
    · exact (cv_w5_stop g o c _ _ _ _ _ _ w (by omega) c0 q0 c1 q1 c2 q2 c3 q3 c4 q4 p0 p1 p2 p3 p4).mono fun e w' ⟨⟨x, he, hx⟩, hw⟩ => ⟨by subst he; exact cvAns_of (hid_next E5 (Wire.cv_stop l 5 _ (by omega))) hx rfl, hw⟩
    have c5 := hcell 5 l5
    have q5 := Wire.nb_lt l 5
    by_cases p5' : Wire.nb l 5 < 128
    · exact (cv_w5_end g o c _ _ _ _ _ _ _ w l5 hm c0 q0 c1 q1 c2 q2 c3 q3 c4 q4 c5 q5 p0 p1 p2 p3 p4 p5').mono fun e w' ⟨⟨x, he, hx⟩, hw⟩ => ⟨by subst he; exact cvAns_of (hid_next E5 (Wire.cv_end l 5 _ l5 (by omega) p5')) hx rfl, hw⟩
    have p5 : 128 ≤ Wire.nb l 5 := by omega
    have E6 := hid_next E5 (Wire.cv_next l 5 _ l5 (by omega) p5')
    rcases Nat.lt_or_ge 6 l.length with l6 | l6
    rotate_left
    · exact (cv_w6_stop g o c _ _ _ _ _ _ _ w (by omega) c0 q0 c1 q1 c2 q2 c3 q3 c4 q4 c5 q5 p0 p1 p2 p3 p4 p5).mono fun e w' ⟨⟨x, he, hx⟩, hw⟩ => ⟨by subst he; exact cvAns_of (hid_next E6 (Wire.cv_stop l 6 _ (by omega))) hx rfl, hw⟩
    have c6 := hcell 6 l6
    have q6 := Wire.nb_lt l 6
    by_cases p6' : Wire.nb l 6 < 128
    · exact (cv_w6_end g o c _ _ _ _ _ _ _ _ w l6 hm c0 q0 c1 q1 c2 q2 c3 q3 c4 q4 c5 q5 c6 q6 p0 p1 p2 p3 p4 p5 p6').mono fun e w' ⟨⟨x, he, hx⟩, hw⟩ => ⟨by subst he; exact cvAns_of (hid_next E6 (Wire.cv_end l 6 _ l6 (by omega) p6')) hx rfl, hw⟩
    have p6 : 128 ≤ Wire.nb l 6 := by omega
    have E7 := hid_next E6 (Wire.cv_next l 6 _ l6 (by omega) p6')
    rcases Nat.lt_or_ge 7 l.length with l7 | l7
    rotate_left
    · exact (cv_w7_stop g o c _ _ _ _ _ _ _ _ w (by omega) c0 q0 c1 q1 c2 q2 c3 q3 c4 q4 c5 q5 c6 q6 p0 p1 p2 p3 p4 p5 p6).mono fun e w' ⟨⟨x, he, hx⟩, hw⟩ => ⟨by subst he; exact cvAns_of (hid_next E7 (Wire.cv_stop l 7 _ (by omega))) hx rfl, hw⟩
    have c7 := hcell 7 l7
    have q7 := Wire.nb_lt l 7
    by_cases p7' : Wire.nb l 7 < 128
    · exact (cv_w7_end g o c _ _ _ _ _ _ _ _ _ w l7 hm c0 q0 c1 q1 c2 q2 c3 q3 c4 q4 c5 q5 c6 q6 c7 q7 p0 p1 p2 p3 p4 p5 p6 p7').mono fun e w' ⟨⟨x, he, hx⟩, hw⟩ => ⟨by subst he; exact cvAns_of (hid_next E7 (Wire.cv_end l 7 _ l7 (by omega) p7')) hx rfl, hw⟩
    have p7 : 128 ≤ Wire.nb l 7 := by omega
    have E8 := hid_next E7 (Wire.cv_next l 7 _ l7 (by omega) p7')
    rcases Nat.lt_or_ge 8 l.length with l8 | l8
    rotate_left
    · exact (cv_w8_stop g o c _ _ _ _ _ _ _ _ _ w (by omega) c0 q0 c1 q1 c2 q2 c3 q3 c4 q4 c5 q5 c6 q6 c7 q7 p0 p1 p2 p3 p4 p5 p6 p7).mono fun e w' ⟨⟨x, he, hx⟩, hw⟩ => ⟨by subst he; exact cvAns_of (hid_next E8 (Wire.cv_stop l 8 _ (by omega))) hx rfl, hw⟩
    have c8 := hcell 8 l8
    have q8 := Wire.nb_lt l 8
    by_cases p8' : Wire.nb l 8 < 128
    · exact (cv_w8_end g o c _ _ _ _ _ _ _ _ _ _ w l8 hm c0 q0 c1 q1 c2 q2 c3 q3 c4 q4 c5 q5 c6 q6 c7 q7 c8 q8 p0 p1 p2 p3 p4 p5 p6 p7 p8').mono fun e w' ⟨⟨x, he, hx⟩, hw⟩ => ⟨by subst he; exact cvAns_of (hid_next E8 (Wire.cv_end l 8 _ l8 (by omega) p8')) hx rfl, hw⟩
    have p8 : 128 ≤ Wire.nb l 8 := by omega
    have E9 := hid_next E8 (Wire.cv_next l 8 _ l8 (by omega) p8')
    rcases Nat.lt_or_ge 9 l.length with l9 | l9
    rotate_left
    · exact (cv_w9_stop g o c _ _ _ _ _ _ _ _ _ _ w (by omega) c0 q0 c1 q1 c2 q2 c3 q3 c4 q4 c5 q5 c6 q6 c7 q7 c8 q8 p0 p1 p2 p3 p4 p5 p6 p7 p8).mono fun e w' ⟨⟨x, he, hx⟩, hw⟩ => ⟨by subst he; exact cvAns_of (hid_next E9 (Wire.cv_stop l 9 _ (by omega))) hx rfl, hw⟩
    have c9 := hcell 9 l9
    have q9 := Wire.nb_lt l 9
    by_cases p9' : Wire.nb l 9 < 2
    · exact (cv_w9_end g o c _ _ _ _ _ _ _ _ _ _ _ w l9 hm c0 q0 c1 q1 c2 q2 c3 q3 c4 q4 c5 q5 c6 q6 c7 q7 c8 q8 c9 q9 p0 p1 p2 p3 p4 p5 p6 p7 p8 p9').mono fun e w' ⟨⟨x, he, hx⟩, hw⟩ => ⟨by subst he; exact cvAns_of (hid_next E9 (Wire.cv_nine l _ l9 p9')) hx rfl, hw⟩
    · exact (cv_w9_over g o c _ _ _ _ _ _ _ _ _ _ _ w l9 hm c0 q0 c1 q1 c2 q2 c3 q3 c4 q4 c5 q5 c6 q6 c7 q7 c8 q8 c9 q9 p0 p1 p2 p3 p4 p5 p6 p7 p8 (by omega)).mono fun e w' ⟨⟨x, he, hx⟩, hw⟩ => ⟨by subst he; exact cvAns_of (hid_next E9 (Wire.cv_over l _ l9 p9')) hx rfl, hw⟩
  exact key.mono fun e w' ⟨he, hw⟩ => ⟨he, hw⟩
end Go.Proofs.YtcefcdmonfenoaaDoor

/- ConsumeVarint's contract, whole. -/
import Derived.Test.YtkmjjoffamdnfaaGreatDoorMi01
import Derived.Test.YtkmjjoffamdnfaaGreatDoorMi15
namespace Go.Proofs.YtkmjjoffamdnfaaGreatDoor
open Go.RowKit
set_option maxRecDepth 100000

theorem Bs.cellnb {w : World} {B : Nat} {v : Value} {l : List UInt8} (h : Bs w B v l) (hl : 0 < l.length) :
    ∃ g o c, v = .slice (some ⟨g, o, none⟩) l.length c ∧ g < B ∧ l.length ≤ c ∧ c ≤ 9223372036854775807 ∧ ∀ k, k < l.length → w.cell? ⟨g, o + k, none⟩ = some (.int .u8 (Wire.nb l k : Int)) := by
  obtain ⟨A, c, rfl, h1, h2, h3⟩ := h
  obtain ⟨g, o, rfl, hg, hc⟩ := h3 hl
  refine ⟨g, o, c, rfl, hg, h1, h2, fun k hk => ?_⟩
  rw [hc k hk]
  simp [bv, Wire.nb, List.getD, List.getElem?_eq_getElem hk]

theorem consumeVarint_nil (A : Option Addr) (c : Nat) (w : World) :
    Calls Tryz.prog 65 #[.slice A 0 c] w fun e w' => e = .returned (.tuple #[.int .u64 0, .int .i64 (-1)]) ∧ w = w' := by
  go_enter Tryz.func65, Tryz.ntmps65
  go_wp2
  go_ret2
  exact ⟨rfl, rfl⟩

theorem consumeVarint {w : World} {B : Nat} {v : Value} {l : List UInt8} (h : Bs w B v l) :
    Calls Tryz.prog 65 #[v] w fun e w' => e = .returned (.tuple #[.int .u64 (Wire.cvar l).1, .int .i64 (Wire.cvar l).2]) ∧ w = w' := by
  have key : Calls Tryz.prog 65 #[v] w fun e w' => cvAns l e ∧ w = w' := by
    have E0 : Hid (Wire.cvar l = Wire.cvarGo 0 0 (l.drop 0)) := rfl
    rcases Nat.eq_zero_or_pos l.length with h0 | hl
    · obtain ⟨A, c, rfl, _⟩ := h
      rw [h0]
      exact (consumeVarint_nil A c w).mono fun e w' ⟨he, hw⟩ => ⟨by subst he; exact cvAns_of (m := 0) (k := -1) (hid_next E0 (Wire.cv_stop l 0 0 (by omega))) rfl rfl, hw⟩
    obtain ⟨g, o, c, rfl, _, hn, hc, hcell⟩ := h.cellnb hl
    have hm : l.length ≤ 9223372036854775807 := by omega
    have c0 := hcell 0 hl
    have q0 := Wire.nb_lt l 0
    by_cases p0' : Wire.nb l 0 < 128
    · exact (cv_w0_end g o c _ _ w hl hm c0 q0  p0').mono fun e w' ⟨⟨x, he, hx⟩, hw⟩ => ⟨by subst he; exact cvAns_of (hid_next E0 (Wire.cv_end l 0 _ hl (by omega) p0')) hx rfl, hw⟩
    have p0 : 128 ≤ Wire.nb l 0 := by omega
    have E1 := hid_next E0 (Wire.cv_next l 0 _ hl (by omega) p0')
    rcases Nat.lt_or_ge 1 l.length with l1 | l1
    rotate_left
    · exact (cv_w1_stop g o c _ _ w (by omega) c0 q0 p0).mono fun e w' ⟨⟨x, he, hx⟩, hw⟩ => ⟨by subst he; exact cvAns_of (hid_next E1 (Wire.cv_stop l 1 _ (by omega))) hx rfl, hw⟩
    have c1 := hcell 1 l1
    have q1 := Wire.nb_lt l 1
    by_cases p1' : Wire.nb l 1 < 128
    · exact (cv_w1_end g o c _ _ _ w l1 hm c0 q0 c1 q1 p0 p1').mono fun e w' ⟨⟨x, he, hx⟩, hw⟩ => ⟨by subst he; exact cvAns_of (hid_next E1 (Wire.cv_end l 1 _ l1 (by omega) p1')) hx rfl, hw⟩
    have p1 : 128 ≤ Wire.nb l 1 := by omega
    have E2 := hid_next E1 (Wire.cv_next l 1 _ l1 (by omega) p1')
    rcases Nat.lt_or_ge 2 l.length with l2 | l2
    rotate_left
    · exact (cv_w2_stop g o c _ _ _ w (by omega) c0 q0 c1 q1 p0 p1).mono fun e w' ⟨⟨x, he, hx⟩, hw⟩ => ⟨by subst he; exact cvAns_of (hid_next E2 (Wire.cv_stop l 2 _ (by omega))) hx rfl, hw⟩
    have c2 := hcell 2 l2
    have q2 := Wire.nb_lt l 2
    by_cases p2' : Wire.nb l 2 < 128
    · exact (cv_w2_end g o c _ _ _ _ w l2 hm c0 q0 c1 q1 c2 q2 p0 p1 p2').mono fun e w' ⟨⟨x, he, hx⟩, hw⟩ => ⟨by subst he; exact cvAns_of (hid_next E2 (Wire.cv_end l 2 _ l2 (by omega) p2')) hx rfl, hw⟩
    have p2 : 128 ≤ Wire.nb l 2 := by omega
    have E3 := hid_next E2 (Wire.cv_next l 2 _ l2 (by omega) p2')
    rcases Nat.lt_or_ge 3 l.length with l3 | l3
    rotate_left
    · exact (cv_w3_stop g o c _ _ _ _ w (by omega) c0 q0 c1 q1 c2 q2 p0 p1 p2).mono fun e w' ⟨⟨x, he, hx⟩, hw⟩ => ⟨by subst he; exact cvAns_of (hid_next E3 (Wire.cv_stop l 3 _ (by omega))) hx rfl, hw⟩
    have c3 := hcell 3 l3
    have q3 := Wire.nb_lt l 3
    by_cases p3' : Wire.nb l 3 < 128
    · exact (cv_w3_end g o c _ _ _ _ _ w l3 hm c0 q0 c1 q1 c2 q2 c3 q3 p0 p1 p2 p3').mono fun e w' ⟨⟨x, he, hx⟩, hw⟩ => ⟨by subst he; exact cvAns_of (hid_next E3 (Wire.cv_end l 3 _ l3 (by omega) p3')) hx rfl, hw⟩
    have p3 : 128 ≤ Wire.nb l 3 := by omega
    have E4 := hid_next E3 (Wire.cv_next l 3 _ l3 (by omega) p3')
    rcases Nat.lt_or_ge 4 l.length with l4 | l4
    rotate_left
    · exact (cv_w4_stop g o c _ _ _ _ _ w (by omega) c0 q0 c1 q1 c2 q2 c3 q3 p0 p1 p2 p3).mono fun e w' ⟨⟨x, he, hx⟩, hw⟩ => ⟨by subst he; exact cvAns_of (hid_next E4 (Wire.cv_stop l 4 _ (by omega))) hx rfl, hw⟩
    have c4 := hcell 4 l4
    have q4 := Wire.nb_lt l 4
    by_cases p4' : Wire.nb l 4 < 128
    · exact (cv_w4_end g o c _ _ _ _ _ _ w l4 hm c0 q0 c1 q1 c2 q2 c3 q3 c4 q4 p0 p1 p2 p3 p4').mono fun e w' ⟨⟨x, he, hx⟩, hw⟩ => ⟨by subst he; exact cvAns_of (hid_next E4 (Wire.cv_end l 4 _ l4 (by omega) p4')) hx rfl, hw⟩
    have p4 : 128 ≤ Wire.nb l 4 := by omega
    have E5 := hid_next E4 (Wire.cv_next l 4 _ l4 (by omega) p4')
    rcases Nat.lt_or_ge 5 l.length with l5 | l5
    rotate_left
    · exact (cv_w5_stop g o c _ _ _ _ _ _ w (by omega) c0 q0 c1 q1 c2 q2 c3 q3 c4 q4 p0 p1 p2 p3 p4).mono fun e w' ⟨⟨x, he, hx⟩, hw⟩ => ⟨by subst he; exact cvAns_of (hid_next E5 (Wire.cv_stop l 5 _ (by omega))) hx rfl, hw⟩
    have c5 := hcell 5 l5
    have q5 := Wire.nb_lt l 5
    by_cases p5' : Wire.nb l 5 < 128
    · exact (cv_w5_end g o c _ _ _ _ _ _ _ w l5 hm c0 q0 c1 q1 c2 q2 c3 q3 c4 q4 c5 q5 p0 p1 p2 p3 p4 p5').mono fun e w' ⟨⟨x, he, hx⟩, hw⟩ => ⟨by subst he; exact cvAns_of (hid_next E5 (Wire.cv_end l 5 _ l5 (by omega) p5')) hx rfl, hw⟩
    have p5 : 128 ≤ Wire.nb l 5 := by omega
    have E6 := hid_next E5 (Wire.cv_next l 5 _ l5 (by omega) p5')
    rcases Nat.lt_or_ge 6 l.length with l6 | l6
    rotate_left
    · exact (cv_w6_stop g o c _ _ _ _ _ _ _ w (by omega) c0 q0 c1 q1 c2 q2 c3 q3 c4 q4 c5 q5 p0 p1 p2 p3 p4 p5).mono fun e w' ⟨⟨x, he, hx⟩, hw⟩ => ⟨by subst he; exact cvAns_of (hid_next E6 (Wire.cv_stop l 6 _ (by omega))) hx rfl, hw⟩
    have c6 := hcell 6 l6
    have q6 := Wire.nb_lt l 6
    by_cases p6' : Wire.nb l 6 < 128
    · exact (cv_w6_end g o c _ _ _ _ _ _ _ _ w l6 hm c0 q0 c1 q1 c2 q2 c3 q3 c4 q4 c5 q5 c6 q6 p0 p1 p2 p3 p4 p5 p6').mono fun e w' ⟨⟨x, he, hx⟩, hw⟩ => ⟨by subst he; exact cvAns_of (hid_next E6 (Wire.cv_end l 6 _ l6 (by omega) p6')) hx rfl, hw⟩
    have p6 : 128 ≤ Wire.nb l 6 := by omega
    have E7 := hid_next E6 (Wire.cv_next l 6 _ l6 (by omega) p6')
    rcases Nat.lt_or_ge 7 l.length with l7 | l7
    rotate_left
    · exact (cv_w7_stop g o c _ _ _ _ _ _ _ _ w (by omega) c0 q0 c1 q1 c2 q2 c3 q3 c4 q4 c5 q5 c6 q6 p0 p1 p2 p3 p4 p5 p6).mono fun e w' ⟨⟨x, he, hx⟩, hw⟩ => ⟨by subst he; exact cvAns_of (hid_next E7 (Wire.cv_stop l 7 _ (by omega))) hx rfl, hw⟩
    have c7 := hcell 7 l7
    have q7 := Wire.nb_lt l 7
    by_cases p7' : Wire.nb l 7 < 128
    · exact (cv_w7_end g o c _ _ _ _ _ _ _ _ _ w l7 hm c0 q0 c1 q1 c2 q2 c3 q3 c4 q4 c5 q5 c6 q6 c7 q7 p0 p1 p2 p3 p4 p5 p6 p7').mono fun e w' ⟨⟨x, he, hx⟩, hw⟩ => ⟨by subst he; exact cvAns_of (hid_next E7 (Wire.cv_end l 7 _ l7 (by omega) p7')) hx rfl, hw⟩
    have p7 : 128 ≤ Wire.nb l 7 := by omega
    have E8 := hid_next E7 (Wire.cv_next l 7 _ l7 (by omega) p7')
    rcases Nat.lt_or_ge 8 l.length with l8 | l8
    rotate_left
    · exact (cv_w8_stop g o c _ _ _ _ _ _ _ _ _ w (by omega) c0 q0 c1 q1 c2 q2 c3 q3 c4 q4 c5 q5 c6 q6 c7 q7 p0 p1 p2 p3 p4 p5 p6 p7).mono fun e w' ⟨⟨x, he, hx⟩, hw⟩ => ⟨by subst he; exact cvAns_of (hid_next E8 (Wire.cv_stop l 8 _ (by omega))) hx rfl, hw⟩
    have c8 := hcell 8 l8
    have q8 := Wire.nb_lt l 8
    by_cases p8' : Wire.nb l 8 < 128
    · exact (cv_w8_end g o c _ _ _ _ _ _ _ _ _ _ w l8 hm c0 q0 c1 q1 c2 q2 c3 q3 c4 q4 c5 q5 c6 q6 c7 q7 c8 q8 p0 p1 p2 p3 p4 p5 p6 p7 p8').mono fun e w' ⟨⟨x, he, hx⟩, hw⟩ => ⟨by subst he; exact cvAns_of (hid_next E8 (Wire.cv_end l 8 _ l8 (by omega) p8')) hx rfl, hw⟩
    have p8 : 128 ≤ Wire.nb l 8 := by omega
    have E9 := hid_next E8 (Wire.cv_next l 8 _ l8 (by omega) p8')
    rcases Nat.lt_or_ge 9 l.length with l9 | l9
    rotate_left
    · exact (cv_w9_stop g o c _ _ _ _ _ _ _ _ _ _ w (by omega) c0 q0 c1 q1 c2 q2 c3 q3 c4 q4 c5 q5 c6 q6 c7 q7 c8 q8 p0 p1 p2 p3 p4 p5 p6 p7 p8).mono fun e w' ⟨⟨x, he, hx⟩, hw⟩ => ⟨by subst he; exact cvAns_of (hid_next E9 (Wire.cv_stop l 9 _ (by omega))) hx rfl, hw⟩
    have c9 := hcell 9 l9
    have q9 := Wire.nb_lt l 9
    by_cases p9' : Wire.nb l 9 < 2
    · exact (cv_w9_end g o c _ _ _ _ _ _ _ _ _ _ _ w l9 hm c0 q0 c1 q1 c2 q2 c3 q3 c4 q4 c5 q5 c6 q6 c7 q7 c8 q8 c9 q9 p0 p1 p2 p3 p4 p5 p6 p7 p8 p9').mono fun e w' ⟨⟨x, he, hx⟩, hw⟩ => ⟨by subst he; exact cvAns_of (hid_next E9 (Wire.cv_nine l _ l9 p9')) hx rfl, hw⟩
    · exact (cv_w9_over g o c _ _ _ _ _ _ _ _ _ _ _ w l9 hm c0 q0 c1 q1 c2 q2 c3 q3 c4 q4 c5 q5 c6 q6 c7 q7 c8 q8 c9 q9 p0 p1 p2 p3 p4 p5 p6 p7 p8 (by omega)).mono fun e w' ⟨⟨x, he, hx⟩, hw⟩ => ⟨by subst he; exact cvAns_of (hid_next E9 (Wire.cv_over l _ l9 p9')) hx rfl, hw⟩
  exact key.mono fun e w' ⟨he, hw⟩ => ⟨he, hw⟩
end Go.Proofs.YtkmjjoffamdnfaaGreatDoor

/- The wire format, second part: tags, fields of bytes, values that are passed over, and messages as runs of fields. -/
namespace Go.Proofs.YtkmjjoffamdnfaaGreatDoor
namespace Wire

/-- ConsumeTag: the field's number, its wire, how many bytes; or a code. -/
def ctag (l : List UInt8) : Int × Int × Int :=
  if (cvar l).2 < 0 then (0, 0, (cvar l).2)
  else if 2147483647 < (cvar l).1 / 8 ∨ (cvar l).1 / 8 < 1 then (0, 0, -2)
  else (((cvar l).1 / 8 : Nat), ((cvar l).1 % 8 : Nat), (cvar l).2)

/-- ConsumeBytes: the bytes, and how many with their length; or a code. -/
def cbytes (l : List UInt8) : List UInt8 × Int :=
  if (cvar l).2 < 0 then ([], (cvar l).2)
  else if l.length - (cvar l).2.toNat < (cvar l).1 then ([], -1)
  else ((l.drop (cvar l).2.toNat).take (cvar l).1, (cvar l).2 + (cvar l).1)

/-- a group's inside: fields up to its end; 'inner' passes a field's value over -/
def grp (inner : Int → Int → List UInt8 → Int) (n0 : Nat) (num : Int) : Nat → List UInt8 → Int
  | 0, _ => -1
  | f + 1, l =>
    if (ctag l).2.2 < 0 then (ctag l).2.2
    else if (ctag l).2.1 = 4 then (if num ≠ (ctag l).1 then -5 else (n0 : Int) - (l.drop (ctag l).2.2.toNat).length)
    else if inner (ctag l).1 (ctag l).2.1 (l.drop (ctag l).2.2.toNat) < 0 then inner (ctag l).1 (ctag l).2.1 (l.drop (ctag l).2.2.toNat)
    else grp inner n0 num f ((l.drop (ctag l).2.2.toNat).drop (inner (ctag l).1 (ctag l).2.1 (l.drop (ctag l).2.2.toNat)).toNat)

/-- ConsumeFieldValue, g in the place of a group's inside -/
def cfvB (g : Int) (typ : Int) (l : List UInt8) : Int :=
  if typ = 0 then (cvar l).2
  else if typ = 5 then (if l.length < 4 then -1 else 4)
  else if typ = 1 then (if l.length < 8 then -1 else 8)
  else if typ = 2 then (cbytes l).2
  else if typ = 3 then g
  else if typ = 4 then -5
  else -4

/-- ConsumeFieldValue at a depth (d is the depth and one more; 0: below zero) -/
def cfv : Nat → Int → Int → List UInt8 → Int
  | 0, _, typ, l => cfvB (-6) typ l
  | d + 1, num, typ, l => cfvB (grp (cfv d) l.length num (l.length + 1) l) typ l

theorem ctag_neg {l : List UInt8} {x : Nat} {n : Int} (h : cvar l = (x, n)) (hn : n < 0) : ctag l = (0, 0, n) := by unfold ctag; rw [h]; exact if_pos hn
theorem ctag_bad {l : List UInt8} {x : Nat} {n : Int} (h : cvar l = (x, n)) (hn : ¬ n < 0) (hx : 2147483647 < x / 8 ∨ x / 8 < 1) : ctag l = (0, 0, -2) := by
  unfold ctag; rw [h]; exact (if_neg hn).trans (if_pos hx)
theorem ctag_ok {l : List UInt8} {x : Nat} {n : Int} (h : cvar l = (x, n)) (hn : ¬ n < 0) (hx : ¬ 2147483647 < x / 8) (h1 : ¬ x / 8 < 1) : ctag l = (((x / 8 : Nat) : Int), ((x % 8 : Nat) : Int), n) := by
  unfold ctag; rw [h]; exact (if_neg hn).trans (if_neg (by simp only []; omega))
theorem cbytes_neg {l : List UInt8} {x : Nat} {n : Int} (h : cvar l = (x, n)) (hn : n < 0) : cbytes l = ([], n) := by unfold cbytes; rw [h]; exact if_pos hn
theorem cbytes_bad {l : List UInt8} {x n : Nat} (h : cvar l = (x, (n : Int))) (hx : l.length - n < x) : cbytes l = ([], -1) := by
  unfold cbytes; rw [h]; exact (if_neg (by simp only []; omega)).trans (if_pos (by simpa using hx))
theorem cbytes_ok {l : List UInt8} {x n : Nat} (h : cvar l = (x, (n : Int))) (hx : ¬ l.length - n < x) : cbytes l = ((l.drop n).take x, (n : Int) + x) := by
  unfold cbytes; rw [h]; exact (if_neg (by simp only []; omega)).trans (if_neg (by simpa using hx))

theorem ctag_bounds (l : List UInt8) : ((ctag l).2.2 < 0 ∧ -3 ≤ (ctag l).2.2) ∨
    (0 < (ctag l).2.2 ∧ (ctag l).2.2 ≤ l.length ∧ 1 ≤ (ctag l).1 ∧ (ctag l).1 ≤ 2147483647 ∧ 0 ≤ (ctag l).2.1 ∧ (ctag l).2.1 ≤ 7) := by
  have hb := cvar_bounds l
  unfold ctag
  split
  · left; show (cvar l).2 < 0 ∧ -3 ≤ (cvar l).2; omega
  · split
    · left; show (-2 : Int) < 0 ∧ (-3 : Int) ≤ -2; omega
    · right
      show 0 < (cvar l).2 ∧ (cvar l).2 ≤ l.length ∧ 1 ≤ (((cvar l).1 / 8 : Nat) : Int) ∧ (((cvar l).1 / 8 : Nat) : Int) ≤ 2147483647 ∧ 0 ≤ (((cvar l).1 % 8 : Nat) : Int) ∧ (((cvar l).1 % 8 : Nat) : Int) ≤ 7
      omega

theorem cbytes_bounds (l : List UInt8) : ((cbytes l).2 < 0 ∧ -3 ≤ (cbytes l).2) ∨ (0 < (cbytes l).2 ∧ (cbytes l).2 ≤ l.length ∧ (cbytes l).1.length ≤ l.length) := by
  have hb := cvar_bounds l
  unfold cbytes
  split
  · left; show (cvar l).2 < 0 ∧ -3 ≤ (cvar l).2; omega
  · split
    · left; show (-1 : Int) < 0 ∧ (-3 : Int) ≤ -1; omega
    · right
      show 0 < (cvar l).2 + (cvar l).1 ∧ (cvar l).2 + (cvar l).1 ≤ l.length ∧ ((l.drop (cvar l).2.toNat).take (cvar l).1).length ≤ l.length
      simp only [List.length_take, List.length_drop]
      omega

theorem grp_bounds {inner : Int → Int → List UInt8 → Int} (hin : ∀ a b l, (inner a b l < 0 ∧ -6 ≤ inner a b l) ∨ (0 ≤ inner a b l ∧ inner a b l ≤ l.length)) (n0 : Nat) (num : Int) :
    ∀ f l, l.length ≤ n0 → (grp inner n0 num f l < 0 ∧ -6 ≤ grp inner n0 num f l) ∨ (0 ≤ grp inner n0 num f l ∧ grp inner n0 num f l ≤ n0) := by
  intro f
  induction f with
  | zero => intro l _; left; simp [grp]
  | succ f ih =>
    intro l hl
    have ht := ctag_bounds l
    rw [grp]
    split
    · left; omega
    · split
      · split
        · left; omega
        · right; simp only [List.length_drop]; omega
      · split
        · have := hin (ctag l).1 (ctag l).2.1 (l.drop (ctag l).2.2.toNat)
          left; omega
        · exact ih _ (by simp only [List.length_drop]; omega)

theorem cfvB_bounds (g typ : Int) (l : List UInt8) (h : (g < 0 ∧ -6 ≤ g) ∨ (0 ≤ g ∧ g ≤ l.length)) : (cfvB g typ l < 0 ∧ -6 ≤ cfvB g typ l) ∨ (0 ≤ cfvB g typ l ∧ cfvB g typ l ≤ l.length) := by
  have h1 := cvar_bounds l
  have h2 := cbytes_bounds l
  unfold cfvB
  repeat' split
  all_goals omega

theorem cfv_bounds : ∀ d num typ l, (cfv d num typ l < 0 ∧ -6 ≤ cfv d num typ l) ∨ (0 ≤ cfv d num typ l ∧ cfv d num typ l ≤ l.length) := by
  intro d
  induction d with
  | zero => intro num typ l; exact cfvB_bounds _ _ _ (by omega)
  | succ d ih => intro num typ l; exact cfvB_bounds _ _ _ (grp_bounds ih l.length num (l.length + 1) l (Nat.le_refl _))

section
variable {inner : Int → Int → List UInt8 → Int} {n0 : Nat} {num a b c : Int} {f n m : Nat} {l : List UInt8} {G : Int}
theorem grp_neg (h : ctag l = (a, b, c)) (hc : c < 0) (hG : grp inner n0 num (f + 1) l = G) : G = c := by
  rw [grp, h] at hG; rw [← hG]; exact if_pos hc
theorem grp_other (h : ctag l = (a, b, (n : Int))) (hb : b = 4) (hn : num ≠ a) (hG : grp inner n0 num (f + 1) l = G) : G = -5 := by
  rw [grp, h] at hG; rw [← hG]; exact (if_neg (by simp only []; omega)).trans ((if_pos hb).trans (if_pos hn))
theorem grp_end (h : ctag l = (a, b, (n : Int))) (hb : b = 4) (hn : num = a) (hG : grp inner n0 num (f + 1) l = G) : G = (n0 : Int) - (l.length - n : Nat) := by
  rw [grp, h] at hG; rw [← hG]; refine (if_neg (by simp only []; omega)).trans ((if_pos hb).trans ((if_neg (by simp [hn])).trans ?_))
  simp
theorem grp_bad (h : ctag l = (a, b, (n : Int))) (hb : b ≠ 4) (hm : inner a b (l.drop n) = c) (hc : c < 0) (hG : grp inner n0 num (f + 1) l = G) : G = c := by
  rw [grp, h] at hG; rw [← hG]
  refine (if_neg (by simp only []; omega)).trans ((if_neg hb).trans ?_)
  simp only [Int.toNat_natCast, hm]
  exact if_pos hc
theorem grp_more (h : ctag l = (a, b, (n : Int))) (hb : b ≠ 4) (hm : inner a b (l.drop n) = (m : Int)) (hG : grp inner n0 num (f + 1) l = G) : grp inner n0 num f ((l.drop n).drop m) = G := by
  rw [grp, h] at hG; rw [← hG]; symm
  refine (if_neg (by simp only []; omega)).trans ((if_neg hb).trans ?_)
  simp only [Int.toNat_natCast, hm]
  exact if_neg (by omega)
theorem ctag_facts (h : ctag l = (a, b, c)) : (c < 0 ∧ -3 ≤ c) ∨ (0 < c ∧ c ≤ l.length ∧ 1 ≤ a ∧ a ≤ 2147483647 ∧ 0 ≤ b ∧ b ≤ 7) := by
  have := ctag_bounds l
  rw [h] at this
  exact this
end

/-- a message read field by field: f takes a field over the state, and says how many bytes of its value -/
def mrun {S : Type} (f : S → Int → Int → List UInt8 → Option (S × Nat)) (s : S) (l : List UInt8) : Option S :=
  if _h : l = [] then some s
  else if _h2 : (ctag l).2.2 < 0 ∨ 536870911 < (ctag l).1 then none
  else match f s (ctag l).1 (ctag l).2.1 (l.drop (ctag l).2.2.toNat) with
    | none => none
    | some (s', k) => mrun f s' ((l.drop (ctag l).2.2.toNat).drop k)
termination_by l.length
decreasing_by
  have hb := ctag_bounds l
  have : 0 < l.length := List.length_pos_iff.2 _h
  simp only [List.length_drop]
  omega

section
variable {S : Type} {f : S → Int → Int → List UInt8 → Option (S × Nat)} {s s' : S} {l : List UInt8} {k : Nat}
theorem mrun_nil : mrun f s [] = some s := by rw [mrun]; simp
theorem mrun_torn (hl : l ≠ []) (h : (ctag l).2.2 < 0 ∨ 536870911 < (ctag l).1) : mrun f s l = none := by
  rw [mrun, dif_neg hl, dif_pos h]
theorem mrun_none (hl : l ≠ []) (h : ¬ (ctag l).2.2 < 0) (h2 : ¬ 536870911 < (ctag l).1) (hf : f s (ctag l).1 (ctag l).2.1 (l.drop (ctag l).2.2.toNat) = none) : mrun f s l = none := by
  rw [mrun, dif_neg hl, dif_neg (by omega), hf]
theorem mrun_some (hl : l ≠ []) (h : ¬ (ctag l).2.2 < 0) (h2 : ¬ 536870911 < (ctag l).1) (hf : f s (ctag l).1 (ctag l).2.1 (l.drop (ctag l).2.2.toNat) = some (s', k)) :
    mrun f s l = mrun f s' ((l.drop (ctag l).2.2.toNat).drop k) := by
  conv => lhs; rw [mrun, dif_neg hl, dif_neg (by omega), hf]
theorem mrun_torn' {a b c : Int} (ht : ctag l = (a, b, c)) (hl : 0 < l.length) (h : c < 0) : mrun f s l = none :=
  mrun_torn (by rintro rfl; simp at hl) (.inl (by rw [ht]; exact h))
theorem mrun_far' {a b c : Int} (ht : ctag l = (a, b, c)) (hl : 0 < l.length) (h : 536870911 < a) : mrun f s l = none :=
  mrun_torn (by rintro rfl; simp at hl) (.inr (by rw [ht]; exact h))
theorem mrun_none' {a b : Int} {n : Nat} (ht : ctag l = (a, b, (n : Int))) (hl : 0 < l.length) (ha : ¬ 536870911 < a) (hf : f s a b (l.drop n) = none) : mrun f s l = none :=
  mrun_none (by rintro rfl; simp at hl) (by rw [ht]; show ¬ (n : Int) < 0; omega) (by rw [ht]; exact ha) (by rw [ht]; exact hf)
theorem mrun_some' {a b : Int} {n : Nat} (ht : ctag l = (a, b, (n : Int))) (hl : 0 < l.length) (ha : ¬ 536870911 < a) (hf : f s a b (l.drop n) = some (s', k)) : mrun f s l = mrun f s' ((l.drop n).drop k) := by
  have := mrun_some (f := f) (s := s) (s' := s') (l := l) (k := k) (by rintro rfl; simp at hl) (by rw [ht]; show ¬ (n : Int) < 0; omega) (by rw [ht]; exact ha) (by rw [ht]; exact hf)
  rw [ht] at this
  exact this
end

end Wire
end Go.Proofs.YtkmjjoffamdnfaaGreatDoor

/- The readers of protowire: DecodeTag, ConsumeTag, ConsumeBytes, ConsumeFixed32, ConsumeFixed64: what they return. -/
namespace Go.Proofs.YtkmjjoffamdnfaaGreatDoor
open Go.RowKit
set_option maxRecDepth 100000

theorem u64_and7 (x : Nat) (hx : x < 18446744073709551616) : bits .and .u64 (x : Int) 7 = ((x % 8 : Nat) : Int) := by
  have h := u64_and_nat x 7 hx (by omega)
  have h2 : x &&& 7 = x % 8 := Nat.and_two_pow_sub_one_eq_mod x 3
  rw [h2] at h
  exact h

theorem decodeTag_far (x : Nat) (w : World) (h : 2147483647 < x / 8) :
    Calls Tryz.prog 75 #[.int .u64 (x : Int)] w fun e w' => e = .returned (.tuple #[.int .i32 (-1), .int .i8 0]) ∧ w = w' := by
  go_enter Tryz.func75, Tryz.ntmps75
  go_wp2
  go_ret2
  exact ⟨rfl, rfl⟩

theorem decodeTag_near (x : Nat) (w : World) (hx : x < 18446744073709551616) (h : x / 8 ≤ 2147483647) :
    Calls Tryz.prog 75 #[.int .u64 (x : Int)] w fun e w' => e = .returned (.tuple #[.int .i32 ((x / 8 : Nat) : Int), .int .i8 ((x % 8 : Nat) : Int)]) ∧ w = w' := by
  have h7 := u64_and7 x hx
  go_enter Tryz.func75, Tryz.ntmps75
  go_wp2
  go_ret2
  exact ⟨rfl, rfl⟩

theorem consumeVarint' {w : World} {B : Nat} {v : Value} {l : List UInt8} (h : Bs w B v l) {x : Nat} {n : Int} (hr : Wire.cvar l = (x, n)) :
    Calls Tryz.prog 65 #[v] w fun e w' => e = .returned (.tuple #[.int .u64 x, .int .i64 n]) ∧ w = w' := by
  have := consumeVarint h
  rw [hr] at this
  exact this
theorem cvar_facts {l : List UInt8} {x : Nat} {n : Int} (hr : Wire.cvar l = (x, n)) : x < 18446744073709551616 ∧ (n < 0 → x = 0) ∧ (0 ≤ n → 0 < n ∧ n ≤ l.length ∧ n ≤ 10) ∧ -3 ≤ n := by
  have h1 := Wire.cvar_lt l
  have h2 := Wire.cvar_bounds l
  rw [hr] at h1 h2
  simp only [] at h1 h2
  omega

/-- what ConsumeTag returns, behind a name -/
def tagAns (a b c : Int) (e : Ending) : Prop := e = .returned (.tuple #[.int .i32 a, .int .i8 b, .int .i64 c])
theorem tagAns_of {a b c x y z : Int} {t : Int × Int × Int} (h0 : t = (a, b, c)) (h : t = (x, y, z)) : tagAns a b c (.returned (.tuple #[.int .i32 x, .int .i8 y, .int .i64 z])) := by
  rw [h0] at h; injection h with h1 h2; injection h2 with h2 h3; subst h1 h2 h3; rfl

theorem consumeTag {w : World} {B : Nat} {v : Value} {l : List UInt8} (h : Bs w B v l) {a b c : Int} (hct : Wire.ctag l = (a, b, c)) :
    Calls Tryz.prog 63 #[v] w fun e w' => e = .returned (.tuple #[.int .i32 a, .int .i8 b, .int .i64 c]) ∧ w = w' := by
  have key : Calls Tryz.prog 63 #[v] w fun e w' => tagAns a b c e ∧ w = w' := by
    have Hct := Lib.hid hct
    clear hct
    rcases hr : Wire.cvar l with ⟨x, n⟩
    obtain ⟨hx, _, hb, _⟩ := cvar_facts hr
    have Hr := Lib.hid hr
    clear hr
    by_cases hn : n < 0
    · go_enter Tryz.func63, Tryz.ntmps63
      go_wp2_with (go_at_call 65; refine (consumeVarint' h Hr.out).mono ?_; rintro e w' ⟨rfl, rfl⟩)
      go_ret3
      exact ⟨tagAns_of Hct.out (Wire.ctag_neg Hr.out hn), rfl⟩
    · by_cases hfar : 2147483647 < x / 8
      · go_enter Tryz.func63, Tryz.ntmps63
        go_wp2_with (first | (go_at_call 65; refine (consumeVarint' h Hr.out).mono ?_; rintro e w' ⟨rfl, rfl⟩) | (go_at_call 75; refine (decodeTag_far _ _ hfar).mono ?_; rintro e w' ⟨rfl, rfl⟩))
        go_ret3
        exact ⟨tagAns_of Hct.out (Wire.ctag_bad Hr.out (by omega) (.inl hfar)), rfl⟩
      · have hnear : x / 8 ≤ 2147483647 := by omega
        by_cases h1 : x / 8 < 1
        · go_enter Tryz.func63, Tryz.ntmps63
          go_wp2_with (first | (go_at_call 65; refine (consumeVarint' h Hr.out).mono ?_; rintro e w' ⟨rfl, rfl⟩) | (go_at_call 75; refine (decodeTag_near _ _ (by assumption) hnear).mono ?_; rintro e w' ⟨rfl, rfl⟩))
          go_ret3
          exact ⟨tagAns_of Hct.out (Wire.ctag_bad Hr.out (by omega) (.inr h1)), rfl⟩
        · go_enter Tryz.func63, Tryz.ntmps63
          go_wp2_with (first | (go_at_call 65; refine (consumeVarint' h Hr.out).mono ?_; rintro e w' ⟨rfl, rfl⟩) | (go_at_call 75; refine (decodeTag_near _ _ (by assumption) hnear).mono ?_; rintro e w' ⟨rfl, rfl⟩))
          go_ret3
          exact ⟨tagAns_of Hct.out (Wire.ctag_ok Hr.out (by omega) hfar h1), rfl⟩
  exact key.mono fun e w' ⟨he, hw⟩ => ⟨he, hw⟩

/-- what ConsumeBytes returns: a part of the bytes that came in, or nil and a code -/
def bytesAns (w : World) (B : Nat) (m : List UInt8) (n : Int) (e : Ending) : Prop := ∃ v', e = .returned (.tuple #[v', .int .i64 n]) ∧ Bs w B v' m
theorem bytesAns_of {w : World} {B : Nat} {m m' : List UInt8} {n k : Int} {t : List UInt8 × Int} {v' : Value} (h0 : t = (m, n)) (h : t = (m', k)) (hb : Bs w B v' m') : bytesAns w B m n (.returned (.tuple #[v', .int .i64 k])) := by
  rw [h0] at h; injection h with h1 h2; subst h1 h2; exact ⟨v', rfl, hb⟩

theorem consumeBytes {w : World} {B : Nat} {v : Value} {l : List UInt8} (h : Bs w B v l) {m : List UInt8} {k : Int} (hct : Wire.cbytes l = (m, k)) :
    Calls Tryz.prog 66 #[v] w fun e w' => bytesAns w B m k e ∧ w = w' := by
  have Hct := Lib.hid hct
  clear hct
  rcases hr : Wire.cvar l with ⟨x, n⟩
  obtain ⟨hx, _, hb, _⟩ := cvar_facts hr
  have Hr := Lib.hid hr
  clear hr
  obtain ⟨A, c, rfl, hlc, hc63⟩ := h.form
  have H := Lib.hid h
  clear h
  have hll := H.out.len_le
  generalize hN : l.length = N at *
  have HN := Lib.hid hN
  clear hN
  by_cases hn : n < 0
  · go_enter Tryz.func66, Tryz.ntmps66
    go_wp2_with (go_at_call 65; refine (consumeVarint' H.out Hr.out).mono ?_; rintro e w' ⟨rfl, rfl⟩)
    go_ret2
    exact ⟨bytesAns_of Hct.out (Wire.cbytes_neg Hr.out hn) (Bs.nil0 _ _), rfl⟩
  · obtain ⟨n, rfl⟩ := Int.eq_ofNat_of_zero_le (show 0 ≤ n by omega)
    have hnN : n ≤ N := by omega
    obtain ⟨A', hsl, hcut⟩ := slice_from H.out hnN
    have Hcut := Lib.hid hcut
    clear hcut hb
    by_cases hfar : N - n < x
    · go_enter Tryz.func66, Tryz.ntmps66
      go_wp2_with (go_at_call 65; refine (consumeVarint' H.out Hr.out).mono ?_; rintro e w' ⟨rfl, rfl⟩)
      go_ret2
      exact ⟨bytesAns_of Hct.out (Wire.cbytes_bad Hr.out (by rw [HN.out]; exact hfar)) (Bs.nil0 _ _), rfl⟩
    · go_enter Tryz.func66, Tryz.ntmps66
      go_wp2_with (go_at_call 65; refine (consumeVarint' H.out Hr.out).mono ?_; rintro e w' ⟨rfl, rfl⟩)
      go_ret2
      exact ⟨bytesAns_of Hct.out (Wire.cbytes_ok Hr.out (by rw [HN.out]; exact hfar)) (Hcut.out.front (by rw [List.length_drop, HN.out]; omega)), rfl⟩
end Go.Proofs.YtkmjjoffamdnfaaGreatDoor

/- Package-level variables that hold errors. -/
namespace Go.Proofs.YtkmjjoffamdnfaaGreatDoor
open Go.RowKit
/-- package-level variable g holds an error -/
def HasErr (w : World) (g : Nat) : Prop := ∃ t x, w.cell? ⟨g, 0, none⟩ = some (.iface t x)
theorem HasErr.below {w w' : World} {g B : Nat} (h : HasErr w g) (hb : Below B w w') (hg : g < B) : HasErr w' g := by
  obtain ⟨t, x, h⟩ := h; exact ⟨t, x, (hb.cell (p := ⟨g, 0, none⟩) hg).trans h⟩
theorem HasErr.step {w w' : World} {g : Nat} (h : HasErr w g) (hb : Below w.heap.size w w') : HasErr w' g := by
  obtain ⟨t, x, h⟩ := h
  exact ⟨t, x, (hb.cell (p := ⟨g, 0, none⟩) (World.block_lt_of_cell? w _ h)).trans h⟩
/-- an error that is not nil -/
def errAns (e : Ending) : Prop := ∃ t x, e = .returned (.iface t x)

end Go.Proofs.YtkmjjoffamdnfaaGreatDoor

/- The readers of protowire: fixed numbers, ParseError, a field's value that is passed over. -/
namespace Go.Proofs.YtkmjjoffamdnfaaGreatDoor
open Go.RowKit
set_option maxRecDepth 100000

theorem consumeFixed32_short {w : World} {B : Nat} {v : Value} {l : List UInt8} (h : Bs w B v l) (hl : l.length < 4) :
    Calls Tryz.prog 83 #[v] w fun e w' => e = .returned (.tuple #[.int .u32 0, .int .i64 (-1)]) ∧ w = w' := by
  obtain ⟨A, c, rfl, hlc, hc63⟩ := h.form
  have hi : (l.length : Int) < 4 := by omega
  go_enter Tryz.func83, Tryz.ntmps83
  go_wp2
  go_ret2
  exact ⟨rfl, rfl⟩

theorem consumeFixed64_short {w : World} {B : Nat} {v : Value} {l : List UInt8} (h : Bs w B v l) (hl : l.length < 8) :
    Calls Tryz.prog 84 #[v] w fun e w' => e = .returned (.tuple #[.int .u64 0, .int .i64 (-1)]) ∧ w = w' := by
  obtain ⟨A, c, rfl, hlc, hc63⟩ := h.form
  have hi : (l.length : Int) < 8 := by omega
  go_enter Tryz.func84, Tryz.ntmps84
  go_wp2
  go_ret2
  exact ⟨rfl, rfl⟩

/-- some number and a count -/
def fixAns (k : IntKind) (n : Int) (e : Ending) : Prop := ∃ x : Int, e = .returned (.tuple #[.int k x, .int .i64 n])

theorem consumeFixed32_ok {w : World} {B : Nat} {v : Value} {l : List UInt8} (h : Bs w B v l) (hl : 4 ≤ l.length) :
    Calls Tryz.prog 83 #[v] w fun e w' => fixAns .u32 4 e ∧ ∃ n, w' = w.drewN n := by
  obtain ⟨g, o, c, rfl, _, _, hc63, hc⟩ := h.cellnb (by omega)
  have hc0 : w.cell? ⟨g, o, none⟩ = _ := hc 0 (by omega)
  have hc1 := hc 1 (by omega)
  have hc2 := hc 2 (by omega)
  have hc3 := hc 3 (by omega)
  clear hc h
  generalize Wire.nb l 0 = b0 at *
  generalize Wire.nb l 1 = b1 at *
  generalize Wire.nb l 2 = b2 at *
  generalize Wire.nb l 3 = b3 at *
  generalize l.length = N at *
  have hN : (4 : Int) ≤ (N : Int) := by omega
  have i0 : 0 < N := by omega
  have i1 : (1 : Int) < (N : Int) := by omega
  have i2 : (2 : Int) < (N : Int) := by omega
  have i3 : (3 : Int) < (N : Int) := by omega
  go_enter Tryz.func83, Tryz.ntmps83
  go_wp2
  go_quiet (fail)
  go_wp2
  go_ret2
  exact ⟨⟨_, rfl⟩, _, rfl⟩

theorem consumeFixed64_ok {w : World} {B : Nat} {v : Value} {l : List UInt8} (h : Bs w B v l) (hl : 8 ≤ l.length) :
    Calls Tryz.prog 84 #[v] w fun e w' => fixAns .u64 8 e ∧ ∃ n, w' = w.drewN n := by
  obtain ⟨g, o, c, rfl, _, _, hc63, hc⟩ := h.cellnb (by omega)
  have hc0 : w.cell? ⟨g, o, none⟩ = _ := hc 0 (by omega)
  have hc1 := hc 1 (by omega)
  have hc2 := hc 2 (by omega)
  have hc3 := hc 3 (by omega)
  have hc4 := hc 4 (by omega)
  have hc5 := hc 5 (by omega)
  have hc6 := hc 6 (by omega)
  have hc7 := hc 7 (by omega)
  clear hc h
  generalize Wire.nb l 0 = b0 at *
  generalize Wire.nb l 1 = b1 at *
  generalize Wire.nb l 2 = b2 at *
  generalize Wire.nb l 3 = b3 at *
  generalize Wire.nb l 4 = b4 at *
  generalize Wire.nb l 5 = b5 at *
  generalize Wire.nb l 6 = b6 at *
  generalize Wire.nb l 7 = b7 at *
  generalize l.length = N at *
  have hN : (8 : Int) ≤ (N : Int) := by omega
  have i0 : 0 < N := by omega
  have i1 : (1 : Int) < (N : Int) := by omega
  have i2 : (2 : Int) < (N : Int) := by omega
  have i3 : (3 : Int) < (N : Int) := by omega
  have i4 : (4 : Int) < (N : Int) := by omega
  have i5 : (5 : Int) < (N : Int) := by omega
  have i6 : (6 : Int) < (N : Int) := by omega
  have i7 : (7 : Int) < (N : Int) := by omega
  go_enter Tryz.func84, Tryz.ntmps84
  go_wp2
  go_quiet (fail)
  go_wp2
  go_ret2
  exact ⟨⟨_, rfl⟩, _, rfl⟩

/-- protowire's errors and io's -/
structure PErr (w : World) : Prop where
  eof : HasErr w 6
  num : HasErr w 7
  over : HasErr w 8
  reserved : HasErr w 9
  group : HasErr w 10
  parse : HasErr w 11
theorem PErr.step {w w' : World} (h : PErr w) (hb : Below w.heap.size w w') : PErr w' :=
  ⟨h.eof.step hb, h.num.step hb, h.over.step hb, h.reserved.step hb, h.group.step hb, h.parse.step hb⟩

theorem parseError {w : World} (h : PErr w) {n : Int} (hn : n < 0) (hn6 : -6 ≤ n) :
    Calls Tryz.prog 64 #[.int .i64 n] w fun e w' => errAns e ∧ w = w' := by
  obtain ⟨⟨t1, x1, h1⟩, ⟨t2, x2, h2⟩, ⟨t3, x3, h3⟩, ⟨t4, x4, h4⟩, ⟨t5, x5, h5⟩, ⟨t6, x6, h6⟩⟩ := h
  have hc : n = -1 ∨ n = -2 ∨ n = -3 ∨ n = -4 ∨ n = -5 ∨ n = -6 := by omega
  rcases hc with rfl | rfl | rfl | rfl | rfl | rfl
  all_goals
    go_enter Tryz.func64, Tryz.ntmps64
    go_wp2
    go_ret
    exact ⟨⟨_, _, rfl⟩, rfl⟩
end Go.Proofs.YtkmjjoffamdnfaaGreatDoor

/- The readers of protowire: consumeFieldValueD and ConsumeFieldValue: a field's value that is passed over, groups and all. -/
namespace Go.Proofs.YtkmjjoffamdnfaaGreatDoor
open Go.RowKit
set_option maxRecDepth 100000

/-- how long a slice is, read off its value -/
def lenOf : Value → Nat | .slice _ n _ => n | _ => 0

def numAns (n : Int) (e : Ending) : Prop := e = .returned (.int .i64 n)
theorem numAns_of {n k : Int} (h : n = k) : numAns n (.returned (.int .i64 k)) := by rw [h]; rfl

theorem i8_ne {a b : Int} (h : a ≠ b) : (a == b) = false := by simpa using h
theorem i8_eq {a b : Int} (h : a = b) : (a == b) = true := by simpa using h

section
variable {w : World} {B : Nat} {v : Value} {l : List UInt8}

theorem cfvD_0 (h : Bs w B v l) (num dep : Int) : Calls Tryz.prog 76 #[.int .i32 num, .int .i8 0, v, .int .i64 dep] w fun e w' => numAns (Wire.cvar l).2 e ∧ w = w' := by
  rcases hr : Wire.cvar l with ⟨x, n⟩
  have Hr := Lib.hid hr
  clear hr
  go_enter Tryz.func76, Tryz.ntmps76
  go_wp2_with (go_at_call 65; refine (consumeVarint' h Hr.out).mono ?_; rintro e w' ⟨rfl, rfl⟩)
  go_ret
  exact ⟨rfl, rfl⟩

theorem cfvD_5s (h : Bs w B v l) (num dep : Int) (hl : l.length < 4) : Calls Tryz.prog 76 #[.int .i32 num, .int .i8 5, v, .int .i64 dep] w fun e w' => numAns (-1) e ∧ w = w' := by
  go_enter Tryz.func76, Tryz.ntmps76
  go_wp2_with (go_at_call 83; refine (consumeFixed32_short h hl).mono ?_; rintro e w' ⟨rfl, rfl⟩)
  go_ret
  exact ⟨rfl, rfl⟩

theorem cfvD_5 (h : Bs w B v l) (num dep : Int) (hl : 4 ≤ l.length) : Calls Tryz.prog 76 #[.int .i32 num, .int .i8 5, v, .int .i64 dep] w fun e w' => numAns 4 e ∧ ∃ n, w' = w.drewN n := by
  go_enter Tryz.func76, Tryz.ntmps76
  go_wp2_with (go_at_call 83; refine (consumeFixed32_ok h hl).mono ?_; rintro e w' ⟨⟨x, rfl⟩, n, rfl⟩)
  go_ret
  exact ⟨rfl, _, rfl⟩

theorem cfvD_1s (h : Bs w B v l) (num dep : Int) (hl : l.length < 8) : Calls Tryz.prog 76 #[.int .i32 num, .int .i8 1, v, .int .i64 dep] w fun e w' => numAns (-1) e ∧ w = w' := by
  go_enter Tryz.func76, Tryz.ntmps76
  go_wp2_with (go_at_call 84; refine (consumeFixed64_short h hl).mono ?_; rintro e w' ⟨rfl, rfl⟩)
  go_ret
  exact ⟨rfl, rfl⟩

theorem cfvD_1 (h : Bs w B v l) (num dep : Int) (hl : 8 ≤ l.length) : Calls Tryz.prog 76 #[.int .i32 num, .int .i8 1, v, .int .i64 dep] w fun e w' => numAns 8 e ∧ ∃ n, w' = w.drewN n := by
  go_enter Tryz.func76, Tryz.ntmps76
  go_wp2_with (go_at_call 84; refine (consumeFixed64_ok h hl).mono ?_; rintro e w' ⟨⟨x, rfl⟩, n, rfl⟩)
  go_ret
  exact ⟨rfl, _, rfl⟩

theorem cfvD_2 (h : Bs w B v l) (num dep : Int) : Calls Tryz.prog 76 #[.int .i32 num, .int .i8 2, v, .int .i64 dep] w fun e w' => numAns (Wire.cbytes l).2 e ∧ w = w' := by
  rcases hr : Wire.cbytes l with ⟨m, n⟩
  have Hr := Lib.hid hr
  clear hr
  go_enter Tryz.func76, Tryz.ntmps76
  go_wp2_with (go_at_call 66; refine (consumeBytes h Hr.out).mono ?_; rintro e w' ⟨⟨v', rfl, _⟩, rfl⟩)
  go_ret
  exact ⟨rfl, rfl⟩

theorem cfvD_4 (num dep : Int) : Calls Tryz.prog 76 #[.int .i32 num, .int .i8 4, v, .int .i64 dep] w fun e w' => numAns (-5) e ∧ w = w' := by
  go_enter Tryz.func76, Tryz.ntmps76
  go_wp2
  go_ret
  exact ⟨rfl, rfl⟩

theorem cfvD_else (num typ dep : Int) (h5 : 5 < typ) : Calls Tryz.prog 76 #[.int .i32 num, .int .i8 typ, v, .int .i64 dep] w fun e w' => numAns (-4) e ∧ w = w' := by
  have e0 := i8_ne (a := typ) (b := 0) (by omega)
  have e1 := i8_ne (a := typ) (b := 1) (by omega)
  have e2 := i8_ne (a := typ) (b := 2) (by omega)
  have e3 := i8_ne (a := typ) (b := 3) (by omega)
  have e4 := i8_ne (a := typ) (b := 4) (by omega)
  have e5 := i8_ne (a := typ) (b := 5) (by omega)
  go_enter Tryz.func76, Tryz.ntmps76
  go_wp2
  go_ret
  exact ⟨rfl, rfl⟩

theorem cfvD_3z (num dep : Int) (hd : dep < 0) : Calls Tryz.prog 76 #[.int .i32 num, .int .i8 3, v, .int .i64 dep] w fun e w' => numAns (-6) e ∧ w = w' := by
  go_enter Tryz.func76, Tryz.ntmps76
  go_wp2
  go_ret
  exact ⟨rfl, rfl⟩

/-- the group's loop, the calls of itself by a contract -/
theorem cfvD_3 {inner : Int → Int → List UInt8 → Int} (h : Bs w B v l) (num dep : Int) (hd : 0 ≤ dep) (hdep : dep ≤ 20000)
    (hin : ∀ (a b : Int) (v : Value) (l : List UInt8) (W : World), Bs W B v l → 0 ≤ b → b ≤ 7 → Calls Tryz.prog 76 #[.int .i32 a, .int .i8 b, v, .int .i64 (dep - 1)] W fun e w' => numAns (inner a b l) e ∧ ∃ n, w' = W.drewN n)
    (hbd : ∀ a b l, (inner a b l < 0 ∧ -6 ≤ inner a b l) ∨ (0 ≤ inner a b l ∧ inner a b l ≤ l.length)) :
    Calls Tryz.prog 76 #[.int .i32 num, .int .i8 3, v, .int .i64 dep] w fun e w' => numAns (Wire.grp inner l.length num (l.length + 1) l) e ∧ ∃ n, w' = w.drewN n := by
  obtain ⟨A, c, rfl, hlc, hc63⟩ := h.form
  have H := Lib.hid h
  have Hin := Lib.hid hin
  have Hbd := Lib.hid hbd
  clear h hin hbd
  generalize hG : Wire.grp inner l.length num (l.length + 1) l = G at *
  have HG := Lib.hid hG
  clear hG
  have hll := H.out.len_le
  generalize hN : l.length = N at *
  have HN := Lib.hid hN
  clear hN
  go_enter Tryz.func76, Tryz.ntmps76
  go_wp2
  go_loopw [2] (fun b wr => ∃ (l' : List UInt8) (A' : Option Addr) (N' c' f k : Nat), b = .slice A' N' c' ∧ wr = w.drewN k ∧ Hid (Bs w B (.slice A' N' c') l') ∧ Hid (l'.length = N') ∧ N' ≤ N ∧ N' < f ∧ Hid (Wire.grp inner N num f l' = G)) (fun b _ => lenOf b)
  case atStart => exact ⟨l, A, N, c, N + 1, 0, rfl, rfl, H, HN, Nat.le_refl _, by omega, by have := HG.out; exact this⟩
  case round =>
    obtain ⟨l', A', N', c', f, k, rfl, rfl, H', HN', hN'N, hf, HG'⟩ := hrel
    obtain ⟨f, rfl⟩ : ∃ f', f = f' + 1 := ⟨f - 1, by omega⟩
    rcases hct : Wire.ctag l' with ⟨a, b, cn⟩
    have hbc := Wire.ctag_facts hct
    rw [HN'.out] at hbc
    have Hct := Lib.hid hct
    clear hct
    obtain ⟨A1, c1, he, hlc', hc63'⟩ := H'.out.form
    rw [HN'.out] at he hlc'
    injection he with e1 e2 e3
    subst e1 e3
    clear e2
    by_cases hn : cn < 0
    · go_wp2_with (go_at_call 63; refine (consumeTag (H'.out.drewN k) Hct.out).mono ?_; rintro e w' ⟨rfl, rfl⟩)
      go_ret
      exact ⟨numAns_of (Wire.grp_neg Hct.out hn HG'.out), _, rfl⟩
    · obtain ⟨n, rfl⟩ := Int.eq_ofNat_of_zero_le (show 0 ≤ cn by omega)
      have hnN : n ≤ N' := by omega
      have hn0 : 0 < n := by omega
      obtain ⟨ha1, ha2, hb0, hb7⟩ : 1 ≤ a ∧ a ≤ 2147483647 ∧ 0 ≤ b ∧ b ≤ 7 := by omega
      clear hbc
      obtain ⟨A2, hsl, hcut⟩ := slice_from H'.out hnN
      have Hcut := Lib.hid hcut
      clear hcut
      by_cases hb4 : b = 4
      · subst hb4
        by_cases hna : num = a
        · subst hna
          go_wp2_with (go_at_call 63; refine (consumeTag (H'.out.drewN k) Hct.out).mono ?_; rintro e w' ⟨rfl, rfl⟩)
          go_ret
          exact ⟨numAns_of (by rw [Wire.grp_end Hct.out rfl rfl HG'.out, HN'.out]), _, rfl⟩
        · have hna' : (num != a) = true := by simpa using hna
          go_wp2_with (go_at_call 63; refine (consumeTag (H'.out.drewN k) Hct.out).mono ?_; rintro e w' ⟨rfl, rfl⟩)
          go_ret
          exact ⟨numAns_of (Wire.grp_other Hct.out rfl hna HG'.out), _, rfl⟩
      · have hb4' := i8_ne hb4
        have hbm := Hbd.out a b (l'.drop n)
        rw [List.length_drop, HN'.out] at hbm
        generalize hm : inner a b (l'.drop n) = m at *
        have Hm := Lib.hid hm
        clear hm
        have Hin' : ∀ W : World, Bs W B (.slice A2 (N' - n) (c' - n)) (l'.drop n) → Calls Tryz.prog 76 #[.int .i32 a, .int .i8 b, .slice A2 (N' - n) (c' - n), .int .i64 (dep - 1)] W fun e w' => e = .returned (.int .i64 m) ∧ ∃ n, w' = W.drewN n := by
          intro W hW
          have := Hin.out a b _ _ W hW hb0 hb7
          rw [Hm.out] at this
          exact this
        by_cases hm0 : m < 0
        · go_wp2_with (first | (go_at_call 63; refine (consumeTag (H'.out.drewN k) Hct.out).mono ?_; rintro e w' ⟨rfl, rfl⟩) | (go_at_call 76; refine (Hin' _ (Hcut.out.drewN k)).mono ?_; rintro e w' ⟨rfl, n', rfl⟩))
          go_ret
          exact ⟨numAns_of (Wire.grp_bad Hct.out hb4 Hm.out hm0 HG'.out), _, rfl⟩
        · obtain ⟨m, rfl⟩ := Int.eq_ofNat_of_zero_le (show 0 ≤ m by omega)
          have hmN : m ≤ N' - n := by omega
          clear hbm
          obtain ⟨A3, hsl2, hcut2⟩ := slice_from Hcut.out hmN
          have Hcut2 := Lib.hid hcut2
          clear hcut2
          go_wp2_with (first | (go_at_call 63; refine (consumeTag (H'.out.drewN k) Hct.out).mono ?_; rintro e w' ⟨rfl, rfl⟩) | (go_at_call 76; refine (Hin' _ (Hcut.out.drewN k)).mono ?_; rintro e w' ⟨rfl, n', rfl⟩))
          go_roundw
          case rel => exact ⟨(l'.drop n).drop m, A3, _, _, f, _, rfl, rfl, Hcut2, by show _ = _; rw [List.length_drop, List.length_drop, HN'.out], by omega, by omega, Wire.grp_more Hct.out hb4 Hm.out HG'.out⟩
          case measure => simp [lenOf]; omega

theorem same_drewN {P : Program} {f : FuncId} {args : Array Value} {w : World} {E : Ending → Prop} (h : Calls P f args w fun e w' => E e ∧ w = w') : Calls P f args w fun e w' => E e ∧ ∃ n, w' = w.drewN n :=
  h.mono fun _ _ ⟨he, hw⟩ => ⟨he, 0, by rw [World.drewN_zero]; exact hw.symm⟩

theorem cfv_base (g : Int) (h : Bs w B v l) (num typ dep : Int) (h0 : 0 ≤ typ) (h7 : typ ≤ 7)
    (h3 : typ = 3 → Calls Tryz.prog 76 #[.int .i32 num, .int .i8 3, v, .int .i64 dep] w fun e w' => numAns g e ∧ ∃ n, w' = w.drewN n) :
    Calls Tryz.prog 76 #[.int .i32 num, .int .i8 typ, v, .int .i64 dep] w fun e w' => numAns (Wire.cfvB g typ l) e ∧ ∃ n, w' = w.drewN n := by
  have hc : typ = 0 ∨ typ = 1 ∨ typ = 2 ∨ typ = 3 ∨ typ = 4 ∨ typ = 5 ∨ 5 < typ := by omega
  rcases hc with rfl | rfl | rfl | rfl | rfl | rfl | h5
  · exact same_drewN (cfvD_0 h num dep)
  · by_cases h8 : l.length < 8
    · have := same_drewN (cfvD_1s h num dep h8)
      simpa [Wire.cfvB, h8] using this
    · have := cfvD_1 h num dep (by omega)
      simpa [Wire.cfvB, h8] using this
  · exact same_drewN (cfvD_2 h num dep)
  · exact h3 rfl
  · exact same_drewN (cfvD_4 num dep)
  · by_cases h4 : l.length < 4
    · have := same_drewN (cfvD_5s h num dep h4)
      simpa [Wire.cfvB, h4] using this
    · have := cfvD_5 h num dep (by omega)
      simpa [Wire.cfvB, h4] using this
  · have := same_drewN (cfvD_else (v := v) (w := w) num typ dep h5)
    have e : Wire.cfvB g typ l = -4 := by
      unfold Wire.cfvB
      rw [if_neg (by omega), if_neg (by omega), if_neg (by omega), if_neg (by omega), if_neg (by omega), if_neg (by omega)]
    rw [e]
    exact this

theorem cfvD (d : Nat) : d ≤ 10001 → ∀ (num typ : Int) (v : Value) (l : List UInt8) (W : World), Bs W B v l → 0 ≤ typ → typ ≤ 7 →
    Calls Tryz.prog 76 #[.int .i32 num, .int .i8 typ, v, .int .i64 ((d : Int) - 1)] W fun e w' => numAns (Wire.cfv d num typ l) e ∧ ∃ n, w' = W.drewN n := by
  induction d with
  | zero =>
    intro _ num typ v l W h h0 h7
    exact cfv_base (-6) h num typ _ h0 h7 fun _ => same_drewN (cfvD_3z num _ (by omega))
  | succ d ih =>
    intro hd num typ v l W h h0 h7
    refine cfv_base _ h num typ _ h0 h7 fun _ => ?_
    have e : ((d + 1 : Nat) : Int) - 1 = (d : Int) := by omega
    rw [e]
    exact cfvD_3 h num d (by omega) (by omega) (fun a b v l W hW hb hb7 => ih (by omega) a b v l W hW hb hb7) (Wire.cfv_bounds d)

/-- ConsumeFieldValue -/
def fval (num typ : Int) (l : List UInt8) : Int := Wire.cfv 10001 num typ l
theorem fval_bounds (num typ : Int) (l : List UInt8) : (fval num typ l < 0 ∧ -6 ≤ fval num typ l) ∨ (0 ≤ fval num typ l ∧ fval num typ l ≤ l.length) := Wire.cfv_bounds 10001 num typ l

theorem consumeFieldValue (h : Bs w B v l) {num typ n : Int} (h0 : 0 ≤ typ) (h7 : typ ≤ 7) (hr : fval num typ l = n) :
    Calls Tryz.prog 67 #[.int .i32 num, .int .i8 typ, v] w fun e w' => e = .returned (.int .i64 n) ∧ ∃ n, w' = w.drewN n := by
  have hc := cfvD (B := B) 10001 (by omega) num typ v l w h h0 h7
  rw [show ((10001 : Nat) : Int) - 1 = 10000 from rfl] at hc
  have hc' : Calls Tryz.prog 76 #[.int .i32 num, .int .i8 typ, v, .int .i64 10000] w fun e w' => e = .returned (.int .i64 n) ∧ ∃ n, w' = w.drewN n :=
    hc.mono fun e w' ⟨he, hw⟩ => ⟨by rw [← hr]; exact he, hw⟩
  have Hc := Lib.hid hc'
  clear hc hc' hr
  go_enter Tryz.func67, Tryz.ntmps67
  go_wp2_with (go_at_call 76; refine (Hc.out).mono ?_; rintro e w' ⟨rfl, n', rfl⟩)
  go_ret
  exact ⟨rfl, _, rfl⟩
end
end Go.Proofs.YtkmjjoffamdnfaaGreatDoor

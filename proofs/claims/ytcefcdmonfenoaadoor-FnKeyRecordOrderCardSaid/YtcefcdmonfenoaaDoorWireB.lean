/- The wire format, second part: tags, fields of bytes, values that are passed over, and messages as runs of fields. -/
import Derived.Test.YtcefcdmonfenoaaDoorWire
namespace Go.Proofs.YtcefcdmonfenoaaDoor
namespace Wire

/-- ConsumeTag: the field's number, its wire, how many bytes; or a code. -/
def ctag (l : List UInt8) : Int × Int × Int :=
  if (cvar l).2 < 0 then (0, 0, (cvar l).2)
  else if 2147483647 < (cvar l).1 / 8 ∨ (cvar l).1 / 8 < 1 then (0, 0, -2)
  else (((cvar l).1 / 8 : Nat), ((cvar l).1 % 8 : Nat), (cvar l).2)

/-- ConsumeBytes: the bytes, and how many with their length; or a code. -/
def cbytes (l : List UInt8) : List UInt8 × Int :=
  if (cvar l).2 < 0 then ([], (cvar l).2)
  else if l.length - (cvar l).2.toNat < (cvar l).1 then ([], -1)
  else ((l.drop (cvar l).2.toNat).take (cvar l).1, (cvar l).2 + (cvar l).1)

/-- a group's inside: fields up to its end; 'inner' passes a field's value over -/
def grp (inner : Int → Int → List UInt8 → Int) (n0 : Nat) (num : Int) : Nat → List UInt8 → Int
  | 0, _ => -1
  | f + 1, l =>
    if (ctag l).2.2 < 0 then (ctag l).2.2
    else if (ctag l).2.1 = 4 then (if num ≠ (ctag l).1 then -5 else (n0 : Int) - (l.drop (ctag l).2.2.toNat).length)
    else if inner (ctag l).1 (ctag l).2.1 (l.drop (ctag l).2.2.toNat) < 0 then inner (ctag l).1 (ctag l).2.1 (l.drop (ctag l).2.2.toNat)
    else grp inner n0 num f ((l.drop (ctag l).2.2.toNat).drop (inner (ctag l).1 (ctag l).2.1 (l.drop (ctag l).2.2.toNat)).toNat)

/-- ConsumeFieldValue, g in the place of a group's inside -/
def cfvB (g : Int) (typ : Int) (l : List UInt8) : Int :=
  if typ = 0 then (cvar l).2
  else if typ = 5 then (if l.length < 4 then -1 else 4)
  else if typ = 1 then (if l.length < 8 then -1 else 8)
  else if typ = 2 then (cbytes l).2
  else if typ = 3 then g
  else if typ = 4 then -5
  else -4

/-- ConsumeFieldValue at a depth (d is the depth and one more; 0: below zero) -/
def cfv : Nat → Int → Int → List UInt8 → Int
  | 0, _, typ, l => cfvB (-6) typ l
  | d + 1, num, typ, l => cfvB (grp (cfv d) l.length num (l.length + 1) l) typ l

theorem ctag_neg {l : List UInt8} {x : Nat} {n : Int} (h : cvar l = (x, n)) (hn : n < 0) : ctag l = (0, 0, n) := by unfold ctag; rw [h]; exact if_pos hn
theorem ctag_bad {l : List UInt8} {x : Nat} {n : Int} (h : cvar l = (x, n)) (hn : ¬ n < 0) (hx : 2147483647 < x / 8 ∨ x / 8 < 1) : ctag l = (0, 0, -2) := by
  unfold ctag; rw [h]; exact (if_neg hn).trans (if_pos hx)
theorem ctag_ok {l : List UInt8} {x : Nat} {n : Int} (h : cvar l = (x, n)) (hn : ¬ n < 0) (hx : ¬ 2147483647 < x / 8) (h1 : ¬ x / 8 < 1) : ctag l = (((x / 8 : Nat) : Int), ((x % 8 : Nat) : Int), n) := by
  unfold ctag; rw [h]; exact (if_neg hn).trans (if_neg (by simp only []; omega))
theorem cbytes_neg {l : List UInt8} {x : Nat} {n : Int} (h : cvar l = (x, n)) (hn : n < 0) : cbytes l = ([], n) := by unfold cbytes; rw [h]; exact if_pos hn
theorem cbytes_bad {l : List UInt8} {x n : Nat} (h : cvar l = (x, (n : Int))) (hx : l.length - n < x) : cbytes l = ([], -1) := by
  unfold cbytes; rw [h]; exact (if_neg (by simp only []; omega)).trans (if_pos (by simpa using hx))
theorem cbytes_ok {l : List UInt8} {x n : Nat} (h : cvar l = (x, (n : Int))) (hx : ¬ l.length - n < x) : cbytes l = ((l.drop n).take x, (n : Int) + x) := by
  unfold cbytes; rw [h]; exact (if_neg (by simp only []; omega)).trans (if_neg (by simpa using hx))

theorem ctag_bounds (l : List UInt8) : ((ctag l).2.2 < 0 ∧ -3 ≤ (ctag l).2.2) ∨
    (0 < (ctag l).2.2 ∧ (ctag l).2.2 ≤ l.length ∧ 1 ≤ (ctag l).1 ∧ (ctag l).1 ≤ 2147483647 ∧ 0 ≤ (ctag l).2.1 ∧ (ctag l).2.1 ≤ 7) := by
  have hb := cvar_bounds l
  unfold ctag
  split
  · left; show (cvar l).2 < 0 ∧ -3 ≤ (cvar l).2; omega
  · split
    · left; show (-2 : Int) < 0 ∧ (-3 : Int) ≤ -2; omega
    · right
      show 0 < (cvar l).2 ∧ (cvar l).2 ≤ l.length ∧ 1 ≤ (((cvar l).1 / 8 : Nat) : Int) ∧ (((cvar l).1 / 8 : Nat) : Int) ≤ 2147483647 ∧ 0 ≤ (((cvar l).1 % 8 : Nat) : Int) ∧ (((cvar l).1 % 8 : Nat) : Int) ≤ 7
      omega

theorem cbytes_bounds (l : List UInt8) : ((cbytes l).2 < 0 ∧ -3 ≤ (cbytes l).2) ∨ (0 < (cbytes l).2 ∧ (cbytes l).2 ≤ l.length ∧ (cbytes l).1.length ≤ l.length) := by
  have hb := cvar_bounds l
  unfold cbytes
  split
  · left; show (cvar l).2 < 0 ∧ -3 ≤ (cvar l).2; omega
  · split
    · left; show (-1 : Int) < 0 ∧ (-3 : Int) ≤ -1; omega
    · right
      show 0 < (cvar l).2 + (cvar l).1 ∧ (cvar l).2 + (cvar l).1 ≤ l.length ∧ ((l.drop (cvar l).2.toNat).take (cvar l).1).length ≤ l.length
      simp only [List.length_take, List.length_drop]
      omega

theorem grp_bounds {inner : Int → Int → List UInt8 → Int} (hin : ∀ a b l, (inner a b l < 0 ∧ -6 ≤ inner a b l) ∨ (0 ≤ inner a b l ∧ inner a b l ≤ l.length)) (n0 : Nat) (num : Int) :
    ∀ f l, l.length ≤ n0 → (grp inner n0 num f l < 0 ∧ -6 ≤ grp inner n0 num f l) ∨ (0 ≤ grp inner n0 num f l ∧ grp inner n0 num f l ≤ n0) := by
  intro f
  induction f with
  | zero => intro l _; left; simp [grp]
  | succ f ih =>
    intro l hl
    have ht := ctag_bounds l
    rw [grp]
    split
    · left; omega
    · split
      · split
        · left; omega
        · right; simp only [List.length_drop]; omega
      · split
        · have := hin (ctag l).1 (ctag l).2.1 (l.drop (ctag l).2.2.toNat)
          left; omega
        · exact ih _ (by simp only [List.length_drop]; omega)

theorem cfvB_bounds (g typ : Int) (l : List UInt8) (h : (g < 0 ∧ -6 ≤ g) ∨ (0 ≤ g ∧ g ≤ l.length)) : (cfvB g typ l < 0 ∧ -6 ≤ cfvB g typ l) ∨ (0 ≤ cfvB g typ l ∧ cfvB g typ l ≤ l.length) := by
  have h1 := cvar_bounds l
  have h2 := cbytes_bounds l
  unfold cfvB
  repeat' split
  all_goals omega

theorem cfv_bounds : ∀ d num typ l, (cfv d num typ l < 0 ∧ -6 ≤ cfv d num typ l) ∨ (0 ≤ cfv d num typ l ∧ cfv d num typ l ≤ l.length) := by
  intro d
  induction d with
  | zero => intro num typ l; exact cfvB_bounds _ _ _ (by omega)
  | succ d ih => intro num typ l; exact cfvB_bounds _ _ _ (grp_bounds ih l.length num (l.length + 1) l (Nat.le_refl _))

section
variable {inner : Int → Int → List UInt8 → Int} {n0 : Nat} {num a b c : Int} {f n m : Nat} {l : List UInt8} {G : Int}
theorem grp_neg (h : ctag l = (a, b, c)) (hc : c < 0) (hG : grp inner n0 num (f + 1) l = G) : G = c := by
  rw [grp, h] at hG; rw [← hG]; exact if_pos hc
theorem grp_other (h : ctag l = (a, b, (n : Int))) (hb : b = 4) (hn : num ≠ a) (hG : grp inner n0 num (f + 1) l = G) : G = -5 := by
  rw [grp, h] at hG; rw [← hG]; exact (if_neg (by simp only []; omega)).trans ((if_pos hb).trans (if_pos hn))
theorem grp_end (h : ctag l = (a, b, (n : Int))) (hb : b = 4) (hn : num = a) (hG : grp inner n0 num (f + 1) l = G) : G = (n0 : Int) - (l.length - n : Nat) := by
  rw [grp, h] at hG; rw [← hG]; refine (if_neg (by simp only []; omega)).trans ((if_pos hb).trans ((if_neg (by simp [hn])).trans ?_))
  simp
theorem grp_bad (h : ctag l = (a, b, (n : Int))) (hb : b ≠ 4) (hm : inner a b (l.drop n) = c) (hc : c < 0) (hG : grp inner n0 num (f + 1) l = G) : G = c := by
  rw [grp, h] at hG; rw [← hG]
  refine (if_neg (by simp only []; omega)).trans ((if_neg hb).trans ?_)
  simp only [Int.toNat_natCast, hm]
  exact if_pos hc
theorem grp_more (h : ctag l = (a, b, (n : Int))) (hb : b ≠ 4) (hm : inner a b (l.drop n) = (m : Int)) (hG : grp inner n0 num (f + 1) l = G) : grp inner n0 num f ((l.drop n).drop m) = G := by
  rw [grp, h] at hG; rw [← hG]; symm
  refine (if_neg (by simp only []; omega)).trans ((if_neg hb).trans ?_)
  simp only [Int.toNat_natCast, hm]
  exact if_neg (by omega)
theorem ctag_facts (h : ctag l = (a, b, c)) : (c < 0 ∧ -3 ≤ c) ∨ (0 < c ∧ c ≤ l.length ∧ 1 ≤ a ∧ a ≤ 2147483647 ∧ 0 ≤ b ∧ b ≤ 7) := by
  have := ctag_bounds l
  rw [h] at this
  exact this
end

/-- a message read field by field: f takes a field over the state, and says how many bytes of its value -/
def mrun {S : Type} (f : S → Int → Int → List UInt8 → Option (S × Nat)) (s : S) (l : List UInt8) : Option S :=
  if _h : l = [] then some s
  else if _h2 : (ctag l).2.2 < 0 ∨ 536870911 < (ctag l).1 then none
  else match f s (ctag l).1 (ctag l).2.1 (l.drop (ctag l).2.2.toNat) with
    | none => none
    | some (s', k) => mrun f s' ((l.drop (ctag l).2.2.toNat).drop k)
termination_by l.length
decreasing_by
  have hb := ctag_bounds l
  have : 0 < l.length := List.length_pos_iff.2 _h
  simp only [List.length_drop]
  omega

section
variable {S : Type} {f : S → Int → Int → List UInt8 → Option (S × Nat)} {s s' : S} {l : List UInt8} {k : Nat}
theorem mrun_nil : mrun f s [] = some s := by rw [mrun]; simp
theorem mrun_torn (hl : l ≠ []) (h : (ctag l).2.2 < 0 ∨ 536870911 < (ctag l).1) : mrun f s l = none := by
  rw [mrun, dif_neg hl, dif_pos h]
theorem mrun_none (hl : l ≠ []) (h : ¬ (ctag l).2.2 < 0) (h2 : ¬ 536870911 < (ctag l).1) (hf : f s (ctag l).1 (ctag l).2.1 (l.drop (ctag l).2.2.toNat) = none) : mrun f s l = none := by
  rw [mrun, dif_neg hl, dif_neg (by omega), hf]
theorem mrun_some (hl : l ≠ []) (h : ¬ (ctag l).2.2 < 0) (h2 : ¬ 536870911 < (ctag l).1) (hf : f s (ctag l).1 (ctag l).2.1 (l.drop (ctag l).2.2.toNat) = some (s', k)) :
    mrun f s l = mrun f s' ((l.drop (ctag l).2.2.toNat).drop k) := by
  conv => lhs; rw [mrun, dif_neg hl, dif_neg (by omega), hf]
theorem mrun_torn' {a b c : Int} (ht : ctag l = (a, b, c)) (hl : 0 < l.length) (h : c < 0) : mrun f s l = none :=
  mrun_torn (by rintro rfl; simp at hl) (.inl (by rw [ht]; exact h))
theorem mrun_far' {a b c : Int} (ht : ctag l = (a, b, c)) (hl : 0 < l.length) (h : 536870911 < a) : mrun f s l = none :=
  mrun_torn (by rintro rfl; simp at hl) (.inr (by rw [ht]; exact h))
theorem mrun_none' {a b : Int} {n : Nat} (ht : ctag l = (a, b, (n : Int))) (hl : 0 < l.length) (ha : ¬ 536870911 < a) (hf : f s a b (l.drop n) = none) : mrun f s l = none :=
  mrun_none (by rintro rfl; simp at hl) (by rw [ht]; show ¬ (n : Int) < 0; omega) (by rw [ht]; exact ha) (by rw [ht]; exact hf)
theorem mrun_some' {a b : Int} {n : Nat} (ht : ctag l = (a, b, (n : Int))) (hl : 0 < l.length) (ha : ¬ 536870911 < a) (hf : f s a b (l.drop n) = some (s', k)) : mrun f s l = mrun f s' ((l.drop n).drop k) := by
  have := mrun_some (f := f) (s := s) (s' := s') (l := l) (k := k) (by rintro rfl; simp at hl) (by rw [ht]; show ¬ (n : Int) < 0; omega) (by rw [ht]; exact ha) (by rw [ht]; exact hf)
  rw [ht] at this
  exact this
end

end Wire
end Go.Proofs.YtcefcdmonfenoaaDoor

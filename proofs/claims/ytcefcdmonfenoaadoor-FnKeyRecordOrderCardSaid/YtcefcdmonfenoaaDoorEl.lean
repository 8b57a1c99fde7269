/- The statements' and the reference's helpers on envelopes. (Printed by gen_el.py.) -/
import Derived.Test.YtcefcdmonfenoaaDoorEo
import Derived.Test.YtcefcdmonfenoaaDoorWKeyTorn
namespace Go.Proofs.YtcefcdmonfenoaaDoor
open Go.RowKit
set_option maxRecDepth 100000
attribute [local go_sem ↓] Go.wp_at_zero Go.wp_at_succ

def EV.plain (E : EV) : EV := if E.has = true then E else { E with kind := 0, key := [] }
structure EV.fits (E : EV) : Prop where
  key : E.key.length ≤ 300
  ty : E.ty.length ≤ 300
  pay : E.pay.length ≤ 300
  sig : E.sig.length ≤ 300
theorem EV.plain_of_has {E : EV} (h : E.has = true) : E.plain = E := if_pos h
theorem EV.plain_of_not {E : EV} (h : E.has = false) : E.plain = { E with kind := 0, key := [] } := if_neg (by rw [h]; simp)
theorem EV.plain_ok {E : EV} (h : E.plain.fits) (k1 : -2147483648 ≤ E.kind) (k2 : E.kind ≤ 2147483647) : E.plain.ok := by
  have hk : -2147483648 ≤ E.plain.kind ∧ E.plain.kind ≤ 2147483647 := by
    unfold EV.plain; split
    · exact ⟨k1, k2⟩
    · exact ⟨by show -2147483648 ≤ (0 : Int); omega, by show (0 : Int) ≤ 2147483647; omega⟩
  refine ⟨?_, hk.1, hk.2, ?_, ?_, ?_, ?_⟩
  · intro hf
    have hE : E.has = false := by
      unfold EV.plain at hf; split at hf
      · exact hf
      · simpa using hf
    rw [EV.plain_of_not hE]; exact ⟨rfl, rfl⟩
  · have := h.key; omega
  · have := h.ty; omega
  · have := h.pay; omega
  · have := h.sig; omega

def No (w : World) (e : Ending) (w' : World) : Prop := e = .returned (.bool false) ∧ Below w.heap.size w w'
def EnvAns (w : World) (E : EV) (e : Ending) (w' : World) : Prop := ∃ v', e = .returned v' ∧ EnvVal w' w'.heap.size v' E ∧ Below w.heap.size w w'

section
variable {w : World} {v x : Value} {D E : EV}
theorem envelopePlain (hv : EnvVal w w.heap.size v E) :
    Calls Tryd.prog 50 #[v] w fun e w' => EnvAns w E.plain e w' := by
  obtain ⟨vk, vt, vp, vs, rfl, h1, h2, h3, h4⟩ := hv
  obtain ⟨A1, n1, c1, rfl⟩ := hid_exists_bs h1
  obtain ⟨A2, n2, c2, rfl⟩ := hid_exists_bs h2
  obtain ⟨A3, n3, c3, rfl⟩ := hid_exists_bs h3
  obtain ⟨A4, n4, c4, rfl⟩ := hid_exists_bs h4
  obtain ⟨has, kind, key, ty, pay, sig⟩ := E
  simp only [] at h1 h2 h3 h4 ⊢
  have H1 := Lib.hid h1
  have H2 := Lib.hid h2
  have H3 := Lib.hid h3
  have H4 := Lib.hid h4
  clear h1 h2 h3 h4
  cases has with
  | true =>
    go_enter Tryd.func50, Tryd.ntmps50
    go_wp2_with fail
    refine bodyPost_ret (v := .agg #[.bool true, .int .i32 kind, .slice A1 n1 c1, .slice A2 n2 c2, .slice A3 n3 c3, .slice A4 n4 c4]) (by simp [results, Tryd.results50, go_sem]) rfl ?_
    have hb : Below w.heap.size w ((w.alloc (.cells #[.bool true, .int .i32 kind, .slice A1 n1 c1, .slice A2 n2 c2, .slice A3 n3 c3, .slice A4 n4 c4] 64)).alloc (.cells #[.bool true, .int .i32 kind, .slice A1 n1 c1, .slice A2 n2 c2, .slice A3 n3 c3, .slice A4 n4 c4] 64)) := below_trans (below_alloc _ _) (below_alloc _ _)
    exact ⟨_, rfl, ⟨_, _, _, _, rfl, H1.out.step hb, H2.out.step hb, H3.out.step hb, H4.out.step hb⟩, hb⟩
  | false =>
    go_enter Tryd.func50, Tryd.ntmps50
    go_wp2_with fail
    refine bodyPost_ret (v := .agg #[.bool false, .int .i32 0, .slice none 0 0, .slice A2 n2 c2, .slice A3 n3 c3, .slice A4 n4 c4]) (by simp [results, Tryd.results50, go_sem]) rfl ?_
    have hb : Below w.heap.size w ((w.alloc (.cells #[.bool false, .int .i32 0, .slice none 0 0, .slice A2 n2 c2, .slice A3 n3 c3, .slice A4 n4 c4] 64)).alloc (.cells #[.bool false, .int .i32 0, .slice none 0 0, .slice A2 n2 c2, .slice A3 n3 c3, .slice A4 n4 c4] 64)) := below_trans (below_alloc _ _) (below_alloc _ _)
    exact ⟨_, rfl, ⟨_, _, _, _, rfl, Bs.nil0 _ _, H2.out.step hb, H3.out.step hb, H4.out.step hb⟩, hb⟩

theorem envelopeFits_yes (hv : EnvVal w w.heap.size v E) (hf : E.fits) :
    Calls Tryd.prog 51 #[v] w fun e w' => Yes w e w' := by
  obtain ⟨vk, vt, vp, vs, rfl, h1, h2, h3, h4⟩ := hv
  obtain ⟨A1, n1, c1, rfl, e1, _, _⟩ := h1.form'
  obtain ⟨A2, n2, c2, rfl, e2, _, _⟩ := h2.form'
  obtain ⟨A3, n3, c3, rfl, e3, _, _⟩ := h3.form'
  obtain ⟨A4, n4, c4, rfl, e4, _, _⟩ := h4.form'
  obtain ⟨has, kind, key, ty, pay, sig⟩ := E
  simp only [] at h1 h2 h3 h4 e1 e2 e3 e4 ⊢
  have b1 : n1 ≤ 300 := by rw [e1.out]; exact hf.1
  have b2 : n2 ≤ 300 := by rw [e2.out]; exact hf.2
  have b3 : n3 ≤ 300 := by rw [e3.out]; exact hf.3
  have b4 : n4 ≤ 300 := by rw [e4.out]; exact hf.4
  clear h1 h2 h3 h4 e1 e2 e3 e4 hf
  have d4 : decide ((n4 : Int) ≤ 300) = true := by simp; omega
  go_enter Tryd.func51, Tryd.ntmps51
  go_wp2_with fail
  go_ret
  exact ⟨rfl, below_alloc _ _⟩
theorem envelopeFits_no (hv : EnvVal w w.heap.size v E) (hf : ¬ E.fits) :
    Calls Tryd.prog 51 #[v] w fun e w' => No w e w' := by
  obtain ⟨vk, vt, vp, vs, rfl, h1, h2, h3, h4⟩ := hv
  obtain ⟨A1, n1, c1, rfl, e1, _, _⟩ := h1.form'
  obtain ⟨A2, n2, c2, rfl, e2, _, _⟩ := h2.form'
  obtain ⟨A3, n3, c3, rfl, e3, _, _⟩ := h3.form'
  obtain ⟨A4, n4, c4, rfl, e4, _, _⟩ := h4.form'
  obtain ⟨has, kind, key, ty, pay, sig⟩ := E
  simp only [] at h1 h2 h3 h4 e1 e2 e3 e4 ⊢
  have hf' : ¬ (n1 ≤ 300 ∧ n2 ≤ 300 ∧ n3 ≤ 300 ∧ n4 ≤ 300) := by
    rw [e1.out, e2.out, e3.out, e4.out]
    rintro ⟨a, b, c, d⟩
    exact hf ⟨a, b, c, d⟩
  clear h1 h2 h3 h4 e1 e2 e3 e4 hf
  have hc : 300 < n1 ∨ (n1 ≤ 300 ∧ 300 < n2) ∨ (n1 ≤ 300 ∧ n2 ≤ 300 ∧ 300 < n3) ∨ (n1 ≤ 300 ∧ n2 ≤ 300 ∧ n3 ≤ 300 ∧ 300 < n4) := by omega
  clear hf'
  rcases hc with q1 | ⟨q1, q2⟩ | ⟨q1, q2, q3⟩ | ⟨q1, q2, q3, q4⟩
  · go_enter Tryd.func51, Tryd.ntmps51
    go_wp2_with fail
    go_ret
    exact ⟨rfl, below_alloc _ _⟩
  · go_enter Tryd.func51, Tryd.ntmps51
    go_wp2_with fail
    go_ret
    exact ⟨rfl, below_alloc _ _⟩
  · go_enter Tryd.func51, Tryd.ntmps51
    go_wp2_with fail
    go_ret
    exact ⟨rfl, below_alloc _ _⟩
  · have d4 : decide ((n4 : Int) ≤ 300) = false := by simp; omega
    go_enter Tryd.func51, Tryd.ntmps51
    go_wp2_with fail
    go_ret
    exact ⟨rfl, below_alloc _ _⟩

structure EV.fits31 (E : EV) : Prop where
  key : E.key.length ≤ 2147483647
  ty : E.ty.length ≤ 2147483647
  pay : E.pay.length ≤ 2147483647
  sig : E.sig.length ≤ 2147483647

theorem zzFits14_yes (hv : EnvVal w w.heap.size v E) (hf : E.fits31) :
    Calls Tryd.prog 49 #[v] w fun e w' => Yes w e w' := by
  obtain ⟨vk, vt, vp, vs, rfl, h1, h2, h3, h4⟩ := hv
  obtain ⟨A1, n1, c1, rfl, e1, _, _⟩ := h1.form'
  obtain ⟨A2, n2, c2, rfl, e2, _, _⟩ := h2.form'
  obtain ⟨A3, n3, c3, rfl, e3, _, _⟩ := h3.form'
  obtain ⟨A4, n4, c4, rfl, e4, _, _⟩ := h4.form'
  obtain ⟨has, kind, key, ty, pay, sig⟩ := E
  simp only [] at h1 h2 h3 h4 e1 e2 e3 e4 ⊢
  have b1 : n1 ≤ 2147483647 := by rw [e1.out]; exact hf.1
  have b2 : n2 ≤ 2147483647 := by rw [e2.out]; exact hf.2
  have b3 : n3 ≤ 2147483647 := by rw [e3.out]; exact hf.3
  have b4 : n4 ≤ 2147483647 := by rw [e4.out]; exact hf.4
  clear h1 h2 h3 h4 e1 e2 e3 e4 hf
  have d4 : decide ((n4 : Int) ≤ 2147483647) = true := by simp; omega
  go_enter Tryd.func49, Tryd.ntmps49
  go_wp2_with fail
  go_ret
  exact ⟨rfl, below_alloc _ _⟩
theorem zzFits14_no (hv : EnvVal w w.heap.size v E) (hf : ¬ E.fits31) :
    Calls Tryd.prog 49 #[v] w fun e w' => No w e w' := by
  obtain ⟨vk, vt, vp, vs, rfl, h1, h2, h3, h4⟩ := hv
  obtain ⟨A1, n1, c1, rfl, e1, _, _⟩ := h1.form'
  obtain ⟨A2, n2, c2, rfl, e2, _, _⟩ := h2.form'
  obtain ⟨A3, n3, c3, rfl, e3, _, _⟩ := h3.form'
  obtain ⟨A4, n4, c4, rfl, e4, _, _⟩ := h4.form'
  obtain ⟨has, kind, key, ty, pay, sig⟩ := E
  simp only [] at h1 h2 h3 h4 e1 e2 e3 e4 ⊢
  have hf' : ¬ (n1 ≤ 2147483647 ∧ n2 ≤ 2147483647 ∧ n3 ≤ 2147483647 ∧ n4 ≤ 2147483647) := by
    rw [e1.out, e2.out, e3.out, e4.out]
    rintro ⟨a, b, c, d⟩
    exact hf ⟨a, b, c, d⟩
  clear h1 h2 h3 h4 e1 e2 e3 e4 hf
  have hc : 2147483647 < n1 ∨ (n1 ≤ 2147483647 ∧ 2147483647 < n2) ∨ (n1 ≤ 2147483647 ∧ n2 ≤ 2147483647 ∧ 2147483647 < n3) ∨ (n1 ≤ 2147483647 ∧ n2 ≤ 2147483647 ∧ n3 ≤ 2147483647 ∧ 2147483647 < n4) := by omega
  clear hf'
  rcases hc with q1 | ⟨q1, q2⟩ | ⟨q1, q2, q3⟩ | ⟨q1, q2, q3, q4⟩
  · go_enter Tryd.func49, Tryd.ntmps49
    go_wp2_with fail
    go_ret
    exact ⟨rfl, below_alloc _ _⟩
  · go_enter Tryd.func49, Tryd.ntmps49
    go_wp2_with fail
    go_ret
    exact ⟨rfl, below_alloc _ _⟩
  · go_enter Tryd.func49, Tryd.ntmps49
    go_wp2_with fail
    go_ret
    exact ⟨rfl, below_alloc _ _⟩
  · have d4 : decide ((n4 : Int) ≤ 2147483647) = false := by simp; omega
    go_enter Tryd.func49, Tryd.ntmps49
    go_wp2_with fail
    go_ret
    exact ⟨rfl, below_alloc _ _⟩

theorem sameEnvelope_yes (hd : EnvVal w w.heap.size v D) (he : EnvVal w w.heap.size x E) (h : D = E) :
    Calls Tryd.prog 54 #[v, x] w fun e w' => Yes w e w' := by
  obtain ⟨vk, vt, vp, vs, rfl, h1, h2, h3, h4⟩ := hd
  obtain ⟨yk, yt, yp, ys, rfl, j1, j2, j3, j4⟩ := he
  obtain ⟨A1, n1, c1, rfl⟩ := hid_exists_bs h1
  obtain ⟨A2, n2, c2, rfl⟩ := hid_exists_bs h2
  obtain ⟨A3, n3, c3, rfl⟩ := hid_exists_bs h3
  obtain ⟨A4, n4, c4, rfl⟩ := hid_exists_bs h4
  obtain ⟨B1, m1, d1, rfl⟩ := hid_exists_bs j1
  obtain ⟨B2, m2, d2, rfl⟩ := hid_exists_bs j2
  obtain ⟨B3, m3, d3, rfl⟩ := hid_exists_bs j3
  obtain ⟨B4, m4, d4, rfl⟩ := hid_exists_bs j4
  obtain ⟨has, kind, key, ty, pay, sig⟩ := D
  obtain ⟨has', kind', key', ty', pay', sig'⟩ := E
  simp only [] at h1 h2 h3 h4 j1 j2 j3 j4
  have hb := below_trans (below_alloc w (.cells #[.bool has, .int .i32 kind, .slice A1 n1 c1, .slice A2 n2 c2, .slice A3 n3 c3, .slice A4 n4 c4] 64)) (below_alloc _ (.cells #[.bool has', .int .i32 kind', .slice B1 m1 d1, .slice B2 m2 d2, .slice B3 m3 d3, .slice B4 m4 d4] 64))
  have H1 := Lib.hid (h1.step hb)
  have H2 := Lib.hid (h2.step hb)
  have H3 := Lib.hid (h3.step hb)
  have H4 := Lib.hid (h4.step hb)
  have J1 := Lib.hid (j1.step hb)
  have J2 := Lib.hid (j2.step hb)
  have J3 := Lib.hid (j3.step hb)
  have J4 := Lib.hid (j4.step hb)
  have Hb := Lib.hid hb
  clear h1 h2 h3 h4 j1 j2 j3 j4 hb
  simp only [EV.mk.injEq] at h
  have g0 : (has == has') = true := by simpa using h.1
  have g1 : (kind == kind') = true := by simpa using h.2.1
  have q0 := Lib.hid h.2.2.1
  have q1 := Lib.hid h.2.2.2.1
  have q2 := Lib.hid h.2.2.2.2.1
  have q3 := Lib.hid h.2.2.2.2.2
  clear h
  go_enter Tryd.func54, Tryd.ntmps54
  go_wp2_with fail
  refine (eqTrue H1.out J1.out q0.out).mono ?_
  rintro e W_ ⟨rfl, rfl⟩
  go_wp2_with fail
  refine (eqTrue H2.out J2.out q1.out).mono ?_
  rintro e W_ ⟨rfl, rfl⟩
  go_wp2_with fail
  refine (eqTrue H3.out J3.out q2.out).mono ?_
  rintro e W_ ⟨rfl, rfl⟩
  go_wp2_with fail
  refine (eqTrue H4.out J4.out q3.out).mono ?_
  rintro e W_ ⟨rfl, rfl⟩
  go_wp2_with fail
  go_ret
  exact ⟨rfl, Hb.out⟩

theorem sameEnvelope_no (hd : EnvVal w w.heap.size v D) (he : EnvVal w w.heap.size x E) (h : D ≠ E) :
    Calls Tryd.prog 54 #[v, x] w fun e w' => No w e w' := by
  obtain ⟨vk, vt, vp, vs, rfl, h1, h2, h3, h4⟩ := hd
  obtain ⟨yk, yt, yp, ys, rfl, j1, j2, j3, j4⟩ := he
  obtain ⟨A1, n1, c1, rfl⟩ := hid_exists_bs h1
  obtain ⟨A2, n2, c2, rfl⟩ := hid_exists_bs h2
  obtain ⟨A3, n3, c3, rfl⟩ := hid_exists_bs h3
  obtain ⟨A4, n4, c4, rfl⟩ := hid_exists_bs h4
  obtain ⟨B1, m1, d1, rfl⟩ := hid_exists_bs j1
  obtain ⟨B2, m2, d2, rfl⟩ := hid_exists_bs j2
  obtain ⟨B3, m3, d3, rfl⟩ := hid_exists_bs j3
  obtain ⟨B4, m4, d4, rfl⟩ := hid_exists_bs j4
  obtain ⟨has, kind, key, ty, pay, sig⟩ := D
  obtain ⟨has', kind', key', ty', pay', sig'⟩ := E
  simp only [] at h1 h2 h3 h4 j1 j2 j3 j4
  have hb := below_trans (below_alloc w (.cells #[.bool has, .int .i32 kind, .slice A1 n1 c1, .slice A2 n2 c2, .slice A3 n3 c3, .slice A4 n4 c4] 64)) (below_alloc _ (.cells #[.bool has', .int .i32 kind', .slice B1 m1 d1, .slice B2 m2 d2, .slice B3 m3 d3, .slice B4 m4 d4] 64))
  have H1 := Lib.hid (h1.step hb)
  have H2 := Lib.hid (h2.step hb)
  have H3 := Lib.hid (h3.step hb)
  have H4 := Lib.hid (h4.step hb)
  have J1 := Lib.hid (j1.step hb)
  have J2 := Lib.hid (j2.step hb)
  have J3 := Lib.hid (j3.step hb)
  have J4 := Lib.hid (j4.step hb)
  have Hb := Lib.hid hb
  clear h1 h2 h3 h4 j1 j2 j3 j4 hb
  have h' : ¬ (has = has' ∧ kind = kind' ∧ key = key' ∧ ty = ty' ∧ pay = pay' ∧ sig = sig') := fun ⟨a, b, c, d, e, f⟩ => h (by subst a b c d e f; rfl)
  clear h
  by_cases p0 : has = has'
  rotate_left
  · have g0 : (has == has') = false := by simpa using p0
    clear p0 h'
    go_enter Tryd.func54, Tryd.ntmps54
    go_wp2_with fail
    go_ret
    exact ⟨rfl, Hb.out⟩
  by_cases p1 : kind = kind'
  rotate_left
  · have g0 : (has == has') = true := by simpa using p0
    have g1 : (kind == kind') = false := by simpa using p1
    clear p0 p1 h'
    go_enter Tryd.func54, Tryd.ntmps54
    go_wp2_with fail
    go_ret
    exact ⟨rfl, Hb.out⟩
  by_cases p2 : key = key'
  rotate_left
  · have g0 : (has == has') = true := by simpa using p0
    have g1 : (kind == kind') = true := by simpa using p1
    have q0 := Lib.hid p2
    clear p0 p1 p2 h'
    go_enter Tryd.func54, Tryd.ntmps54
    go_wp2_with fail
    refine (eqFalse H1.out J1.out q0.out).mono ?_
    rintro e W_ ⟨rfl, rfl⟩
    go_wp2_with fail
    go_ret
    exact ⟨rfl, Hb.out⟩
  by_cases p3 : ty = ty'
  rotate_left
  · have g0 : (has == has') = true := by simpa using p0
    have g1 : (kind == kind') = true := by simpa using p1
    have q0 := Lib.hid p2
    have q1 := Lib.hid p3
    clear p0 p1 p2 p3 h'
    go_enter Tryd.func54, Tryd.ntmps54
    go_wp2_with fail
    refine (eqTrue H1.out J1.out q0.out).mono ?_
    rintro e W_ ⟨rfl, rfl⟩
    go_wp2_with fail
    refine (eqFalse H2.out J2.out q1.out).mono ?_
    rintro e W_ ⟨rfl, rfl⟩
    go_wp2_with fail
    go_ret
    exact ⟨rfl, Hb.out⟩
  by_cases p4 : pay = pay'
  rotate_left
  · have g0 : (has == has') = true := by simpa using p0
    have g1 : (kind == kind') = true := by simpa using p1
    have q0 := Lib.hid p2
    have q1 := Lib.hid p3
    have q2 := Lib.hid p4
    clear p0 p1 p2 p3 p4 h'
    go_enter Tryd.func54, Tryd.ntmps54
    go_wp2_with fail
    refine (eqTrue H1.out J1.out q0.out).mono ?_
    rintro e W_ ⟨rfl, rfl⟩
    go_wp2_with fail
    refine (eqTrue H2.out J2.out q1.out).mono ?_
    rintro e W_ ⟨rfl, rfl⟩
    go_wp2_with fail
    refine (eqFalse H3.out J3.out q2.out).mono ?_
    rintro e W_ ⟨rfl, rfl⟩
    go_wp2_with fail
    go_ret
    exact ⟨rfl, Hb.out⟩
  have p5 : sig ≠ sig' := fun p5 => h' ⟨p0, p1, p2, p3, p4, p5⟩
  have g0 : (has == has') = true := by simpa using p0
  have g1 : (kind == kind') = true := by simpa using p1
  have q0 := Lib.hid p2
  have q1 := Lib.hid p3
  have q2 := Lib.hid p4
  have q3 := Lib.hid p5
  clear p0 p1 p2 p3 p4 p5 h'
  go_enter Tryd.func54, Tryd.ntmps54
  go_wp2_with fail
  refine (eqTrue H1.out J1.out q0.out).mono ?_
  rintro e W_ ⟨rfl, rfl⟩
  go_wp2_with fail
  refine (eqTrue H2.out J2.out q1.out).mono ?_
  rintro e W_ ⟨rfl, rfl⟩
  go_wp2_with fail
  refine (eqTrue H3.out J3.out q2.out).mono ?_
  rintro e W_ ⟨rfl, rfl⟩
  go_wp2_with fail
  refine (eqFalse H4.out J4.out q3.out).mono ?_
  rintro e W_ ⟨rfl, rfl⟩
  go_wp2_with fail
  go_ret
  exact ⟨rfl, Hb.out⟩


theorem wireOpt {m : List UInt8} (h : Bs w w.heap.size v m) (F : Int) (f : Nat) (hF : F = (f : Int)) (hf : f < 16) (hlen : m.length + 20 ≤ 140737488355328) :
    Calls Tryd.prog 69 #[.int .u8 F, v, .bool false] w fun e w' => Fresh w (optF f m) e w' := by
  subst hF
  unfold optF
  by_cases h0 : m = []
  · subst h0
    rw [if_pos rfl]
    refine (wireBytes_none h f).mono ?_
    rintro e w' ⟨rfl, rfl⟩
    exact ⟨_, rfl, Own.nil _ _, below_refl w⟩
  · rw [if_neg h0]
    exact (wireBytes h f hf false (.inr (List.length_pos_iff.2 h0)) hlen).mono fun _ _ h => h.fresh
theorem optF_len {f : Nat} {m : List UInt8} (h : m.length ≤ 1000000000) : (optF f m).length ≤ 1000000011 := by
  unfold optF
  split
  · simp
  · have := fieldEnc_le' f m (by omega); omega
theorem envKeyF_len (h : E.key.length ≤ 1000000000) : (envKeyF E).length ≤ 1000000100 := by
  unfold envKeyF
  split
  · have h1 := (keyEnc_length E.kind E.key (by omega)).1
    have := fieldEnc_le' 1 (keyEnc E.kind E.key) (by omega)
    omega
  · simp

theorem allBs4 {W : World} {B : Nat} {a b c d : Value} {l m n k : List UInt8} (h1 : Bs W B a l) (h2 : Bs W B b m) (h3 : Bs W B c n) (h4 : Bs W B d k) : AllBs W B [a, b, c, d] [l, m, n, k] := ⟨h1, h2, h3, h4, trivial⟩
theorem sixHeld {W : World} {g : Nat} {t : TypeId} {a b c d e f : Value} (h : Blk W g t #[a, b, c, d, e, f]) : W.cell? ⟨g, 3, none⟩ = some d ∧ W.cell? ⟨g, 4, none⟩ = some e ∧ W.cell? ⟨g, 5, none⟩ = some f := ⟨h.cell 3, h.cell 4, h.cell 5⟩
set_option maxHeartbeats 2000000 in
theorem specEnvelopeBytes (hv : EnvVal w w.heap.size v E) (hs : E.small) :
    Calls Tryd.prog 57 #[v] w fun e w' => Fresh w (envEnc E) e w' := by
  obtain ⟨vk, vt, vp, vs, rfl, h1, h2, h3, h4⟩ := hv
  obtain ⟨A1, n1, c1, rfl⟩ := hid_exists_bs h1
  obtain ⟨A2, n2, c2, rfl⟩ := hid_exists_bs h2
  obtain ⟨A3, n3, c3, rfl⟩ := hid_exists_bs h3
  obtain ⟨A4, n4, c4, rfl⟩ := hid_exists_bs h4
  obtain ⟨has, kind, key, ty, pay, sig⟩ := E
  simp only [] at h1 h2 h3 h4 ⊢
  have Hs := Lib.hid hs
  have L1 := Lib.hid (show key.length + 60 ≤ 140737488355328 by have := Hs.out.key; simp only [] at this; omega)
  have L2 := Lib.hid (show ty.length + 20 ≤ 140737488355328 by have := Hs.out.ty; simp only [] at this; omega)
  have L3 := Lib.hid (show pay.length + 20 ≤ 140737488355328 by have := Hs.out.pay; simp only [] at this; omega)
  have L4 := Lib.hid (show sig.length + 20 ≤ 140737488355328 by have := Hs.out.sig; simp only [] at this; omega)
  have Hlen := Lib.hid (show [envKeyF ⟨has, kind, key, ty, pay, sig⟩, optF 2 ty, optF 3 pay, optF 5 sig].flatten.length ≤ 140737488355328 by
    have q1 := envKeyF_len (E := ⟨has, kind, key, ty, pay, sig⟩) Hs.out.key
    have q2 := optF_len (f := 2) (m := ty) Hs.out.ty
    have q3 := optF_len (f := 3) (m := pay) Hs.out.pay
    have q4 := optF_len (f := 5) (m := sig) Hs.out.sig
    simp
    omega)
  have ba := below_alloc w (.cells #[.bool has, .int .i32 kind, .slice A1 n1 c1, .slice A2 n2 c2, .slice A3 n3 c3, .slice A4 n4 c4] 64)
  have bk := Lib.hid (Blk.new w 64 #[.bool has, .int .i32 kind, .slice A1 n1 c1, .slice A2 n2 c2, .slice A3 n3 c3, .slice A4 n4 c4])
  have X1 := Lib.hid (h1.step ba)
  have X2 := Lib.hid (h2.step ba)
  have X3 := Lib.hid (h3.step ba)
  have X4 := Lib.hid (h4.step ba)
  have B0 := Lib.hid ba
  clear h1 h2 h3 h4 ba hs
  obtain ⟨g0, hg0⟩ : ∃ g0, g0 = w.heap.size := ⟨_, rfl⟩
  rw [← hg0] at bk
  have Hg0 := Lib.hid hg0
  generalize hw0 : w.alloc (.cells #[.bool has, .int .i32 kind, .slice A1 n1 c1, .slice A2 n2 c2, .slice A3 n3 c3, .slice A4 n4 c4] 64) = w0 at *
  have Hw0 := Lib.hid hw0
  clear hw0 hg0
  cases has with
  | false =>
    go_enter Tryd.func57, Tryd.ntmps57
    go_wp2_with fail
    rw [Hw0.out, ← Hg0.out]
    replace X1 := Lib.hid (show Bs w0 w0.heap.size (.slice none 0 0) (envKeyF ⟨false, kind, key, ty, pay, sig⟩) from Bs.nil0 _ _)
    have bkd := Lib.hid bk.out.drew
    go_region_held3 (fun W => W.cell? ⟨g0, 3, none⟩ = some (.slice A2 n2 c2) ∧ W.cell? ⟨g0, 4, none⟩ = some (.slice A3 n3 c3) ∧ W.cell? ⟨g0, 5, none⟩ = some (.slice A4 n4 c4)) (with_reducible first | exact sixHeld bkd.out | exact sixHeld bk5.out | exact sixHeld bk6.out | exact sixHeld bk7.out | exact sixHeld (bk7.out.alloc _) | exact sixHeld bk8.out) (first
      | (go_at_call 69; (with_reducible refine (wireOpt X2.out.drew1 2 2 rfl (by omega) L2.out).mono ?_); rintro e w5 ⟨x2, rfl, ho, hb⟩; replace hb := below_trans (below_drew w0) hb; have Y2 := Lib.hid ho.bs; obtain ⟨P2, q2, r2, rfl⟩ := hid_exists_bs Y2.out; have bk5 := Lib.hid (bk.out.step hb); have B5 := Lib.hid hb; have Y1 := Lib.hid (X1.out.step hb); clear ho hb)
      | (go_at_call 69; (with_reducible refine (wireOpt (X3.out.step B5.out) 3 3 rfl (by omega) L3.out).mono ?_); rintro e w6 ⟨x3, rfl, ho, hb⟩; have Y3 := Lib.hid ho.bs; obtain ⟨P3, q3, r3, rfl⟩ := hid_exists_bs Y3.out; have bk6 := Lib.hid (bk5.out.step hb); have B6 := Lib.hid (below_trans B5.out hb); replace Y1 := Lib.hid (Y1.out.step hb); replace Y2 := Lib.hid (Y2.out.step hb); clear ho hb)
      | (go_at_call 69; (with_reducible refine (wireOpt (X4.out.step B6.out) 5 5 rfl (by omega) L4.out).mono ?_); rintro e w7 ⟨x4, rfl, ho, hb⟩; have Y4 := Lib.hid ho.bs; obtain ⟨P4, q4, r4, rfl⟩ := hid_exists_bs Y4.out; have bk7 := Lib.hid (bk6.out.step hb); have B7 := Lib.hid (below_trans B6.out hb); replace Y1 := Lib.hid (Y1.out.step hb); replace Y2 := Lib.hid (Y2.out.step hb); replace Y3 := Lib.hid (Y3.out.step hb); have hbb := Lib.hid (below_alloc w7 (.cells #[.slice none 0 0, .slice P2 q2 r2, .slice P3 q3 r3, .slice P4 q4 r4] 23)); clear ho hb)
      | (go_at_call 32; (with_reducible refine (concat (Bss.lit w7 23 [.slice none 0 0, .slice P2 q2 r2, .slice P3 q3 r3, .slice P4 q4 r4] [envKeyF ⟨false, kind, key, ty, pay, sig⟩, optF 2 ty, optF 3 pay, optF 5 sig] (allBs4 Y1.out Y2.out Y3.out Y4.out) (by simp) _ 4 4 rfl rfl rfl) Hlen.out).mono ?_); rintro e w8 ⟨x5, rfl, ho, hb⟩; replace hb := below_trans hbb.out hb; have Ho := Lib.hid ho; have bk8 := Lib.hid (bk7.out.step hb); have B8 := Lib.hid (below_trans B7.out hb); clear ho hb))
    go_wp2
    go_ret
    have hs1 := B0.out.size
    have hs2 := B7.out.size
    have Hz := Ho.out.more (base' := w.heap.size) (by simp; omega)
    rw [show [envKeyF ⟨false, kind, key, ty, pay, sig⟩, optF 2 ty, optF 3 pay, optF 5 sig].flatten = envEnc ⟨false, kind, key, ty, pay, sig⟩ by simp [envEnc]] at Hz
    exact ⟨_, rfl, Hz, below_trans B0.out B8.out⟩
  | true =>
    have kk := Hs.out
    have k1 := kk.k1
    have k2 := kk.k2
    simp only [] at k1 k2
    clear kk
    go_enter Tryd.func57, Tryd.ntmps57
    go_wp2_with fail
    rw [Hw0.out, ← Hg0.out]
    refine (specKeyBytes X1.out k1 k2 L1.out).mono ?_
    rintro e w1 ⟨z1, rfl, ho, hb, ⟨P1, p1, r1, rfl⟩⟩
    have Z1 := Lib.hid ho.bs
    replace bk := Lib.hid (bk.out.step hb)
    replace X2 := Lib.hid (X2.out.step hb)
    replace X3 := Lib.hid (X3.out.step hb)
    replace X4 := Lib.hid (X4.out.step hb)
    replace B0 := Lib.hid (below_trans B0.out hb)
    clear ho hb
    go_wp2_with fail
    refine (wireBytes Z1.out 1 (by omega) true (.inl rfl) (by have := (keyEnc_length kind key (by have := L1.out; omega)).1; have := L1.out; omega)).mono ?_
    rintro e w2 ⟨vo, rfl, ho, hb, hnn⟩
    have X1' := Lib.hid (show Bs w2 w2.heap.size vo (envKeyF ⟨true, kind, key, ty, pay, sig⟩) from ho.bs)
    clear X1 Z1
    have X1 := X1'
    clear X1'
    replace bk := Lib.hid (bk.out.step hb)
    replace X2 := Lib.hid (X2.out.step hb)
    replace X3 := Lib.hid (X3.out.step hb)
    replace X4 := Lib.hid (X4.out.step hb)
    replace B0 := Lib.hid (below_trans B0.out hb)
    obtain ⟨Po, po, ro, rfl⟩ := hnn
    clear ho hb
    go_wp2_with fail
    have bkd := Lib.hid bk.out.drew
    go_region_held3 (fun W => W.cell? ⟨g0, 3, none⟩ = some (.slice A2 n2 c2) ∧ W.cell? ⟨g0, 4, none⟩ = some (.slice A3 n3 c3) ∧ W.cell? ⟨g0, 5, none⟩ = some (.slice A4 n4 c4)) (with_reducible first | exact sixHeld bkd.out | exact sixHeld bk5.out | exact sixHeld bk6.out | exact sixHeld bk7.out | exact sixHeld (bk7.out.alloc _) | exact sixHeld bk8.out) (first
      | (go_at_call 69; (with_reducible refine (wireOpt X2.out.drew1 2 2 rfl (by omega) L2.out).mono ?_); rintro e w5 ⟨x2, rfl, ho, hb⟩; replace hb := below_trans (below_drew w2) hb; have Y2 := Lib.hid ho.bs; obtain ⟨P2, q2, r2, rfl⟩ := hid_exists_bs Y2.out; have bk5 := Lib.hid (bk.out.step hb); have B5 := Lib.hid hb; have Y1 := Lib.hid (X1.out.step hb); clear ho hb)
      | (go_at_call 69; (with_reducible refine (wireOpt (X3.out.step B5.out) 3 3 rfl (by omega) L3.out).mono ?_); rintro e w6 ⟨x3, rfl, ho, hb⟩; have Y3 := Lib.hid ho.bs; obtain ⟨P3, q3, r3, rfl⟩ := hid_exists_bs Y3.out; have bk6 := Lib.hid (bk5.out.step hb); have B6 := Lib.hid (below_trans B5.out hb); replace Y1 := Lib.hid (Y1.out.step hb); replace Y2 := Lib.hid (Y2.out.step hb); clear ho hb)
      | (go_at_call 69; (with_reducible refine (wireOpt (X4.out.step B6.out) 5 5 rfl (by omega) L4.out).mono ?_); rintro e w7 ⟨x4, rfl, ho, hb⟩; have Y4 := Lib.hid ho.bs; obtain ⟨P4, q4, r4, rfl⟩ := hid_exists_bs Y4.out; have bk7 := Lib.hid (bk6.out.step hb); have B7 := Lib.hid (below_trans B6.out hb); replace Y1 := Lib.hid (Y1.out.step hb); replace Y2 := Lib.hid (Y2.out.step hb); replace Y3 := Lib.hid (Y3.out.step hb); have hbb := Lib.hid (below_alloc w7 (.cells #[.slice (some Po) po ro, .slice P2 q2 r2, .slice P3 q3 r3, .slice P4 q4 r4] 23)); clear ho hb)
      | (go_at_call 32; (with_reducible refine (concat (Bss.lit w7 23 [.slice (some Po) po ro, .slice P2 q2 r2, .slice P3 q3 r3, .slice P4 q4 r4] [envKeyF ⟨true, kind, key, ty, pay, sig⟩, optF 2 ty, optF 3 pay, optF 5 sig] (allBs4 Y1.out Y2.out Y3.out Y4.out) (by simp) _ 4 4 rfl rfl rfl) Hlen.out).mono ?_); rintro e w8 ⟨x5, rfl, ho, hb⟩; replace hb := below_trans hbb.out hb; have Ho := Lib.hid ho; have bk8 := Lib.hid (bk7.out.step hb); have B8 := Lib.hid (below_trans B7.out hb); clear ho hb))
    go_wp2
    go_ret
    have hs1 := B0.out.size
    have hs2 := B7.out.size
    have Hz := Ho.out.more (base' := w.heap.size) (by simp; omega)
    rw [show [envKeyF ⟨true, kind, key, ty, pay, sig⟩, optF 2 ty, optF 3 pay, optF 5 sig].flatten = envEnc ⟨true, kind, key, ty, pay, sig⟩ by simp [envEnc]] at Hz
    exact ⟨_, rfl, Hz, below_trans B0.out B8.out⟩

end
end Go.Proofs.YtcefcdmonfenoaaDoor

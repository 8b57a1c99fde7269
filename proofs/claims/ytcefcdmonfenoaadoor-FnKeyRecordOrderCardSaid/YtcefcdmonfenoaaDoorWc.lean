/- The readers of protowire: consumeFieldValueD and ConsumeFieldValue: a field's value that is passed over, groups and all. -/
import Derived.Test.YtcefcdmonfenoaaDoorWb
namespace Go.Proofs.YtcefcdmonfenoaaDoor
open Go.RowKit
set_option maxRecDepth 100000

/-- how long a slice is, read off its value -/
def lenOf : Value → Nat | .slice _ n _ => n | _ => 0

def numAns (n : Int) (e : Ending) : Prop := e = .returned (.int .i64 n)
theorem numAns_of {n k : Int} (h : n = k) : numAns n (.returned (.int .i64 k)) := by rw [h]; rfl

theorem i8_ne {a b : Int} (h : a ≠ b) : (a == b) = false := by simpa using h
theorem i8_eq {a b : Int} (h : a = b) : (a == b) = true := by simpa using h

section
variable {w : World} {B : Nat} {v : Value} {l : List UInt8}

theorem cfvD_0 (h : Bs w B v l) (num dep : Int) : Calls Tryd.prog 109 #[.int .i32 num, .int .i8 0, v, .int .i64 dep] w fun e w' => numAns (Wire.cvar l).2 e ∧ w = w' := by
  rcases hr : Wire.cvar l with ⟨x, n⟩
  have Hr := Lib.hid hr
  clear hr
  go_enter Tryd.func109, Tryd.ntmps109
  go_wp2_with (go_at_call 98; refine (consumeVarint' h Hr.out).mono ?_; rintro e w' ⟨rfl, rfl⟩)
  go_ret
  exact ⟨rfl, rfl⟩

theorem cfvD_5s (h : Bs w B v l) (num dep : Int) (hl : l.length < 4) : Calls Tryd.prog 109 #[.int .i32 num, .int .i8 5, v, .int .i64 dep] w fun e w' => numAns (-1) e ∧ w = w' := by
  go_enter Tryd.func109, Tryd.ntmps109
  go_wp2_with (go_at_call 113; refine (consumeFixed32_short h hl).mono ?_; rintro e w' ⟨rfl, rfl⟩)
  go_ret
  exact ⟨rfl, rfl⟩

theorem cfvD_5 (h : Bs w B v l) (num dep : Int) (hl : 4 ≤ l.length) : Calls Tryd.prog 109 #[.int .i32 num, .int .i8 5, v, .int .i64 dep] w fun e w' => numAns 4 e ∧ ∃ n, w' = w.drewN n := by
  go_enter Tryd.func109, Tryd.ntmps109
  go_wp2_with (go_at_call 113; refine (consumeFixed32_ok h hl).mono ?_; rintro e w' ⟨⟨x, rfl⟩, n, rfl⟩)
  go_ret
  exact ⟨rfl, _, rfl⟩

theorem cfvD_1s (h : Bs w B v l) (num dep : Int) (hl : l.length < 8) : Calls Tryd.prog 109 #[.int .i32 num, .int .i8 1, v, .int .i64 dep] w fun e w' => numAns (-1) e ∧ w = w' := by
  go_enter Tryd.func109, Tryd.ntmps109
  go_wp2_with (go_at_call 114; refine (consumeFixed64_short h hl).mono ?_; rintro e w' ⟨rfl, rfl⟩)
  go_ret
  exact ⟨rfl, rfl⟩

theorem cfvD_1 (h : Bs w B v l) (num dep : Int) (hl : 8 ≤ l.length) : Calls Tryd.prog 109 #[.int .i32 num, .int .i8 1, v, .int .i64 dep] w fun e w' => numAns 8 e ∧ ∃ n, w' = w.drewN n := by
  go_enter Tryd.func109, Tryd.ntmps109
  go_wp2_with (go_at_call 114; refine (consumeFixed64_ok h hl).mono ?_; rintro e w' ⟨⟨x, rfl⟩, n, rfl⟩)
  go_ret
  exact ⟨rfl, _, rfl⟩

theorem cfvD_2 (h : Bs w B v l) (num dep : Int) : Calls Tryd.prog 109 #[.int .i32 num, .int .i8 2, v, .int .i64 dep] w fun e w' => numAns (Wire.cbytes l).2 e ∧ w = w' := by
  rcases hr : Wire.cbytes l with ⟨m, n⟩
  have Hr := Lib.hid hr
  clear hr
  go_enter Tryd.func109, Tryd.ntmps109
  go_wp2_with (go_at_call 97; refine (consumeBytes h Hr.out).mono ?_; rintro e w' ⟨⟨v', rfl, _⟩, rfl⟩)
  go_ret
  exact ⟨rfl, rfl⟩

theorem cfvD_4 (num dep : Int) : Calls Tryd.prog 109 #[.int .i32 num, .int .i8 4, v, .int .i64 dep] w fun e w' => numAns (-5) e ∧ w = w' := by
  go_enter Tryd.func109, Tryd.ntmps109
  go_wp2
  go_ret
  exact ⟨rfl, rfl⟩

theorem cfvD_else (num typ dep : Int) (h5 : 5 < typ) : Calls Tryd.prog 109 #[.int .i32 num, .int .i8 typ, v, .int .i64 dep] w fun e w' => numAns (-4) e ∧ w = w' := by
  have e0 := i8_ne (a := typ) (b := 0) (by omega)
  have e1 := i8_ne (a := typ) (b := 1) (by omega)
  have e2 := i8_ne (a := typ) (b := 2) (by omega)
  have e3 := i8_ne (a := typ) (b := 3) (by omega)
  have e4 := i8_ne (a := typ) (b := 4) (by omega)
  have e5 := i8_ne (a := typ) (b := 5) (by omega)
  go_enter Tryd.func109, Tryd.ntmps109
  go_wp2
  go_ret
  exact ⟨rfl, rfl⟩

theorem cfvD_3z (num dep : Int) (hd : dep < 0) : Calls Tryd.prog 109 #[.int .i32 num, .int .i8 3, v, .int .i64 dep] w fun e w' => numAns (-6) e ∧ w = w' := by
  go_enter Tryd.func109, Tryd.ntmps109
  go_wp2
  go_ret
  exact ⟨rfl, rfl⟩

/-- the group's loop, the calls of itself by a contract -/
theorem cfvD_3 {inner : Int → Int → List UInt8 → Int} (h : Bs w B v l) (num dep : Int) (hd : 0 ≤ dep) (hdep : dep ≤ 20000)
    (hin : ∀ (a b : Int) (v : Value) (l : List UInt8) (W : World), Bs W B v l → 0 ≤ b → b ≤ 7 → Calls Tryd.prog 109 #[.int .i32 a, .int .i8 b, v, .int .i64 (dep - 1)] W fun e w' => numAns (inner a b l) e ∧ ∃ n, w' = W.drewN n)
    (hbd : ∀ a b l, (inner a b l < 0 ∧ -6 ≤ inner a b l) ∨ (0 ≤ inner a b l ∧ inner a b l ≤ l.length)) :
    Calls Tryd.prog 109 #[.int .i32 num, .int .i8 3, v, .int .i64 dep] w fun e w' => numAns (Wire.grp inner l.length num (l.length + 1) l) e ∧ ∃ n, w' = w.drewN n := by
  obtain ⟨A, c, rfl, hlc, hc63⟩ := h.form
  have H := Lib.hid h
  have Hin := Lib.hid hin
  have Hbd := Lib.hid hbd
  clear h hin hbd
  generalize hG : Wire.grp inner l.length num (l.length + 1) l = G at *
  have HG := Lib.hid hG
  clear hG
  have hll := H.out.len_le
  generalize hN : l.length = N at *
  have HN := Lib.hid hN
  clear hN
  go_enter Tryd.func109, Tryd.ntmps109
  go_wp2
  go_loopw [2] (fun b wr => ∃ (l' : List UInt8) (A' : Option Addr) (N' c' f k : Nat), b = .slice A' N' c' ∧ wr = w.drewN k ∧ Hid (Bs w B (.slice A' N' c') l') ∧ Hid (l'.length = N') ∧ N' ≤ N ∧ N' < f ∧ Hid (Wire.grp inner N num f l' = G)) (fun b _ => lenOf b)
  case atStart => exact ⟨l, A, N, c, N + 1, 0, rfl, rfl, H, HN, Nat.le_refl _, by omega, by have := HG.out; exact this⟩
  case round =>
    obtain ⟨l', A', N', c', f, k, rfl, rfl, H', HN', hN'N, hf, HG'⟩ := hrel
    obtain ⟨f, rfl⟩ : ∃ f', f = f' + 1 := ⟨f - 1, by omega⟩
    rcases hct : Wire.ctag l' with ⟨a, b, cn⟩
    have hbc := Wire.ctag_facts hct
    rw [HN'.out] at hbc
    have Hct := Lib.hid hct
    clear hct
    obtain ⟨A1, c1, he, hlc', hc63'⟩ := H'.out.form
    rw [HN'.out] at he hlc'
    injection he with e1 e2 e3
    subst e1 e3
    clear e2
    by_cases hn : cn < 0
    · go_wp2_with (go_at_call 95; refine (consumeTag (H'.out.drewN k) Hct.out).mono ?_; rintro e w' ⟨rfl, rfl⟩)
      go_ret
      exact ⟨numAns_of (Wire.grp_neg Hct.out hn HG'.out), _, rfl⟩
    · obtain ⟨n, rfl⟩ := Int.eq_ofNat_of_zero_le (show 0 ≤ cn by omega)
      have hnN : n ≤ N' := by omega
      have hn0 : 0 < n := by omega
      obtain ⟨ha1, ha2, hb0, hb7⟩ : 1 ≤ a ∧ a ≤ 2147483647 ∧ 0 ≤ b ∧ b ≤ 7 := by omega
      clear hbc
      obtain ⟨A2, hsl, hcut⟩ := slice_from H'.out hnN
      have Hcut := Lib.hid hcut
      clear hcut
      by_cases hb4 : b = 4
      · subst hb4
        by_cases hna : num = a
        · subst hna
          go_wp2_with (go_at_call 95; refine (consumeTag (H'.out.drewN k) Hct.out).mono ?_; rintro e w' ⟨rfl, rfl⟩)
          go_ret
          exact ⟨numAns_of (by rw [Wire.grp_end Hct.out rfl rfl HG'.out, HN'.out]), _, rfl⟩
        · have hna' : (num != a) = true := by simpa using hna
          go_wp2_with (go_at_call 95; refine (consumeTag (H'.out.drewN k) Hct.out).mono ?_; rintro e w' ⟨rfl, rfl⟩)
          go_ret
          exact ⟨numAns_of (Wire.grp_other Hct.out rfl hna HG'.out), _, rfl⟩
      · have hb4' := i8_ne hb4
        have hbm := Hbd.out a b (l'.drop n)
        rw [List.length_drop, HN'.out] at hbm
        generalize hm : inner a b (l'.drop n) = m at *
        have Hm := Lib.hid hm
        clear hm
        have Hin' : ∀ W : World, Bs W B (.slice A2 (N' - n) (c' - n)) (l'.drop n) → Calls Tryd.prog 109 #[.int .i32 a, .int .i8 b, .slice A2 (N' - n) (c' - n), .int .i64 (dep - 1)] W fun e w' => e = .returned (.int .i64 m) ∧ ∃ n, w' = W.drewN n := by
          intro W hW
          have := Hin.out a b _ _ W hW hb0 hb7
          rw [Hm.out] at this
          exact this
        by_cases hm0 : m < 0
        · go_wp2_with (first | (go_at_call 95; refine (consumeTag (H'.out.drewN k) Hct.out).mono ?_; rintro e w' ⟨rfl, rfl⟩) | (go_at_call 109; refine (Hin' _ (Hcut.out.drewN k)).mono ?_; rintro e w' ⟨rfl, n', rfl⟩))
          go_ret
          exact ⟨numAns_of (Wire.grp_bad Hct.out hb4 Hm.out hm0 HG'.out), _, rfl⟩
        · obtain ⟨m, rfl⟩ := Int.eq_ofNat_of_zero_le (show 0 ≤ m by omega)
          have hmN : m ≤ N' - n := by omega
          clear hbm
          obtain ⟨A3, hsl2, hcut2⟩ := slice_from Hcut.out hmN
          have Hcut2 := Lib.hid hcut2
          clear hcut2
          go_wp2_with (first | (go_at_call 95; refine (consumeTag (H'.out.drewN k) Hct.out).mono ?_; rintro e w' ⟨rfl, rfl⟩) | (go_at_call 109; refine (Hin' _ (Hcut.out.drewN k)).mono ?_; rintro e w' ⟨rfl, n', rfl⟩))
          go_roundw
          case rel => exact ⟨(l'.drop n).drop m, A3, _, _, f, _, rfl, rfl, Hcut2, by show _ = _; rw [List.length_drop, List.length_drop, HN'.out], by omega, by omega, Wire.grp_more Hct.out hb4 Hm.out HG'.out⟩
          case measure => simp [lenOf]; omega

theorem same_drewN {P : Program} {f : FuncId} {args : Array Value} {w : World} {E : Ending → Prop} (h : Calls P f args w fun e w' => E e ∧ w = w') : Calls P f args w fun e w' => E e ∧ ∃ n, w' = w.drewN n :=
  h.mono fun _ _ ⟨he, hw⟩ => ⟨he, 0, by rw [World.drewN_zero]; exact hw.symm⟩

theorem cfv_base (g : Int) (h : Bs w B v l) (num typ dep : Int) (h0 : 0 ≤ typ) (h7 : typ ≤ 7)
    (h3 : typ = 3 → Calls Tryd.prog 109 #[.int .i32 num, .int .i8 3, v, .int .i64 dep] w fun e w' => numAns g e ∧ ∃ n, w' = w.drewN n) :
    Calls Tryd.prog 109 #[.int .i32 num, .int .i8 typ, v, .int .i64 dep] w fun e w' => numAns (Wire.cfvB g typ l) e ∧ ∃ n, w' = w.drewN n := by
  have hc : typ = 0 ∨ typ = 1 ∨ typ = 2 ∨ typ = 3 ∨ typ = 4 ∨ typ = 5 ∨ 5 < typ := by omega
  rcases hc with rfl | rfl | rfl | rfl | rfl | rfl | h5
  · exact same_drewN (cfvD_0 h num dep)
  · by_cases h8 : l.length < 8
    · have := same_drewN (cfvD_1s h num dep h8)
      simpa [Wire.cfvB, h8] using this
    · have := cfvD_1 h num dep (by omega)
      simpa [Wire.cfvB, h8] using this
  · exact same_drewN (cfvD_2 h num dep)
  · exact h3 rfl
  · exact same_drewN (cfvD_4 num dep)
  · by_cases h4 : l.length < 4
    · have := same_drewN (cfvD_5s h num dep h4)
      simpa [Wire.cfvB, h4] using this
    · have := cfvD_5 h num dep (by omega)
      simpa [Wire.cfvB, h4] using this
  · have := same_drewN (cfvD_else (v := v) (w := w) num typ dep h5)
    have e : Wire.cfvB g typ l = -4 := by
      unfold Wire.cfvB
      rw [if_neg (by omega), if_neg (by omega), if_neg (by omega), if_neg (by omega), if_neg (by omega), if_neg (by omega)]
    rw [e]
    exact this

theorem cfvD (d : Nat) : d ≤ 10001 → ∀ (num typ : Int) (v : Value) (l : List UInt8) (W : World), Bs W B v l → 0 ≤ typ → typ ≤ 7 →
    Calls Tryd.prog 109 #[.int .i32 num, .int .i8 typ, v, .int .i64 ((d : Int) - 1)] W fun e w' => numAns (Wire.cfv d num typ l) e ∧ ∃ n, w' = W.drewN n := by
  induction d with
  | zero =>
    intro _ num typ v l W h h0 h7
    exact cfv_base (-6) h num typ _ h0 h7 fun _ => same_drewN (cfvD_3z num _ (by omega))
  | succ d ih =>
    intro hd num typ v l W h h0 h7
    refine cfv_base _ h num typ _ h0 h7 fun _ => ?_
    have e : ((d + 1 : Nat) : Int) - 1 = (d : Int) := by omega
    rw [e]
    exact cfvD_3 h num d (by omega) (by omega) (fun a b v l W hW hb hb7 => ih (by omega) a b v l W hW hb hb7) (Wire.cfv_bounds d)

/-- ConsumeFieldValue -/
def fval (num typ : Int) (l : List UInt8) : Int := Wire.cfv 10001 num typ l
theorem fval_bounds (num typ : Int) (l : List UInt8) : (fval num typ l < 0 ∧ -6 ≤ fval num typ l) ∨ (0 ≤ fval num typ l ∧ fval num typ l ≤ l.length) := Wire.cfv_bounds 10001 num typ l

theorem consumeFieldValue (h : Bs w B v l) {num typ n : Int} (h0 : 0 ≤ typ) (h7 : typ ≤ 7) (hr : fval num typ l = n) :
    Calls Tryd.prog 100 #[.int .i32 num, .int .i8 typ, v] w fun e w' => e = .returned (.int .i64 n) ∧ ∃ n, w' = w.drewN n := by
  have hc := cfvD (B := B) 10001 (by omega) num typ v l w h h0 h7
  rw [show ((10001 : Nat) : Int) - 1 = 10000 from rfl] at hc
  have hc' : Calls Tryd.prog 109 #[.int .i32 num, .int .i8 typ, v, .int .i64 10000] w fun e w' => e = .returned (.int .i64 n) ∧ ∃ n, w' = w.drewN n :=
    hc.mono fun e w' ⟨he, hw⟩ => ⟨by rw [← hr]; exact he, hw⟩
  have Hc := Lib.hid hc'
  clear hc hc' hr
  go_enter Tryd.func100, Tryd.ntmps100
  go_wp2_with (go_at_call 109; refine (Hc.out).mono ?_; rintro e w' ⟨rfl, n', rfl⟩)
  go_ret
  exact ⟨rfl, _, rfl⟩
end
end Go.Proofs.YtcefcdmonfenoaaDoor

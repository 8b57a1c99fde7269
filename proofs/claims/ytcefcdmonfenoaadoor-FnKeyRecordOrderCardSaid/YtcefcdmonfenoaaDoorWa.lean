/- The readers of protowire: DecodeTag, ConsumeTag, ConsumeBytes, ConsumeFixed32, ConsumeFixed64: what they return. -/
import Derived.Test.YtcefcdmonfenoaaDoorCvC
import Derived.Test.YtcefcdmonfenoaaDoorWireB
namespace Go.Proofs.YtcefcdmonfenoaaDoor
open Go.RowKit
set_option maxRecDepth 100000

theorem u64_and7 (x : Nat) (hx : x < 18446744073709551616) : bits .and .u64 (x : Int) 7 = ((x % 8 : Nat) : Int) := by
  have h := u64_and_nat x 7 hx (by omega)
  have h2 : x &&& 7 = x % 8 := Nat.and_two_pow_sub_one_eq_mod x 3
  rw [h2] at h
  exact h

theorem decodeTag_far (x : Nat) (w : World) (h : 2147483647 < x / 8) :
    Calls Tryd.prog 108 #[.int .u64 (x : Int)] w fun e w' => e = .returned (.tuple #[.int .i32 (-1), .int .i8 0]) ∧ w = w' := by
  go_enter Tryd.func108, Tryd.ntmps108
  go_wp2
  go_ret2
  exact ⟨rfl, rfl⟩

theorem decodeTag_near (x : Nat) (w : World) (hx : x < 18446744073709551616) (h : x / 8 ≤ 2147483647) :
    Calls Tryd.prog 108 #[.int .u64 (x : Int)] w fun e w' => e = .returned (.tuple #[.int .i32 ((x / 8 : Nat) : Int), .int .i8 ((x % 8 : Nat) : Int)]) ∧ w = w' := by
  have h7 := u64_and7 x hx
  go_enter Tryd.func108, Tryd.ntmps108
  go_wp2
  go_ret2
  exact ⟨rfl, rfl⟩

theorem consumeVarint' {w : World} {B : Nat} {v : Value} {l : List UInt8} (h : Bs w B v l) {x : Nat} {n : Int} (hr : Wire.cvar l = (x, n)) :
    Calls Tryd.prog 98 #[v] w fun e w' => e = .returned (.tuple #[.int .u64 x, .int .i64 n]) ∧ w = w' := by
  have := consumeVarint h
  rw [hr] at this
  exact this
theorem cvar_facts {l : List UInt8} {x : Nat} {n : Int} (hr : Wire.cvar l = (x, n)) : x < 18446744073709551616 ∧ (n < 0 → x = 0) ∧ (0 ≤ n → 0 < n ∧ n ≤ l.length ∧ n ≤ 10) ∧ -3 ≤ n := by
  have h1 := Wire.cvar_lt l
  have h2 := Wire.cvar_bounds l
  rw [hr] at h1 h2
  simp only [] at h1 h2
  omega

/-- what ConsumeTag returns, behind a name -/
def tagAns (a b c : Int) (e : Ending) : Prop := e = .returned (.tuple #[.int .i32 a, .int .i8 b, .int .i64 c])
theorem tagAns_of {a b c x y z : Int} {t : Int × Int × Int} (h0 : t = (a, b, c)) (h : t = (x, y, z)) : tagAns a b c (.returned (.tuple #[.int .i32 x, .int .i8 y, .int .i64 z])) := by
  rw [h0] at h; injection h with h1 h2; injection h2 with h2 h3; subst h1 h2 h3; rfl

theorem consumeTag {w : World} {B : Nat} {v : Value} {l : List UInt8} (h : Bs w B v l) {a b c : Int} (hct : Wire.ctag l = (a, b, c)) :
    Calls Tryd.prog 95 #[v] w fun e w' => e = .returned (.tuple #[.int .i32 a, .int .i8 b, .int .i64 c]) ∧ w = w' := by
  have key : Calls Tryd.prog 95 #[v] w fun e w' => tagAns a b c e ∧ w = w' := by
    have Hct := Lib.hid hct
    clear hct
    rcases hr : Wire.cvar l with ⟨x, n⟩
    obtain ⟨hx, _, hb, _⟩ := cvar_facts hr
    have Hr := Lib.hid hr
    clear hr
    by_cases hn : n < 0
    · go_enter Tryd.func95, Tryd.ntmps95
      go_wp2_with (go_at_call 98; refine (consumeVarint' h Hr.out).mono ?_; rintro e w' ⟨rfl, rfl⟩)
      go_ret3
      exact ⟨tagAns_of Hct.out (Wire.ctag_neg Hr.out hn), rfl⟩
    · by_cases hfar : 2147483647 < x / 8
      · go_enter Tryd.func95, Tryd.ntmps95
        go_wp2_with (first | (go_at_call 98; refine (consumeVarint' h Hr.out).mono ?_; rintro e w' ⟨rfl, rfl⟩) | (go_at_call 108; refine (decodeTag_far _ _ hfar).mono ?_; rintro e w' ⟨rfl, rfl⟩))
        go_ret3
        exact ⟨tagAns_of Hct.out (Wire.ctag_bad Hr.out (by omega) (.inl hfar)), rfl⟩
      · have hnear : x / 8 ≤ 2147483647 := by omega
        by_cases h1 : x / 8 < 1
        · go_enter Tryd.func95, Tryd.ntmps95
          go_wp2_with (first | (go_at_call 98; refine (consumeVarint' h Hr.out).mono ?_; rintro e w' ⟨rfl, rfl⟩) | (go_at_call 108; refine (decodeTag_near _ _ (by assumption) hnear).mono ?_; rintro e w' ⟨rfl, rfl⟩))
          go_ret3
          exact ⟨tagAns_of Hct.out (Wire.ctag_bad Hr.out (by omega) (.inr h1)), rfl⟩
        · go_enter Tryd.func95, Tryd.ntmps95
          go_wp2_with (first | (go_at_call 98; refine (consumeVarint' h Hr.out).mono ?_; rintro e w' ⟨rfl, rfl⟩) | (go_at_call 108; refine (decodeTag_near _ _ (by assumption) hnear).mono ?_; rintro e w' ⟨rfl, rfl⟩))
          go_ret3
          exact ⟨tagAns_of Hct.out (Wire.ctag_ok Hr.out (by omega) hfar h1), rfl⟩
  exact key.mono fun e w' ⟨he, hw⟩ => ⟨he, hw⟩

/-- what ConsumeBytes returns: a part of the bytes that came in, or nil and a code -/
def bytesAns (w : World) (B : Nat) (m : List UInt8) (n : Int) (e : Ending) : Prop := ∃ v', e = .returned (.tuple #[v', .int .i64 n]) ∧ Bs w B v' m
theorem bytesAns_of {w : World} {B : Nat} {m m' : List UInt8} {n k : Int} {t : List UInt8 × Int} {v' : Value} (h0 : t = (m, n)) (h : t = (m', k)) (hb : Bs w B v' m') : bytesAns w B m n (.returned (.tuple #[v', .int .i64 k])) := by
  rw [h0] at h; injection h with h1 h2; subst h1 h2; exact ⟨v', rfl, hb⟩

theorem consumeBytes {w : World} {B : Nat} {v : Value} {l : List UInt8} (h : Bs w B v l) {m : List UInt8} {k : Int} (hct : Wire.cbytes l = (m, k)) :
    Calls Tryd.prog 97 #[v] w fun e w' => bytesAns w B m k e ∧ w = w' := by
  have Hct := Lib.hid hct
  clear hct
  rcases hr : Wire.cvar l with ⟨x, n⟩
  obtain ⟨hx, _, hb, _⟩ := cvar_facts hr
  have Hr := Lib.hid hr
  clear hr
  obtain ⟨A, c, rfl, hlc, hc63⟩ := h.form
  have H := Lib.hid h
  clear h
  have hll := H.out.len_le
  generalize hN : l.length = N at *
  have HN := Lib.hid hN
  clear hN
  by_cases hn : n < 0
  · go_enter Tryd.func97, Tryd.ntmps97
    go_wp2_with (go_at_call 98; refine (consumeVarint' H.out Hr.out).mono ?_; rintro e w' ⟨rfl, rfl⟩)
    go_ret2
    exact ⟨bytesAns_of Hct.out (Wire.cbytes_neg Hr.out hn) (Bs.nil0 _ _), rfl⟩
  · obtain ⟨n, rfl⟩ := Int.eq_ofNat_of_zero_le (show 0 ≤ n by omega)
    have hnN : n ≤ N := by omega
    obtain ⟨A', hsl, hcut⟩ := slice_from H.out hnN
    have Hcut := Lib.hid hcut
    clear hcut hb
    by_cases hfar : N - n < x
    · go_enter Tryd.func97, Tryd.ntmps97
      go_wp2_with (go_at_call 98; refine (consumeVarint' H.out Hr.out).mono ?_; rintro e w' ⟨rfl, rfl⟩)
      go_ret2
      exact ⟨bytesAns_of Hct.out (Wire.cbytes_bad Hr.out (by rw [HN.out]; exact hfar)) (Bs.nil0 _ _), rfl⟩
    · go_enter Tryd.func97, Tryd.ntmps97
      go_wp2_with (go_at_call 98; refine (consumeVarint' H.out Hr.out).mono ?_; rintro e w' ⟨rfl, rfl⟩)
      go_ret2
      exact ⟨bytesAns_of Hct.out (Wire.cbytes_ok Hr.out (by rw [HN.out]; exact hfar)) (Hcut.out.front (by rw [List.length_drop, HN.out]; omega)), rfl⟩
end Go.Proofs.YtcefcdmonfenoaaDoor

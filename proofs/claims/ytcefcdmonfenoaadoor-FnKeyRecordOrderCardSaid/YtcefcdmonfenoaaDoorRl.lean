/- The statements' helpers on records: sizes and equality. -/
import Derived.Test.YtcefcdmonfenoaaDoorRo
import Derived.Test.YtcefcdmonfenoaaDoorWKeyTorn
namespace Go.Proofs.YtcefcdmonfenoaaDoor
open Go.RowKit
set_option maxRecDepth 100000
attribute [local go_sem ↓] Go.wp_at_zero Go.wp_at_succ

/-- a bool that tells whether P -/
def BoolIff (P : Prop) (e : Ending) : Prop := ∃ b : Bool, e = .returned (.bool b) ∧ (b = true ↔ P)
theorem BoolIff.yes {P : Prop} {e : Ending} (h : BoolIff P e) (hp : P) : e = .returned (.bool true) := by
  obtain ⟨b, rfl, hb⟩ := h
  rw [hb.2 hp]
theorem BoolIff.no {P : Prop} {e : Ending} (h : BoolIff P e) (hp : ¬ P) : e = .returned (.bool false) := by
  obtain ⟨b, rfl, hb⟩ := h
  cases b with
  | false => rfl
  | true => exact absurd (hb.1 rfl) hp
theorem BoolIff.t {P : Prop} (hp : P) : BoolIff P (.returned (.bool true)) := ⟨true, rfl, fun _ => hp, fun _ => rfl⟩
theorem BoolIff.f {P : Prop} (hp : ¬ P) : BoolIff P (.returned (.bool false)) := ⟨false, rfl, fun h => by simp at h, fun h => absurd h hp⟩

def AllLe (n : Nat) (L : List (List UInt8)) : Prop := ∀ a ∈ L, a.length ≤ n
theorem allLe_take {n : Nat} {L : List (List UInt8)} {k : Nat} (h : AllLe n (L.take k)) (hk : k < L.length) (ha : L[k].length ≤ n) : AllLe n (L.take (k + 1)) := by
  intro a hm
  rw [List.take_succ_eq_append_getElem hk, List.mem_append] at hm
  rcases hm with hm | hm
  · exact h a hm
  · obtain rfl : a = L[k] := by simpa using hm
    exact ha
theorem allLe_not {n : Nat} {L : List (List UInt8)} {k : Nat} (hk : k < L.length) (ha : ¬ L[k].length ≤ n) : ¬ AllLe n L := fun h => ha (h _ (List.getElem_mem hk))

section
variable {w : World} {v x : Value} {L M : List (List UInt8)} {R S : RV}
theorem Bss.at' {B : Nat} {A : Option Addr} {n c k : Nat} (h : Bss w B (.slice A n c) L) (hk : k < L.length) : ∃ g o A' n' c', A = some ⟨g, o, none⟩ ∧ w.cell? ⟨g, o + k, none⟩ = some (.slice A' n' c') ∧ Bs w B (.slice A' n' c') L[k] := by
  obtain ⟨g, o, u, h1, _, h2, h3⟩ := h.at_ hk
  obtain ⟨A', n', c', rfl⟩ := hid_exists_bs h3
  exact ⟨g, o, A', n', c', h1, h2, h3⟩
theorem Bss.form' {B : Nat} (h : Bss w B v L) : ∃ A n c, v = .slice A n c ∧ Hid (n = L.length) ∧ n ≤ c ∧ c ≤ 9223372036854775807 := by
  obtain ⟨A, c, rfl, h1, h2⟩ := h.form; exact ⟨A, _, c, rfl, rfl, h1, h2⟩

theorem zzFits4 (h : Bss w w.heap.size v L) :
    Calls Tryd.prog 43 #[v] w fun e w' => BoolIff (L.length ≤ 2147483647 ∧ AllLe 2147483647 L) e ∧ w = w' := by
  obtain ⟨A, n, c, rfl, hn, hc, hm⟩ := h.form'
  have H := Lib.hid h
  clear h
  by_cases hbig : 2147483647 < n
  · go_enter Tryd.func43, Tryd.ntmps43
    go_wp2_with fail
    go_ret
    exact ⟨BoolIff.f fun h => by have := hn.out; omega, rfl⟩
  · go_enter Tryd.func43, Tryd.ntmps43
    go_wp2_with fail
    go_loop [10] (fun i => ∃ k : Nat, k ≤ n ∧ i = .int .i64 (k : Int) ∧ Hid (AllLe 2147483647 (L.take k))) (fun i => n - (intOf i).toNat)
    case atStart => exact ⟨0, Nat.zero_le _, rfl, fun a h => by simp at h⟩
    case round =>
      obtain ⟨k, hk, rfl, hall⟩ := hrel
      by_cases hlt : k < n
      · have hkL : k < L.length := by have := hn.out; omega
        obtain ⟨g, o, A', n', c', rfl, hcell, hb⟩ := H.out.at' hkL
        have hn' := Lib.hid (bs_len hb)
        clear hb
        by_cases hlong : 2147483647 < n'
        · go_wp2_with fail
          go_ret
          exact ⟨BoolIff.f fun h => allLe_not hkL (by have := hn'.out; omega) h.2, rfl⟩
        · go_wp2_with fail
          go_round
          case rel => exact ⟨k + 1, by omega, by go_num, allLe_take hall.out hkL (by have := hn'.out; omega)⟩
          case measure => simp [intOf]; omega
      · obtain rfl : k = n := by omega
        go_wp2_with fail
        go_ret
        exact ⟨BoolIff.t ⟨by have := hn.out; omega, by have := hall.out; rw [hn.out, List.take_length] at this; exact this⟩, rfl⟩

/-- the first element that is too long -/
def IdxAns (n : Nat) (L : List (List UInt8)) (e : Ending) : Prop := (AllLe n L ∧ e = .returned (.int .i64 (-1))) ∨ (¬ AllLe n L ∧ ∃ k : Nat, e = .returned (.int .i64 (k : Int)))
-- LONG
/-- the first element that is too long -/
theorem longOne300 (W : World) (A : Option Addr) (n c : Nat) : Calls Tryd.prog 73 #[.slice A n c] W fun e w' => e = .returned (.bool (decide ((300 : Int) < (n : Int)))) ∧ W = w' := by
  go_enter Tryd.func73, Tryd.ntmps73
  go_wp2_with fail
  go_ret
  exact ⟨rfl, rfl⟩
theorem indexLong300 (h : Bss w w.heap.size v L) :
    Calls Tryd.prog 78 #[v, .func (.func 73) #[] #[]] w fun e w' => IdxAns 300 L e ∧ w = w' := by
  obtain ⟨A, n, c, rfl, hn, hc, hm⟩ := h.form'
  have H := Lib.hid h
  clear h
  go_enter Tryd.func78, Tryd.ntmps78
  go_wp2_with fail
  go_loop [8] (fun i => ∃ k : Nat, k ≤ n ∧ i = .int .i64 (k : Int) ∧ Hid (AllLe 300 (L.take k))) (fun i => n - (intOf i).toNat)
  case atStart => exact ⟨0, Nat.zero_le _, rfl, fun a h => by simp at h⟩
  case round =>
    obtain ⟨k, hk, rfl, hall⟩ := hrel
    by_cases hlt : k < n
    · have hkL : k < L.length := by have := hn.out; omega
      obtain ⟨g, o, A', n', c', rfl, hcell, hb⟩ := H.out.at' hkL
      have hn' := Lib.hid (bs_len hb)
      clear hb
      go_wp2_with fail
      refine (longOne300 _ _ _ _).mono ?_
      rintro e w' ⟨rfl, rfl⟩
      by_cases hlong : 300 < n'
      · have hd : decide ((300 : Int) < (n' : Int)) = true := by simp; omega
        go_wp2_with fail
        go_ret
        exact ⟨.inr ⟨allLe_not hkL (by have := hn'.out; omega), _, rfl⟩, rfl⟩
      · have hd : decide ((300 : Int) < (n' : Int)) = false := by simp; omega
        go_wp2_with fail
        go_round
        case rel => exact ⟨k + 1, by omega, by go_num, allLe_take hall.out hkL (by have := hn'.out; omega)⟩
        case measure => simp [intOf]; omega
    · obtain rfl : k = n := by omega
      go_wp2_with fail
      go_ret
      exact ⟨.inl ⟨by have := hall.out; rw [hn.out, List.take_length] at this; exact this, rfl⟩, rfl⟩
theorem containsLong300 (h : Bss w w.heap.size v L) :
    Calls Tryd.prog 44 #[v, .func (.func 73) #[] #[]] w fun e w' => BoolIff (¬ AllLe 300 L) e ∧ w = w' := by
  have HC := Lib.hid (indexLong300 h)
  obtain ⟨A, n, c, rfl, hn, hc, hm⟩ := h.form'
  clear h
  go_enter Tryd.func44, Tryd.ntmps44
  go_wp2_with fail
  refine HC.out.mono ?_
  rintro e w' ⟨hans, rfl⟩
  rcases hans with ⟨hall, rfl⟩ | ⟨hall, k, rfl⟩
  · have Hall := Lib.hid hall
    clear hall
    go_wp2_with fail
    go_ret
    exact ⟨BoolIff.f fun h => h Hall.out, rfl⟩
  · have Hall := Lib.hid hall
    clear hall
    have hd : decide ((0 : Int) ≤ (k : Int)) = true := by simp
    go_wp2_with fail
    go_ret
    exact ⟨BoolIff.t Hall.out, rfl⟩
-- END LONG
/-- element by element -/
theorem equalBss (h : Bss w w.heap.size v L) (k : Bss w w.heap.size x M) :
    Calls Tryd.prog 75 #[v, x, .func (.func 28) #[] #[]] w fun e w' => BoolIff (L = M) e ∧ w = w' := by
  obtain ⟨A, n, c, rfl, hn, hc, hm⟩ := h.form'
  obtain ⟨A2, n2, c2, rfl, hn2, hc2, hm2⟩ := k.form'
  have H := Lib.hid h
  have K := Lib.hid k
  clear h k
  by_cases hlen : n = n2
  · subst hlen
    go_enter Tryd.func75, Tryd.ntmps75
    go_wp2_with fail
    go_loop [17] (fun i => ∃ k : Nat, k ≤ n ∧ i = .int .i64 (k : Int) ∧ Hid (L.take k = M.take k)) (fun i => n - (intOf i).toNat)
    case atStart => exact ⟨0, Nat.zero_le _, rfl, by show _ = _; simp⟩
    case round =>
      obtain ⟨k, hk, rfl, hall⟩ := hrel
      by_cases hlt : k < n
      · have hkL : k < L.length := by have := hn.out; omega
        have hkM : k < M.length := by have := hn2.out; omega
        obtain ⟨g, o, A', n', c', rfl, hcell, hb⟩ := H.out.at' hkL
        obtain ⟨g2, o2, A2', n2', c2', rfl, hcell2, hb2⟩ := K.out.at' hkM
        have Hb := Lib.hid hb
        have Hb2 := Lib.hid hb2
        clear hb hb2
        by_cases he : L[k] = M[k]
        · have Hq := Lib.hid he
          have Hs := Lib.hid (show L.take (k + 1) = M.take (k + 1) by rw [List.take_succ_eq_append_getElem hkL, List.take_succ_eq_append_getElem hkM, hall.out, he])
          clear he
          go_wp2_with fail
          refine (eqTrue Hb.out Hb2.out Hq.out).mono ?_
          rintro e W_ ⟨rfl, rfl⟩
          go_wp2_with fail
          go_round
          case rel => exact ⟨k + 1, by omega, by go_num, Hs⟩
          case measure => simp [intOf]; omega
        · have Hq := Lib.hid he
          clear he
          go_wp2_with fail
          refine (eqFalse Hb.out Hb2.out Hq.out).mono ?_
          rintro e W_ ⟨rfl, rfl⟩
          go_wp2_with fail
          go_ret
          exact ⟨BoolIff.f fun h => Hq.out (by subst h; rfl), rfl⟩
      · obtain rfl : k = n := by omega
        go_wp2_with fail
        go_ret
        exact ⟨BoolIff.t (by have := hall.out; rwa [hn.out, List.take_length, ← hn.out, hn2.out, List.take_length] at this), rfl⟩
  · have hne : ((n : Int) != (n2 : Int)) = true := i32_ne (by omega)
    have Hne := Lib.hid hlen
    clear hlen
    go_enter Tryd.func75, Tryd.ntmps75
    go_wp2_with fail
    go_ret
    exact ⟨BoolIff.f fun h => Hne.out (by rw [hn.out, hn2.out, h]), rfl⟩
end
end Go.Proofs.YtcefcdmonfenoaaDoor

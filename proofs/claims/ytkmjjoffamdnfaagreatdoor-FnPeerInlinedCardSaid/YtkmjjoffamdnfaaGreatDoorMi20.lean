/- govarint.FromUvarint and gomultihash's reading of bytes. -/
import Derived.Test.YtkmjjoffamdnfaaGreatDoorMi02
import Derived.Test.YtkmjjoffamdnfaaGreatDoorMi16
import Derived.Test.YtkmjjoffamdnfaaGreatDoorMi18
import Derived.Test.YtkmjjoffamdnfaaGreatDoorMi19
import Derived.BigQuiet
import Derived.Deep.QuietTactic
namespace Go.Proofs.YtkmjjoffamdnfaaGreatDoor
open Go.RowKit
set_option maxRecDepth 100000
theorem uv_or {acc d k sl : Nat} (ha : acc < 2 ^ (7 * k)) (hk : k ≤ 8) (hd : d < 128) (hs : sl = 7 * k) : bits .or .u64 (acc : Int) (IntKind.u64.wrap ((d : Int) * 2 ^ sl)) = ((acc + d * 2 ^ (7 * k) : Nat) : Int) := by
  subst hs
  have h1 : (2 : Nat) ^ (7 * k) ≤ 2 ^ 56 := Nat.pow_le_pow_right (by omega) (by omega)
  have h2 : d * 2 ^ (7 * k) ≤ 127 * 2 ^ 56 := Nat.le_trans (Nat.mul_le_mul_right _ (show d ≤ 127 by omega)) (Nat.mul_le_mul_left _ h1)
  have e : IntKind.u64.wrap ((d : Int) * 2 ^ (7 * k)) = ((d * 2 ^ (7 * k) : Nat) : Int) := by
    have e1 : (d : Int) * 2 ^ (7 * k) = ((d * 2 ^ (7 * k) : Nat) : Int) := by rw [Int.natCast_mul, Int.natCast_pow]; rfl
    rw [e1, IntKind.wrap_u64]
    omega
  rw [e, u64_or_nat _ _ (by omega) (by omega)]
  congr 1
  rw [Nat.or_comm, Nat.mul_comm d, ← Nat.two_pow_add_eq_or_of_lt ha d, Nat.add_comm]
theorem uv_or0 {acc k : Nat} (ha : acc < 2 ^ (7 * k)) (hk : k ≤ 8) : bits .or .u64 (acc : Int) 0 = (acc : Int) := by
  have h1 : (2 : Nat) ^ (7 * k) ≤ 2 ^ 56 := Nat.pow_le_pow_right (by omega) (by omega)
  have := u64_or_nat acc 0 (by omega) (by omega)
  rwa [Nat.or_zero] at this
theorem uv_and {d : Nat} (h1 : 128 ≤ d) (h2 : d ≤ 255) : IntKind.u64.wrap (bits .and .u8 (d : Int) 127) = ((d - 128 : Nat) : Int) := by
  have h := u8_and_nat d 127 (by omega) (by omega)
  have e : d &&& 127 = d % 128 := Nat.and_two_pow_sub_one_eq_mod d 7
  rw [e] at h
  have h' : bits .and .u8 (d : Int) 127 = ((d % 128 : Nat) : Int) := h
  rw [h', IntKind.wrap_u64]
  omega
structure VErr (w : World) : Prop where
  over : HasErr w 15
  under : HasErr w 17
  minimal : HasErr w 16
theorem VErr.step {w w' : World} (h : VErr w) (hb : Below w.heap.size w w') : VErr w' := ⟨h.over.step hb, h.under.step hb, h.minimal.step hb⟩
def UvAns (l : List UInt8) (e : Ending) : Prop := (Mh.uv l = none ∧ ∃ te xe, e = .returned (.tuple #[.int .u64 0, .int .i64 0, .iface te xe])) ∨
  ∃ x n : Nat, Mh.uv l = some (x, n) ∧ e = .returned (.tuple #[.int .u64 (x : Int), .int .i64 (n : Int), .nilIface])
section
variable {w : World} {v : Value} {l : List UInt8}
set_option maxHeartbeats 1000000 in
theorem fromUvarint (h : Bs w w.heap.size v l) (he : VErr w) :
    Calls Tryz.prog 85 #[v] w fun e w' => UvAns l e ∧ Below w.heap.size w w' := by
  obtain ⟨A, n, c, rfl, hn, hc, hm⟩ := h.form'
  obtain ⟨⟨t1, x1, c1⟩, ⟨t2, x2, c2⟩, ⟨t3, x3, c3⟩⟩ := he
  have H := Lib.hid h
  clear h
  go_enter Tryz.func85, Tryz.ntmps85
  go_wp2_with fail
  go_loop [5, 6, 11] (fun s5 s6 s11 => ∃ (k acc sl : Nat), k ≤ n ∧ s11 = .int .i64 (k : Int) ∧ s5 = .int .u64 (acc : Int) ∧ s6 = .int .u64 (sl : Int) ∧ Hid (sl = 7 * k) ∧ k ≤ 9 ∧ Hid (acc < 2 ^ (7 * k)) ∧ Hid (Mh.uv l = Mh.uvGo k acc (l.drop k))) (fun _ _ s11 => n - (intOf s11).toNat)
  case atStart => exact ⟨0, 0, 0, Nat.zero_le _, rfl, rfl, rfl, rfl, by omega, Lib.hid (by simp), Lib.hid (by rw [List.drop_zero]; rfl)⟩
  case round =>
    obtain ⟨k, acc, sl, hk, rfl, rfl, rfl, Hsl, hk9, Hacc, Hv⟩ := hrel
    by_cases hlt : k < n
    · have hkl : k < l.length := by rw [← hn.out]; exact hlt
      obtain ⟨g, o, rfl, hcell, _⟩ := H.out.at' hkl
      have hb := UInt8.toNat_lt l[k]
      have Hd := Lib.hid (List.drop_eq_getElem_cons hkl)
      by_cases h9 : 9 ≤ k
      · obtain rfl : k = 9 := by omega
        have Hr := Lib.hid (show Mh.uv l = none by rw [Hv.out, Hd.out]; exact Mh.uvGo_over (.inl (by omega)))
        clear Hv Hd Hacc
        generalize l[9].toNat = d at *
        go_wp2_with fail
        go_quiet (fail)
        go_wp2_with fail
        go_ret3
        exact ⟨.inl ⟨Hr.out, _, _, rfl⟩, below_drewN (below_refl w) _⟩
      have hk8 : k ≤ 8 := by omega
      have hnn : ¬ (9 : Int) ≤ (k : Int) := by omega
      by_cases h128 : l[k].toNat < 128
      · have hN := Lib.hid (show ¬ (9 ≤ k ∨ (k = 8 ∧ 128 ≤ l[k].toNat)) by omega)
        have hn128 : ¬ (128 : Int) ≤ ((l[k].toNat : Nat) : Int) := by omega
        by_cases hz : l[k].toNat = 0 ∧ 0 < k
        · have Hr := Lib.hid (show Mh.uv l = none by rw [Hv.out, Hd.out]; exact Mh.uvGo_zero hN.out hz.1 hz.2)
          obtain ⟨hz1, hz2⟩ := hz
          rw [hz1] at hcell
          have hsl0 : 0 < sl := by have := Hsl.out; omega
          clear Hv Hd Hacc hN hz1 hn128 h128 hb
          by_cases e8 : k = 8
          · subst e8
            go_wp2_with fail
            go_quiet (fail)
            go_wp2_with fail
            go_ret3
            exact ⟨.inl ⟨Hr.out, _, _, rfl⟩, below_drewN (below_refl w) _⟩
          · have e8' : ((k : Int) == 8) = false := by simp; omega
            clear e8
            go_wp2_with fail
            go_quiet (fail)
            go_wp2_with fail
            go_ret3
            exact ⟨.inl ⟨Hr.out, _, _, rfl⟩, below_drewN (below_refl w) _⟩
        · have Hr := Lib.hid (show Mh.uv l = some (acc + l[k].toNat * 2 ^ (7 * k), k + 1) by rw [Hv.out, Hd.out]; exact Mh.uvGo_end hN.out h128 hz)
          have hcase : (0 < l[k].toNat) ∨ (l[k].toNat = 0 ∧ sl = 0) := by have := Hsl.out; omega
          clear Hv Hd hN hz
          have hsl63 : sl ≤ 63 := by have := Hsl.out; omega
          generalize l[k].toNat = d at *
          have Hor := Lib.hid (uv_or (d := d) Hacc.out hk8 h128 Hsl.out)
          by_cases e8 : k = 8
          · subst e8
            rcases hcase with hd0 | ⟨rfl, hs0⟩
            · have hdz : ((d : Int) == 0) = false := by simp; omega
              go_wp2_with fail
              go_ret3
              exact ⟨.inr ⟨_, _, Hr.out, by rw [Hor.out]; rfl⟩, below_refl w⟩
            · exact absurd hs0 (by have := Hsl.out; omega)
          · have e8' : ((k : Int) == 8) = false := by simp; omega
            clear e8
            rcases hcase with hd0 | ⟨rfl, rfl⟩
            · have hdz : ((d : Int) == 0) = false := by simp; omega
              go_wp2_with fail
              go_ret3
              exact ⟨.inr ⟨_, _, Hr.out, by rw [Hor.out]; rfl⟩, below_refl w⟩
            · have Hor0 := Lib.hid (uv_or0 Hacc.out hk8)
              go_wp2_with fail
              go_ret3
              exact ⟨.inr ⟨_, _, Hr.out, by rw [Hor0.out, Nat.zero_mul, Nat.add_zero]; rfl⟩, below_refl w⟩
      · have hn128 : (128 : Int) ≤ ((l[k].toNat : Nat) : Int) := by omega
        by_cases e8 : k = 8
        · have Hr := Lib.hid (show Mh.uv l = none by rw [Hv.out, Hd.out]; exact Mh.uvGo_over (.inr ⟨e8, by omega⟩))
          clear Hv Hd Hacc
          generalize l[k].toNat = d at *
          subst e8
          go_wp2_with fail
          go_quiet (fail)
          go_wp2_with fail
          go_ret3
          exact ⟨.inl ⟨Hr.out, _, _, rfl⟩, below_drewN (below_refl w) _⟩
        · have Hv2 := Lib.hid (show Mh.uv l = Mh.uvGo (k + 1) (acc + (l[k].toNat - 128) * 2 ^ (7 * k)) (l.drop (k + 1)) by rw [Hv.out, Hd.out]; exact Mh.uvGo_next (by omega) h128)
          have e8' : ((k : Int) == 8) = false := by simp; omega
          have hsl63 : sl ≤ 63 := by have := Hsl.out; omega
          have Hor := Lib.hid (uv_or (d := l[k].toNat - 128) Hacc.out hk8 (by omega) Hsl.out)
          have Hand := Lib.hid (uv_and (d := l[k].toNat) (by omega) (by omega))
          have Hacc2 := Lib.hid (show acc + (l[k].toNat - 128) * 2 ^ (7 * k) < 2 ^ (7 * (k + 1)) by
            have h1 := Hacc.out
            have e7 : 2 ^ (7 * (k + 1)) = 2 ^ (7 * k) * 128 := by rw [Nat.mul_add, Nat.pow_add]
            rw [e7]
            have : (l[k].toNat - 128) * 2 ^ (7 * k) ≤ 127 * 2 ^ (7 * k) := Nat.mul_le_mul_right _ (by omega)
            omega)
          clear Hv Hd Hacc e8
          generalize l[k].toNat = d at *
          go_wp2_with fail
          exact ⟨⟨k + 1, _, sl + 7, by omega, by go_num, by rw [Hand.out, Hor.out], by go_num, Lib.hid (by have := Hsl.out; omega), by omega, Hacc2, Hv2⟩, by simp [intOf]; omega⟩
    · obtain rfl : k = n := by omega
      have Hr := Lib.hid (show Mh.uv l = none by rw [Hv.out, List.drop_of_length_le (by rw [← hn.out]; exact Nat.le_refl _)]; rfl)
      clear Hv hlt
      go_wp2_with fail
      go_quiet (fail)
      go_wp2_with fail
      go_ret3
      exact ⟨.inl ⟨Hr.out, _, _, rfl⟩, below_drewN (below_refl w) _⟩

/-- an error that is not nil, made anew -/
def ErrNew (w : World) (e : Ending) (w' : World) : Prop := errAns e ∧ Below w.heap.size w w'
theorem errorsNew (w : World) (s : ByteArray) : Calls Tryz.prog 59 #[.string s] w fun e w' => ErrNew w e w' := by
  go_enter Tryz.func59, Tryz.ntmps59
  go_wp2_with fail
  go_ret
  exact ⟨⟨_, _, rfl⟩, below_alloc w _⟩

structure MErr (w : World) : Prop where
  v : VErr w
  short : HasErr w 12
  buf : HasErr w 13
  long : HasErr w 14
theorem MErr.step {w w' : World} (h : MErr w) (hb : Below w.heap.size w w') : MErr w' := ⟨h.v.step hb, h.short.step hb, h.buf.step hb, h.long.step hb⟩
/-- what uvarint answers: the number, the rest, no error; or an error -/
def UrAns (w : World) (l : List UInt8) (e : Ending) (w' : World) : Prop := Below w.heap.size w w' ∧ ((Mh.uv l = none ∧ ∃ x v te xe, e = .returned (.tuple #[.int .u64 x, v, .iface te xe])) ∨
  ∃ (x n : Nat) (A : Option Addr) (m c : Nat), Mh.uv l = some (x, n) ∧ e = .returned (.tuple #[.int .u64 (x : Int), .slice A m c, .nilIface]) ∧ Bs w' w.heap.size (.slice A m c) (l.drop n))
theorem uvarint (h : Bs w w.heap.size v l) (he : MErr w) :
    Calls Tryz.prog 82 #[v] w fun e w' => UrAns w l e w' := by
  obtain ⟨A, n, c, rfl, hn, hc, hm⟩ := h.form'
  have H := Lib.hid h
  have He := Lib.hid he
  clear h he
  go_enter Tryz.func82, Tryz.ntmps82
  go_wp2_with fail
  refine (fromUvarint H.out He.out.v).mono ?_
  rintro e w1 ⟨hans, hb⟩
  have HB := Lib.hid hb
  clear hb
  rcases hans with ⟨hu, te, xe, rfl⟩ | ⟨x, k, hu, rfl⟩
  · have Hu := Lib.hid hu
    clear hu
    go_wp2_with fail
    go_ret3
    exact ⟨HB.out, .inl ⟨Hu.out, _, _, _, _, rfl⟩⟩
  · obtain ⟨h1, h2, h3, h4⟩ := Mh.uv_some hu
    have Hu := Lib.hid hu
    have hkn : k ≤ n := by rw [hn.out]; exact h2
    obtain ⟨A', hsl, hcut⟩ := slice_from (H.out.below HB.out) hkn
    have Hcut := Lib.hid hcut
    have hk0 : ((k : Int) == 0) = false := by simp; omega
    have hsl' : ∀ W : World, (Instr.slice 22 (.slice A n c) (some (.int .i64 (k : Int))) none none).run Tryz.prog W = .ok (.slice A' (n - k) (c - k)) W := fun W => hsl W .i64
    clear hu hcut hsl
    go_wp2_with fail
    go_quiet (fail)
    go_wp2_with fail
    go_ret3
    exact ⟨below_drewN HB.out _, .inr ⟨x, k, A', _, _, Hu.out, rfl, Hcut.out.drewN _⟩⟩

/-- what readMultihashFromBuf answers -/
def RdAns (w : World) (l : List UInt8) (e : Ending) (w' : World) : Prop := Below w.heap.size w w' ∧ ((Mh.read l = none ∧ ∃ te xe, e = .returned (.tuple #[.int .i64 0, .int .u64 0, .slice none 0 0, .iface te xe])) ∨
  ∃ (r x : Nat) (d : List UInt8) (A : Option Addr) (c : Nat), Mh.read l = some (r, x, d) ∧ r ≤ l.length ∧ e = .returned (.tuple #[.int .i64 (r : Int), .int .u64 (x : Int), .slice A d.length c, .nilIface]) ∧ Bs w' w'.heap.size (.slice A d.length c) d)
set_option maxHeartbeats 1000000 in
theorem readMultihash (h : Bs w w.heap.size v l) (he : MErr w) (hlen : l.length ≤ 140737488355328) :
    Calls Tryz.prog 74 #[v] w fun e w' => RdAns w l e w' := by
  obtain ⟨A, n, c, rfl, hn, hc, hm⟩ := h.form'
  have H := Lib.hid h
  have He := Lib.hid he
  have hn48 : n ≤ 140737488355328 := by rw [hn.out]; exact hlen
  obtain ⟨ts, xs, cs⟩ := he.short
  clear h he hlen
  by_cases h2 : n < 2
  · have Hr := Lib.hid (Mh.read_short (l := l) (by rw [← hn.out]; exact h2))
    go_enter Tryz.func74, Tryz.ntmps74
    go_wp2_with fail
    go_quiet (fail)
    go_wp2_with fail
    refine bodyPost_ret (by simp [results, Tryz.results74, go_sem]; rfl) rfl ?_
    exact ⟨below_drewN (below_refl w) _, .inl ⟨Hr.out, _, _, rfl⟩⟩
  have Hn2 := Lib.hid (show ¬ l.length < 2 by rw [← hn.out]; exact h2)
  go_enter Tryz.func74, Tryz.ntmps74
  go_wp2_with fail
  refine (uvarint H.out He.out).mono ?_
  rintro e w1 ⟨hb, hans⟩
  have HB := Lib.hid hb
  clear hb cs
  rcases hans with ⟨hu, x, v, te, xe, rfl⟩ | ⟨x, k, A1, m1, c1, hu, rfl, hd⟩
  · have Hr := Lib.hid (Mh.read_bad Hn2.out hu)
    clear hu
    go_wp2_with fail
    refine bodyPost_ret (by simp [results, Tryz.results74, go_sem]; rfl) rfl ?_
    exact ⟨HB.out, .inl ⟨Hr.out, _, _, rfl⟩⟩
  obtain ⟨k1, k2, k3, k4⟩ := Mh.uv_some hu
  have Hu := Lib.hid hu
  have Hd := Lib.hid (hd.more HB.out.size)
  have hm1 : m1 = n - k := by
    obtain ⟨A', c', e, _⟩ := hd
    injection e with _ e _
    rw [e, List.length_drop, hn.out]
  have Hm1 := Lib.hid hm1
  have hkn : k ≤ n := by rw [hn.out]; exact k2
  have hm1n : m1 ≤ n := by omega
  clear hu hd hm1 k2
  go_wp2_with fail
  refine (uvarint Hd.out (He.out.step HB.out)).mono ?_
  rintro e w2 ⟨hb, hans⟩
  have HB2 := Lib.hid (below_trans HB.out hb)
  have hs12 := hb.size
  clear hb
  rcases hans with ⟨hu, y, v, te, xe, rfl⟩ | ⟨y, m, A2, m2, c2, hu, rfl, hd⟩
  · have Hr := Lib.hid (Mh.read_bad2 Hn2.out Hu.out hu)
    clear hu
    go_wp2_with fail
    refine bodyPost_ret (by simp [results, Tryz.results74, go_sem]; rfl) rfl ?_
    exact ⟨HB2.out, .inl ⟨Hr.out, _, _, rfl⟩⟩
  obtain ⟨q1, q2, q3, q4⟩ := Mh.uv_some hu
  have Hu2 := Lib.hid hu
  have hm2 : m2 = m1 - m := by
    obtain ⟨A', c', e, _⟩ := hd
    injection e with _ e _
    rw [e, List.length_drop, List.length_drop, ← hn.out, ← Hm1.out]
  have Hm2 := Lib.hid hm2
  have hmm : m ≤ m1 := by rw [List.length_drop, ← hn.out, ← Hm1.out] at q2; exact q2
  have hm2n : m2 ≤ n := by omega
  have Hd2 := Lib.hid (hd.more hs12)
  have HM := Lib.hid (show ((l.drop k).drop m).length = m2 by rw [List.length_drop, List.length_drop, ← hn.out, ← Hm1.out, ← Hm2.out])
  clear hu hd hm2 q2 hs12
  by_cases hbig : 2147483647 < y
  · have Hr := Lib.hid (Mh.read_big Hn2.out Hu.out Hu2.out hbig)
    go_wp2_with fail
    refine (errorsNew _ _).mono ?_
    rintro e w3 ⟨⟨te, xe, rfl⟩, hb⟩
    go_wp2_with fail
    refine bodyPost_ret (by simp [results, Tryz.results74, go_sem]; rfl) rfl ?_
    exact ⟨below_trans HB2.out hb, .inl ⟨Hr.out, _, _, rfl⟩⟩
  by_cases hless : m2 < y
  · have Hr := Lib.hid (Mh.read_less Hn2.out Hu.out Hu2.out hbig (by rw [HM.out]; exact hless))
    have hlessI : (m2 : Int) < (y : Int) := by omega
    go_wp2_with fail
    refine (errorsNew _ _).mono ?_
    rintro e w3 ⟨⟨te, xe, rfl⟩, hb⟩
    go_wp2_with fail
    refine bodyPost_ret (by simp [results, Tryz.results74, go_sem]; rfl) rfl ?_
    exact ⟨below_trans HB2.out hb, .inl ⟨Hr.out, _, _, rfl⟩⟩
  · have Hr := Lib.hid (Mh.read_some Hn2.out Hu.out Hu2.out hbig (by rw [HM.out]; exact hless))
    have hyl : y ≤ m2 := by omega
    have Hfr := Lib.hid (Hd2.out.front (k := y) (by rw [HM.out]; exact hyl))
    have hyI : ¬ (m2 : Int) < (y : Int) := by omega
    have hyI2 : (y : Int) ≤ (m2 : Int) := by omega
    have hcc : (m2 : Int) ≤ (c2 : Int) := by
      obtain ⟨A', c', e, h1, _⟩ := Hd2.out
      injection e with _ e1 e2
      subst e2
      rw [e1]; omega
    have hsum : (n : Int) - (m2 : Int) = ((k + m : Nat) : Int) := by have := Hm1.out; have := Hm2.out; omega
    have HL := Lib.hid (show (((l.drop k).drop m).take y).length = y by rw [List.length_take, HM.out]; exact Nat.min_eq_left hyl)
    have HS := Lib.hid hsum
    clear hless hsum
    go_wp2_with fail
    go_quiet (fail)
    go_wp2_with fail
    refine bodyPost_ret (by simp [results, Tryz.results74, go_sem]; rfl) rfl ?_
    refine ⟨below_drewN HB2.out _, .inr ⟨_, _, _, A2, c2, Hr.out, ?_, ?_, ?_⟩⟩
    · have a1 := Hm1.out; have a2 := Hm2.out; have a3 := hn.out; omega
    · rw [HL.out]
      congr 3
      rw [HS.out]
      go_num
    · rw [HL.out]; exact Hfr.out.drewN _

/-- what decode answers: a struct of four, and an error just if the bytes are no multihash -/
def DcAns (w : World) (l : List UInt8) (e : Ending) (w' : World) : Prop := Below w.heap.size w w' ∧ ∃ (x y : Int) (s : ByteArray) (A : Option Addr) (m c : Nat) (er : Value),
  e = .returned (.tuple #[.agg #[.int .u64 x, .string s, .int .i64 y, .slice A m c], er]) ∧ ((Mh.ok l = true ∧ er = .nilIface) ∨ (Mh.ok l = false ∧ ∃ te xe, er = .iface te xe))
theorem ok_none (h : Mh.read l = none) : Mh.ok l = false := by unfold Mh.ok; rw [h]
theorem ok_some {r x : Nat} {d : List UInt8} (h : Mh.read l = some (r, x, d)) : Mh.ok l = decide (l.length = r) := by unfold Mh.ok; rw [h]
theorem storeFour {w : World} {g : Nat} {t : TypeId} {x0 x1 x2 x3 : Value} (hb : Blk w g t #[x0, x1, x2, x3]) (a b c d : Value) :
    ∃ wF, Hid (((((w.setCell ⟨g, 0, none⟩ a).setCell ⟨g, 1, none⟩ b).setCell ⟨g, 2, none⟩ c).setCell ⟨g, 3, none⟩ d) = wF) ∧ Blk wF g t #[a, b, c, d] ∧ w.grownBy wF (some g) := by
  have h0 : Blk (w.setCell ⟨g, 0, none⟩ a) g t #[a, x1, x2, x3] := hb.set 0 a
  have h1 : Blk _ g t #[a, b, x2, x3] := h0.set 1 b
  have h2 : Blk _ g t #[a, b, c, x3] := h1.set 2 c
  have h3 : Blk _ g t #[a, b, c, d] := h2.set 3 d
  exact ⟨_, rfl, h3, grown_setCell (grown_setCell (grown_setCell (grown_setCell (grown_refl w (some g)) (.inl rfl) a) (.inl rfl) b) (.inl rfl) c) (.inl rfl) d⟩
theorem fourCells {W : World} {g : Nat} {t : TypeId} {a b c d : Value} (h : Blk W g t #[a, b, c, d]) : W.cell? ⟨g, 0, none⟩ = some a ∧ W.cell? ⟨g, 1, none⟩ = some b ∧ W.cell? ⟨g, 2, none⟩ = some c ∧ W.cell? ⟨g, 3, none⟩ = some d := ⟨h.cell 0, h.cell 1, h.cell 2, h.cell 3⟩
theorem fourFree {W : World} {g : Nat} {t : TypeId} {cs : Array Value} (h : Blk W g t cs) : W.frozen? ⟨g, 0, none⟩ = false ∧ W.frozen? ⟨g, 1, none⟩ = false ∧ W.frozen? ⟨g, 2, none⟩ = false ∧ W.frozen? ⟨g, 3, none⟩ = false := ⟨h.free 0, h.free 1, h.free 2, h.free 3⟩
set_option maxHeartbeats 1000000 in
theorem mhdecode (h : Bs w w.heap.size v l) (he : MErr w) (hlen : l.length ≤ 140737488355328) :
    Calls Tryz.prog 61 #[v] w fun e w' => DcAns w l e w' := by
  obtain ⟨A, n, c, rfl, hn, hc, hm⟩ := h.form'
  have H := Lib.hid h
  have He := Lib.hid he
  clear h he
  go_enter Tryz.func61, Tryz.ntmps61
  go_wp2_with fail
  have hb0 := below_alloc w (.cells #[.int .u64 0, .string { data := #[] }, .int .i64 0, .slice none 0 0] 124)
  have hk0 := Blk.new w 124 #[.int .u64 0, .string { data := #[] }, .int .i64 0, .slice none 0 0]
  obtain ⟨g, hg⟩ : ∃ g, g = w.heap.size := ⟨_, rfl⟩
  rw [← hg] at hk0 ⊢
  have Hg := Lib.hid hg
  refine (readMultihash (H.out.step hb0) (He.out.step hb0) hlen).mono ?_
  rintro e w1 ⟨hb1, hans⟩
  have K := Lib.hid (hk0.step hb1)
  have B := Lib.hid (below_trans hb0 hb1)
  clear hb0 hk0 hb1 hg
  obtain ⟨c0, c1, c2, c3⟩ := fourCells K.out
  obtain ⟨f0, f1, f2, f3⟩ := fourFree K.out
  rcases hans with ⟨hr, te, xe, rfl⟩ | ⟨r, x, d, A', c', hr, hrl, rfl, hd⟩
  · have Hr := Lib.hid (ok_none hr)
    clear hr
    go_wp2_with fail
    obtain ⟨wF, hwF, bF, gF⟩ := storeFour K.out (.int .u64 0) (.string { data := #[] }) (.int .i64 0) (.slice none 0 0)
    rw [hwF.out]
    obtain ⟨y0, y1, y2, y3⟩ := fourCells bF
    refine bodyPost_ret (by simp [results, Tryz.results61, go_sem, y0, y1, y2, y3]; rfl) rfl ?_
    exact ⟨below_grown B.out gF (fun k e => by injection e with e; have := Hg.out; omega), 0, 0, _, none, 0, 0, _, rfl, .inr ⟨Hr.out, te, xe, rfl⟩⟩
  · have Hr := Lib.hid (ok_some hr)
    clear hr hd
    generalize d.length = dl at *
    by_cases hrn : n = r
    · have hne : ((n : Int) != (r : Int)) = false := by simp [hrn]
      have Hok := Lib.hid (show Mh.ok l = true by rw [Hr.out, ← hn.out]; exact decide_eq_true hrn)
      clear hrn
      go_wp2_with fail
      obtain ⟨wF, hwF, bF, gF⟩ := storeFour K.out (.int .u64 (x : Int)) (.string { data := #[] }) (.int .i64 (dl : Int)) (.slice A' dl c')
      rw [hwF.out]
      obtain ⟨wG, hwG, bG, gG⟩ := storeFour bF (.int .u64 (x : Int)) (.string { data := #[] }) (.int .i64 (dl : Int)) (.slice A' dl c')
      rw [hwG.out]
      obtain ⟨y0, y1, y2, y3⟩ := fourCells bG
      refine bodyPost_ret (by simp [results, Tryz.results61, go_sem, y0, y1, y2, y3]; rfl) rfl ?_
      exact ⟨below_grown (below_grown B.out gF (fun k e => by injection e with e; have := Hg.out; omega)) gG (fun k e => by injection e with e; have := Hg.out; omega), _, _, _, A', dl, c', _, rfl, .inl ⟨Hok.out, rfl⟩⟩
    · have hne : ((n : Int) != (r : Int)) = true := by simp; omega
      have Hok := Lib.hid (show Mh.ok l = false by rw [Hr.out, ← hn.out]; exact decide_eq_false hrn)
      clear hrn
      go_wp2_with fail
      obtain ⟨wF, hwF, bF, gF⟩ := storeFour K.out (.int .u64 (x : Int)) (.string { data := #[] }) (.int .i64 (dl : Int)) (.slice A' dl c')
      rw [hwF.out]
      obtain ⟨wG, hwG, bG, gG⟩ := storeFour bF (.int .u64 (x : Int)) (.string { data := #[] }) (.int .i64 (dl : Int)) (.slice A' dl c')
      rw [hwG.out]
      obtain ⟨y0, y1, y2, y3⟩ := fourCells bG
      refine bodyPost_ret (by simp [results, Tryz.results61, go_sem, y0, y1, y2, y3]; rfl) rfl ?_
      exact ⟨below_grown (below_grown B.out gF (fun k e => by injection e with e; have := Hg.out; omega)) gG (fun k e => by injection e with e; have := Hg.out; omega), _, _, _, A', dl, c', _, rfl, .inr ⟨Hok.out, _, _, rfl⟩⟩

def OkErr (l : List UInt8) (er : Value) : Prop := (Mh.ok l = true ∧ er = .nilIface) ∨ (Mh.ok l = false ∧ ∃ te xe, er = .iface te xe)
def DdAns (w : World) (l : List UInt8) (e : Ending) (w' : World) : Prop := Below w.heap.size w w' ∧ ∃ (p er : Value), e = .returned (.tuple #[p, er]) ∧ OkErr l er
theorem mhDecode (h : Bs w w.heap.size v l) (he : MErr w) (hlen : l.length ≤ 140737488355328) :
    Calls Tryz.prog 49 #[v] w fun e w' => DdAns w l e w' := by
  have H := Lib.hid h
  have He := Lib.hid he
  clear h he
  go_enter Tryz.func49, Tryz.ntmps49
  go_wp2_with fail
  refine (mhdecode H.out He.out hlen).mono ?_
  rintro e w1 ⟨hb, x, y, s, A', m, c', er, rfl, hans⟩
  have B := Lib.hid hb
  clear hb
  rcases hans with ⟨hok, rfl⟩ | ⟨hok, te, xe, rfl⟩
  · have Hok := Lib.hid hok
    clear hok
    go_wp2_with fail
    go_ret2
    exact ⟨below_trans B.out (below_alloc _ _), _, _, rfl, .inl ⟨Hok.out, rfl⟩⟩
  · have Hok := Lib.hid hok
    clear hok
    go_wp2_with fail
    go_ret2
    exact ⟨below_trans B.out (below_alloc _ _), _, _, rfl, .inr ⟨Hok.out, _, _, rfl⟩⟩
/-- Cast: the bytes themselves, if they are a multihash -/
def CsAns (w : World) (v : Value) (l : List UInt8) (e : Ending) (w' : World) : Prop := Below w.heap.size w w' ∧ ((Mh.ok l = true ∧ e = .returned (.tuple #[v, .nilIface])) ∨ (Mh.ok l = false ∧ ∃ x te xe, e = .returned (.tuple #[x, .iface te xe])))
theorem mhCast (h : Bs w w.heap.size v l) (he : MErr w) (hlen : l.length ≤ 140737488355328) :
    Calls Tryz.prog 37 #[v] w fun e w' => CsAns w v l e w' := by
  obtain ⟨A, n, c, rfl, hn, hc, hm⟩ := h.form'
  have H := Lib.hid h
  have He := Lib.hid he
  clear h he
  go_enter Tryz.func37, Tryz.ntmps37
  go_wp2_with fail
  refine (mhDecode H.out He.out hlen).mono ?_
  rintro e w1 ⟨hb, p, er, rfl, hans⟩
  have B := Lib.hid hb
  clear hb
  rcases hans with ⟨hok, rfl⟩ | ⟨hok, te, xe, rfl⟩
  · have Hok := Lib.hid hok
    clear hok
    go_wp2_with fail
    go_ret2
    exact ⟨B.out, .inl ⟨Hok.out, rfl⟩⟩
  · have Hok := Lib.hid hok
    clear hok
    go_wp2_with fail
    go_ret2
    exact ⟨below_trans B.out (below_alloc _ _), .inr ⟨Hok.out, _, _, _, rfl⟩⟩
def IdAns (w : World) (l : List UInt8) (e : Ending) (w' : World) : Prop := Below w.heap.size w w' ∧ ((Mh.ok l = true ∧ e = .returned (.tuple #[.string (strOf l), .nilIface])) ∨ (Mh.ok l = false ∧ ∃ te xe, e = .returned (.tuple #[.string { data := #[] }, .iface te xe])))
theorem idFromBytes (h : Bs w w.heap.size v l) (he : MErr w) (hlen : l.length ≤ 140737488355328) :
    Calls Tryz.prog 22 #[v] w fun e w' => IdAns w l e w' := by
  have H := Lib.hid h
  have He := Lib.hid he
  clear h he
  go_enter Tryz.func22, Tryz.ntmps22
  go_wp2_with fail
  refine (mhCast H.out He.out hlen).mono ?_
  rintro e w1 ⟨hb, hans⟩
  have B := Lib.hid hb
  rcases hans with ⟨hok, rfl⟩ | ⟨hok, x, te, xe, rfl⟩
  · have Hok := Lib.hid hok
    have hconv := conv_str (H.out.step hb) (dst := 46) Tryz.underlying46
    clear hok hb
    go_wp2_with fail
    go_ret2
    exact ⟨B.out, .inl ⟨Hok.out, rfl⟩⟩
  · have Hok := Lib.hid hok
    clear hok hb
    go_wp2_with fail
    go_ret2
    exact ⟨B.out, .inr ⟨Hok.out, _, _, rfl⟩⟩
/-- PeerOf: the bytes, if they are a multihash -/
def PoAns (w : World) (l : List UInt8) (e : Ending) (w' : World) : Prop := Below w.heap.size w w' ∧ ((Mh.ok l = true ∧ ∃ v', e = .returned (.tuple #[v', .bool true]) ∧ Bs w' w'.heap.size v' l) ∨ (Mh.ok l = false ∧ e = .returned (.tuple #[.slice none 0 0, .bool false])))
theorem peerOf (h : Bs w w.heap.size v l) (he : MErr w) (hlen : l.length ≤ 140737488355328) :
    Calls Tryz.prog 10 #[v] w fun e w' => PoAns w l e w' := by
  have H := Lib.hid h
  have He := Lib.hid he
  clear h he
  go_enter Tryz.func10, Tryz.ntmps10
  go_wp2_with fail
  refine (bytesClone H.out hlen).mono ?_
  rintro e w1 ⟨v1, rfl, ho, hb⟩
  have B := Lib.hid hb
  have X := Lib.hid ho.bs
  clear ho hb
  go_wp2_with fail
  refine (idFromBytes X.out (He.out.step B.out) hlen).mono ?_
  rintro e w2 ⟨hb, hans⟩
  have B2 := Lib.hid (below_trans B.out hb)
  clear hb
  rcases hans with ⟨hok, rfl⟩ | ⟨hok, te, xe, rfl⟩
  · have Hok := Lib.hid hok
    obtain ⟨w3, c, hr, hb, hbl, hc, hm⟩ := conv_bytes w2 l hlen (src := 46) Tryz.underlying46
    have HB := Lib.hid hb
    have Hbl := Lib.hid hbl
    clear hok hb hbl
    go_wp2_with fail
    go_ret2
    exact ⟨below_trans B2.out Hbl.out, .inl ⟨Hok.out, _, rfl, HB.out⟩⟩
  · have Hok := Lib.hid hok
    clear hok
    go_wp2_with fail
    go_ret2
    exact ⟨B2.out, .inr ⟨Hok.out, rfl⟩⟩
end
end Go.Proofs.YtkmjjoffamdnfaaGreatDoor

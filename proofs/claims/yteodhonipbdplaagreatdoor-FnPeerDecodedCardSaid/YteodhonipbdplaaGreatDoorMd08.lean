/- govarint.FromUvarint and gomultihash's reading of bytes. -/
import Derived.Test.YteodhonipbdplaaGreatDoorMd01
import Derived.Test.YteodhonipbdplaaGreatDoorMd04
import Derived.Test.YteodhonipbdplaaGreatDoorMd07
import Derived.BigQuiet
import Derived.Deep.QuietTactic
namespace Go.Proofs.YteodhonipbdplaaGreatDoor
open Go.RowKit
set_option maxRecDepth 100000
theorem uv_or {acc d k sl : Nat} (ha : acc < 2 ^ (7 * k)) (hk : k ≤ 8) (hd : d < 128) (hs : sl = 7 * k) : bits .or .u64 (acc : Int) (IntKind.u64.wrap ((d : Int) * 2 ^ sl)) = ((acc + d * 2 ^ (7 * k) : Nat) : Int) := by
  subst hs
  have h1 : (2 : Nat) ^ (7 * k) ≤ 2 ^ 56 := Nat.pow_le_pow_right (by omega) (by omega)
  have h2 : d * 2 ^ (7 * k) ≤ 127 * 2 ^ 56 := Nat.le_trans (Nat.mul_le_mul_right _ (show d ≤ 127 by omega)) (Nat.mul_le_mul_left _ h1)
  have e : IntKind.u64.wrap ((d : Int) * 2 ^ (7 * k)) = ((d * 2 ^ (7 * k) : Nat) : Int) := by
    have e1 : (d : Int) * 2 ^ (7 * k) = ((d * 2 ^ (7 * k) : Nat) : Int) := by rw [Int.natCast_mul, Int.natCast_pow]; rfl
    rw [e1, IntKind.wrap_u64]
    omega
  rw [e, u64_or_nat _ _ (by omega) (by omega)]
  congr 1
  rw [Nat.or_comm, Nat.mul_comm d, ← Nat.two_pow_add_eq_or_of_lt ha d, Nat.add_comm]
theorem uv_or0 {acc k : Nat} (ha : acc < 2 ^ (7 * k)) (hk : k ≤ 8) : bits .or .u64 (acc : Int) 0 = (acc : Int) := by
  have h1 : (2 : Nat) ^ (7 * k) ≤ 2 ^ 56 := Nat.pow_le_pow_right (by omega) (by omega)
  have := u64_or_nat acc 0 (by omega) (by omega)
  rwa [Nat.or_zero] at this
theorem uv_and {d : Nat} (h1 : 128 ≤ d) (h2 : d ≤ 255) : IntKind.u64.wrap (bits .and .u8 (d : Int) 127) = ((d - 128 : Nat) : Int) := by
  have h := u8_and_nat d 127 (by omega) (by omega)
  have e : d &&& 127 = d % 128 := Nat.and_two_pow_sub_one_eq_mod d 7
  rw [e] at h
  have h' : bits .and .u8 (d : Int) 127 = ((d % 128 : Nat) : Int) := h
  rw [h', IntKind.wrap_u64]
  omega
structure VErr (w : World) : Prop where
  over : HasErr w 4
  under : HasErr w 6
  minimal : HasErr w 5
theorem VErr.step {w w' : World} (h : VErr w) (hb : Below w.heap.size w w') : VErr w' := ⟨h.over.step hb, h.under.step hb, h.minimal.step hb⟩
def UvAns (l : List UInt8) (e : Ending) : Prop := (Mh.uv l = none ∧ ∃ te xe, e = .returned (.tuple #[.int .u64 0, .int .i64 0, .iface te xe])) ∨
  ∃ x n : Nat, Mh.uv l = some (x, n) ∧ e = .returned (.tuple #[.int .u64 (x : Int), .int .i64 (n : Int), .nilIface])
section
variable {w : World} {v : Value} {l : List UInt8}
set_option maxHeartbeats 1000000 in
theorem fromUvarint (h : Bs w w.heap.size v l) (he : VErr w) :
    Calls Tryz.prog 74 #[v] w fun e w' => UvAns l e ∧ Below w.heap.size w w' := by
  obtain ⟨A, n, c, rfl, hn, hc, hm⟩ := h.form'
  obtain ⟨⟨t1, x1, c1⟩, ⟨t2, x2, c2⟩, ⟨t3, x3, c3⟩⟩ := he
  have H := Lib.hid h
  clear h
  go_enter Tryz.func74, Tryz.ntmps74
  go_wp2_with fail
  go_loop [5, 6, 11] (fun s5 s6 s11 => ∃ (k acc sl : Nat), k ≤ n ∧ s11 = .int .i64 (k : Int) ∧ s5 = .int .u64 (acc : Int) ∧ s6 = .int .u64 (sl : Int) ∧ Hid (sl = 7 * k) ∧ k ≤ 9 ∧ Hid (acc < 2 ^ (7 * k)) ∧ Hid (Mh.uv l = Mh.uvGo k acc (l.drop k))) (fun _ _ s11 => n - (intOf s11).toNat)
  case atStart => exact ⟨0, 0, 0, Nat.zero_le _, rfl, rfl, rfl, rfl, by omega, Lib.hid (by simp), Lib.hid (by rw [List.drop_zero]; rfl)⟩
  case round =>
    obtain ⟨k, acc, sl, hk, rfl, rfl, rfl, Hsl, hk9, Hacc, Hv⟩ := hrel
    by_cases hlt : k < n
    · have hkl : k < l.length := by rw [← hn.out]; exact hlt
      obtain ⟨g, o, rfl, hcell, _⟩ := H.out.at' hkl
      have hb := UInt8.toNat_lt l[k]
      have Hd := Lib.hid (List.drop_eq_getElem_cons hkl)
      by_cases h9 : 9 ≤ k
      · obtain rfl : k = 9 := by omega
        have Hr := Lib.hid (show Mh.uv l = none by rw [Hv.out, Hd.out]; exact Mh.uvGo_over (.inl (by omega)))
        clear Hv Hd Hacc
        generalize l[9].toNat = d at *
        go_wp2_with fail
        go_quiet (fail)
        go_wp2_with fail
        go_ret3
        exact ⟨.inl ⟨Hr.out, _, _, rfl⟩, below_drewN (below_refl w) _⟩
      have hk8 : k ≤ 8 := by omega
      have hnn : ¬ (9 : Int) ≤ (k : Int) := by omega
      by_cases h128 : l[k].toNat < 128
      · have hN := Lib.hid (show ¬ (9 ≤ k ∨ (k = 8 ∧ 128 ≤ l[k].toNat)) by omega)
        have hn128 : ¬ (128 : Int) ≤ ((l[k].toNat : Nat) : Int) := by omega
        by_cases hz : l[k].toNat = 0 ∧ 0 < k
        · have Hr := Lib.hid (show Mh.uv l = none by rw [Hv.out, Hd.out]; exact Mh.uvGo_zero hN.out hz.1 hz.2)
          obtain ⟨hz1, hz2⟩ := hz
          rw [hz1] at hcell
          have hsl0 : 0 < sl := by have := Hsl.out; omega
          clear Hv Hd Hacc hN hz1 hn128 h128 hb
          by_cases e8 : k = 8
          · subst e8
            go_wp2_with fail
            go_quiet (fail)
            go_wp2_with fail
            go_ret3
            exact ⟨.inl ⟨Hr.out, _, _, rfl⟩, below_drewN (below_refl w) _⟩
          · have e8' : ((k : Int) == 8) = false := by simp; omega
            clear e8
            go_wp2_with fail
            go_quiet (fail)
            go_wp2_with fail
            go_ret3
            exact ⟨.inl ⟨Hr.out, _, _, rfl⟩, below_drewN (below_refl w) _⟩
        · have Hr := Lib.hid (show Mh.uv l = some (acc + l[k].toNat * 2 ^ (7 * k), k + 1) by rw [Hv.out, Hd.out]; exact Mh.uvGo_end hN.out h128 hz)
          have hcase : (0 < l[k].toNat) ∨ (l[k].toNat = 0 ∧ sl = 0) := by have := Hsl.out; omega
          clear Hv Hd hN hz
          have hsl63 : sl ≤ 63 := by have := Hsl.out; omega
          generalize l[k].toNat = d at *
          have Hor := Lib.hid (uv_or (d := d) Hacc.out hk8 h128 Hsl.out)
          by_cases e8 : k = 8
          · subst e8
            rcases hcase with hd0 | ⟨rfl, hs0⟩
            · have hdz : ((d : Int) == 0) = false := by simp; omega
              go_wp2_with fail
              go_ret3
              exact ⟨.inr ⟨_, _, Hr.out, by rw [Hor.out]; rfl⟩, below_refl w⟩
            · exact absurd hs0 (by have := Hsl.out; omega)
          · have e8' : ((k : Int) == 8) = false := by simp; omega
            clear e8
            rcases hcase with hd0 | ⟨rfl, rfl⟩
            · have hdz : ((d : Int) == 0) = false := by simp; omega
              go_wp2_with fail
              go_ret3
              exact ⟨.inr ⟨_, _, Hr.out, by rw [Hor.out]; rfl⟩, below_refl w⟩
            · have Hor0 := Lib.hid (uv_or0 Hacc.out hk8)
              go_wp2_with fail
              go_ret3
              exact ⟨.inr ⟨_, _, Hr.out, by rw [Hor0.out, Nat.zero_mul, Nat.add_zero]; rfl⟩, below_refl w⟩
      · have hn128 : (128 : Int) ≤ ((l[k].toNat : Nat) : Int) := by omega
        by_cases e8 : k = 8
        · have Hr := Lib.hid (show Mh.uv l = none by rw [Hv.out, Hd.out]; exact Mh.uvGo_over (.inr ⟨e8, by omega⟩))
          clear Hv Hd Hacc
          generalize l[k].toNat = d at *
          subst e8
          go_wp2_with fail
          go_quiet (fail)
          go_wp2_with fail
          go_ret3
          exact ⟨.inl ⟨Hr.out, _, _, rfl⟩, below_drewN (below_refl w) _⟩
        · have Hv2 := Lib.hid (show Mh.uv l = Mh.uvGo (k + 1) (acc + (l[k].toNat - 128) * 2 ^ (7 * k)) (l.drop (k + 1)) by rw [Hv.out, Hd.out]; exact Mh.uvGo_next (by omega) h128)
          have e8' : ((k : Int) == 8) = false := by simp; omega
          have hsl63 : sl ≤ 63 := by have := Hsl.out; omega
          have Hor := Lib.hid (uv_or (d := l[k].toNat - 128) Hacc.out hk8 (by omega) Hsl.out)
          have Hand := Lib.hid (uv_and (d := l[k].toNat) (by omega) (by omega))
          have Hacc2 := Lib.hid (show acc + (l[k].toNat - 128) * 2 ^ (7 * k) < 2 ^ (7 * (k + 1)) by
            have h1 := Hacc.out
            have e7 : 2 ^ (7 * (k + 1)) = 2 ^ (7 * k) * 128 := by rw [Nat.mul_add, Nat.pow_add]
            rw [e7]
            have : (l[k].toNat - 128) * 2 ^ (7 * k) ≤ 127 * 2 ^ (7 * k) := Nat.mul_le_mul_right _ (by omega)
            omega)
          clear Hv Hd Hacc e8
          generalize l[k].toNat = d at *
          go_wp2_with fail
          exact ⟨⟨k + 1, _, sl + 7, by omega, by go_num, by rw [Hand.out, Hor.out], by go_num, Lib.hid (by have := Hsl.out; omega), by omega, Hacc2, Hv2⟩, by simp [intOf]; omega⟩
    · obtain rfl : k = n := by omega
      have Hr := Lib.hid (show Mh.uv l = none by rw [Hv.out, List.drop_of_length_le (by rw [← hn.out]; exact Nat.le_refl _)]; rfl)
      clear Hv hlt
      go_wp2_with fail
      go_quiet (fail)
      go_wp2_with fail
      go_ret3
      exact ⟨.inl ⟨Hr.out, _, _, rfl⟩, below_drewN (below_refl w) _⟩

/-- an error that is not nil, made anew -/
def ErrNew (w : World) (e : Ending) (w' : World) : Prop := errAns e ∧ Below w.heap.size w w'
theorem errorsNew (w : World) (s : ByteArray) : Calls Tryz.prog 52 #[.string s] w fun e w' => ErrNew w e w' := by
  go_enter Tryz.func52, Tryz.ntmps52
  go_wp2_with fail
  go_ret
  exact ⟨⟨_, _, rfl⟩, below_alloc w _⟩

structure MErr (w : World) : Prop where
  v : VErr w
  short : HasErr w 8
  buf : HasErr w 11
  long : HasErr w 12
theorem MErr.step {w w' : World} (h : MErr w) (hb : Below w.heap.size w w') : MErr w' := ⟨h.v.step hb, h.short.step hb, h.buf.step hb, h.long.step hb⟩
/-- what uvarint answers: the number, the rest, no error; or an error -/
def UrAns (w : World) (l : List UInt8) (e : Ending) (w' : World) : Prop := Below w.heap.size w w' ∧ ((Mh.uv l = none ∧ ∃ x v te xe, e = .returned (.tuple #[.int .u64 x, v, .iface te xe])) ∨
  ∃ (x n : Nat) (A : Option Addr) (m c : Nat), Mh.uv l = some (x, n) ∧ e = .returned (.tuple #[.int .u64 (x : Int), .slice A m c, .nilIface]) ∧ Bs w' w.heap.size (.slice A m c) (l.drop n))
theorem uvarint (h : Bs w w.heap.size v l) (he : MErr w) :
    Calls Tryz.prog 140 #[v] w fun e w' => UrAns w l e w' := by
  obtain ⟨A, n, c, rfl, hn, hc, hm⟩ := h.form'
  have H := Lib.hid h
  have He := Lib.hid he
  clear h he
  go_enter Tryz.func140, Tryz.ntmps140
  go_wp2_with fail
  refine (fromUvarint H.out He.out.v).mono ?_
  rintro e w1 ⟨hans, hb⟩
  have HB := Lib.hid hb
  clear hb
  rcases hans with ⟨hu, te, xe, rfl⟩ | ⟨x, k, hu, rfl⟩
  · have Hu := Lib.hid hu
    clear hu
    go_wp2_with fail
    go_ret3
    exact ⟨HB.out, .inl ⟨Hu.out, _, _, _, _, rfl⟩⟩
  · obtain ⟨h1, h2, h3, h4⟩ := Mh.uv_some hu
    have Hu := Lib.hid hu
    have hkn : k ≤ n := by rw [hn.out]; exact h2
    obtain ⟨A', hsl, hcut⟩ := slice_from (H.out.below HB.out) hkn
    have Hcut := Lib.hid hcut
    have hk0 : ((k : Int) == 0) = false := by simp; omega
    have hsl' : ∀ W : World, (Instr.slice 23 (.slice A n c) (some (.int .i64 (k : Int))) none none).run Tryz.prog W = .ok (.slice A' (n - k) (c - k)) W := fun W => hsl W .i64
    clear hu hcut hsl
    go_wp2_with fail
    go_quiet (fail)
    go_wp2_with fail
    go_ret3
    exact ⟨below_drewN HB.out _, .inr ⟨x, k, A', _, _, Hu.out, rfl, Hcut.out.drewN _⟩⟩

/-- what readMultihashFromBuf answers -/
def RdAns (w : World) (l : List UInt8) (e : Ending) (w' : World) : Prop := Below w.heap.size w w' ∧ ((Mh.read l = none ∧ ∃ te xe, e = .returned (.tuple #[.int .i64 0, .int .u64 0, .slice none 0 0, .iface te xe])) ∨
  ∃ (r x : Nat) (d : List UInt8) (A : Option Addr) (c : Nat), Mh.read l = some (r, x, d) ∧ r ≤ l.length ∧ e = .returned (.tuple #[.int .i64 (r : Int), .int .u64 (x : Int), .slice A d.length c, .nilIface]) ∧ Bs w' w'.heap.size (.slice A d.length c) d)
set_option maxHeartbeats 1000000 in
theorem readMultihash (h : Bs w w.heap.size v l) (he : MErr w) (hlen : l.length ≤ 140737488355328) :
    Calls Tryz.prog 107 #[v] w fun e w' => RdAns w l e w' := by
  obtain ⟨A, n, c, rfl, hn, hc, hm⟩ := h.form'
  have H := Lib.hid h
  have He := Lib.hid he
  have hn48 : n ≤ 140737488355328 := by rw [hn.out]; exact hlen
  obtain ⟨ts, xs, cs⟩ := he.short
  clear h he hlen
  by_cases h2 : n < 2
  · have Hr := Lib.hid (Mh.read_short (l := l) (by rw [← hn.out]; exact h2))
    go_enter Tryz.func107, Tryz.ntmps107
    go_wp2_with fail
    go_quiet (fail)
    go_wp2_with fail
    refine bodyPost_ret (by simp [results, Tryz.results107, go_sem]; rfl) rfl ?_
    exact ⟨below_drewN (below_refl w) _, .inl ⟨Hr.out, _, _, rfl⟩⟩
  have Hn2 := Lib.hid (show ¬ l.length < 2 by rw [← hn.out]; exact h2)
  go_enter Tryz.func107, Tryz.ntmps107
  go_wp2_with fail
  refine (uvarint H.out He.out).mono ?_
  rintro e w1 ⟨hb, hans⟩
  have HB := Lib.hid hb
  clear hb cs
  rcases hans with ⟨hu, x, v, te, xe, rfl⟩ | ⟨x, k, A1, m1, c1, hu, rfl, hd⟩
  · have Hr := Lib.hid (Mh.read_bad Hn2.out hu)
    clear hu
    go_wp2_with fail
    refine bodyPost_ret (by simp [results, Tryz.results107, go_sem]; rfl) rfl ?_
    exact ⟨HB.out, .inl ⟨Hr.out, _, _, rfl⟩⟩
  obtain ⟨k1, k2, k3, k4⟩ := Mh.uv_some hu
  have Hu := Lib.hid hu
  have Hd := Lib.hid (hd.more HB.out.size)
  have hm1 : m1 = n - k := by
    obtain ⟨A', c', e, _⟩ := hd
    injection e with _ e _
    rw [e, List.length_drop, hn.out]
  have Hm1 := Lib.hid hm1
  have hkn : k ≤ n := by rw [hn.out]; exact k2
  have hm1n : m1 ≤ n := by omega
  clear hu hd hm1 k2
  go_wp2_with fail
  refine (uvarint Hd.out (He.out.step HB.out)).mono ?_
  rintro e w2 ⟨hb, hans⟩
  have HB2 := Lib.hid (below_trans HB.out hb)
  have hs12 := hb.size
  clear hb
  rcases hans with ⟨hu, y, v, te, xe, rfl⟩ | ⟨y, m, A2, m2, c2, hu, rfl, hd⟩
  · have Hr := Lib.hid (Mh.read_bad2 Hn2.out Hu.out hu)
    clear hu
    go_wp2_with fail
    refine bodyPost_ret (by simp [results, Tryz.results107, go_sem]; rfl) rfl ?_
    exact ⟨HB2.out, .inl ⟨Hr.out, _, _, rfl⟩⟩
  obtain ⟨q1, q2, q3, q4⟩ := Mh.uv_some hu
  have Hu2 := Lib.hid hu
  have hm2 : m2 = m1 - m := by
    obtain ⟨A', c', e, _⟩ := hd
    injection e with _ e _
    rw [e, List.length_drop, List.length_drop, ← hn.out, ← Hm1.out]
  have Hm2 := Lib.hid hm2
  have hmm : m ≤ m1 := by rw [List.length_drop, ← hn.out, ← Hm1.out] at q2; exact q2
  have hm2n : m2 ≤ n := by omega
  have Hd2 := Lib.hid (hd.more hs12)
  have HM := Lib.hid (show ((l.drop k).drop m).length = m2 by rw [List.length_drop, List.length_drop, ← hn.out, ← Hm1.out, ← Hm2.out])
  clear hu hd hm2 q2 hs12
  by_cases hbig : 2147483647 < y
  · have Hr := Lib.hid (Mh.read_big Hn2.out Hu.out Hu2.out hbig)
    go_wp2_with fail
    refine (errorsNew _ _).mono ?_
    rintro e w3 ⟨⟨te, xe, rfl⟩, hb⟩
    go_wp2_with fail
    refine bodyPost_ret (by simp [results, Tryz.results107, go_sem]; rfl) rfl ?_
    exact ⟨below_trans HB2.out hb, .inl ⟨Hr.out, _, _, rfl⟩⟩
  by_cases hless : m2 < y
  · have Hr := Lib.hid (Mh.read_less Hn2.out Hu.out Hu2.out hbig (by rw [HM.out]; exact hless))
    have hlessI : (m2 : Int) < (y : Int) := by omega
    go_wp2_with fail
    refine (errorsNew _ _).mono ?_
    rintro e w3 ⟨⟨te, xe, rfl⟩, hb⟩
    go_wp2_with fail
    refine bodyPost_ret (by simp [results, Tryz.results107, go_sem]; rfl) rfl ?_
    exact ⟨below_trans HB2.out hb, .inl ⟨Hr.out, _, _, rfl⟩⟩
  · have Hr := Lib.hid (Mh.read_some Hn2.out Hu.out Hu2.out hbig (by rw [HM.out]; exact hless))
    have hyl : y ≤ m2 := by omega
    have Hfr := Lib.hid (Hd2.out.front (k := y) (by rw [HM.out]; exact hyl))
    have hyI : ¬ (m2 : Int) < (y : Int) := by omega
    have hyI2 : (y : Int) ≤ (m2 : Int) := by omega
    have hcc : (m2 : Int) ≤ (c2 : Int) := by
      obtain ⟨A', c', e, h1, _⟩ := Hd2.out
      injection e with _ e1 e2
      subst e2
      rw [e1]; omega
    have hsum : (n : Int) - (m2 : Int) = ((k + m : Nat) : Int) := by have := Hm1.out; have := Hm2.out; omega
    have HL := Lib.hid (show (((l.drop k).drop m).take y).length = y by rw [List.length_take, HM.out]; exact Nat.min_eq_left hyl)
    have HS := Lib.hid hsum
    clear hless hsum
    go_wp2_with fail
    go_quiet (fail)
    go_wp2_with fail
    refine bodyPost_ret (by simp [results, Tryz.results107, go_sem]; rfl) rfl ?_
    refine ⟨below_drewN HB2.out _, .inr ⟨_, _, _, A2, c2, Hr.out, ?_, ?_, ?_⟩⟩
    · have a1 := Hm1.out; have a2 := Hm2.out; have a3 := hn.out; omega
    · rw [HL.out]
      congr 3
      rw [HS.out]
      go_num
    · rw [HL.out]; exact Hfr.out.drewN _

/-- what decode answers: a struct of four, and an error just if the bytes are no multihash -/
def DcAns (w : World) (l : List UInt8) (e : Ending) (w' : World) : Prop := Below w.heap.size w w' ∧ ∃ (x y : Int) (s : ByteArray) (A : Option Addr) (m c : Nat) (er : Value),
  e = .returned (.tuple #[.agg #[.int .u64 x, .string s, .int .i64 y, .slice A m c], er]) ∧ ((Mh.ok l = true ∧ er = .nilIface) ∨ (Mh.ok l = false ∧ ∃ te xe, er = .iface te xe))
theorem ok_none (h : Mh.read l = none) : Mh.ok l = false := by unfold Mh.ok; rw [h]
theorem ok_some {r x : Nat} {d : List UInt8} (h : Mh.read l = some (r, x, d)) : Mh.ok l = decide (l.length = r) := by unfold Mh.ok; rw [h]
theorem storeFour {w : World} {g : Nat} {t : TypeId} {x0 x1 x2 x3 : Value} (hb : Blk w g t #[x0, x1, x2, x3]) (a b c d : Value) :
    ∃ wF, Hid (((((w.setCell ⟨g, 0, none⟩ a).setCell ⟨g, 1, none⟩ b).setCell ⟨g, 2, none⟩ c).setCell ⟨g, 3, none⟩ d) = wF) ∧ Blk wF g t #[a, b, c, d] ∧ w.grownBy wF (some g) := by
  have h0 : Blk (w.setCell ⟨g, 0, none⟩ a) g t #[a, x1, x2, x3] := hb.set 0 a
  have h1 : Blk _ g t #[a, b, x2, x3] := h0.set 1 b
  have h2 : Blk _ g t #[a, b, c, x3] := h1.set 2 c
  have h3 : Blk _ g t #[a, b, c, d] := h2.set 3 d
  exact ⟨_, rfl, h3, grown_setCell (grown_setCell (grown_setCell (grown_setCell (grown_refl w (some g)) (.inl rfl) a) (.inl rfl) b) (.inl rfl) c) (.inl rfl) d⟩
theorem fourCells {W : World} {g : Nat} {t : TypeId} {a b c d : Value} (h : Blk W g t #[a, b, c, d]) : W.cell? ⟨g, 0, none⟩ = some a ∧ W.cell? ⟨g, 1, none⟩ = some b ∧ W.cell? ⟨g, 2, none⟩ = some c ∧ W.cell? ⟨g, 3, none⟩ = some d := ⟨h.cell 0, h.cell 1, h.cell 2, h.cell 3⟩
theorem fourFree {W : World} {g : Nat} {t : TypeId} {cs : Array Value} (h : Blk W g t cs) : W.frozen? ⟨g, 0, none⟩ = false ∧ W.frozen? ⟨g, 1, none⟩ = false ∧ W.frozen? ⟨g, 2, none⟩ = false ∧ W.frozen? ⟨g, 3, none⟩ = false := ⟨h.free 0, h.free 1, h.free 2, h.free 3⟩
set_option maxHeartbeats 1000000 in
theorem mhdecode (h : Bs w w.heap.size v l) (he : MErr w) (hlen : l.length ≤ 140737488355328) :
    Calls Tryz.prog 102 #[v] w fun e w' => DcAns w l e w' := by
  obtain ⟨A, n, c, rfl, hn, hc, hm⟩ := h.form'
  have H := Lib.hid h
  have He := Lib.hid he
  clear h he
  go_enter Tryz.func102, Tryz.ntmps102
  go_wp2_with fail
  have hb0 := below_alloc w (.cells #[.int .u64 0, .string { data := #[] }, .int .i64 0, .slice none 0 0] 123)
  have hk0 := Blk.new w 123 #[.int .u64 0, .string { data := #[] }, .int .i64 0, .slice none 0 0]
  obtain ⟨g, hg⟩ : ∃ g, g = w.heap.size := ⟨_, rfl⟩
  rw [← hg] at hk0 ⊢
  have Hg := Lib.hid hg
  refine (readMultihash (H.out.step hb0) (He.out.step hb0) hlen).mono ?_
  rintro e w1 ⟨hb1, hans⟩
  have K := Lib.hid (hk0.step hb1)
  have B := Lib.hid (below_trans hb0 hb1)
  clear hb0 hk0 hb1 hg
  obtain ⟨c0, c1, c2, c3⟩ := fourCells K.out
  obtain ⟨f0, f1, f2, f3⟩ := fourFree K.out
  rcases hans with ⟨hr, te, xe, rfl⟩ | ⟨r, x, d, A', c', hr, hrl, rfl, hd⟩
  · have Hr := Lib.hid (ok_none hr)
    clear hr
    go_wp2_with fail
    obtain ⟨wF, hwF, bF, gF⟩ := storeFour K.out (.int .u64 0) (.string { data := #[] }) (.int .i64 0) (.slice none 0 0)
    rw [hwF.out]
    obtain ⟨y0, y1, y2, y3⟩ := fourCells bF
    refine bodyPost_ret (by simp [results, Tryz.results102, go_sem, y0, y1, y2, y3]; rfl) rfl ?_
    exact ⟨below_grown B.out gF (fun k e => by injection e with e; have := Hg.out; omega), 0, 0, _, none, 0, 0, _, rfl, .inr ⟨Hr.out, te, xe, rfl⟩⟩
  · have Hr := Lib.hid (ok_some hr)
    clear hr hd
    generalize d.length = dl at *
    by_cases hrn : n = r
    · have hne : ((n : Int) != (r : Int)) = false := by simp [hrn]
      have Hok := Lib.hid (show Mh.ok l = true by rw [Hr.out, ← hn.out]; exact decide_eq_true hrn)
      clear hrn
      go_wp2_with fail
      obtain ⟨wF, hwF, bF, gF⟩ := storeFour K.out (.int .u64 (x : Int)) (.string { data := #[] }) (.int .i64 (dl : Int)) (.slice A' dl c')
      rw [hwF.out]
      obtain ⟨wG, hwG, bG, gG⟩ := storeFour bF (.int .u64 (x : Int)) (.string { data := #[] }) (.int .i64 (dl : Int)) (.slice A' dl c')
      rw [hwG.out]
      obtain ⟨y0, y1, y2, y3⟩ := fourCells bG
      refine bodyPost_ret (by simp [results, Tryz.results102, go_sem, y0, y1, y2, y3]; rfl) rfl ?_
      exact ⟨below_grown (below_grown B.out gF (fun k e => by injection e with e; have := Hg.out; omega)) gG (fun k e => by injection e with e; have := Hg.out; omega), _, _, _, A', dl, c', _, rfl, .inl ⟨Hok.out, rfl⟩⟩
    · have hne : ((n : Int) != (r : Int)) = true := by simp; omega
      have Hok := Lib.hid (show Mh.ok l = false by rw [Hr.out, ← hn.out]; exact decide_eq_false hrn)
      clear hrn
      go_wp2_with fail
      obtain ⟨wF, hwF, bF, gF⟩ := storeFour K.out (.int .u64 (x : Int)) (.string { data := #[] }) (.int .i64 (dl : Int)) (.slice A' dl c')
      rw [hwF.out]
      obtain ⟨wG, hwG, bG, gG⟩ := storeFour bF (.int .u64 (x : Int)) (.string { data := #[] }) (.int .i64 (dl : Int)) (.slice A' dl c')
      rw [hwG.out]
      obtain ⟨y0, y1, y2, y3⟩ := fourCells bG
      refine bodyPost_ret (by simp [results, Tryz.results102, go_sem, y0, y1, y2, y3]; rfl) rfl ?_
      exact ⟨below_grown (below_grown B.out gF (fun k e => by injection e with e; have := Hg.out; omega)) gG (fun k e => by injection e with e; have := Hg.out; omega), _, _, _, A', dl, c', _, rfl, .inr ⟨Hok.out, _, _, rfl⟩⟩

def OkErr (l : List UInt8) (er : Value) : Prop := (Mh.ok l = true ∧ er = .nilIface) ∨ (Mh.ok l = false ∧ ∃ te xe, er = .iface te xe)
def DdAns (w : World) (l : List UInt8) (e : Ending) (w' : World) : Prop := Below w.heap.size w w' ∧ ∃ (p er : Value), e = .returned (.tuple #[p, er]) ∧ OkErr l er
theorem mhDecode (h : Bs w w.heap.size v l) (he : MErr w) (hlen : l.length ≤ 140737488355328) :
    Calls Tryz.prog 67 #[v] w fun e w' => DdAns w l e w' := by
  have H := Lib.hid h
  have He := Lib.hid he
  clear h he
  go_enter Tryz.func67, Tryz.ntmps67
  go_wp2_with fail
  refine (mhdecode H.out He.out hlen).mono ?_
  rintro e w1 ⟨hb, x, y, s, A', m, c', er, rfl, hans⟩
  have B := Lib.hid hb
  clear hb
  rcases hans with ⟨hok, rfl⟩ | ⟨hok, te, xe, rfl⟩
  · have Hok := Lib.hid hok
    clear hok
    go_wp2_with fail
    go_ret2
    exact ⟨below_trans B.out (below_alloc _ _), _, _, rfl, .inl ⟨Hok.out, rfl⟩⟩
  · have Hok := Lib.hid hok
    clear hok
    go_wp2_with fail
    go_ret2
    exact ⟨below_trans B.out (below_alloc _ _), _, _, rfl, .inr ⟨Hok.out, _, _, rfl⟩⟩
/-- Cast: the bytes themselves, if they are a multihash -/
def CsAns (w : World) (v : Value) (l : List UInt8) (e : Ending) (w' : World) : Prop := Below w.heap.size w w' ∧ ((Mh.ok l = true ∧ e = .returned (.tuple #[v, .nilIface])) ∨ (Mh.ok l = false ∧ ∃ x te xe, e = .returned (.tuple #[x, .iface te xe])))
theorem mhCast (h : Bs w w.heap.size v l) (he : MErr w) (hlen : l.length ≤ 140737488355328) :
    Calls Tryz.prog 49 #[v] w fun e w' => CsAns w v l e w' := by
  obtain ⟨A, n, c, rfl, hn, hc, hm⟩ := h.form'
  have H := Lib.hid h
  have He := Lib.hid he
  clear h he
  go_enter Tryz.func49, Tryz.ntmps49
  go_wp2_with fail
  refine (mhDecode H.out He.out hlen).mono ?_
  rintro e w1 ⟨hb, p, er, rfl, hans⟩
  have B := Lib.hid hb
  clear hb
  rcases hans with ⟨hok, rfl⟩ | ⟨hok, te, xe, rfl⟩
  · have Hok := Lib.hid hok
    clear hok
    go_wp2_with fail
    go_ret2
    exact ⟨B.out, .inl ⟨Hok.out, rfl⟩⟩
  · have Hok := Lib.hid hok
    clear hok
    go_wp2_with fail
    go_ret2
    exact ⟨below_trans B.out (below_alloc _ _), .inr ⟨Hok.out, _, _, _, rfl⟩⟩
def IdAns (w : World) (l : List UInt8) (e : Ending) (w' : World) : Prop := Below w.heap.size w w' ∧ ((Mh.ok l = true ∧ e = .returned (.tuple #[.string (strOf l), .nilIface])) ∨ (Mh.ok l = false ∧ ∃ te xe, e = .returned (.tuple #[.string { data := #[] }, .iface te xe])))
theorem idFromBytes (h : Bs w w.heap.size v l) (he : MErr w) (hlen : l.length ≤ 140737488355328) :
    Calls Tryz.prog 58 #[v] w fun e w' => IdAns w l e w' := by
  have H := Lib.hid h
  have He := Lib.hid he
  clear h he
  go_enter Tryz.func58, Tryz.ntmps58
  go_wp2_with fail
  refine (mhCast H.out He.out hlen).mono ?_
  rintro e w1 ⟨hb, hans⟩
  have B := Lib.hid hb
  rcases hans with ⟨hok, rfl⟩ | ⟨hok, x, te, xe, rfl⟩
  · have Hok := Lib.hid hok
    have hconv := conv_str (H.out.step hb) (dst := 43) Tryz.underlying43
    clear hok hb
    go_wp2_with fail
    go_ret2
    exact ⟨B.out, .inl ⟨Hok.out, rfl⟩⟩
  · have Hok := Lib.hid hok
    clear hok hb
    go_wp2_with fail
    go_ret2
    exact ⟨B.out, .inr ⟨Hok.out, _, _, rfl⟩⟩
/-- PeerOf: the bytes, if they are a multihash -/
def PoAns (w : World) (l : List UInt8) (e : Ending) (w' : World) : Prop := Below w.heap.size w w' ∧ ((Mh.ok l = true ∧ ∃ v', e = .returned (.tuple #[v', .bool true]) ∧ Bs w' w'.heap.size v' l) ∨ (Mh.ok l = false ∧ e = .returned (.tuple #[.slice none 0 0, .bool false])))
theorem peerOf (h : Bs w w.heap.size v l) (he : MErr w) (hlen : l.length ≤ 140737488355328) :
    Calls Tryz.prog 35 #[v] w fun e w' => PoAns w l e w' := by
  have H := Lib.hid h
  have He := Lib.hid he
  clear h he
  go_enter Tryz.func35, Tryz.ntmps35
  go_wp2_with fail
  refine (bytesClone H.out hlen).mono ?_
  rintro e w1 ⟨v1, rfl, ho, hb⟩
  have B := Lib.hid hb
  have X := Lib.hid ho.bs
  clear ho hb
  go_wp2_with fail
  refine (idFromBytes X.out (He.out.step B.out) hlen).mono ?_
  rintro e w2 ⟨hb, hans⟩
  have B2 := Lib.hid (below_trans B.out hb)
  clear hb
  rcases hans with ⟨hok, rfl⟩ | ⟨hok, te, xe, rfl⟩
  · have Hok := Lib.hid hok
    obtain ⟨w3, c, hr, hb, hbl, hc, hm⟩ := conv_bytes w2 l hlen (src := 43) Tryz.underlying43
    have HB := Lib.hid hb
    have Hbl := Lib.hid hbl
    clear hok hb hbl
    go_wp2_with fail
    go_ret2
    exact ⟨below_trans B2.out Hbl.out, .inl ⟨Hok.out, _, rfl, HB.out⟩⟩
  · have Hok := Lib.hid hok
    clear hok
    go_wp2_with fail
    go_ret2
    exact ⟨B2.out, .inr ⟨Hok.out, rfl⟩⟩
end
end Go.Proofs.YteodhonipbdplaaGreatDoor

/- Base 58: the plain text of bytes; no program. -/
namespace Go.Proofs.YteodhonipbdplaaGreatDoor
namespace B58
/-- the number that bytes tell, the greatest ahead; the same of digits to the base of 58 -/
def num (l : List UInt8) : Nat := l.foldl (fun a c => a * 256 + c.toNat) 0
def val (ds : List UInt8) : Nat := ds.foldl (fun a d => a * 58 + d.toNat) 0
theorem num_nil : num [] = 0 := rfl
theorem num_snoc (l : List UInt8) (c : UInt8) : num (l ++ [c]) = num l * 256 + c.toNat := by simp [num, List.foldl_append]
theorem val_snoc (l : List UInt8) (c : UInt8) : val (l ++ [c]) = val l * 58 + c.toNat := by simp [val, List.foldl_append]
theorem val_go (ds : List UInt8) : ∀ a, ds.foldl (fun a d => a * 58 + d.toNat) a = a * 58 ^ ds.length + val ds := by
  induction ds with
  | nil => intro a; simp [val]
  | cons d ds ih =>
    intro a
    unfold val
    rw [List.foldl_cons, List.foldl_cons, ih, ih (0 * 58 + d.toNat), List.length_cons, Nat.pow_succ, Nat.add_mul]
    have : a * 58 * 58 ^ ds.length = a * (58 ^ ds.length * 58) := by rw [Nat.mul_assoc, Nat.mul_comm 58]
    rw [this, Nat.add_assoc]
    simp
theorem val_cons (d : UInt8) (ds : List UInt8) : val (d :: ds) = d.toNat * 58 ^ ds.length + val ds := by
  unfold val; rw [List.foldl_cons, val_go]; simp [val]
theorem num_go (l : List UInt8) : ∀ a, l.foldl (fun a d => a * 256 + d.toNat) a = a * 256 ^ l.length + num l := by
  induction l with
  | nil => intro a; simp [num]
  | cons d l ih =>
    intro a
    unfold num
    rw [List.foldl_cons, List.foldl_cons, ih, ih (0 * 256 + d.toNat), List.length_cons, Nat.pow_succ, Nat.add_mul]
    have : a * 256 * 256 ^ l.length = a * (256 ^ l.length * 256) := by rw [Nat.mul_assoc, Nat.mul_comm 256]
    rw [this, Nat.add_assoc]
    simp
theorem num_cons (d : UInt8) (l : List UInt8) : num (d :: l) = d.toNat * 256 ^ l.length + num l := by
  unfold num; rw [List.foldl_cons, num_go]; simp [num]
theorem num_lt (l : List UInt8) : num l < 256 ^ l.length := by
  induction l with
  | nil => simp [num]
  | cons d l ih =>
    rw [num_cons, List.length_cons, Nat.pow_succ]
    have hd := UInt8.toNat_lt d
    have : d.toNat * 256 ^ l.length ≤ 255 * 256 ^ l.length := Nat.mul_le_mul_right _ (by omega)
    omega
/-- digits that are below 58 -/
def Dig (ds : List UInt8) : Prop := ∀ d ∈ ds, d.toNat < 58
theorem val_lt {ds : List UInt8} (h : Dig ds) : val ds < 58 ^ ds.length := by
  induction ds with
  | nil => simp [val]
  | cons d ds ih =>
    rw [val_cons, List.length_cons, Nat.pow_succ]
    have hd := h d (by simp)
    have h2 := ih fun x hx => h x (by simp [hx])
    have : d.toNat * 58 ^ ds.length ≤ 57 * 58 ^ ds.length := Nat.mul_le_mul_right _ (by omega)
    omega
/-- the digits of a number, without zeros ahead -/
def dig (n : Nat) : List UInt8 := if _h : n = 0 then [] else dig (n / 58) ++ [UInt8.ofNat (n % 58)]
termination_by n
decreasing_by omega
theorem dig_zero : dig 0 = [] := by unfold dig; simp
theorem dig_pos {n : Nat} (h : n ≠ 0) : dig n = dig (n / 58) ++ [UInt8.ofNat (n % 58)] := by
  conv => lhs; unfold dig
  rw [dif_neg h]
theorem toNat_mod (n : Nat) : (UInt8.ofNat (n % 58)).toNat = n % 58 := by
  rw [UInt8.toNat_ofNat']; omega
theorem dig_spec (n : Nat) : Dig (dig n) ∧ val (dig n) = n ∧ n < 58 ^ (dig n).length ∧ (n ≠ 0 → 58 ^ ((dig n).length - 1) ≤ n) := by
  induction n using Nat.strongRecOn with
  | ind n ih =>
    by_cases h : n = 0
    · subst h; rw [dig_zero]; exact ⟨fun d hd => by simp at hd, rfl, by simp, fun h => absurd rfl h⟩
    · obtain ⟨h1, h2, h3, h4⟩ := ih (n / 58) (by omega)
      rw [dig_pos h]
      refine ⟨fun d hd => ?_, ?_, ?_, fun _ => ?_⟩
      · rcases List.mem_append.1 hd with hd | hd
        · exact h1 d hd
        · obtain rfl : d = UInt8.ofNat (n % 58) := by simpa using hd
          rw [toNat_mod]; omega
      · rw [val_snoc, h2, toNat_mod]; omega
      · rw [List.length_append, List.length_singleton, Nat.pow_succ]
        omega
      · rw [List.length_append, List.length_singleton, Nat.add_sub_cancel]
        by_cases h0 : n / 58 = 0
        · rw [h0, dig_zero]; simp; omega
        · have h5 := h4 h0
          have hl : 0 < (dig (n / 58)).length := by rw [dig_pos h0]; simp
          obtain ⟨m, hm⟩ : ∃ m, (dig (n / 58)).length = m + 1 := ⟨(dig (n / 58)).length - 1, by omega⟩
          rw [hm] at h5 ⊢
          rw [Nat.add_sub_cancel] at h5
          rw [Nat.pow_succ]
          omega
theorem ofNat_toNat (d : UInt8) : UInt8.ofNat d.toNat = d := by simp
/-- a list of digits whose number has that many digits -/
theorem dig_of_len : ∀ (L : Nat) (ds : List UInt8), ds.length = L → Dig ds → (ds ≠ [] → 58 ^ (L - 1) ≤ val ds) → ds = dig (val ds) := by
  intro L
  induction L with
  | zero =>
    intro ds hl _ _
    obtain rfl := List.length_eq_zero_iff.1 hl
    show [] = dig 0
    rw [dig_zero]
  | succ L ih =>
    intro ds hl hd hv
    have hne : ds ≠ [] := by intro h; subst h; simp at hl
    obtain ⟨r, d, rfl⟩ : ∃ r d, ds = r ++ [d] := ⟨_, _, (List.dropLast_concat_getLast hne).symm⟩
    have hv := hv hne
    rw [List.length_append, List.length_singleton] at hl
    have hl' : r.length = L := by omega
    have hdd : d.toNat < 58 := hd d (by simp)
    rw [val_snoc] at hv ⊢
    rw [Nat.add_sub_cancel] at hv
    have hdiv : (val r * 58 + d.toNat) / 58 = val r := by omega
    have hmod : (val r * 58 + d.toNat) % 58 = d.toNat := by omega
    have hpos : 0 < 58 ^ L := Nat.pow_pos (by omega)
    have hr := ih r hl' (fun x hx => hd x (by simp [hx])) (fun hne' => by
      obtain ⟨m, rfl⟩ : ∃ m, L = m + 1 := ⟨L - 1, by have : r.length ≠ 0 := fun h => hne' (List.length_eq_zero_iff.1 h); omega⟩
      rw [Nat.pow_succ] at hv
      rw [Nat.add_sub_cancel]
      omega)
    rw [dig_pos (by omega), hdiv, hmod, ofNat_toNat, ← hr]
/-- digits behind those of a number -/
theorem dig_append {n : Nat} (h : n ≠ 0) : ∀ (k : Nat) (ds : List UInt8), ds.length = k → Dig ds → dig (n * 58 ^ ds.length + val ds) = dig n ++ ds := by
  intro k
  induction k with
  | zero =>
    intro ds hl _
    obtain rfl := List.length_eq_zero_iff.1 hl
    simp [val]
  | succ k ih =>
    intro ds hl hd
    have hne : ds ≠ [] := by intro h; subst h; simp at hl
    obtain ⟨r, d, rfl⟩ : ∃ r d, ds = r ++ [d] := ⟨_, _, (List.dropLast_concat_getLast hne).symm⟩
    rw [List.length_append, List.length_singleton] at hl ⊢
    have hdd : d.toNat < 58 := hd d (by simp)
    have hr := ih r (by omega) (fun x hx => hd x (by simp [hx]))
    have e : n * 58 ^ (r.length + 1) + val (r ++ [d]) = (n * 58 ^ r.length + val r) * 58 + d.toNat := by
      rw [val_snoc, Nat.pow_succ, Nat.add_mul, Nat.mul_assoc]; omega
    have hp : 0 < n * 58 ^ r.length := Nat.mul_pos (by omega) (Nat.pow_pos (by omega))
    rw [e, dig_pos (by omega), show ((n * 58 ^ r.length + val r) * 58 + d.toNat) / 58 = n * 58 ^ r.length + val r by omega, hr, show ((n * 58 ^ r.length + val r) * 58 + d.toNat) % 58 = d.toNat by omega, ofNat_toNat, List.append_assoc]

/-- one byte more, from the last digit on: the new digits, and what is carried -/
def step : List UInt8 → Nat → List UInt8 × Nat
  | [], c => ([], c)
  | d :: ds, c => (UInt8.ofNat (((step ds c).2 + d.toNat * 256) % 58) :: (step ds c).1, ((step ds c).2 + d.toNat * 256) / 58)
theorem step_length (ds : List UInt8) (c : Nat) : (step ds c).1.length = ds.length := by
  induction ds with
  | nil => rfl
  | cons d ds ih => simp [step, ih]
theorem step_dig (ds : List UInt8) (c : Nat) : Dig (step ds c).1 := by
  induction ds with
  | nil => intro d hd; simp [step] at hd
  | cons d ds ih =>
    intro x hx
    rcases List.mem_cons.1 hx with rfl | hx
    · rw [toNat_mod]; omega
    · exact ih x hx
theorem step_val (ds : List UInt8) (c : Nat) : (step ds c).2 * 58 ^ ds.length + val (step ds c).1 = val ds * 256 + c := by
  induction ds with
  | nil => simp [step, val]
  | cons d ds ih =>
    unfold step
    simp only [val_cons, toNat_mod, step_length, List.length_cons]
    have hdm := Nat.div_add_mod ((step ds c).2 + d.toNat * 256) 58
    generalize ((step ds c).2 + d.toNat * 256) / 58 = q at *
    generalize ((step ds c).2 + d.toNat * 256) % 58 = r at *
    have h1 : q * 58 ^ (ds.length + 1) + (r * 58 ^ ds.length + val (step ds c).1) = (58 * q + r) * 58 ^ ds.length + val (step ds c).1 := by
      rw [Nat.pow_succ, Nat.add_mul, ← Nat.mul_assoc, Nat.add_assoc]
      congr 1
      rw [Nat.mul_right_comm, Nat.mul_comm q 58]
    rw [h1, hdm, Nat.add_mul, Nat.add_mul]
    have h2 : d.toNat * 256 * 58 ^ ds.length = d.toNat * 58 ^ ds.length * 256 := Nat.mul_right_comm _ _ _
    omega
theorem step_le {ds : List UInt8} (h : Dig ds) {c : Nat} (hc : c ≤ 255) : (step ds c).2 ≤ 255 := by
  induction ds with
  | nil => exact hc
  | cons d ds ih =>
    have h1 := ih fun x hx => h x (by simp [hx])
    have h2 := h d (by simp)
    show ((step ds c).2 + d.toNat * 256) / 58 ≤ 255
    omega
theorem step_append (a b : List UInt8) (c : Nat) : step (a ++ b) c = ((step a (step b c).2).1 ++ (step b c).1, (step a (step b c).2).2) := by
  induction a with
  | nil => rfl
  | cons d a ih => simp only [List.cons_append, step, ih]
theorem step_zeros (n : Nat) : step (List.replicate n 0) 0 = (List.replicate n 0, 0) := by
  induction n with
  | zero => rfl
  | succ n ih => rw [List.replicate_succ]; simp only [step, ih]; rfl
/-- the reference's step: the digits of the number with one byte more -/
theorem dig_step (m c : Nat) : dig (m * 256 + c) = dig (step (dig m) c).2 ++ (step (dig m) c).1 := by
  obtain ⟨h1, h2, h3, h4⟩ := dig_spec m
  have hv := step_val (dig m) c
  rw [h2] at hv
  by_cases hk : (step (dig m) c).2 = 0
  · rw [hk, dig_zero, List.nil_append]
    rw [hk, Nat.zero_mul, Nat.zero_add] at hv
    have hd := dig_of_len _ _ rfl (step_dig (dig m) c) (fun hne => by
      rw [step_length, hv]
      have hm : m ≠ 0 := by
        intro h0; subst h0; rw [dig_zero] at hne; exact hne rfl
      have := h4 hm
      omega)
    rw [hv] at hd
    exact hd.symm
  · rw [← dig_append hk _ _ rfl (step_dig (dig m) c), step_length, hv]

/-- the digits' letters -/
def alpha : List UInt8 := [49, 50, 51, 52, 53, 54, 55, 56, 57, 65, 66, 67, 68, 69, 70, 71, 72, 74, 75, 76, 77, 78, 80, 81, 82, 83, 84, 85, 86, 87, 88, 89, 90, 97, 98, 99, 100, 101, 102, 103, 104, 105, 106, 107, 109, 110, 111, 112, 113, 114, 115, 116, 117, 118, 119, 120, 121, 122]
def letter (d : UInt8) : UInt8 := alpha.getD d.toNat 0
/-- how many zeros stand ahead -/
def zeros (l : List UInt8) : Nat := (l.takeWhile (· == 0)).length
theorem zeros_le (l : List UInt8) : zeros l ≤ l.length := by unfold zeros; exact (List.takeWhile_sublist _).length_le
theorem zeros_take (l : List UInt8) : l.take (zeros l) = List.replicate (zeros l) 0 := by
  unfold zeros
  induction l with
  | nil => rfl
  | cons a l ih =>
    by_cases h : a = 0
    · subst h; simp [List.replicate_succ, ih]
    · simp [h]
theorem zeros_next {l : List UInt8} {k : Nat} (hk : k < l.length) (hz : l.take k = List.replicate k 0) (h : l[k] ≠ 0) : zeros l = k := by
  have e : l = List.replicate k 0 ++ l[k] :: l.drop (k + 1) := by rw [← hz, ← List.drop_eq_getElem_cons hk, List.take_append_drop]
  have hw : l.takeWhile (· == 0) = List.replicate k 0 := by
    conv => lhs; rw [e]
    rw [List.takeWhile_append_of_pos (by intro x hx; rw [(List.mem_replicate.1 hx).2]; rfl)]
    rw [List.takeWhile_cons_of_neg (by simpa using h), List.append_nil]
  unfold zeros
  rw [hw, List.length_replicate]
theorem zeros_all {l : List UInt8} (hz : l.take l.length = List.replicate l.length 0) : zeros l = l.length := by
  rw [List.take_length] at hz
  unfold zeros
  conv => lhs; rw [hz]
  simp
theorem num_zeros (k : Nat) (l : List UInt8) : num (List.replicate k 0 ++ l) = num l := by
  induction k with
  | zero => rfl
  | succ k ih => rw [List.replicate_succ, List.cons_append, num_cons, ih]; simp
theorem num_drop (l : List UInt8) : num (l.drop (zeros l)) = num l := by
  conv => rhs; rw [← List.take_append_drop (zeros l) l, zeros_take, num_zeros]
/-- the text of bytes -/
def enc (l : List UInt8) : List UInt8 := List.replicate (zeros l) 49 ++ (dig (num l)).map letter

/-- enough digits -/
theorem room (n : Nat) : 256 ^ n ≤ 58 ^ (n * 138 / 100 + 1) := by
  have h1 : (256 : Nat) ^ 100 ≤ 58 ^ 138 := by decide
  have h3 : (256 ^ n) ^ 100 = (256 ^ 100) ^ n := by rw [← Nat.pow_mul, ← Nat.pow_mul, Nat.mul_comm]
  have h4 : (58 ^ 138) ^ n ≤ (58 ^ (n * 138 / 100 + 1)) ^ 100 := by
    rw [← Nat.pow_mul, ← Nat.pow_mul]
    exact Nat.pow_le_pow_right (by omega) (by omega)
  have h2 : (256 ^ n) ^ 100 ≤ (58 ^ (n * 138 / 100 + 1)) ^ 100 := h3 ▸ Nat.le_trans (Nat.pow_le_pow_left h1 n) h4
  exact (Nat.pow_le_pow_iff_left (by omega)).1 h2
theorem num_room (l : List UInt8) : num l < 58 ^ (l.length * 138 / 100 + 1) := Nat.lt_of_lt_of_le (num_lt l) (room _)
theorem num_take_le (l : List UInt8) (k : Nat) : num (l.take k) ≤ num l := by
  conv => rhs; rw [← List.take_append_drop k l]
  generalize l.take k = a
  generalize l.drop k = b
  have e : num (a ++ b) = num a * 256 ^ b.length + num b := by
    rw [← num_go b (num a)]; unfold num; rw [List.foldl_append]
  rw [e]
  have : 0 < 256 ^ b.length := Nat.pow_pos (by omega)
  exact Nat.le_trans (Nat.le_mul_of_pos_right _ this) (Nat.le_add_right _ _)
theorem num_succ {l : List UInt8} {k : Nat} (h : k < l.length) : num (l.take (k + 1)) = num (l.take k) * 256 + l[k].toNat := by
  rw [List.take_succ_eq_append_getElem h, num_snoc]
/-- a list of digits with zeros ahead -/
theorem dig_lead {ds : List UInt8} (h : Dig ds) {j : Nat} (hz : ds.take j = List.replicate j 0) (_hj : j ≤ ds.length) (hn : ∀ (hlt : j < ds.length), ds[j] ≠ 0) : ds.drop j = dig (val ds) := by
  have hv : val ds = val (ds.drop j) := by
    conv => lhs; rw [← List.take_append_drop j ds, hz]
    clear hn hz _hj
    generalize ds.drop j = b
    induction j with
    | zero => rfl
    | succ j ih => rw [List.replicate_succ, List.cons_append, val_cons, ih]; simp
  rw [hv]
  refine dig_of_len _ _ rfl (fun x hx => h x (List.mem_of_mem_drop hx)) (fun hne => ?_)
  have hlt : j < ds.length := by
    rcases Nat.lt_or_ge j ds.length with h | h
    · exact h
    · exact absurd (List.drop_eq_nil_of_le h) hne
  have e : ds.drop j = ds[j] :: ds.drop (j + 1) := List.drop_eq_getElem_cons hlt
  rw [e, val_cons, List.length_cons, Nat.add_sub_cancel]
  have : 0 < ds[j].toNat := Nat.pos_of_ne_zero fun h0 => hn hlt (UInt8.toNat_inj.1 h0)
  exact Nat.le_trans (Nat.le_mul_of_pos_left _ this) (Nat.le_add_right _ _)
end B58
end Go.Proofs.YteodhonipbdplaaGreatDoor

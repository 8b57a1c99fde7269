/- The reference's writers: wireVarint, WireNumber, wireBytes, KeyBytes, KeyKind; and the statements' keyNumber, keyField. -/
import Derived.Test.YtcefcdmonfenoaaDoorCon
import Derived.Test.YtcefcdmonfenoaaDoorKl
namespace Go.Proofs.YtcefcdmonfenoaaDoor
open Go.RowKit
set_option maxRecDepth 100000

theorem or128 : ∀ a : Fin 256, a.val ||| 128 = a.val % 128 + 128 := by decide
theorem orb8 (x : Int) (h0 : 0 ≤ x) : Value.int .u8 (bits .or .u8 (x % 256) 128) = bv (UInt8.ofNat (x.toNat % 128 + 128)) := by
  obtain ⟨n, rfl⟩ := Int.eq_ofNat_of_zero_le h0
  have h1 := u8_or_nat (n % 256) 128 (by omega) (by omega)
  have h2 : (n % 256) ||| 128 = n % 256 % 128 + 128 := or128 ⟨n % 256, by omega⟩
  rw [h2] at h1
  have h1' : bits .or .u8 ((n : Int) % 256) 128 = ((n % 256 % 128 + 128 : Nat) : Int) := h1
  rw [h1']
  show Value.int .u8 _ = Value.int .u8 _
  rw [Int.toNat_natCast, Wire.ofNat_toNat (by omega)]
  congr 2
  omega
theorem lit1 {x : Int} {u : UInt8} (h : Value.int .u8 x = bv u) : (#[Value.int .u8 x] : Array Value).toList = bvs [u] := by simp only [bvs, List.map_cons, List.map_nil]; rw [← h]
theorem venc_step {x : Int} (h : 128 ≤ x) : Wire.venc x.toNat = UInt8.ofNat (x.toNat % 128 + 128) :: Wire.venc (x / 128).toNat := by
  rw [Wire.venc_ge (by omega)]
  congr 2
  omega

theorem FreshN.fresh {w w' : World} {l : List UInt8} {e : Ending} (h : FreshN w l e w') : Fresh w l e w' := by
  obtain ⟨v, a, b, c, _⟩ := h; exact ⟨v, a, b, c⟩

set_option maxHeartbeats 1000000 in
theorem wireVarint (w : World) (x : Int) (h0 : 0 ≤ x) (h1 : x < 18446744073709551616) :
    Calls Tryd.prog 68 #[.int .u64 x] w fun e w' => FreshN w (Wire.venc x.toNat) e w' := by
  have H10 := Lib.hid (Wire.venc_length_u64 (n := x.toNat) (by omega))
  go_enter Tryd.func68, Tryd.ntmps68
  go_wp2
  go_loopw [0, 3] (fun s o wr => ∃ (y : Int) (acc : List UInt8), s = .int .u64 y ∧ 0 ≤ y ∧ y < 18446744073709551616 ∧ Hid (Own wr w.heap.size o acc) ∧ Hid (Below w.heap.size w wr) ∧ Hid (acc ++ Wire.venc y.toNat = Wire.venc x.toNat)) (fun s _ _ => (intOf s).toNat)
  case atStart => exact ⟨x, [], rfl, h0, h1, Own.nil _ _, below_refl _, by show _ = _; simp⟩
  case round =>
    clear h1
    obtain ⟨y, acc, rfl, hy0, hy1, ho, hb, he⟩ := hrel
    have hacc : acc.length + 1 ≤ 140737488355328 := by
      have h1 := congrArg List.length he.out
      rw [List.length_append] at h1
      have := H10.out
      omega
    by_cases hlt : 128 ≤ y
    · go_wp2_with (at_builtin; refine wpList_app rfl _ _ rfl (by rfl) (by rfl) (ho.out.alloc _) (Bs.newAt _ _ [_] (lit1 (orb8 y hy0)) (by simp) _ 1 1 rfl rfl rfl) hacc (by have := hb.out.size; simp; omega) ?_; intro v2 w2 ho2 hg2 hn2 hm2)
      go_roundw
      case rel =>
        refine ⟨y / 128, _, rfl, by omega, by omega, ho2, ?_, ?_⟩
        · exact (hb.out.alloc hb.out.size _).trans (below_of_own (ho.out.alloc _) hg2 (by have := hb.out.size; simp; omega))
        · show _ = _
          rw [← he.out, venc_step hlt]; simp
      case measure => simp [intOf]; omega
    · have hv : Wire.venc y.toNat = [UInt8.ofNat y.toNat] := Wire.venc_lt (by omega)
      have Hv := Lib.hid hv
      clear hv
      go_wp2_with (at_builtin; refine wpList_app rfl _ _ rfl (by rfl) (by rfl) (ho.out.alloc _) (Bs.newAt _ _ [UInt8.ofNat y.toNat] (lit1 (u := UInt8.ofNat y.toNat) (by show Value.int .u8 _ = Value.int .u8 _; rw [Wire.ofNat_toNat (by omega)]; congr 1; omega)) (by simp) _ 1 1 rfl rfl rfl) hacc (by have := hb.out.size; simp; omega) ?_; intro v2 w2 ho2 hg2 hn2 hm2)
      go_ret
      refine ⟨_, rfl, ?_, ?_, ?_⟩
      · rw [← he.out, Hv.out]; exact ho2
      · exact (hb.out.alloc hb.out.size _).trans (below_of_own (ho.out.alloc _) hg2 (by have := hb.out.size; simp; omega))
      · exact NN.of_len ho2.bs (by simp)

/-- values that read as bytes, one by one -/
def AllBs (w : World) (B : Nat) : List Value → List (List UInt8) → Prop
  | [], [] => True
  | u :: us, a :: ls => Bs w B u a ∧ AllBs w B us ls
  | _, _ => False
theorem AllBs.length {w : World} {B : Nat} : ∀ {us : List Value} {L : List (List UInt8)}, AllBs w B us L → us.length = L.length
  | [], [], _ => rfl
  | _ :: _, _ :: _, h => by simp [AllBs.length h.2]
theorem AllBs.at_ {w : World} {B : Nat} : ∀ {us : List Value} {L : List (List UInt8)}, AllBs w B us L → ∀ k, (hk : k < L.length) → ∃ u, us[k]? = some u ∧ Bs w B u L[k]
  | [], [], _, k, hk => by simp at hk
  | u :: us, a :: ls, h, 0, _ => ⟨u, rfl, h.1⟩
  | u :: us, a :: ls, h, k + 1, hk => by
    obtain ⟨x, hx, hb⟩ := AllBs.at_ h.2 k (by simpa using hk)
    exact ⟨x, by simpa using hx, by simpa using hb⟩
theorem Bss.lit (w : World) (t : TypeId) (us : List Value) (L : List (List UInt8)) (h : AllBs w w.heap.size us L) (hm : L.length ≤ 9223372036854775807) (g n c : Nat) (hg : w.heap.size = g) (hn : n = L.length) (hc : c = L.length) :
    Bss (w.alloc (.cells us.toArray t)) (w.alloc (.cells us.toArray t)).heap.size (.slice (some ⟨g, 0, none⟩) n c) L :=
  Bss.newAt w t us.toArray L (fun k hk => by simpa using h.at_ k hk) hm g n c hg hn hc

theorem wireNumber (w : World) (x : Int) (h0 : 0 ≤ x) (h1 : x < 18446744073709551616) :
    Calls Tryd.prog 35 #[.int .u64 x] w fun e w' => FreshN w (Wire.venc x.toNat) e w' := by
  have Hc := Lib.hid (wireVarint w x h0 h1)
  clear h0 h1
  go_enter Tryd.func35, Tryd.ntmps35
  go_wp2_with fail
  refine Hc.out.mono ?_
  rintro e w1 ⟨v1, rfl, ho, hb, hn⟩
  go_wp2_with fail
  go_ret
  exact ⟨v1, rfl, ho, hb, hn⟩

/-- a field of bytes whose tag is one byte -/
def fieldEnc (f : Nat) (m : List UInt8) : List UInt8 := UInt8.ofNat (8 * f + 2) :: lenEnc m

theorem tagByte : ∀ f : Fin 16, Value.int .u8 (bits .or .u8 ((f.val : Int) * 8) 2) = bv (UInt8.ofNat (8 * f.val + 2)) := by
  intro f
  obtain ⟨f, hf⟩ := f
  have h1 := u8_or_nat (f * 8) 2 (by omega) (by omega)
  have h2 : ∀ a : Fin 16, (a.val * 8) ||| 2 = a.val * 8 + 2 := by decide
  have h3 := h2 ⟨f, hf⟩
  simp only [] at h3
  rw [h3] at h1
  have h1' : bits .or .u8 ((f : Int) * 8) 2 = ((f * 8 + 2 : Nat) : Int) := by rw [← h1]; simp
  show Value.int .u8 _ = Value.int .u8 _
  simp only []
  rw [h1', Wire.ofNat_toNat (by omega)]
  congr 1
  omega

theorem fieldEnc_length (f : Nat) (m : List UInt8) : (fieldEnc f m).length = 1 + (Wire.venc m.length).length + m.length := by simp [fieldEnc, lenEnc]; omega

/-- the last steps of wireBytes, whatever the length -/
theorem wireBytes_main {w : World} {A : Option Addr} {n c : Nat} {m : List UInt8} (h : Bs w w.heap.size (.slice A n c) m) (hn : n = m.length) (f : Nat) (hf : f < 16) (b : Bool) (hb : ((n : Int) == 0) = false ∨ (n = 0 ∧ b = true)) (hlen : m.length + 20 ≤ 140737488355328) :
    Calls Tryd.prog 69 #[.int .u8 (f : Int), .slice A n c, .bool b] w fun e w' => FreshN w (fieldEnc f m) e w' := by
  have H := Lib.hid h
  have Htag := Lib.hid (tagByte ⟨f, hf⟩)
  have Hv := Lib.hid (show ∀ W : World, Calls Tryd.prog 68 #[.int .u64 (n : Int)] W fun e w' => FreshN W (Wire.venc m.length) e w' from fun W => by
    have := wireVarint W (n : Int) (by omega) (by omega)
    rw [Int.toNat_natCast, hn] at this
    rw [hn]
    exact this)
  have H10 := Lib.hid (show (Wire.venc m.length).length ≤ 10 from Wire.venc_length_u64 (by omega))
  have hn63 : n ≤ 140737488355328 := by omega
  clear h hn
  rcases hb with hcond | ⟨rfl, rfl⟩
  all_goals
    go_enter Tryd.func69, Tryd.ntmps69
    go_wp2_with fail
    refine (Hv.out _).mono ?_
    rintro e w1 ⟨v1, rfl, ho1, hb1, ⟨a1, n1, c1, rfl⟩⟩
    have hba := below_alloc w (.cells #[.int .u8 (bits .or .u8 ((f : Int) * 8) 2)] 5)
    have X0 := Lib.hid ((Bs.newAt w #[.int .u8 (bits .or .u8 ((f : Int) * 8) 2)] [UInt8.ofNat (8 * f + 2)] (lit1 Htag.out) (by simp) _ 1 1 rfl rfl rfl).step hb1)
    have X1 := Lib.hid (ho1.bs)
    have B1 := Lib.hid (below_trans hba hb1)
    have X2 := Lib.hid (H.out.step B1.out)
    clear ho1 hb1 hba
    go_wp2_with fail
    have hbb := fun o => below_alloc w1 o
    refine (concat (Bss.lit w1 23 [_, _, _] [[UInt8.ofNat (8 * f + 2)], _, m] ⟨X0.out, X1.out, X2.out, trivial⟩ (by simp) _ 3 3 rfl rfl rfl) (by have := H10.out; simp; omega)).mono ?_
    rintro e w2 ⟨v2, rfl, ho2, hb2⟩
    have Ho2 := Lib.hid ho2
    have B2 := Lib.hid (below_trans B1.out (below_trans (hbb _) hb2))
    have hsz := B1.out.size
    clear ho2 hb2 hbb
    go_wp2_with fail
    go_ret
    have he : [[UInt8.ofNat (8 * f + 2)], Wire.venc m.length, m].flatten = fieldEnc f m := by
      simp [fieldEnc, lenEnc]
    refine ⟨_, rfl, ?_, B2.out, ?_⟩
    · have := Ho2.out.more (base' := w.heap.size) (by simp; omega)
      rw [he] at this
      exact this
    · refine NN.of_len Ho2.out.bs ?_
      rw [he, fieldEnc_length]; omega

theorem wireBytes {w : World} {v : Value} {m : List UInt8} (h : Bs w w.heap.size v m) (f : Nat) (hf : f < 16) (b : Bool) (hb : b = true ∨ 0 < m.length) (hlen : m.length + 20 ≤ 140737488355328) :
    Calls Tryd.prog 69 #[.int .u8 (f : Int), v, .bool b] w fun e w' => FreshN w (fieldEnc f m) e w' := by
  obtain ⟨A, c, rfl, hlc, hc63⟩ := h.form
  refine wireBytes_main h rfl f hf b ?_ hlen
  rcases Nat.eq_zero_or_pos m.length with h0 | h0
  · right; exact ⟨h0, by rcases hb with hb | hb; exact hb; omega⟩
  · left; exact i8_ne (by omega)
theorem wireBytes_none {w : World} {v : Value} (h : Bs w w.heap.size v []) (f : Int) :
    Calls Tryd.prog 69 #[.int .u8 f, v, .bool false] w fun e w' => e = .returned (.slice none 0 0) ∧ w = w' := by
  obtain ⟨A, c, rfl, hlc, hc63⟩ := h.form
  clear h hlc
  go_enter Tryd.func69, Tryd.ntmps69
  go_wp2
  go_ret
  exact ⟨rfl, rfl⟩
end Go.Proofs.YtcefcdmonfenoaaDoor

/- The writers of protowire: AppendVarint's contract whole, AppendTag, AppendBytes. -/
import Derived.Test.YtcefcdmonfenoaaDoorAv
namespace Go.Proofs.YtcefcdmonfenoaaDoor
open Go.RowKit
set_option maxRecDepth 100000

theorem appendVarint {w : World} {base : Nat} {v : Value} {l : List UInt8} (hown : Own w base v l) (hb : base ≤ w.heap.size) (x : Int) (h0 : 0 ≤ x) (h1 : x < 18446744073709551616) (hlen : l.length + 10 ≤ 140737488355328) :
    Calls Tryd.prog 92 #[v, .int .u64 x] w fun e w' => appAns w base v (l ++ Wire.venc x.toNat) e w' := by
  obtain ⟨n, hn⟩ := Int.eq_ofNat_of_zero_le h0
  by_cases c1 : x < 128
  · exact av1 hown hb x (by omega) c1 (by omega) (by rw [hn, Int.toNat_natCast, ← bvs_length, ← enc1n n (by omega) (by omega)]; rfl)
  by_cases c2 : x < 16384
  · exact av2 hown hb x (by omega) c2 (by omega) (by rw [hn, Int.toNat_natCast, ← bvs_length, ← enc2n n (by omega) (by omega)]; rfl)
  by_cases c3 : x < 2097152
  · exact av3 hown hb x (by omega) c3 (by omega) (by rw [hn, Int.toNat_natCast, ← bvs_length, ← enc3n n (by omega) (by omega)]; rfl)
  by_cases c4 : x < 268435456
  · exact av4 hown hb x (by omega) c4 (by omega) (by rw [hn, Int.toNat_natCast, ← bvs_length, ← enc4n n (by omega) (by omega)]; rfl)
  by_cases c5 : x < 34359738368
  · exact av5 hown hb x (by omega) c5 (by omega) (by rw [hn, Int.toNat_natCast, ← bvs_length, ← enc5n n (by omega) (by omega)]; rfl)
  by_cases c6 : x < 4398046511104
  · exact av6 hown hb x (by omega) c6 (by omega) (by rw [hn, Int.toNat_natCast, ← bvs_length, ← enc6n n (by omega) (by omega)]; rfl)
  by_cases c7 : x < 562949953421312
  · exact av7 hown hb x (by omega) c7 (by omega) (by rw [hn, Int.toNat_natCast, ← bvs_length, ← enc7n n (by omega) (by omega)]; rfl)
  by_cases c8 : x < 72057594037927936
  · exact av8 hown hb x (by omega) c8 (by omega) (by rw [hn, Int.toNat_natCast, ← bvs_length, ← enc8n n (by omega) (by omega)]; rfl)
  by_cases c9 : x < 9223372036854775808
  · exact av9 hown hb x (by omega) c9 (by omega) (by rw [hn, Int.toNat_natCast, ← bvs_length, ← enc9n n (by omega) (by omega)]; rfl)
  exact av10 hown hb x (by omega) h1 (by omega) (by rw [hn, Int.toNat_natCast, ← bvs_length, ← enc10n n (by omega) (by omega)]; rfl)

def u64Ans (n : Int) (e : Ending) : Prop := e = .returned (.int .u64 n)
/-- the tags that are written -/
def TagOk (num typ : Int) : Prop := (num = 1 ∧ typ = 0) ∨ (num = 1 ∧ typ = 2) ∨ (num = 2 ∧ typ = 0) ∨ (num = 2 ∧ typ = 2) ∨ (num = 3 ∧ typ = 2) ∨ (num = 5 ∧ typ = 2)

theorem encodeTag {w : World} {num typ : Int} (h : TagOk num typ) :
    Calls Tryd.prog 107 #[.int .i32 num, .int .i8 typ] w fun e w' => u64Ans (num * 8 + typ) e ∧ w = w' := by
  rcases h with ⟨rfl, rfl⟩ | ⟨rfl, rfl⟩ | ⟨rfl, rfl⟩ | ⟨rfl, rfl⟩ | ⟨rfl, rfl⟩ | ⟨rfl, rfl⟩
  all_goals
    go_enter Tryd.func107, Tryd.ntmps107
    go_wp2
    go_ret
    exact ⟨rfl, rfl⟩

theorem appendTag {w : World} {base : Nat} {v : Value} {l : List UInt8} (hown : Own w base v l) (hb : base ≤ w.heap.size) {num typ : Int} (h : TagOk num typ) (hlen : l.length + 10 ≤ 140737488355328) :
    Calls Tryd.prog 90 #[v, .int .i32 num, .int .i8 typ] w fun e w' => appAns w base v (l ++ [UInt8.ofNat (num * 8 + typ).toNat]) e w' := by
  have h8 : 0 ≤ num * 8 + typ ∧ num * 8 + typ < 128 := by unfold TagOk at h; omega
  have hv : Wire.venc (num * 8 + typ).toNat = [UInt8.ofNat (num * 8 + typ).toNat] := Wire.venc_lt (by omega)
  have Hc := Lib.hid (appendVarint hown hb (num * 8 + typ) h8.1 (by omega) hlen)
  have Hv := Lib.hid hv
  have H := Lib.hid h
  clear hv h
  go_enter Tryd.func90, Tryd.ntmps90
  go_wp2_with (first | (go_at_call 107; refine (encodeTag H.out).mono ?_; rintro e w' ⟨rfl, rfl⟩) | (go_at_call 92; refine (Hc.out).mono ?_; rintro e w' ⟨v', rfl, ho, hg, hnn, hmv⟩))
  go_ret
  exact ⟨v', rfl, by rw [← Hv.out]; exact ho, hg, hnn, hmv⟩

/-- a length and the bytes behind it -/
def lenEnc (m : List UInt8) : List UInt8 := Wire.venc m.length ++ m

theorem appendBytes {w : World} {base : Nat} {v y : Value} {l m : List UInt8} {B : Nat} (hown : Own w base v l) (hb : base ≤ w.heap.size) (hm : Bs w B y m) (hBw : B ≤ w.heap.size) (hne : ∀ g, v.ownBlock = some g → B ≤ g) (hlen : l.length + m.length + 10 ≤ 140737488355328) :
    Calls Tryd.prog 91 #[v, y] w fun e w' => appAns w base v (l ++ lenEnc m) e w' := by
  have hx : (m.length : Int) < 18446744073709551616 := by omega
  have Hc := Lib.hid (appendVarint hown hb (m.length : Int) (by omega) hx (by omega))
  have hv10 : (Wire.venc m.length).length ≤ 10 := Wire.venc_length_u64 (by omega)
  obtain ⟨A, c, rfl, hlc, hc63⟩ := hm.form
  have Hm := Lib.hid hm
  clear hm hx
  go_enter Tryd.func91, Tryd.ntmps91
  go_wp2_with (first
    | (go_at_call 92; refine (Hc.out).mono ?_; rintro e w' ⟨v', rfl, ho, hg, hnn, hmv⟩; have hy := Lib.hid (Hm.out.grown hg hBw hne); rw [Int.toNat_natCast] at ho)
    | (at_builtin; refine wpList_app rfl _ _ rfl (by rfl) (by rfl) ho hy.out (by rw [List.length_append]; omega) (Nat.le_trans hb hg.size) ?_; intro v2 w2 ho2 hg2 hnn2 hmv2))
  go_ret
  exact ⟨v2, rfl, by unfold lenEnc; rw [← List.append_assoc]; exact ho2, grown_trans hg hmv hg2, hnn2 hnn, hmv.trans hmv2 hg.size⟩
end Go.Proofs.YtcefcdmonfenoaaDoor

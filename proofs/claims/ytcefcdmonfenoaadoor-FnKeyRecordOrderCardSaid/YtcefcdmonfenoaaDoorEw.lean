/- record/pb: Envelope.Marshal. (Printed by gen_ew.py.) -/
import Derived.Test.YtcefcdmonfenoaaDoorEu
import Derived.Test.YtcefcdmonfenoaaDoorKi
namespace Go.Proofs.YtcefcdmonfenoaaDoor
open Go.RowKit
set_option maxRecDepth 100000

/-- bytes and no error; nil, if there are none -/
def BytesOk0 (w : World) (l : List UInt8) (e : Ending) (w' : World) : Prop := ∃ v', e = .returned (.tuple #[v', .nilIface]) ∧ Own w' w.heap.size v' l ∧ Below w.heap.size w w'

/-- the key that is written, where it lies -/
def KeyFull (w : World) (pk : Option Addr) (E : EV) : Prop :=
  (E.has = false ∧ pk = none) ∨ (E.has = true ∧ ∃ gk gt A n c, pk = some ⟨gk, 0, none⟩ ∧ Blk w gk 89 #[.pointer (some ⟨gt, 0, none⟩), .slice A n c] ∧ w.cell? ⟨gt, 0, none⟩ = some (.int .i32 E.kind) ∧ Bs w w.heap.size (.slice A n c) E.key ∧ NN (.slice A n c))

section
variable {w : World} {g : Nat} {pk : Option Addr} {E : EV} {A1 A2 A3 : Option Addr} {n1 n2 n3 c1 c2 c3 : Nat}
theorem bs_len {B : Nat} {A : Option Addr} {n c : Nat} {l : List UInt8} (h : Bs w B (.slice A n c) l) : n = l.length := by
  obtain ⟨A', c', e, _⟩ := h
  injection e
theorem bs_len0 {B : Nat} {A : Option Addr} {c : Nat} {l : List UInt8} (h : Bs w B (.slice A 0 c) l) : l = [] := List.length_eq_zero_iff.1 (bs_len h).symm
theorem fieldEnc_le' (f : Nat) (d : List UInt8) (hd : d.length < 2 ^ 64) : (fieldEnc f d).length ≤ d.length + 11 := by
  have h2 : (Wire.venc d.length).length ≤ 10 := Wire.venc_length_u64 hd
  rw [fieldEnc_length]; omega
theorem envMarshal_0000 (hb : Blk w g 110 #[.pointer pk, .slice A1 n1 c1, .slice A2 n2 c2, .slice A3 n3 c3]) (hk : KeyFull w pk E) (hh : E.has = false) (h1 : Bs w w.heap.size (.slice A1 n1 c1) E.ty) (z1 : n1 = 0) (l1 : E.ty.length ≤ 1000000000) (h2 : Bs w w.heap.size (.slice A2 n2 c2) E.pay) (z2 : n2 = 0) (l2 : E.pay.length ≤ 1000000000) (h3 : Bs w w.heap.size (.slice A3 n3 c3) E.sig) (z3 : n3 = 0) (l3 : E.sig.length ≤ 1000000000) (lk : E.key.length ≤ 1000000000) (k1 : -2147483648 ≤ E.kind) (k2 : E.kind ≤ 2147483647) :
    Calls Tryd.prog 81 #[.pointer (some ⟨g, 0, none⟩)] w fun e w' => BytesOk0 w (envEnc E) e w' := by
  subst z1
  have e1 := bs_len0 h1
  subst z2
  have e2 := bs_len0 h2
  subst z3
  have e3 := bs_len0 h3
  have Henc := Lib.hid (show envEnc E = [] by
    unfold envEnc envKeyF optF
    rw [if_neg (by rw [hh]; simp), if_pos e1, if_pos e2, if_pos e3]
    simp)
  rcases hk with ⟨hf, rfl⟩ | ⟨hf, gk, gt, Ak, nk, ck, rfl, hbk, hkt, hkd, hkn⟩
  rotate_left
  · rw [hh] at hf; cases hf
  have Hb := Lib.hid hb
  have c0 : w.cell? ⟨g, 0, none⟩ = some (.pointer none) := hb.cell 0
  have cc1 : w.cell? ⟨g, 1, none⟩ = some (.slice A1 0 c1) := hb.cell 1
  have H1 := Lib.hid h1
  clear h1 e1
  have cc2 : w.cell? ⟨g, 2, none⟩ = some (.slice A2 0 c2) := hb.cell 2
  have H2 := Lib.hid h2
  clear h2 e2
  have cc3 : w.cell? ⟨g, 3, none⟩ = some (.slice A3 0 c3) := hb.cell 3
  have H3 := Lib.hid h3
  clear h3 e3
  clear hb hf hh
  go_enter Tryd.func81, Tryd.ntmps81
  go_wp2_with fail
  go_ret2
  refine ⟨_, rfl, ?_, (Lib.hid (below_refl w)).out⟩
  rw [Henc.out]
  have := (Own.nil w w.heap.size)
  simpa [fieldEnc, List.append_assoc] using this

theorem envMarshal_0100 (hb : Blk w g 110 #[.pointer pk, .slice A1 n1 c1, .slice A2 n2 c2, .slice A3 n3 c3]) (hk : KeyFull w pk E) (hh : E.has = false) (h1 : Bs w w.heap.size (.slice A1 n1 c1) E.ty) (z1 : 0 < n1) (l1 : E.ty.length ≤ 1000000000) (h2 : Bs w w.heap.size (.slice A2 n2 c2) E.pay) (z2 : n2 = 0) (l2 : E.pay.length ≤ 1000000000) (h3 : Bs w w.heap.size (.slice A3 n3 c3) E.sig) (z3 : n3 = 0) (l3 : E.sig.length ≤ 1000000000) (lk : E.key.length ≤ 1000000000) (k1 : -2147483648 ≤ E.kind) (k2 : E.kind ≤ 2147483647) :
    Calls Tryd.prog 81 #[.pointer (some ⟨g, 0, none⟩)] w fun e w' => BytesOk0 w (envEnc E) e w' := by
  have e1 : E.ty ≠ [] := fun h => by have := bs_len h1; rw [h] at this; simp at this; omega
  subst z2
  have e2 := bs_len0 h2
  subst z3
  have e3 := bs_len0 h3
  have Henc := Lib.hid (show envEnc E = fieldEnc 2 E.ty by
    unfold envEnc envKeyF optF
    rw [if_neg (by rw [hh]; simp), if_neg e1, if_pos e2, if_pos e3]
    simp)
  rcases hk with ⟨hf, rfl⟩ | ⟨hf, gk, gt, Ak, nk, ck, rfl, hbk, hkt, hkd, hkn⟩
  rotate_left
  · rw [hh] at hf; cases hf
  have Hb := Lib.hid hb
  have t1 : (Wire.venc E.ty.length).length ≤ 10 := Wire.venc_length_u64 (by omega)
  have c0 : w.cell? ⟨g, 0, none⟩ = some (.pointer none) := hb.cell 0
  have cc1 : w.cell? ⟨g, 1, none⟩ = some (.slice A1 n1 c1) := hb.cell 1
  have H1 := Lib.hid h1
  clear h1 e1
  have cc2 : w.cell? ⟨g, 2, none⟩ = some (.slice A2 0 c2) := hb.cell 2
  have H2 := Lib.hid h2
  clear h2 e2
  have cc3 : w.cell? ⟨g, 3, none⟩ = some (.slice A3 0 c3) := hb.cell 3
  have H3 := Lib.hid h3
  clear h3 e3
  clear hb hf hh
  go_enter Tryd.func81, Tryd.ntmps81
  go_wp2_with fail
  refine (appendTag (Own.nil w w.heap.size) (Lib.hid (below_refl w)).out.size (num := 2) (typ := 2) (by unfold TagOk; omega) (by simp [lenEnc] <;> omega)).mono ?_
  rintro e w1 ⟨v1, rfl, ho1, hg1, hn1, hm1⟩
  have bl1 := Lib.hid ((Lib.hid (below_refl w)).out.trans (below_of_own (Own.nil w w.heap.size) hg1 (Lib.hid (below_refl w)).out.size))
  have d01 : w1.cell? ⟨g, 0, none⟩ = some (.pointer none) := (Hb.out.step bl1.out).cell 0
  have d11 : w1.cell? ⟨g, 1, none⟩ = some (.slice A1 n1 c1) := (Hb.out.step bl1.out).cell 1
  have d21 : w1.cell? ⟨g, 2, none⟩ = some (.slice A2 0 c2) := (Hb.out.step bl1.out).cell 2
  have d31 : w1.cell? ⟨g, 3, none⟩ = some (.slice A3 0 c3) := (Hb.out.step bl1.out).cell 3
  go_wp2_with fail
  refine (appendBytes ho1 bl1.out.size (H1.out.below bl1.out) bl1.out.size (fun g e => (ho1.lt g e).1) (by simp [lenEnc] <;> omega)).mono ?_
  rintro e w2 ⟨v2, rfl, ho2, hg2, hn2, hm2⟩
  have bl2 := Lib.hid (bl1.out.trans (below_of_own ho1 hg2 bl1.out.size))
  have d02 : w2.cell? ⟨g, 0, none⟩ = some (.pointer none) := (Hb.out.step bl2.out).cell 0
  have d12 : w2.cell? ⟨g, 1, none⟩ = some (.slice A1 n1 c1) := (Hb.out.step bl2.out).cell 1
  have d22 : w2.cell? ⟨g, 2, none⟩ = some (.slice A2 0 c2) := (Hb.out.step bl2.out).cell 2
  have d32 : w2.cell? ⟨g, 3, none⟩ = some (.slice A3 0 c3) := (Hb.out.step bl2.out).cell 3
  go_wp2_with fail
  go_ret2
  refine ⟨_, rfl, ?_, bl2.out⟩
  rw [Henc.out]
  have := ho2
  simpa [fieldEnc, List.append_assoc] using this

theorem envMarshal_0010 (hb : Blk w g 110 #[.pointer pk, .slice A1 n1 c1, .slice A2 n2 c2, .slice A3 n3 c3]) (hk : KeyFull w pk E) (hh : E.has = false) (h1 : Bs w w.heap.size (.slice A1 n1 c1) E.ty) (z1 : n1 = 0) (l1 : E.ty.length ≤ 1000000000) (h2 : Bs w w.heap.size (.slice A2 n2 c2) E.pay) (z2 : 0 < n2) (l2 : E.pay.length ≤ 1000000000) (h3 : Bs w w.heap.size (.slice A3 n3 c3) E.sig) (z3 : n3 = 0) (l3 : E.sig.length ≤ 1000000000) (lk : E.key.length ≤ 1000000000) (k1 : -2147483648 ≤ E.kind) (k2 : E.kind ≤ 2147483647) :
    Calls Tryd.prog 81 #[.pointer (some ⟨g, 0, none⟩)] w fun e w' => BytesOk0 w (envEnc E) e w' := by
  subst z1
  have e1 := bs_len0 h1
  have e2 : E.pay ≠ [] := fun h => by have := bs_len h2; rw [h] at this; simp at this; omega
  subst z3
  have e3 := bs_len0 h3
  have Henc := Lib.hid (show envEnc E = fieldEnc 3 E.pay by
    unfold envEnc envKeyF optF
    rw [if_neg (by rw [hh]; simp), if_pos e1, if_neg e2, if_pos e3]
    simp)
  rcases hk with ⟨hf, rfl⟩ | ⟨hf, gk, gt, Ak, nk, ck, rfl, hbk, hkt, hkd, hkn⟩
  rotate_left
  · rw [hh] at hf; cases hf
  have Hb := Lib.hid hb
  have t2 : (Wire.venc E.pay.length).length ≤ 10 := Wire.venc_length_u64 (by omega)
  have c0 : w.cell? ⟨g, 0, none⟩ = some (.pointer none) := hb.cell 0
  have cc1 : w.cell? ⟨g, 1, none⟩ = some (.slice A1 0 c1) := hb.cell 1
  have H1 := Lib.hid h1
  clear h1 e1
  have cc2 : w.cell? ⟨g, 2, none⟩ = some (.slice A2 n2 c2) := hb.cell 2
  have H2 := Lib.hid h2
  clear h2 e2
  have cc3 : w.cell? ⟨g, 3, none⟩ = some (.slice A3 0 c3) := hb.cell 3
  have H3 := Lib.hid h3
  clear h3 e3
  clear hb hf hh
  go_enter Tryd.func81, Tryd.ntmps81
  go_wp2_with fail
  refine (appendTag (Own.nil w w.heap.size) (Lib.hid (below_refl w)).out.size (num := 3) (typ := 2) (by unfold TagOk; omega) (by simp [lenEnc] <;> omega)).mono ?_
  rintro e w1 ⟨v1, rfl, ho1, hg1, hn1, hm1⟩
  have bl1 := Lib.hid ((Lib.hid (below_refl w)).out.trans (below_of_own (Own.nil w w.heap.size) hg1 (Lib.hid (below_refl w)).out.size))
  have d01 : w1.cell? ⟨g, 0, none⟩ = some (.pointer none) := (Hb.out.step bl1.out).cell 0
  have d11 : w1.cell? ⟨g, 1, none⟩ = some (.slice A1 0 c1) := (Hb.out.step bl1.out).cell 1
  have d21 : w1.cell? ⟨g, 2, none⟩ = some (.slice A2 n2 c2) := (Hb.out.step bl1.out).cell 2
  have d31 : w1.cell? ⟨g, 3, none⟩ = some (.slice A3 0 c3) := (Hb.out.step bl1.out).cell 3
  go_wp2_with fail
  refine (appendBytes ho1 bl1.out.size (H2.out.below bl1.out) bl1.out.size (fun g e => (ho1.lt g e).1) (by simp [lenEnc] <;> omega)).mono ?_
  rintro e w2 ⟨v2, rfl, ho2, hg2, hn2, hm2⟩
  have bl2 := Lib.hid (bl1.out.trans (below_of_own ho1 hg2 bl1.out.size))
  have d02 : w2.cell? ⟨g, 0, none⟩ = some (.pointer none) := (Hb.out.step bl2.out).cell 0
  have d12 : w2.cell? ⟨g, 1, none⟩ = some (.slice A1 0 c1) := (Hb.out.step bl2.out).cell 1
  have d22 : w2.cell? ⟨g, 2, none⟩ = some (.slice A2 n2 c2) := (Hb.out.step bl2.out).cell 2
  have d32 : w2.cell? ⟨g, 3, none⟩ = some (.slice A3 0 c3) := (Hb.out.step bl2.out).cell 3
  go_wp2_with fail
  go_ret2
  refine ⟨_, rfl, ?_, bl2.out⟩
  rw [Henc.out]
  have := ho2
  simpa [fieldEnc, List.append_assoc] using this

theorem envMarshal_0110 (hb : Blk w g 110 #[.pointer pk, .slice A1 n1 c1, .slice A2 n2 c2, .slice A3 n3 c3]) (hk : KeyFull w pk E) (hh : E.has = false) (h1 : Bs w w.heap.size (.slice A1 n1 c1) E.ty) (z1 : 0 < n1) (l1 : E.ty.length ≤ 1000000000) (h2 : Bs w w.heap.size (.slice A2 n2 c2) E.pay) (z2 : 0 < n2) (l2 : E.pay.length ≤ 1000000000) (h3 : Bs w w.heap.size (.slice A3 n3 c3) E.sig) (z3 : n3 = 0) (l3 : E.sig.length ≤ 1000000000) (lk : E.key.length ≤ 1000000000) (k1 : -2147483648 ≤ E.kind) (k2 : E.kind ≤ 2147483647) :
    Calls Tryd.prog 81 #[.pointer (some ⟨g, 0, none⟩)] w fun e w' => BytesOk0 w (envEnc E) e w' := by
  have e1 : E.ty ≠ [] := fun h => by have := bs_len h1; rw [h] at this; simp at this; omega
  have e2 : E.pay ≠ [] := fun h => by have := bs_len h2; rw [h] at this; simp at this; omega
  subst z3
  have e3 := bs_len0 h3
  have Henc := Lib.hid (show envEnc E = fieldEnc 2 E.ty ++ fieldEnc 3 E.pay by
    unfold envEnc envKeyF optF
    rw [if_neg (by rw [hh]; simp), if_neg e1, if_neg e2, if_pos e3]
    simp)
  rcases hk with ⟨hf, rfl⟩ | ⟨hf, gk, gt, Ak, nk, ck, rfl, hbk, hkt, hkd, hkn⟩
  rotate_left
  · rw [hh] at hf; cases hf
  have Hb := Lib.hid hb
  have t1 : (Wire.venc E.ty.length).length ≤ 10 := Wire.venc_length_u64 (by omega)
  have t2 : (Wire.venc E.pay.length).length ≤ 10 := Wire.venc_length_u64 (by omega)
  have c0 : w.cell? ⟨g, 0, none⟩ = some (.pointer none) := hb.cell 0
  have cc1 : w.cell? ⟨g, 1, none⟩ = some (.slice A1 n1 c1) := hb.cell 1
  have H1 := Lib.hid h1
  clear h1 e1
  have cc2 : w.cell? ⟨g, 2, none⟩ = some (.slice A2 n2 c2) := hb.cell 2
  have H2 := Lib.hid h2
  clear h2 e2
  have cc3 : w.cell? ⟨g, 3, none⟩ = some (.slice A3 0 c3) := hb.cell 3
  have H3 := Lib.hid h3
  clear h3 e3
  clear hb hf hh
  go_enter Tryd.func81, Tryd.ntmps81
  go_wp2_with fail
  refine (appendTag (Own.nil w w.heap.size) (Lib.hid (below_refl w)).out.size (num := 2) (typ := 2) (by unfold TagOk; omega) (by simp [lenEnc] <;> omega)).mono ?_
  rintro e w1 ⟨v1, rfl, ho1, hg1, hn1, hm1⟩
  have bl1 := Lib.hid ((Lib.hid (below_refl w)).out.trans (below_of_own (Own.nil w w.heap.size) hg1 (Lib.hid (below_refl w)).out.size))
  have d01 : w1.cell? ⟨g, 0, none⟩ = some (.pointer none) := (Hb.out.step bl1.out).cell 0
  have d11 : w1.cell? ⟨g, 1, none⟩ = some (.slice A1 n1 c1) := (Hb.out.step bl1.out).cell 1
  have d21 : w1.cell? ⟨g, 2, none⟩ = some (.slice A2 n2 c2) := (Hb.out.step bl1.out).cell 2
  have d31 : w1.cell? ⟨g, 3, none⟩ = some (.slice A3 0 c3) := (Hb.out.step bl1.out).cell 3
  go_wp2_with fail
  refine (appendBytes ho1 bl1.out.size (H1.out.below bl1.out) bl1.out.size (fun g e => (ho1.lt g e).1) (by simp [lenEnc] <;> omega)).mono ?_
  rintro e w2 ⟨v2, rfl, ho2, hg2, hn2, hm2⟩
  have bl2 := Lib.hid (bl1.out.trans (below_of_own ho1 hg2 bl1.out.size))
  have d02 : w2.cell? ⟨g, 0, none⟩ = some (.pointer none) := (Hb.out.step bl2.out).cell 0
  have d12 : w2.cell? ⟨g, 1, none⟩ = some (.slice A1 n1 c1) := (Hb.out.step bl2.out).cell 1
  have d22 : w2.cell? ⟨g, 2, none⟩ = some (.slice A2 n2 c2) := (Hb.out.step bl2.out).cell 2
  have d32 : w2.cell? ⟨g, 3, none⟩ = some (.slice A3 0 c3) := (Hb.out.step bl2.out).cell 3
  go_wp2_with fail
  refine (appendTag ho2 bl2.out.size (num := 3) (typ := 2) (by unfold TagOk; omega) (by simp [lenEnc] <;> omega)).mono ?_
  rintro e w3 ⟨v3, rfl, ho3, hg3, hn3, hm3⟩
  have bl3 := Lib.hid (bl2.out.trans (below_of_own ho2 hg3 bl2.out.size))
  have d03 : w3.cell? ⟨g, 0, none⟩ = some (.pointer none) := (Hb.out.step bl3.out).cell 0
  have d13 : w3.cell? ⟨g, 1, none⟩ = some (.slice A1 n1 c1) := (Hb.out.step bl3.out).cell 1
  have d23 : w3.cell? ⟨g, 2, none⟩ = some (.slice A2 n2 c2) := (Hb.out.step bl3.out).cell 2
  have d33 : w3.cell? ⟨g, 3, none⟩ = some (.slice A3 0 c3) := (Hb.out.step bl3.out).cell 3
  go_wp2_with fail
  refine (appendBytes ho3 bl3.out.size (H2.out.below bl3.out) bl3.out.size (fun g e => (ho3.lt g e).1) (by simp [lenEnc] <;> omega)).mono ?_
  rintro e w4 ⟨v4, rfl, ho4, hg4, hn4, hm4⟩
  have bl4 := Lib.hid (bl3.out.trans (below_of_own ho3 hg4 bl3.out.size))
  have d04 : w4.cell? ⟨g, 0, none⟩ = some (.pointer none) := (Hb.out.step bl4.out).cell 0
  have d14 : w4.cell? ⟨g, 1, none⟩ = some (.slice A1 n1 c1) := (Hb.out.step bl4.out).cell 1
  have d24 : w4.cell? ⟨g, 2, none⟩ = some (.slice A2 n2 c2) := (Hb.out.step bl4.out).cell 2
  have d34 : w4.cell? ⟨g, 3, none⟩ = some (.slice A3 0 c3) := (Hb.out.step bl4.out).cell 3
  go_wp2_with fail
  go_ret2
  refine ⟨_, rfl, ?_, bl4.out⟩
  rw [Henc.out]
  have := ho4
  simpa [fieldEnc, List.append_assoc] using this

theorem envMarshal_0001 (hb : Blk w g 110 #[.pointer pk, .slice A1 n1 c1, .slice A2 n2 c2, .slice A3 n3 c3]) (hk : KeyFull w pk E) (hh : E.has = false) (h1 : Bs w w.heap.size (.slice A1 n1 c1) E.ty) (z1 : n1 = 0) (l1 : E.ty.length ≤ 1000000000) (h2 : Bs w w.heap.size (.slice A2 n2 c2) E.pay) (z2 : n2 = 0) (l2 : E.pay.length ≤ 1000000000) (h3 : Bs w w.heap.size (.slice A3 n3 c3) E.sig) (z3 : 0 < n3) (l3 : E.sig.length ≤ 1000000000) (lk : E.key.length ≤ 1000000000) (k1 : -2147483648 ≤ E.kind) (k2 : E.kind ≤ 2147483647) :
    Calls Tryd.prog 81 #[.pointer (some ⟨g, 0, none⟩)] w fun e w' => BytesOk0 w (envEnc E) e w' := by
  subst z1
  have e1 := bs_len0 h1
  subst z2
  have e2 := bs_len0 h2
  have e3 : E.sig ≠ [] := fun h => by have := bs_len h3; rw [h] at this; simp at this; omega
  have Henc := Lib.hid (show envEnc E = fieldEnc 5 E.sig by
    unfold envEnc envKeyF optF
    rw [if_neg (by rw [hh]; simp), if_pos e1, if_pos e2, if_neg e3]
    simp)
  rcases hk with ⟨hf, rfl⟩ | ⟨hf, gk, gt, Ak, nk, ck, rfl, hbk, hkt, hkd, hkn⟩
  rotate_left
  · rw [hh] at hf; cases hf
  have Hb := Lib.hid hb
  have t3 : (Wire.venc E.sig.length).length ≤ 10 := Wire.venc_length_u64 (by omega)
  have c0 : w.cell? ⟨g, 0, none⟩ = some (.pointer none) := hb.cell 0
  have cc1 : w.cell? ⟨g, 1, none⟩ = some (.slice A1 0 c1) := hb.cell 1
  have H1 := Lib.hid h1
  clear h1 e1
  have cc2 : w.cell? ⟨g, 2, none⟩ = some (.slice A2 0 c2) := hb.cell 2
  have H2 := Lib.hid h2
  clear h2 e2
  have cc3 : w.cell? ⟨g, 3, none⟩ = some (.slice A3 n3 c3) := hb.cell 3
  have H3 := Lib.hid h3
  clear h3 e3
  clear hb hf hh
  go_enter Tryd.func81, Tryd.ntmps81
  go_wp2_with fail
  refine (appendTag (Own.nil w w.heap.size) (Lib.hid (below_refl w)).out.size (num := 5) (typ := 2) (by unfold TagOk; omega) (by simp [lenEnc] <;> omega)).mono ?_
  rintro e w1 ⟨v1, rfl, ho1, hg1, hn1, hm1⟩
  have bl1 := Lib.hid ((Lib.hid (below_refl w)).out.trans (below_of_own (Own.nil w w.heap.size) hg1 (Lib.hid (below_refl w)).out.size))
  have d01 : w1.cell? ⟨g, 0, none⟩ = some (.pointer none) := (Hb.out.step bl1.out).cell 0
  have d11 : w1.cell? ⟨g, 1, none⟩ = some (.slice A1 0 c1) := (Hb.out.step bl1.out).cell 1
  have d21 : w1.cell? ⟨g, 2, none⟩ = some (.slice A2 0 c2) := (Hb.out.step bl1.out).cell 2
  have d31 : w1.cell? ⟨g, 3, none⟩ = some (.slice A3 n3 c3) := (Hb.out.step bl1.out).cell 3
  go_wp2_with fail
  refine (appendBytes ho1 bl1.out.size (H3.out.below bl1.out) bl1.out.size (fun g e => (ho1.lt g e).1) (by simp [lenEnc] <;> omega)).mono ?_
  rintro e w2 ⟨v2, rfl, ho2, hg2, hn2, hm2⟩
  have bl2 := Lib.hid (bl1.out.trans (below_of_own ho1 hg2 bl1.out.size))
  have d02 : w2.cell? ⟨g, 0, none⟩ = some (.pointer none) := (Hb.out.step bl2.out).cell 0
  have d12 : w2.cell? ⟨g, 1, none⟩ = some (.slice A1 0 c1) := (Hb.out.step bl2.out).cell 1
  have d22 : w2.cell? ⟨g, 2, none⟩ = some (.slice A2 0 c2) := (Hb.out.step bl2.out).cell 2
  have d32 : w2.cell? ⟨g, 3, none⟩ = some (.slice A3 n3 c3) := (Hb.out.step bl2.out).cell 3
  go_wp2_with fail
  go_ret2
  refine ⟨_, rfl, ?_, bl2.out⟩
  rw [Henc.out]
  have := ho2
  simpa [fieldEnc, List.append_assoc] using this

theorem envMarshal_0101 (hb : Blk w g 110 #[.pointer pk, .slice A1 n1 c1, .slice A2 n2 c2, .slice A3 n3 c3]) (hk : KeyFull w pk E) (hh : E.has = false) (h1 : Bs w w.heap.size (.slice A1 n1 c1) E.ty) (z1 : 0 < n1) (l1 : E.ty.length ≤ 1000000000) (h2 : Bs w w.heap.size (.slice A2 n2 c2) E.pay) (z2 : n2 = 0) (l2 : E.pay.length ≤ 1000000000) (h3 : Bs w w.heap.size (.slice A3 n3 c3) E.sig) (z3 : 0 < n3) (l3 : E.sig.length ≤ 1000000000) (lk : E.key.length ≤ 1000000000) (k1 : -2147483648 ≤ E.kind) (k2 : E.kind ≤ 2147483647) :
    Calls Tryd.prog 81 #[.pointer (some ⟨g, 0, none⟩)] w fun e w' => BytesOk0 w (envEnc E) e w' := by
  have e1 : E.ty ≠ [] := fun h => by have := bs_len h1; rw [h] at this; simp at this; omega
  subst z2
  have e2 := bs_len0 h2
  have e3 : E.sig ≠ [] := fun h => by have := bs_len h3; rw [h] at this; simp at this; omega
  have Henc := Lib.hid (show envEnc E = fieldEnc 2 E.ty ++ fieldEnc 5 E.sig by
    unfold envEnc envKeyF optF
    rw [if_neg (by rw [hh]; simp), if_neg e1, if_pos e2, if_neg e3]
    simp)
  rcases hk with ⟨hf, rfl⟩ | ⟨hf, gk, gt, Ak, nk, ck, rfl, hbk, hkt, hkd, hkn⟩
  rotate_left
  · rw [hh] at hf; cases hf
  have Hb := Lib.hid hb
  have t1 : (Wire.venc E.ty.length).length ≤ 10 := Wire.venc_length_u64 (by omega)
  have t3 : (Wire.venc E.sig.length).length ≤ 10 := Wire.venc_length_u64 (by omega)
  have c0 : w.cell? ⟨g, 0, none⟩ = some (.pointer none) := hb.cell 0
  have cc1 : w.cell? ⟨g, 1, none⟩ = some (.slice A1 n1 c1) := hb.cell 1
  have H1 := Lib.hid h1
  clear h1 e1
  have cc2 : w.cell? ⟨g, 2, none⟩ = some (.slice A2 0 c2) := hb.cell 2
  have H2 := Lib.hid h2
  clear h2 e2
  have cc3 : w.cell? ⟨g, 3, none⟩ = some (.slice A3 n3 c3) := hb.cell 3
  have H3 := Lib.hid h3
  clear h3 e3
  clear hb hf hh
  go_enter Tryd.func81, Tryd.ntmps81
  go_wp2_with fail
  refine (appendTag (Own.nil w w.heap.size) (Lib.hid (below_refl w)).out.size (num := 2) (typ := 2) (by unfold TagOk; omega) (by simp [lenEnc] <;> omega)).mono ?_
  rintro e w1 ⟨v1, rfl, ho1, hg1, hn1, hm1⟩
  have bl1 := Lib.hid ((Lib.hid (below_refl w)).out.trans (below_of_own (Own.nil w w.heap.size) hg1 (Lib.hid (below_refl w)).out.size))
  have d01 : w1.cell? ⟨g, 0, none⟩ = some (.pointer none) := (Hb.out.step bl1.out).cell 0
  have d11 : w1.cell? ⟨g, 1, none⟩ = some (.slice A1 n1 c1) := (Hb.out.step bl1.out).cell 1
  have d21 : w1.cell? ⟨g, 2, none⟩ = some (.slice A2 0 c2) := (Hb.out.step bl1.out).cell 2
  have d31 : w1.cell? ⟨g, 3, none⟩ = some (.slice A3 n3 c3) := (Hb.out.step bl1.out).cell 3
  go_wp2_with fail
  refine (appendBytes ho1 bl1.out.size (H1.out.below bl1.out) bl1.out.size (fun g e => (ho1.lt g e).1) (by simp [lenEnc] <;> omega)).mono ?_
  rintro e w2 ⟨v2, rfl, ho2, hg2, hn2, hm2⟩
  have bl2 := Lib.hid (bl1.out.trans (below_of_own ho1 hg2 bl1.out.size))
  have d02 : w2.cell? ⟨g, 0, none⟩ = some (.pointer none) := (Hb.out.step bl2.out).cell 0
  have d12 : w2.cell? ⟨g, 1, none⟩ = some (.slice A1 n1 c1) := (Hb.out.step bl2.out).cell 1
  have d22 : w2.cell? ⟨g, 2, none⟩ = some (.slice A2 0 c2) := (Hb.out.step bl2.out).cell 2
  have d32 : w2.cell? ⟨g, 3, none⟩ = some (.slice A3 n3 c3) := (Hb.out.step bl2.out).cell 3
  go_wp2_with fail
  refine (appendTag ho2 bl2.out.size (num := 5) (typ := 2) (by unfold TagOk; omega) (by simp [lenEnc] <;> omega)).mono ?_
  rintro e w3 ⟨v3, rfl, ho3, hg3, hn3, hm3⟩
  have bl3 := Lib.hid (bl2.out.trans (below_of_own ho2 hg3 bl2.out.size))
  have d03 : w3.cell? ⟨g, 0, none⟩ = some (.pointer none) := (Hb.out.step bl3.out).cell 0
  have d13 : w3.cell? ⟨g, 1, none⟩ = some (.slice A1 n1 c1) := (Hb.out.step bl3.out).cell 1
  have d23 : w3.cell? ⟨g, 2, none⟩ = some (.slice A2 0 c2) := (Hb.out.step bl3.out).cell 2
  have d33 : w3.cell? ⟨g, 3, none⟩ = some (.slice A3 n3 c3) := (Hb.out.step bl3.out).cell 3
  go_wp2_with fail
  refine (appendBytes ho3 bl3.out.size (H3.out.below bl3.out) bl3.out.size (fun g e => (ho3.lt g e).1) (by simp [lenEnc] <;> omega)).mono ?_
  rintro e w4 ⟨v4, rfl, ho4, hg4, hn4, hm4⟩
  have bl4 := Lib.hid (bl3.out.trans (below_of_own ho3 hg4 bl3.out.size))
  have d04 : w4.cell? ⟨g, 0, none⟩ = some (.pointer none) := (Hb.out.step bl4.out).cell 0
  have d14 : w4.cell? ⟨g, 1, none⟩ = some (.slice A1 n1 c1) := (Hb.out.step bl4.out).cell 1
  have d24 : w4.cell? ⟨g, 2, none⟩ = some (.slice A2 0 c2) := (Hb.out.step bl4.out).cell 2
  have d34 : w4.cell? ⟨g, 3, none⟩ = some (.slice A3 n3 c3) := (Hb.out.step bl4.out).cell 3
  go_wp2_with fail
  go_ret2
  refine ⟨_, rfl, ?_, bl4.out⟩
  rw [Henc.out]
  have := ho4
  simpa [fieldEnc, List.append_assoc] using this

theorem envMarshal_0011 (hb : Blk w g 110 #[.pointer pk, .slice A1 n1 c1, .slice A2 n2 c2, .slice A3 n3 c3]) (hk : KeyFull w pk E) (hh : E.has = false) (h1 : Bs w w.heap.size (.slice A1 n1 c1) E.ty) (z1 : n1 = 0) (l1 : E.ty.length ≤ 1000000000) (h2 : Bs w w.heap.size (.slice A2 n2 c2) E.pay) (z2 : 0 < n2) (l2 : E.pay.length ≤ 1000000000) (h3 : Bs w w.heap.size (.slice A3 n3 c3) E.sig) (z3 : 0 < n3) (l3 : E.sig.length ≤ 1000000000) (lk : E.key.length ≤ 1000000000) (k1 : -2147483648 ≤ E.kind) (k2 : E.kind ≤ 2147483647) :
    Calls Tryd.prog 81 #[.pointer (some ⟨g, 0, none⟩)] w fun e w' => BytesOk0 w (envEnc E) e w' := by
  subst z1
  have e1 := bs_len0 h1
  have e2 : E.pay ≠ [] := fun h => by have := bs_len h2; rw [h] at this; simp at this; omega
  have e3 : E.sig ≠ [] := fun h => by have := bs_len h3; rw [h] at this; simp at this; omega
  have Henc := Lib.hid (show envEnc E = fieldEnc 3 E.pay ++ fieldEnc 5 E.sig by
    unfold envEnc envKeyF optF
    rw [if_neg (by rw [hh]; simp), if_pos e1, if_neg e2, if_neg e3]
    simp)
  rcases hk with ⟨hf, rfl⟩ | ⟨hf, gk, gt, Ak, nk, ck, rfl, hbk, hkt, hkd, hkn⟩
  rotate_left
  · rw [hh] at hf; cases hf
  have Hb := Lib.hid hb
  have t2 : (Wire.venc E.pay.length).length ≤ 10 := Wire.venc_length_u64 (by omega)
  have t3 : (Wire.venc E.sig.length).length ≤ 10 := Wire.venc_length_u64 (by omega)
  have c0 : w.cell? ⟨g, 0, none⟩ = some (.pointer none) := hb.cell 0
  have cc1 : w.cell? ⟨g, 1, none⟩ = some (.slice A1 0 c1) := hb.cell 1
  have H1 := Lib.hid h1
  clear h1 e1
  have cc2 : w.cell? ⟨g, 2, none⟩ = some (.slice A2 n2 c2) := hb.cell 2
  have H2 := Lib.hid h2
  clear h2 e2
  have cc3 : w.cell? ⟨g, 3, none⟩ = some (.slice A3 n3 c3) := hb.cell 3
  have H3 := Lib.hid h3
  clear h3 e3
  clear hb hf hh
  go_enter Tryd.func81, Tryd.ntmps81
  go_wp2_with fail
  refine (appendTag (Own.nil w w.heap.size) (Lib.hid (below_refl w)).out.size (num := 3) (typ := 2) (by unfold TagOk; omega) (by simp [lenEnc] <;> omega)).mono ?_
  rintro e w1 ⟨v1, rfl, ho1, hg1, hn1, hm1⟩
  have bl1 := Lib.hid ((Lib.hid (below_refl w)).out.trans (below_of_own (Own.nil w w.heap.size) hg1 (Lib.hid (below_refl w)).out.size))
  have d01 : w1.cell? ⟨g, 0, none⟩ = some (.pointer none) := (Hb.out.step bl1.out).cell 0
  have d11 : w1.cell? ⟨g, 1, none⟩ = some (.slice A1 0 c1) := (Hb.out.step bl1.out).cell 1
  have d21 : w1.cell? ⟨g, 2, none⟩ = some (.slice A2 n2 c2) := (Hb.out.step bl1.out).cell 2
  have d31 : w1.cell? ⟨g, 3, none⟩ = some (.slice A3 n3 c3) := (Hb.out.step bl1.out).cell 3
  go_wp2_with fail
  refine (appendBytes ho1 bl1.out.size (H2.out.below bl1.out) bl1.out.size (fun g e => (ho1.lt g e).1) (by simp [lenEnc] <;> omega)).mono ?_
  rintro e w2 ⟨v2, rfl, ho2, hg2, hn2, hm2⟩
  have bl2 := Lib.hid (bl1.out.trans (below_of_own ho1 hg2 bl1.out.size))
  have d02 : w2.cell? ⟨g, 0, none⟩ = some (.pointer none) := (Hb.out.step bl2.out).cell 0
  have d12 : w2.cell? ⟨g, 1, none⟩ = some (.slice A1 0 c1) := (Hb.out.step bl2.out).cell 1
  have d22 : w2.cell? ⟨g, 2, none⟩ = some (.slice A2 n2 c2) := (Hb.out.step bl2.out).cell 2
  have d32 : w2.cell? ⟨g, 3, none⟩ = some (.slice A3 n3 c3) := (Hb.out.step bl2.out).cell 3
  go_wp2_with fail
  refine (appendTag ho2 bl2.out.size (num := 5) (typ := 2) (by unfold TagOk; omega) (by simp [lenEnc] <;> omega)).mono ?_
  rintro e w3 ⟨v3, rfl, ho3, hg3, hn3, hm3⟩
  have bl3 := Lib.hid (bl2.out.trans (below_of_own ho2 hg3 bl2.out.size))
  have d03 : w3.cell? ⟨g, 0, none⟩ = some (.pointer none) := (Hb.out.step bl3.out).cell 0
  have d13 : w3.cell? ⟨g, 1, none⟩ = some (.slice A1 0 c1) := (Hb.out.step bl3.out).cell 1
  have d23 : w3.cell? ⟨g, 2, none⟩ = some (.slice A2 n2 c2) := (Hb.out.step bl3.out).cell 2
  have d33 : w3.cell? ⟨g, 3, none⟩ = some (.slice A3 n3 c3) := (Hb.out.step bl3.out).cell 3
  go_wp2_with fail
  refine (appendBytes ho3 bl3.out.size (H3.out.below bl3.out) bl3.out.size (fun g e => (ho3.lt g e).1) (by simp [lenEnc] <;> omega)).mono ?_
  rintro e w4 ⟨v4, rfl, ho4, hg4, hn4, hm4⟩
  have bl4 := Lib.hid (bl3.out.trans (below_of_own ho3 hg4 bl3.out.size))
  have d04 : w4.cell? ⟨g, 0, none⟩ = some (.pointer none) := (Hb.out.step bl4.out).cell 0
  have d14 : w4.cell? ⟨g, 1, none⟩ = some (.slice A1 0 c1) := (Hb.out.step bl4.out).cell 1
  have d24 : w4.cell? ⟨g, 2, none⟩ = some (.slice A2 n2 c2) := (Hb.out.step bl4.out).cell 2
  have d34 : w4.cell? ⟨g, 3, none⟩ = some (.slice A3 n3 c3) := (Hb.out.step bl4.out).cell 3
  go_wp2_with fail
  go_ret2
  refine ⟨_, rfl, ?_, bl4.out⟩
  rw [Henc.out]
  have := ho4
  simpa [fieldEnc, List.append_assoc] using this

theorem envMarshal_0111 (hb : Blk w g 110 #[.pointer pk, .slice A1 n1 c1, .slice A2 n2 c2, .slice A3 n3 c3]) (hk : KeyFull w pk E) (hh : E.has = false) (h1 : Bs w w.heap.size (.slice A1 n1 c1) E.ty) (z1 : 0 < n1) (l1 : E.ty.length ≤ 1000000000) (h2 : Bs w w.heap.size (.slice A2 n2 c2) E.pay) (z2 : 0 < n2) (l2 : E.pay.length ≤ 1000000000) (h3 : Bs w w.heap.size (.slice A3 n3 c3) E.sig) (z3 : 0 < n3) (l3 : E.sig.length ≤ 1000000000) (lk : E.key.length ≤ 1000000000) (k1 : -2147483648 ≤ E.kind) (k2 : E.kind ≤ 2147483647) :
    Calls Tryd.prog 81 #[.pointer (some ⟨g, 0, none⟩)] w fun e w' => BytesOk0 w (envEnc E) e w' := by
  have e1 : E.ty ≠ [] := fun h => by have := bs_len h1; rw [h] at this; simp at this; omega
  have e2 : E.pay ≠ [] := fun h => by have := bs_len h2; rw [h] at this; simp at this; omega
  have e3 : E.sig ≠ [] := fun h => by have := bs_len h3; rw [h] at this; simp at this; omega
  have Henc := Lib.hid (show envEnc E = fieldEnc 2 E.ty ++ fieldEnc 3 E.pay ++ fieldEnc 5 E.sig by
    unfold envEnc envKeyF optF
    rw [if_neg (by rw [hh]; simp), if_neg e1, if_neg e2, if_neg e3]
    simp)
  rcases hk with ⟨hf, rfl⟩ | ⟨hf, gk, gt, Ak, nk, ck, rfl, hbk, hkt, hkd, hkn⟩
  rotate_left
  · rw [hh] at hf; cases hf
  have Hb := Lib.hid hb
  have t1 : (Wire.venc E.ty.length).length ≤ 10 := Wire.venc_length_u64 (by omega)
  have t2 : (Wire.venc E.pay.length).length ≤ 10 := Wire.venc_length_u64 (by omega)
  have t3 : (Wire.venc E.sig.length).length ≤ 10 := Wire.venc_length_u64 (by omega)
  have c0 : w.cell? ⟨g, 0, none⟩ = some (.pointer none) := hb.cell 0
  have cc1 : w.cell? ⟨g, 1, none⟩ = some (.slice A1 n1 c1) := hb.cell 1
  have H1 := Lib.hid h1
  clear h1 e1
  have cc2 : w.cell? ⟨g, 2, none⟩ = some (.slice A2 n2 c2) := hb.cell 2
  have H2 := Lib.hid h2
  clear h2 e2
  have cc3 : w.cell? ⟨g, 3, none⟩ = some (.slice A3 n3 c3) := hb.cell 3
  have H3 := Lib.hid h3
  clear h3 e3
  clear hb hf hh
  go_enter Tryd.func81, Tryd.ntmps81
  go_wp2_with fail
  refine (appendTag (Own.nil w w.heap.size) (Lib.hid (below_refl w)).out.size (num := 2) (typ := 2) (by unfold TagOk; omega) (by simp [lenEnc] <;> omega)).mono ?_
  rintro e w1 ⟨v1, rfl, ho1, hg1, hn1, hm1⟩
  have bl1 := Lib.hid ((Lib.hid (below_refl w)).out.trans (below_of_own (Own.nil w w.heap.size) hg1 (Lib.hid (below_refl w)).out.size))
  have d01 : w1.cell? ⟨g, 0, none⟩ = some (.pointer none) := (Hb.out.step bl1.out).cell 0
  have d11 : w1.cell? ⟨g, 1, none⟩ = some (.slice A1 n1 c1) := (Hb.out.step bl1.out).cell 1
  have d21 : w1.cell? ⟨g, 2, none⟩ = some (.slice A2 n2 c2) := (Hb.out.step bl1.out).cell 2
  have d31 : w1.cell? ⟨g, 3, none⟩ = some (.slice A3 n3 c3) := (Hb.out.step bl1.out).cell 3
  go_wp2_with fail
  refine (appendBytes ho1 bl1.out.size (H1.out.below bl1.out) bl1.out.size (fun g e => (ho1.lt g e).1) (by simp [lenEnc] <;> omega)).mono ?_
  rintro e w2 ⟨v2, rfl, ho2, hg2, hn2, hm2⟩
  have bl2 := Lib.hid (bl1.out.trans (below_of_own ho1 hg2 bl1.out.size))
  have d02 : w2.cell? ⟨g, 0, none⟩ = some (.pointer none) := (Hb.out.step bl2.out).cell 0
  have d12 : w2.cell? ⟨g, 1, none⟩ = some (.slice A1 n1 c1) := (Hb.out.step bl2.out).cell 1
  have d22 : w2.cell? ⟨g, 2, none⟩ = some (.slice A2 n2 c2) := (Hb.out.step bl2.out).cell 2
  have d32 : w2.cell? ⟨g, 3, none⟩ = some (.slice A3 n3 c3) := (Hb.out.step bl2.out).cell 3
  go_wp2_with fail
  refine (appendTag ho2 bl2.out.size (num := 3) (typ := 2) (by unfold TagOk; omega) (by simp [lenEnc] <;> omega)).mono ?_
  rintro e w3 ⟨v3, rfl, ho3, hg3, hn3, hm3⟩
  have bl3 := Lib.hid (bl2.out.trans (below_of_own ho2 hg3 bl2.out.size))
  have d03 : w3.cell? ⟨g, 0, none⟩ = some (.pointer none) := (Hb.out.step bl3.out).cell 0
  have d13 : w3.cell? ⟨g, 1, none⟩ = some (.slice A1 n1 c1) := (Hb.out.step bl3.out).cell 1
  have d23 : w3.cell? ⟨g, 2, none⟩ = some (.slice A2 n2 c2) := (Hb.out.step bl3.out).cell 2
  have d33 : w3.cell? ⟨g, 3, none⟩ = some (.slice A3 n3 c3) := (Hb.out.step bl3.out).cell 3
  go_wp2_with fail
  refine (appendBytes ho3 bl3.out.size (H2.out.below bl3.out) bl3.out.size (fun g e => (ho3.lt g e).1) (by simp [lenEnc] <;> omega)).mono ?_
  rintro e w4 ⟨v4, rfl, ho4, hg4, hn4, hm4⟩
  have bl4 := Lib.hid (bl3.out.trans (below_of_own ho3 hg4 bl3.out.size))
  have d04 : w4.cell? ⟨g, 0, none⟩ = some (.pointer none) := (Hb.out.step bl4.out).cell 0
  have d14 : w4.cell? ⟨g, 1, none⟩ = some (.slice A1 n1 c1) := (Hb.out.step bl4.out).cell 1
  have d24 : w4.cell? ⟨g, 2, none⟩ = some (.slice A2 n2 c2) := (Hb.out.step bl4.out).cell 2
  have d34 : w4.cell? ⟨g, 3, none⟩ = some (.slice A3 n3 c3) := (Hb.out.step bl4.out).cell 3
  go_wp2_with fail
  refine (appendTag ho4 bl4.out.size (num := 5) (typ := 2) (by unfold TagOk; omega) (by simp [lenEnc] <;> omega)).mono ?_
  rintro e w5 ⟨v5, rfl, ho5, hg5, hn5, hm5⟩
  have bl5 := Lib.hid (bl4.out.trans (below_of_own ho4 hg5 bl4.out.size))
  have d05 : w5.cell? ⟨g, 0, none⟩ = some (.pointer none) := (Hb.out.step bl5.out).cell 0
  have d15 : w5.cell? ⟨g, 1, none⟩ = some (.slice A1 n1 c1) := (Hb.out.step bl5.out).cell 1
  have d25 : w5.cell? ⟨g, 2, none⟩ = some (.slice A2 n2 c2) := (Hb.out.step bl5.out).cell 2
  have d35 : w5.cell? ⟨g, 3, none⟩ = some (.slice A3 n3 c3) := (Hb.out.step bl5.out).cell 3
  go_wp2_with fail
  refine (appendBytes ho5 bl5.out.size (H3.out.below bl5.out) bl5.out.size (fun g e => (ho5.lt g e).1) (by simp [lenEnc] <;> omega)).mono ?_
  rintro e w6 ⟨v6, rfl, ho6, hg6, hn6, hm6⟩
  have bl6 := Lib.hid (bl5.out.trans (below_of_own ho5 hg6 bl5.out.size))
  have d06 : w6.cell? ⟨g, 0, none⟩ = some (.pointer none) := (Hb.out.step bl6.out).cell 0
  have d16 : w6.cell? ⟨g, 1, none⟩ = some (.slice A1 n1 c1) := (Hb.out.step bl6.out).cell 1
  have d26 : w6.cell? ⟨g, 2, none⟩ = some (.slice A2 n2 c2) := (Hb.out.step bl6.out).cell 2
  have d36 : w6.cell? ⟨g, 3, none⟩ = some (.slice A3 n3 c3) := (Hb.out.step bl6.out).cell 3
  go_wp2_with fail
  go_ret2
  refine ⟨_, rfl, ?_, bl6.out⟩
  rw [Henc.out]
  have := ho6
  simpa [fieldEnc, List.append_assoc] using this

theorem envMarshal_1000 (hb : Blk w g 110 #[.pointer pk, .slice A1 n1 c1, .slice A2 n2 c2, .slice A3 n3 c3]) (hk : KeyFull w pk E) (hh : E.has = true) (h1 : Bs w w.heap.size (.slice A1 n1 c1) E.ty) (z1 : n1 = 0) (l1 : E.ty.length ≤ 1000000000) (h2 : Bs w w.heap.size (.slice A2 n2 c2) E.pay) (z2 : n2 = 0) (l2 : E.pay.length ≤ 1000000000) (h3 : Bs w w.heap.size (.slice A3 n3 c3) E.sig) (z3 : n3 = 0) (l3 : E.sig.length ≤ 1000000000) (lk : E.key.length ≤ 1000000000) (k1 : -2147483648 ≤ E.kind) (k2 : E.kind ≤ 2147483647) :
    Calls Tryd.prog 81 #[.pointer (some ⟨g, 0, none⟩)] w fun e w' => BytesOk0 w (envEnc E) e w' := by
  subst z1
  have e1 := bs_len0 h1
  subst z2
  have e2 := bs_len0 h2
  subst z3
  have e3 := bs_len0 h3
  have Henc := Lib.hid (show envEnc E = fieldEnc 1 (keyEnc E.kind E.key) by
    unfold envEnc envKeyF optF
    rw [if_pos hh, if_pos e1, if_pos e2, if_pos e3]
    simp)
  rcases hk with ⟨hf, rfl⟩ | ⟨hf, gk, gt, Ak, nk, ck, rfl, hbk, hkt, hkd, hkn⟩
  · rw [hh] at hf; cases hf
  have Hb := Lib.hid hb
  have c0 : w.cell? ⟨g, 0, none⟩ = some (.pointer (some ⟨gk, 0, none⟩)) := hb.cell 0
  have cc1 : w.cell? ⟨g, 1, none⟩ = some (.slice A1 0 c1) := hb.cell 1
  have H1 := Lib.hid h1
  clear h1 e1
  have cc2 : w.cell? ⟨g, 2, none⟩ = some (.slice A2 0 c2) := hb.cell 2
  have H2 := Lib.hid h2
  clear h2 e2
  have cc3 : w.cell? ⟨g, 3, none⟩ = some (.slice A3 0 c3) := hb.cell 3
  have H3 := Lib.hid h3
  clear h3 e3
  have Hm := Lib.hid (pubMarshal hbk hkt hkd hkn (by omega) k1 k2)
  have tk := (keyEnc_length E.kind E.key (by omega)).1
  have tm : (Wire.venc (keyEnc E.kind E.key).length).length ≤ 10 := Wire.venc_length_u64 (by omega)
  clear hbk hkt hkd hkn
  clear hb hf hh
  go_enter Tryd.func81, Tryd.ntmps81
  go_wp2_with fail
  refine Hm.out.mono ?_
  rintro e w1 ⟨vm, rfl, hom, hbm, hnm⟩
  obtain ⟨am, nm, cm, rfl⟩ := hnm
  have bl0 := Lib.hid hbm
  have Xm := Lib.hid hom.bs
  clear hom
  replace Hb := Lib.hid (Hb.out.step hbm)
  replace H1 := Lib.hid (H1.out.step hbm)
  replace H2 := Lib.hid (H2.out.step hbm)
  replace H3 := Lib.hid (H3.out.step hbm)
  clear hbm
  have d01 : w1.cell? ⟨g, 0, none⟩ = some (.pointer (some ⟨gk, 0, none⟩)) := (Hb.out.step (Lib.hid (below_refl w1)).out).cell 0
  have d11 : w1.cell? ⟨g, 1, none⟩ = some (.slice A1 0 c1) := (Hb.out.step (Lib.hid (below_refl w1)).out).cell 1
  have d21 : w1.cell? ⟨g, 2, none⟩ = some (.slice A2 0 c2) := (Hb.out.step (Lib.hid (below_refl w1)).out).cell 2
  have d31 : w1.cell? ⟨g, 3, none⟩ = some (.slice A3 0 c3) := (Hb.out.step (Lib.hid (below_refl w1)).out).cell 3
  go_wp2_with fail
  refine (appendTag (Own.nil w1 w1.heap.size) (Lib.hid (below_refl w1)).out.size (num := 1) (typ := 2) (by unfold TagOk; omega) (by simp [lenEnc] <;> omega)).mono ?_
  rintro e w2 ⟨v2, rfl, ho2, hg2, hn2, hm2⟩
  have bl2 := Lib.hid ((Lib.hid (below_refl w1)).out.trans (below_of_own (Own.nil w1 w1.heap.size) hg2 (Lib.hid (below_refl w1)).out.size))
  have d02 : w2.cell? ⟨g, 0, none⟩ = some (.pointer (some ⟨gk, 0, none⟩)) := (Hb.out.step bl2.out).cell 0
  have d12 : w2.cell? ⟨g, 1, none⟩ = some (.slice A1 0 c1) := (Hb.out.step bl2.out).cell 1
  have d22 : w2.cell? ⟨g, 2, none⟩ = some (.slice A2 0 c2) := (Hb.out.step bl2.out).cell 2
  have d32 : w2.cell? ⟨g, 3, none⟩ = some (.slice A3 0 c3) := (Hb.out.step bl2.out).cell 3
  go_wp2_with fail
  refine (appendBytes ho2 bl2.out.size (Xm.out.below bl2.out) bl2.out.size (fun g e => (ho2.lt g e).1) (by simp [lenEnc] <;> omega)).mono ?_
  rintro e w3 ⟨v3, rfl, ho3, hg3, hn3, hm3⟩
  have bl3 := Lib.hid (bl2.out.trans (below_of_own ho2 hg3 bl2.out.size))
  have d03 : w3.cell? ⟨g, 0, none⟩ = some (.pointer (some ⟨gk, 0, none⟩)) := (Hb.out.step bl3.out).cell 0
  have d13 : w3.cell? ⟨g, 1, none⟩ = some (.slice A1 0 c1) := (Hb.out.step bl3.out).cell 1
  have d23 : w3.cell? ⟨g, 2, none⟩ = some (.slice A2 0 c2) := (Hb.out.step bl3.out).cell 2
  have d33 : w3.cell? ⟨g, 3, none⟩ = some (.slice A3 0 c3) := (Hb.out.step bl3.out).cell 3
  go_wp2_with fail
  go_ret2
  refine ⟨_, rfl, ?_, below_trans bl0.out bl3.out⟩
  rw [Henc.out]
  have := ho3.more bl0.out.size
  simpa [fieldEnc, List.append_assoc] using this

theorem envMarshal_1100 (hb : Blk w g 110 #[.pointer pk, .slice A1 n1 c1, .slice A2 n2 c2, .slice A3 n3 c3]) (hk : KeyFull w pk E) (hh : E.has = true) (h1 : Bs w w.heap.size (.slice A1 n1 c1) E.ty) (z1 : 0 < n1) (l1 : E.ty.length ≤ 1000000000) (h2 : Bs w w.heap.size (.slice A2 n2 c2) E.pay) (z2 : n2 = 0) (l2 : E.pay.length ≤ 1000000000) (h3 : Bs w w.heap.size (.slice A3 n3 c3) E.sig) (z3 : n3 = 0) (l3 : E.sig.length ≤ 1000000000) (lk : E.key.length ≤ 1000000000) (k1 : -2147483648 ≤ E.kind) (k2 : E.kind ≤ 2147483647) :
    Calls Tryd.prog 81 #[.pointer (some ⟨g, 0, none⟩)] w fun e w' => BytesOk0 w (envEnc E) e w' := by
  have e1 : E.ty ≠ [] := fun h => by have := bs_len h1; rw [h] at this; simp at this; omega
  subst z2
  have e2 := bs_len0 h2
  subst z3
  have e3 := bs_len0 h3
  have Henc := Lib.hid (show envEnc E = fieldEnc 1 (keyEnc E.kind E.key) ++ fieldEnc 2 E.ty by
    unfold envEnc envKeyF optF
    rw [if_pos hh, if_neg e1, if_pos e2, if_pos e3]
    simp)
  rcases hk with ⟨hf, rfl⟩ | ⟨hf, gk, gt, Ak, nk, ck, rfl, hbk, hkt, hkd, hkn⟩
  · rw [hh] at hf; cases hf
  have Hb := Lib.hid hb
  have t1 : (Wire.venc E.ty.length).length ≤ 10 := Wire.venc_length_u64 (by omega)
  have c0 : w.cell? ⟨g, 0, none⟩ = some (.pointer (some ⟨gk, 0, none⟩)) := hb.cell 0
  have cc1 : w.cell? ⟨g, 1, none⟩ = some (.slice A1 n1 c1) := hb.cell 1
  have H1 := Lib.hid h1
  clear h1 e1
  have cc2 : w.cell? ⟨g, 2, none⟩ = some (.slice A2 0 c2) := hb.cell 2
  have H2 := Lib.hid h2
  clear h2 e2
  have cc3 : w.cell? ⟨g, 3, none⟩ = some (.slice A3 0 c3) := hb.cell 3
  have H3 := Lib.hid h3
  clear h3 e3
  have Hm := Lib.hid (pubMarshal hbk hkt hkd hkn (by omega) k1 k2)
  have tk := (keyEnc_length E.kind E.key (by omega)).1
  have tm : (Wire.venc (keyEnc E.kind E.key).length).length ≤ 10 := Wire.venc_length_u64 (by omega)
  clear hbk hkt hkd hkn
  clear hb hf hh
  go_enter Tryd.func81, Tryd.ntmps81
  go_wp2_with fail
  refine Hm.out.mono ?_
  rintro e w1 ⟨vm, rfl, hom, hbm, hnm⟩
  obtain ⟨am, nm, cm, rfl⟩ := hnm
  have bl0 := Lib.hid hbm
  have Xm := Lib.hid hom.bs
  clear hom
  replace Hb := Lib.hid (Hb.out.step hbm)
  replace H1 := Lib.hid (H1.out.step hbm)
  replace H2 := Lib.hid (H2.out.step hbm)
  replace H3 := Lib.hid (H3.out.step hbm)
  clear hbm
  have d01 : w1.cell? ⟨g, 0, none⟩ = some (.pointer (some ⟨gk, 0, none⟩)) := (Hb.out.step (Lib.hid (below_refl w1)).out).cell 0
  have d11 : w1.cell? ⟨g, 1, none⟩ = some (.slice A1 n1 c1) := (Hb.out.step (Lib.hid (below_refl w1)).out).cell 1
  have d21 : w1.cell? ⟨g, 2, none⟩ = some (.slice A2 0 c2) := (Hb.out.step (Lib.hid (below_refl w1)).out).cell 2
  have d31 : w1.cell? ⟨g, 3, none⟩ = some (.slice A3 0 c3) := (Hb.out.step (Lib.hid (below_refl w1)).out).cell 3
  go_wp2_with fail
  refine (appendTag (Own.nil w1 w1.heap.size) (Lib.hid (below_refl w1)).out.size (num := 1) (typ := 2) (by unfold TagOk; omega) (by simp [lenEnc] <;> omega)).mono ?_
  rintro e w2 ⟨v2, rfl, ho2, hg2, hn2, hm2⟩
  have bl2 := Lib.hid ((Lib.hid (below_refl w1)).out.trans (below_of_own (Own.nil w1 w1.heap.size) hg2 (Lib.hid (below_refl w1)).out.size))
  have d02 : w2.cell? ⟨g, 0, none⟩ = some (.pointer (some ⟨gk, 0, none⟩)) := (Hb.out.step bl2.out).cell 0
  have d12 : w2.cell? ⟨g, 1, none⟩ = some (.slice A1 n1 c1) := (Hb.out.step bl2.out).cell 1
  have d22 : w2.cell? ⟨g, 2, none⟩ = some (.slice A2 0 c2) := (Hb.out.step bl2.out).cell 2
  have d32 : w2.cell? ⟨g, 3, none⟩ = some (.slice A3 0 c3) := (Hb.out.step bl2.out).cell 3
  go_wp2_with fail
  refine (appendBytes ho2 bl2.out.size (Xm.out.below bl2.out) bl2.out.size (fun g e => (ho2.lt g e).1) (by simp [lenEnc] <;> omega)).mono ?_
  rintro e w3 ⟨v3, rfl, ho3, hg3, hn3, hm3⟩
  have bl3 := Lib.hid (bl2.out.trans (below_of_own ho2 hg3 bl2.out.size))
  have d03 : w3.cell? ⟨g, 0, none⟩ = some (.pointer (some ⟨gk, 0, none⟩)) := (Hb.out.step bl3.out).cell 0
  have d13 : w3.cell? ⟨g, 1, none⟩ = some (.slice A1 n1 c1) := (Hb.out.step bl3.out).cell 1
  have d23 : w3.cell? ⟨g, 2, none⟩ = some (.slice A2 0 c2) := (Hb.out.step bl3.out).cell 2
  have d33 : w3.cell? ⟨g, 3, none⟩ = some (.slice A3 0 c3) := (Hb.out.step bl3.out).cell 3
  go_wp2_with fail
  refine (appendTag ho3 bl3.out.size (num := 2) (typ := 2) (by unfold TagOk; omega) (by simp [lenEnc] <;> omega)).mono ?_
  rintro e w4 ⟨v4, rfl, ho4, hg4, hn4, hm4⟩
  have bl4 := Lib.hid (bl3.out.trans (below_of_own ho3 hg4 bl3.out.size))
  have d04 : w4.cell? ⟨g, 0, none⟩ = some (.pointer (some ⟨gk, 0, none⟩)) := (Hb.out.step bl4.out).cell 0
  have d14 : w4.cell? ⟨g, 1, none⟩ = some (.slice A1 n1 c1) := (Hb.out.step bl4.out).cell 1
  have d24 : w4.cell? ⟨g, 2, none⟩ = some (.slice A2 0 c2) := (Hb.out.step bl4.out).cell 2
  have d34 : w4.cell? ⟨g, 3, none⟩ = some (.slice A3 0 c3) := (Hb.out.step bl4.out).cell 3
  go_wp2_with fail
  refine (appendBytes ho4 bl4.out.size (H1.out.below bl4.out) bl4.out.size (fun g e => (ho4.lt g e).1) (by simp [lenEnc] <;> omega)).mono ?_
  rintro e w5 ⟨v5, rfl, ho5, hg5, hn5, hm5⟩
  have bl5 := Lib.hid (bl4.out.trans (below_of_own ho4 hg5 bl4.out.size))
  have d05 : w5.cell? ⟨g, 0, none⟩ = some (.pointer (some ⟨gk, 0, none⟩)) := (Hb.out.step bl5.out).cell 0
  have d15 : w5.cell? ⟨g, 1, none⟩ = some (.slice A1 n1 c1) := (Hb.out.step bl5.out).cell 1
  have d25 : w5.cell? ⟨g, 2, none⟩ = some (.slice A2 0 c2) := (Hb.out.step bl5.out).cell 2
  have d35 : w5.cell? ⟨g, 3, none⟩ = some (.slice A3 0 c3) := (Hb.out.step bl5.out).cell 3
  go_wp2_with fail
  go_ret2
  refine ⟨_, rfl, ?_, below_trans bl0.out bl5.out⟩
  rw [Henc.out]
  have := ho5.more bl0.out.size
  simpa [fieldEnc, List.append_assoc] using this

theorem envMarshal_1010 (hb : Blk w g 110 #[.pointer pk, .slice A1 n1 c1, .slice A2 n2 c2, .slice A3 n3 c3]) (hk : KeyFull w pk E) (hh : E.has = true) (h1 : Bs w w.heap.size (.slice A1 n1 c1) E.ty) (z1 : n1 = 0) (l1 : E.ty.length ≤ 1000000000) (h2 : Bs w w.heap.size (.slice A2 n2 c2) E.pay) (z2 : 0 < n2) (l2 : E.pay.length ≤ 1000000000) (h3 : Bs w w.heap.size (.slice A3 n3 c3) E.sig) (z3 : n3 = 0) (l3 : E.sig.length ≤ 1000000000) (lk : E.key.length ≤ 1000000000) (k1 : -2147483648 ≤ E.kind) (k2 : E.kind ≤ 2147483647) :
    Calls Tryd.prog 81 #[.pointer (some ⟨g, 0, none⟩)] w fun e w' => BytesOk0 w (envEnc E) e w' := by
  subst z1
  have e1 := bs_len0 h1
  have e2 : E.pay ≠ [] := fun h => by have := bs_len h2; rw [h] at this; simp at this; omega
  subst z3
  have e3 := bs_len0 h3
  have Henc := Lib.hid (show envEnc E = fieldEnc 1 (keyEnc E.kind E.key) ++ fieldEnc 3 E.pay by
    unfold envEnc envKeyF optF
    rw [if_pos hh, if_pos e1, if_neg e2, if_pos e3]
    simp)
  rcases hk with ⟨hf, rfl⟩ | ⟨hf, gk, gt, Ak, nk, ck, rfl, hbk, hkt, hkd, hkn⟩
  · rw [hh] at hf; cases hf
  have Hb := Lib.hid hb
  have t2 : (Wire.venc E.pay.length).length ≤ 10 := Wire.venc_length_u64 (by omega)
  have c0 : w.cell? ⟨g, 0, none⟩ = some (.pointer (some ⟨gk, 0, none⟩)) := hb.cell 0
  have cc1 : w.cell? ⟨g, 1, none⟩ = some (.slice A1 0 c1) := hb.cell 1
  have H1 := Lib.hid h1
  clear h1 e1
  have cc2 : w.cell? ⟨g, 2, none⟩ = some (.slice A2 n2 c2) := hb.cell 2
  have H2 := Lib.hid h2
  clear h2 e2
  have cc3 : w.cell? ⟨g, 3, none⟩ = some (.slice A3 0 c3) := hb.cell 3
  have H3 := Lib.hid h3
  clear h3 e3
  have Hm := Lib.hid (pubMarshal hbk hkt hkd hkn (by omega) k1 k2)
  have tk := (keyEnc_length E.kind E.key (by omega)).1
  have tm : (Wire.venc (keyEnc E.kind E.key).length).length ≤ 10 := Wire.venc_length_u64 (by omega)
  clear hbk hkt hkd hkn
  clear hb hf hh
  go_enter Tryd.func81, Tryd.ntmps81
  go_wp2_with fail
  refine Hm.out.mono ?_
  rintro e w1 ⟨vm, rfl, hom, hbm, hnm⟩
  obtain ⟨am, nm, cm, rfl⟩ := hnm
  have bl0 := Lib.hid hbm
  have Xm := Lib.hid hom.bs
  clear hom
  replace Hb := Lib.hid (Hb.out.step hbm)
  replace H1 := Lib.hid (H1.out.step hbm)
  replace H2 := Lib.hid (H2.out.step hbm)
  replace H3 := Lib.hid (H3.out.step hbm)
  clear hbm
  have d01 : w1.cell? ⟨g, 0, none⟩ = some (.pointer (some ⟨gk, 0, none⟩)) := (Hb.out.step (Lib.hid (below_refl w1)).out).cell 0
  have d11 : w1.cell? ⟨g, 1, none⟩ = some (.slice A1 0 c1) := (Hb.out.step (Lib.hid (below_refl w1)).out).cell 1
  have d21 : w1.cell? ⟨g, 2, none⟩ = some (.slice A2 n2 c2) := (Hb.out.step (Lib.hid (below_refl w1)).out).cell 2
  have d31 : w1.cell? ⟨g, 3, none⟩ = some (.slice A3 0 c3) := (Hb.out.step (Lib.hid (below_refl w1)).out).cell 3
  go_wp2_with fail
  refine (appendTag (Own.nil w1 w1.heap.size) (Lib.hid (below_refl w1)).out.size (num := 1) (typ := 2) (by unfold TagOk; omega) (by simp [lenEnc] <;> omega)).mono ?_
  rintro e w2 ⟨v2, rfl, ho2, hg2, hn2, hm2⟩
  have bl2 := Lib.hid ((Lib.hid (below_refl w1)).out.trans (below_of_own (Own.nil w1 w1.heap.size) hg2 (Lib.hid (below_refl w1)).out.size))
  have d02 : w2.cell? ⟨g, 0, none⟩ = some (.pointer (some ⟨gk, 0, none⟩)) := (Hb.out.step bl2.out).cell 0
  have d12 : w2.cell? ⟨g, 1, none⟩ = some (.slice A1 0 c1) := (Hb.out.step bl2.out).cell 1
  have d22 : w2.cell? ⟨g, 2, none⟩ = some (.slice A2 n2 c2) := (Hb.out.step bl2.out).cell 2
  have d32 : w2.cell? ⟨g, 3, none⟩ = some (.slice A3 0 c3) := (Hb.out.step bl2.out).cell 3
  go_wp2_with fail
  refine (appendBytes ho2 bl2.out.size (Xm.out.below bl2.out) bl2.out.size (fun g e => (ho2.lt g e).1) (by simp [lenEnc] <;> omega)).mono ?_
  rintro e w3 ⟨v3, rfl, ho3, hg3, hn3, hm3⟩
  have bl3 := Lib.hid (bl2.out.trans (below_of_own ho2 hg3 bl2.out.size))
  have d03 : w3.cell? ⟨g, 0, none⟩ = some (.pointer (some ⟨gk, 0, none⟩)) := (Hb.out.step bl3.out).cell 0
  have d13 : w3.cell? ⟨g, 1, none⟩ = some (.slice A1 0 c1) := (Hb.out.step bl3.out).cell 1
  have d23 : w3.cell? ⟨g, 2, none⟩ = some (.slice A2 n2 c2) := (Hb.out.step bl3.out).cell 2
  have d33 : w3.cell? ⟨g, 3, none⟩ = some (.slice A3 0 c3) := (Hb.out.step bl3.out).cell 3
  go_wp2_with fail
  refine (appendTag ho3 bl3.out.size (num := 3) (typ := 2) (by unfold TagOk; omega) (by simp [lenEnc] <;> omega)).mono ?_
  rintro e w4 ⟨v4, rfl, ho4, hg4, hn4, hm4⟩
  have bl4 := Lib.hid (bl3.out.trans (below_of_own ho3 hg4 bl3.out.size))
  have d04 : w4.cell? ⟨g, 0, none⟩ = some (.pointer (some ⟨gk, 0, none⟩)) := (Hb.out.step bl4.out).cell 0
  have d14 : w4.cell? ⟨g, 1, none⟩ = some (.slice A1 0 c1) := (Hb.out.step bl4.out).cell 1
  have d24 : w4.cell? ⟨g, 2, none⟩ = some (.slice A2 n2 c2) := (Hb.out.step bl4.out).cell 2
  have d34 : w4.cell? ⟨g, 3, none⟩ = some (.slice A3 0 c3) := (Hb.out.step bl4.out).cell 3
  go_wp2_with fail
  refine (appendBytes ho4 bl4.out.size (H2.out.below bl4.out) bl4.out.size (fun g e => (ho4.lt g e).1) (by simp [lenEnc] <;> omega)).mono ?_
  rintro e w5 ⟨v5, rfl, ho5, hg5, hn5, hm5⟩
  have bl5 := Lib.hid (bl4.out.trans (below_of_own ho4 hg5 bl4.out.size))
  have d05 : w5.cell? ⟨g, 0, none⟩ = some (.pointer (some ⟨gk, 0, none⟩)) := (Hb.out.step bl5.out).cell 0
  have d15 : w5.cell? ⟨g, 1, none⟩ = some (.slice A1 0 c1) := (Hb.out.step bl5.out).cell 1
  have d25 : w5.cell? ⟨g, 2, none⟩ = some (.slice A2 n2 c2) := (Hb.out.step bl5.out).cell 2
  have d35 : w5.cell? ⟨g, 3, none⟩ = some (.slice A3 0 c3) := (Hb.out.step bl5.out).cell 3
  go_wp2_with fail
  go_ret2
  refine ⟨_, rfl, ?_, below_trans bl0.out bl5.out⟩
  rw [Henc.out]
  have := ho5.more bl0.out.size
  simpa [fieldEnc, List.append_assoc] using this

theorem envMarshal_1110 (hb : Blk w g 110 #[.pointer pk, .slice A1 n1 c1, .slice A2 n2 c2, .slice A3 n3 c3]) (hk : KeyFull w pk E) (hh : E.has = true) (h1 : Bs w w.heap.size (.slice A1 n1 c1) E.ty) (z1 : 0 < n1) (l1 : E.ty.length ≤ 1000000000) (h2 : Bs w w.heap.size (.slice A2 n2 c2) E.pay) (z2 : 0 < n2) (l2 : E.pay.length ≤ 1000000000) (h3 : Bs w w.heap.size (.slice A3 n3 c3) E.sig) (z3 : n3 = 0) (l3 : E.sig.length ≤ 1000000000) (lk : E.key.length ≤ 1000000000) (k1 : -2147483648 ≤ E.kind) (k2 : E.kind ≤ 2147483647) :
    Calls Tryd.prog 81 #[.pointer (some ⟨g, 0, none⟩)] w fun e w' => BytesOk0 w (envEnc E) e w' := by
  have e1 : E.ty ≠ [] := fun h => by have := bs_len h1; rw [h] at this; simp at this; omega
  have e2 : E.pay ≠ [] := fun h => by have := bs_len h2; rw [h] at this; simp at this; omega
  subst z3
  have e3 := bs_len0 h3
  have Henc := Lib.hid (show envEnc E = fieldEnc 1 (keyEnc E.kind E.key) ++ fieldEnc 2 E.ty ++ fieldEnc 3 E.pay by
    unfold envEnc envKeyF optF
    rw [if_pos hh, if_neg e1, if_neg e2, if_pos e3]
    simp)
  rcases hk with ⟨hf, rfl⟩ | ⟨hf, gk, gt, Ak, nk, ck, rfl, hbk, hkt, hkd, hkn⟩
  · rw [hh] at hf; cases hf
  have Hb := Lib.hid hb
  have t1 : (Wire.venc E.ty.length).length ≤ 10 := Wire.venc_length_u64 (by omega)
  have t2 : (Wire.venc E.pay.length).length ≤ 10 := Wire.venc_length_u64 (by omega)
  have c0 : w.cell? ⟨g, 0, none⟩ = some (.pointer (some ⟨gk, 0, none⟩)) := hb.cell 0
  have cc1 : w.cell? ⟨g, 1, none⟩ = some (.slice A1 n1 c1) := hb.cell 1
  have H1 := Lib.hid h1
  clear h1 e1
  have cc2 : w.cell? ⟨g, 2, none⟩ = some (.slice A2 n2 c2) := hb.cell 2
  have H2 := Lib.hid h2
  clear h2 e2
  have cc3 : w.cell? ⟨g, 3, none⟩ = some (.slice A3 0 c3) := hb.cell 3
  have H3 := Lib.hid h3
  clear h3 e3
  have Hm := Lib.hid (pubMarshal hbk hkt hkd hkn (by omega) k1 k2)
  have tk := (keyEnc_length E.kind E.key (by omega)).1
  have tm : (Wire.venc (keyEnc E.kind E.key).length).length ≤ 10 := Wire.venc_length_u64 (by omega)
  clear hbk hkt hkd hkn
  clear hb hf hh
  go_enter Tryd.func81, Tryd.ntmps81
  go_wp2_with fail
  refine Hm.out.mono ?_
  rintro e w1 ⟨vm, rfl, hom, hbm, hnm⟩
  obtain ⟨am, nm, cm, rfl⟩ := hnm
  have bl0 := Lib.hid hbm
  have Xm := Lib.hid hom.bs
  clear hom
  replace Hb := Lib.hid (Hb.out.step hbm)
  replace H1 := Lib.hid (H1.out.step hbm)
  replace H2 := Lib.hid (H2.out.step hbm)
  replace H3 := Lib.hid (H3.out.step hbm)
  clear hbm
  have d01 : w1.cell? ⟨g, 0, none⟩ = some (.pointer (some ⟨gk, 0, none⟩)) := (Hb.out.step (Lib.hid (below_refl w1)).out).cell 0
  have d11 : w1.cell? ⟨g, 1, none⟩ = some (.slice A1 n1 c1) := (Hb.out.step (Lib.hid (below_refl w1)).out).cell 1
  have d21 : w1.cell? ⟨g, 2, none⟩ = some (.slice A2 n2 c2) := (Hb.out.step (Lib.hid (below_refl w1)).out).cell 2
  have d31 : w1.cell? ⟨g, 3, none⟩ = some (.slice A3 0 c3) := (Hb.out.step (Lib.hid (below_refl w1)).out).cell 3
  go_wp2_with fail
  refine (appendTag (Own.nil w1 w1.heap.size) (Lib.hid (below_refl w1)).out.size (num := 1) (typ := 2) (by unfold TagOk; omega) (by simp [lenEnc] <;> omega)).mono ?_
  rintro e w2 ⟨v2, rfl, ho2, hg2, hn2, hm2⟩
  have bl2 := Lib.hid ((Lib.hid (below_refl w1)).out.trans (below_of_own (Own.nil w1 w1.heap.size) hg2 (Lib.hid (below_refl w1)).out.size))
  have d02 : w2.cell? ⟨g, 0, none⟩ = some (.pointer (some ⟨gk, 0, none⟩)) := (Hb.out.step bl2.out).cell 0
  have d12 : w2.cell? ⟨g, 1, none⟩ = some (.slice A1 n1 c1) := (Hb.out.step bl2.out).cell 1
  have d22 : w2.cell? ⟨g, 2, none⟩ = some (.slice A2 n2 c2) := (Hb.out.step bl2.out).cell 2
  have d32 : w2.cell? ⟨g, 3, none⟩ = some (.slice A3 0 c3) := (Hb.out.step bl2.out).cell 3
  go_wp2_with fail
  refine (appendBytes ho2 bl2.out.size (Xm.out.below bl2.out) bl2.out.size (fun g e => (ho2.lt g e).1) (by simp [lenEnc] <;> omega)).mono ?_
  rintro e w3 ⟨v3, rfl, ho3, hg3, hn3, hm3⟩
  have bl3 := Lib.hid (bl2.out.trans (below_of_own ho2 hg3 bl2.out.size))
  have d03 : w3.cell? ⟨g, 0, none⟩ = some (.pointer (some ⟨gk, 0, none⟩)) := (Hb.out.step bl3.out).cell 0
  have d13 : w3.cell? ⟨g, 1, none⟩ = some (.slice A1 n1 c1) := (Hb.out.step bl3.out).cell 1
  have d23 : w3.cell? ⟨g, 2, none⟩ = some (.slice A2 n2 c2) := (Hb.out.step bl3.out).cell 2
  have d33 : w3.cell? ⟨g, 3, none⟩ = some (.slice A3 0 c3) := (Hb.out.step bl3.out).cell 3
  go_wp2_with fail
  refine (appendTag ho3 bl3.out.size (num := 2) (typ := 2) (by unfold TagOk; omega) (by simp [lenEnc] <;> omega)).mono ?_
  rintro e w4 ⟨v4, rfl, ho4, hg4, hn4, hm4⟩
  have bl4 := Lib.hid (bl3.out.trans (below_of_own ho3 hg4 bl3.out.size))
  have d04 : w4.cell? ⟨g, 0, none⟩ = some (.pointer (some ⟨gk, 0, none⟩)) := (Hb.out.step bl4.out).cell 0
  have d14 : w4.cell? ⟨g, 1, none⟩ = some (.slice A1 n1 c1) := (Hb.out.step bl4.out).cell 1
  have d24 : w4.cell? ⟨g, 2, none⟩ = some (.slice A2 n2 c2) := (Hb.out.step bl4.out).cell 2
  have d34 : w4.cell? ⟨g, 3, none⟩ = some (.slice A3 0 c3) := (Hb.out.step bl4.out).cell 3
  go_wp2_with fail
  refine (appendBytes ho4 bl4.out.size (H1.out.below bl4.out) bl4.out.size (fun g e => (ho4.lt g e).1) (by simp [lenEnc] <;> omega)).mono ?_
  rintro e w5 ⟨v5, rfl, ho5, hg5, hn5, hm5⟩
  have bl5 := Lib.hid (bl4.out.trans (below_of_own ho4 hg5 bl4.out.size))
  have d05 : w5.cell? ⟨g, 0, none⟩ = some (.pointer (some ⟨gk, 0, none⟩)) := (Hb.out.step bl5.out).cell 0
  have d15 : w5.cell? ⟨g, 1, none⟩ = some (.slice A1 n1 c1) := (Hb.out.step bl5.out).cell 1
  have d25 : w5.cell? ⟨g, 2, none⟩ = some (.slice A2 n2 c2) := (Hb.out.step bl5.out).cell 2
  have d35 : w5.cell? ⟨g, 3, none⟩ = some (.slice A3 0 c3) := (Hb.out.step bl5.out).cell 3
  go_wp2_with fail
  refine (appendTag ho5 bl5.out.size (num := 3) (typ := 2) (by unfold TagOk; omega) (by simp [lenEnc] <;> omega)).mono ?_
  rintro e w6 ⟨v6, rfl, ho6, hg6, hn6, hm6⟩
  have bl6 := Lib.hid (bl5.out.trans (below_of_own ho5 hg6 bl5.out.size))
  have d06 : w6.cell? ⟨g, 0, none⟩ = some (.pointer (some ⟨gk, 0, none⟩)) := (Hb.out.step bl6.out).cell 0
  have d16 : w6.cell? ⟨g, 1, none⟩ = some (.slice A1 n1 c1) := (Hb.out.step bl6.out).cell 1
  have d26 : w6.cell? ⟨g, 2, none⟩ = some (.slice A2 n2 c2) := (Hb.out.step bl6.out).cell 2
  have d36 : w6.cell? ⟨g, 3, none⟩ = some (.slice A3 0 c3) := (Hb.out.step bl6.out).cell 3
  go_wp2_with fail
  refine (appendBytes ho6 bl6.out.size (H2.out.below bl6.out) bl6.out.size (fun g e => (ho6.lt g e).1) (by simp [lenEnc] <;> omega)).mono ?_
  rintro e w7 ⟨v7, rfl, ho7, hg7, hn7, hm7⟩
  have bl7 := Lib.hid (bl6.out.trans (below_of_own ho6 hg7 bl6.out.size))
  have d07 : w7.cell? ⟨g, 0, none⟩ = some (.pointer (some ⟨gk, 0, none⟩)) := (Hb.out.step bl7.out).cell 0
  have d17 : w7.cell? ⟨g, 1, none⟩ = some (.slice A1 n1 c1) := (Hb.out.step bl7.out).cell 1
  have d27 : w7.cell? ⟨g, 2, none⟩ = some (.slice A2 n2 c2) := (Hb.out.step bl7.out).cell 2
  have d37 : w7.cell? ⟨g, 3, none⟩ = some (.slice A3 0 c3) := (Hb.out.step bl7.out).cell 3
  go_wp2_with fail
  go_ret2
  refine ⟨_, rfl, ?_, below_trans bl0.out bl7.out⟩
  rw [Henc.out]
  have := ho7.more bl0.out.size
  simpa [fieldEnc, List.append_assoc] using this

theorem envMarshal_1001 (hb : Blk w g 110 #[.pointer pk, .slice A1 n1 c1, .slice A2 n2 c2, .slice A3 n3 c3]) (hk : KeyFull w pk E) (hh : E.has = true) (h1 : Bs w w.heap.size (.slice A1 n1 c1) E.ty) (z1 : n1 = 0) (l1 : E.ty.length ≤ 1000000000) (h2 : Bs w w.heap.size (.slice A2 n2 c2) E.pay) (z2 : n2 = 0) (l2 : E.pay.length ≤ 1000000000) (h3 : Bs w w.heap.size (.slice A3 n3 c3) E.sig) (z3 : 0 < n3) (l3 : E.sig.length ≤ 1000000000) (lk : E.key.length ≤ 1000000000) (k1 : -2147483648 ≤ E.kind) (k2 : E.kind ≤ 2147483647) :
    Calls Tryd.prog 81 #[.pointer (some ⟨g, 0, none⟩)] w fun e w' => BytesOk0 w (envEnc E) e w' := by
  subst z1
  have e1 := bs_len0 h1
  subst z2
  have e2 := bs_len0 h2
  have e3 : E.sig ≠ [] := fun h => by have := bs_len h3; rw [h] at this; simp at this; omega
  have Henc := Lib.hid (show envEnc E = fieldEnc 1 (keyEnc E.kind E.key) ++ fieldEnc 5 E.sig by
    unfold envEnc envKeyF optF
    rw [if_pos hh, if_pos e1, if_pos e2, if_neg e3]
    simp)
  rcases hk with ⟨hf, rfl⟩ | ⟨hf, gk, gt, Ak, nk, ck, rfl, hbk, hkt, hkd, hkn⟩
  · rw [hh] at hf; cases hf
  have Hb := Lib.hid hb
  have t3 : (Wire.venc E.sig.length).length ≤ 10 := Wire.venc_length_u64 (by omega)
  have c0 : w.cell? ⟨g, 0, none⟩ = some (.pointer (some ⟨gk, 0, none⟩)) := hb.cell 0
  have cc1 : w.cell? ⟨g, 1, none⟩ = some (.slice A1 0 c1) := hb.cell 1
  have H1 := Lib.hid h1
  clear h1 e1
  have cc2 : w.cell? ⟨g, 2, none⟩ = some (.slice A2 0 c2) := hb.cell 2
  have H2 := Lib.hid h2
  clear h2 e2
  have cc3 : w.cell? ⟨g, 3, none⟩ = some (.slice A3 n3 c3) := hb.cell 3
  have H3 := Lib.hid h3
  clear h3 e3
  have Hm := Lib.hid (pubMarshal hbk hkt hkd hkn (by omega) k1 k2)
  have tk := (keyEnc_length E.kind E.key (by omega)).1
  have tm : (Wire.venc (keyEnc E.kind E.key).length).length ≤ 10 := Wire.venc_length_u64 (by omega)
  clear hbk hkt hkd hkn
  clear hb hf hh
  go_enter Tryd.func81, Tryd.ntmps81
  go_wp2_with fail
  refine Hm.out.mono ?_
  rintro e w1 ⟨vm, rfl, hom, hbm, hnm⟩
  obtain ⟨am, nm, cm, rfl⟩ := hnm
  have bl0 := Lib.hid hbm
  have Xm := Lib.hid hom.bs
  clear hom
  replace Hb := Lib.hid (Hb.out.step hbm)
  replace H1 := Lib.hid (H1.out.step hbm)
  replace H2 := Lib.hid (H2.out.step hbm)
  replace H3 := Lib.hid (H3.out.step hbm)
  clear hbm
  have d01 : w1.cell? ⟨g, 0, none⟩ = some (.pointer (some ⟨gk, 0, none⟩)) := (Hb.out.step (Lib.hid (below_refl w1)).out).cell 0
  have d11 : w1.cell? ⟨g, 1, none⟩ = some (.slice A1 0 c1) := (Hb.out.step (Lib.hid (below_refl w1)).out).cell 1
  have d21 : w1.cell? ⟨g, 2, none⟩ = some (.slice A2 0 c2) := (Hb.out.step (Lib.hid (below_refl w1)).out).cell 2
  have d31 : w1.cell? ⟨g, 3, none⟩ = some (.slice A3 n3 c3) := (Hb.out.step (Lib.hid (below_refl w1)).out).cell 3
  go_wp2_with fail
  refine (appendTag (Own.nil w1 w1.heap.size) (Lib.hid (below_refl w1)).out.size (num := 1) (typ := 2) (by unfold TagOk; omega) (by simp [lenEnc] <;> omega)).mono ?_
  rintro e w2 ⟨v2, rfl, ho2, hg2, hn2, hm2⟩
  have bl2 := Lib.hid ((Lib.hid (below_refl w1)).out.trans (below_of_own (Own.nil w1 w1.heap.size) hg2 (Lib.hid (below_refl w1)).out.size))
  have d02 : w2.cell? ⟨g, 0, none⟩ = some (.pointer (some ⟨gk, 0, none⟩)) := (Hb.out.step bl2.out).cell 0
  have d12 : w2.cell? ⟨g, 1, none⟩ = some (.slice A1 0 c1) := (Hb.out.step bl2.out).cell 1
  have d22 : w2.cell? ⟨g, 2, none⟩ = some (.slice A2 0 c2) := (Hb.out.step bl2.out).cell 2
  have d32 : w2.cell? ⟨g, 3, none⟩ = some (.slice A3 n3 c3) := (Hb.out.step bl2.out).cell 3
  go_wp2_with fail
  refine (appendBytes ho2 bl2.out.size (Xm.out.below bl2.out) bl2.out.size (fun g e => (ho2.lt g e).1) (by simp [lenEnc] <;> omega)).mono ?_
  rintro e w3 ⟨v3, rfl, ho3, hg3, hn3, hm3⟩
  have bl3 := Lib.hid (bl2.out.trans (below_of_own ho2 hg3 bl2.out.size))
  have d03 : w3.cell? ⟨g, 0, none⟩ = some (.pointer (some ⟨gk, 0, none⟩)) := (Hb.out.step bl3.out).cell 0
  have d13 : w3.cell? ⟨g, 1, none⟩ = some (.slice A1 0 c1) := (Hb.out.step bl3.out).cell 1
  have d23 : w3.cell? ⟨g, 2, none⟩ = some (.slice A2 0 c2) := (Hb.out.step bl3.out).cell 2
  have d33 : w3.cell? ⟨g, 3, none⟩ = some (.slice A3 n3 c3) := (Hb.out.step bl3.out).cell 3
  go_wp2_with fail
  refine (appendTag ho3 bl3.out.size (num := 5) (typ := 2) (by unfold TagOk; omega) (by simp [lenEnc] <;> omega)).mono ?_
  rintro e w4 ⟨v4, rfl, ho4, hg4, hn4, hm4⟩
  have bl4 := Lib.hid (bl3.out.trans (below_of_own ho3 hg4 bl3.out.size))
  have d04 : w4.cell? ⟨g, 0, none⟩ = some (.pointer (some ⟨gk, 0, none⟩)) := (Hb.out.step bl4.out).cell 0
  have d14 : w4.cell? ⟨g, 1, none⟩ = some (.slice A1 0 c1) := (Hb.out.step bl4.out).cell 1
  have d24 : w4.cell? ⟨g, 2, none⟩ = some (.slice A2 0 c2) := (Hb.out.step bl4.out).cell 2
  have d34 : w4.cell? ⟨g, 3, none⟩ = some (.slice A3 n3 c3) := (Hb.out.step bl4.out).cell 3
  go_wp2_with fail
  refine (appendBytes ho4 bl4.out.size (H3.out.below bl4.out) bl4.out.size (fun g e => (ho4.lt g e).1) (by simp [lenEnc] <;> omega)).mono ?_
  rintro e w5 ⟨v5, rfl, ho5, hg5, hn5, hm5⟩
  have bl5 := Lib.hid (bl4.out.trans (below_of_own ho4 hg5 bl4.out.size))
  have d05 : w5.cell? ⟨g, 0, none⟩ = some (.pointer (some ⟨gk, 0, none⟩)) := (Hb.out.step bl5.out).cell 0
  have d15 : w5.cell? ⟨g, 1, none⟩ = some (.slice A1 0 c1) := (Hb.out.step bl5.out).cell 1
  have d25 : w5.cell? ⟨g, 2, none⟩ = some (.slice A2 0 c2) := (Hb.out.step bl5.out).cell 2
  have d35 : w5.cell? ⟨g, 3, none⟩ = some (.slice A3 n3 c3) := (Hb.out.step bl5.out).cell 3
  go_wp2_with fail
  go_ret2
  refine ⟨_, rfl, ?_, below_trans bl0.out bl5.out⟩
  rw [Henc.out]
  have := ho5.more bl0.out.size
  simpa [fieldEnc, List.append_assoc] using this

theorem envMarshal_1101 (hb : Blk w g 110 #[.pointer pk, .slice A1 n1 c1, .slice A2 n2 c2, .slice A3 n3 c3]) (hk : KeyFull w pk E) (hh : E.has = true) (h1 : Bs w w.heap.size (.slice A1 n1 c1) E.ty) (z1 : 0 < n1) (l1 : E.ty.length ≤ 1000000000) (h2 : Bs w w.heap.size (.slice A2 n2 c2) E.pay) (z2 : n2 = 0) (l2 : E.pay.length ≤ 1000000000) (h3 : Bs w w.heap.size (.slice A3 n3 c3) E.sig) (z3 : 0 < n3) (l3 : E.sig.length ≤ 1000000000) (lk : E.key.length ≤ 1000000000) (k1 : -2147483648 ≤ E.kind) (k2 : E.kind ≤ 2147483647) :
    Calls Tryd.prog 81 #[.pointer (some ⟨g, 0, none⟩)] w fun e w' => BytesOk0 w (envEnc E) e w' := by
  have e1 : E.ty ≠ [] := fun h => by have := bs_len h1; rw [h] at this; simp at this; omega
  subst z2
  have e2 := bs_len0 h2
  have e3 : E.sig ≠ [] := fun h => by have := bs_len h3; rw [h] at this; simp at this; omega
  have Henc := Lib.hid (show envEnc E = fieldEnc 1 (keyEnc E.kind E.key) ++ fieldEnc 2 E.ty ++ fieldEnc 5 E.sig by
    unfold envEnc envKeyF optF
    rw [if_pos hh, if_neg e1, if_pos e2, if_neg e3]
    simp)
  rcases hk with ⟨hf, rfl⟩ | ⟨hf, gk, gt, Ak, nk, ck, rfl, hbk, hkt, hkd, hkn⟩
  · rw [hh] at hf; cases hf
  have Hb := Lib.hid hb
  have t1 : (Wire.venc E.ty.length).length ≤ 10 := Wire.venc_length_u64 (by omega)
  have t3 : (Wire.venc E.sig.length).length ≤ 10 := Wire.venc_length_u64 (by omega)
  have c0 : w.cell? ⟨g, 0, none⟩ = some (.pointer (some ⟨gk, 0, none⟩)) := hb.cell 0
  have cc1 : w.cell? ⟨g, 1, none⟩ = some (.slice A1 n1 c1) := hb.cell 1
  have H1 := Lib.hid h1
  clear h1 e1
  have cc2 : w.cell? ⟨g, 2, none⟩ = some (.slice A2 0 c2) := hb.cell 2
  have H2 := Lib.hid h2
  clear h2 e2
  have cc3 : w.cell? ⟨g, 3, none⟩ = some (.slice A3 n3 c3) := hb.cell 3
  have H3 := Lib.hid h3
  clear h3 e3
  have Hm := Lib.hid (pubMarshal hbk hkt hkd hkn (by omega) k1 k2)
  have tk := (keyEnc_length E.kind E.key (by omega)).1
  have tm : (Wire.venc (keyEnc E.kind E.key).length).length ≤ 10 := Wire.venc_length_u64 (by omega)
  clear hbk hkt hkd hkn
  clear hb hf hh
  go_enter Tryd.func81, Tryd.ntmps81
  go_wp2_with fail
  refine Hm.out.mono ?_
  rintro e w1 ⟨vm, rfl, hom, hbm, hnm⟩
  obtain ⟨am, nm, cm, rfl⟩ := hnm
  have bl0 := Lib.hid hbm
  have Xm := Lib.hid hom.bs
  clear hom
  replace Hb := Lib.hid (Hb.out.step hbm)
  replace H1 := Lib.hid (H1.out.step hbm)
  replace H2 := Lib.hid (H2.out.step hbm)
  replace H3 := Lib.hid (H3.out.step hbm)
  clear hbm
  have d01 : w1.cell? ⟨g, 0, none⟩ = some (.pointer (some ⟨gk, 0, none⟩)) := (Hb.out.step (Lib.hid (below_refl w1)).out).cell 0
  have d11 : w1.cell? ⟨g, 1, none⟩ = some (.slice A1 n1 c1) := (Hb.out.step (Lib.hid (below_refl w1)).out).cell 1
  have d21 : w1.cell? ⟨g, 2, none⟩ = some (.slice A2 0 c2) := (Hb.out.step (Lib.hid (below_refl w1)).out).cell 2
  have d31 : w1.cell? ⟨g, 3, none⟩ = some (.slice A3 n3 c3) := (Hb.out.step (Lib.hid (below_refl w1)).out).cell 3
  go_wp2_with fail
  refine (appendTag (Own.nil w1 w1.heap.size) (Lib.hid (below_refl w1)).out.size (num := 1) (typ := 2) (by unfold TagOk; omega) (by simp [lenEnc] <;> omega)).mono ?_
  rintro e w2 ⟨v2, rfl, ho2, hg2, hn2, hm2⟩
  have bl2 := Lib.hid ((Lib.hid (below_refl w1)).out.trans (below_of_own (Own.nil w1 w1.heap.size) hg2 (Lib.hid (below_refl w1)).out.size))
  have d02 : w2.cell? ⟨g, 0, none⟩ = some (.pointer (some ⟨gk, 0, none⟩)) := (Hb.out.step bl2.out).cell 0
  have d12 : w2.cell? ⟨g, 1, none⟩ = some (.slice A1 n1 c1) := (Hb.out.step bl2.out).cell 1
  have d22 : w2.cell? ⟨g, 2, none⟩ = some (.slice A2 0 c2) := (Hb.out.step bl2.out).cell 2
  have d32 : w2.cell? ⟨g, 3, none⟩ = some (.slice A3 n3 c3) := (Hb.out.step bl2.out).cell 3
  go_wp2_with fail
  refine (appendBytes ho2 bl2.out.size (Xm.out.below bl2.out) bl2.out.size (fun g e => (ho2.lt g e).1) (by simp [lenEnc] <;> omega)).mono ?_
  rintro e w3 ⟨v3, rfl, ho3, hg3, hn3, hm3⟩
  have bl3 := Lib.hid (bl2.out.trans (below_of_own ho2 hg3 bl2.out.size))
  have d03 : w3.cell? ⟨g, 0, none⟩ = some (.pointer (some ⟨gk, 0, none⟩)) := (Hb.out.step bl3.out).cell 0
  have d13 : w3.cell? ⟨g, 1, none⟩ = some (.slice A1 n1 c1) := (Hb.out.step bl3.out).cell 1
  have d23 : w3.cell? ⟨g, 2, none⟩ = some (.slice A2 0 c2) := (Hb.out.step bl3.out).cell 2
  have d33 : w3.cell? ⟨g, 3, none⟩ = some (.slice A3 n3 c3) := (Hb.out.step bl3.out).cell 3
  go_wp2_with fail
  refine (appendTag ho3 bl3.out.size (num := 2) (typ := 2) (by unfold TagOk; omega) (by simp [lenEnc] <;> omega)).mono ?_
  rintro e w4 ⟨v4, rfl, ho4, hg4, hn4, hm4⟩
  have bl4 := Lib.hid (bl3.out.trans (below_of_own ho3 hg4 bl3.out.size))
  have d04 : w4.cell? ⟨g, 0, none⟩ = some (.pointer (some ⟨gk, 0, none⟩)) := (Hb.out.step bl4.out).cell 0
  have d14 : w4.cell? ⟨g, 1, none⟩ = some (.slice A1 n1 c1) := (Hb.out.step bl4.out).cell 1
  have d24 : w4.cell? ⟨g, 2, none⟩ = some (.slice A2 0 c2) := (Hb.out.step bl4.out).cell 2
  have d34 : w4.cell? ⟨g, 3, none⟩ = some (.slice A3 n3 c3) := (Hb.out.step bl4.out).cell 3
  go_wp2_with fail
  refine (appendBytes ho4 bl4.out.size (H1.out.below bl4.out) bl4.out.size (fun g e => (ho4.lt g e).1) (by simp [lenEnc] <;> omega)).mono ?_
  rintro e w5 ⟨v5, rfl, ho5, hg5, hn5, hm5⟩
  have bl5 := Lib.hid (bl4.out.trans (below_of_own ho4 hg5 bl4.out.size))
  have d05 : w5.cell? ⟨g, 0, none⟩ = some (.pointer (some ⟨gk, 0, none⟩)) := (Hb.out.step bl5.out).cell 0
  have d15 : w5.cell? ⟨g, 1, none⟩ = some (.slice A1 n1 c1) := (Hb.out.step bl5.out).cell 1
  have d25 : w5.cell? ⟨g, 2, none⟩ = some (.slice A2 0 c2) := (Hb.out.step bl5.out).cell 2
  have d35 : w5.cell? ⟨g, 3, none⟩ = some (.slice A3 n3 c3) := (Hb.out.step bl5.out).cell 3
  go_wp2_with fail
  refine (appendTag ho5 bl5.out.size (num := 5) (typ := 2) (by unfold TagOk; omega) (by simp [lenEnc] <;> omega)).mono ?_
  rintro e w6 ⟨v6, rfl, ho6, hg6, hn6, hm6⟩
  have bl6 := Lib.hid (bl5.out.trans (below_of_own ho5 hg6 bl5.out.size))
  have d06 : w6.cell? ⟨g, 0, none⟩ = some (.pointer (some ⟨gk, 0, none⟩)) := (Hb.out.step bl6.out).cell 0
  have d16 : w6.cell? ⟨g, 1, none⟩ = some (.slice A1 n1 c1) := (Hb.out.step bl6.out).cell 1
  have d26 : w6.cell? ⟨g, 2, none⟩ = some (.slice A2 0 c2) := (Hb.out.step bl6.out).cell 2
  have d36 : w6.cell? ⟨g, 3, none⟩ = some (.slice A3 n3 c3) := (Hb.out.step bl6.out).cell 3
  go_wp2_with fail
  refine (appendBytes ho6 bl6.out.size (H3.out.below bl6.out) bl6.out.size (fun g e => (ho6.lt g e).1) (by simp [lenEnc] <;> omega)).mono ?_
  rintro e w7 ⟨v7, rfl, ho7, hg7, hn7, hm7⟩
  have bl7 := Lib.hid (bl6.out.trans (below_of_own ho6 hg7 bl6.out.size))
  have d07 : w7.cell? ⟨g, 0, none⟩ = some (.pointer (some ⟨gk, 0, none⟩)) := (Hb.out.step bl7.out).cell 0
  have d17 : w7.cell? ⟨g, 1, none⟩ = some (.slice A1 n1 c1) := (Hb.out.step bl7.out).cell 1
  have d27 : w7.cell? ⟨g, 2, none⟩ = some (.slice A2 0 c2) := (Hb.out.step bl7.out).cell 2
  have d37 : w7.cell? ⟨g, 3, none⟩ = some (.slice A3 n3 c3) := (Hb.out.step bl7.out).cell 3
  go_wp2_with fail
  go_ret2
  refine ⟨_, rfl, ?_, below_trans bl0.out bl7.out⟩
  rw [Henc.out]
  have := ho7.more bl0.out.size
  simpa [fieldEnc, List.append_assoc] using this

theorem envMarshal_1011 (hb : Blk w g 110 #[.pointer pk, .slice A1 n1 c1, .slice A2 n2 c2, .slice A3 n3 c3]) (hk : KeyFull w pk E) (hh : E.has = true) (h1 : Bs w w.heap.size (.slice A1 n1 c1) E.ty) (z1 : n1 = 0) (l1 : E.ty.length ≤ 1000000000) (h2 : Bs w w.heap.size (.slice A2 n2 c2) E.pay) (z2 : 0 < n2) (l2 : E.pay.length ≤ 1000000000) (h3 : Bs w w.heap.size (.slice A3 n3 c3) E.sig) (z3 : 0 < n3) (l3 : E.sig.length ≤ 1000000000) (lk : E.key.length ≤ 1000000000) (k1 : -2147483648 ≤ E.kind) (k2 : E.kind ≤ 2147483647) :
    Calls Tryd.prog 81 #[.pointer (some ⟨g, 0, none⟩)] w fun e w' => BytesOk0 w (envEnc E) e w' := by
  subst z1
  have e1 := bs_len0 h1
  have e2 : E.pay ≠ [] := fun h => by have := bs_len h2; rw [h] at this; simp at this; omega
  have e3 : E.sig ≠ [] := fun h => by have := bs_len h3; rw [h] at this; simp at this; omega
  have Henc := Lib.hid (show envEnc E = fieldEnc 1 (keyEnc E.kind E.key) ++ fieldEnc 3 E.pay ++ fieldEnc 5 E.sig by
    unfold envEnc envKeyF optF
    rw [if_pos hh, if_pos e1, if_neg e2, if_neg e3]
    simp)
  rcases hk with ⟨hf, rfl⟩ | ⟨hf, gk, gt, Ak, nk, ck, rfl, hbk, hkt, hkd, hkn⟩
  · rw [hh] at hf; cases hf
  have Hb := Lib.hid hb
  have t2 : (Wire.venc E.pay.length).length ≤ 10 := Wire.venc_length_u64 (by omega)
  have t3 : (Wire.venc E.sig.length).length ≤ 10 := Wire.venc_length_u64 (by omega)
  have c0 : w.cell? ⟨g, 0, none⟩ = some (.pointer (some ⟨gk, 0, none⟩)) := hb.cell 0
  have cc1 : w.cell? ⟨g, 1, none⟩ = some (.slice A1 0 c1) := hb.cell 1
  have H1 := Lib.hid h1
  clear h1 e1
  have cc2 : w.cell? ⟨g, 2, none⟩ = some (.slice A2 n2 c2) := hb.cell 2
  have H2 := Lib.hid h2
  clear h2 e2
  have cc3 : w.cell? ⟨g, 3, none⟩ = some (.slice A3 n3 c3) := hb.cell 3
  have H3 := Lib.hid h3
  clear h3 e3
  have Hm := Lib.hid (pubMarshal hbk hkt hkd hkn (by omega) k1 k2)
  have tk := (keyEnc_length E.kind E.key (by omega)).1
  have tm : (Wire.venc (keyEnc E.kind E.key).length).length ≤ 10 := Wire.venc_length_u64 (by omega)
  clear hbk hkt hkd hkn
  clear hb hf hh
  go_enter Tryd.func81, Tryd.ntmps81
  go_wp2_with fail
  refine Hm.out.mono ?_
  rintro e w1 ⟨vm, rfl, hom, hbm, hnm⟩
  obtain ⟨am, nm, cm, rfl⟩ := hnm
  have bl0 := Lib.hid hbm
  have Xm := Lib.hid hom.bs
  clear hom
  replace Hb := Lib.hid (Hb.out.step hbm)
  replace H1 := Lib.hid (H1.out.step hbm)
  replace H2 := Lib.hid (H2.out.step hbm)
  replace H3 := Lib.hid (H3.out.step hbm)
  clear hbm
  have d01 : w1.cell? ⟨g, 0, none⟩ = some (.pointer (some ⟨gk, 0, none⟩)) := (Hb.out.step (Lib.hid (below_refl w1)).out).cell 0
  have d11 : w1.cell? ⟨g, 1, none⟩ = some (.slice A1 0 c1) := (Hb.out.step (Lib.hid (below_refl w1)).out).cell 1
  have d21 : w1.cell? ⟨g, 2, none⟩ = some (.slice A2 n2 c2) := (Hb.out.step (Lib.hid (below_refl w1)).out).cell 2
  have d31 : w1.cell? ⟨g, 3, none⟩ = some (.slice A3 n3 c3) := (Hb.out.step (Lib.hid (below_refl w1)).out).cell 3
  go_wp2_with fail
  refine (appendTag (Own.nil w1 w1.heap.size) (Lib.hid (below_refl w1)).out.size (num := 1) (typ := 2) (by unfold TagOk; omega) (by simp [lenEnc] <;> omega)).mono ?_
  rintro e w2 ⟨v2, rfl, ho2, hg2, hn2, hm2⟩
  have bl2 := Lib.hid ((Lib.hid (below_refl w1)).out.trans (below_of_own (Own.nil w1 w1.heap.size) hg2 (Lib.hid (below_refl w1)).out.size))
  have d02 : w2.cell? ⟨g, 0, none⟩ = some (.pointer (some ⟨gk, 0, none⟩)) := (Hb.out.step bl2.out).cell 0
  have d12 : w2.cell? ⟨g, 1, none⟩ = some (.slice A1 0 c1) := (Hb.out.step bl2.out).cell 1
  have d22 : w2.cell? ⟨g, 2, none⟩ = some (.slice A2 n2 c2) := (Hb.out.step bl2.out).cell 2
  have d32 : w2.cell? ⟨g, 3, none⟩ = some (.slice A3 n3 c3) := (Hb.out.step bl2.out).cell 3
  go_wp2_with fail
  refine (appendBytes ho2 bl2.out.size (Xm.out.below bl2.out) bl2.out.size (fun g e => (ho2.lt g e).1) (by simp [lenEnc] <;> omega)).mono ?_
  rintro e w3 ⟨v3, rfl, ho3, hg3, hn3, hm3⟩
  have bl3 := Lib.hid (bl2.out.trans (below_of_own ho2 hg3 bl2.out.size))
  have d03 : w3.cell? ⟨g, 0, none⟩ = some (.pointer (some ⟨gk, 0, none⟩)) := (Hb.out.step bl3.out).cell 0
  have d13 : w3.cell? ⟨g, 1, none⟩ = some (.slice A1 0 c1) := (Hb.out.step bl3.out).cell 1
  have d23 : w3.cell? ⟨g, 2, none⟩ = some (.slice A2 n2 c2) := (Hb.out.step bl3.out).cell 2
  have d33 : w3.cell? ⟨g, 3, none⟩ = some (.slice A3 n3 c3) := (Hb.out.step bl3.out).cell 3
  go_wp2_with fail
  refine (appendTag ho3 bl3.out.size (num := 3) (typ := 2) (by unfold TagOk; omega) (by simp [lenEnc] <;> omega)).mono ?_
  rintro e w4 ⟨v4, rfl, ho4, hg4, hn4, hm4⟩
  have bl4 := Lib.hid (bl3.out.trans (below_of_own ho3 hg4 bl3.out.size))
  have d04 : w4.cell? ⟨g, 0, none⟩ = some (.pointer (some ⟨gk, 0, none⟩)) := (Hb.out.step bl4.out).cell 0
  have d14 : w4.cell? ⟨g, 1, none⟩ = some (.slice A1 0 c1) := (Hb.out.step bl4.out).cell 1
  have d24 : w4.cell? ⟨g, 2, none⟩ = some (.slice A2 n2 c2) := (Hb.out.step bl4.out).cell 2
  have d34 : w4.cell? ⟨g, 3, none⟩ = some (.slice A3 n3 c3) := (Hb.out.step bl4.out).cell 3
  go_wp2_with fail
  refine (appendBytes ho4 bl4.out.size (H2.out.below bl4.out) bl4.out.size (fun g e => (ho4.lt g e).1) (by simp [lenEnc] <;> omega)).mono ?_
  rintro e w5 ⟨v5, rfl, ho5, hg5, hn5, hm5⟩
  have bl5 := Lib.hid (bl4.out.trans (below_of_own ho4 hg5 bl4.out.size))
  have d05 : w5.cell? ⟨g, 0, none⟩ = some (.pointer (some ⟨gk, 0, none⟩)) := (Hb.out.step bl5.out).cell 0
  have d15 : w5.cell? ⟨g, 1, none⟩ = some (.slice A1 0 c1) := (Hb.out.step bl5.out).cell 1
  have d25 : w5.cell? ⟨g, 2, none⟩ = some (.slice A2 n2 c2) := (Hb.out.step bl5.out).cell 2
  have d35 : w5.cell? ⟨g, 3, none⟩ = some (.slice A3 n3 c3) := (Hb.out.step bl5.out).cell 3
  go_wp2_with fail
  refine (appendTag ho5 bl5.out.size (num := 5) (typ := 2) (by unfold TagOk; omega) (by simp [lenEnc] <;> omega)).mono ?_
  rintro e w6 ⟨v6, rfl, ho6, hg6, hn6, hm6⟩
  have bl6 := Lib.hid (bl5.out.trans (below_of_own ho5 hg6 bl5.out.size))
  have d06 : w6.cell? ⟨g, 0, none⟩ = some (.pointer (some ⟨gk, 0, none⟩)) := (Hb.out.step bl6.out).cell 0
  have d16 : w6.cell? ⟨g, 1, none⟩ = some (.slice A1 0 c1) := (Hb.out.step bl6.out).cell 1
  have d26 : w6.cell? ⟨g, 2, none⟩ = some (.slice A2 n2 c2) := (Hb.out.step bl6.out).cell 2
  have d36 : w6.cell? ⟨g, 3, none⟩ = some (.slice A3 n3 c3) := (Hb.out.step bl6.out).cell 3
  go_wp2_with fail
  refine (appendBytes ho6 bl6.out.size (H3.out.below bl6.out) bl6.out.size (fun g e => (ho6.lt g e).1) (by simp [lenEnc] <;> omega)).mono ?_
  rintro e w7 ⟨v7, rfl, ho7, hg7, hn7, hm7⟩
  have bl7 := Lib.hid (bl6.out.trans (below_of_own ho6 hg7 bl6.out.size))
  have d07 : w7.cell? ⟨g, 0, none⟩ = some (.pointer (some ⟨gk, 0, none⟩)) := (Hb.out.step bl7.out).cell 0
  have d17 : w7.cell? ⟨g, 1, none⟩ = some (.slice A1 0 c1) := (Hb.out.step bl7.out).cell 1
  have d27 : w7.cell? ⟨g, 2, none⟩ = some (.slice A2 n2 c2) := (Hb.out.step bl7.out).cell 2
  have d37 : w7.cell? ⟨g, 3, none⟩ = some (.slice A3 n3 c3) := (Hb.out.step bl7.out).cell 3
  go_wp2_with fail
  go_ret2
  refine ⟨_, rfl, ?_, below_trans bl0.out bl7.out⟩
  rw [Henc.out]
  have := ho7.more bl0.out.size
  simpa [fieldEnc, List.append_assoc] using this

theorem envMarshal_1111 (hb : Blk w g 110 #[.pointer pk, .slice A1 n1 c1, .slice A2 n2 c2, .slice A3 n3 c3]) (hk : KeyFull w pk E) (hh : E.has = true) (h1 : Bs w w.heap.size (.slice A1 n1 c1) E.ty) (z1 : 0 < n1) (l1 : E.ty.length ≤ 1000000000) (h2 : Bs w w.heap.size (.slice A2 n2 c2) E.pay) (z2 : 0 < n2) (l2 : E.pay.length ≤ 1000000000) (h3 : Bs w w.heap.size (.slice A3 n3 c3) E.sig) (z3 : 0 < n3) (l3 : E.sig.length ≤ 1000000000) (lk : E.key.length ≤ 1000000000) (k1 : -2147483648 ≤ E.kind) (k2 : E.kind ≤ 2147483647) :
    Calls Tryd.prog 81 #[.pointer (some ⟨g, 0, none⟩)] w fun e w' => BytesOk0 w (envEnc E) e w' := by
  have e1 : E.ty ≠ [] := fun h => by have := bs_len h1; rw [h] at this; simp at this; omega
  have e2 : E.pay ≠ [] := fun h => by have := bs_len h2; rw [h] at this; simp at this; omega
  have e3 : E.sig ≠ [] := fun h => by have := bs_len h3; rw [h] at this; simp at this; omega
  have Henc := Lib.hid (show envEnc E = fieldEnc 1 (keyEnc E.kind E.key) ++ fieldEnc 2 E.ty ++ fieldEnc 3 E.pay ++ fieldEnc 5 E.sig by
    unfold envEnc envKeyF optF
    rw [if_pos hh, if_neg e1, if_neg e2, if_neg e3]
    simp)
  rcases hk with ⟨hf, rfl⟩ | ⟨hf, gk, gt, Ak, nk, ck, rfl, hbk, hkt, hkd, hkn⟩
  · rw [hh] at hf; cases hf
  have Hb := Lib.hid hb
  have t1 : (Wire.venc E.ty.length).length ≤ 10 := Wire.venc_length_u64 (by omega)
  have t2 : (Wire.venc E.pay.length).length ≤ 10 := Wire.venc_length_u64 (by omega)
  have t3 : (Wire.venc E.sig.length).length ≤ 10 := Wire.venc_length_u64 (by omega)
  have c0 : w.cell? ⟨g, 0, none⟩ = some (.pointer (some ⟨gk, 0, none⟩)) := hb.cell 0
  have cc1 : w.cell? ⟨g, 1, none⟩ = some (.slice A1 n1 c1) := hb.cell 1
  have H1 := Lib.hid h1
  clear h1 e1
  have cc2 : w.cell? ⟨g, 2, none⟩ = some (.slice A2 n2 c2) := hb.cell 2
  have H2 := Lib.hid h2
  clear h2 e2
  have cc3 : w.cell? ⟨g, 3, none⟩ = some (.slice A3 n3 c3) := hb.cell 3
  have H3 := Lib.hid h3
  clear h3 e3
  have Hm := Lib.hid (pubMarshal hbk hkt hkd hkn (by omega) k1 k2)
  have tk := (keyEnc_length E.kind E.key (by omega)).1
  have tm : (Wire.venc (keyEnc E.kind E.key).length).length ≤ 10 := Wire.venc_length_u64 (by omega)
  clear hbk hkt hkd hkn
  clear hb hf hh
  go_enter Tryd.func81, Tryd.ntmps81
  go_wp2_with fail
  refine Hm.out.mono ?_
  rintro e w1 ⟨vm, rfl, hom, hbm, hnm⟩
  obtain ⟨am, nm, cm, rfl⟩ := hnm
  have bl0 := Lib.hid hbm
  have Xm := Lib.hid hom.bs
  clear hom
  replace Hb := Lib.hid (Hb.out.step hbm)
  replace H1 := Lib.hid (H1.out.step hbm)
  replace H2 := Lib.hid (H2.out.step hbm)
  replace H3 := Lib.hid (H3.out.step hbm)
  clear hbm
  have d01 : w1.cell? ⟨g, 0, none⟩ = some (.pointer (some ⟨gk, 0, none⟩)) := (Hb.out.step (Lib.hid (below_refl w1)).out).cell 0
  have d11 : w1.cell? ⟨g, 1, none⟩ = some (.slice A1 n1 c1) := (Hb.out.step (Lib.hid (below_refl w1)).out).cell 1
  have d21 : w1.cell? ⟨g, 2, none⟩ = some (.slice A2 n2 c2) := (Hb.out.step (Lib.hid (below_refl w1)).out).cell 2
  have d31 : w1.cell? ⟨g, 3, none⟩ = some (.slice A3 n3 c3) := (Hb.out.step (Lib.hid (below_refl w1)).out).cell 3
  go_wp2_with fail
  refine (appendTag (Own.nil w1 w1.heap.size) (Lib.hid (below_refl w1)).out.size (num := 1) (typ := 2) (by unfold TagOk; omega) (by simp [lenEnc] <;> omega)).mono ?_
  rintro e w2 ⟨v2, rfl, ho2, hg2, hn2, hm2⟩
  have bl2 := Lib.hid ((Lib.hid (below_refl w1)).out.trans (below_of_own (Own.nil w1 w1.heap.size) hg2 (Lib.hid (below_refl w1)).out.size))
  have d02 : w2.cell? ⟨g, 0, none⟩ = some (.pointer (some ⟨gk, 0, none⟩)) := (Hb.out.step bl2.out).cell 0
  have d12 : w2.cell? ⟨g, 1, none⟩ = some (.slice A1 n1 c1) := (Hb.out.step bl2.out).cell 1
  have d22 : w2.cell? ⟨g, 2, none⟩ = some (.slice A2 n2 c2) := (Hb.out.step bl2.out).cell 2
  have d32 : w2.cell? ⟨g, 3, none⟩ = some (.slice A3 n3 c3) := (Hb.out.step bl2.out).cell 3
  go_wp2_with fail
  refine (appendBytes ho2 bl2.out.size (Xm.out.below bl2.out) bl2.out.size (fun g e => (ho2.lt g e).1) (by simp [lenEnc] <;> omega)).mono ?_
  rintro e w3 ⟨v3, rfl, ho3, hg3, hn3, hm3⟩
  have bl3 := Lib.hid (bl2.out.trans (below_of_own ho2 hg3 bl2.out.size))
  have d03 : w3.cell? ⟨g, 0, none⟩ = some (.pointer (some ⟨gk, 0, none⟩)) := (Hb.out.step bl3.out).cell 0
  have d13 : w3.cell? ⟨g, 1, none⟩ = some (.slice A1 n1 c1) := (Hb.out.step bl3.out).cell 1
  have d23 : w3.cell? ⟨g, 2, none⟩ = some (.slice A2 n2 c2) := (Hb.out.step bl3.out).cell 2
  have d33 : w3.cell? ⟨g, 3, none⟩ = some (.slice A3 n3 c3) := (Hb.out.step bl3.out).cell 3
  go_wp2_with fail
  refine (appendTag ho3 bl3.out.size (num := 2) (typ := 2) (by unfold TagOk; omega) (by simp [lenEnc] <;> omega)).mono ?_
  rintro e w4 ⟨v4, rfl, ho4, hg4, hn4, hm4⟩
  have bl4 := Lib.hid (bl3.out.trans (below_of_own ho3 hg4 bl3.out.size))
  have d04 : w4.cell? ⟨g, 0, none⟩ = some (.pointer (some ⟨gk, 0, none⟩)) := (Hb.out.step bl4.out).cell 0
  have d14 : w4.cell? ⟨g, 1, none⟩ = some (.slice A1 n1 c1) := (Hb.out.step bl4.out).cell 1
  have d24 : w4.cell? ⟨g, 2, none⟩ = some (.slice A2 n2 c2) := (Hb.out.step bl4.out).cell 2
  have d34 : w4.cell? ⟨g, 3, none⟩ = some (.slice A3 n3 c3) := (Hb.out.step bl4.out).cell 3
  go_wp2_with fail
  refine (appendBytes ho4 bl4.out.size (H1.out.below bl4.out) bl4.out.size (fun g e => (ho4.lt g e).1) (by simp [lenEnc] <;> omega)).mono ?_
  rintro e w5 ⟨v5, rfl, ho5, hg5, hn5, hm5⟩
  have bl5 := Lib.hid (bl4.out.trans (below_of_own ho4 hg5 bl4.out.size))
  have d05 : w5.cell? ⟨g, 0, none⟩ = some (.pointer (some ⟨gk, 0, none⟩)) := (Hb.out.step bl5.out).cell 0
  have d15 : w5.cell? ⟨g, 1, none⟩ = some (.slice A1 n1 c1) := (Hb.out.step bl5.out).cell 1
  have d25 : w5.cell? ⟨g, 2, none⟩ = some (.slice A2 n2 c2) := (Hb.out.step bl5.out).cell 2
  have d35 : w5.cell? ⟨g, 3, none⟩ = some (.slice A3 n3 c3) := (Hb.out.step bl5.out).cell 3
  go_wp2_with fail
  refine (appendTag ho5 bl5.out.size (num := 3) (typ := 2) (by unfold TagOk; omega) (by simp [lenEnc] <;> omega)).mono ?_
  rintro e w6 ⟨v6, rfl, ho6, hg6, hn6, hm6⟩
  have bl6 := Lib.hid (bl5.out.trans (below_of_own ho5 hg6 bl5.out.size))
  have d06 : w6.cell? ⟨g, 0, none⟩ = some (.pointer (some ⟨gk, 0, none⟩)) := (Hb.out.step bl6.out).cell 0
  have d16 : w6.cell? ⟨g, 1, none⟩ = some (.slice A1 n1 c1) := (Hb.out.step bl6.out).cell 1
  have d26 : w6.cell? ⟨g, 2, none⟩ = some (.slice A2 n2 c2) := (Hb.out.step bl6.out).cell 2
  have d36 : w6.cell? ⟨g, 3, none⟩ = some (.slice A3 n3 c3) := (Hb.out.step bl6.out).cell 3
  go_wp2_with fail
  refine (appendBytes ho6 bl6.out.size (H2.out.below bl6.out) bl6.out.size (fun g e => (ho6.lt g e).1) (by simp [lenEnc] <;> omega)).mono ?_
  rintro e w7 ⟨v7, rfl, ho7, hg7, hn7, hm7⟩
  have bl7 := Lib.hid (bl6.out.trans (below_of_own ho6 hg7 bl6.out.size))
  have d07 : w7.cell? ⟨g, 0, none⟩ = some (.pointer (some ⟨gk, 0, none⟩)) := (Hb.out.step bl7.out).cell 0
  have d17 : w7.cell? ⟨g, 1, none⟩ = some (.slice A1 n1 c1) := (Hb.out.step bl7.out).cell 1
  have d27 : w7.cell? ⟨g, 2, none⟩ = some (.slice A2 n2 c2) := (Hb.out.step bl7.out).cell 2
  have d37 : w7.cell? ⟨g, 3, none⟩ = some (.slice A3 n3 c3) := (Hb.out.step bl7.out).cell 3
  go_wp2_with fail
  refine (appendTag ho7 bl7.out.size (num := 5) (typ := 2) (by unfold TagOk; omega) (by simp [lenEnc] <;> omega)).mono ?_
  rintro e w8 ⟨v8, rfl, ho8, hg8, hn8, hm8⟩
  have bl8 := Lib.hid (bl7.out.trans (below_of_own ho7 hg8 bl7.out.size))
  have d08 : w8.cell? ⟨g, 0, none⟩ = some (.pointer (some ⟨gk, 0, none⟩)) := (Hb.out.step bl8.out).cell 0
  have d18 : w8.cell? ⟨g, 1, none⟩ = some (.slice A1 n1 c1) := (Hb.out.step bl8.out).cell 1
  have d28 : w8.cell? ⟨g, 2, none⟩ = some (.slice A2 n2 c2) := (Hb.out.step bl8.out).cell 2
  have d38 : w8.cell? ⟨g, 3, none⟩ = some (.slice A3 n3 c3) := (Hb.out.step bl8.out).cell 3
  go_wp2_with fail
  refine (appendBytes ho8 bl8.out.size (H3.out.below bl8.out) bl8.out.size (fun g e => (ho8.lt g e).1) (by simp [lenEnc] <;> omega)).mono ?_
  rintro e w9 ⟨v9, rfl, ho9, hg9, hn9, hm9⟩
  have bl9 := Lib.hid (bl8.out.trans (below_of_own ho8 hg9 bl8.out.size))
  have d09 : w9.cell? ⟨g, 0, none⟩ = some (.pointer (some ⟨gk, 0, none⟩)) := (Hb.out.step bl9.out).cell 0
  have d19 : w9.cell? ⟨g, 1, none⟩ = some (.slice A1 n1 c1) := (Hb.out.step bl9.out).cell 1
  have d29 : w9.cell? ⟨g, 2, none⟩ = some (.slice A2 n2 c2) := (Hb.out.step bl9.out).cell 2
  have d39 : w9.cell? ⟨g, 3, none⟩ = some (.slice A3 n3 c3) := (Hb.out.step bl9.out).cell 3
  go_wp2_with fail
  go_ret2
  refine ⟨_, rfl, ?_, below_trans bl0.out bl9.out⟩
  rw [Henc.out]
  have := ho9.more bl0.out.size
  simpa [fieldEnc, List.append_assoc] using this

/-- a short envelope -/
structure EV.small (E : EV) : Prop where
  k1 : -2147483648 ≤ E.kind
  k2 : E.kind ≤ 2147483647
  key : E.key.length ≤ 1000000000
  ty : E.ty.length ≤ 1000000000
  pay : E.pay.length ≤ 1000000000
  sig : E.sig.length ≤ 1000000000

theorem envMarshal (hb : Blk w g 110 #[.pointer pk, .slice A1 n1 c1, .slice A2 n2 c2, .slice A3 n3 c3]) (hk : KeyFull w pk E) (h1 : Bs w w.heap.size (.slice A1 n1 c1) E.ty) (h2 : Bs w w.heap.size (.slice A2 n2 c2) E.pay) (h3 : Bs w w.heap.size (.slice A3 n3 c3) E.sig) (hs : E.small) :
    Calls Tryd.prog 81 #[.pointer (some ⟨g, 0, none⟩)] w fun e w' => BytesOk0 w (envEnc E) e w' := by
  have hh : E.has = true ∨ E.has = false := by cases E.has <;> simp
  rcases hh with hh | hh <;> rcases Nat.eq_zero_or_pos n1 with z1 | z1 <;> rcases Nat.eq_zero_or_pos n2 with z2 | z2 <;> rcases Nat.eq_zero_or_pos n3 with z3 | z3
  · exact envMarshal_1000 hb hk hh h1 z1 hs.ty h2 z2 hs.pay h3 z3 hs.sig hs.key hs.k1 hs.k2
  · exact envMarshal_1001 hb hk hh h1 z1 hs.ty h2 z2 hs.pay h3 z3 hs.sig hs.key hs.k1 hs.k2
  · exact envMarshal_1010 hb hk hh h1 z1 hs.ty h2 z2 hs.pay h3 z3 hs.sig hs.key hs.k1 hs.k2
  · exact envMarshal_1011 hb hk hh h1 z1 hs.ty h2 z2 hs.pay h3 z3 hs.sig hs.key hs.k1 hs.k2
  · exact envMarshal_1100 hb hk hh h1 z1 hs.ty h2 z2 hs.pay h3 z3 hs.sig hs.key hs.k1 hs.k2
  · exact envMarshal_1101 hb hk hh h1 z1 hs.ty h2 z2 hs.pay h3 z3 hs.sig hs.key hs.k1 hs.k2
  · exact envMarshal_1110 hb hk hh h1 z1 hs.ty h2 z2 hs.pay h3 z3 hs.sig hs.key hs.k1 hs.k2
  · exact envMarshal_1111 hb hk hh h1 z1 hs.ty h2 z2 hs.pay h3 z3 hs.sig hs.key hs.k1 hs.k2
  · exact envMarshal_0000 hb hk hh h1 z1 hs.ty h2 z2 hs.pay h3 z3 hs.sig hs.key hs.k1 hs.k2
  · exact envMarshal_0001 hb hk hh h1 z1 hs.ty h2 z2 hs.pay h3 z3 hs.sig hs.key hs.k1 hs.k2
  · exact envMarshal_0010 hb hk hh h1 z1 hs.ty h2 z2 hs.pay h3 z3 hs.sig hs.key hs.k1 hs.k2
  · exact envMarshal_0011 hb hk hh h1 z1 hs.ty h2 z2 hs.pay h3 z3 hs.sig hs.key hs.k1 hs.k2
  · exact envMarshal_0100 hb hk hh h1 z1 hs.ty h2 z2 hs.pay h3 z3 hs.sig hs.key hs.k1 hs.k2
  · exact envMarshal_0101 hb hk hh h1 z1 hs.ty h2 z2 hs.pay h3 z3 hs.sig hs.key hs.k1 hs.k2
  · exact envMarshal_0110 hb hk hh h1 z1 hs.ty h2 z2 hs.pay h3 z3 hs.sig hs.key hs.k1 hs.k2
  · exact envMarshal_0111 hb hk hh h1 z1 hs.ty h2 z2 hs.pay h3 z3 hs.sig hs.key hs.k1 hs.k2
end
end Go.Proofs.YtcefcdmonfenoaaDoor

/- The walk of FnKeyEnvelopeKey. (Printed by gen_elaws.py.) -/
import Derived.Test.YtcefcdmonfenoaaDoorWEl
import Derived.Test.YtcefcdmonfenoaaDoorOpn
import Derived.Test.YtcefcdmonfenoaaDoorWKeyEnvelope
import Derived.Deep.RegionHeld3
import Derived.Deep.RegionWith
import Derived.Deep.DrawnRows
namespace Go.Proofs.YtcefcdmonfenoaaDoor
open Go.RowKit
set_option maxRecDepth 100000
attribute [local go_sem ↓] Go.wp_at_zero Go.wp_at_succ
section
variable {w : World} {v0 v1 v2 v3 : Value}

/-- a piece of a key, as a field of an envelope -/
theorem envRun_piece {s : ES} {k : KS} {d : List UInt8} (hd : d.length < 2 ^ 64) (h : keyRun (s.key.getD KS.none) d = some k) (l : List UInt8) : envRun s (fieldEnc 1 d ++ l) = envRun { s with key := some k } l :=
  envRun_field 1 (by omega) hd (by unfold envPut; rw [if_pos (by rfl), h]; rfl) l
theorem keyRun_enc' {s : KS} {k : Int} {d : List UInt8} (h1 : -2147483648 ≤ k) (h2 : k ≤ 2147483647) (h : d.length < 2 ^ 64) : keyRun s (keyEnc k d) = some ⟨some k, some d⟩ := by
  rw [keyEnc_eq, keyRun_kindF h1 h2, ← List.append_nil (dataF d), keyRun_dataF h, keyRun_nil]
theorem keyRun_kindF' {s : KS} {k : Int} (h1 : -2147483648 ≤ k) (h2 : k ≤ 2147483647) : keyRun s (kindF k) = some { s with kind := some k } := by
  rw [← List.append_nil (kindF k), keyRun_kindF h1 h2, keyRun_nil]
theorem keyRun_dataF' {s : KS} {d : List UInt8} (h : d.length < 2 ^ 64) : keyRun s (dataF d) = some { s with data := some d } := by
  rw [← List.append_nil (dataF d), keyRun_dataF h, keyRun_nil]
theorem kindF_len (k : Int) : (kindF k).length ≤ 11 := by
  have : (Wire.venc (kindNum k)).length ≤ 10 := Wire.venc_length_u64 (kindNum_lt k)
  simp [kindF]; omega
theorem dataF_len {d : List UInt8} (h : d.length ≤ 300) : (dataF d).length ≤ 311 := by
  have : (Wire.venc d.length).length ≤ 10 := Wire.venc_length_u64 (by omega)
  simp [dataF, lenEnc]; omega
theorem envDec_pieces {k o : Int} {d m : List UInt8} (h1 : -2147483648 ≤ k) (h2 : k ≤ 2147483647) (o1 : -2147483648 ≤ o) (o2 : o ≤ 2147483647) (hd : d.length ≤ 300) (hm : m.length ≤ 300) :
    envDec (fieldEnc 1 (keyEnc o m) ++ (fieldEnc 1 (dataF d) ++ (fieldEnc 1 (kindF k) ++ []))) = some ⟨true, k, d, [], [], []⟩ := by
  have q1 := (keyEnc_length o m (by omega)).1
  have q2 := dataF_len hd
  have q3 := kindF_len k
  unfold envDec
  rw [envRun_piece (k := ⟨some o, some m⟩) (by omega) (keyRun_enc' o1 o2 (by omega)), envRun_piece (k := ⟨some o, some d⟩) (by omega) (keyRun_dataF' (by omega)), envRun_piece (k := ⟨some k, some d⟩) (by omega) (keyRun_kindF' h1 h2), envRun_nil]
  rfl
theorem envDec_half {k : Int} (h1 : -2147483648 ≤ k) (h2 : k ≤ 2147483647) : envDec (fieldEnc 1 (kindF k)) = none := by
  have q3 := kindF_len k
  unfold envDec
  rw [← List.append_nil (fieldEnc 1 (kindF k)), envRun_piece (k := ⟨some k, none⟩) (by omega) (keyRun_kindF' h1 h2), envRun_nil]
  rfl
theorem litb10 : (#[.int .u8 10] : Array Value).toList = bvs [UInt8.ofNat (8 * 1 + 2)] := by simp [bvs]

set_option maxHeartbeats 1000000 in
theorem piece {v : Value} {m : List UInt8} (h : Bs w w.heap.size v m) (hm : m.length ≤ 1000000000) :
    Calls Tryd.prog 58 #[v] w fun e w' => FreshN w (fieldEnc 1 m) e w' := by
  obtain ⟨A, n, c, rfl, hn, _, _⟩ := h.form'
  have H := Lib.hid h
  have H10 := Lib.hid (show (Wire.venc m.length).length ≤ 10 from Wire.venc_length_u64 (by omega))
  have Hv := Lib.hid (show ∀ W : World, Calls Tryd.prog 35 #[.int .u64 (n : Int)] W fun e w' => FreshN W (Wire.venc m.length) e w' from fun W => by
    have := wireNumber W (n : Int) (by omega) (by rw [hn.out]; omega)
    rw [Int.toNat_natCast, hn.out] at this
    rw [hn.out]
    exact this)
  have hn63 : n ≤ 1000000000 := by rw [hn.out]; exact hm
  clear h hn
  go_enter Tryd.func58, Tryd.ntmps58
  go_wp2_with fail
  refine (Hv.out _).mono ?_
  rintro e w1 ⟨v1, rfl, ho1, hb1, ⟨a1, n1, c1, rfl⟩⟩
  have hba := below_alloc w (.cells #[.int .u8 10] 5)
  have X0 := Lib.hid ((Bs.newAt w #[.int .u8 10] [UInt8.ofNat (8 * 1 + 2)] litb10 (by simp) _ 1 1 rfl rfl rfl).step hb1)
  have X1 := Lib.hid (ho1.bs)
  have B1 := Lib.hid (below_trans hba hb1)
  have X2 := Lib.hid (H.out.step B1.out)
  clear ho1 hb1 hba
  go_wp2_with fail
  have hbb := fun o => below_alloc w1 o
  refine (concat (Bss.lit w1 23 [_, _, _] [[UInt8.ofNat (8 * 1 + 2)], _, m] ⟨X0.out, X1.out, X2.out, trivial⟩ (by simp) _ 3 3 rfl rfl rfl) (by have := H10.out; simp; omega)).mono ?_
  rintro e w2 ⟨v2, rfl, ho2, hb2⟩
  have Ho2 := Lib.hid ho2
  have B2 := Lib.hid (below_trans B1.out (below_trans (hbb _) hb2))
  have hsz := B1.out.size
  clear ho2 hb2 hbb
  go_wp2_with fail
  go_ret
  have he : [[UInt8.ofNat (8 * 1 + 2)], Wire.venc m.length, m].flatten = fieldEnc 1 m := by
    simp [fieldEnc, lenEnc]
  refine ⟨_, rfl, ?_, B2.out, ?_⟩
  · have := Ho2.out.more (base' := w.heap.size) (by simp; omega)
    rw [he] at this
    exact this
  · refine NN.of_len Ho2.out.bs ?_
    rw [he, fieldEnc_length]; omega

set_option maxHeartbeats 2000000 in
theorem FnKeyEnvelopeKey_main {k o : Int} {d m : List UInt8} (f0 : IsInt .i32 v0 k) (f1 : IsInt .i32 v1 o) (f2 : Bs w w.heap.size v2 d) (f3 : Bs w w.heap.size v3 m) (he : EErr w) (hd : d.length ≤ 300) (hm : m.length ≤ 300) :
    Calls Tryd.prog 18 #[v0, v1, v2, v3] w fun e w' => Yes w e w' := by
  have He := Lib.hid he
  clear he
  obtain ⟨rfl, k1, k2⟩ := isI32 f0
  obtain ⟨rfl, o1, o2⟩ := isI32 f1
  obtain ⟨A1, N, c1, rfl, hN, hc1, hm1⟩ := f2.form'
  obtain ⟨A2, M, c2, rfl, hM, hc2, hm2⟩ := f3.form'
  have hN' : N ≤ 300 := by rw [hN.out]; exact hd
  have hM' : M ≤ 300 := by rw [hM.out]; exact hm
  have X_d := Lib.hid f2
  have X_m := Lib.hid f3
  have Hd := Lib.hid (envDec_pieces k1 k2 o1 o2 hd hm)
  have Hh := Lib.hid (envDec_half k1 k2)
  have Hkl := Lib.hid (show kindLen k ≤ (keyEnc k d).length by rw [kindLen_eq, keyEnc_eq, List.length_append]; omega)
  have Hlk := Lib.hid (kindF_len k)
  have Hld := Lib.hid (dataF_len hd)
  have Hle := Lib.hid (show (keyEnc o m).length ≤ 322 by have := (keyEnc_length o m (by omega)).1; omega)
  have Hle2 := Lib.hid (show (keyEnc k d).length ≤ 322 by have := (keyEnc_length k d (by omega)).1; omega)
  have hd' : d.length + 60 ≤ 140737488355328 := by omega
  have hm' : m.length + 60 ≤ 140737488355328 := by omega
  have Hdl := Lib.hid hd'
  have Hml := Lib.hid hm'
  clear f0 f1 f2 f3 hN hM hd hm hd' hm'
  have B := Lib.hid (below_refl w)

  go_enter Tryd.func18, Tryd.ntmps18
  go_wp2_with fail
  refine (specKeyBytes X_d.out k1 k2 Hdl.out).mono ?_
  rintro e w1 ⟨z, rfl, ho, hb, ⟨A_z, n_z, c_z, rfl⟩⟩
  have X_z := Lib.hid ho.bs
  replace X_d := Lib.hid (X_d.out.step hb)
  replace X_m := Lib.hid (X_m.out.step hb)
  replace B := Lib.hid (below_trans B.out hb)
  clear hb ho
  go_wp2_with fail
  refine (specKeyKind k1 k2).mono ?_
  rintro e w2 ⟨rfl, hb⟩
  replace X_d := Lib.hid (X_d.out.step hb)
  replace X_m := Lib.hid (X_m.out.step hb)
  replace X_z := Lib.hid (X_z.out.step hb)
  replace B := Lib.hid (below_trans B.out hb)
  clear hb
  obtain ⟨A', n', c', e', h1, h2, h3⟩ := X_z.out.form'
  injection e' with e1 e2 e3
  subst e1 e2 e3
  have hkn : kindLen k ≤ n_z := by rw [h1.out]; exact Hkl.out
  clear h1
  obtain ⟨A3, hsl, hcut⟩ := slice_from X_z.out hkn
  rw [keyEnc_drop] at hcut
  have X_y := Lib.hid hcut
  have hfr := X_z.out.front (k := kindLen k) Hkl.out
  rw [keyEnc_take] at hfr
  have X_k := Lib.hid hfr
  clear hcut hfr Hkl
  generalize kindLen k = K at *
  go_wp2_with fail
  have Hfl := Lib.hid (show [fieldEnc 1 (keyEnc o m), fieldEnc 1 (dataF d), fieldEnc 1 (kindF k)].flatten = fieldEnc 1 (keyEnc o m) ++ (fieldEnc 1 (dataF d) ++ (fieldEnc 1 (kindF k) ++ [])) by simp)
  have Hcl := Lib.hid (show [fieldEnc 1 (keyEnc o m), fieldEnc 1 (dataF d), fieldEnc 1 (kindF k)].flatten.length ≤ 140737488355328 by
    have q1 := fieldEnc_le' 1 (keyEnc o m) (by have := Hle.out; omega)
    have q2 := fieldEnc_le' 1 (dataF d) (by have := Hld.out; omega)
    have q3 := fieldEnc_le' 1 (kindF k) (by have := Hlk.out; omega)
    have := Hle.out; have := Hld.out; have := Hlk.out
    simp; omega)
  have Hfl := Lib.hid (show [fieldEnc 1 (keyEnc o m), fieldEnc 1 (dataF d), fieldEnc 1 (kindF k)].flatten = fieldEnc 1 (keyEnc o m) ++ (fieldEnc 1 (dataF d) ++ (fieldEnc 1 (kindF k) ++ [])) by simp)
  have Hcl := Lib.hid (show [fieldEnc 1 (keyEnc o m), fieldEnc 1 (dataF d), fieldEnc 1 (kindF k)].flatten.length ≤ 140737488355328 by
    have q1 := fieldEnc_le' 1 (keyEnc o m) (by have := Hle.out; omega)
    have q2 := fieldEnc_le' 1 (dataF d) (by have := Hld.out; omega)
    have q3 := fieldEnc_le' 1 (kindF k) (by have := Hlk.out; omega)
    have := Hle.out; have := Hld.out; have := Hlk.out
    simp; omega)
  have i0 : (0 : Int) ≤ (K : Int) := by omega
  have i1 : (K : Int) ≤ (n_z : Int) := by omega
  have i2 : (K : Int) ≤ (c_z : Int) := by omega
  go_region_held3 (fun _ => True) (trivial) (first
    | (go_at_call 29; (with_reducible refine (specKeyBytes X_m.out.drew1 o1 o2 Hml.out).mono ?_); rintro e w3 ⟨x1, rfl, ho, hb, ⟨A_1, n_1, c_1, rfl⟩⟩; replace hb := below_trans (below_drew w2) hb; have X_1 := Lib.hid ho.bs; have B3 := Lib.hid hb; clear ho hb)
    | (go_at_call 58; (with_reducible refine (piece X_1.out (by have := Hle.out; omega)).mono ?_); rintro e w4 ⟨x2, rfl, ho, hb, ⟨A_2, n_2, c_2, rfl⟩⟩; have X_2 := Lib.hid ho.bs; have B4 := Lib.hid (below_trans B3.out hb); clear ho hb)
    | (go_at_call 58; (with_reducible refine (piece (X_y.out.step B4.out) (by have := Hld.out; omega)).mono ?_); rintro e w5 ⟨x3, rfl, ho, hb, ⟨A_3, n_3, c_3, rfl⟩⟩; have X_3 := Lib.hid ho.bs; replace X_2 := Lib.hid (X_2.out.step hb); have B5 := Lib.hid (below_trans B4.out hb); clear ho hb)
    | (go_at_call 58; (with_reducible refine (piece (X_k.out.step B5.out) (by have := Hlk.out; omega)).mono ?_); rintro e w6 ⟨x4, rfl, ho, hb, ⟨A_4, n_4, c_4, rfl⟩⟩; have X_4 := Lib.hid ho.bs; replace X_2 := Lib.hid (X_2.out.step hb); replace X_3 := Lib.hid (X_3.out.step hb); have B6 := Lib.hid (below_trans B5.out hb); clear ho hb)
    | (go_at_call 32; refine (concat (Bss.lit _ 23 [_, _, _] [_, _, _] ⟨X_2.out, X_3.out, X_4.out, trivial⟩ (by simp) _ 3 3 rfl rfl rfl) Hcl.out).mono ?_; rintro e w7 ⟨x5, rfl, ho, hb⟩; have X_5 := Lib.hid (ho.bs.cast Hfl.out); have B7 := Lib.hid (below_trans B6.out (below_trans (below_alloc w6 _) hb)); clear ho hb))
  replace B := Lib.hid (below_trans B.out B7.out)
  replace X_d := Lib.hid (X_d.out.step B7.out)
  replace X_k := Lib.hid (X_k.out.step B7.out)
  have Hcl2 := Lib.hid (show (fieldEnc 1 (keyEnc o m) ++ (fieldEnc 1 (dataF d) ++ (fieldEnc 1 (kindF k) ++ []))).length ≤ 140737488355328 by rw [← Hfl.out]; exact Hcl.out)
  clear X_1 X_2 X_3 X_4 X_m X_z X_y B3 B4 B5 B6 B7 Hcl Hfl
  go_wp2_with fail
  refine (envelopeOf X_5.out (He.out.step B.out) Hcl2.out).mono ?_
  rintro e w8 ⟨hb, hans⟩
  obtain ⟨vx, rfl, hx⟩ := envSome hans Hd.out
  clear hans
  replace X_d := Lib.hid (X_d.out.step hb)
  replace X_k := Lib.hid (X_k.out.step hb)
  replace B := Lib.hid (below_trans B.out hb)
  clear hb
  clear X_5 Hcl2
  obtain ⟨A1', n1', c1', A2', n2', c2', A3', n3', c3', A4', n4', c4', rfl, z1, z2, z3, z4⟩ := EnvVal.form hx
  have X_x := Lib.hid z1
  clear hx z1 z2 z3 z4
  go_wp2_with fail
  have hb := below_alloc w8 (.cells #[.bool true, .int .i32 k, .slice A1' n1' c1', .slice A2' n2' c2', .slice A3' n3' c3', .slice A4' n4' c4'] 64)
  have b_x := Lib.hid (Blk.new w8 64 #[.bool true, .int .i32 k, .slice A1' n1' c1', .slice A2' n2' c2', .slice A3' n3' c3', .slice A4' n4' c4'])
  replace X_d := Lib.hid (X_d.out.step hb)
  replace X_k := Lib.hid (X_k.out.step hb)
  replace X_x := Lib.hid (X_x.out.step hb)
  replace B := Lib.hid (below_trans B.out hb)
  clear hb
  obtain ⟨g_x, hg_x⟩ : ∃ g, g = w8.heap.size := ⟨_, rfl⟩
  rw [← hg_x]
  rw [← hg_x] at b_x
  generalize hw9 : w8.alloc (.cells #[.bool true, .int .i32 k, .slice A1' n1' c1', .slice A2' n2' c2', .slice A3' n3' c3', .slice A4' n4' c4'] 64) = w9 at *
  clear hw9
  clear hg_x
  refine (piece X_k.out (by have := Hlk.out; omega)).mono ?_
  rintro e w10 ⟨q, rfl, ho, hb, ⟨A_q, n_q, c_q, rfl⟩⟩
  have X_q := Lib.hid ho.bs
  replace X_d := Lib.hid (X_d.out.step hb)
  replace X_k := Lib.hid (X_k.out.step hb)
  replace X_x := Lib.hid (X_x.out.step hb)
  replace b_x := Lib.hid (b_x.out.step hb)
  replace B := Lib.hid (below_trans B.out hb)
  clear hb ho
  have b_x_0 := b_x.out.cell 0
  have b_x_1 := b_x.out.cell 1
  have b_x_2 := b_x.out.cell 2
  have b_x_3 := b_x.out.cell 3
  have b_x_4 := b_x.out.cell 4
  have b_x_5 := b_x.out.cell 5
  simp only [List.getElem?_toArray, List.getElem?_cons_zero, List.getElem?_cons_succ] at b_x_0 b_x_1 b_x_2 b_x_3 b_x_4 b_x_5
  have b_x_f0 := b_x.out.free 0
  have b_x_f1 := b_x.out.free 1
  have b_x_f2 := b_x.out.free 2
  have b_x_f3 := b_x.out.free 3
  have b_x_f4 := b_x.out.free 4
  have b_x_f5 := b_x.out.free 5
  go_wp2_with fail
  clear b_x_0 b_x_f0 b_x_1 b_x_f1 b_x_2 b_x_f2 b_x_3 b_x_f3 b_x_4 b_x_f4 b_x_5 b_x_f5
  refine (envelopeOf X_q.out (He.out.step B.out) (by have := fieldEnc_le' 1 (kindF k) (by have := Hlk.out; omega); have := Hlk.out; omega)).mono ?_
  rintro e w11 ⟨hb, hans⟩
  obtain ⟨vy, rfl, hy⟩ := envNone hans Hh.out
  clear hans
  replace X_d := Lib.hid (X_d.out.step hb)
  replace X_k := Lib.hid (X_k.out.step hb)
  replace X_x := Lib.hid (X_x.out.step hb)
  replace b_x := Lib.hid (b_x.out.step hb)
  replace X_q := Lib.hid (X_q.out.step hb)
  replace B := Lib.hid (below_trans B.out hb)
  clear hb
  obtain ⟨A5', n5', c5', A6', n6', c6', A7', n7', c7', A8', n8', c8', rfl, z1, z2, z3, z4⟩ := EnvVal.form hy
  clear hy z1 z2 z3 z4
  have b_x_o0 := (b_x.out.alloc (.cells #[.bool false, .int .i32 0, .slice A5' n5' c5', .slice A6' n6' c6', .slice A7' n7' c7', .slice A8' n8' c8'] 64)).cell 0
  have b_x_o1 := (b_x.out.alloc (.cells #[.bool false, .int .i32 0, .slice A5' n5' c5', .slice A6' n6' c6', .slice A7' n7' c7', .slice A8' n8' c8'] 64)).cell 1
  have b_x_o2 := (b_x.out.alloc (.cells #[.bool false, .int .i32 0, .slice A5' n5' c5', .slice A6' n6' c6', .slice A7' n7' c7', .slice A8' n8' c8'] 64)).cell 2
  have b_x_o3 := (b_x.out.alloc (.cells #[.bool false, .int .i32 0, .slice A5' n5' c5', .slice A6' n6' c6', .slice A7' n7' c7', .slice A8' n8' c8'] 64)).cell 3
  have b_x_o4 := (b_x.out.alloc (.cells #[.bool false, .int .i32 0, .slice A5' n5' c5', .slice A6' n6' c6', .slice A7' n7' c7', .slice A8' n8' c8'] 64)).cell 4
  have b_x_o5 := (b_x.out.alloc (.cells #[.bool false, .int .i32 0, .slice A5' n5' c5', .slice A6' n6' c6', .slice A7' n7' c7', .slice A8' n8' c8'] 64)).cell 5
  simp only [List.getElem?_toArray, List.getElem?_cons_zero, List.getElem?_cons_succ] at b_x_o0 b_x_o1 b_x_o2 b_x_o3 b_x_o4 b_x_o5
  have b_x_0 := b_x.out.cell 0
  have b_x_1 := b_x.out.cell 1
  have b_x_2 := b_x.out.cell 2
  have b_x_3 := b_x.out.cell 3
  have b_x_4 := b_x.out.cell 4
  have b_x_5 := b_x.out.cell 5
  simp only [List.getElem?_toArray, List.getElem?_cons_zero, List.getElem?_cons_succ] at b_x_0 b_x_1 b_x_2 b_x_3 b_x_4 b_x_5
  have b_x_f0 := b_x.out.free 0
  have b_x_f1 := b_x.out.free 1
  have b_x_f2 := b_x.out.free 2
  have b_x_f3 := b_x.out.free 3
  have b_x_f4 := b_x.out.free 4
  have b_x_f5 := b_x.out.free 5
  go_wp2_with fail
  clear b_x_o0 b_x_o1 b_x_o2 b_x_o3 b_x_o4 b_x_o5
  clear b_x_0 b_x_f0 b_x_1 b_x_f1 b_x_2 b_x_f2 b_x_3 b_x_f3 b_x_4 b_x_f4 b_x_5 b_x_f5
  have hb := below_alloc w11 (.cells #[.bool false, .int .i32 0, .slice A5' n5' c5', .slice A6' n6' c6', .slice A7' n7' c7', .slice A8' n8' c8'] 64)
  replace X_d := Lib.hid (X_d.out.step hb)
  replace X_k := Lib.hid (X_k.out.step hb)
  replace X_x := Lib.hid (X_x.out.step hb)
  replace b_x := Lib.hid (b_x.out.step hb)
  replace X_q := Lib.hid (X_q.out.step hb)
  replace B := Lib.hid (below_trans B.out hb)
  clear hb
  obtain ⟨g_y, hg_y⟩ : ∃ g, g = w11.heap.size := ⟨_, rfl⟩
  rw [← hg_y]
  generalize hw12 : w11.alloc (.cells #[.bool false, .int .i32 0, .slice A5' n5' c5', .slice A6' n6' c6', .slice A7' n7' c7', .slice A8' n8' c8'] 64) = w12 at *
  clear hw12
  clear hg_y
  refine (eqTrue X_x.out X_d.out rfl).mono ?_
  rintro e W_ ⟨rfl, rfl⟩
  have b_x_0 := b_x.out.cell 0
  have b_x_1 := b_x.out.cell 1
  have b_x_2 := b_x.out.cell 2
  have b_x_3 := b_x.out.cell 3
  have b_x_4 := b_x.out.cell 4
  have b_x_5 := b_x.out.cell 5
  simp only [List.getElem?_toArray, List.getElem?_cons_zero, List.getElem?_cons_succ] at b_x_0 b_x_1 b_x_2 b_x_3 b_x_4 b_x_5
  have b_x_f0 := b_x.out.free 0
  have b_x_f1 := b_x.out.free 1
  have b_x_f2 := b_x.out.free 2
  have b_x_f3 := b_x.out.free 3
  have b_x_f4 := b_x.out.free 4
  have b_x_f5 := b_x.out.free 5
  go_wp2_with fail
  clear b_x_0 b_x_f0 b_x_1 b_x_f1 b_x_2 b_x_f2 b_x_3 b_x_f3 b_x_4 b_x_f4 b_x_5 b_x_f5
  refine (envelopesLive (He.out.step B.out)).mono ?_
  rintro e w13 ⟨rfl, hb⟩
  replace X_d := Lib.hid (X_d.out.step hb)
  replace X_k := Lib.hid (X_k.out.step hb)
  replace X_x := Lib.hid (X_x.out.step hb)
  replace b_x := Lib.hid (b_x.out.step hb)
  replace X_q := Lib.hid (X_q.out.step hb)
  replace B := Lib.hid (below_trans B.out hb)
  clear hb
  have b_x_0 := b_x.out.cell 0
  have b_x_1 := b_x.out.cell 1
  have b_x_2 := b_x.out.cell 2
  have b_x_3 := b_x.out.cell 3
  have b_x_4 := b_x.out.cell 4
  have b_x_5 := b_x.out.cell 5
  simp only [List.getElem?_toArray, List.getElem?_cons_zero, List.getElem?_cons_succ] at b_x_0 b_x_1 b_x_2 b_x_3 b_x_4 b_x_5
  have b_x_f0 := b_x.out.free 0
  have b_x_f1 := b_x.out.free 1
  have b_x_f2 := b_x.out.free 2
  have b_x_f3 := b_x.out.free 3
  have b_x_f4 := b_x.out.free 4
  have b_x_f5 := b_x.out.free 5
  go_wp2_with fail
  clear b_x_0 b_x_f0 b_x_1 b_x_f1 b_x_2 b_x_f2 b_x_3 b_x_f3 b_x_4 b_x_f4 b_x_5 b_x_f5
  go_ret
  exact ⟨rfl, B.out⟩

theorem walk_FnKeyEnvelopeKey {k o : Int} {d m : List UInt8} (f0 : IsInt .i32 v0 k) (f1 : IsInt .i32 v1 o) (f2 : Bs w w.heap.size v2 d) (f3 : Bs w w.heap.size v3 m) (he : HasErr w 4 ∧ HasErr w 5 ∧ HasErr w 6 ∧ HasErr w 7 ∧ HasErr w 8 ∧ HasErr w 9 ∧ HasErr w 3 ∧ HasErr w 2 ∧ HasErr w 1) :
    Calls Tryd.prog 18 #[v0, v1, v2, v3] w fun e w' => Yes w e w' := by
  have He := Lib.hid (eErr_of he)
  clear he
  by_cases hs : d.length ≤ 300 ∧ m.length ≤ 300
  · exact FnKeyEnvelopeKey_main f0 f1 f2 f3 He.out hs.1 hs.2
  obtain ⟨rfl, k1, k2⟩ := isI32 f0
  obtain ⟨rfl, o1, o2⟩ := isI32 f1
  obtain ⟨A1, N, c1, rfl, hN, hc1, hm1⟩ := f2.form'
  obtain ⟨A2, M, c2, rfl, hM, hc2, hm2⟩ := f3.form'
  have hs' : 300 < N ∨ (N ≤ 300 ∧ 300 < M) := by rw [hN.out, hM.out]; omega
  clear hs hN hM f0 f1 f2 f3
  have hc : 2147483647 < N ∨ (N ≤ 2147483647 ∧ 2147483647 < M) ∨ (N ≤ 2147483647 ∧ M ≤ 2147483647 ∧ 300 < N) ∨ (N ≤ 300 ∧ M ≤ 2147483647 ∧ 300 < M) := by omega
  clear hs'
  rcases hc with q1 | ⟨q1, q2⟩ | ⟨q1, q2, q3⟩ | ⟨q1, q2, q3⟩

  · go_enter Tryd.func18, Tryd.ntmps18
    go_wp2_with fail
    go_ret
    exact ⟨rfl, below_refl _⟩
  · go_enter Tryd.func18, Tryd.ntmps18
    go_wp2_with fail
    go_ret
    exact ⟨rfl, below_refl _⟩
  · go_enter Tryd.func18, Tryd.ntmps18
    go_wp2_with fail
    refine (envelopesLive He.out).mono ?_
    rintro e w5 ⟨rfl, hb5⟩
    go_wp2_with fail
    go_ret
    exact ⟨rfl, hb5⟩
  · go_enter Tryd.func18, Tryd.ntmps18
    go_wp2_with fail
    refine (envelopesLive He.out).mono ?_
    rintro e w5 ⟨rfl, hb5⟩
    go_wp2_with fail
    go_ret
    exact ⟨rfl, hb5⟩

end
end Go.Proofs.YtcefcdmonfenoaaDoor

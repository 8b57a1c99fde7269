/- The walk of FnKeyAddressLast. (Printed by gen_last.py.) -/
import Derived.Test.YtcefcdmonfenoaaDoorWRl
namespace Go.Proofs.YtcefcdmonfenoaaDoor
open Go.RowKit
set_option maxRecDepth 100000
attribute [local go_sem ↓] Go.wp_at_zero Go.wp_at_succ
section
variable {w : World} {v v0 : Value} {L : List (List UInt8)}

/-- the first element that is too long -/
theorem longOne60 (W : World) (A : Option Addr) (n c : Nat) : Calls Tryd.prog 45 #[.slice A n c] W fun e w' => e = .returned (.bool (decide ((60 : Int) < (n : Int)))) ∧ W = w' := by
  go_enter Tryd.func45, Tryd.ntmps45
  go_wp2_with fail
  go_ret
  exact ⟨rfl, rfl⟩
theorem indexLong60 (h : Bss w w.heap.size v L) :
    Calls Tryd.prog 78 #[v, .func (.func 45) #[] #[]] w fun e w' => IdxAns 60 L e ∧ w = w' := by
  obtain ⟨A, n, c, rfl, hn, hc, hm⟩ := h.form'
  have H := Lib.hid h
  clear h
  go_enter Tryd.func78, Tryd.ntmps78
  go_wp2_with fail
  go_loop [8] (fun i => ∃ k : Nat, k ≤ n ∧ i = .int .i64 (k : Int) ∧ Hid (AllLe 60 (L.take k))) (fun i => n - (intOf i).toNat)
  case atStart => exact ⟨0, Nat.zero_le _, rfl, fun a h => by simp at h⟩
  case round =>
    obtain ⟨k, hk, rfl, hall⟩ := hrel
    by_cases hlt : k < n
    · have hkL : k < L.length := by have := hn.out; omega
      obtain ⟨g, o, A', n', c', rfl, hcell, hb⟩ := H.out.at' hkL
      have hn' := Lib.hid (bs_len hb)
      clear hb
      go_wp2_with fail
      refine (longOne60 _ _ _ _).mono ?_
      rintro e w' ⟨rfl, rfl⟩
      by_cases hlong : 60 < n'
      · have hd : decide ((60 : Int) < (n' : Int)) = true := by simp; omega
        go_wp2_with fail
        go_ret
        exact ⟨.inr ⟨allLe_not hkL (by have := hn'.out; omega), _, rfl⟩, rfl⟩
      · have hd : decide ((60 : Int) < (n' : Int)) = false := by simp; omega
        go_wp2_with fail
        go_round
        case rel => exact ⟨k + 1, by omega, by go_num, allLe_take hall.out hkL (by have := hn'.out; omega)⟩
        case measure => simp [intOf]; omega
    · obtain rfl : k = n := by omega
      go_wp2_with fail
      go_ret
      exact ⟨.inl ⟨by have := hall.out; rw [hn.out, List.take_length] at this; exact this, rfl⟩, rfl⟩
theorem containsLong60 (h : Bss w w.heap.size v L) :
    Calls Tryd.prog 44 #[v, .func (.func 45) #[] #[]] w fun e w' => BoolIff (¬ AllLe 60 L) e ∧ w = w' := by
  have HC := Lib.hid (indexLong60 h)
  obtain ⟨A, n, c, rfl, hn, hc, hm⟩ := h.form'
  clear h
  go_enter Tryd.func44, Tryd.ntmps44
  go_wp2_with fail
  refine HC.out.mono ?_
  rintro e w' ⟨hans, rfl⟩
  rcases hans with ⟨hall, rfl⟩ | ⟨hall, k, rfl⟩
  · have Hall := Lib.hid hall
    clear hall
    go_wp2_with fail
    go_ret
    exact ⟨BoolIff.f fun h => h Hall.out, rfl⟩
  · have Hall := Lib.hid hall
    clear hall
    have hd : decide ((0 : Int) ≤ (k : Int)) = true := by simp
    go_wp2_with fail
    go_ret
    exact ⟨BoolIff.t Hall.out, rfl⟩

theorem piecesF_succ {L : List (List UInt8)} {k : Nat} (h : k < L.length) : ((L.take (k + 1)).map (fieldEnc 1)).flatten = ((L.take k).map (fieldEnc 1)).flatten ++ fieldEnc 1 L[k] := by
  rw [List.take_succ_eq_append_getElem h, List.map_append, List.flatten_append]; simp
theorem piecesF_len : ∀ (L : List (List UInt8)), AllLe 60 L → ((L.map (fieldEnc 1)).flatten).length ≤ L.length * 80 := by
  intro L
  induction L with
  | nil => intro _; simp
  | cons a L ih =>
    intro h
    have h0 : a.length ≤ 60 := h a (by simp)
    have h1 := fieldEnc_le' 1 a (by omega)
    have h2 := ih (fun b hb => h b (by simp [hb]))
    rw [List.map_cons, List.flatten_cons, List.length_append, List.length_cons]
    omega
theorem piecesF_take {L : List (List UInt8)} (h : AllLe 60 L) (hl : L.length ≤ 10) (k : Nat) : (((L.take k).map (fieldEnc 1)).flatten).length ≤ 800 := by
  have h1 := piecesF_len (L.take k) (fun a ha => h a (List.mem_of_mem_take ha))
  have h2 : (L.take k).length ≤ 10 := by rw [List.length_take]; omega
  omega
theorem index_first {g o c : Nat} (W : World) : (Instr.indexAt 47 (.slice (some ⟨g, o, none⟩) 1 c) (.int .i64 0)).run Tryd.prog W = .ok (.pointer (some ⟨g, o, none⟩)) W := by
  obtain ⟨i0, hi, hz0, hz1, hz2⟩ := info_parts Tryd.infoBs
  have hs : Tryd.prog.elem 47 = 23 := by kernel_rfl
  have hu : Tryd.prog.underlying 47 = some (.slice (Tryd.prog.elem 47)) := by rw [hs]; exact Tryd.underlying47
  rw [run_indexAt_slice _ _ _ _ _ _ _ hu]
  simp [hs, sizeOf, typeInfo, hi, hz1, Addr.add]
theorem lastOf_succ {L : List (List UInt8)} {k : Nat} (h : k < L.length) : (L.take (k + 1)).getLast?.getD [] = L[k] := by
  rw [List.take_succ_eq_append_getElem h, List.getLast?_concat]; rfl

set_option maxHeartbeats 2000000 in
theorem walk_FnKeyAddressLast (f0 : Bss w w.heap.size v0 L) (he : HasErr w 4 ∧ HasErr w 5 ∧ HasErr w 6 ∧ HasErr w 7 ∧ HasErr w 8 ∧ HasErr w 9 ∧ HasErr w 0) :
    Calls Tryd.prog 11 #[v0] w fun e w' => Yes w e w' := by
  have He := Lib.hid (rErr_of he)
  clear he
  obtain ⟨A, n, c, rfl, hn, hc, hm⟩ := f0.form'
  have H := Lib.hid f0
  clear f0
  go_enter Tryd.func11, Tryd.ntmps11
  go_wp2_with fail
  by_cases hs : L.length ≤ 2147483647 ∧ AllLe 2147483647 L
  rotate_left
  · refine (zzFits4 H.out).mono ?_
    rintro e w' ⟨hans, rfl⟩
    obtain rfl := hans.no hs
    clear hans
    go_wp2_with fail
    go_ret
    exact ⟨rfl, below_refl w⟩
  refine (zzFits4 H.out).mono ?_
  rintro e w' ⟨hans, rfl⟩
  obtain rfl := hans.yes hs
  clear hans hs
  by_cases hn10 : 10 < n
  · go_wp2_with fail
    refine (recordsLive He.out).mono ?_
    rintro e w1 ⟨rfl, hb⟩
    go_wp2_with fail
    go_ret
    exact ⟨rfl, hb⟩
  go_wp2_with fail
  by_cases hs : AllLe 60 L
  rotate_left
  · refine (containsLong60 H.out).mono ?_
    rintro e w' ⟨hans, rfl⟩
    obtain rfl := hans.yes hs
    clear hans hs
    go_wp2_with fail
    refine (recordsLive He.out).mono ?_
    rintro e w1 ⟨rfl, hb⟩
    go_wp2_with fail
    go_ret
    exact ⟨rfl, hb⟩
  refine (containsLong60 H.out).mono ?_
  rintro e w' ⟨hans, rfl⟩
  obtain rfl := hans.no (fun h => h hs)
  clear hans
  have Hs := Lib.hid hs
  have Htk := Lib.hid (piecesF_take hs (by have := hn.out; omega))
  clear hs
  go_wp2_with fail
  go_loopw [3, 4, 22] (fun s l i wr => ∃ k : Nat, k ≤ n ∧ i = .int .i64 (k : Int) ∧ (∃ A' n' c', l = .slice A' n' c') ∧ Hid (Own wr w.heap.size s ((L.take k).map (fieldEnc 1)).flatten) ∧ Hid (Bs wr w.heap.size l ((L.take k).getLast?.getD [])) ∧ Hid (Below w.heap.size w wr)) (fun _ _ i _ => n - (intOf i).toNat)
  case atStart => exact ⟨0, Nat.zero_le _, rfl, ⟨_, _, _, rfl⟩, Own.nil _ _, Bs.nil0 _ _, below_refl w⟩
  case round =>
    obtain ⟨k, hk, rfl, ⟨Al, nl, cl, rfl⟩, ho, hl, hb⟩ := hrel
    have hsz := hb.out.size
    by_cases hlt : k < n
    · have hkL : k < L.length := by have := hn.out; omega
      obtain ⟨gr, o, A', n', c', rfl, hcell, hbs⟩ := (H.out.below hb.out).at' hkL
      have Hbs := Lib.hid hbs
      have Hb2 := Lib.hid (hbs.more hsz)
      have hlen := Htk.out k
      have Hsu := Lib.hid (piecesF_succ hkL)
      have Hla := Lib.hid (lastOf_succ hkL)
      have hle : L[k].length ≤ 60 := Hs.out _ (List.getElem_mem hkL)
      have hfl : (fieldEnc 1 L[k]).length ≤ 80 := by have := fieldEnc_le' 1 L[k] (by omega); omega
      clear hbs hl
      go_wp2_with fail
      refine (keyField (f := 1) (by omega) Hb2.out (by omega)).mono ?_
      rintro e w3 ⟨v3, rfl, ho3, hb3, ⟨A3, n3, c3, rfl⟩⟩
      have Y3 := Lib.hid ho3.bs
      have Ho3 := Lib.hid (ho.out.step hb3)
      have B3 := Lib.hid (below_trans hb.out hb3)
      have Hbs3 := Lib.hid (Hbs.out.below (hb3.mono hsz))
      clear ho3 hb3
      go_wp2_with (at_builtin; refine wpList_app rfl _ _ rfl (by rfl) (by rfl) Ho3.out Y3.out (by omega) B3.out.size ?_; intro v5 w5 ho5 hg5 _ _; have Ho5 := Lib.hid (show Own w5 w.heap.size v5 ((L.take (k + 1)).map (fieldEnc 1)).flatten by rw [Hsu.out]; exact ho5); have B5' := below_of_own Ho3.out hg5 B3.out.size; have B5 := Lib.hid (B3.out.trans B5'); have Hbs5 := Lib.hid (show Bs w5 w.heap.size (.slice A' n' c') ((L.take (k + 1)).getLast?.getD []) by rw [Hla.out]; exact Hbs3.out.below B5'); clear ho5 hg5 B5')
      go_roundw
      case rel => exact ⟨k + 1, by omega, by go_num, ⟨_, _, _, rfl⟩, Ho5, Hbs5, B5⟩
      case measure => simp [intOf]; omega
    · obtain rfl : k = n := by omega
      have hlen := Htk.out k
      rw [hn.out, List.take_length] at hlen
      have Ho := ho.out
      rw [hn.out, List.take_length] at Ho
      have Hla := hl.out
      rw [hn.out, List.take_length] at Hla
      have X_i := Lib.hid Ho.bs
      obtain ⟨Ai, ni, ci, rfl⟩ := hid_exists_bs X_i.out
      have X_l := Lib.hid (Hla.more hsz)
      have B := Lib.hid hb.out
      have Hd := Lib.hid (recDec_pieces (L := L) (fun a ha => by have := Hs.out a ha; omega) (by omega))
      have hfl := fieldEnc_le' 3 ((L.map (fieldEnc 1)).flatten) (by omega)
      clear Ho Hla ho hl hb H

      go_wp2_with fail
      refine (keyField (f := 3) (by omega) X_i.out (by omega)).mono ?_
      rintro e y1 ⟨f, rfl, ho, hb, ⟨A_f, n_f, c_f, rfl⟩⟩
      have X_f := Lib.hid ho.bs
      replace X_i := Lib.hid (X_i.out.step hb)
      replace X_l := Lib.hid (X_l.out.step hb)
      replace B := Lib.hid (below_trans B.out hb)
      clear hb ho
      go_wp2_with fail
      refine (recordOf X_f.out (He.out.step B.out) (by omega)).mono ?_
      rintro e y2 ⟨hb, hans⟩
      obtain ⟨vx, rfl, hx⟩ := recSome hans Hd.out
      clear hans
      replace X_i := Lib.hid (X_i.out.step hb)
      replace X_l := Lib.hid (X_l.out.step hb)
      replace X_f := Lib.hid (X_f.out.step hb)
      replace B := Lib.hid (below_trans B.out hb)
      clear hb
      obtain ⟨xA1, xn1, xc1, xA2, xn2, xc2, rfl, z1, z2⟩ := hx.form
      obtain rfl : xn2 = 1 := bss_len z2
      have X_a := Lib.hid z2
      clear hx z1 z2
      go_wp2_with fail
      have hb := below_alloc y2 (.cells #[.slice xA1 xn1 xc1, .int .u64 ((0 : Nat) : Int), .slice xA2 1 xc2] 49)
      have b_x := Lib.hid (Blk.new y2 49 #[.slice xA1 xn1 xc1, .int .u64 ((0 : Nat) : Int), .slice xA2 1 xc2])
      replace X_i := Lib.hid (X_i.out.step hb)
      replace X_l := Lib.hid (X_l.out.step hb)
      replace X_f := Lib.hid (X_f.out.step hb)
      replace X_a := Lib.hid (X_a.out.step hb)
      replace B := Lib.hid (below_trans B.out hb)
      clear hb
      obtain ⟨g_x, hg_x⟩ : ∃ g, g = y2.heap.size := ⟨_, rfl⟩
      rw [← hg_x]
      rw [← hg_x] at b_x
      generalize hy3 : y2.alloc (.cells #[.slice xA1 xn1 xc1, .int .u64 ((0 : Nat) : Int), .slice xA2 1 xc2] 49) = y3 at *
      clear hy3
      obtain ⟨gq, oq, Aq, nq, cq, rfl, hcell, hbs⟩ := X_a.out.at' (k := 0) (by simp)
      have X_q := Lib.hid hbs
      rw [Nat.add_zero] at hcell
      have hix : ∀ W : World, (Instr.indexAt 47 (.slice (some ⟨gq, oq, none⟩) 1 xc2) (.int .i64 0)).run Tryd.prog W = .ok (.pointer (some ⟨gq, oq, none⟩)) W := fun W => index_first W
      clear hbs
      have b_x_0 := b_x.out.cell 0
      have b_x_1 := b_x.out.cell 1
      have b_x_2 := b_x.out.cell 2
      simp only [List.getElem?_toArray, List.getElem?_cons_zero, List.getElem?_cons_succ] at b_x_0 b_x_1 b_x_2
      have b_x_f0 := b_x.out.free 0
      have b_x_f1 := b_x.out.free 1
      have b_x_f2 := b_x.out.free 2
      go_wp2_with fail
      clear b_x_0 b_x_f0 b_x_1 b_x_f1 b_x_2 b_x_f2
      rw [hix]
      have b_x_0 := b_x.out.cell 0
      have b_x_1 := b_x.out.cell 1
      have b_x_2 := b_x.out.cell 2
      simp only [List.getElem?_toArray, List.getElem?_cons_zero, List.getElem?_cons_succ] at b_x_0 b_x_1 b_x_2
      have b_x_f0 := b_x.out.free 0
      have b_x_f1 := b_x.out.free 1
      have b_x_f2 := b_x.out.free 2
      go_wp2_with fail
      clear b_x_0 b_x_f0 b_x_1 b_x_f1 b_x_2 b_x_f2
      refine (eqTrue X_q.out X_l.out rfl).mono ?_
      rintro e W_ ⟨rfl, rfl⟩
      have b_x_0 := b_x.out.cell 0
      have b_x_1 := b_x.out.cell 1
      have b_x_2 := b_x.out.cell 2
      simp only [List.getElem?_toArray, List.getElem?_cons_zero, List.getElem?_cons_succ] at b_x_0 b_x_1 b_x_2
      have b_x_f0 := b_x.out.free 0
      have b_x_f1 := b_x.out.free 1
      have b_x_f2 := b_x.out.free 2
      go_wp2_with fail
      clear b_x_0 b_x_f0 b_x_1 b_x_f1 b_x_2 b_x_f2
      refine (recordsLive (He.out.step B.out)).mono ?_
      rintro e y4 ⟨rfl, hb⟩
      replace X_i := Lib.hid (X_i.out.step hb)
      replace X_l := Lib.hid (X_l.out.step hb)
      replace X_f := Lib.hid (X_f.out.step hb)
      replace X_a := Lib.hid (X_a.out.step hb)
      replace b_x := Lib.hid (b_x.out.step hb)
      replace X_q := Lib.hid (X_q.out.step hb)
      replace B := Lib.hid (below_trans B.out hb)
      clear hb
      have b_x_0 := b_x.out.cell 0
      have b_x_1 := b_x.out.cell 1
      have b_x_2 := b_x.out.cell 2
      simp only [List.getElem?_toArray, List.getElem?_cons_zero, List.getElem?_cons_succ] at b_x_0 b_x_1 b_x_2
      have b_x_f0 := b_x.out.free 0
      have b_x_f1 := b_x.out.free 1
      have b_x_f2 := b_x.out.free 2
      go_wp2_with fail
      clear b_x_0 b_x_f0 b_x_1 b_x_f1 b_x_2 b_x_f2
      go_ret
      exact ⟨rfl, B.out⟩

end
end Go.Proofs.YtcefcdmonfenoaaDoor

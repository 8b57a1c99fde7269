/- The reference's RecordBytes; the statements' small record. -/
import Derived.Test.YtcefcdmonfenoaaDoorRn
namespace Go.Proofs.YtcefcdmonfenoaaDoor
open Go.RowKit
set_option maxRecDepth 100000
attribute [local go_sem ↓] Go.wp_at_zero Go.wp_at_succ

theorem oneHeld {W : World} {g : Nat} {t : TypeId} {a b c : Value} (h : Blk W g t #[a, b, c]) : W.cell? ⟨g, 1, none⟩ = some b := h.cell 1
theorem step_appS {ops : Array Oper} {o : Oper} {a : Act} {K : Act → World → Prop} {Q : Exit → Act → World → Prop} {E : Prop} {w : World} (hgd : o.guard = none) (s x : Operand)
    (ho : o.op = .call { callee := .builtin .append, args := #[s, x], argTypes := #[23, 23] })
    {base : Nat} {v y : Value} {l m : List UInt8} (hs : a.eval s = v) (hx : a.eval x = y) (hown : Own w base v l) (hy : Bs w w.heap.size y m) (hlen : l.length + m.length ≤ 140737488355328) (hb : base ≤ w.heap.size)
    (h : ∀ v' w', Own w' base v' (l ++ m) → w.grownBy w' v.ownBlock → (NN v → NN v') → Moved w v v' → K (a.put o.dst v') w') :
    if Region.wanted o (yielded ops a.tmps) = true then Oper.wp Tryd.prog o a w K Q else E := step_app hgd s x ho hs hx hown hy hlen hb h
theorem lit16 : (#[.int .u8 16] : Array Value).toList = bvs [UInt8.ofNat 16] := by simp [bvs]
section
variable {w : World} {v x : Value} {R : RV}
/-- what has been written before the addresses -/
def preF (R : RV) : List UInt8 := optF 1 R.peer ++ seqF R.seq

set_option maxHeartbeats 4000000 in
theorem specRecordBytes (hv : RecVal w w.heap.size v R) (hs : R.small) :
    Calls Tryd.prog 47 #[v] w fun e w' => Fresh w (recEnc R) e w' := by
  obtain ⟨A1, n1, c1, A2, n2, c2, rfl, h1, h2⟩ := hv.form
  have e2 := bss_len h2
  have hna3 : n2 ≤ 1000 := by rw [e2]; exact hs.many
  have Hna := Lib.hid e2
  have hc2 : c2 ≤ 9223372036854775807 ∧ n2 ≤ c2 := by
    obtain ⟨A', c', e, h1, h2, _⟩ := h2
    injection e with e1 e2 e3
    omega
  obtain ⟨hc63, hcn⟩ := hc2
  obtain ⟨sq, hsq⟩ : ∃ sq, sq = (R.seq : Int) := ⟨_, rfl⟩
  have hs0 : 0 ≤ sq := by omega
  have hs64 : sq < 18446744073709551616 := by have := hs.seq; omega
  have Hsq := Lib.hid (show sq.toNat = R.seq by omega)
  rw [← hsq]
  have Hs := Lib.hid hs
  have Htk := Lib.hid (addrsF_take hs.addrs hs.many)
  have hp1000 : R.peer.length ≤ 1000 := hs.peer
  have hpre : (preF R).length ≤ 2000 := by
    have h1 : (optF 1 R.peer).length ≤ 1011 := by
      unfold optF
      split
      · simp
      · have := fieldEnc_le' 1 R.peer (by omega); omega
    have := seqF_len hs.seq
    unfold preF
    rw [List.length_append]; omega
  have ba := below_alloc w (.cells #[.slice A1 n1 c1, .int .u64 sq, .slice A2 n2 c2] 49)
  have b0 := Lib.hid (Blk.new w 49 #[.slice A1 n1 c1, .int .u64 sq, .slice A2 n2 c2])
  have X1 := Lib.hid (h1.step ba)
  have X2 := Lib.hid h2
  have B := Lib.hid ba
  clear h1 h2 ba hs e2 hv
  obtain ⟨g0, hg0⟩ : ∃ g0, g0 = w.heap.size := ⟨_, rfl⟩
  rw [← hg0] at b0
  have Hg0 := Lib.hid hg0
  generalize hw0 : w.alloc (.cells #[.slice A1 n1 c1, .int .u64 sq, .slice A2 n2 c2] 49) = w0 at *
  have Hw0 := Lib.hid hw0
  clear hw0 hg0
  have hsz0 := B.out.size
  have Hseq0 := Lib.hid hsq
  clear hsq
  have key : ∀ (wr : World) (vo : Value), Hid (Own wr w.heap.size vo (preF R)) → Hid (Below w.heap.size w wr) → Hid (Blk wr g0 49 #[.slice A1 n1 c1, .int .u64 sq, .slice A2 n2 c2]) → True := fun _ _ _ _ _ => trivial
  clear key
  by_cases hq : sq = 0
  · have Hpre := Lib.hid (show preF R = optF 1 R.peer by unfold preF seqF; rw [if_pos (by have := Hseq0.out; omega), List.append_nil])
    subst hq
    go_enter Tryd.func47, Tryd.ntmps47
    go_wp2_with fail
    rw [Hw0.out, ← Hg0.out]
    refine (wireOpt X1.out 1 1 rfl (by omega) (by omega)).mono ?_
    rintro e w1 ⟨v1, rfl, ho, hb⟩
    have HO := Lib.hid (show Own w1 w.heap.size v1 (preF R) by rw [Hpre.out]; exact ho.more hsz0)
    have b1 := Lib.hid (b0.out.step hb)
    have B1 := Lib.hid (below_trans B.out hb)
    have c1q : w1.cell? ⟨g0, 1, none⟩ = some (.int .u64 0) := b1.out.cell 1
    have c2q : w1.cell? ⟨g0, 2, none⟩ = some (.slice A2 n2 c2) := b1.out.cell 2
    clear ho hb
    go_wp2_with fail
    have BL := B1
    go_loopw [3, 22] (fun b i wr => ∃ k : Nat, k ≤ n2 ∧ i = .int .i64 (k : Int) ∧ Hid (Own wr w.heap.size b (preF R ++ addrsF (R.addrs.take k))) ∧ Hid (Below w.heap.size w wr)) (fun _ i _ => n2 - (intOf i).toNat)
    case atStart => exact ⟨0, Nat.zero_le _, rfl, by show Own _ _ _ _; have := HO.out; simpa [addrsF] using this, BL⟩
    case round =>
      clear HO BL
      obtain ⟨k, hk, rfl, ho, hb⟩ := hrel
      have hsz := hb.out.size
      by_cases hlt : k < n2
      · have hkL : k < R.addrs.length := by have := Hna.out; omega
        obtain ⟨gr, o, A', n', c', rfl, hcell, hbs⟩ := (X2.out.below hb.out).at' hkL
        have Hbs := Lib.hid (hbs.more hsz)
        have hlen := Htk.out k
        have Hsu := Lib.hid (addrsF_succ hkL)
        have hle : R.addrs[k].length ≤ 1000 := Hs.out.addrs _ (List.getElem_mem hkL)
        have hol : (optF 1 R.addrs[k]).length ≤ 1011 := by
          unfold optF
          split
          · simp
          · have := fieldEnc_le' 1 R.addrs[k] (by omega); omega
        have hfl : (fieldEnc 3 (optF 1 R.addrs[k])).length ≤ 1030 := by have := fieldEnc_le' 3 (optF 1 R.addrs[k]) (by omega); omega
        clear hbs
        go_wp2_with fail
        refine (wireOpt Hbs.out 1 1 rfl (by omega) (by omega)).mono ?_
        rintro e w3 ⟨v3, rfl, ho3, hb3⟩
        have Y3 := Lib.hid ho3.bs
        obtain ⟨A3, n3, c3, rfl⟩ := hid_exists_bs Y3.out
        have Ho3 := Lib.hid (ho.out.step hb3)
        have B3 := Lib.hid (below_trans hb.out hb3)
        clear ho3 hb3
        go_wp2_with fail
        refine (wireBytes Y3.out 3 (by omega) true (.inl rfl) (by omega)).mono ?_
        rintro e w4 ⟨v4, rfl, ho4, hb4, ⟨A4, n4, c4, rfl⟩⟩
        have Y4 := Lib.hid ho4.bs
        have Ho4 := Lib.hid (Ho3.out.step hb4)
        have B4 := Lib.hid (below_trans B3.out hb4)
        clear ho4 hb4
        go_wp2_with (at_builtin; refine wpList_app rfl _ _ rfl (by rfl) (by rfl) Ho4.out Y4.out (by rw [List.length_append]; omega) B4.out.size ?_; intro v5 w5 ho5 hg5 _ _; have Ho5 := Lib.hid (show Own w5 w.heap.size v5 (preF R ++ addrsF (R.addrs.take (k + 1))) by rw [Hsu.out, addrF, ← List.append_assoc]; exact ho5); have B5 := Lib.hid (B4.out.trans (below_of_own Ho4.out hg5 B4.out.size)); clear ho5 hg5)
        go_roundw
        case rel => exact ⟨k + 1, by omega, by go_num, Ho5, B5⟩
        case measure => simp [intOf]; omega
      · obtain rfl : k = n2 := by omega
        go_wp2_with fail
        go_ret
        refine ⟨_, rfl, ?_, hb.out⟩
        have := ho.out
        rw [Hna.out, List.take_length] at this
        unfold recEnc
        rw [← List.append_assoc]
        exact this
  · have Hpre := Lib.hid (show preF R = optF 1 R.peer ++ (UInt8.ofNat 16 :: Wire.venc sq.toNat) by unfold preF seqF; rw [if_neg (by have := Hseq0.out; omega), Hsq.out]; rfl)
    have hpos : 0 < sq := by omega
    have hv10 : (Wire.venc sq.toNat).length ≤ 10 := Wire.venc_length_u64 (by omega)
    have HV := Lib.hid (show ∀ W : World, Calls Tryd.prog 68 #[.int .u64 sq] W fun e w' => FreshN W (Wire.venc sq.toNat) e w' from fun W => wireVarint W sq hs0 hs64)
    have hopt : (optF 1 R.peer).length ≤ 1011 := by
      unfold optF
      split
      · simp
      · have := fieldEnc_le' 1 R.peer (by omega); omega
    clear hq
    go_enter Tryd.func47, Tryd.ntmps47
    go_wp2_with fail
    rw [Hw0.out, ← Hg0.out]
    refine (wireOpt X1.out 1 1 rfl (by omega) (by omega)).mono ?_
    rintro e w1 ⟨v1, rfl, ho, hb⟩
    have HO := Lib.hid ho
    have HB01 := Lib.hid hb
    have b1 := Lib.hid (b0.out.step hb)
    have B1 := Lib.hid (below_trans B.out hb)
    have hsz1 := B1.out.size
    have c1q : w1.cell? ⟨g0, 1, none⟩ = some (.int .u64 sq) := b1.out.cell 1
    obtain ⟨Ao, no, co, rfl⟩ := hid_exists_bs HO.out.bs
    clear ho hb
    go_wp2_with fail
    have b1d := Lib.hid b1.out.drew
    have hg0lt : g0 < w.heap.size + 1 := by have := Hg0.out; omega
    have hg0w : w.heap.size ≤ g0 := by have := Hg0.out; omega
    have hnr : ∀ k, (Value.slice Ao no co).ownBlock = some k → g0 < k := fun k hk => by have := (HO.out.lt k hk).1; have := b0.out.lt; omega
    have hb0s : w0.heap.size ≤ w1.heap.size := HB01.out.size
    go_region_held3 (fun W => W.cell? ⟨g0, 1, none⟩ = some (.int .u64 sq)) (with_reducible first | exact oneHeld b1d.out | exact oneHeld (b1.out.alloc _).drew | exact oneHeld bv.out | exact oneHeld bA.out | exact oneHeld b9.out) (first
      | (refine step_appS (by rfl) (.tmp 14) (.tmp 17) (by rfl) (by rfl) (by rfl) HOa.out HVa.out (by rw [List.length_append]; simp only [List.length_cons, List.length_nil]; omega) HZa.out ?_; intro v9 w9 ho9 hg9 _ hm9; have b9 := Lib.hid (bv.out.grown hg9 (fun e => hna _ e.symm rfl)); have HO9 := Lib.hid ho9; have B9 := Lib.hid (BLa.out.trans ((below_of_own HOa.out hg9 HZa.out).mono hsz0)); clear ho9 hg9 hm9)
      | (refine step_appS (l := optF 1 R.peer) (m := [UInt8.ofNat 16]) (base := w0.heap.size) (by rfl) (.tmp 12) (.tmp 13) (by rfl) (by rfl) (by rfl) ((HO.out.alloc _).drew) (Bs.drew1 (Bs.newAt w1 #[.int .u8 16] [UInt8.ofNat 16] lit16 (by simp) _ 1 1 rfl rfl rfl)) (by first | (simp; done) | (simp; omega)) (by first | (simp; done) | (simp; omega)) ?_; intro va wa hoa hga _ hma; have bA := Lib.hid ((b1.out.alloc _).drew.grown hga (fun e => by have := hnr _ e.symm; omega)); have hna : ∀ k, va.ownBlock = some k → g0 ≠ k := (fun k hk => by have := (hoa.lt k hk).1; have := b0.out.lt; omega); have HOa := Lib.hid hoa; have HZa := Lib.hid (show w0.heap.size ≤ wa.heap.size from Nat.le_trans (by first | (simp; done) | (simp; omega)) hga.size); have BLa := Lib.hid ((B1.out.trans (((below_alloc w1 _).drew).mono hsz1)).trans ((below_of_own ((HO.out.alloc _).drew) hga (by first | (simp; done) | (simp; omega))).mono hsz0)); clear hoa hga hma)
      | (go_at_call 68; (with_reducible refine (HV.out _).mono ?_); rintro e wv ⟨vv, rfl, ho, hb, ⟨Av, nv, cv, rfl⟩⟩; (with_reducible first
          | (have bv := Lib.hid (bA.out.step hb); replace HOa := Lib.hid (HOa.out.step hb); replace BLa := Lib.hid (below_trans BLa.out hb); replace HZa := Lib.hid (Nat.le_trans HZa.out hb.size); have HVa := Lib.hid ho.bs; clear bA)); clear ho hb))
    all_goals
      have HO' := Lib.hid (show Own w9 w.heap.size v9 (preF R) by rw [Hpre.out]; have := HO9.out.more hsz0; simpa [List.append_assoc] using this)
      have BL := B9
      have c2q : w9.cell? ⟨g0, 2, none⟩ = some (.slice A2 n2 c2) := b9.out.cell 2
      clear HO HO9 B9 b9 b1 b1d c1q hnr hna HOa HVa BLa HZa
      have HO := HO'
      clear HO'
      go_wp2_with fail
      go_loopw [3, 22] (fun b i wr => ∃ k : Nat, k ≤ n2 ∧ i = .int .i64 (k : Int) ∧ Hid (Own wr w.heap.size b (preF R ++ addrsF (R.addrs.take k))) ∧ Hid (Below w.heap.size w wr)) (fun _ i _ => n2 - (intOf i).toNat)
      case atStart => exact ⟨0, Nat.zero_le _, rfl, by show Own _ _ _ _; have := HO.out; simpa [addrsF] using this, BL⟩
      case round =>
        clear HO BL
        obtain ⟨k, hk, rfl, ho, hb⟩ := hrel
        have hsz := hb.out.size
        by_cases hlt : k < n2
        · have hkL : k < R.addrs.length := by have := Hna.out; omega
          obtain ⟨gr, o, A', n', c', rfl, hcell, hbs⟩ := (X2.out.below hb.out).at' hkL
          have Hbs := Lib.hid (hbs.more hsz)
          have hlen := Htk.out k
          have Hsu := Lib.hid (addrsF_succ hkL)
          have hle : R.addrs[k].length ≤ 1000 := Hs.out.addrs _ (List.getElem_mem hkL)
          have hol : (optF 1 R.addrs[k]).length ≤ 1011 := by
            unfold optF
            split
            · simp
            · have := fieldEnc_le' 1 R.addrs[k] (by omega); omega
          have hfl : (fieldEnc 3 (optF 1 R.addrs[k])).length ≤ 1030 := by have := fieldEnc_le' 3 (optF 1 R.addrs[k]) (by omega); omega
          clear hbs
          go_wp2_with fail
          refine (wireOpt Hbs.out 1 1 rfl (by omega) (by omega)).mono ?_
          rintro e w3 ⟨v3, rfl, ho3, hb3⟩
          have Y3 := Lib.hid ho3.bs
          obtain ⟨A3, n3, c3, rfl⟩ := hid_exists_bs Y3.out
          have Ho3 := Lib.hid (ho.out.step hb3)
          have B3 := Lib.hid (below_trans hb.out hb3)
          clear ho3 hb3
          go_wp2_with fail
          refine (wireBytes Y3.out 3 (by omega) true (.inl rfl) (by omega)).mono ?_
          rintro e w4 ⟨v4, rfl, ho4, hb4, ⟨A4, n4, c4, rfl⟩⟩
          have Y4 := Lib.hid ho4.bs
          have Ho4 := Lib.hid (Ho3.out.step hb4)
          have B4 := Lib.hid (below_trans B3.out hb4)
          clear ho4 hb4
          go_wp2_with (at_builtin; refine wpList_app rfl _ _ rfl (by rfl) (by rfl) Ho4.out Y4.out (by rw [List.length_append]; omega) B4.out.size ?_; intro v5 w5 ho5 hg5 _ _; have Ho5 := Lib.hid (show Own w5 w.heap.size v5 (preF R ++ addrsF (R.addrs.take (k + 1))) by rw [Hsu.out, addrF, ← List.append_assoc]; exact ho5); have B5 := Lib.hid (B4.out.trans (below_of_own Ho4.out hg5 B4.out.size)); clear ho5 hg5)
          go_roundw
          case rel => exact ⟨k + 1, by omega, by go_num, Ho5, B5⟩
          case measure => simp [intOf]; omega
        · obtain rfl : k = n2 := by omega
          go_wp2_with fail
          go_ret
          refine ⟨_, rfl, ?_, hb.out⟩
          have := ho.out
          rw [Hna.out, List.take_length] at this
          unfold recEnc
          rw [← List.append_assoc]
          exact this
end
end Go.Proofs.YtcefcdmonfenoaaDoor

/- peer/pb: PeerRecord.Marshal. (Printed by gen_rw.py.) -/
import Derived.Test.YtcefcdmonfenoaaDoorRu
import Derived.Test.YtcefcdmonfenoaaDoorEw
namespace Go.Proofs.YtcefcdmonfenoaaDoor
open Go.RowKit
set_option maxRecDepth 100000

/-- bytes that do not lie in the row v still do not, when it has moved -/
theorem off_moved {w : World} {v v' y : Value} {m : List UInt8} (hy : Bs w w.heap.size y m) (h : m = [] ∨ y.ownBlock ≠ v.ownBlock ∨ v.ownBlock = none) (hm : Moved w v v') : m = [] ∨ y.ownBlock ≠ v'.ownBlock ∨ v'.ownBlock = none := by
  rcases hm with hm | ⟨g, hm, hg⟩
  · rw [hm]; exact h
  · obtain ⟨A, c, rfl, _, _, hc⟩ := hy
    rcases Nat.eq_zero_or_pos m.length with h0 | h0
    · exact .inl (List.length_eq_zero_iff.1 h0)
    · right; left
      obtain ⟨g', o, rfl, hg', _⟩ := hc h0
      rw [hm]
      intro e
      have : g' = g := by simpa [Value.ownBlock] using e
      omega
theorem off_keep {w w' : World} {v y : Value} {m : List UInt8} (hy : Bs w w.heap.size y m) (h : m = [] ∨ y.ownBlock ≠ v.ownBlock ∨ v.ownBlock = none) (hg : w.grownBy w' v.ownBlock) : Bs w' w'.heap.size y m :=
  (hy.keepRow hg (Nat.le_refl _) h).more hg.size
/-- a row made later than another one -/
theorem off_own {w w' : World} {b1 b2 : Nat} {v y : Value} {l m : List UInt8} (hv : Own w b1 v l) (hy : Own w' b2 y m) (hb : w.heap.size ≤ b2) : m = [] ∨ y.ownBlock ≠ v.ownBlock ∨ v.ownBlock = none := by
  right
  cases hvb : v.ownBlock with
  | none => exact .inr rfl
  | some k =>
    left
    intro e
    have := (hv.lt k hvb).2
    have := (hy.lt k e).1
    omega

theorem appendBytes2 {w : World} {base : Nat} {v y : Value} {l m : List UInt8} (hown : Own w base v l) (hb : base ≤ w.heap.size) (hm : Bs w w.heap.size y m) (hoff : m = [] ∨ y.ownBlock ≠ v.ownBlock ∨ v.ownBlock = none) (hlen : l.length + m.length + 10 ≤ 140737488355328) :
    Calls Tryd.prog 91 #[v, y] w fun e w' => appAns w base v (l ++ lenEnc m) e w' := by
  have hx : (m.length : Int) < 18446744073709551616 := by omega
  have Hc := Lib.hid (appendVarint hown hb (m.length : Int) (by omega) hx (by omega))
  have hv10 : (Wire.venc m.length).length ≤ 10 := Wire.venc_length_u64 (by omega)
  obtain ⟨A, c, rfl, hlc, hc63⟩ := hm.form
  have Hm := Lib.hid hm
  have Hoff := Lib.hid hoff
  clear hm hx hoff
  go_enter Tryd.func91, Tryd.ntmps91
  go_wp2_with (first
    | (go_at_call 92; refine (Hc.out).mono ?_; rintro e w' ⟨v', rfl, ho, hg, hnn, hmv⟩; have hy := Lib.hid (off_keep Hm.out Hoff.out hg); rw [Int.toNat_natCast] at ho)
    | (at_builtin; refine wpList_app rfl _ _ rfl (by rfl) (by rfl) ho hy.out (by rw [List.length_append]; omega) (Nat.le_trans hb hg.size) ?_; intro v2 w2 ho2 hg2 hnn2 hmv2))
  go_ret
  exact ⟨v2, rfl, by unfold lenEnc; rw [← List.append_assoc]; exact ho2, grown_trans hg hmv hg2, hnn2 hnn, hmv.trans hmv2 hg.size⟩

/-- a record that may be written -/
structure RV.small (R : RV) : Prop where
  peer : R.peer.length ≤ 1000
  seq : R.seq < 18446744073709551616
  many : R.addrs.length ≤ 1000
  addrs : ∀ a ∈ R.addrs, a.length ≤ 1000
theorem addrF_len {a : List UInt8} (h : a.length ≤ 1000) : (addrF a).length ≤ 1030 := by
  have h1 : (optF 1 a).length ≤ 1011 := by
    unfold optF
    split
    · simp
    · have := fieldEnc_le' 1 a (by omega); omega
  have := fieldEnc_le' 3 (optF 1 a) (by omega)
  unfold addrF; omega
theorem addrsF_len : ∀ (L : List (List UInt8)), (∀ a ∈ L, a.length ≤ 1000) → (addrsF L).length ≤ L.length * 1030 := by
  intro L
  induction L with
  | nil => intro _; simp [addrsF]
  | cons a L ih =>
    intro h
    have h1 := addrF_len (h a (by simp))
    have h2 := ih (fun b hb => h b (by simp [hb]))
    have e : addrsF (a :: L) = addrF a ++ addrsF L := by simp [addrsF]
    rw [e, List.length_append, List.length_cons]
    omega
theorem addrsF_take {L : List (List UInt8)} (h : ∀ a ∈ L, a.length ≤ 1000) (hm : L.length ≤ 1000) (k : Nat) : (addrsF (L.take k)).length ≤ 1030000 := by
  have := addrsF_len (L.take k) (fun a ha => h a (List.mem_of_mem_take ha))
  have h2 : (L.take k).length ≤ 1000 := by rw [List.length_take]; omega
  omega
theorem addrsF_succ {L : List (List UInt8)} {k : Nat} (h : k < L.length) : addrsF (L.take (k + 1)) = addrsF (L.take k) ++ addrF L[k] := by
  unfold addrsF
  rw [List.take_succ_eq_append_getElem h, List.map_append, List.flatten_append]
  simp
theorem RV.small.ok {R : RV} (h : R.small) : R.ok := ⟨by have := h.peer; omega, h.seq, fun a ha => by have := h.addrs a ha; omega⟩

section
variable {w : World} {g base : Nat} {pid ads : Value} {sq : Int} {R : RV}
theorem seqF_pos {n : Nat} (h : n ≠ 0) : seqF n = UInt8.ofNat 16 :: Wire.venc n := if_neg h

set_option maxHeartbeats 4000000 in
theorem recMarshal_00 (hb : Blk w g 98 #[pid, .int .u64 sq, ads]) (hr : RRep base w pid sq ads R) (hs : R.small) (hp : R.peer = []) (hq : R.seq = 0) :
    Calls Tryd.prog 74 #[.pointer (some ⟨g, 0, none⟩)] w fun e w' => BytesOk0 w (recEnc R) e w' := by
  obtain ⟨Ap, np, cp, rfl⟩ := hid_exists_bs hr.pid
  obtain ⟨Aa, ca, hads, hca, hca2⟩ := hr.ads.slice
  obtain ⟨na, hna⟩ : ∃ na, na = R.addrs.length := ⟨_, rfl⟩
  rw [← hna] at hads hca
  subst hads
  have Hna := Lib.hid hna
  have hna3 : na ≤ 1000 := by rw [hna]; exact hs.many
  have hnp := bs_len hr.pid
  have hsq := hr.sq
  have hp1000 : R.peer.length ≤ 1000 := hs.peer
  have hvp : (Wire.venc R.peer.length).length ≤ 10 := Wire.venc_length_u64 (by omega)
  have hv10 : (Wire.venc R.seq).length ≤ 10 := Wire.venc_length_u64 hs.seq
  have Hp := Lib.hid hr.pid
  have Hads := Lib.hid hr.ads
  have Hs := Lib.hid hs
  have Htk := Lib.hid (addrsF_take hs.addrs hs.many)
  have Hpe := Lib.hid (show optF 1 R.peer = [] from if_pos hp)
  have Hse := Lib.hid (show seqF R.seq = [] from if_pos hq)
  have hpl : (optF 1 R.peer ++ seqF R.seq).length ≤ 2000 := by rw [Hpe.out, Hse.out]; simp
  obtain rfl : np = 0 := by rw [hnp, hp]; rfl
  obtain rfl : sq = 0 := by omega
  have Hb := Lib.hid hb
  clear hna hr hs hb hp hq hnp hsq
  have c0 := Hb.out.cell 0
  have c1 := Hb.out.cell 1
  have c2 := Hb.out.cell 2
  simp only [List.getElem?_toArray, List.getElem?_cons_zero, List.getElem?_cons_succ] at c0 c1 c2
  go_enter Tryd.func74, Tryd.ntmps74
  have HO := Lib.hid (show Own w w.heap.size (.slice none 0 0) (optF 1 R.peer ++ seqF R.seq) by rw [Hpe.out, Hse.out]; exact Own.nil _ _)
  have BL := Lib.hid (below_refl w)
  go_wp2_with fail
  go_loopw [4, 40] (fun b i wr => ∃ (k : Nat), k ≤ na ∧ i = .int .i64 (k : Int) ∧ Hid (Own wr w.heap.size b ((optF 1 R.peer ++ seqF R.seq) ++ addrsF (R.addrs.take k))) ∧ Hid (Below w.heap.size w wr)) (fun _ i _ => na - (intOf i).toNat)
  case atStart => exact ⟨0, Nat.zero_le _, rfl, by show Own _ _ _ _; have := HO.out; simpa [addrsF] using this, BL⟩
  case round =>
    clear HO BL c0 c1 c2
    obtain ⟨k, hk, rfl, ho, hb⟩ := hrel
    have hsz := hb.out.size
    by_cases hlt : k < na
    · have hkL : k < R.addrs.length := by have := Hna.out; omega
      obtain ⟨gr, ga, A', n', c', rfl, hc1, hc2, hbs, hl⟩ := (Hads.out.step hb.out).at_ hkL
      have hn' := bs_len hbs
      have Hbs := Lib.hid hbs
      have hlen := Htk.out k
      have Hsu := Lib.hid (addrsF_succ hkL)
      have hle : R.addrs[k].length ≤ 1000 := Hs.out.addrs _ (List.getElem_mem hkL)
      have hv' : (Wire.venc R.addrs[k].length).length ≤ 10 := Wire.venc_length_u64 (by omega)
      by_cases ha : n' = 0
      · subst ha
        have Hopt := Lib.hid (show optF 1 R.addrs[k] = [] from if_pos (List.length_eq_zero_iff.1 hn'.symm))
        clear hn' hbs hl
        go_wp2_with fail
        refine (appendTag ho.out hsz (num := 3) (typ := 2) (by unfold TagOk; omega) (by rw [List.length_append]; omega)).mono ?_
        rintro e x1 ⟨b1, rfl, ho1, hg1, _, hm1⟩
        have bl1 := Lib.hid (hb.out.trans (below_of_own ho.out hg1 hsz))
        have Ho1 := Lib.hid ho1
        have hlen1 : ((optF 1 R.peer ++ seqF R.seq ++ addrsF (R.addrs.take k)) ++ [UInt8.ofNat ((3 : Int) * 8 + 2).toNat]).length ≤ 1100000 := by rw [List.length_append, List.length_append]; simp only [List.length_cons, List.length_nil]; omega
        clear ho1 hg1 hm1
        go_wp2_with fail
        refine (appendBytes2 (m := []) Ho1.out bl1.out.size (Bs.nil0 _ _) (.inl rfl) (by simp only [List.length_nil]; omega)).mono ?_
        rintro e x2 ⟨b2, rfl, ho2, hg2, _, hm2⟩
        have bl2 := Lib.hid (bl1.out.trans (below_of_own Ho1.out hg2 bl1.out.size))
        have Ho2 := Lib.hid (show Own x2 w.heap.size b2 ((optF 1 R.peer ++ seqF R.seq) ++ addrsF (R.addrs.take (k + 1))) by
          rw [Hsu.out]; unfold addrF fieldEnc; rw [Hopt.out]
          have := ho2
          simpa [List.append_assoc] using this)
        clear ho2 hg2 hm2
        go_wp2_with fail
        go_roundw
        case rel => exact ⟨k + 1, by omega, by go_num, Ho2, bl2⟩
        case measure => simp [intOf]; omega
      · have hpos : 0 < n' := by omega
        have Hopt := Lib.hid (show optF 1 R.addrs[k] = fieldEnc 1 R.addrs[k] from if_neg (fun e => by rw [e] at hn'; simp at hn'; omega))
        clear hn' hbs hl ha
        go_wp2_with fail
        refine (appendTag (Own.nil wr wr.heap.size) (Nat.le_refl _) (num := 1) (typ := 2) (by unfold TagOk; omega) (by simp)).mono ?_
        rintro e x1 ⟨m1, rfl, hp1, hg1, _, hm1⟩
        have q1 := Lib.hid ((below_refl wr).trans (below_of_own (Own.nil wr wr.heap.size) hg1 (Nat.le_refl _)))
        have Hp1 := Lib.hid hp1
        have hc2' : x1.cell? ⟨ga, 0, none⟩ = some (.slice A' n' c') := (q1.out.cell (p := ⟨ga, 0, none⟩) (World.block_lt_of_cell? wr _ hc2)).trans hc2
        clear hp1 hg1 hm1
        go_wp2_with fail
        refine (appendBytes Hp1.out q1.out.size (Hbs.out.below q1.out) q1.out.size (fun g e => (Hp1.out.lt g e).1) (by simp; omega)).mono ?_
        rintro e x2 ⟨m2, rfl, hp2, hg2, _, hm2⟩
        have q2 := Lib.hid (q1.out.trans (below_of_own Hp1.out hg2 q1.out.size))
        have Hp2 := Lib.hid (show Own x2 wr.heap.size m2 (fieldEnc 1 R.addrs[k]) by have := hp2; simpa [fieldEnc] using this)
        clear hp2 hg2 hm2
        have Hob := Lib.hid (ho.out.step q2.out)
        have hsz2 : w.heap.size ≤ x2.heap.size := Nat.le_trans hsz q2.out.size
        have Hoff := Lib.hid (off_own ho.out Hp2.out (Nat.le_refl _))
        go_wp2_with fail
        refine (appendTag Hob.out hsz2 (num := 3) (typ := 2) (by unfold TagOk; omega) (by rw [List.length_append]; omega)).mono ?_
        rintro e x3 ⟨b3, rfl, ho3, hg3, _, hm3⟩
        have bl3 := Lib.hid ((hb.out.trans (q2.out.mono hsz)).trans (below_of_own Hob.out hg3 hsz2))
        have Ho3 := Lib.hid ho3
        have Hm3 := Lib.hid (off_keep Hp2.out.bs Hoff.out hg3)
        have Hoff3 := Lib.hid (off_moved Hp2.out.bs Hoff.out hm3)
        have hlen1 : ((optF 1 R.peer ++ seqF R.seq ++ addrsF (R.addrs.take k)) ++ [UInt8.ofNat ((3 : Int) * 8 + 2).toNat]).length ≤ 1100000 := by rw [List.length_append, List.length_append]; simp only [List.length_cons, List.length_nil]; omega
        have hlf : (fieldEnc 1 R.addrs[k]).length ≤ 1100 := by have := fieldEnc_le' 1 R.addrs[k] (by omega); omega
        clear ho3 hg3 hm3
        go_wp2_with fail
        refine (appendBytes2 Ho3.out bl3.out.size Hm3.out Hoff3.out (by omega)).mono ?_
        rintro e x4 ⟨b4, rfl, ho4, hg4, _, hm4⟩
        have bl4 := Lib.hid (bl3.out.trans (below_of_own Ho3.out hg4 bl3.out.size))
        have Ho4 := Lib.hid (show Own x4 w.heap.size b4 ((optF 1 R.peer ++ seqF R.seq) ++ addrsF (R.addrs.take (k + 1))) by
          rw [Hsu.out, addrF, Hopt.out]
          have := ho4
          simpa [fieldEnc, List.append_assoc] using this)
        clear ho4 hg4 hm4
        go_wp2_with fail
        go_roundw
        case rel => exact ⟨k + 1, by omega, by go_num, Ho4, bl4⟩
        case measure => simp [intOf]; omega
    · obtain rfl : k = na := by omega
      go_wp2_with fail
      go_ret2
      refine ⟨_, rfl, ?_, hb.out⟩
      have := ho.out
      rw [Hna.out, List.take_length] at this
      unfold recEnc
      rw [← List.append_assoc]
      exact this

set_option maxHeartbeats 4000000 in
theorem recMarshal_01 (hb : Blk w g 98 #[pid, .int .u64 sq, ads]) (hr : RRep base w pid sq ads R) (hs : R.small) (hp : R.peer = []) (hq : R.seq ≠ 0) :
    Calls Tryd.prog 74 #[.pointer (some ⟨g, 0, none⟩)] w fun e w' => BytesOk0 w (recEnc R) e w' := by
  obtain ⟨Ap, np, cp, rfl⟩ := hid_exists_bs hr.pid
  obtain ⟨Aa, ca, hads, hca, hca2⟩ := hr.ads.slice
  obtain ⟨na, hna⟩ : ∃ na, na = R.addrs.length := ⟨_, rfl⟩
  rw [← hna] at hads hca
  subst hads
  have Hna := Lib.hid hna
  have hna3 : na ≤ 1000 := by rw [hna]; exact hs.many
  have hnp := bs_len hr.pid
  have hsq := hr.sq
  have hp1000 : R.peer.length ≤ 1000 := hs.peer
  have hvp : (Wire.venc R.peer.length).length ≤ 10 := Wire.venc_length_u64 (by omega)
  have hv10 : (Wire.venc R.seq).length ≤ 10 := Wire.venc_length_u64 hs.seq
  have Hp := Lib.hid hr.pid
  have Hads := Lib.hid hr.ads
  have Hs := Lib.hid hs
  have Htk := Lib.hid (addrsF_take hs.addrs hs.many)
  have Hpe := Lib.hid (show optF 1 R.peer = [] from if_pos hp)
  have Hse := Lib.hid (show seqF R.seq = UInt8.ofNat 16 :: Wire.venc R.seq from if_neg hq)
  have hpl : (optF 1 R.peer ++ seqF R.seq).length ≤ 2000 := by rw [Hpe.out, Hse.out]; simp; omega
  obtain rfl : np = 0 := by rw [hnp, hp]; rfl
  have hs0 : 0 ≤ sq := by omega
  have hs64 : sq < 18446744073709551616 := by have := hs.seq; omega
  have hsn : (sq != 0) = true := i32_ne (by omega)
  have Hsq := Lib.hid (show sq.toNat = R.seq by omega)
  have Hb := Lib.hid hb
  clear hna hr hs hb hp hq hnp hsq
  have c0 := Hb.out.cell 0
  have c1 := Hb.out.cell 1
  have c2 := Hb.out.cell 2
  simp only [List.getElem?_toArray, List.getElem?_cons_zero, List.getElem?_cons_succ] at c0 c1 c2
  go_enter Tryd.func74, Tryd.ntmps74
  go_wp2_with fail
  refine (appendTag (Own.nil w w.heap.size) (Lib.hid (below_refl w)).out.size (num := 2) (typ := 0) (by unfold TagOk; omega) (by simp)).mono ?_
  rintro e w1 ⟨v1, rfl, ho1, hg1, hn1, hm1⟩
  have bl1 := Lib.hid ((Lib.hid (below_refl w)).out.trans (below_of_own (Own.nil w w.heap.size) hg1 (Lib.hid (below_refl w)).out.size))
  have d01 := (Hb.out.step bl1.out).cell 0
  have d11 := (Hb.out.step bl1.out).cell 1
  have d21 := (Hb.out.step bl1.out).cell 2
  simp only [List.getElem?_toArray, List.getElem?_cons_zero, List.getElem?_cons_succ] at d01 d11 d21
  go_wp2_with fail
  refine (appendVarint ho1 bl1.out.size sq hs0 hs64 (by simp)).mono ?_
  rintro e w2 ⟨v2, rfl, ho2, hg2, hn2, hm2⟩
  have bl2 := Lib.hid (bl1.out.trans (below_of_own ho1 hg2 bl1.out.size))
  have d02 := (Hb.out.step bl2.out).cell 0
  have d12 := (Hb.out.step bl2.out).cell 1
  have d22 := (Hb.out.step bl2.out).cell 2
  simp only [List.getElem?_toArray, List.getElem?_cons_zero, List.getElem?_cons_succ] at d02 d12 d22
  rw [Hsq.out] at ho2
  have HO := Lib.hid (show Own w2 w.heap.size v2 (optF 1 R.peer ++ seqF R.seq) by have := ho2; rw [Hpe.out, Hse.out]; simpa [fieldEnc, List.append_assoc] using this)
  have BL := bl2
  clear d01 d11 d21 ho1 hg1 hn1 hm1 ho2 hg2 hn2 hm2
  go_wp2_with fail
  go_loopw [4, 40] (fun b i wr => ∃ (k : Nat), k ≤ na ∧ i = .int .i64 (k : Int) ∧ Hid (Own wr w.heap.size b ((optF 1 R.peer ++ seqF R.seq) ++ addrsF (R.addrs.take k))) ∧ Hid (Below w.heap.size w wr)) (fun _ i _ => na - (intOf i).toNat)
  case atStart => exact ⟨0, Nat.zero_le _, rfl, by show Own _ _ _ _; have := HO.out; simpa [addrsF] using this, BL⟩
  case round =>
    clear HO BL c0 c1 c2 d02 d12 d22
    obtain ⟨k, hk, rfl, ho, hb⟩ := hrel
    have hsz := hb.out.size
    by_cases hlt : k < na
    · have hkL : k < R.addrs.length := by have := Hna.out; omega
      obtain ⟨gr, ga, A', n', c', rfl, hc1, hc2, hbs, hl⟩ := (Hads.out.step hb.out).at_ hkL
      have hn' := bs_len hbs
      have Hbs := Lib.hid hbs
      have hlen := Htk.out k
      have Hsu := Lib.hid (addrsF_succ hkL)
      have hle : R.addrs[k].length ≤ 1000 := Hs.out.addrs _ (List.getElem_mem hkL)
      have hv' : (Wire.venc R.addrs[k].length).length ≤ 10 := Wire.venc_length_u64 (by omega)
      by_cases ha : n' = 0
      · subst ha
        have Hopt := Lib.hid (show optF 1 R.addrs[k] = [] from if_pos (List.length_eq_zero_iff.1 hn'.symm))
        clear hn' hbs hl
        go_wp2_with fail
        refine (appendTag ho.out hsz (num := 3) (typ := 2) (by unfold TagOk; omega) (by rw [List.length_append]; omega)).mono ?_
        rintro e x1 ⟨b1, rfl, ho1, hg1, _, hm1⟩
        have bl1 := Lib.hid (hb.out.trans (below_of_own ho.out hg1 hsz))
        have Ho1 := Lib.hid ho1
        have hlen1 : ((optF 1 R.peer ++ seqF R.seq ++ addrsF (R.addrs.take k)) ++ [UInt8.ofNat ((3 : Int) * 8 + 2).toNat]).length ≤ 1100000 := by rw [List.length_append, List.length_append]; simp only [List.length_cons, List.length_nil]; omega
        clear ho1 hg1 hm1
        go_wp2_with fail
        refine (appendBytes2 (m := []) Ho1.out bl1.out.size (Bs.nil0 _ _) (.inl rfl) (by simp only [List.length_nil]; omega)).mono ?_
        rintro e x2 ⟨b2, rfl, ho2, hg2, _, hm2⟩
        have bl2 := Lib.hid (bl1.out.trans (below_of_own Ho1.out hg2 bl1.out.size))
        have Ho2 := Lib.hid (show Own x2 w.heap.size b2 ((optF 1 R.peer ++ seqF R.seq) ++ addrsF (R.addrs.take (k + 1))) by
          rw [Hsu.out]; unfold addrF fieldEnc; rw [Hopt.out]
          have := ho2
          simpa [List.append_assoc] using this)
        clear ho2 hg2 hm2
        go_wp2_with fail
        go_roundw
        case rel => exact ⟨k + 1, by omega, by go_num, Ho2, bl2⟩
        case measure => simp [intOf]; omega
      · have hpos : 0 < n' := by omega
        have Hopt := Lib.hid (show optF 1 R.addrs[k] = fieldEnc 1 R.addrs[k] from if_neg (fun e => by rw [e] at hn'; simp at hn'; omega))
        clear hn' hbs hl ha
        go_wp2_with fail
        refine (appendTag (Own.nil wr wr.heap.size) (Nat.le_refl _) (num := 1) (typ := 2) (by unfold TagOk; omega) (by simp)).mono ?_
        rintro e x1 ⟨m1, rfl, hp1, hg1, _, hm1⟩
        have q1 := Lib.hid ((below_refl wr).trans (below_of_own (Own.nil wr wr.heap.size) hg1 (Nat.le_refl _)))
        have Hp1 := Lib.hid hp1
        have hc2' : x1.cell? ⟨ga, 0, none⟩ = some (.slice A' n' c') := (q1.out.cell (p := ⟨ga, 0, none⟩) (World.block_lt_of_cell? wr _ hc2)).trans hc2
        clear hp1 hg1 hm1
        go_wp2_with fail
        refine (appendBytes Hp1.out q1.out.size (Hbs.out.below q1.out) q1.out.size (fun g e => (Hp1.out.lt g e).1) (by simp; omega)).mono ?_
        rintro e x2 ⟨m2, rfl, hp2, hg2, _, hm2⟩
        have q2 := Lib.hid (q1.out.trans (below_of_own Hp1.out hg2 q1.out.size))
        have Hp2 := Lib.hid (show Own x2 wr.heap.size m2 (fieldEnc 1 R.addrs[k]) by have := hp2; simpa [fieldEnc] using this)
        clear hp2 hg2 hm2
        have Hob := Lib.hid (ho.out.step q2.out)
        have hsz2 : w.heap.size ≤ x2.heap.size := Nat.le_trans hsz q2.out.size
        have Hoff := Lib.hid (off_own ho.out Hp2.out (Nat.le_refl _))
        go_wp2_with fail
        refine (appendTag Hob.out hsz2 (num := 3) (typ := 2) (by unfold TagOk; omega) (by rw [List.length_append]; omega)).mono ?_
        rintro e x3 ⟨b3, rfl, ho3, hg3, _, hm3⟩
        have bl3 := Lib.hid ((hb.out.trans (q2.out.mono hsz)).trans (below_of_own Hob.out hg3 hsz2))
        have Ho3 := Lib.hid ho3
        have Hm3 := Lib.hid (off_keep Hp2.out.bs Hoff.out hg3)
        have Hoff3 := Lib.hid (off_moved Hp2.out.bs Hoff.out hm3)
        have hlen1 : ((optF 1 R.peer ++ seqF R.seq ++ addrsF (R.addrs.take k)) ++ [UInt8.ofNat ((3 : Int) * 8 + 2).toNat]).length ≤ 1100000 := by rw [List.length_append, List.length_append]; simp only [List.length_cons, List.length_nil]; omega
        have hlf : (fieldEnc 1 R.addrs[k]).length ≤ 1100 := by have := fieldEnc_le' 1 R.addrs[k] (by omega); omega
        clear ho3 hg3 hm3
        go_wp2_with fail
        refine (appendBytes2 Ho3.out bl3.out.size Hm3.out Hoff3.out (by omega)).mono ?_
        rintro e x4 ⟨b4, rfl, ho4, hg4, _, hm4⟩
        have bl4 := Lib.hid (bl3.out.trans (below_of_own Ho3.out hg4 bl3.out.size))
        have Ho4 := Lib.hid (show Own x4 w.heap.size b4 ((optF 1 R.peer ++ seqF R.seq) ++ addrsF (R.addrs.take (k + 1))) by
          rw [Hsu.out, addrF, Hopt.out]
          have := ho4
          simpa [fieldEnc, List.append_assoc] using this)
        clear ho4 hg4 hm4
        go_wp2_with fail
        go_roundw
        case rel => exact ⟨k + 1, by omega, by go_num, Ho4, bl4⟩
        case measure => simp [intOf]; omega
    · obtain rfl : k = na := by omega
      go_wp2_with fail
      go_ret2
      refine ⟨_, rfl, ?_, hb.out⟩
      have := ho.out
      rw [Hna.out, List.take_length] at this
      unfold recEnc
      rw [← List.append_assoc]
      exact this

set_option maxHeartbeats 4000000 in
theorem recMarshal_10 (hb : Blk w g 98 #[pid, .int .u64 sq, ads]) (hr : RRep base w pid sq ads R) (hs : R.small) (hp : R.peer ≠ []) (hq : R.seq = 0) :
    Calls Tryd.prog 74 #[.pointer (some ⟨g, 0, none⟩)] w fun e w' => BytesOk0 w (recEnc R) e w' := by
  obtain ⟨Ap, np, cp, rfl⟩ := hid_exists_bs hr.pid
  obtain ⟨Aa, ca, hads, hca, hca2⟩ := hr.ads.slice
  obtain ⟨na, hna⟩ : ∃ na, na = R.addrs.length := ⟨_, rfl⟩
  rw [← hna] at hads hca
  subst hads
  have Hna := Lib.hid hna
  have hna3 : na ≤ 1000 := by rw [hna]; exact hs.many
  have hnp := bs_len hr.pid
  have hsq := hr.sq
  have hp1000 : R.peer.length ≤ 1000 := hs.peer
  have hvp : (Wire.venc R.peer.length).length ≤ 10 := Wire.venc_length_u64 (by omega)
  have hv10 : (Wire.venc R.seq).length ≤ 10 := Wire.venc_length_u64 hs.seq
  have Hp := Lib.hid hr.pid
  have Hads := Lib.hid hr.ads
  have Hs := Lib.hid hs
  have Htk := Lib.hid (addrsF_take hs.addrs hs.many)
  have Hpe := Lib.hid (show optF 1 R.peer = fieldEnc 1 R.peer from if_neg hp)
  have Hse := Lib.hid (show seqF R.seq = [] from if_pos hq)
  have hpl : (optF 1 R.peer ++ seqF R.seq).length ≤ 2000 := by rw [Hpe.out, Hse.out]; simp [fieldEnc, lenEnc]; omega
  have hp0 : 0 < np := by rw [hnp]; exact List.length_pos_iff.2 hp
  obtain rfl : sq = 0 := by omega
  have Hb := Lib.hid hb
  clear hna hr hs hb hp hq hnp hsq
  have c0 := Hb.out.cell 0
  have c1 := Hb.out.cell 1
  have c2 := Hb.out.cell 2
  simp only [List.getElem?_toArray, List.getElem?_cons_zero, List.getElem?_cons_succ] at c0 c1 c2
  go_enter Tryd.func74, Tryd.ntmps74
  go_wp2_with fail
  refine (appendTag (Own.nil w w.heap.size) (Lib.hid (below_refl w)).out.size (num := 1) (typ := 2) (by unfold TagOk; omega) (by simp)).mono ?_
  rintro e w1 ⟨v1, rfl, ho1, hg1, hn1, hm1⟩
  have bl1 := Lib.hid ((Lib.hid (below_refl w)).out.trans (below_of_own (Own.nil w w.heap.size) hg1 (Lib.hid (below_refl w)).out.size))
  have d01 := (Hb.out.step bl1.out).cell 0
  have d11 := (Hb.out.step bl1.out).cell 1
  have d21 := (Hb.out.step bl1.out).cell 2
  simp only [List.getElem?_toArray, List.getElem?_cons_zero, List.getElem?_cons_succ] at d01 d11 d21
  go_wp2_with fail
  refine (appendBytes ho1 bl1.out.size (Hp.out.below bl1.out) bl1.out.size (fun g e => (ho1.lt g e).1) (by simp <;> omega)).mono ?_
  rintro e w2 ⟨v2, rfl, ho2, hg2, hn2, hm2⟩
  have bl2 := Lib.hid (bl1.out.trans (below_of_own ho1 hg2 bl1.out.size))
  have d02 := (Hb.out.step bl2.out).cell 0
  have d12 := (Hb.out.step bl2.out).cell 1
  have d22 := (Hb.out.step bl2.out).cell 2
  simp only [List.getElem?_toArray, List.getElem?_cons_zero, List.getElem?_cons_succ] at d02 d12 d22
  have HO := Lib.hid (show Own w2 w.heap.size v2 (optF 1 R.peer ++ seqF R.seq) by have := ho2; rw [Hpe.out, Hse.out]; simpa [fieldEnc, List.append_assoc] using this)
  have BL := bl2
  clear d01 d11 d21 ho1 hg1 hn1 hm1 ho2 hg2 hn2 hm2
  go_wp2_with fail
  go_loopw [4, 40] (fun b i wr => ∃ (k : Nat), k ≤ na ∧ i = .int .i64 (k : Int) ∧ Hid (Own wr w.heap.size b ((optF 1 R.peer ++ seqF R.seq) ++ addrsF (R.addrs.take k))) ∧ Hid (Below w.heap.size w wr)) (fun _ i _ => na - (intOf i).toNat)
  case atStart => exact ⟨0, Nat.zero_le _, rfl, by show Own _ _ _ _; have := HO.out; simpa [addrsF] using this, BL⟩
  case round =>
    clear HO BL c0 c1 c2 d02 d12 d22
    obtain ⟨k, hk, rfl, ho, hb⟩ := hrel
    have hsz := hb.out.size
    by_cases hlt : k < na
    · have hkL : k < R.addrs.length := by have := Hna.out; omega
      obtain ⟨gr, ga, A', n', c', rfl, hc1, hc2, hbs, hl⟩ := (Hads.out.step hb.out).at_ hkL
      have hn' := bs_len hbs
      have Hbs := Lib.hid hbs
      have hlen := Htk.out k
      have Hsu := Lib.hid (addrsF_succ hkL)
      have hle : R.addrs[k].length ≤ 1000 := Hs.out.addrs _ (List.getElem_mem hkL)
      have hv' : (Wire.venc R.addrs[k].length).length ≤ 10 := Wire.venc_length_u64 (by omega)
      by_cases ha : n' = 0
      · subst ha
        have Hopt := Lib.hid (show optF 1 R.addrs[k] = [] from if_pos (List.length_eq_zero_iff.1 hn'.symm))
        clear hn' hbs hl
        go_wp2_with fail
        refine (appendTag ho.out hsz (num := 3) (typ := 2) (by unfold TagOk; omega) (by rw [List.length_append]; omega)).mono ?_
        rintro e x1 ⟨b1, rfl, ho1, hg1, _, hm1⟩
        have bl1 := Lib.hid (hb.out.trans (below_of_own ho.out hg1 hsz))
        have Ho1 := Lib.hid ho1
        have hlen1 : ((optF 1 R.peer ++ seqF R.seq ++ addrsF (R.addrs.take k)) ++ [UInt8.ofNat ((3 : Int) * 8 + 2).toNat]).length ≤ 1100000 := by rw [List.length_append, List.length_append]; simp only [List.length_cons, List.length_nil]; omega
        clear ho1 hg1 hm1
        go_wp2_with fail
        refine (appendBytes2 (m := []) Ho1.out bl1.out.size (Bs.nil0 _ _) (.inl rfl) (by simp only [List.length_nil]; omega)).mono ?_
        rintro e x2 ⟨b2, rfl, ho2, hg2, _, hm2⟩
        have bl2 := Lib.hid (bl1.out.trans (below_of_own Ho1.out hg2 bl1.out.size))
        have Ho2 := Lib.hid (show Own x2 w.heap.size b2 ((optF 1 R.peer ++ seqF R.seq) ++ addrsF (R.addrs.take (k + 1))) by
          rw [Hsu.out]; unfold addrF fieldEnc; rw [Hopt.out]
          have := ho2
          simpa [List.append_assoc] using this)
        clear ho2 hg2 hm2
        go_wp2_with fail
        go_roundw
        case rel => exact ⟨k + 1, by omega, by go_num, Ho2, bl2⟩
        case measure => simp [intOf]; omega
      · have hpos : 0 < n' := by omega
        have Hopt := Lib.hid (show optF 1 R.addrs[k] = fieldEnc 1 R.addrs[k] from if_neg (fun e => by rw [e] at hn'; simp at hn'; omega))
        clear hn' hbs hl ha
        go_wp2_with fail
        refine (appendTag (Own.nil wr wr.heap.size) (Nat.le_refl _) (num := 1) (typ := 2) (by unfold TagOk; omega) (by simp)).mono ?_
        rintro e x1 ⟨m1, rfl, hp1, hg1, _, hm1⟩
        have q1 := Lib.hid ((below_refl wr).trans (below_of_own (Own.nil wr wr.heap.size) hg1 (Nat.le_refl _)))
        have Hp1 := Lib.hid hp1
        have hc2' : x1.cell? ⟨ga, 0, none⟩ = some (.slice A' n' c') := (q1.out.cell (p := ⟨ga, 0, none⟩) (World.block_lt_of_cell? wr _ hc2)).trans hc2
        clear hp1 hg1 hm1
        go_wp2_with fail
        refine (appendBytes Hp1.out q1.out.size (Hbs.out.below q1.out) q1.out.size (fun g e => (Hp1.out.lt g e).1) (by simp; omega)).mono ?_
        rintro e x2 ⟨m2, rfl, hp2, hg2, _, hm2⟩
        have q2 := Lib.hid (q1.out.trans (below_of_own Hp1.out hg2 q1.out.size))
        have Hp2 := Lib.hid (show Own x2 wr.heap.size m2 (fieldEnc 1 R.addrs[k]) by have := hp2; simpa [fieldEnc] using this)
        clear hp2 hg2 hm2
        have Hob := Lib.hid (ho.out.step q2.out)
        have hsz2 : w.heap.size ≤ x2.heap.size := Nat.le_trans hsz q2.out.size
        have Hoff := Lib.hid (off_own ho.out Hp2.out (Nat.le_refl _))
        go_wp2_with fail
        refine (appendTag Hob.out hsz2 (num := 3) (typ := 2) (by unfold TagOk; omega) (by rw [List.length_append]; omega)).mono ?_
        rintro e x3 ⟨b3, rfl, ho3, hg3, _, hm3⟩
        have bl3 := Lib.hid ((hb.out.trans (q2.out.mono hsz)).trans (below_of_own Hob.out hg3 hsz2))
        have Ho3 := Lib.hid ho3
        have Hm3 := Lib.hid (off_keep Hp2.out.bs Hoff.out hg3)
        have Hoff3 := Lib.hid (off_moved Hp2.out.bs Hoff.out hm3)
        have hlen1 : ((optF 1 R.peer ++ seqF R.seq ++ addrsF (R.addrs.take k)) ++ [UInt8.ofNat ((3 : Int) * 8 + 2).toNat]).length ≤ 1100000 := by rw [List.length_append, List.length_append]; simp only [List.length_cons, List.length_nil]; omega
        have hlf : (fieldEnc 1 R.addrs[k]).length ≤ 1100 := by have := fieldEnc_le' 1 R.addrs[k] (by omega); omega
        clear ho3 hg3 hm3
        go_wp2_with fail
        refine (appendBytes2 Ho3.out bl3.out.size Hm3.out Hoff3.out (by omega)).mono ?_
        rintro e x4 ⟨b4, rfl, ho4, hg4, _, hm4⟩
        have bl4 := Lib.hid (bl3.out.trans (below_of_own Ho3.out hg4 bl3.out.size))
        have Ho4 := Lib.hid (show Own x4 w.heap.size b4 ((optF 1 R.peer ++ seqF R.seq) ++ addrsF (R.addrs.take (k + 1))) by
          rw [Hsu.out, addrF, Hopt.out]
          have := ho4
          simpa [fieldEnc, List.append_assoc] using this)
        clear ho4 hg4 hm4
        go_wp2_with fail
        go_roundw
        case rel => exact ⟨k + 1, by omega, by go_num, Ho4, bl4⟩
        case measure => simp [intOf]; omega
    · obtain rfl : k = na := by omega
      go_wp2_with fail
      go_ret2
      refine ⟨_, rfl, ?_, hb.out⟩
      have := ho.out
      rw [Hna.out, List.take_length] at this
      unfold recEnc
      rw [← List.append_assoc]
      exact this

set_option maxHeartbeats 4000000 in
theorem recMarshal_11 (hb : Blk w g 98 #[pid, .int .u64 sq, ads]) (hr : RRep base w pid sq ads R) (hs : R.small) (hp : R.peer ≠ []) (hq : R.seq ≠ 0) :
    Calls Tryd.prog 74 #[.pointer (some ⟨g, 0, none⟩)] w fun e w' => BytesOk0 w (recEnc R) e w' := by
  obtain ⟨Ap, np, cp, rfl⟩ := hid_exists_bs hr.pid
  obtain ⟨Aa, ca, hads, hca, hca2⟩ := hr.ads.slice
  obtain ⟨na, hna⟩ : ∃ na, na = R.addrs.length := ⟨_, rfl⟩
  rw [← hna] at hads hca
  subst hads
  have Hna := Lib.hid hna
  have hna3 : na ≤ 1000 := by rw [hna]; exact hs.many
  have hnp := bs_len hr.pid
  have hsq := hr.sq
  have hp1000 : R.peer.length ≤ 1000 := hs.peer
  have hvp : (Wire.venc R.peer.length).length ≤ 10 := Wire.venc_length_u64 (by omega)
  have hv10 : (Wire.venc R.seq).length ≤ 10 := Wire.venc_length_u64 hs.seq
  have Hp := Lib.hid hr.pid
  have Hads := Lib.hid hr.ads
  have Hs := Lib.hid hs
  have Htk := Lib.hid (addrsF_take hs.addrs hs.many)
  have Hpe := Lib.hid (show optF 1 R.peer = fieldEnc 1 R.peer from if_neg hp)
  have Hse := Lib.hid (show seqF R.seq = UInt8.ofNat 16 :: Wire.venc R.seq from if_neg hq)
  have hpl : (optF 1 R.peer ++ seqF R.seq).length ≤ 2000 := by rw [Hpe.out, Hse.out]; simp [fieldEnc, lenEnc]; omega
  have hp0 : 0 < np := by rw [hnp]; exact List.length_pos_iff.2 hp
  have hs0 : 0 ≤ sq := by omega
  have hs64 : sq < 18446744073709551616 := by have := hs.seq; omega
  have hsn : (sq != 0) = true := i32_ne (by omega)
  have Hsq := Lib.hid (show sq.toNat = R.seq by omega)
  have Hb := Lib.hid hb
  clear hna hr hs hb hp hq hnp hsq
  have c0 := Hb.out.cell 0
  have c1 := Hb.out.cell 1
  have c2 := Hb.out.cell 2
  simp only [List.getElem?_toArray, List.getElem?_cons_zero, List.getElem?_cons_succ] at c0 c1 c2
  go_enter Tryd.func74, Tryd.ntmps74
  go_wp2_with fail
  refine (appendTag (Own.nil w w.heap.size) (Lib.hid (below_refl w)).out.size (num := 1) (typ := 2) (by unfold TagOk; omega) (by simp)).mono ?_
  rintro e w1 ⟨v1, rfl, ho1, hg1, hn1, hm1⟩
  have bl1 := Lib.hid ((Lib.hid (below_refl w)).out.trans (below_of_own (Own.nil w w.heap.size) hg1 (Lib.hid (below_refl w)).out.size))
  have d01 := (Hb.out.step bl1.out).cell 0
  have d11 := (Hb.out.step bl1.out).cell 1
  have d21 := (Hb.out.step bl1.out).cell 2
  simp only [List.getElem?_toArray, List.getElem?_cons_zero, List.getElem?_cons_succ] at d01 d11 d21
  go_wp2_with fail
  refine (appendBytes ho1 bl1.out.size (Hp.out.below bl1.out) bl1.out.size (fun g e => (ho1.lt g e).1) (by simp <;> omega)).mono ?_
  rintro e w2 ⟨v2, rfl, ho2, hg2, hn2, hm2⟩
  have bl2 := Lib.hid (bl1.out.trans (below_of_own ho1 hg2 bl1.out.size))
  have d02 := (Hb.out.step bl2.out).cell 0
  have d12 := (Hb.out.step bl2.out).cell 1
  have d22 := (Hb.out.step bl2.out).cell 2
  simp only [List.getElem?_toArray, List.getElem?_cons_zero, List.getElem?_cons_succ] at d02 d12 d22
  go_wp2_with fail
  refine (appendTag ho2 bl2.out.size (num := 2) (typ := 0) (by unfold TagOk; omega) (by simp [lenEnc]; omega)).mono ?_
  rintro e w3 ⟨v3, rfl, ho3, hg3, hn3, hm3⟩
  have bl3 := Lib.hid (bl2.out.trans (below_of_own ho2 hg3 bl2.out.size))
  have d03 := (Hb.out.step bl3.out).cell 0
  have d13 := (Hb.out.step bl3.out).cell 1
  have d23 := (Hb.out.step bl3.out).cell 2
  simp only [List.getElem?_toArray, List.getElem?_cons_zero, List.getElem?_cons_succ] at d03 d13 d23
  go_wp2_with fail
  refine (appendVarint ho3 bl3.out.size sq hs0 hs64 (by simp [lenEnc]; omega)).mono ?_
  rintro e w4 ⟨v4, rfl, ho4, hg4, hn4, hm4⟩
  have bl4 := Lib.hid (bl3.out.trans (below_of_own ho3 hg4 bl3.out.size))
  have d04 := (Hb.out.step bl4.out).cell 0
  have d14 := (Hb.out.step bl4.out).cell 1
  have d24 := (Hb.out.step bl4.out).cell 2
  simp only [List.getElem?_toArray, List.getElem?_cons_zero, List.getElem?_cons_succ] at d04 d14 d24
  rw [Hsq.out] at ho4
  have HO := Lib.hid (show Own w4 w.heap.size v4 (optF 1 R.peer ++ seqF R.seq) by have := ho4; rw [Hpe.out, Hse.out]; simpa [fieldEnc, List.append_assoc] using this)
  have BL := bl4
  clear d01 d11 d21 d02 d12 d22 d03 d13 d23 ho1 hg1 hn1 hm1 ho2 hg2 hn2 hm2 ho3 hg3 hn3 hm3 ho4 hg4 hn4 hm4
  go_wp2_with fail
  go_loopw [4, 40] (fun b i wr => ∃ (k : Nat), k ≤ na ∧ i = .int .i64 (k : Int) ∧ Hid (Own wr w.heap.size b ((optF 1 R.peer ++ seqF R.seq) ++ addrsF (R.addrs.take k))) ∧ Hid (Below w.heap.size w wr)) (fun _ i _ => na - (intOf i).toNat)
  case atStart => exact ⟨0, Nat.zero_le _, rfl, by show Own _ _ _ _; have := HO.out; simpa [addrsF] using this, BL⟩
  case round =>
    clear HO BL c0 c1 c2 d04 d14 d24
    obtain ⟨k, hk, rfl, ho, hb⟩ := hrel
    have hsz := hb.out.size
    by_cases hlt : k < na
    · have hkL : k < R.addrs.length := by have := Hna.out; omega
      obtain ⟨gr, ga, A', n', c', rfl, hc1, hc2, hbs, hl⟩ := (Hads.out.step hb.out).at_ hkL
      have hn' := bs_len hbs
      have Hbs := Lib.hid hbs
      have hlen := Htk.out k
      have Hsu := Lib.hid (addrsF_succ hkL)
      have hle : R.addrs[k].length ≤ 1000 := Hs.out.addrs _ (List.getElem_mem hkL)
      have hv' : (Wire.venc R.addrs[k].length).length ≤ 10 := Wire.venc_length_u64 (by omega)
      by_cases ha : n' = 0
      · subst ha
        have Hopt := Lib.hid (show optF 1 R.addrs[k] = [] from if_pos (List.length_eq_zero_iff.1 hn'.symm))
        clear hn' hbs hl
        go_wp2_with fail
        refine (appendTag ho.out hsz (num := 3) (typ := 2) (by unfold TagOk; omega) (by rw [List.length_append]; omega)).mono ?_
        rintro e x1 ⟨b1, rfl, ho1, hg1, _, hm1⟩
        have bl1 := Lib.hid (hb.out.trans (below_of_own ho.out hg1 hsz))
        have Ho1 := Lib.hid ho1
        have hlen1 : ((optF 1 R.peer ++ seqF R.seq ++ addrsF (R.addrs.take k)) ++ [UInt8.ofNat ((3 : Int) * 8 + 2).toNat]).length ≤ 1100000 := by rw [List.length_append, List.length_append]; simp only [List.length_cons, List.length_nil]; omega
        clear ho1 hg1 hm1
        go_wp2_with fail
        refine (appendBytes2 (m := []) Ho1.out bl1.out.size (Bs.nil0 _ _) (.inl rfl) (by simp only [List.length_nil]; omega)).mono ?_
        rintro e x2 ⟨b2, rfl, ho2, hg2, _, hm2⟩
        have bl2 := Lib.hid (bl1.out.trans (below_of_own Ho1.out hg2 bl1.out.size))
        have Ho2 := Lib.hid (show Own x2 w.heap.size b2 ((optF 1 R.peer ++ seqF R.seq) ++ addrsF (R.addrs.take (k + 1))) by
          rw [Hsu.out]; unfold addrF fieldEnc; rw [Hopt.out]
          have := ho2
          simpa [List.append_assoc] using this)
        clear ho2 hg2 hm2
        go_wp2_with fail
        go_roundw
        case rel => exact ⟨k + 1, by omega, by go_num, Ho2, bl2⟩
        case measure => simp [intOf]; omega
      · have hpos : 0 < n' := by omega
        have Hopt := Lib.hid (show optF 1 R.addrs[k] = fieldEnc 1 R.addrs[k] from if_neg (fun e => by rw [e] at hn'; simp at hn'; omega))
        clear hn' hbs hl ha
        go_wp2_with fail
        refine (appendTag (Own.nil wr wr.heap.size) (Nat.le_refl _) (num := 1) (typ := 2) (by unfold TagOk; omega) (by simp)).mono ?_
        rintro e x1 ⟨m1, rfl, hp1, hg1, _, hm1⟩
        have q1 := Lib.hid ((below_refl wr).trans (below_of_own (Own.nil wr wr.heap.size) hg1 (Nat.le_refl _)))
        have Hp1 := Lib.hid hp1
        have hc2' : x1.cell? ⟨ga, 0, none⟩ = some (.slice A' n' c') := (q1.out.cell (p := ⟨ga, 0, none⟩) (World.block_lt_of_cell? wr _ hc2)).trans hc2
        clear hp1 hg1 hm1
        go_wp2_with fail
        refine (appendBytes Hp1.out q1.out.size (Hbs.out.below q1.out) q1.out.size (fun g e => (Hp1.out.lt g e).1) (by simp; omega)).mono ?_
        rintro e x2 ⟨m2, rfl, hp2, hg2, _, hm2⟩
        have q2 := Lib.hid (q1.out.trans (below_of_own Hp1.out hg2 q1.out.size))
        have Hp2 := Lib.hid (show Own x2 wr.heap.size m2 (fieldEnc 1 R.addrs[k]) by have := hp2; simpa [fieldEnc] using this)
        clear hp2 hg2 hm2
        have Hob := Lib.hid (ho.out.step q2.out)
        have hsz2 : w.heap.size ≤ x2.heap.size := Nat.le_trans hsz q2.out.size
        have Hoff := Lib.hid (off_own ho.out Hp2.out (Nat.le_refl _))
        go_wp2_with fail
        refine (appendTag Hob.out hsz2 (num := 3) (typ := 2) (by unfold TagOk; omega) (by rw [List.length_append]; omega)).mono ?_
        rintro e x3 ⟨b3, rfl, ho3, hg3, _, hm3⟩
        have bl3 := Lib.hid ((hb.out.trans (q2.out.mono hsz)).trans (below_of_own Hob.out hg3 hsz2))
        have Ho3 := Lib.hid ho3
        have Hm3 := Lib.hid (off_keep Hp2.out.bs Hoff.out hg3)
        have Hoff3 := Lib.hid (off_moved Hp2.out.bs Hoff.out hm3)
        have hlen1 : ((optF 1 R.peer ++ seqF R.seq ++ addrsF (R.addrs.take k)) ++ [UInt8.ofNat ((3 : Int) * 8 + 2).toNat]).length ≤ 1100000 := by rw [List.length_append, List.length_append]; simp only [List.length_cons, List.length_nil]; omega
        have hlf : (fieldEnc 1 R.addrs[k]).length ≤ 1100 := by have := fieldEnc_le' 1 R.addrs[k] (by omega); omega
        clear ho3 hg3 hm3
        go_wp2_with fail
        refine (appendBytes2 Ho3.out bl3.out.size Hm3.out Hoff3.out (by omega)).mono ?_
        rintro e x4 ⟨b4, rfl, ho4, hg4, _, hm4⟩
        have bl4 := Lib.hid (bl3.out.trans (below_of_own Ho3.out hg4 bl3.out.size))
        have Ho4 := Lib.hid (show Own x4 w.heap.size b4 ((optF 1 R.peer ++ seqF R.seq) ++ addrsF (R.addrs.take (k + 1))) by
          rw [Hsu.out, addrF, Hopt.out]
          have := ho4
          simpa [fieldEnc, List.append_assoc] using this)
        clear ho4 hg4 hm4
        go_wp2_with fail
        go_roundw
        case rel => exact ⟨k + 1, by omega, by go_num, Ho4, bl4⟩
        case measure => simp [intOf]; omega
    · obtain rfl : k = na := by omega
      go_wp2_with fail
      go_ret2
      refine ⟨_, rfl, ?_, hb.out⟩
      have := ho.out
      rw [Hna.out, List.take_length] at this
      unfold recEnc
      rw [← List.append_assoc]
      exact this

theorem recMarshal (hb : Blk w g 98 #[pid, .int .u64 sq, ads]) (hr : RRep base w pid sq ads R) (hs : R.small) :
    Calls Tryd.prog 74 #[.pointer (some ⟨g, 0, none⟩)] w fun e w' => BytesOk0 w (recEnc R) e w' := by
  by_cases h1 : R.peer = [] <;> by_cases h2 : R.seq = 0
  · exact recMarshal_00 hb hr hs h1 h2
  · exact recMarshal_01 hb hr hs h1 h2
  · exact recMarshal_10 hb hr hs h1 h2
  · exact recMarshal_11 hb hr hs h1 h2
end
end Go.Proofs.YtcefcdmonfenoaaDoor

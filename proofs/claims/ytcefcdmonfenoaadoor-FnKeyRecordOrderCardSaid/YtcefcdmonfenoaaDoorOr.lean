/- The parts of a record in another order: rows of one's own, cut and joined. -/
import Derived.Test.YtcefcdmonfenoaaDoorWRl
import Derived.Test.YtcefcdmonfenoaaDoorCn
namespace Go.Proofs.YtcefcdmonfenoaaDoor
open Go.RowKit
set_option maxRecDepth 100000
theorem Bsss.drew' {w : World} {v : Value} {M : List (List (List UInt8))} (h : Bsss w w.heap.size v M) : Bsss w.drew w.drew.heap.size v M := h
theorem RowBs.sliceForm' {w : World} {base : Nat} {v : Value} {L : List (List UInt8)} (h : RowBs w base v L) : ∃ A n c, v = .slice A n c := by
  obtain ⟨xs, h1, _⟩ := h; exact h1.sliceForm
theorem RecVal.parts' {w : World} {B : Nat} {a b : Value} {q : Int} {R : RV} (h : RecVal w B (.agg #[a, .int .u64 q, b]) R) : Bs w B a R.peer ∧ q = (R.seq : Int) ∧ Bss w B b R.addrs := by
  obtain ⟨va, vb, e, h1, h2⟩ := h
  injection e with e
  simp only [Array.mk.injEq, List.cons.injEq, Value.int.injEq, true_and, and_true] at e
  obtain ⟨rfl, rfl, rfl⟩ := e
  exact ⟨h1, rfl, h2⟩
section
variable {w w1 w3 : World} {B base : Nat} {v v' x u1 u2 : Value} {L : List (List UInt8)} {a b : List UInt8} {xs : List Value} {ob : Obj}
theorem RowX.lit (w : World) (base : Nat) (e : TypeId) (us : List Value) (hb : base ≤ w.heap.size) (hm : us.length ≤ 9223372036854775807) (g n c : Nat) (hg : w.heap.size = g) (hn : n = us.length) (hc : c = us.length) :
    RowX (w.alloc (.cells us.toArray e)) base e (.slice (some ⟨g, 0, none⟩) n c) us := by
  subst hg hn hc
  exact ⟨by simp, .inr ⟨w.heap.size, us.length, us.toArray, rfl, hb, heap_alloc_new w _, Nat.le_refl _, by unfold maxLen; omega, by simp, by simp⟩⟩
theorem Bs.old {g : Nat} (h : Bs w B v a) (hB : B ≤ g) : a = [] ∨ v.ownBlock ≠ some g := by
  obtain ⟨A, c, rfl, _, _, hc⟩ := h
  rcases Nat.eq_zero_or_pos a.length with h0 | h0
  · exact .inl (List.length_eq_zero_iff.1 h0)
  · right
    obtain ⟨g', o, rfl, hg', _⟩ := hc h0
    intro e
    have : g' = g := by simpa [Value.ownBlock] using e
    omega
theorem bssO_lit2 (h1 : Bs w w.heap.size u1 a) (h2 : Bs w w.heap.size u2 b) (hb : base ≤ w.heap.size) :
    BssO base (w.alloc (.cells #[u1, u2] 23)) (.slice (some ⟨w.heap.size, 0, none⟩) 2 2) [a, b] := by
  have f1 : a = [] ∨ u1.ownBlock ≠ some w.heap.size ∨ some w.heap.size = none := (h1.old (Nat.le_refl _)).imp id .inl
  have f2 : b = [] ∨ u2.ownBlock ≠ some w.heap.size ∨ some w.heap.size = none := (h2.old (Nat.le_refl _)).imp id .inl
  exact ⟨[u1, u2], RowX.lit w base _ [u1, u2] hb (by simp) _ 2 2 rfl rfl rfl, ⟨(h1.alloc (Nat.le_refl _) _).more (by simp), f1⟩, ⟨(h2.alloc (Nat.le_refl _) _).more (by simp), f2⟩, trivial⟩
theorem ordPush (hrow : RowX w base 23 v xs) (hall : AllBsO w v.ownBlock xs L) (hbase : base ≤ w.heap.size) (h1 : Below w.heap.size w w1) (ho : Own w1 w.heap.size x a) (hrow' : RowX w3 base 23 v' (xs ++ [x])) (hg : (w1.alloc ob).grownBy w3 v.ownBlock) (hm : Moved (w1.alloc ob) v v') : BssO base w3 v' (L ++ [a]) ∧ Below base w w3 := by
  have hlt := hrow.lt
  have hb2 := below_alloc w1 ob
  have hs1 := h1.size
  have hx : BsO w1 v.ownBlock x a := by
    refine ⟨ho.bs, .inr ?_⟩
    cases hab : v.ownBlock with
    | none => exact .inr rfl
    | some j =>
      left; intro e
      have := (hlt j hab).2
      have := (ho.lt j e).1
      omega
  have hba := below_trans h1 hb2
  have hm' : v'.ownBlock = v.ownBlock ∨ ∃ k, v'.ownBlock = some k ∧ (w1.alloc ob).heap.size ≤ k := hm
  have hall' := ((hall.step h1).snoc hx).step hb2 |>.rowed hg hm'
  exact ⟨⟨_, hrow', hall'⟩, (hba.mono hbase).grown hg (Nat.le_trans hbase hba.size) (fun k hk => (hlt k hk).1)⟩
theorem Bss.cut {A : Option Addr} {n c k : Nat} (h : Bss w B (.slice A n c) L) (hk : k ≤ L.length) :
    Bss w B (.slice (if c = k then A else A.map (·.add k)) (n - k) (c - k)) (L.drop k) := by
  obtain ⟨A', c', he, h1, h2, h3⟩ := h
  injection he with e1 e2 e3
  subst e1 e2 e3
  refine ⟨_, _, by rw [List.length_drop], by simp; omega, by omega, fun hl => ?_⟩
  rw [List.length_drop] at hl
  obtain ⟨g, o, rfl, hg, hc⟩ := h3 (by omega)
  rw [if_neg (by omega)]
  by_cases h0 : k = 0
  · subst h0
    refine ⟨g, o, by simp [Addr.add], hg, fun j hj => ?_⟩
    have := hc j (by simpa using hj)
    simpa using this
  · refine ⟨g, o + k, by simp [Addr.add, h0], hg, fun j hj => ?_⟩
    rw [List.length_drop] at hj
    obtain ⟨u, hu, hb⟩ := hc (k + j) (by omega)
    exact ⟨u, by rw [Nat.add_assoc]; exact hu, by simpa using hb⟩
theorem Bss.front {A : Option Addr} {n c k : Nat} (h : Bss w B (.slice A n c) L) (hk : k ≤ L.length) : Bss w B (.slice A k c) (L.take k) := by
  obtain ⟨A', c', he, h1, h2, h3⟩ := h
  injection he with e1 e2 e3
  subst e1 e2 e3
  refine ⟨_, _, by rw [List.length_take, Nat.min_eq_left hk], by simp; omega, by omega, fun hl => ?_⟩
  rw [List.length_take] at hl
  obtain ⟨g, o, rfl, hg, hc⟩ := h3 (by omega)
  refine ⟨g, o, rfl, hg, fun j hj => ?_⟩
  rw [List.length_take] at hj
  obtain ⟨u, hu, hb⟩ := hc j (by omega)
  exact ⟨u, hu, by simpa using hb⟩
end


section
variable {w : World} {B N c : Nat} {A : Option Addr} {L : List (List UInt8)}
theorem sliceL_from (h : Bss w B (.slice A N c) L) {n : Nat} (hn : n ≤ N) :
    ∃ A', (∀ (W : World) (k : IntKind), (Instr.slice 47 (.slice A N c) (some (.int k (n : Int))) none none).run Tryd.prog W = .ok (.slice A' (N - n) (c - n)) W) ∧ Bss w B (.slice A' (N - n) (c - n)) (L.drop n) := by
  obtain ⟨A', c', he, h1, h2, h3⟩ := h
  injection he with e1 e2 e3
  subst e1 e2 e3
  refine ⟨_, fun W k => ?_, Bss.cut ⟨A, c, rfl, h1, h2, h3⟩ hn⟩
  obtain ⟨i0, hi, hz0, hz1, hz2⟩ := info_parts Tryd.infoBs
  have hs : Tryd.prog.elem 47 = 23 := by kernel_rfl
  have hu : Tryd.prog.underlying 47 = some (.slice (Tryd.prog.elem 47)) := by rw [hs]; exact Tryd.underlying47
  rw [run_slice_l W 47 A L.length c hu k n (by omega) (by omega)]
  simp [hs, sizeOf, typeInfo, sliced, hi, hz1]
theorem sliceL_to (h : Bss w B (.slice A N c) L) {n : Nat} (hn : n ≤ N) :
    (∀ (W : World) (k : IntKind), (Instr.slice 47 (.slice A N c) none (some (.int k (n : Int))) none).run Tryd.prog W = .ok (.slice A n c) W) ∧ Bss w B (.slice A n c) (L.take n) := by
  obtain ⟨A', c', he, h1, h2, h3⟩ := h
  injection he with e1 e2 e3
  subst e1 e2 e3
  refine ⟨fun W k => ?_, Bss.front ⟨A, c, rfl, h1, h2, h3⟩ hn⟩
  obtain ⟨i0, hi, hz0, hz1, hz2⟩ := info_parts Tryd.infoBs
  have hs : Tryd.prog.elem 47 = 23 := by kernel_rfl
  have hu : Tryd.prog.underlying 47 = some (.slice (Tryd.prog.elem 47)) := by rw [hs]; exact Tryd.underlying47
  rw [run_slice_h W 47 A L.length c hu k n (by omega) (by omega)]
  cases A <;> simp [hs, sizeOf, typeInfo, sliced, hi, hz1, Addr.add]
theorem sliceL_mid (h : Bss w B (.slice A N c) L) {n m : Nat} (hn : n ≤ m) (hm : m ≤ N) :
    ∃ A', (∀ (W : World) (k k' : IntKind), (Instr.slice 47 (.slice A N c) (some (.int k (n : Int))) (some (.int k' (m : Int))) none).run Tryd.prog W = .ok (.slice A' (m - n) (c - n)) W) ∧ Bss w B (.slice A' (m - n) (c - n)) ((L.take m).drop n) := by
  obtain ⟨A', c', he, h1, h2, h3⟩ := h
  injection he with e1 e2 e3
  subst e1 e2 e3
  refine ⟨_, fun W k k' => ?_, Bss.cut (Bss.front ⟨A, c, rfl, h1, h2, h3⟩ hm) (by simp; omega)⟩
  obtain ⟨i0, hi, hz0, hz1, hz2⟩ := info_parts Tryd.infoBs
  have hs : Tryd.prog.elem 47 = 23 := by kernel_rfl
  have hu : Tryd.prog.underlying 47 = some (.slice (Tryd.prog.elem 47)) := by rw [hs]; exact Tryd.underlying47
  rw [run_slice_lh W 47 A L.length c hu k k' n m (by omega) (by omega) (by omega)]
  simp [hs, sizeOf, typeInfo, sliced, hi, hz1]
end

/-- the parts as they are made; the ID and the number behind the addresses -/
def ordP (R : RV) (L : List (List UInt8)) : List (List UInt8) := [fieldEnc 1 R.peer, seqN R.seq] ++ L.map addrG
def ordQ (R : RV) : List (List UInt8) := (R.addrs.map addrG ++ [fieldEnc 1 R.peer]) ++ [seqN R.seq]
theorem ordP_len (R : RV) (L : List (List UInt8)) : (ordP R L).length = L.length + 2 := by simp [ordP]
theorem ordQ_len (R : RV) : (ordQ R).length = R.addrs.length + 2 := by simp [ordQ]
theorem ordP_snoc (R : RV) {L : List (List UInt8)} {k : Nat} (h : k < L.length) : ordP R (L.take (k + 1)) = ordP R (L.take k) ++ [addrG L[k]] := by
  unfold ordP
  rw [List.take_succ_eq_append_getElem h, List.map_append, List.append_assoc]; rfl
theorem ordQ_of (R : RV) : [(ordP R R.addrs).drop 2, (ordP R R.addrs).take 2].flatten = ordQ R := by simp [ordP, ordQ]
theorem orderL_of (R : RV) {k n : Nat} (hk : k ≤ n) (hn : n = R.addrs.length + 1) : [(ordQ R).take k, (ordQ R).drop n, ((ordQ R).take n).drop k].flatten = orderL R k := by
  subst hn
  have e : (ordQ R).take (R.addrs.length + 1) = R.addrs.map addrG ++ [fieldEnc 1 R.peer] := by unfold ordQ; rw [List.take_left' (by simp)]
  have e2 : (ordQ R).drop (R.addrs.length + 1) = [seqN R.seq] := by unfold ordQ; rw [List.drop_left' (by simp)]
  have e3 : (ordQ R).take k = (R.addrs.map addrG ++ [fieldEnc 1 R.peer]).take k := by unfold ordQ; rw [List.take_append_of_le_length (by simpa using hk)]
  rw [e, e2, e3]
  unfold orderL
  simp
theorem flat_bound {b : Nat} : ∀ {M : List (List UInt8)}, (∀ a ∈ M, a.length ≤ b) → M.flatten.length ≤ M.length * b := by
  intro M
  induction M with
  | nil => intro _; simp
  | cons a M ih =>
    intro h
    have h1 := h a (by simp)
    have h2 := ih (fun x hx => h x (by simp [hx]))
    rw [List.flatten_cons, List.length_append, List.length_cons, Nat.add_mul]
    omega
theorem orderL_len {R : RV} (h : R.fits) (hs : R.seq < 18446744073709551616) (k : Nat) : (orderL R k).flatten.length ≤ 8000 ∧ (orderL R k).length ≤ 22 := by
  have hl : (orderL R k).length ≤ 22 := by
    unfold orderL
    have := h.many
    rw [List.length_append, List.length_cons, List.length_take, List.length_drop]
    simp
    omega
  refine ⟨?_, hl⟩
  have hb : ∀ a ∈ orderL R k, a.length ≤ 340 := by
    have hp : ∀ a ∈ R.addrs.map addrG ++ [fieldEnc 1 R.peer], a.length ≤ 340 := by
      intro a ha
      rcases List.mem_append.1 ha with ha | ha
      · obtain ⟨d, hd, rfl⟩ := List.mem_map.1 ha
        have h1 := h.addrs d hd
        have h2 := fieldEnc_le' 1 d (by omega)
        have h3 := fieldEnc_le' 3 (fieldEnc 1 d) (by omega)
        unfold addrG
        omega
      · obtain rfl : a = fieldEnc 1 R.peer := by simpa using ha
        have h1 := h.peer
        have h2 := fieldEnc_le' 1 R.peer (by omega)
        omega
    intro a ha
    unfold orderL at ha
    rcases List.mem_append.1 ha with ha | ha
    · exact hp a (List.mem_of_mem_take ha)
    · rcases List.mem_cons.1 ha with rfl | ha
      · have := seqF_len hs
        unfold seqF at this
        unfold seqN
        have hv : (Wire.venc R.seq).length ≤ 10 := Wire.venc_length_u64 hs
        simp
        omega
      · exact hp a (List.mem_of_mem_drop ha)
  have := flat_bound hb
  have : (orderL R k).length * 340 ≤ 22 * 340 := Nat.mul_le_mul_right _ hl
  omega
end Go.Proofs.YtcefcdmonfenoaaDoor

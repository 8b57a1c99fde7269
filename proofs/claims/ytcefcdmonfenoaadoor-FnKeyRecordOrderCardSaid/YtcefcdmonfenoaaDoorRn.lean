/- The statements' and the reference's helpers on records: zzFits13, recordFits, sameRecord, RecordBytes. -/
import Derived.Test.YtcefcdmonfenoaaDoorRl
import Derived.Test.YtcefcdmonfenoaaDoorOpn
import Derived.Test.YtcefcdmonfenoaaDoorEl
namespace Go.Proofs.YtcefcdmonfenoaaDoor
open Go.RowKit
set_option maxRecDepth 100000
attribute [local go_sem ↓] Go.wp_at_zero Go.wp_at_succ

/-- append of bytes as a step of a region that draws -/
theorem step_app {ops : Array Oper} {o : Oper} {a : Act} {K : Act → World → Prop} {Q : Exit → Act → World → Prop} {E : Prop} {w : World} (hgd : o.guard = none) (s x : Operand)
    (ho : o.op = .call { callee := .builtin .append, args := #[s, x], argTypes := #[23, 23] })
    {base : Nat} {v y : Value} {l m : List UInt8} {B : Nat} (hs : a.eval s = v) (hx : a.eval x = y) (hown : Own w base v l) (hy : Bs w B y m) (hlen : l.length + m.length ≤ 140737488355328) (hb : base ≤ w.heap.size)
    (h : ∀ v' w', Own w' base v' (l ++ m) → w.grownBy w' v.ownBlock → (NN v → NN v') → Moved w v v' → K (a.put o.dst v') w') :
    if Region.wanted o (yielded ops a.tmps) = true then Oper.wp Tryd.prog o a w K Q else E := by
  have hw : Region.wanted o (yielded ops a.tmps) = true := by simp [Region.wanted, hgd]
  rw [if_pos hw]
  obtain ⟨v', w', hr, h2, h3, h4, h5⟩ := run_app o.type hown hy hlen hb
  unfold Oper.wp execOp
  simp only [ho, resolve, invoke, builtin, Sem.run_bind, Sem.run_pure, Result.andThen_ok, List.map_toArray, List.map_cons, List.map_nil, hs, hx, hr]
  exact h v' w' h2 h3 h4 h5

structure RV.fits31 (R : RV) : Prop where
  peer : R.peer.length ≤ 2147483647
  many : R.addrs.length ≤ 2147483647
  addrs : AllLe 2147483647 R.addrs
structure RV.fits (R : RV) : Prop where
  peer : R.peer.length ≤ 300
  many : R.addrs.length ≤ 20
  addrs : AllLe 300 R.addrs
theorem RV.fits.small {R : RV} (h : R.fits) (hs : R.seq < 18446744073709551616) : R.small :=
  ⟨by have := h.peer; omega, hs, by have := h.many; omega, fun a ha => by have := h.addrs a ha; omega⟩
theorem addrF_len3 {a : List UInt8} (h : a.length ≤ 300) : (addrF a).length ≤ 330 := by
  have h1 : (optF 1 a).length ≤ 311 := by
    unfold optF
    split
    · simp
    · have := fieldEnc_le' 1 a (by omega); omega
  have := fieldEnc_le' 3 (optF 1 a) (by omega)
  unfold addrF; omega
theorem addrsF_len3 : ∀ (L : List (List UInt8)), AllLe 300 L → (addrsF L).length ≤ L.length * 330 := by
  intro L
  induction L with
  | nil => intro _; simp [addrsF]
  | cons a L ih =>
    intro h
    have h1 := addrF_len3 (h a (by simp))
    have h2 := ih (fun b hb => h b (by simp [hb]))
    have e : addrsF (a :: L) = addrF a ++ addrsF L := by simp [addrsF]
    rw [e, List.length_append, List.length_cons]
    omega
theorem seqF_len {n : Nat} (h : n < 18446744073709551616) : (seqF n).length ≤ 11 := by
  have : (Wire.venc n).length ≤ 10 := Wire.venc_length_u64 (by omega)
  unfold seqF seqN
  split
  · simp
  · simp; omega
theorem recEnc_len {R : RV} (h : R.fits) (hs : R.seq < 18446744073709551616) : (recEnc R).length ≤ 8000 := by
  have h1 : (optF 1 R.peer).length ≤ 311 := by
    have := h.peer
    unfold optF
    split
    · simp
    · have := fieldEnc_le' 1 R.peer (by omega); omega
  have h2 := seqF_len hs
  have h3 := addrsF_len3 R.addrs h.addrs
  have h4 := h.many
  unfold recEnc
  simp only [List.length_append]
  omega

section
variable {w : World} {v x : Value} {R S : RV}
theorem RecVal.form {B : Nat} (h : RecVal w B v R) : ∃ A1 n1 c1 A2 n2 c2, v = .agg #[.slice A1 n1 c1, .int .u64 (R.seq : Int), .slice A2 n2 c2] ∧ Bs w B (.slice A1 n1 c1) R.peer ∧ Bss w B (.slice A2 n2 c2) R.addrs := by
  obtain ⟨vp, va, rfl, h1, h2⟩ := h
  obtain ⟨A1, n1, c1, rfl⟩ := hid_exists_bs h1
  obtain ⟨A2, n2, c2, rfl, _⟩ := h2.form'
  exact ⟨_, _, _, _, _, _, rfl, h1, h2⟩
theorem bss_len {B : Nat} {A : Option Addr} {n c : Nat} {L : List (List UInt8)} (h : Bss w B (.slice A n c) L) : n = L.length := by
  obtain ⟨A', c', e, _⟩ := h; injection e
theorem RecVal.mk' {B : Nat} {v1 v2 : Value} {p : List UInt8} {n : Nat} {L : List (List UInt8)} {sq : Int} (hs : sq = (n : Int)) (h1 : Bs w B v1 p) (h2 : Bss w B v2 L) : RecVal w B (.agg #[v1, .int .u64 sq, v2]) ⟨p, n, L⟩ := ⟨_, _, by rw [hs], h1, h2⟩

theorem zzFits13 (hv : RecVal w w.heap.size v R) :
    Calls Tryd.prog 36 #[v] w fun e w' => BoolIff R.fits31 e ∧ Below w.heap.size w w' := by
  obtain ⟨A1, n1, c1, A2, n2, c2, rfl, h1, h2⟩ := hv.form
  have e1 := Lib.hid (bs_len h1)
  have ba := below_alloc w (.cells #[.slice A1 n1 c1, .int .u64 (R.seq : Int), .slice A2 n2 c2] 49)
  have HF := Lib.hid (zzFits4 (h2.step ba))
  have Ba := Lib.hid ba
  clear h1 h2 ba hv
  by_cases hbig : 2147483647 < n1
  · go_enter Tryd.func36, Tryd.ntmps36
    go_wp2_with fail
    go_ret
    exact ⟨BoolIff.f fun h => by have := h.peer; have := e1.out; omega, Ba.out⟩
  · go_enter Tryd.func36, Tryd.ntmps36
    go_wp2_with fail
    refine HF.out.mono ?_
    rintro e w' ⟨⟨b, rfl, hb⟩, rfl⟩
    cases b with
    | true =>
      have Hb := Lib.hid (hb.1 rfl)
      clear hb
      go_wp2_with fail
      go_ret
      exact ⟨BoolIff.t ⟨by have := e1.out; omega, Hb.out.1, Hb.out.2⟩, Ba.out⟩
    | false =>
      have Hb := Lib.hid (show ¬ _ from fun h => by have := hb.2 h; simp at this)
      clear hb
      go_wp2_with fail
      go_ret
      exact ⟨BoolIff.f fun h => Hb.out ⟨h.many, h.addrs⟩, Ba.out⟩

theorem recordFits (hv : RecVal w w.heap.size v R) :
    Calls Tryd.prog 37 #[v] w fun e w' => BoolIff R.fits e ∧ Below w.heap.size w w' := by
  obtain ⟨A1, n1, c1, A2, n2, c2, rfl, h1, h2⟩ := hv.form
  have e1 := Lib.hid (bs_len h1)
  have e2 := Lib.hid (bss_len h2)
  have ba := below_alloc w (.cells #[.slice A1 n1 c1, .int .u64 (R.seq : Int), .slice A2 n2 c2] 49)
  have HF := Lib.hid (containsLong300 (h2.step ba))
  have Ba := Lib.hid ba
  clear h1 h2 ba hv
  by_cases hp : 300 < n1
  · have d1 : decide ((n1 : Int) ≤ 300) = false := by simp; omega
    go_enter Tryd.func37, Tryd.ntmps37
    go_wp2_with fail
    go_ret
    exact ⟨BoolIff.f fun h => by have := h.peer; have := e1.out; omega, Ba.out⟩
  by_cases hm : 20 < n2
  · have d1 : decide ((n1 : Int) ≤ 300) = true := by simp; omega
    have d2 : decide ((n2 : Int) ≤ 20) = false := by simp; omega
    go_enter Tryd.func37, Tryd.ntmps37
    go_wp2_with fail
    go_ret
    exact ⟨BoolIff.f fun h => by have := h.many; have := e2.out; omega, Ba.out⟩
  have d1 : decide ((n1 : Int) ≤ 300) = true := by simp; omega
  have d2 : decide ((n2 : Int) ≤ 20) = true := by simp; omega
  go_enter Tryd.func37, Tryd.ntmps37
  go_wp2_with fail
  refine HF.out.mono ?_
  rintro e w' ⟨⟨b, rfl, hb⟩, rfl⟩
  cases b with
  | true =>
    have Hb := Lib.hid (hb.1 rfl)
    clear hb
    go_wp2_with fail
    go_ret
    exact ⟨BoolIff.f fun h => Hb.out h.addrs, Ba.out⟩
  | false =>
    have Hb := Lib.hid (show AllLe 300 R.addrs from Classical.byContradiction fun h => by have := hb.2 h; simp at this)
    clear hb
    go_wp2_with fail
    go_ret
    exact ⟨BoolIff.t ⟨by have := e1.out; omega, by have := e2.out; omega, Hb.out⟩, Ba.out⟩

theorem sameRecord (hv : RecVal w w.heap.size v R) (hx : RecVal w w.heap.size x S) :
    Calls Tryd.prog 40 #[v, x] w fun e w' => BoolIff (R = S) e ∧ Below w.heap.size w w' := by
  obtain ⟨A1, n1, c1, A2, n2, c2, rfl, h1, h2⟩ := hv.form
  obtain ⟨B1, m1, d1, B2, m2, d2, rfl, j1, j2⟩ := hx.form
  obtain ⟨p, sq, L⟩ := R
  obtain ⟨p', sq', L'⟩ := S
  simp only [] at h1 h2 j1 j2 ⊢
  have ba := below_trans (below_alloc w (.cells #[.slice A1 n1 c1, .int .u64 (sq : Int), .slice A2 n2 c2] 49)) (below_alloc _ (.cells #[.slice B1 m1 d1, .int .u64 (sq' : Int), .slice B2 m2 d2] 49))
  have H1 := Lib.hid (h1.step ba)
  have H2 := Lib.hid (h2.step ba)
  have J1 := Lib.hid (j1.step ba)
  have J2 := Lib.hid (j2.step ba)
  have Ba := Lib.hid ba
  clear h1 h2 j1 j2 ba hv hx
  by_cases hp : p = p'
  rotate_left
  · have Hp := Lib.hid hp
    clear hp
    go_enter Tryd.func40, Tryd.ntmps40
    go_wp2_with fail
    refine (eqFalse H1.out J1.out Hp.out).mono ?_
    rintro e W_ ⟨rfl, rfl⟩
    go_wp2_with fail
    go_ret
    exact ⟨BoolIff.f fun h => by injection h with h1 h2 h3; exact Hp.out h1, Ba.out⟩
  have Hp := Lib.hid hp
  clear hp
  by_cases hs : sq = sq'
  rotate_left
  · have d0 : ((sq : Int) == (sq' : Int)) = false := i8_ne (by omega)
    have Hs := Lib.hid hs
    clear hs
    go_enter Tryd.func40, Tryd.ntmps40
    go_wp2_with fail
    refine (eqTrue H1.out J1.out Hp.out).mono ?_
    rintro e W_ ⟨rfl, rfl⟩
    go_wp2_with fail
    go_ret
    exact ⟨BoolIff.f fun h => by injection h with h1 h2 h3; exact Hs.out h2, Ba.out⟩
  have d0 : ((sq : Int) == (sq' : Int)) = true := by rw [hs]; simp
  have Hs := Lib.hid hs
  clear hs
  have HE := Lib.hid (equalBss H2.out J2.out)
  go_enter Tryd.func40, Tryd.ntmps40
  go_wp2_with fail
  refine (eqTrue H1.out J1.out Hp.out).mono ?_
  rintro e W_ ⟨rfl, rfl⟩
  go_wp2_with fail
  refine HE.out.mono ?_
  rintro e w' ⟨⟨b, rfl, hb⟩, rfl⟩
  cases b with
  | true =>
    have Hq := Lib.hid (hb.1 rfl)
    clear hb
    go_wp2_with fail
    go_ret
    exact ⟨BoolIff.t (by rw [Hp.out, Hs.out, Hq.out]), Ba.out⟩
  | false =>
    have Hq := Lib.hid (show ¬ L = L' from fun h => by have := hb.2 h; simp at this)
    clear hb
    go_wp2_with fail
    go_ret
    exact ⟨BoolIff.f fun h => by injection h with h1 h2 h3; exact Hq.out h3, Ba.out⟩
end
end Go.Proofs.YtcefcdmonfenoaaDoor

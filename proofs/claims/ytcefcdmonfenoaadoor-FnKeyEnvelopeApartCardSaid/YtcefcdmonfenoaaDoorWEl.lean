/- The statements' small example of an envelope. -/
import Derived.Test.YtcefcdmonfenoaaDoorEl
namespace Go.Proofs.YtcefcdmonfenoaaDoor
open Go.RowKit
set_option maxRecDepth 100000
attribute [local go_sem ↓] Go.wp_at_zero Go.wp_at_succ

theorem eErr_of {w : World} (he : HasErr w 4 ∧ HasErr w 5 ∧ HasErr w 6 ∧ HasErr w 7 ∧ HasErr w 8 ∧ HasErr w 9 ∧ HasErr w 3 ∧ HasErr w 2 ∧ HasErr w 1) : EErr w := by
  obtain ⟨h1, h2, h3, h4, h5, h6, h7, h8, h9⟩ := he
  exact ⟨⟨⟨h1, h2, h3, h4, h5, h6⟩, h7, h8⟩, h9⟩

def evSmall : EV := ⟨false, 0, [], [1], [2], []⟩
theorem evSmall_ok : evSmall.ok := ⟨fun _ => ⟨rfl, rfl⟩, by decide, by decide, by decide, by decide, by decide, by decide⟩
theorem evSmall_small : evSmall.small := ⟨by decide, by decide, by decide, by decide, by decide, by decide⟩
theorem evSmall_enc : envEnc evSmall = [18, 1, 1, 26, 1, 2] := by
  unfold envEnc envKeyF optF evSmall fieldEnc lenEnc
  simp only [Bool.false_eq_true, if_false, List.nil_append]
  rw [if_neg (by simp), if_neg (by simp), if_pos trivial]
  rw [Wire.venc_lt (by simp), Wire.venc_lt (by simp)]
  rfl
theorem evSmall_dec : envDec [18, 1, 1, 26, 1, 2] = some evSmall := by rw [← evSmall_enc]; exact envDec_enc evSmall_ok
theorem litb1 : (#[.int .u8 1] : Array Value).toList = bvs [1] := by simp [bvs]
theorem litb2 : (#[.int .u8 2] : Array Value).toList = bvs [2] := by simp [bvs]
theorem lit6 : (#[.int .u8 18, .int .u8 1, .int .u8 1, .int .u8 26, .int .u8 1, .int .u8 2] : Array Value).toList = bvs [18, 1, 1, 26, 1, 2] := by simp [bvs]

theorem envSome {w' : World} {l : List UInt8} {e : Ending} {E : EV} (h : (envDec l = none ∧ ∃ v', e = .returned (.tuple #[v', .bool false]) ∧ EnvVal w' w'.heap.size v' ⟨false, 0, [], [], [], []⟩) ∨
    ∃ E v', envDec l = some E ∧ e = .returned (.tuple #[v', .bool true]) ∧ EnvVal w' w'.heap.size v' E ∧ E.key.length ≤ 140737488355328 ∧ E.ty.length ≤ 140737488355328 ∧ E.pay.length ≤ 140737488355328 ∧ E.sig.length ≤ 140737488355328) (hd : envDec l = some E) :
    ∃ v', e = .returned (.tuple #[v', .bool true]) ∧ EnvVal w' w'.heap.size v' E := by
  rcases h with ⟨h, _⟩ | ⟨E', v, h, h2, h3, _⟩
  · rw [hd] at h; cases h
  · rw [hd] at h
    simp only [Option.some.injEq] at h
    subst h
    exact ⟨v, h2, h3⟩
theorem envNone {w' : World} {l : List UInt8} {e : Ending} (h : (envDec l = none ∧ ∃ v', e = .returned (.tuple #[v', .bool false]) ∧ EnvVal w' w'.heap.size v' ⟨false, 0, [], [], [], []⟩) ∨
    ∃ E v', envDec l = some E ∧ e = .returned (.tuple #[v', .bool true]) ∧ EnvVal w' w'.heap.size v' E ∧ E.key.length ≤ 140737488355328 ∧ E.ty.length ≤ 140737488355328 ∧ E.pay.length ≤ 140737488355328 ∧ E.sig.length ≤ 140737488355328) (hd : envDec l = none) :
    ∃ v', e = .returned (.tuple #[v', .bool false]) ∧ EnvVal w' w'.heap.size v' ⟨false, 0, [], [], [], []⟩ := by
  rcases h with ⟨_, h⟩ | ⟨E', v, h, h2, h3, _⟩
  · exact h
  · rw [hd] at h; cases h
theorem EnvVal.form {w : World} {B : Nat} {v : Value} {has : Bool} {kind : Int} {key ty pay sig : List UInt8} (h : EnvVal w B v ⟨has, kind, key, ty, pay, sig⟩) :
    ∃ A1 n1 c1 A2 n2 c2 A3 n3 c3 A4 n4 c4, v = .agg #[.bool has, .int .i32 kind, .slice A1 n1 c1, .slice A2 n2 c2, .slice A3 n3 c3, .slice A4 n4 c4] ∧ Bs w B (.slice A1 n1 c1) key ∧ Bs w B (.slice A2 n2 c2) ty ∧ Bs w B (.slice A3 n3 c3) pay ∧ Bs w B (.slice A4 n4 c4) sig := by
  obtain ⟨vk, vt, vp, vs, rfl, h1, h2, h3, h4⟩ := h
  obtain ⟨A1, n1, c1, rfl⟩ := hid_exists_bs h1
  obtain ⟨A2, n2, c2, rfl⟩ := hid_exists_bs h2
  obtain ⟨A3, n3, c3, rfl⟩ := hid_exists_bs h3
  obtain ⟨A4, n4, c4, rfl⟩ := hid_exists_bs h4
  exact ⟨_, _, _, _, _, _, _, _, _, _, _, _, rfl, h1, h2, h3, h4⟩
theorem EnvVal.mk' {w : World} {B : Nat} {has : Bool} {kind : Int} {key ty pay sig : List UInt8} {v1 v2 v3 v4 : Value} (h1 : Bs w B v1 key) (h2 : Bs w B v2 ty) (h3 : Bs w B v3 pay) (h4 : Bs w B v4 sig) :
    EnvVal w B (.agg #[.bool has, .int .i32 kind, v1, v2, v3, v4]) ⟨has, kind, key, ty, pay, sig⟩ := ⟨_, _, _, _, rfl, h1, h2, h3, h4⟩

set_option maxHeartbeats 1000000 in
theorem envelopesLive {w : World} (he : EErr w) : Calls Tryd.prog 52 #[] w fun e w' => Yes w e w' := by
  have He := Lib.hid he
  clear he
  go_enter Tryd.func52, Tryd.ntmps52
  go_wp2_with fail
  have ha := below_alloc w (.cells #[.int .u8 1] 5)
  have hb := below_alloc (w.alloc (.cells #[.int .u8 1] 5)) (.cells #[.int .u8 2] 5)
  have X1 := Bs.newAt w #[.int .u8 1] [1] litb1 (by simp) _ 1 1 rfl rfl rfl
  have X2 := Bs.newAt (w.alloc (.cells #[.int .u8 1] 5)) #[.int .u8 2] [2] litb2 (by simp) (w.heap.size + 1) 1 1 (by simp) rfl rfl
  refine (envelopeBytes (E := evSmall) (EnvVal.mk' (Bs.nil0 _ _) (X1.step hb) X2 (Bs.nil0 _ _)) evSmall_small).mono ?_
  rintro e w1 ⟨v1, rfl, ho, hbl⟩
  rw [evSmall_enc] at ho
  have Hv1 := Lib.hid ho.bs
  have B1 := Lib.hid (below_trans ha (below_trans hb hbl))
  clear ha hb X1 X2 ho hbl
  go_wp2_with fail
  have hb1 := below_alloc w1 (.cells #[.int .u8 18, .int .u8 1, .int .u8 1, .int .u8 26, .int .u8 1, .int .u8 2] 5)
  refine (envelopeOf (l := [18, 1, 1, 26, 1, 2]) (Bs.newAt w1 _ _ lit6 (by simp) _ 6 6 rfl rfl rfl) (He.out.step (below_trans B1.out hb1)) (by simp)).mono ?_
  rintro e w2 ⟨hbl2, hans⟩
  obtain ⟨v2, rfl, hv2⟩ := envSome hans evSmall_dec
  obtain ⟨A1, n1, c1, A2, n2, c2, A3, n3, c3, A4, n4, c4, rfl, z1, z2, z3, z4⟩ := EnvVal.form hv2
  replace Hv1 := Lib.hid ((Hv1.out.step hb1).step hbl2)
  have Z3 := Lib.hid z3
  have B2 := Lib.hid (below_trans B1.out (below_trans hb1 hbl2))
  clear hbl2 hb1 hans hv2 z1 z2 z3 z4
  go_wp2_with fail
  have hb3 := below_alloc w2 (.cells #[.bool false, .int .i32 0, .slice A1 n1 c1, .slice A2 n2 c2, .slice A3 n3 c3, .slice A4 n4 c4] 64)
  have hb4 := below_alloc (w2.alloc (.cells #[.bool false, .int .i32 0, .slice A1 n1 c1, .slice A2 n2 c2, .slice A3 n3 c3, .slice A4 n4 c4] 64)) (.cells #[.int .u8 18, .int .u8 1, .int .u8 1, .int .u8 26, .int .u8 1, .int .u8 2] 5)
  refine (eqTrue (Hv1.out.step (below_trans hb3 hb4)) (Bs.newAt _ #[.int .u8 18, .int .u8 1, .int .u8 1, .int .u8 26, .int .u8 1, .int .u8 2] [18, 1, 1, 26, 1, 2] lit6 (by simp) _ 6 6 (by simp) rfl rfl) rfl).mono ?_
  rintro e w3 ⟨rfl, rfl⟩
  have B4 := Lib.hid (below_trans hb3 hb4)
  clear hb3 hb4
  go_wp2_with fail
  have hb5 := below_alloc ((w2.alloc (.cells #[.bool false, .int .i32 0, .slice A1 n1 c1, .slice A2 n2 c2, .slice A3 n3 c3, .slice A4 n4 c4] 64)).alloc (.cells #[.int .u8 18, .int .u8 1, .int .u8 1, .int .u8 26, .int .u8 1, .int .u8 2] 5)) (.cells #[.int .u8 2] 5)
  refine (eqTrue (Z3.out.step (below_trans B4.out hb5)) (Bs.newAt _ #[.int .u8 2] [2] litb2 (by simp) _ 1 1 (by simp) rfl rfl) rfl).mono ?_
  rintro e w4 ⟨rfl, rfl⟩
  go_wp2_with fail
  go_ret
  exact ⟨rfl, below_trans B2.out (below_trans B4.out hb5)⟩
end Go.Proofs.YtcefcdmonfenoaaDoor

import Derived.Test.YthbmfhkpkkgdnaaGreatDoorT5
import Derived.Test.YthbmfhkpkkgdnaaGreatDoorT6
import Derived.Test.YthbmfhkpkkgdnaaGreatDoorT2
import Derived.Test.YthbmfhkpkkgdnaaGreatDoorQ3
import Derived.Test.YthbmfhkpkkgdnaaGreatDoorUk
import Derived.Laws.Externs
import Derived.Deep.QuietTactic
import Derived.BigQuiet
namespace Go.Proofs.YthbmfhkpkkgdnaaGreatDoor.Q
open Go.RowKit Go.Proofs.YthbmfhkpkkgdnaaGreatDoorW.PrintWords Go.Proofs.YthbmfhkpkkgdnaaGreatDoorW.PrintLast Go.Proofs.YthbmfhkpkkgdnaaGreatDoorW.PrintMore
attribute [local go_sem] max2_int min2_int max_two min_two max_three min_three max_four min_four
set_option linter.unusedVariables false
set_option linter.unusedSimpArgs false
theorem run_float64bits (b : Nat) (w : World) : (callFunc 39 #[.float .f64 b]).run Tryz.prog w = .ok (.value (.int .u64 (b : Int))) w := by
  rw [run_callFunc_extern Tryz.func39 (by kernel_rfl) (by kernel_rfl) (by kernel_rfl) (e := Extern.MathFloatBits.float64bits) (by kernel_rfl)]
  rfl
theorem and_2047 (x : Nat) (hx : x < 9223372036854775808) : Go.bits .and .i64 (x : Int) 2047 = ((x % 2048 : Nat) : Int) := by
  have h := bits_mask .i64 63 (by decide) (fun n h0 h1 => by rw [IntKind.wrap_i64]; omega) 11 (by decide) (x : Int) (by omega) (by omega)
  have e : (2 : Int) ^ 11 - 1 = 2047 := by decide
  have e2 : (2 : Int) ^ 11 = 2048 := by decide
  rw [e, e2] at h
  rw [h]; omega
open Go.Proofs.YthbmfhkpkkgdnaaGreatDoor.U in
set_option maxHeartbeats 8000000 in
set_option maxRecDepth 100000 in
theorem strconv_ftoa64.zero (k : Nat) (P0_ : Nat → Prop) (u9000_ : Value) (l0 : List Int) (b : Nat) (r : List Int) (w0 w : World) (hb64 : b < 18446744073709551616) (hfin : b % 9223372036854775808 < 9218868437227405312) (hz : mB (b % 9223372036854775808) = 0) (hB : Below w0.heap.size w0 w) (ho0 : Kd.R (Kd.int .u8) 5 w w0.heap.size P0_ u9000_ l0) (h : strconv_fmtEFG.f k l0 (decide (9223372036854775808 ≤ b)) [] 0 0 (-1) 103 true = some r) :
    Calls Tryz.prog 28 #[u9000_, .float .f64 b, .int .u8 103, .int .i64 (-1)] w fun e w' => ∃ v0_ : Value, e = .returned (v0_) ∧ Kd.R (Kd.int .u8) 5 w' w0.heap.size (fun k_ => (P0_ k_ ∨ w.heap.size ≤ k_)) v0_ r ∧ Below w0.heap.size w0 w' ∧ Kept w w' (fun k_ => P0_ k_) := by
  have HB := Aside0.mk hB
  have HO := Aside0.mk ho0
  have HH := Aside0.mk h
  clear hB ho0 h
  have hf := run_float64bits b
  obtain ⟨c, hc⟩ : ∃ c, b % 9223372036854775808 = c := ⟨_, rfl⟩
  have hX := and_2047 (b / 4503599627370496) (by omega)
  have hXX : (((b / 4503599627370496 % 2048 : Nat)) : Int) = ((c / 4503599627370496 : Nat) : Int) := by omega
  rw [hXX, show ((b / 4503599627370496 : Nat) : Int) = (b : Int) / 4503599627370496 by omega] at hX
  have hF := and_mask b (by omega)
  rw [show b % 4503599627370496 = c % 4503599627370496 by omega] at hF
  go_enter Tryz.func28, Tryz.ntmps28
  obtain ⟨X, hXc⟩ : ∃ X, c / 4503599627370496 = X := ⟨_, rfl⟩
  obtain ⟨F, hFc⟩ : ∃ F, c % 4503599627370496 = F := ⟨_, rfl⟩
  rw [hXc] at hX
  rw [hFc] at hF
  have hX2 : X ≤ 2046 := by omega
  have hF2 : F < 4503599627370496 := by omega
  have hor := or_top F hF2
  have hne : ((X : Int) == 2047) = false := by simp; omega
  rw [hc] at hfin hz
  have hb2 : (((b : Int) / 9223372036854775808 : Int) != 0) = decide (9223372036854775808 ≤ b) := by
    by_cases hq : 9223372036854775808 ≤ b
    · rw [decide_eq_true hq]; simp; omega
    · rw [decide_eq_false hq]; simp; omega
  have hmB : mB c = if X = 0 then F else F + 4503599627370496 := by unfold mB; rw [hXc, hFc]; split <;> omega
  have heB : eB c + 1075 = if X = 0 then 1 else (X : Int) := by unfold eB; rw [hXc]; split <;> omega
  have hmB := Aside0.mk hmB
  have heB := Aside0.mk heB
  have hXc := Aside0.mk hXc
  have hFc := Aside0.mk hFc
  have hc := Aside0.mk hc
  go_wp2
  go_quiet (fail)
  go_upto_if 78 with (fail)
  go_cut [14, 15] (fun v14 v15 wc => v14 = .int .i64 (eB c + 1075) ∧ v15 = .int .u64 (mB c : Int) ∧ Drawn0 w wc)
  case first =>
    by_cases c0 : X = 0
    · have cd : ((X : Int) == 0) = true := by simp; omega
      subst c0
      go_wp2
      go_meet
      case rel => exact ⟨by rw [heB.out]; rfl, by rw [hmB.out]; rfl, _, rfl⟩
    · have cd : ((X : Int) == 0) = false := by simp; omega
      go_wp2
      go_meet
      case rel => exact ⟨by rw [heB.out, if_neg c0], by rw [hmB.out, if_neg c0]; exact congrArg (Value.int .u64) (by omega), _, rfl⟩
  case rest =>
    obtain ⟨rfl, rfl, hdr⟩ := hcut
    rw [hz]
    have hdr := Aside0.mk hdr
    obtain ⟨ee, hee⟩ : ∃ ee, eB c = ee := ⟨_, rfl⟩
    have hb := mB_lt hfin
    rw [hee] at hb ⊢
    obtain ⟨_, he1, he2⟩ := hb
    clear hX hF hor hne hb2 hX2 hF2 hf
    obtain ⟨nw, rfl⟩ := hdr.out
    clear hdr
    go_wp2_with (first | (go_at_call 42; (refine (strconv_fmtEFG.calls k P0_ u9000_ l0 (decide (9223372036854775808 ≤ b)) none 0 [] 0 0 (-1) 103 true r w0 _ ?b1 ?b2 ?b3 ?b4 HH.out).mono ?_); (case b1 => exact pw_below_drewN HB.out _); (case b2 => exact Kd.R_drewN HO.out _); (case b3 => intro W_ _; exact Kd.C_nil (Kd.int .u8) W_); (case b4 => exact Nat.le_refl _); rintro e w' ⟨v0, rfl, ho, hb, hk⟩))
    go_ret
    exact ⟨_, rfl, ho, hb, hk⟩
end Go.Proofs.YthbmfhkpkkgdnaaGreatDoor.Q

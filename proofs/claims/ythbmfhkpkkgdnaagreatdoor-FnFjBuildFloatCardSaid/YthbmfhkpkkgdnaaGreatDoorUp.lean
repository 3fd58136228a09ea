/- shortFloat's answer lies within half a step of the float64: the code's own arithmetic joined with the plain law. -/
import Derived.Test.YthbmfhkpkkgdnaaGreatDoorUo
import Derived.Test.YthbmfhkpkkgdnaaGreatDoorT6
namespace Go.Proofs.YthbmfhkpkkgdnaaGreatDoor.U
open Go.RowKit Go.Proofs.YthbmfhkpkkgdnaaGreatDoorW.PrintWords Go.Proofs.YthbmfhkpkkgdnaaGreatDoorW.PrintLast Go.Proofs.YthbmfhkpkkgdnaaGreatDoorW.PrintMore Go.Proofs.YthbmfhkpkkgdnaaGreatDoor.Q Go.Proofs.YthbmfhkpkkgdnaaGreatDoor.F
set_option linter.unusedVariables false
/-- The table's entries are the powers of ten's scales. -/
def tabB (i : Nat) : Bool :=
  let r := Go.Pinned.pow10Rows.getD i (0, 0)
  Nat.blt r.1 (2 ^ 64) && Nat.blt r.2 (2 ^ 64) && Nat.beq (r.1 * 2 ^ 64) (pmOf ((i : Int) - 348) + r.2)
set_option maxRecDepth 100000 in
theorem tab_all : allB tabB 696 = true := by decide +kernel
theorem tab_at {p : Int} (h0 : -348 ≤ p) (h1 : p ≤ 347) : ∃ hi lo : Nat, pHi (p + 348).toNat = (hi : Int) ∧ pLo (p + 348).toNat = (lo : Int) ∧ hi < 2 ^ 64 ∧ lo < 2 ^ 64 ∧ hi * 2 ^ 64 = pmOf p + lo := by
  have h := allB_at tab_all (p + 348).toNat (by omega)
  unfold tabB at h
  simp only [Bool.and_eq_true, Nat.blt_eq, Nat.beq_eq] at h
  obtain ⟨⟨h1, h2⟩, h3⟩ := h
  rw [show (((p + 348).toNat : Nat) : Int) - 348 = p by omega] at h3
  exact ⟨_, _, rfl, rfl, h1, h2, h3⟩
/-- What uscale gives at the least mantissa stays small. -/
def skewC (ue p : Int) : Bool :=
  let A := pmOf p
  let hi := (A + 2 ^ 64 - 1) / 2 ^ 64
  let lo := hi * 2 ^ 64 - A
  let s := (sOf ue p).toNat
  Nat.blt (usc ((4 * 2 ^ 52 - 1) * 2 ^ 9) hi lo s) (2 ^ 59) && Nat.blt (usc ((2 * 2 ^ 52 + 1) * 2 ^ 10) hi lo s) (2 ^ 59) && Nat.blt (usc (2 ^ 63) hi lo s) (2 ^ 59) && Nat.ble (2 ^ 127) A
def skewCI (i : Nat) : Bool := skewC ((i : Int) - 1073) (skP ((i : Int) - 1073))
set_option maxRecDepth 100000 in
theorem skewC_all : allB skewCI 2045 = true := by decide +kernel
theorem skewCs {ue : Int} (h0 : -1073 ≤ ue) (h1 : ue ≤ 971) : skewC ue (skP ue) = true := by
  have h := allB_at skewC_all (ue + 1073).toNat (by omega)
  unfold skewCI at h
  rwa [show (((ue + 1073).toNat : Nat) : Int) - 1073 = ue by omega] at h
/-- The tail, in natural numbers. -/
theorem tail_eq {m hi lo s mn mx odd umin umax umid : Nat} {p : Int}
    (h1 : strconv_uscale.f (mn : Int) (hi : Int) (lo : Int) (s : Int) = some (((umin : Nat) : Int), (hi : Int), (lo : Int), (s : Int)))
    (h2 : strconv_uscale.f (mx : Int) (hi : Int) (lo : Int) (s : Int) = some (((umax : Nat) : Int), (hi : Int), (lo : Int), (s : Int)))
    (h3 : strconv_uscale.f (m : Int) (hi : Int) (lo : Int) (s : Int) = some (((umid : Nat) : Int), (hi : Int), (lo : Int), (s : Int)))
    (b1 : umin < 2 ^ 62) (b2 : umax < 2 ^ 62) (b3 : umid < 2 ^ 62) (ho : odd ≤ 1) (hou : odd ≤ umax) (hp : -1000 ≤ p ∧ p ≤ 1000) :
    strconv_shortFloat.tail (m : Int) (hi : Int) (lo : Int) (s : Int) (mn : Int) (mx : Int) (odd : Int) p =
      some (((pick umin umax umid odd).1 : Int), if (pick umin umax umid odd).2 = true then 1 - p else -p) := by
  unfold strconv_shortFloat.tail strconv_unrounded_nudge.f strconv_unrounded_ceil.f strconv_unrounded_floor.f strconv_unrounded_round.f
  rw [h1, h2, h3]
  simp only [Option.bind_some]
  rw [wu (i := (odd : Int)) (by omega) (by omega), wu (i := (umin : Int) + odd) (by omega) (by omega), wu (i := (umin : Int) + odd + 3) (by omega) (by omega), wr (i := -(odd : Int)) (by omega) (by omega)]
  have e1 : IntKind.u64.wrap ((umax : Int) + IntKind.u64.wrap (-(odd : Int))) = ((umax - odd : Nat) : Int) := by rw [IntKind.wrap_u64, IntKind.wrap_u64]; omega
  rw [e1, wu (i := ((umax - odd : Nat) : Int) + 0) (by omega) (by omega), Int.tdiv_eq_ediv_of_nonneg (by omega)]
  have e2 : IntKind.u64.wrap ((((umax - odd : Nat) : Int) + 0) / 4 / 10) = (((umax - odd) / 4 / 10 : Nat) : Int) := by rw [IntKind.wrap_u64]; omega
  rw [e2]
  have e3 : IntKind.u64.wrap ((((umax - odd) / 4 / 10 : Nat) : Int) * 10) = (((umax - odd) / 4 / 10 * 10 : Nat) : Int) := by rw [IntKind.wrap_u64]; omega
  rw [e3, wr (i := p - 1) (by omega) (by omega), wr (i := -(p - 1)) (by omega) (by omega), wr (i := -p) (by omega) (by omega)]
  have e4 : Go.bits .and .u64 ((umid : Int) / 4) 1 = ((umid / 4 % 2 : Nat) : Int) := by
    have h := bits_mask .u64 64 (by decide) wraps_u64 1 (by decide) ((umid : Int) / 4) (by omega) (by omega)
    have e : (2 : Int) ^ 1 - 1 = 1 := by decide
    have e2 : (2 : Int) ^ 1 = 2 := by decide
    rw [e, e2] at h
    rw [h]; omega
  have e5 : IntKind.u64.wrap (IntKind.u64.wrap ((umid : Int) + 1) + Go.bits .and .u64 ((umid : Int) / 4) 1) / 4 = (((umid + 1 + umid / 4 % 2) / 4 : Nat) : Int) := by
    rw [e4, wu (i := (umid : Int) + 1) (by omega) (by omega), wu (by omega) (by omega)]; omega
  rw [e5]
  unfold pick
  by_cases c1 : (umin + odd + 3) / 4 ≤ (umax - odd) / 4 / 10 * 10
  · rw [if_pos (by omega)]
    simp only [if_pos c1]
    simp only [if_true]
    congr 2
    omega
  · rw [if_neg (by omega)]
    simp only [if_neg c1]
    by_cases c2 : (umin + odd + 3) / 4 < (umax - odd) / 4
    · rw [if_pos (by omega)]
      simp only [if_pos c2]
      rfl
    · rw [if_neg (by omega)]
      simp only [if_neg c2]
      congr 2
theorem ceil_ok {pn pd : Nat} (h : 0 < pd) : ∃ e, (pn + pd - 1) / pd * pd = pn + e ∧ e < pd := by
  have h1 := Nat.div_add_mod (pn + pd - 1) pd
  have h2 := Nat.mod_lt (pn + pd - 1) h
  rw [Nat.mul_comm] at h1
  exact ⟨(pn + pd - 1) / pd * pd - pn, by omega, by omega⟩
theorem unr_lt {a D B : Nat} (hD : 0 < D) (h : a < B * D) : unr a D ≤ B := by
  obtain ⟨q, r, h1, h2, h3⟩ := unr_cases (a := a) hD
  have h4 : q < B := by
    apply Nat.lt_of_mul_lt_mul_right (a := D)
    omega
  rcases h3 with ⟨_, h⟩ | ⟨_, h⟩ <;> rw [h] <;> omega
theorem hi_big {x hi lo A : Nat} (hA : hi * 2 ^ 64 = A + lo) (h : 2 ^ 127 ≤ A) (hx : 2 ≤ x) : 0 < x * hi / 18446744073709551616 := by
  have h1 : 2 ^ 63 ≤ hi := by omega
  have h2 : 2 * 2 ^ 63 ≤ x * hi := Nat.mul_le_mul hx h1
  omega
end Go.Proofs.YthbmfhkpkkgdnaaGreatDoor.U

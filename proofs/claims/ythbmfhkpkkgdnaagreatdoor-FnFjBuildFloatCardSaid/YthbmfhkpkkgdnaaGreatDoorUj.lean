/- shortFloat's answer, as a decimal, gives the float64's bits back. -/
import Derived.Test.YthbmfhkpkkgdnaaGreatDoorUk
import Derived.Test.YthbmfhkpkkgdnaaGreatDoorFb
namespace Go.Proofs.YthbmfhkpkkgdnaaGreatDoor.U
open Go.RowKit Go.Proofs.YthbmfhkpkkgdnaaGreatDoorW.PrintWords Go.Proofs.YthbmfhkpkkgdnaaGreatDoorW.PrintLast Go.Proofs.YthbmfhkpkkgdnaaGreatDoorW.PrintMore Go.Proofs.YthbmfhkpkkgdnaaGreatDoor.Q Go.Proofs.YthbmfhkpkkgdnaaGreatDoor.F
set_option linter.unusedVariables false
/-- The answer t (in units of 10^-p) lies within half a step of M * 2^ue. -/
def Within (M : Nat) (ue p : Int) (t : Nat) (low : Bool) : Prop :=
  0 < t ∧ 2 * t * dOf ue p + M % 2 ≤ (2 * M + 1) * uOf ue p ∧ (if low = true then (4 * M - 1) * uOf ue p ≤ 4 * t * dOf ue p else (2 * M - 1) * uOf ue p + M % 2 ≤ 2 * t * dOf ue p)
/-- Whether the step below is half as great. -/
def lowB (b : Nat) : Bool := decide (b % 4503599627370496 = 0 ∧ 9007199254740992 ≤ b)
section
variable {s : ByteArray} {q p : Int} {t : Nat}
theorem scale_eq {ue : Int} (hue : -1074 ≤ ue) (hp : D10 (bytesOf s) * 10 ^ q.toNat * 10 ^ p.toNat = t * 10 ^ (-q).toNat * 10 ^ (-p).toNat) :
    ∃ c C : Nat, 0 < c ∧ 0 < C ∧ YB s q * c = 2 * t * dOf ue p * C ∧ ∀ m : Nat, VB m (ue - 1) * XB q * c = m * uOf ue p * C := by
  refine ⟨2 ^ (-ue).toNat * 10 ^ p.toNat, 2 ^ 1074 * 10 ^ (-q).toNat, Nat.mul_pos (Nat.two_pow_pos _) (Nat.pow_pos (by decide)), Nat.mul_pos (Nat.pow_pos (by decide)) (Nat.pow_pos (by decide)), ?_, fun m => ?_⟩
  · unfold YB dOf
    obtain ⟨K, hK⟩ : ∃ K : Nat, K = 1074 := ⟨_, rfl⟩
    rw [kE_eq, ← hK, show (1075 : Nat) = K + 1 by omega, Nat.pow_succ]
    have e : D10 (bytesOf s) * 10 ^ q.toNat * (2 ^ K * 2) * (2 ^ (-ue).toNat * 10 ^ p.toNat) = (D10 (bytesOf s) * 10 ^ q.toNat * 10 ^ p.toNat) * (2 ^ K * 2 * 2 ^ (-ue).toNat) := by
      simp only [Nat.mul_comm, Nat.mul_left_comm, Nat.mul_assoc]
    rw [e, hp]
    simp only [Nat.mul_comm, Nat.mul_left_comm, Nat.mul_assoc]
  · unfold VB XB uOf
    obtain ⟨K, hK⟩ : ∃ K : Nat, K = 1074 := ⟨_, rfl⟩
    rw [← hK]
    have e1 : 2 ^ (ue - 1 + 1075).toNat * 2 ^ (-ue).toNat = 2 ^ ue.toNat * 2 ^ K := by rw [← Nat.pow_add, ← Nat.pow_add]; congr 1; omega
    have e2 : m * 2 ^ (ue - 1 + 1075).toNat * 10 ^ (-q).toNat * (2 ^ (-ue).toNat * 10 ^ p.toNat) = m * (2 ^ (ue - 1 + 1075).toNat * 2 ^ (-ue).toNat) * (10 ^ (-q).toNat * 10 ^ p.toNat) := by
      simp only [Nat.mul_comm, Nat.mul_left_comm, Nat.mul_assoc]
    rw [e2, e1]
    simp only [Nat.mul_comm, Nat.mul_left_comm, Nat.mul_assoc]
theorem back_ev {b : Nat} (neg : Bool) (hq : -2000 ≤ q ∧ q ≤ 2000) (hs : s.size ≤ 1000) (hd : ∀ q : Int, 0 ≤ q → q < s.size → 48 ≤ bt s q ∧ bt s q ≤ 57) (h0 : 0 < b) (hb : b < 9218868437227405312)
    (hp : D10 (bytesOf s) * 10 ^ q.toNat * 10 ^ p.toNat = t * 10 ^ (-q).toNat * 10 ^ (-p).toNat) (hw : Within (mB b) (eB b) p t (lowB b)) : Ev (fun k => spec_nearest.f k neg s q) (b : Int) := by
  have hmb := mB_lt hb
  obtain ⟨c, C, hc, hC, h1, h2⟩ := scale_eq (ue := eB b) hmb.2.1 hp
  obtain ⟨ht, hup, hlow⟩ := hw
  refine nearest_ev hq hs hd h0 hb ?_ ?_
  · -- below
    have hn := next_B (b := b - 1) (by omega)
    rw [show b - 1 + 1 = b by omega] at hn
    have hm1 := mB_lt (b := b - 1) (by omega)
    rcases hn with ⟨g1, g2⟩ | ⟨g1, g2, g3⟩
    · have hlb : lowB b = false := by
        unfold lowB
        rw [decide_eq_false_iff_not]
        rintro ⟨g3, g4⟩
        unfold mB at g1
        rw [if_neg (by omega)] at g1
        split at g1 <;> omega
      rw [hlb, if_neg (by simp)] at hlow
      rw [← g2, show 2 * mB (b - 1) + 1 = 2 * mB b - 1 by omega]
      have h3 := h2 (2 * mB b - 1)
      have h4 := Nat.mul_le_mul_right C hlow
      rw [Nat.add_mul] at h4
      split
      · rename_i ho
        have e1 : mB b % 2 = 1 := by omega
        rw [e1, Nat.one_mul] at h4
        refine Nat.lt_of_mul_lt_mul_right (a := c) ?_
        rw [h3, h1]; omega
      · refine Nat.le_of_mul_le_mul_right (c := c) ?_ hc
        rw [Nat.add_zero, h3, h1]; omega
    · have hlb : lowB b = true := by
        unfold lowB
        rw [decide_eq_true_eq]
        unfold mB at g1 g2
        split at g1
        · omega
        · rw [if_neg (by omega)] at g2
          omega
      rw [hlb, if_pos rfl] at hlow
      rw [if_neg (by omega), Nat.add_zero, show 2 * mB (b - 1) + 1 = 4 * mB b - 1 by omega, show eB (b - 1) - 1 = eB b - 1 - 1 by omega]
      have h3 := h2 (4 * mB b - 1)
      have h4 := Nat.mul_le_mul_right C hlow
      have h5 : 2 * VB (4 * mB b - 1) (eB b - 1 - 1) = VB (4 * mB b - 1) (eB b - 1) := by
        unfold VB
        rw [show (eB b - 1 + 1075).toNat = (eB b - 1 - 1 + 1075).toNat + 1 by omega, Nat.pow_succ, Nat.mul_left_comm, Nat.mul_comm 2]
      refine Nat.le_of_mul_le_mul_right (c := 2 * c) ?_ (by omega)
      have e1 : VB (4 * mB b - 1) (eB b - 1 - 1) * XB q * (2 * c) = 2 * VB (4 * mB b - 1) (eB b - 1 - 1) * XB q * c := by
        simp only [Nat.mul_comm, Nat.mul_left_comm, Nat.mul_assoc]
      have e2 : YB s q * (2 * c) = 2 * (YB s q * c) := Nat.mul_left_comm ..
      have e3 : 4 * t * dOf (eB b) p * C = 2 * (2 * t * dOf (eB b) p * C) := by
        rw [show 4 * t = 2 * (2 * t) by omega, Nat.mul_assoc 2, Nat.mul_assoc 2]
      rw [e1, e2, h5, h3, h1]
      rw [e3] at h4
      exact h4
  · have h3 := h2 (2 * mB b + 1)
    have h4 := Nat.mul_le_mul_right C hup
    rw [Nat.add_mul] at h4
    split
    · rename_i ho
      rw [ho, Nat.one_mul] at h4
      refine Nat.lt_of_mul_lt_mul_right (a := c) ?_
      rw [h3, h1]; omega
    · refine Nat.le_of_mul_le_mul_right (c := c) ?_ hc
      rw [Nat.add_zero, h3, h1]; omega
end
end Go.Proofs.YthbmfhkpkkgdnaaGreatDoor.U

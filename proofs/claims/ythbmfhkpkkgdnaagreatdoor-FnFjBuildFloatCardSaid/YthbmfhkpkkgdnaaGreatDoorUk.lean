/- The reference's nearest in plain words: a decimal within half a step of a float64 gives that float64's bits. -/
import Derived.Test.YthbmfhkpkkgdnaaGreatDoorUl
import Derived.Laws.BitsLemmas
namespace Go.Proofs.YthbmfhkpkkgdnaaGreatDoor.U
open Go.RowKit Go.Proofs.YthbmfhkpkkgdnaaGreatDoorW.PrintWords Go.Proofs.YthbmfhkpkkgdnaaGreatDoorW.PrintLast Go.Proofs.YthbmfhkpkkgdnaaGreatDoorW.PrintMore Go.Proofs.YthbmfhkpkkgdnaaGreatDoor.Q
set_option linter.unusedVariables false
theorem wraps_u64 (n : Int) (h0 : 0 ≤ n) (h1 : n < 2 ^ 64) : IntKind.u64.wrap n = n := wu h0 (by omega)
/-- Mantissa and exponent of bits. -/
def mB (b : Nat) : Nat := if b / 4503599627370496 = 0 then b else b % 4503599627370496 + 4503599627370496
def eB (b : Nat) : Int := if b / 4503599627370496 = 0 then -1074 else ((b / 4503599627370496 : Nat) : Int) - 1075
theorem and_mask (a : Nat) (ha : a < 18446744073709551616) : Go.bits .and .u64 (a : Int) 4503599627370495 = ((a % 4503599627370496 : Nat) : Int) := by
  have h := bits_mask .u64 64 (by decide) wraps_u64 52 (by decide) (a : Int) (by omega) (by omega)
  have e : (2 : Int) ^ 52 - 1 = 4503599627370495 := by decide
  have e2 : (2 : Int) ^ 52 = 4503599627370496 := by decide
  rw [e, e2] at h
  rw [h]; omega
theorem or_top (a : Nat) (ha : a < 4503599627370496) : Go.bits .or .u64 (a : Int) 4503599627370496 = ((a + 4503599627370496 : Nat) : Int) := by
  have h := (bits_nat .u64 64 (by decide) wraps_u64 a 4503599627370496 (by omega) (by decide)).2
  have h2 := Nat.two_pow_add_eq_or_of_lt (i := 52) (b := a) (by omega) 1
  have e : 2 ^ 52 * 1 = 4503599627370496 := by decide
  rw [e] at h2
  have h3 : Go.bits .or .u64 (a : Int) 4503599627370496 = ((a ||| 4503599627370496 : Nat) : Int) := h
  rw [h3, Nat.or_comm, ← h2, Nat.add_comm]
theorem binary_eq {b : Nat} (hb : b < 9218868437227405312) : spec_binary.f (b : Int) = some ((mB b : Int), eB b) := by
  unfold spec_binary.f mB eB
  have e : (b : Int) / 4503599627370496 = ((b / 4503599627370496 : Nat) : Int) := by omega
  rw [e, wr (by omega) (by omega)]
  by_cases c : b / 4503599627370496 = 0
  · rw [if_pos (by omega), if_pos c, if_pos c, and_mask b (by omega), Nat.mod_eq_of_lt (by omega)]
  · rw [if_neg (by omega), if_neg c, if_neg c, and_mask b (by omega), or_top _ (by omega), wr (by omega) (by omega)]
theorem mB_lt {b : Nat} (hb : b < 9218868437227405312) : mB b < 9007199254740992 ∧ -1074 ≤ eB b ∧ eB b ≤ 971 := by
  unfold mB eB
  split <;> omega
/-- The next one. -/
theorem next_B {b : Nat} (hb : b + 1 < 9218868437227405312) : (mB (b + 1) = mB b + 1 ∧ eB (b + 1) = eB b) ∨ (mB b = 9007199254740991 ∧ mB (b + 1) = 4503599627370496 ∧ eB (b + 1) = eB b + 1) := by
  unfold mB eB
  by_cases c : b / 4503599627370496 = 0
  · by_cases c2 : (b + 1) / 4503599627370496 = 0
    · rw [if_pos c, if_pos c2, if_pos c, if_pos c2]; omega
    · rw [if_pos c, if_neg c2, if_pos c, if_neg c2]; omega
  · have c2 : ¬ (b + 1) / 4503599627370496 = 0 := by omega
    rw [if_neg c, if_neg c2, if_neg c, if_neg c2]
    by_cases c3 : b % 4503599627370496 = 4503599627370495 <;> omega
/-- In units of 2^-1075. -/
def VB (m : Nat) (e : Int) : Nat := m * 2 ^ (e + 1075).toNat
theorem VB_next {b : Nat} (hb : b + 1 < 9218868437227405312) : VB (mB (b + 1)) (eB (b + 1)) = VB (mB b + 1) (eB b) := by
  have h1 := mB_lt (b := b) (by omega)
  unfold VB
  rcases next_B hb with ⟨h2, h3⟩ | ⟨h2, h3, h4⟩
  · rw [h2, h3]
  · rw [h2, h3, h4, show (eB b + 1 + 1075).toNat = (eB b + 1075).toNat + 1 by omega, Nat.pow_succ, Nat.mul_comm (2 ^ _) 2, ← Nat.mul_assoc]
theorem VB_lt {m n : Nat} (e : Int) (h : m < n) : VB m e < VB n e := Nat.mul_lt_mul_of_pos_right h (Nat.two_pow_pos _)
theorem VB_mono {b c : Nat} (h : b ≤ c) (hc : c < 9218868437227405312) : VB (mB b) (eB b) ≤ VB (mB c) (eB c) := by
  induction c with
  | zero => rw [show b = 0 by omega]; exact Nat.le_refl _
  | succ c ih =>
    by_cases hbc : b = c + 1
    · rw [hbc]; exact Nat.le_refl _
    · have h1 := ih (by omega) (by omega)
      have h2 := VB_next hc
      have h3 := VB_lt (eB c) (show mB c < mB c + 1 by omega)
      omega
section
variable {s : ByteArray} {q : Int} {neg : Bool} (hq : -2000 ≤ q ∧ q ≤ 2000) (hs : s.size ≤ 1000) (hd : ∀ q : Int, 0 ≤ q → q < s.size → 48 ≤ bt s q ∧ bt s q ≤ 57)
def XB (q : Int) : Nat := 10 ^ (-q).toNat
@[irreducible] def kE : Nat := 1075
theorem kE_eq : kE = 1075 := by unfold kE; rfl
def YB (s : ByteArray) (q : Int) : Nat := D10 (bytesOf s) * 10 ^ q.toNat * 2 ^ kE
include hq hs hd
/-- scaled, in units of 2^-1075. -/
theorem scaled_VB {m : Nat} {e : Int} (hm : m < 18446744073709551616) (he : -1075 ≤ e ∧ e ≤ 1000) :
    ∃ r, Ev (fun k => spec_scaled.f k (m : Int) e neg s q) r ∧ Says r (VB m e * XB q) (YB s q) := by
  obtain ⟨r, h1, h2⟩ := scaled_ev (m := (m : Int)) (e := e) (q := q) (s := s) neg (by omega) (by omega) hq hs hd
  refine ⟨r, h1, ?_⟩
  rw [Int.toNat_natCast] at h2
  obtain ⟨A, hA⟩ : ∃ A, A = m * 2 ^ e.toNat * 10 ^ (-q).toNat := ⟨_, rfl⟩
  obtain ⟨B, hB⟩ : ∃ B, B = D10 (bytesOf s) * 2 ^ (-e).toNat * 10 ^ q.toNat := ⟨_, rfl⟩
  rw [← hA, ← hB] at h2
  obtain ⟨P, hP⟩ : ∃ P, P = 2 ^ (-e).toNat := ⟨_, rfl⟩
  have hP0 : 0 < P := by rw [hP]; exact Nat.two_pow_pos _
  obtain ⟨K, hK⟩ : ∃ K : Nat, K = 2 ^ kE := ⟨_, rfl⟩
  have hK0 : 0 < K := hK ▸ Nat.two_pow_pos kE
  have e1 : A * K = P * (VB m e * XB q) := by
    have : 2 ^ e.toNat * K = P * 2 ^ (e + 1075).toNat := by rw [hK, hP, ← Nat.pow_add, ← Nat.pow_add]; congr 1; rw [kE_eq]; omega
    rw [hA]; unfold VB XB
    rw [Nat.mul_right_comm, Nat.mul_assoc m, this, Nat.mul_left_comm, Nat.mul_assoc]
  have e2 : B * K = P * YB s q := by
    rw [hB, ← hP]; unfold YB
    rw [← hK]
    simp only [Nat.mul_comm, Nat.mul_left_comm]
  have h3 : A < B ↔ VB m e * XB q < YB s q := by
    rw [← Nat.mul_lt_mul_right (a := K) hK0, e1, e2, Nat.mul_lt_mul_left hP0]
  have h4 : A = B ↔ VB m e * XB q = YB s q := by
    constructor
    · intro h
      have : P * (VB m e * XB q) = P * YB s q := by rw [← e1, ← e2, h]
      exact Nat.eq_of_mul_eq_mul_left hP0 this
    · intro h
      have : A * K = B * K := by rw [e1, e2, h]
      exact Nat.eq_of_mul_eq_mul_right hK0 this
  unfold Says at h2 ⊢
  rw [← h3, ← h4]; exact h2
/-- The search. -/
theorem search_ev {b : Nat} (hb : b < 9218868437227405312) (hlow : VB (mB b) (eB b) * XB q ≤ YB s q) (hup : YB s q < VB (mB b + 1) (eB b) * XB q) {R : Int}
    (hR : Ev (fun k => spec_nearest.l0 k (b : Int) ((b + 1 : Nat) : Int) neg s q) R) (d : Nat) : ∀ lo hi : Nat, hi - lo = d → lo ≤ b → b < hi → hi ≤ 9218868437227405312 →
    Ev (fun k => spec_nearest.l0 k (lo : Int) (hi : Int) neg s q) R := by
  induction d using Nat.strongRecOn with
  | _ d ih =>
    intro lo hi hdd hlo hhi hh
    by_cases c : hi - lo > 1
    · obtain ⟨mid, hmid⟩ : ∃ mid, mid = lo + (hi - lo) / 2 := ⟨_, rfl⟩
      have hmb := mB_lt (b := mid) (by omega)
      obtain ⟨r, h1, h2⟩ := scaled_VB (neg := neg) hq hs hd (m := mB mid) (e := eB mid) (by omega) (by omega)
      have em : IntKind.u64.wrap ((lo : Int) + IntKind.u64.wrap (Int.tdiv (IntKind.u64.wrap ((hi : Int) - (lo : Int))) 2)) = (mid : Int) := by
        rw [wu (i := (hi : Int) - lo) (by omega) (by omega), Int.tdiv_eq_ediv_of_nonneg (by omega), wu (i := ((hi : Int) - lo) / 2) (by omega) (by omega), wu (by omega) (by omega)]
        omega
      have hgo : ∀ lo2 hi2 : Nat, (if r ≤ 0 then lo2 = mid ∧ hi2 = hi else lo2 = lo ∧ hi2 = mid) → Ev (fun k => spec_nearest.l0 k (lo2 : Int) (hi2 : Int) neg s q) R → Ev (fun k => spec_nearest.l0 k (lo : Int) (hi : Int) neg s q) R := by
        intro lo2 hi2 hr hE
        refine Ev.step (f := fun k => (spec_scaled.f k (mB mid : Int) (eB mid) neg s q).bind fun t => if t ≤ 0 then spec_nearest.l0 k (mid : Int) (hi : Int) neg s q else spec_nearest.l0 k (lo : Int) (mid : Int) neg s q) (fun k => ?_) (Ev.bind h1 (Ev.congr (fun k => ?_) hE))
        · simp only [spec_nearest.l0]
          rw [if_pos (by rw [wu (by omega) (by omega)]; omega), em, binary_eq (by omega), Option.bind_some]
        · by_cases c2 : r ≤ 0
          · rw [if_pos c2] at hr ⊢; rw [hr.1, hr.2]
          · rw [if_neg c2] at hr ⊢; rw [hr.1, hr.2]
      have hX : 0 < XB q := Nat.pow_pos (by decide)
      by_cases c2 : r ≤ 0
      · have h3 : VB (mB mid) (eB mid) * XB q ≤ YB s q := by unfold Says at h2; omega
        have h4 : mid ≤ b := by
          apply Nat.le_of_not_lt
          intro h5
          have h6 := VB_mono (b := b + 1) (c := mid) (by omega) (by omega)
          rw [VB_next (by omega)] at h6
          have h7 := Nat.mul_le_mul_right (XB q) h6
          omega
        exact hgo mid hi (by rw [if_pos c2]; exact ⟨rfl, rfl⟩) (ih (hi - mid) (by omega) mid hi rfl h4 hhi hh)
      · have h3 : YB s q < VB (mB mid) (eB mid) * XB q := by unfold Says at h2; omega
        have h4 : b < mid := by
          apply Nat.lt_of_not_le
          intro h5
          have h6 := VB_mono (b := mid) (c := b) h5 hb
          have h7 := Nat.mul_le_mul_right (XB q) h6
          omega
        exact hgo lo mid (by rw [if_neg c2]; exact ⟨rfl, rfl⟩) (ih (mid - lo) (by omega) lo mid rfl hlo h4 (by omega))
    · have : lo = b ∧ hi = b + 1 := by omega
      rw [this.1, this.2]; exact hR
/-- The search's end: the half step decides. -/
theorem end_ev {b : Nat} (hb : b < 9218868437227405312) : ∃ r : Int, Says r (VB (2 * mB b + 1) (eB b - 1) * XB q) (YB s q) ∧
    Ev (fun k => spec_nearest.l0 k (b : Int) ((b + 1 : Nat) : Int) neg s q) (if r < 0 ∨ (r = 0 ∧ mB b % 2 = 1) then ((b + 1 : Nat) : Int) else (b : Int)) := by
  have hmb := mB_lt hb
  obtain ⟨r, h1, h2⟩ := scaled_VB (neg := neg) hq hs hd (m := 2 * mB b + 1) (e := eB b - 1) (by omega) (by omega)
  refine ⟨r, h2, ?_⟩
  refine Ev.step (f := fun k => (spec_scaled.f k ((2 * mB b + 1 : Nat) : Int) (eB b - 1) neg s q).bind fun t => if t < 0 then some (IntKind.u64.wrap ((b : Int) + 1)) else if t = 0 then (if Int.tmod (mB b : Int) 2 = 1 then some (IntKind.u64.wrap ((b : Int) + 1)) else some (b : Int)) else some (b : Int)) (fun k => ?_) (Ev.bind h1 (Ev.congr (fun k => ?_) (Ev.now _)))
  · simp only [spec_nearest.l0]
    rw [if_neg (by rw [wu (by omega) (by omega)]; omega), binary_eq hb, Option.bind_some]
    dsimp only
    rw [wu (i := 2 * (mB b : Int)) (by omega) (by omega), wu (i := 2 * (mB b : Int) + 1) (by omega) (by omega), wr (by omega) (by omega)]
    rfl
  · have e1 : Int.tmod (mB b : Int) 2 = ((mB b % 2 : Nat) : Int) := by rw [Int.tmod_eq_emod_of_nonneg (by omega)]; omega
    rw [wu (by omega) (by omega), e1]
    by_cases c : r < 0
    · rw [if_pos c, if_pos (.inl c)]; rfl
    · rw [if_neg c]
      by_cases c2 : r = 0
      · rw [if_pos c2]
        by_cases c3 : mB b % 2 = 1
        · rw [if_pos (by omega), if_pos (.inr ⟨c2, c3⟩)]; rfl
        · rw [if_neg (by omega), if_neg (by omega)]
      · rw [if_neg c2, if_neg (by omega)]
/-- Within half a step above and below: the bits come back. -/
theorem nearest_ev {b : Nat} (h0 : 0 < b) (hb : b < 9218868437227405312)
    (hlow : VB (2 * mB (b - 1) + 1) (eB (b - 1) - 1) * XB q + (if mB (b - 1) % 2 = 0 then 1 else 0) ≤ YB s q)
    (hup : YB s q + (if mB b % 2 = 1 then 1 else 0) ≤ VB (2 * mB b + 1) (eB b - 1) * XB q) :
    Ev (fun k => spec_nearest.f k neg s q) (b : Int) := by
  have hX : 0 < XB q := Nat.pow_pos (by decide)
  obtain ⟨c, rfl⟩ : ∃ c, b = c + 1 := ⟨b - 1, by omega⟩
  rw [Nat.add_sub_cancel] at hlow
  have hdbl : ∀ (m : Nat) (e : Int), -1074 ≤ e → VB (2 * m) (e - 1) = VB m e := fun m e he => by
    unfold VB
    rw [show (e + 1075).toNat = (e - 1 + 1075).toNat + 1 by omega, Nat.pow_succ, Nat.mul_comm (2 ^ _) 2, ← Nat.mul_assoc, Nat.mul_comm m 2]
  have hmb := mB_lt hb
  have hmc := mB_lt (b := c) (by omega)
  have hnx := VB_next (b := c) hb
  have hfin : ∀ {R : Int} (b' : Nat), b' < 9218868437227405312 → VB (mB b') (eB b') * XB q ≤ YB s q → YB s q < VB (mB b' + 1) (eB b') * XB q → Ev (fun k => spec_nearest.l0 k (b' : Int) ((b' + 1 : Nat) : Int) neg s q) R → Ev (fun k => spec_nearest.f k neg s q) R := by
    intro R b' hb' h1 h2 h3
    exact search_ev hq hs hd hb' h1 h2 h3 _ 0 9218868437227405312 rfl (by omega) hb' (Nat.le_refl _)
  by_cases hc : VB (mB (c + 1)) (eB (c + 1)) * XB q ≤ YB s q
  · -- the greatest that is not above is the float itself
    obtain ⟨r, h1, h2⟩ := end_ev (neg := neg) hq hs hd hb
    have h3 : YB s q < VB (mB (c + 1) + 1) (eB (c + 1)) * XB q := by
      have h4 := Nat.mul_lt_mul_of_pos_right (VB_lt (eB (c + 1) - 1) (show 2 * mB (c + 1) + 1 < 2 * (mB (c + 1) + 1) by omega)) hX
      rw [hdbl _ _ hmb.2.1] at h4
      omega
    have h5 := hfin (c + 1) hb hc h3 h2
    rw [if_neg (by unfold Says at h1; split at hup <;> omega)] at h5
    exact h5
  · obtain ⟨r, h1, h2⟩ := end_ev (neg := neg) hq hs hd (b := c) (by omega)
    have h3 : VB (mB c) (eB c) * XB q ≤ YB s q := by
      have h4 := Nat.mul_lt_mul_of_pos_right (VB_lt (eB c - 1) (show 2 * mB c < 2 * mB c + 1 by omega)) hX
      rw [hdbl _ _ hmc.2.1] at h4
      omega
    have h5 := hfin c (by omega) h3 (by rw [← hnx]; omega) h2
    rw [if_pos (by unfold Says at h1; split at hlow <;> omega)] at h5
    exact h5
end
end Go.Proofs.YthbmfhkpkkgdnaaGreatDoor.U

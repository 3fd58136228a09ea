/- What shortFloat picks lies within half a step of the float64; the constants of all exponents, checked by the kernel. In plain Lean. -/
import Derived.Test.YthbmfhkpkkgdnaaGreatDoorFa
namespace Go.Proofs.YthbmfhkpkkgdnaaGreatDoor.F
set_option linter.unusedVariables false
theorem or_one (q : Nat) : q ||| 1 = 2 * (q / 2) + 1 := by
  have h := Nat.two_pow_add_eq_or_of_lt (i := 1) (b := 1) (by decide) (q / 2)
  rw [Nat.pow_one] at h
  rcases Nat.mod_two_eq_zero_or_one q with h0 | h0
  · have e : q = 2 * (q / 2) := by omega
    conv => lhs; rw [e]
    exact h.symm
  · have e : q = 2 * (q / 2) + 1 := by omega
    conv => lhs; rw [e, h, Nat.or_assoc, Nat.or_self, ← h]
section
variable {a D : Nat} (hD : 0 < D)
include hD
theorem unr_cases : ∃ q r, a = q * D + r ∧ r < D ∧ ((r = 0 ∧ unr a D = q) ∨ (r ≠ 0 ∧ unr a D = 2 * (q / 2) + 1)) := by
  refine ⟨a / D, a % D, by rw [Nat.mul_comm]; exact (Nat.div_add_mod ..).symm, Nat.mod_lt _ hD, ?_⟩
  unfold unr
  by_cases h : a % D = 0
  · left; rw [if_pos h, Nat.or_zero]; exact ⟨h, rfl⟩
  · right; rw [if_neg h, or_one]; exact ⟨h, rfl⟩
/-- Four times a whole number n, against a / D. -/
theorem quad {q r n : Nat} (hr : r < D) : (q * D + r ≤ n * (4 * D) ↔ (q < 4 * n ∨ (q = 4 * n ∧ r = 0))) ∧ (q * D + r < n * (4 * D) ↔ q < 4 * n) := by
  have e : n * (4 * D) = 4 * n * D := by rw [Nat.mul_left_comm, Nat.mul_assoc]
  rw [e]
  have h1 : q < 4 * n → q * D + D ≤ 4 * n * D := fun h => by
    have := Nat.mul_le_mul_right D (show q + 1 ≤ 4 * n by omega)
    rw [Nat.add_mul, Nat.one_mul] at this; exact this
  have h2 : 4 * n ≤ q → 4 * n * D ≤ q * D := fun h => Nat.mul_le_mul_right D h
  have h3 : 4 * n < q → 4 * n * D + D ≤ q * D := fun h => by
    have := Nat.mul_le_mul_right D (show 4 * n + 1 ≤ q by omega)
    rw [Nat.add_mul, Nat.one_mul] at this; exact this
  have h4 : q = 4 * n → q * D = 4 * n * D := fun h => by rw [h]
  constructor
  · constructor
    · intro h
      by_cases c : q < 4 * n
      · exact .inl c
      · by_cases c2 : q = 4 * n
        · have := h4 c2; exact .inr ⟨c2, by omega⟩
        · have := h3 (by omega); omega
    · rintro (h | ⟨h, h0⟩)
      · have := h1 h; omega
      · have := h4 h; omega
  · constructor
    · intro h
      by_cases c : q < 4 * n
      · exact c
      · have := h2 (by omega); omega
    · intro h
      have := h1 h; omega
theorem unr_ceil (n : Nat) : (unr a D + 3) / 4 ≤ n ↔ a ≤ n * (4 * D) := by
  obtain ⟨q, r, e, hr, h⟩ := unr_cases (a := a) hD
  have := (quad (n := n) (q := q) hD hr).1
  rw [e] at h ⊢
  rw [this]
  rcases h with ⟨h0, h⟩ | ⟨h0, h⟩ <;> rw [h] <;> omega
theorem unr_ceil1 (n : Nat) : (unr a D + 1 + 3) / 4 ≤ n ↔ a < n * (4 * D) := by
  obtain ⟨q, r, e, hr, h⟩ := unr_cases (a := a) hD
  have := (quad (n := n) (q := q) hD hr).2
  rw [e] at h ⊢
  rw [this]
  rcases h with ⟨h0, h⟩ | ⟨h0, h⟩ <;> rw [h] <;> omega
theorem unr_floor (n : Nat) : n ≤ unr a D / 4 ↔ n * (4 * D) ≤ a := by
  obtain ⟨q, r, e, hr, h⟩ := unr_cases (a := a) hD
  have := (quad (n := n) (q := q) hD hr).2
  rw [e] at h ⊢
  rw [← Nat.not_lt (b := n * (4 * D)), this]
  rcases h with ⟨h0, h⟩ | ⟨h0, h⟩ <;> rw [h] <;> omega
theorem unr_pos (ha : 0 < a) : 0 < unr a D := by
  obtain ⟨q, r, e, hr, h⟩ := unr_cases (a := a) hD
  rcases h with ⟨h0, h⟩ | ⟨h0, h⟩ <;> rw [h]
  · apply Nat.pos_of_ne_zero; rintro rfl; rw [h0, Nat.zero_mul] at e; omega
  · omega
theorem unr_floor1 (ha : 0 < a) (n : Nat) (hn : 0 < n) : n ≤ (unr a D - 1) / 4 ↔ n * (4 * D) < a := by
  have hp := unr_pos hD ha
  obtain ⟨q, r, e, hr, h⟩ := unr_cases (a := a) hD
  have := (quad (n := n) (q := q) hD hr).1
  rw [e] at h hp ⊢
  rw [← Nat.not_le (a := q * D + r), this]
  rcases h with ⟨h0, h⟩ | ⟨h0, h⟩ <;> rw [h] at hp ⊢ <;> omega
/-- Rounded: at most half away. -/
theorem unr_round : (unr a D + 1 + unr a D / 4 % 2) / 4 * (8 * D) ≤ 2 * a + 4 * D ∧ 2 * a ≤ (unr a D + 1 + unr a D / 4 % 2) / 4 * (8 * D) + 4 * D ∧ (a % (4 * D) = 0 → (unr a D + 1 + unr a D / 4 % 2) / 4 * (4 * D) = a) := by
  obtain ⟨q, r, e, hr, h⟩ := unr_cases (a := a) hD
  have hn : ∀ n j : Nat, q = 4 * n + j → q * D = n * (4 * D) + j * D := fun n j h => by rw [h, Nat.add_mul]; congr 1; rw [Nat.mul_left_comm, Nat.mul_assoc]
  obtain ⟨n, j, hj, hq⟩ : ∃ n j, j < 4 ∧ q = 4 * n + j := ⟨q / 4, q % 4, Nat.mod_lt _ (by decide), by omega⟩
  have hqD := hn n j hq
  obtain ⟨Z, hZ⟩ : ∃ Z, Z = n * (4 * D) := ⟨_, rfl⟩
  have h8 : ∀ m : Nat, m * (8 * D) = 2 * (m * (4 * D)) := fun m => by rw [show 8 * D = 2 * (4 * D) by omega, Nat.mul_left_comm]
  have hs : (n + 1) * (4 * D) = Z + 4 * D := by rw [Nat.add_mul, Nat.one_mul, hZ]
  rw [← hZ] at hqD
  have key : ((unr a D + 1 + unr a D / 4 % 2) / 4 = n ∧ (j * D + r) ≤ 2 * D) ∨ ((unr a D + 1 + unr a D / 4 % 2) / 4 = n + 1 ∧ 2 * D ≤ j * D + r) := by
    have : j = 0 ∨ j = 1 ∨ j = 2 ∨ j = 3 := by omega
    rcases h with ⟨h0, h⟩ | ⟨h0, h⟩ <;> rw [h] <;> rcases this with rfl | rfl | rfl | rfl <;> omega
  have hjD : j * D + r < 4 * D := by
    have := Nat.mul_le_mul_right D (show j ≤ 3 by omega); omega
  refine ⟨?_, ?_, fun h0 => ?_⟩
  · rcases key with ⟨k1, k2⟩ | ⟨k1, k2⟩ <;> rw [k1, h8] <;> (try rw [hs]) <;> omega
  · rcases key with ⟨k1, k2⟩ | ⟨k1, k2⟩ <;> rw [k1, h8] <;> (try rw [hs]) <;> omega
  · have hjr : j * D + r = 0 := by
      have h1 : a = Z + (j * D + r) := by omega
      have h2 : j * D + r < 4 * D := by
        have := Nat.mul_le_mul_right D (show j ≤ 3 by omega); omega
      rw [h1, hZ, Nat.mul_comm n, Nat.mul_add_mod, Nat.mod_eq_of_lt h2] at h0
      exact h0
    rcases key with ⟨k1, k2⟩ | ⟨k1, k2⟩ <;> rw [k1]
    · omega
    · omega
end
/-- shortFloat's answer, in units of 10^-p: from what uscale gave for the ends and the middle. -/
def pick (umin umax umid odd : Nat) : Nat × Bool :=
  let dmin := (umin + odd + 3) / 4
  let dmax := (umax - odd) / 4
  if dmin ≤ dmax / 10 * 10 then (dmax / 10, true)
  else if dmin < dmax then ((umid + 1 + umid / 4 % 2) / 4, false) else (dmin, false)
def pickT (r : Nat × Bool) : Nat := if r.2 = true then r.1 * 10 else r.1
theorem pick_ok {M U D odd : Nat} (hD : 0 < D) (hDU : D ≤ U) (hM : 0 < M) (ho : odd = M % 2) :
    let t := pickT (pick (unr ((2 * M - 1) * (2 * U)) D) (unr ((2 * M + 1) * (2 * U)) D) (unr (2 * M * (2 * U)) D) odd)
    0 < t ∧ (2 * M - 1) * U + odd ≤ 2 * t * D ∧ 2 * t * D + odd ≤ (2 * M + 1) * U := by
  intro t
  have hU : 0 < U := by omega
  have hodd : odd = 0 ∨ odd = 1 := by omega
  have hmin0 : 0 < (2 * M - 1) * (2 * U) := Nat.mul_pos (by omega) (by omega)
  have hmax0 : 0 < (2 * M + 1) * (2 * U) := Nat.mul_pos (by omega) (by omega)
  obtain ⟨umin, hu1⟩ : ∃ u, u = unr ((2 * M - 1) * (2 * U)) D := ⟨_, rfl⟩
  obtain ⟨umax, hu2⟩ : ∃ u, u = unr ((2 * M + 1) * (2 * U)) D := ⟨_, rfl⟩
  obtain ⟨umid, hu3⟩ : ∃ u, u = unr (2 * M * (2 * U)) D := ⟨_, rfl⟩
  have e2 : ∀ y n : Nat, y * (2 * U) = 2 * (y * U) ∧ n * (4 * D) = 2 * (2 * n * D) := fun y n => ⟨by rw [Nat.mul_left_comm], by rw [show 4 * D = 2 * (2 * D) by omega, Nat.mul_left_comm, Nat.mul_left_comm n, Nat.mul_assoc]⟩
  -- below: n is at least the least whole number of the interval
  have hlow : ∀ n, (umin + odd + 3) / 4 ≤ n ↔ (2 * M - 1) * U + odd ≤ 2 * n * D := fun n => by
    rcases hodd with h | h
    · have := unr_ceil (a := (2 * M - 1) * (2 * U)) hD n
      rw [← hu1, (e2 (2 * M - 1) n).1, (e2 (2 * M - 1) n).2] at this
      rw [h, Nat.add_zero, this]; omega
    · have := unr_ceil1 (a := (2 * M - 1) * (2 * U)) hD n
      rw [← hu1, (e2 (2 * M - 1) n).1, (e2 (2 * M - 1) n).2] at this
      rw [h, this]; omega
  have hhigh : ∀ n, 0 < n → (n ≤ (umax - odd) / 4 ↔ 2 * n * D + odd ≤ (2 * M + 1) * U) := fun n hn => by
    rcases hodd with h | h
    · have := unr_floor (a := (2 * M + 1) * (2 * U)) hD n
      rw [← hu2, (e2 (2 * M + 1) n).1, (e2 (2 * M + 1) n).2] at this
      rw [h, Nat.sub_zero, this]; omega
    · have := unr_floor1 (a := (2 * M + 1) * (2 * U)) hD hmax0 n hn
      rw [← hu2, (e2 (2 * M + 1) n).1, (e2 (2 * M + 1) n).2] at this
      rw [h, this]; omega
  have hm1 : (2 * M - 1) * U + 2 * U = (2 * M + 1) * U := by rw [← Nat.add_mul]; congr 1; omega
  have hm2 : (2 * M - 1) * U + U = 2 * M * U := by
    have : 2 * M * U = (2 * M - 1 + 1) * U := by congr 1; omega
    rw [this, Nat.add_mul, Nat.one_mul]
  have hpos : 0 < (2 * M - 1) * U := Nat.mul_pos (by omega) hU
  -- the middle, rounded, lies in the interval
  have hmid : ∃ n, 0 < n ∧ (umid + 1 + umid / 4 % 2) / 4 = n ∧ (2 * M - 1) * U + odd ≤ 2 * n * D ∧ 2 * n * D + odd ≤ (2 * M + 1) * U := by
    obtain ⟨r1, r2, r3⟩ := unr_round (a := 2 * M * (2 * U)) hD
    rw [← hu3] at r1 r2 r3
    obtain ⟨n, hn⟩ : ∃ n, n = (umid + 1 + umid / 4 % 2) / 4 := ⟨_, rfl⟩
    rw [← hn] at r1 r2 r3
    have e8 : n * (8 * D) = 4 * (2 * n * D) := by rw [show 8 * D = 4 * (2 * D) by omega, Nat.mul_left_comm, Nat.mul_left_comm n, Nat.mul_assoc]
    rw [e8, (e2 (2 * M) n).1] at r1 r2
    have hb : (2 * M - 1) * U + odd ≤ 2 * n * D ∧ 2 * n * D + odd ≤ (2 * M + 1) * U := by
      by_cases hc : D < U
      · omega
      · have : D = U := by omega
        have h4 : 2 * M * (2 * U) % (4 * D) = 0 := by
          rw [this]; apply Nat.mod_eq_zero_of_dvd
          exact ⟨M, by rw [Nat.mul_comm 2 M, Nat.mul_assoc, Nat.mul_comm (4 * U), ← Nat.mul_assoc 2 2]⟩
        have h5 := r3 h4
        rw [(e2 (2 * M) n).1, (e2 (2 * M) n).2] at h5
        omega
    refine ⟨n, ?_, hn.symm, hb⟩
    apply Nat.pos_of_ne_zero
    intro h0
    rw [h0] at hb
    simp at hb
    omega
  obtain ⟨n, hn0, hn, hnl, hnh⟩ := hmid
  have hdm : (umin + odd + 3) / 4 ≤ n := (hlow n).2 hnl
  have hdM : n ≤ (umax - odd) / 4 := (hhigh n hn0).2 hnh
  have hd1 : 0 < (umin + odd + 3) / 4 := by
    apply Nat.pos_of_ne_zero
    intro h0
    have := (hlow 0).1 (by omega)
    simp at this
    omega
  have hall : ∀ t, (umin + odd + 3) / 4 ≤ t → t ≤ (umax - odd) / 4 → 0 < t ∧ (2 * M - 1) * U + odd ≤ 2 * t * D ∧ 2 * t * D + odd ≤ (2 * M + 1) * U := fun t h1 h2 =>
    ⟨by omega, (hlow t).1 h1, (hhigh t (by omega)).1 h2⟩
  show 0 < t ∧ _
  have ht : t = pickT (pick umin umax umid odd) := by rw [hu1, hu2, hu3]
  rw [ht]
  unfold pick pickT
  by_cases c1 : (umin + odd + 3) / 4 ≤ (umax - odd) / 4 / 10 * 10
  · simp only [if_pos c1]
    exact hall _ c1 (by simp; omega)
  · simp only [if_neg c1]
    by_cases c2 : (umin + odd + 3) / 4 < (umax - odd) / 4
    · simp only [if_pos c2]
      rw [if_neg (by simp), hn]
      exact ⟨hn0, hnl, hnh⟩
    · simp only [if_neg c2]
      rw [if_neg (by simp)]
      exact hall _ (Nat.le_refl _) (by omega)
/-- The least mantissa: min is a quarter of a step below. All of it reckoned. -/
def skP (ue : Int) : Int := -((ue * 631305 - 261663) / 2097152)
def skewT (ue p : Int) : Nat :=
  let A := pmOf p
  let hi := (A + 2 ^ 64 - 1) / 2 ^ 64
  let lo := hi * 2 ^ 64 - A
  let s := (sOf ue p).toNat
  pickT (pick (usc ((4 * 2 ^ 52 - 1) * 2 ^ 9) hi lo s) (usc ((2 * 2 ^ 52 + 1) * 2 ^ 10) hi lo s) (usc (2 ^ 63) hi lo s) 0)
def skewB (ue p : Int) : Bool :=
  let t := skewT ue p
  let U := uOf ue p
  let D := dOf ue p
  Nat.blt 0 t && Nat.ble ((4 * 2 ^ 52 - 1) * U) (4 * t * D) && Nat.ble (2 * t * D) ((2 * 2 ^ 52 + 1) * U) && decide (0 ≤ sOf ue p) && Nat.ble (sOf ue p).toNat 11 && decide (-342 ≤ p) && decide (p ≤ 340)
def skewI (i : Nat) : Bool := skewB ((i : Int) - 1073) (skP ((i : Int) - 1073))
set_option maxRecDepth 100000 in
theorem chk_all : allB chkI 2046 = true := by decide +kernel
set_option maxRecDepth 100000 in
theorem skew_all : allB skewI 2045 = true := by decide +kernel
theorem allB_at {f : Nat → Bool} : ∀ {n : Nat}, allB f n = true → ∀ i, i < n → f i = true
  | 0, _, i, h => by omega
  | n + 1, h, i, hi => by
    rw [allB, Bool.and_eq_true] at h
    by_cases e : i = n
    · rw [e]; exact h.1
    · exact allB_at h.2 i (by omega)
/-- The facts of every exponent. -/
theorem facts {ue : Int} (h0 : -1074 ≤ ue) (h1 : ue ≤ 971) : Fac (uOf ue (pOf ue)) (dOf ue (pOf ue)) (pnOf (pOf ue)) (pdOf (pOf ue)) (pmOf (pOf ue)) (sOf ue (pOf ue)).toNat (gOf ue (pOf ue)) ∧ 0 ≤ sOf ue (pOf ue) := by
  have h := allB_at chk_all (ue + 1074).toNat (by omega)
  unfold chkI chk at h
  rw [show (((ue + 1074).toNat : Nat) : Int) - 1074 = ue by omega, Bool.and_eq_true, decide_eq_true_eq] at h
  exact ⟨chkD_ok h.1, h.2⟩
theorem skews {ue : Int} (h0 : -1073 ≤ ue) (h1 : ue ≤ 971) : skewB ue (skP ue) = true := by
  have h := allB_at skew_all (ue + 1073).toNat (by omega)
  unfold skewI at h
  rwa [show (((ue + 1073).toNat : Nat) : Int) - 1073 = ue by omega] at h
end Go.Proofs.YthbmfhkpkkgdnaaGreatDoor.F

/- How Go 1.27 scales a float64: no smaller denominator comes nearer to a power of ten's scale (best), what uscale gives (usc), that it is exact (usc_unr); in plain Lean, no program in sight. -/
namespace Go.Proofs.YthbmfhkpkkgdnaaGreatDoor.F
set_option linter.unusedVariables false
/-- Between two neighbouring fractions of opposite side: no smaller denominator comes nearer. -/
theorem best {A B q p q' p' : Int} (hdet : p * q' - p' * q = 1 ∨ p * q' - p' * q = -1) (hq : 0 < q) (hq' : 0 < q')
    (hs : (0 ≤ q * A - p * B ∧ q' * A - p' * B ≤ 0) ∨ (q * A - p * B ≤ 0 ∧ 0 ≤ q' * A - p' * B))
    {w t C : Int} (h0 : 0 < w) (h1 : w < q') (hC0 : 0 ≤ C) (hC : C ≤ q * A - p * B ∨ q * A - p * B ≤ -C) :
    C ≤ w * A - t * B ∨ w * A - t * B ≤ -C := by
  -- w = a q + b q', t = a p + b p'
  obtain ⟨a, b, hw, ht⟩ : ∃ a b : Int, w = a * q + b * q' ∧ t = a * p + b * p' := by
    rcases hdet with h | h
    · refine ⟨t * q' - w * p', w * p - t * q, ?_, ?_⟩
      · have : (t * q' - w * p') * q + (w * p - t * q) * q' = w * (p * q' - p' * q) := by
          simp only [Int.sub_mul, Int.mul_sub]
          have e1 : t * q' * q = t * q * q' := by rw [Int.mul_assoc, Int.mul_assoc, Int.mul_comm q' q]
          have e2 : w * p' * q = w * (p' * q) := Int.mul_assoc ..
          have e3 : w * p * q' = w * (p * q') := Int.mul_assoc ..
          omega
        rw [this, h, Int.mul_one]
      · have : (t * q' - w * p') * p + (w * p - t * q) * p' = t * (p * q' - p' * q) := by
          simp only [Int.sub_mul, Int.mul_sub]
          have e1 : t * q' * p = t * (p * q') := by rw [Int.mul_assoc, Int.mul_comm q' p]
          have e2 : w * p' * p = w * p * p' := by rw [Int.mul_assoc, Int.mul_assoc, Int.mul_comm p' p]
          have e3 : t * q * p' = t * (p' * q) := by rw [Int.mul_assoc, Int.mul_comm q p']
          omega
        rw [this, h, Int.mul_one]
    · refine ⟨w * p' - t * q', t * q - w * p, ?_, ?_⟩
      · have : (w * p' - t * q') * q + (t * q - w * p) * q' = -(w * (p * q' - p' * q)) := by
          simp only [Int.sub_mul, Int.mul_sub]
          have e1 : t * q' * q = t * q * q' := by rw [Int.mul_assoc, Int.mul_assoc, Int.mul_comm q' q]
          have e2 : w * p' * q = w * (p' * q) := Int.mul_assoc ..
          have e3 : w * p * q' = w * (p * q') := Int.mul_assoc ..
          omega
        rw [this, h]; omega
      · have : (w * p' - t * q') * p + (t * q - w * p) * p' = -(t * (p * q' - p' * q)) := by
          simp only [Int.sub_mul, Int.mul_sub]
          have e1 : t * q' * p = t * (p * q') := by rw [Int.mul_assoc, Int.mul_comm q' p]
          have e2 : w * p' * p = w * p * p' := by rw [Int.mul_assoc, Int.mul_assoc, Int.mul_comm p' p]
          have e3 : t * q * p' = t * (p' * q) := by rw [Int.mul_assoc, Int.mul_comm q p']
          omega
        rw [this, h]; omega
  -- D, D'
  obtain ⟨D, hD⟩ : ∃ D, D = q * A - p * B := ⟨_, rfl⟩
  obtain ⟨D', hD'⟩ : ∃ D', D' = q' * A - p' * B := ⟨_, rfl⟩
  have hval : w * A - t * B = a * D + b * D' := by
    rw [hw, ht, hD, hD']
    simp only [Int.add_mul, Int.mul_sub]
    have e1 : a * q * A = a * (q * A) := Int.mul_assoc ..
    have e2 : b * q' * A = b * (q' * A) := Int.mul_assoc ..
    have e3 : a * p * B = a * (p * B) := Int.mul_assoc ..
    have e4 : b * p' * B = b * (p' * B) := Int.mul_assoc ..
    omega
  rw [← hD] at hC hs
  rw [← hD'] at hs
  rw [hval]
  -- a is not 0; a and b are not of one sign
  have ha : a ≠ 0 := by
    rintro rfl
    rw [Int.zero_mul, Int.zero_add] at hw
    have hb : 0 < b := by
      apply Int.lt_of_not_ge
      intro hb
      have := Int.mul_nonpos_of_nonpos_of_nonneg hb (Int.le_of_lt hq')
      omega
    have := Int.mul_le_mul_of_nonneg_right (show (1 : Int) ≤ b by omega) (Int.le_of_lt hq')
    omega
  have hsign : (0 < a ∧ b ≤ 0) ∨ (a < 0 ∧ 0 ≤ b) := by
    by_cases hb : b ≤ 0
    · left
      refine ⟨?_, hb⟩
      apply Int.lt_of_not_ge
      intro h
      have h2 := Int.mul_nonpos_of_nonpos_of_nonneg h (Int.le_of_lt hq)
      have h3 := Int.mul_nonpos_of_nonpos_of_nonneg hb (Int.le_of_lt hq')
      omega
    · right
      refine ⟨?_, by omega⟩
      apply Int.lt_of_not_ge
      intro h
      have h2 := Int.mul_nonneg h (Int.le_of_lt hq)
      have h3 := Int.mul_le_mul_of_nonneg_right (show (1 : Int) ≤ b by omega) (Int.le_of_lt hq')
      omega
  have key : ∀ x : Int, 0 < x → ∀ d : Int, 0 ≤ d → d ≤ x * d := fun x hx d hd => by
    have := Int.mul_le_mul_of_nonneg_right (show (1 : Int) ≤ x by omega) hd
    omega
  rcases hsign with ⟨h2, h3⟩ | ⟨h2, h3⟩
  · rcases hs with ⟨h4, h5⟩ | ⟨h4, h5⟩
    · left
      have := key a h2 D h4
      have h6 := Int.mul_nonneg_of_nonpos_of_nonpos h3 h5
      omega
    · right
      have := key a h2 (-D) (by omega)
      rw [Int.mul_neg] at this
      have h6 := Int.mul_nonpos_of_nonpos_of_nonneg h3 h5
      omega
  · rcases hs with ⟨h4, h5⟩ | ⟨h4, h5⟩
    · right
      have := key (-a) (by omega) D h4
      rw [Int.neg_mul] at this
      have h6 := Int.mul_nonpos_of_nonneg_of_nonpos h3 h5
      omega
    · left
      have := key (-a) (by omega) (-D) (by omega)
      rw [Int.neg_mul, Int.mul_neg] at this
      have h6 := Int.mul_nonneg h3 h5
      omega
/-- a / b, its lowest bit set where b does not divide a. -/
def unr (a b : Nat) : Nat := (a / b) ||| (if a % b = 0 then 0 else 1)
/-- What uscale gives, in whole numbers. -/
def usc (x hi lo s : Nat) : Nat :=
  let h := x * hi / 2 ^ 64
  let mid := x * hi % 2 ^ 64
  if h / 2 ^ s * 2 ^ s ≠ h then (h / 2 ^ s) ||| 1
  else
    let mid2 := x * lo / 2 ^ 64
    ((h - (if mid < mid2 then 1 else 0)) / 2 ^ s) ||| (if (mid + 2 ^ 64 - mid2) % 2 ^ 64 > 1 then 1 else 0)

/-- All exact: pm * x is a multiple of 2^N and a bit less than 2^64 more. -/
theorem usc_exact {x hi lo s q d : Nat} (hx : x < 2 ^ 64) (hlo : lo < 2 ^ 64) (hd : d < 2 ^ 64) (hX : x * hi * 2 ^ 64 = q * 2 ^ (128 + s) + d + x * lo) : usc x hi lo s = q := by
  have hl : x * lo ≤ (2 ^ 64 - 1) * (2 ^ 64 - 1) := Nat.mul_le_mul (by omega) (by omega)
  have hp : 2 ^ (128 + s) = 2 ^ 128 * 2 ^ s := Nat.pow_add ..
  obtain ⟨Q, hQ⟩ : ∃ Q, Q = q * 2 ^ s := ⟨_, rfl⟩
  have e1 : q * 2 ^ (128 + s) = 2 ^ 128 * Q := by rw [hp, hQ, ← Nat.mul_assoc, Nat.mul_comm q, Nat.mul_assoc]
  rw [e1] at hX
  obtain ⟨Y, hY⟩ : ∃ Y, Y = x * hi := ⟨_, rfl⟩
  obtain ⟨L, hL⟩ : ∃ L, L = x * lo := ⟨_, rfl⟩
  rw [← hY, ← hL] at hX
  rw [← hL] at hl
  have hh : Y / 2 ^ 64 = Q := by omega
  have hm : Y % 2 ^ 64 * 2 ^ 64 = d + L := by
    obtain ⟨m, hm0⟩ : ∃ m, m = Y % 2 ^ 64 := ⟨_, rfl⟩
    have h1 : Y = 2 ^ 64 * Q + m := by omega
    rw [← hm0]
    have e3 : Y * 2 ^ 64 = 2 ^ 128 * Q + m * 2 ^ 64 := by
      rw [h1, Nat.add_mul, Nat.mul_right_comm, show (2 ^ 64 * 2 ^ 64 : Nat) = 2 ^ 128 from by decide]
    rw [e3, Nat.add_assoc] at hX
    exact Nat.add_left_cancel hX
  unfold usc
  rw [← hY, ← hL]
  simp only [hh]
  have hs : 0 < 2 ^ s := Nat.two_pow_pos s
  have e2 : Q / 2 ^ s = q := by rw [hQ, Nat.mul_div_cancel _ hs]
  have c1 : ¬ (Q / 2 ^ s * 2 ^ s ≠ Q) := fun h => h (by rw [e2]; exact hQ.symm)
  have c2 : ¬ (Y % 2 ^ 64 < L / 2 ^ 64) := by omega
  have c3 : ¬ ((Y % 2 ^ 64 + 2 ^ 64 - L / 2 ^ 64) % 2 ^ 64 > 1) := by omega
  rw [if_neg c1, if_neg c2, if_neg c3, Nat.sub_zero, e2, Nat.or_zero]
/-- Nothing near a multiple of 2^N. -/
theorem usc_far {x hi lo s : Nat} (hx : x < 2 ^ 64) (hlo : lo < 2 ^ 64) {X : Nat} (hX : x * hi * 2 ^ 64 = X + x * lo)
    (h1 : 2 ^ 66 ≤ X % 2 ^ (128 + s)) (h2 : X % 2 ^ (128 + s) + 2 ^ 66 ≤ 2 ^ (128 + s)) : usc x hi lo s = (X / 2 ^ (128 + s)) ||| 1 := by
  have hl : x * lo ≤ (2 ^ 64 - 1) * (2 ^ 64 - 1) := Nat.mul_le_mul (by omega) (by omega)
  have hp : 2 ^ (128 + s) = 2 ^ 128 * 2 ^ s := Nat.pow_add ..
  have hs : 0 < 2 ^ s := Nat.two_pow_pos s
  obtain ⟨Y, hY⟩ : ∃ Y, Y = x * hi := ⟨_, rfl⟩
  obtain ⟨L, hL⟩ : ∃ L, L = x * lo := ⟨_, rfl⟩
  rw [← hY, ← hL] at hX
  rw [← hL] at hl
  have hq : X / 2 ^ (128 + s) = X / 2 ^ 128 / 2 ^ s := by rw [hp, Nat.div_div_eq_div_mul]
  have hr : X % 2 ^ (128 + s) = X % 2 ^ 128 + 2 ^ 128 * (X / 2 ^ 128 % 2 ^ s) := by rw [hp, Nat.mod_mul]
  obtain ⟨F, hF⟩ : ∃ F, F = X / 2 ^ 128 := ⟨_, rfl⟩
  rw [← hF] at hq hr
  unfold usc
  rw [← hY, ← hL, hq]
  obtain ⟨h, hh⟩ : ∃ h, h = Y / 2 ^ 64 := ⟨_, rfl⟩
  obtain ⟨mid, hmid⟩ : ∃ m, m = Y % 2 ^ 64 := ⟨_, rfl⟩
  rw [← hh, ← hmid]
  have hYe : Y = h * 2 ^ 64 + mid := by omega
  have hm64 : mid < 2 ^ 64 := by omega
  have hc : F = h ∨ F + 1 = h := by omega
  have hmul : F = 2 ^ s * (F / 2 ^ s) + F % 2 ^ s := (Nat.div_add_mod F (2 ^ s)).symm
  have hFm : F % 2 ^ s < 2 ^ s := Nat.mod_lt _ hs
  have hhm : h = 2 ^ s * (h / 2 ^ s) + h % 2 ^ s := (Nat.div_add_mod h (2 ^ s)).symm
  have hhl : h % 2 ^ s < 2 ^ s := Nat.mod_lt _ hs
  by_cases hz : h % 2 ^ s = 0
  · have e3 : ¬ (h / 2 ^ s * 2 ^ s ≠ h) := by rw [Nat.mul_comm]; omega
    simp only [if_neg e3]
    obtain ⟨mid2, hmid2⟩ : ∃ m, m = L / 2 ^ 64 := ⟨_, rfl⟩
    rw [← hmid2]
    have hm2 : mid2 < 2 ^ 64 - 1 := by omega
    by_cases hlt : mid < mid2
    · have e4 : F + 1 = h := by omega
      rw [if_pos hlt, if_pos (by omega), show h - 1 = F by omega]
    · have e5 : F = h ∨ F + 1 = h := hc
      have hge : 2 ≤ mid - mid2 := by
        apply Nat.le_of_not_lt
        intro h3
        rcases hc with e | e
        · have : F % 2 ^ s = 0 := by rw [e]; exact hz
          rw [this, Nat.mul_zero, Nat.add_zero] at hr
          omega
        · -- F = h - 1: the rest is near 2^N
          have e6 : F % 2 ^ s = 2 ^ s - 1 := by
            have e7 : F = 2 ^ s * (h / 2 ^ s - 1) + (2 ^ s - 1) := by
              have h8 : h / 2 ^ s ≠ 0 := by
                intro h9
                rw [h9, Nat.mul_zero] at hhm
                omega
              obtain ⟨k, hk⟩ := Nat.exists_eq_succ_of_ne_zero h8
              rw [Nat.succ_eq_add_one] at hk
              rw [hk] at hhm ⊢
              rw [Nat.mul_add, Nat.mul_one] at hhm
              rw [Nat.add_sub_cancel]
              omega
            rw [e7, Nat.mul_add_mod, Nat.mod_eq_of_lt (by omega)]
          rw [e6, hp, Nat.mul_sub, Nat.mul_one] at hr
          rw [hp, hr] at h2
          have h10 : 2 ^ 128 ≤ 2 ^ 128 * 2 ^ s := Nat.le_mul_of_pos_right _ hs
          omega
      have e4 : F = h := by omega
      rw [if_neg hlt, if_pos (by omega), Nat.sub_zero, e4]
  · have e3 : h / 2 ^ s * 2 ^ s ≠ h := by rw [Nat.mul_comm]; omega
    simp only [if_pos e3]
    rcases hc with e | e
    · rw [e]
    · have : h / 2 ^ s = F / 2 ^ s := by
        have e7 : F = 2 ^ s * (h / 2 ^ s) + (h % 2 ^ s - 1) := by omega
        conv => rhs; rw [e7, Nat.mul_add_div hs, Nat.div_eq_of_lt (show h % 2 ^ s - 1 < 2 ^ s by omega), Nat.add_zero]
      rw [this]
/-- Two neighbouring fractions about a / b, the second with a denominator of at least G. -/
def conv : Nat → Nat → Nat → Nat → Nat → Nat → Nat → Nat → Nat × Nat × Nat × Nat
  | 0, _, _, q, p, q', p', _ => (q, p, q', p')
  | f + 1, a, b, q, p, q', p', G =>
    match Nat.ble G q', b with
    | true, _ => (q, p, q', p')
    | false, 0 => (q, p, q', p')
    | false, c + 1 => conv f (c + 1) (a % (c + 1)) q' p' (a / (c + 1) * q' + q) (a / (c + 1) * p' + p) G
def nearAt (A B G C q p q' p' : Nat) : Bool :=
  Nat.ble G q' && Nat.blt 0 q && Nat.blt 0 q' && (Nat.beq (p * q') (p' * q + 1) || Nat.beq (p * q' + 1) (p' * q)) &&
    ((Nat.ble (p * B + C) (q * A) && Nat.ble (q' * A) (p' * B)) || (Nat.ble (q * A + C) (p * B) && Nat.ble (p' * B) (q' * A)))
def near (A B G C : Nat) : Bool :=
  match conv 100 A B 1 0 0 1 G with
  | (q, p, q', p') => nearAt A B G C q p q' p'
theorem nearAt_ok {A B G C q p q' p' : Nat} (h : nearAt A B G C q p q' p' = true) {w t : Int} (h0 : 0 < w) (h1 : w < G) : (C : Int) ≤ w * A - t * B ∨ w * A - t * B ≤ -(C : Int) := by
  unfold nearAt at h
  simp only [Bool.and_eq_true, Bool.or_eq_true, Nat.ble_eq, Nat.blt_eq, Nat.beq_eq] at h
  obtain ⟨⟨⟨⟨h2, h3⟩, h4⟩, h5⟩, h6⟩ := h
  have c1 : ((p * q' : Nat) : Int) = (p : Int) * q' := Int.natCast_mul ..
  have c2 : ((p' * q : Nat) : Int) = (p' : Int) * q := Int.natCast_mul ..
  have c3 : ((p * B : Nat) : Int) = (p : Int) * B := Int.natCast_mul ..
  have c4 : ((q * A : Nat) : Int) = (q : Int) * A := Int.natCast_mul ..
  have c5 : ((q' * A : Nat) : Int) = (q' : Int) * A := Int.natCast_mul ..
  have c6 : ((p' * B : Nat) : Int) = (p' : Int) * B := Int.natCast_mul ..
  refine best (A := A) (B := B) (q := q) (p := p) (q' := q') (p' := p') ?_ (by omega) (by omega) ?_ h0 (by omega) (by omega) ?_
  · rw [← c1, ← c2]; omega
  · rw [← c3, ← c4, ← c5, ← c6]; omega
  · rw [← c3, ← c4]; omega
theorem near_ok {A B G C : Nat} (h : near A B G C = true) {w t : Int} (h0 : 0 < w) (h1 : w < G) : (C : Int) ≤ w * A - t * B ∨ w * A - t * B ≤ -(C : Int) := nearAt_ok h h0 h1
/-- The scaling constants of one exponent, and what is checked of them. -/
def pOf (ue : Int) : Int := -(ue * 78913 / 262144)
def lpOf (p : Int) : Int := p * 108853 / 32768
def sOf (ue p : Int) : Int := -(ue - 11 + lpOf p + 3)
def pnOf (p : Int) : Nat := 10 ^ p.toNat * 2 ^ (127 - lpOf p).toNat
def pdOf (p : Int) : Nat := 10 ^ (-p).toNat * 2 ^ (lpOf p - 127).toNat
def pmOf (p : Int) : Nat := (pnOf p + pdOf p - 1) / pdOf p
def uOf (ue p : Int) : Nat := 2 ^ ue.toNat * 10 ^ p.toNat
def dOf (ue p : Int) : Nat := 2 ^ (-ue).toNat * 10 ^ (-p).toNat
def gOf (ue p : Int) : Nat := if p < 0 then 5 ^ (-p).toNat else 2 ^ (-(ue + 1 + p)).toNat
def chkD (U D pn pd A s g : Nat) : Bool :=
  Nat.ble (2 ^ 127) A && Nat.blt A (2 ^ 128) && Nat.ble D U && Nat.blt U (10 * D) && Nat.ble s 11 &&
  Nat.beq (2 ^ 10 * pn * D) (pd * 2 ^ (128 + s) * (2 * U)) && Nat.blt 0 D && Nat.blt 0 g &&
  (Nat.ble g 1 || near A (2 ^ (118 + s)) (min g (2 ^ 55)) (2 ^ 58)) && (Nat.ble (2 ^ 55) g || Nat.beq (g * (2 * U) % D) 0)
def chk (ue p : Int) : Bool :=
  chkD (uOf ue p) (dOf ue p) (pnOf p) (pdOf p) (pmOf p) (sOf ue p).toNat (gOf ue p) && decide (0 ≤ sOf ue p)
def chkI (i : Nat) : Bool := chk ((i : Int) - 1074) (pOf ((i : Int) - 1074))
def allB (f : Nat → Bool) : Nat → Bool
  | 0 => true
  | n + 1 => f n && allB f n
/-- The facts that the check tells. -/
structure Fac (U D pn pd A s g : Nat) : Prop where
  a0 : 2 ^ 127 ≤ A
  a1 : A < 2 ^ 128
  du : D ≤ U
  ud : U < 10 * D
  s11 : s ≤ 11
  rel : 2 ^ 10 * pn * D = pd * 2 ^ (128 + s) * (2 * U)
  d0 : 0 < D
  g0 : 0 < g
  far : g ≤ 1 ∨ near A (2 ^ (118 + s)) (min g (2 ^ 55)) (2 ^ 58) = true
  exa : 2 ^ 55 ≤ g ∨ g * (2 * U) % D = 0
theorem chkD_ok {U D pn pd A s g : Nat} (h : chkD U D pn pd A s g = true) : Fac U D pn pd A s g := by
  unfold chkD at h
  simp only [Bool.and_eq_true, Bool.or_eq_true, Nat.ble_eq, Nat.blt_eq, Nat.beq_eq] at h
  obtain ⟨⟨⟨⟨⟨⟨⟨⟨⟨h1, h2⟩, h3⟩, h4⟩, h5⟩, h6⟩, h7⟩, h10⟩, h8⟩, h9⟩ := h
  exact ⟨h1, h2, h3, h4, h5, h6, h7, h10, h8, h9⟩
theorem mul_lt_cancel {a b c : Nat} (h : a * c < b * c) : a < b := Nat.lt_of_mul_lt_mul_right h
section
variable {U D pn pd A s g e y k : Nat}
theorem scaled_rel (F : Fac U D pn pd A s g) (hk : 10 ≤ k) : y * 2 ^ k * pn * D = 2 ^ (128 + (s + (k - 10))) * pd * (y * (2 * U)) := by
  have e1 : 2 ^ k = 2 ^ (k - 10) * 2 ^ 10 := by rw [← Nat.pow_add]; congr 1; omega
  have e2 : (2 : Nat) ^ (128 + (s + (k - 10))) = 2 ^ (128 + s) * 2 ^ (k - 10) := by rw [← Nat.pow_add]; congr 1; omega
  have e3 : y * 2 ^ k * pn * D = y * 2 ^ (k - 10) * (2 ^ 10 * pn * D) := by rw [e1]; simp only [Nat.mul_assoc]
  rw [e3, F.rel, e2]
  simp only [Nat.mul_comm, Nat.mul_left_comm, Nat.mul_assoc]
theorem excess (he : A * pd = pn + e) (hep : e < pd) (hx : y * 2 ^ k < 2 ^ 64) : y * 2 ^ k * A * pd = y * 2 ^ k * pn + y * 2 ^ k * e ∧ y * 2 ^ k * e < 2 ^ 64 * pd :=
  ⟨by rw [Nat.mul_assoc, he, Nat.mul_add], Nat.mul_lt_mul_of_lt_of_le hx (Nat.le_of_lt hep) (by omega)⟩
/-- Where the scaled number is whole. -/
theorem whole_ (F : Fac U D pn pd A s g) (he : A * pd = pn + e) (hep : e < pd) (hk : 10 ≤ k) (hx : y * 2 ^ k < 2 ^ 64) {q : Nat} (hq : y * (2 * U) = q * D) :
    ∃ d, d < 2 ^ 64 ∧ y * 2 ^ k * A = q * 2 ^ (128 + (s + (k - 10))) + d := by
  have hpd : 0 < pd := by omega
  have hrel := scaled_rel (y := y) F hk
  obtain ⟨hXpd, hEp⟩ := excess (y := y) (k := k) he hep hx
  obtain ⟨X, hX⟩ : ∃ X, X = y * 2 ^ k * A := ⟨_, rfl⟩
  obtain ⟨E, hE⟩ : ∃ E, E = y * 2 ^ k * e := ⟨_, rfl⟩
  obtain ⟨Z, hZ⟩ : ∃ Z, Z = 2 ^ (128 + (s + (k - 10))) := ⟨_, rfl⟩
  rw [← hX] at hXpd ⊢
  rw [← hE] at hXpd hEp
  rw [← hZ] at hrel ⊢
  have h1 : y * 2 ^ k * pn = Z * pd * q := by
    apply Nat.eq_of_mul_eq_mul_right F.d0
    rw [hrel, hq]
    simp only [Nat.mul_assoc]
  have h2 : X * pd = (q * Z) * pd + E := by
    rw [hXpd, h1]
    simp only [Nat.mul_comm, Nat.mul_left_comm]
  have h3 : q * Z ≤ X := Nat.le_of_mul_le_mul_right (by omega : q * Z * pd ≤ X * pd) hpd
  refine ⟨X - q * Z, ?_, by omega⟩
  refine mul_lt_cancel (c := pd) ?_
  rw [Nat.sub_mul]
  omega
/-- x = y * 2^k, scaled: uscale gives the whole part of four times the scaled number, its lowest bit set where that is not whole. -/
theorem usc_unr {hi lo : Nat} (F : Fac U D pn pd A s g) (hlo : lo < 2 ^ 64) (hA : hi * 2 ^ 64 = A + lo) (he : A * pd = pn + e) (hep : e < pd)
    (hy0 : 0 < y) (hy : y < 2 ^ 55) (hk : 10 ≤ k) (hx : y * 2 ^ k < 2 ^ 64) : usc (y * 2 ^ k) hi lo (s + (k - 10)) = unr (y * (2 * U)) D := by
  have hpd : 0 < pd := by omega
  have hD := F.d0
  have hXe : y * 2 ^ k * hi * 2 ^ 64 = y * 2 ^ k * A + y * 2 ^ k * lo := by rw [Nat.mul_assoc, hA, Nat.mul_add]
  by_cases hdv : y * (2 * U) % D = 0
  · obtain ⟨q, hq⟩ : ∃ q, y * (2 * U) = q * D := ⟨y * (2 * U) / D, by rw [Nat.div_mul_cancel (Nat.dvd_of_mod_eq_zero hdv)]⟩
    obtain ⟨d, hd, hX⟩ := whole_ F he hep hk hx hq
    rw [usc_exact (q := q) hx hlo hd (by rw [hXe, hX])]
    unfold unr
    rw [if_pos hdv, Nat.or_zero, hq, Nat.mul_div_cancel _ hD]
  · -- the rest of the division by 2^N
    obtain ⟨B, hB⟩ : ∃ B, B = 2 ^ (118 + s) := ⟨_, rfl⟩
    have hNB : 2 ^ (128 + (s + (k - 10))) = 2 ^ k * B := by rw [hB, ← Nat.pow_add]; congr 1; omega
    have hB0 : 2 ^ 118 ≤ B := by rw [hB]; exact Nat.pow_le_pow_right (by omega) (by omega)
    have hk0 : 0 < 2 ^ k := Nat.two_pow_pos k
    have hk10 : 2 ^ 10 ≤ 2 ^ k := Nat.pow_le_pow_right (by omega) hk
    -- multiples of g are whole
    have hmul : g < 2 ^ 55 → ∀ j, j * g ≤ y → ∃ q2 d2, d2 < 2 ^ 54 ∧ j * g * A = q2 * B + d2 := by
      intro hg j hj
      have h1 : g * (2 * U) % D = 0 := by rcases F.exa with h | h; omega; exact h
      obtain ⟨c, hc⟩ := Nat.dvd_of_mod_eq_zero h1
      obtain ⟨d, hd, hX⟩ := whole_ (y := j * g) (q := j * c) F he hep hk (Nat.lt_of_le_of_lt (Nat.mul_le_mul_right _ hj) hx) (by rw [Nat.mul_assoc, hc, Nat.mul_comm D c, Nat.mul_assoc])
      rw [hNB] at hX
      have h2 : 2 ^ k * (j * g * A) = 2 ^ k * (j * c * B) + d := by
        have : j * g * 2 ^ k * A = 2 ^ k * (j * g * A) := by simp only [Nat.mul_comm, Nat.mul_assoc]
        rw [this] at hX
        rw [hX]; congr 1; simp only [Nat.mul_comm, Nat.mul_left_comm, Nat.mul_assoc]
      have h3 : j * c * B ≤ j * g * A := Nat.le_of_mul_le_mul_left (by omega : 2 ^ k * (j * c * B) ≤ 2 ^ k * (j * g * A)) hk0
      refine ⟨j * c, j * g * A - j * c * B, ?_, by omega⟩
      refine mul_lt_cancel (c := 2 ^ k) ?_
      rw [Nat.mul_comm, Nat.mul_sub]
      have : 2 ^ 54 * 2 ^ 10 ≤ 2 ^ 54 * 2 ^ k := Nat.mul_le_mul_left _ hk10
      omega
    have hyg : g < 2 ^ 55 → y % g ≠ 0 := by
      intro hg h
      apply hdv
      have h1 : g * (2 * U) % D = 0 := by rcases F.exa with h | h; omega; exact h
      obtain ⟨c, hc⟩ := Nat.dvd_of_mod_eq_zero h
      rw [hc, Nat.mul_comm g c, Nat.mul_assoc]
      exact Nat.mod_eq_zero_of_dvd (Nat.dvd_trans (Nat.dvd_of_mod_eq_zero h1) (Nat.dvd_mul_left ..))
    have hg1 : ¬ g ≤ 1 := fun h => by
      have h0 := F.g0
      have : g = 1 := by omega
      subst this
      exact hyg (by omega) (Nat.mod_one _)
    have hnear : near A B (min g (2 ^ 55)) (2 ^ 58) = true := by rw [hB]; exact F.far.resolve_left hg1
    obtain ⟨R, hR⟩ : ∃ R, R = y * A % B := ⟨_, rfl⟩
    obtain ⟨Q, hQ⟩ : ∃ Q, Q = y * A / B := ⟨_, rfl⟩
    have hyA : y * A = B * Q + R := by rw [hQ, hR]; exact (Nat.div_add_mod ..).symm
    have hRB : R < B := by rw [hR]; exact Nat.mod_lt _ (by omega)
    have hfar : 2 ^ 56 ≤ R ∧ R + 2 ^ 56 ≤ B := by
      -- a smaller number that comes as near
      obtain ⟨w, t, d2, hw0, hw1, hd2, hwe⟩ : ∃ (w : Nat) (t : Int) (d2 : Nat), 0 < w ∧ w < min g (2 ^ 55) ∧ d2 < 2 ^ 54 ∧ (w : Int) * A - t * B = R - d2 := by
        have c1 : ((y * A : Nat) : Int) = (y : Int) * A := Int.natCast_mul ..
        have c2 : ((B * Q : Nat) : Int) = (Q : Int) * B := by rw [Int.natCast_mul, Int.mul_comm]
        by_cases hg : g < 2 ^ 55
        · have h1 := hyg hg
          have h2 : y = y / g * g + y % g := by rw [Nat.mul_comm]; exact (Nat.div_add_mod ..).symm
          obtain ⟨q2, d2, h3, h4⟩ := hmul hg (y / g) (Nat.div_mul_le_self ..)
          refine ⟨y % g, (Q : Int) - q2, d2, by omega, by have := Nat.mod_lt y F.g0; omega, h3, ?_⟩
          have h5 : y * A = y / g * g * A + y % g * A := by rw [← Nat.add_mul, ← h2]
          have c3 : ((y % g * A : Nat) : Int) = ((y % g : Nat) : Int) * A := Int.natCast_mul ..
          have c4 : ((q2 * B : Nat) : Int) = (q2 : Int) * B := Int.natCast_mul ..
          rw [Int.sub_mul, ← c2, ← c3, ← c4]
          omega
        · exact ⟨y, Q, 0, hy0, by omega, by omega, by rw [← c1, ← c2]; omega⟩
      have h6 := near_ok hnear (w := w) (t := t) (by omega) (by omega)
      have h7 : ((2 ^ 58 : Nat) : Int) = 2 ^ 58 := by decide
      rw [hwe] at h6
      rw [h7] at h6
      constructor
      · apply Nat.le_of_not_lt
        intro h8
        omega
      · have h9 := near_ok hnear (w := w) (t := t + 1) (by omega) (by omega)
        rw [Int.add_mul, Int.one_mul] at h9
        rw [h7] at h9
        apply Nat.le_of_not_lt
        intro h8
        omega
    have hX2 : y * 2 ^ k * A = 2 ^ k * (y * A) := by simp only [Nat.mul_comm, Nat.mul_assoc]
    have hmod : y * 2 ^ k * A % 2 ^ (128 + (s + (k - 10))) = 2 ^ k * R := by
      rw [hX2, hNB, Nat.mul_mod_mul_left, hR]
    have hdiv : y * 2 ^ k * A / 2 ^ (128 + (s + (k - 10))) = Q := by
      rw [hX2, hNB, Nat.mul_div_mul_left _ _ hk0, hQ]
    have h66 : 2 ^ 66 ≤ 2 ^ k * R := Nat.le_trans (by decide : 2 ^ 66 ≤ 2 ^ 10 * 2 ^ 56) (Nat.mul_le_mul hk10 hfar.1)
    rw [usc_far hx hlo hXe (by rw [hmod]; exact h66) (by
      rw [hmod, hNB]
      have h1 : 2 ^ k * (R + 2 ^ 56) ≤ 2 ^ k * B := Nat.mul_le_mul_left _ hfar.2
      have h2 : 2 ^ 10 * 2 ^ 56 ≤ 2 ^ k * 2 ^ 56 := Nat.mul_le_mul_right _ hk10
      rw [Nat.mul_add] at h1
      omega), hdiv]
    -- the whole part
    have hrel := scaled_rel (y := y) F hk
    obtain ⟨hXpd, hEp⟩ := excess (y := y) (k := k) he hep hx
    rw [hX2, hyA] at hXpd
    have hq : y * (2 * U) / D = Q := by
      rw [hNB] at hrel
      obtain ⟨M, hM⟩ : ∃ M, M = 2 ^ k * B * pd := ⟨_, rfl⟩
      have hM0 : 0 < M := by rw [hM]; exact Nat.mul_pos (Nat.mul_pos hk0 (by omega)) hpd
      obtain ⟨T, hT⟩ : ∃ T, T = y * 2 ^ k * pn := ⟨_, rfl⟩
      obtain ⟨E, hE⟩ : ∃ E, E = y * 2 ^ k * e := ⟨_, rfl⟩
      rw [← hT, ← hE] at hXpd
      rw [← hE] at hEp
      rw [← hT, ← hM] at hrel
      have h1 : 2 ^ k * (B * Q + R) * pd = M * Q + 2 ^ k * R * pd := by
        rw [hM, Nat.mul_add, Nat.add_mul]; congr 1; simp only [Nat.mul_comm, Nat.mul_left_comm, Nat.mul_assoc]
      rw [h1] at hXpd
      have h2 : 2 ^ 66 * pd ≤ 2 ^ k * R * pd := Nat.mul_le_mul_right _ h66
      have h3 : 2 ^ k * R * pd < M := by
        rw [hM]
        exact Nat.mul_lt_mul_of_pos_right (Nat.mul_lt_mul_of_pos_left hRB hk0) hpd
      have h4 : M * Q ≤ T := by omega
      have h5 : T < M * (Q + 1) := by rw [Nat.mul_add, Nat.mul_one]; omega
      refine Nat.div_eq_of_lt_le ?_ ?_
      · refine Nat.le_of_mul_le_mul_left ?_ hM0
        rw [← hrel, ← Nat.mul_assoc]
        exact Nat.mul_le_mul_right _ h4
      · refine Nat.lt_of_mul_lt_mul_left (a := M) ?_
        rw [← hrel, ← Nat.mul_assoc]
        exact Nat.mul_lt_mul_of_pos_right h5 hD
    unfold unr
    rw [if_neg hdv, hq]
end
end Go.Proofs.YthbmfhkpkkgdnaaGreatDoor.F

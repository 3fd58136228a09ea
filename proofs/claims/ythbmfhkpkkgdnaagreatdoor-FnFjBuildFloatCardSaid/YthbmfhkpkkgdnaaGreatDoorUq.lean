/- shortFloat gives a decimal within half a step of the float64. -/
import Derived.Test.YthbmfhkpkkgdnaaGreatDoorUp
namespace Go.Proofs.YthbmfhkpkkgdnaaGreatDoor.U
open Go.RowKit Go.Proofs.YthbmfhkpkkgdnaaGreatDoorW.PrintWords Go.Proofs.YthbmfhkpkkgdnaaGreatDoorW.PrintLast Go.Proofs.YthbmfhkpkkgdnaaGreatDoorW.PrintMore Go.Proofs.YthbmfhkpkkgdnaaGreatDoor.Q Go.Proofs.YthbmfhkpkkgdnaaGreatDoor.F
set_option linter.unusedVariables false
theorem mask1 (a : Int) (h0 : 0 ≤ a) (h1 : a < 9223372036854775808) : Go.bits .and .i64 a 1 = a % 2 := by
  have h := bits_mask .i64 63 (by decide) (fun n h0 h1 => by rw [IntKind.wrap_i64]; omega) 1 (by decide) a h0 (by omega)
  have e : (2 : Int) ^ 1 - 1 = 1 := by decide
  have e2 : (2 : Int) ^ 1 = 2 := by decide
  rw [e, e2] at h
  exact h
/-- The parts of shortFloat at a mantissa that is not the least. -/
theorem mid_eq {M L : Nat} {ue : Int} (hL : 1 ≤ L ∧ L ≤ 53) (hM0 : 2 ^ (L - 1) ≤ M) (hM : M < 2 ^ L) (hue : -1074 ≤ ue ∧ ue ≤ 971) (hsub : L < 53 → ue = -1074) (hno : ¬ (M = 4503599627370496 ∧ -1074 < ue)) :
    strconv_shortFloat.mid ((M * 2 ^ (64 - L) : Nat) : Int) (ue - ((64 - L : Nat) : Int)) = some (pOf ue, (((2 * M - 1) * 2 ^ (63 - L) : Nat) : Int), (((2 * M + 1) * 2 ^ (63 - L) : Nat) : Int), ((M % 2 : Nat) : Int)) := by
  have hk : 2 ^ (64 - L) = 2 * 2 ^ (63 - L) := by rw [← Nat.pow_succ']; congr 1; omega
  have hP : M * 2 ^ (64 - L) = 2 * M * 2 ^ (63 - L) := by rw [hk, ← Nat.mul_assoc, Nat.mul_comm M 2]
  have hMp : 0 < M := Nat.lt_of_lt_of_le (Nat.two_pow_pos _) hM0
  have h64 : 2 ^ L * 2 ^ (64 - L) = 18446744073709551616 := by rw [← Nat.pow_add, show L + (64 - L) = 64 by omega]
  have h63 : 2 ^ (L - 1) * 2 ^ (64 - L) = 9223372036854775808 := by rw [← Nat.pow_add, show L - 1 + (64 - L) = 63 by omega]
  have h10 : 1024 ≤ 2 ^ (63 - L) := Nat.pow_le_pow_right (n := 2) (i := 10) (by omega) (by omega)
  have hlt : 2 * 2 ^ L * 2 ^ (63 - L) = 18446744073709551616 := by rw [← h64, hk, Nat.mul_comm 2 (2 ^ L), Nat.mul_assoc]
  have hup : (2 * M + 1) * 2 ^ (63 - L) < 18446744073709551616 := by
    rw [← hlt]; exact Nat.mul_lt_mul_of_pos_right (by omega) (Nat.two_pow_pos _)
  have e1 : (2 * M - 1) * 2 ^ (63 - L) = M * 2 ^ (64 - L) - 2 ^ (63 - L) := by rw [hP, Nat.sub_mul, Nat.one_mul]
  have e2 : (2 * M + 1) * 2 ^ (63 - L) = M * 2 ^ (64 - L) + 2 ^ (63 - L) := by rw [hP, Nat.add_mul, Nat.one_mul]
  have e3 : 2 ^ (63 - L) ≤ M * 2 ^ (64 - L) := by rw [hP]; exact Nat.le_mul_of_pos_left _ (by omega)
  have hdiv : M * 2 ^ (64 - L) / 2 ^ (64 - L) = M := Nat.mul_div_cancel _ (Nat.two_pow_pos _)
  have hmlt : M * 2 ^ (64 - L) < 18446744073709551616 := by rw [← h64]; exact Nat.mul_lt_mul_of_pos_right hM (Nat.two_pow_pos _)
  obtain ⟨m, hm⟩ : ∃ m, m = M * 2 ^ (64 - L) := ⟨_, rfl⟩
  obtain ⟨q, hq⟩ : ∃ q, q = 2 ^ (63 - L) := ⟨_, rfl⟩
  rw [e1, e2]
  rw [e2] at hup
  rw [← hm] at hup e3 hdiv hmlt
  rw [← hq] at hup e3 hk h10
  rw [← hm, ← hq]
  clear e1 e2 hP
  have hM53 : M < 9007199254740992 := Nat.lt_of_lt_of_le hM (Nat.pow_le_pow_right (n := 2) (j := 53) (by omega) (by omega))
  unfold strconv_shortFloat.mid
  by_cases c : L = 53
  · subst c
    have hq2 : q = 1024 := hq.trans (by decide)
    have h2048 : m = M * 2048 := hm.trans (by congr 1)
    have c1 : ¬ ((m : Int) = 9223372036854775808 ∧ ue - ((64 - 53 : Nat) : Int) > -1085) := by omega
    rw [if_neg c1, if_pos (by omega)]
    unfold strconv_log10Pow2.f
    rw [Option.bind_some, show ue - ((64 - 53 : Nat) : Int) + 11 = ue by omega, wr (i := ue * 78913) (by omega) (by omega), wr (by omega) (by omega), wu (by omega) (by omega), mask1 _ (by omega) (by omega)]
    unfold pOf
    simp only [Option.some.injEq, Prod.mk.injEq]
    refine ⟨trivial, ?_, ?_, ?_⟩ <;> omega
  · have hu := hsub (by omega)
    subst hu
    have c1 : ¬ ((m : Int) = 9223372036854775808 ∧ -1074 - ((64 - L : Nat) : Int) > -1085) := by omega
    rw [if_neg c1, if_neg (by omega)]
    have ez : (-1074 - (-1074 - ((64 - L : Nat) : Int))).toNat = 64 - L := by omega
    rw [ez, show 64 - L - 1 = 63 - L by omega]
    have hq3 : (2 : Int) ^ (63 - L) = (q : Int) := by rw [hq]; simp
    have hq4 : (2 : Int) ^ (64 - L) = ((2 * q : Nat) : Int) := by rw [← hk]; simp
    rw [hq3, hq4]
    unfold strconv_log10Pow2.f
    have hqm : q ≤ m := e3
    have hdv : m / (2 * q) = M := by rw [← hk]; exact hdiv
    have hdv2 : (m : Int) / ((2 * q : Nat) : Int) = (M : Int) := by rw [← Int.natCast_ediv, hdv]
    rw [Option.bind_some, hdv2, wr (i := (M : Int)) (by omega) (by omega), mask1 _ (by omega) (by omega), wu (i := (q : Int)) (by omega) (by omega), wu (i := (m : Int) - q) (by omega) (by omega), wu (i := (m : Int) + q) (by omega) (by omega)]
    unfold pOf
    simp only [Option.some.injEq, Prod.mk.injEq]
    refine ⟨by decide +kernel, ?_, ?_, ?_⟩ <;> omega
/-- What shortFloat gives: D units of 10^rp, that is t units of 10^-p. -/
def Short (b L : Nat) (ue : Int) (M : Nat) : Prop :=
  ∃ (D t : Nat) (rp p : Int), strconv_shortFloat.f ((M * 2 ^ (64 - L) : Nat) : Int) (ue - ((64 - L : Nat) : Int)) = some ((D : Int), rp) ∧ Within M ue p t (lowB b) ∧
    ((rp = -p ∧ D = t) ∨ (rp = 1 - p ∧ D * 10 = t)) ∧ D < 10 ^ 18 ∧ 0 < D ∧ -300 ≤ p ∧ p ≤ 330
theorem t_small {M U D t : Nat} (hM : M < 9007199254740992) (hU : U < 10 * D) (h : 2 * t * D ≤ (2 * M + 1) * U) (hD : 0 < D) : t < 10 ^ 18 := by
  have h1 : (2 * M + 1) * U ≤ (2 * M + 1) * (10 * D) := Nat.mul_le_mul_left _ (Nat.le_of_lt hU)
  have h2 : 2 * t * D ≤ (2 * M + 1) * 10 * D := by rw [Nat.mul_assoc (2 * M + 1)]; omega
  have h3 := Nat.le_of_mul_le_mul_right h2 hD
  omega
theorem short_with {b L M hi lo : Nat} {ue p : Int} (hL : 1 ≤ L ∧ L ≤ 53) (hM : M < 2 ^ L) (hM53 : M < 9007199254740992) (hue : -1074 ≤ ue ∧ ue ≤ 971) (hlow : lowB b = false) (hMp : 0 < M)
    (hmid : strconv_shortFloat.mid ((M * 2 ^ (64 - L) : Nat) : Int) (ue - ((64 - L : Nat) : Int)) = some (p, (((2 * M - 1) * 2 ^ (63 - L) : Nat) : Int), (((2 * M + 1) * 2 ^ (63 - L) : Nat) : Int), ((M % 2 : Nat) : Int)))
    (F : Fac (uOf ue p) (dOf ue p) (pnOf p) (pdOf p) (pmOf p) (sOf ue p).toNat (gOf ue p)) (hs0 : 0 ≤ sOf ue p) (hpr : -348 ≤ p ∧ p ≤ 347) (hpt : -300 ≤ p ∧ p ≤ 330)
    (t1 : pHi (p + 348).toNat = (hi : Int)) (t2 : pLo (p + 348).toNat = (lo : Int)) (t3 : hi < 2 ^ 64) (t4 : lo < 2 ^ 64) (t5 : hi * 2 ^ 64 = pmOf p + lo) : Short b L ue M := by
  have hk : 2 ^ (64 - L) = 2 * 2 ^ (63 - L) := by rw [← Nat.pow_succ']; congr 1; omega
  have hP : M * 2 ^ (64 - L) = 2 * M * 2 ^ (63 - L) := by rw [hk, ← Nat.mul_assoc, Nat.mul_comm M 2]
  have h64 : 2 ^ L * 2 ^ (64 - L) = 18446744073709551616 := by rw [← Nat.pow_add, show L + (64 - L) = 64 by omega]
  have hlt : 2 * 2 ^ L * 2 ^ (63 - L) = 18446744073709551616 := by rw [← h64, hk, Nat.mul_comm 2 (2 ^ L), Nat.mul_assoc]
  have hpd : 0 < pdOf p := Nat.mul_pos (Nat.pow_pos (by decide)) (Nat.two_pow_pos _)
  obtain ⟨e, he, hep⟩ := ceil_ok (pn := pnOf p) hpd
  have he : pmOf p * pdOf p = pnOf p + e := he
  have hs11 := F.s11
  have hD := F.d0
  have hUD := F.ud
  have hsE : (sOf ue p) = (((sOf ue p).toNat : Nat) : Int) := by omega
  obtain ⟨s, hs⟩ : ∃ s, s = (sOf ue p).toNat := ⟨_, rfl⟩
  rw [← hs] at F hs11 hsE
  have h2 : 2 ^ (63 - L) ≥ 1024 := Nat.pow_le_pow_right (n := 2) (i := 10) (by omega) (by omega)
  -- the three that are scaled
  have key : ∀ y : Nat, 0 < y → y ≤ 2 * M + 1 → strconv_uscale.f ((y * 2 ^ (63 - L) : Nat) : Int) (hi : Int) (lo : Int) ((s + (63 - L - 10) : Nat) : Int) = some (((unr (y * (2 * uOf ue p)) (dOf ue p) : Nat) : Int), (hi : Int), (lo : Int), ((s + (63 - L - 10) : Nat) : Int)) ∧ unr (y * (2 * uOf ue p)) (dOf ue p) < 2 ^ 62 := by
    intro y hy0 hy
    have hyx : y * 2 ^ (63 - L) < 18446744073709551616 := by
      rw [← hlt]; exact Nat.mul_lt_mul_of_pos_right (by omega) (Nat.two_pow_pos _)
    have hu := usc_unr (y := y) (k := 63 - L) F t4 t5 he hep hy0 (by omega) (by omega) (by omega)
    have hyb : 2 ≤ y * 2 ^ (63 - L) := Nat.le_trans (by omega : 2 ≤ 1 * 2 ^ (63 - L)) (Nat.mul_le_mul_right _ hy0)
    have hsc := uscale_eq (y * 2 ^ (63 - L)) hi lo (s + (63 - L - 10)) hyx (by omega) (by omega) (by omega) (hi_big t5 F.a0 hyb)
    rw [hu] at hsc
    refine ⟨hsc, ?_⟩
    have : unr (y * (2 * uOf ue p)) (dOf ue p) ≤ y * 20 := unr_lt hD (by
      have h1 : 2 * uOf ue p < 20 * dOf ue p := by omega
      have := Nat.mul_lt_mul_of_pos_left h1 hy0
      rw [Nat.mul_assoc]; exact this)
    omega
  obtain ⟨k1, b1⟩ := key (2 * M - 1) (by omega) (by omega)
  obtain ⟨k2, b2⟩ := key (2 * M + 1) (by omega) (by omega)
  obtain ⟨k3, b3⟩ := key (2 * M) (by omega) (by omega)
  rw [← hP] at k3
  have hou : M % 2 ≤ unr ((2 * M + 1) * (2 * uOf ue p)) (dOf ue p) := by
    have := unr_pos (a := (2 * M + 1) * (2 * uOf ue p)) hD (Nat.mul_pos (by omega) (by have := F.du; omega))
    omega
  have ht := tail_eq k1 k2 k3 b1 b2 b3 (show M % 2 ≤ 1 by omega) hou (p := p) (by omega)
  obtain ⟨q1, q2, q3⟩ := pick_ok (M := M) (U := uOf ue p) (D := dOf ue p) hD F.du hMp rfl
  obtain ⟨r, hr⟩ : ∃ r, r = pick (unr ((2 * M - 1) * (2 * uOf ue p)) (dOf ue p)) (unr ((2 * M + 1) * (2 * uOf ue p)) (dOf ue p)) (unr (2 * M * (2 * uOf ue p)) (dOf ue p)) (M % 2) := ⟨_, rfl⟩
  rw [← hr] at ht q1 q2 q3
  have hts := t_small hM53 hUD (Nat.le_trans (Nat.le_add_right _ _) q3) hD
  refine ⟨r.1, pickT r, if r.2 = true then 1 - p else -p, p, ?_, ?_, ?_, ?_, ?_, hpt.1, hpt.2⟩
  · unfold strconv_shortFloat.f
    rw [hmid, Option.bind_some]
    dsimp only
    rw [if_pos hpr]
    unfold strconv_log2Pow10.f
    rw [Option.bind_some, wr (i := p * 108853) (by omega) (by omega), t1, t2]
    have e1 : wrap64 (-wrap64 (wrap64 (ue - ((64 - L : Nat) : Int) + p * 108853 / 32768) + 3)) = ((s + (63 - L - 10) : Nat) : Int) := by
      rw [wr (i := ue - ((64 - L : Nat) : Int) + p * 108853 / 32768) (by omega) (by omega), wr (i := ue - ((64 - L : Nat) : Int) + p * 108853 / 32768 + 3) (by omega) (by omega), wr (by omega) (by omega)]
      unfold sOf lpOf at hsE
      omega
    rw [e1]
    exact ht
  · unfold Within
    rw [hlow, if_neg (by decide)]
    exact ⟨q1, q3, q2⟩
  · unfold pickT
    by_cases c : r.2 = true
    · rw [if_pos c, if_pos c]; exact .inr ⟨rfl, rfl⟩
    · rw [if_neg c, if_neg c]; exact .inl ⟨rfl, rfl⟩
  · unfold pickT at hts; split at hts <;> omega
  · unfold pickT at q1; split at q1 <;> omega
theorem short_main {b L : Nat} (hb0 : 0 < b) (hb : b < 9218868437227405312) (hL : 1 ≤ L ∧ L ≤ 53) (hM0 : 2 ^ (L - 1) ≤ mB b) (hM : mB b < 2 ^ L) (hsub : L < 53 → eB b = -1074) (hno : ¬ (mB b = 4503599627370496 ∧ -1074 < eB b)) : Short b L (eB b) (mB b) := by
  have hmb := mB_lt hb
  have hmid := mid_eq hL hM0 hM hmb.2 hsub hno
  have hlow : lowB b = false := by
    unfold lowB
    rw [decide_eq_false_iff_not]
    rintro ⟨g1, g2⟩
    apply hno
    unfold mB eB
    rw [if_neg (by omega), if_neg (by omega)]
    omega
  have hMp : 0 < mB b := Nat.lt_of_lt_of_le (Nat.two_pow_pos _) hM0
  obtain ⟨F, hs0⟩ := facts hmb.2.1 hmb.2.2
  have hpr : -348 ≤ pOf (eB b) ∧ pOf (eB b) ≤ 347 := by unfold pOf; omega
  obtain ⟨hi, lo, t1, t2, t3, t4, t5⟩ := tab_at hpr.1 hpr.2
  exact short_with hL hM hmb.1 hmb.2 hlow hMp hmid F hs0 hpr (by unfold pOf; omega) t1 t2 t3 t4 t5
/-- At the least mantissa. -/
theorem mid_skew {ue : Int} (hue : -1074 < ue ∧ ue ≤ 971) :
    strconv_shortFloat.mid 9223372036854775808 (ue - 11) = some (skP ue, (((4 * 2 ^ 52 - 1) * 2 ^ 9 : Nat) : Int), (((2 * 2 ^ 52 + 1) * 2 ^ 10 : Nat) : Int), ((0 : Nat) : Int)) := by
  unfold strconv_shortFloat.mid
  rw [if_pos (by omega)]
  unfold strconv_skewed.f skP
  rw [Option.bind_some, show ue - 11 + 11 = ue by omega, wr (i := ue * 631305) (by omega) (by omega), wr (i := ue * 631305 - 261663) (by omega) (by omega), wr (by omega) (by omega), mask1 _ (by omega) (by omega)]
  rfl
theorem pickT_le {a b c o B : Nat} (ha : a < 4 * B) (hb : b < 4 * B) (hc : c < 4 * B) (ho : o ≤ 1) : pickT (pick a b c o) ≤ B + 1 := by
  unfold pick pickT
  by_cases c1 : (a + o + 3) / 4 ≤ (b - o) / 4 / 10 * 10
  · simp only [if_pos c1]
    rw [if_pos trivial]; omega
  · simp only [if_neg c1]
    by_cases c2 : (a + o + 3) / 4 < (b - o) / 4
    · simp only [if_pos c2]
      rw [if_neg (by decide)]; omega
    · simp only [if_neg c2]
      rw [if_neg (by decide)]; omega
theorem short_skew {b : Nat} (hb0 : 0 < b) (hb : b < 9218868437227405312) (hM : mB b = 4503599627370496) (hue : -1074 < eB b) : Short b 53 (eB b) 4503599627370496 := by
  have hmb := mB_lt hb
  have hlow : lowB b = true := by
    unfold lowB
    rw [decide_eq_true_eq]
    unfold mB at hM
    unfold eB at hue
    split at hue
    · omega
    · rename_i c
      rw [if_neg c] at hM
      omega
  have hmid := mid_skew (ue := eB b) ⟨hue, hmb.2.2⟩
  have h1 := skews (ue := eB b) (by omega) hmb.2.2
  have h2 := skewCs (ue := eB b) (by omega) hmb.2.2
  obtain ⟨ue, hu⟩ : ∃ ue, ue = eB b := ⟨_, rfl⟩
  rw [← hu] at hmid h1 h2 hmb ⊢
  obtain ⟨p, hp⟩ : ∃ p, p = skP ue := ⟨_, rfl⟩
  rw [← hp] at hmid h1 h2
  unfold skewB skewT at h1
  unfold skewC at h2
  simp only [Bool.and_eq_true, Nat.blt_eq, Nat.ble_eq, decide_eq_true_eq] at h1 h2
  obtain ⟨⟨⟨⟨⟨⟨a1, a2⟩, a3⟩, a4⟩, a5⟩, a6⟩, a7⟩ := h1
  obtain ⟨⟨⟨c1, c2⟩, c3⟩, c4⟩ := h2
  obtain ⟨hi, lo, t1, t2, t3, t4, t5⟩ := tab_at (p := p) (by omega) (by omega)
  have ehi : (pmOf p + 2 ^ 64 - 1) / 2 ^ 64 = hi := by omega
  have elo : hi * 2 ^ 64 - pmOf p = lo := by omega
  rw [ehi, elo] at a1 a2 a3 c1 c2 c3
  obtain ⟨s, hs⟩ : ∃ s, s = (sOf ue p).toNat := ⟨_, rfl⟩
  rw [← hs] at a1 a2 a3 a5 c1 c2 c3
  have k1 := uscale_eq ((4 * 2 ^ 52 - 1) * 2 ^ 9) hi lo s (by decide) (by omega) (by omega) (by omega) (hi_big t5 c4 (by decide))
  have k2 := uscale_eq ((2 * 2 ^ 52 + 1) * 2 ^ 10) hi lo s (by decide) (by omega) (by omega) (by omega) (hi_big t5 c4 (by decide))
  have k3 := uscale_eq (2 ^ 63) hi lo s (by decide) (by omega) (by omega) (by omega) (hi_big t5 c4 (by decide))
  have ht := tail_eq k1 k2 k3 (by omega) (by omega) (by omega) (show 0 ≤ 1 by omega) (Nat.zero_le _) (p := p) (by omega)
  have hts := pickT_le (B := 2 ^ 57) (o := 0) (show usc ((4 * 2 ^ 52 - 1) * 2 ^ 9) hi lo s < 4 * 2 ^ 57 by omega) (show usc ((2 * 2 ^ 52 + 1) * 2 ^ 10) hi lo s < 4 * 2 ^ 57 by omega) (show usc (2 ^ 63) hi lo s < 4 * 2 ^ 57 by omega) (by omega)
  obtain ⟨r, hr⟩ : ∃ r, r = pick (usc ((4 * 2 ^ 52 - 1) * 2 ^ 9) hi lo s) (usc ((2 * 2 ^ 52 + 1) * 2 ^ 10) hi lo s) (usc (2 ^ 63) hi lo s) 0 := ⟨_, rfl⟩
  rw [← hr] at ht hts a1 a2 a3
  refine ⟨r.1, pickT r, if r.2 = true then 1 - p else -p, p, ?_, ?_, ?_, ?_, ?_, by unfold skP at hp; omega, by unfold skP at hp; omega⟩
  · unfold strconv_shortFloat.f
    have e0 : ((4503599627370496 * 2 ^ (64 - 53) : Nat) : Int) = 9223372036854775808 := by decide
    have e00 : ((64 - 53 : Nat) : Int) = 11 := by decide
    rw [e0, e00, hmid, Option.bind_some]
    dsimp only
    rw [if_pos (by omega)]
    unfold strconv_log2Pow10.f
    rw [Option.bind_some, wr (i := p * 108853) (by omega) (by omega), t1, t2]
    have e1 : wrap64 (-wrap64 (wrap64 (ue - 11 + p * 108853 / 32768) + 3)) = ((s : Nat) : Int) := by
      rw [wr (i := ue - 11 + p * 108853 / 32768) (by omega) (by omega), wr (i := ue - 11 + p * 108853 / 32768 + 3) (by omega) (by omega), wr (by omega) (by omega)]
      rw [hs]
      unfold sOf lpOf at a4 ⊢
      omega
    rw [e1]
    exact ht
  · unfold Within
    rw [hlow, if_pos rfl]
    refine ⟨a1, ?_, ?_⟩
    · have e1 : (2 * 4503599627370496 + 1 : Nat) = 2 * 2 ^ 52 + 1 := by decide
      have e2 : (4503599627370496 % 2 : Nat) = 0 := by decide
      rw [e1, e2]; exact a3
    · have e1 : (4 * 4503599627370496 - 1 : Nat) = 4 * 2 ^ 52 - 1 := by decide
      rw [e1]; exact a2
  · unfold pickT
    by_cases c : r.2 = true
    · rw [if_pos c, if_pos c]; exact .inr ⟨rfl, rfl⟩
    · rw [if_neg c, if_neg c]; exact .inl ⟨rfl, rfl⟩
  · unfold pickT at hts; split at hts <;> omega
  · unfold pickT at a1; split at a1 <;> omega
/-- Of every finite float64 that is not zero. -/
theorem short_ok {b L : Nat} (hb0 : 0 < b) (hb : b < 9218868437227405312) (hL : 1 ≤ L ∧ L ≤ 53) (hM0 : 2 ^ (L - 1) ≤ mB b) (hM : mB b < 2 ^ L) : Short b L (eB b) (mB b) := by
  have hsub : L < 53 → eB b = -1074 := by
    intro h
    have h1 : 2 ^ L ≤ 2 ^ 52 := Nat.pow_le_pow_right (by omega) (by omega)
    unfold mB at hM
    unfold eB
    split
    · rfl
    · rename_i c
      rw [if_neg c] at hM
      omega
  by_cases c : mB b = 4503599627370496 ∧ -1074 < eB b
  · have hL53 : L = 53 := by
      apply Classical.byContradiction
      intro h
      have := hsub (by omega)
      omega
    rw [hL53, c.1]
    exact short_skew hb0 hb c.1 c.2
  · exact short_main hb0 hb hL hM0 hM hsub c
end Go.Proofs.YthbmfhkpkkgdnaaGreatDoor.U

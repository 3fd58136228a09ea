/- What uscale gives, in natural numbers. -/
import Derived.Test.YthbmfhkpkkgdnaaGreatDoorQ4
import Derived.Test.YthbmfhkpkkgdnaaGreatDoorUj
import Derived.Lib.Mul64
import Derived.Laws.BitsLemmas
namespace Go.Proofs.YthbmfhkpkkgdnaaGreatDoor.U
open Go.RowKit Go.Proofs.YthbmfhkpkkgdnaaGreatDoorW.PrintWords Go.Proofs.YthbmfhkpkkgdnaaGreatDoorW.PrintLast Go.Proofs.YthbmfhkpkkgdnaaGreatDoorW.PrintMore Go.Proofs.YthbmfhkpkkgdnaaGreatDoor.Q Go.Proofs.YthbmfhkpkkgdnaaGreatDoor.F
set_option linter.unusedVariables false
theorem or_N (a b : Nat) (ha : a < 18446744073709551616) (hb : b < 18446744073709551616) : Go.bits .or .u64 (a : Int) (b : Int) = ((a ||| b : Nat) : Int) :=
  (bits_nat .u64 64 (by decide) wraps_u64 a b (by omega) (by omega)).2
theorem mask32 (a : Nat) (ha : a < 18446744073709551616) : Go.bits .and .u64 (a : Int) 4294967295 = ((a % 4294967296 : Nat) : Int) := by
  have h := bits_mask .u64 64 (by decide) wraps_u64 32 (by decide) (a : Int) (by omega) (by omega)
  have e : (2 : Int) ^ 32 - 1 = 4294967295 := by decide
  have e2 : (2 : Int) ^ 32 = 4294967296 := by decide
  rw [e, e2] at h
  rw [h]; omega
theorem div32 (a : Nat) : (a : Int) / 4294967296 = ((a / 4294967296 : Nat) : Int) := by omega
theorem mul_N (a b : Nat) : (a : Int) * (b : Int) = ((a * b : Nat) : Int) := (Int.natCast_mul a b).symm
theorem add_N (a b : Nat) : (a : Int) + (b : Int) = ((a + b : Nat) : Int) := (Int.natCast_add a b).symm
theorem wrap_N (a : Nat) (ha : a < 18446744073709551616) : IntKind.u64.wrap (a : Int) = (a : Int) := wu (by omega) (by omega)
theorem wrap_M (a : Nat) : IntKind.u64.wrap (a : Int) = ((a % 18446744073709551616 : Nat) : Int) := by rw [IntKind.wrap_u64]; omega
/-- Mul64 is the product of 128 bits. -/
theorem mul64_eq (x y : Nat) (hx : x < 18446744073709551616) (hy : y < 18446744073709551616) :
    bits_Mul64.f (x : Int) (y : Int) = some (((x * y / 18446744073709551616 : Nat) : Int), ((x * y % 18446744073709551616 : Nat) : Int)) := by
  obtain ⟨bd, bt, bw, hhi⟩ := Lib.mul64_hi x y hx hy
  have ba := Lib.half_mul_le (a := x / 4294967296) (b := y / 4294967296) (by omega) (by omega)
  have bb := Lib.half_mul_le (a := x / 4294967296) (b := y % 4294967296) (by omega) (by omega)
  have bc := Lib.half_mul_le (a := x % 4294967296) (b := y / 4294967296) (by omega) (by omega)
  have ba' : x / 4294967296 * (y / 4294967296) < 18446744073709551616 := by omega
  have bb' : x / 4294967296 * (y % 4294967296) < 18446744073709551616 := by omega
  have bc' : x % 4294967296 * (y / 4294967296) < 18446744073709551616 := by omega
  have bh1 : x / 4294967296 * (y / 4294967296) + (x / 4294967296 * (y % 4294967296) + x % 4294967296 * (y % 4294967296) / 4294967296) / 4294967296 < 18446744073709551616 := by omega
  have bh : x / 4294967296 * (y / 4294967296) + (x / 4294967296 * (y % 4294967296) + x % 4294967296 * (y % 4294967296) / 4294967296) / 4294967296 + ((x / 4294967296 * (y % 4294967296) + x % 4294967296 * (y % 4294967296) / 4294967296) % 4294967296 + x % 4294967296 * (y / 4294967296)) / 4294967296 < 18446744073709551616 := by omega
  unfold bits_Mul64.f
  simp only [mask32 x hx, mask32 y hy, div32, mul_N, add_N, wrap_N _ bd, wrap_N _ bb', wrap_N _ bt, mask32 _ bt, wrap_N _ bc', wrap_N _ bw, wrap_N _ ba', wrap_N _ bh1, wrap_N _ bh, wrap_M (x * y)]
  rw [hhi]
theorem and63 (s : Nat) (hs : s ≤ 63) : Go.bits .and .i64 (s : Int) 63 = (s : Int) := by
  have h := bits_mask .i64 63 (by decide) (fun n h0 h1 => by rw [IntKind.wrap_i64]; omega) 6 (by decide) (s : Int) (by omega) (by omega)
  have e : (2 : Int) ^ 6 - 1 = 63 := by decide
  have e2 : (2 : Int) ^ 6 = 64 := by decide
  rw [e, e2] at h
  rw [h]; omega
theorem shr_N (h s : Nat) (hs : s ≤ 63) : shr .u64 (h : Int) (s : Int) = ((h / 2 ^ s : Nat) : Int) := by
  unfold shr
  rw [Int.toNat_natCast, Nat.min_eq_left (show s ≤ IntKind.u64.bits from Nat.le_trans hs (by decide))]
  simp
theorem shl_N (h s : Nat) (hs : s ≤ 63) (hh : h * 2 ^ s < 18446744073709551616) : shl .u64 (h : Int) (s : Int) = ((h * 2 ^ s : Nat) : Int) := by
  unfold shl
  rw [Int.toNat_natCast, Nat.min_eq_left (show s ≤ IntKind.u64.bits from Nat.le_trans hs (by decide))]
  rw [show (h : Int) * 2 ^ s = ((h * 2 ^ s : Nat) : Int) by simp, wrap_N _ hh]
theorem half_lt {x y : Nat} (hx : x < 18446744073709551616) (hy : y < 18446744073709551616) : x * y / 18446744073709551616 < 18446744073709551616 := by
  refine Nat.div_lt_of_lt_mul ?_
  exact Nat.mul_lt_mul_of_lt_of_lt hx hy
/-- uscale, in natural numbers. -/
theorem uscale_eq (x hi lo s : Nat) (hx : x < 18446744073709551616) (hhi : hi < 18446744073709551616) (hlo : lo < 18446744073709551616) (hs : s ≤ 63) (h0 : 0 < x * hi / 18446744073709551616) :
    strconv_uscale.f (x : Int) (hi : Int) (lo : Int) (s : Int) = some (((usc x hi lo s : Nat) : Int), (hi : Int), (lo : Int), (s : Int)) := by
  have e64 : (2 : Nat) ^ 64 = 18446744073709551616 := by decide
  unfold strconv_uscale.f usc
  rw [e64, mul64_eq x hi hx hhi, Option.bind_some, and63 s hs, if_pos (by omega)]
  obtain ⟨h, hh⟩ : ∃ h, h = x * hi / 18446744073709551616 := ⟨_, rfl⟩
  obtain ⟨m, hm⟩ : ∃ m, m = x * hi % 18446744073709551616 := ⟨_, rfl⟩
  have hm1 : m < 18446744073709551616 := by omega
  have hh1 : h < 18446744073709551616 := hh ▸ half_lt hx hhi
  rw [← hh] at h0
  rw [← hh, ← hm]
  have hle : h / 2 ^ s * 2 ^ s ≤ h := Nat.div_mul_le_self ..
  have hd : h / 2 ^ s ≤ h := Nat.div_le_self ..
  dsimp only
  rw [shr_N h s hs, shl_N (h / 2 ^ s) s hs (by omega)]
  by_cases c : h / 2 ^ s * 2 ^ s = h
  · rw [if_pos (by rw [c]), if_neg (by rw [c]; exact fun e => e rfl), mul64_eq x lo hx hlo]
    obtain ⟨m2, hm2⟩ : ∃ m2, m2 = x * lo / 18446744073709551616 := ⟨_, rfl⟩
    have hm21 : m2 < 18446744073709551616 := hm2 ▸ half_lt hx hlo
    rw [← hm2, Option.bind_some]
    dsimp only
    have e1 : IntKind.u64.wrap ((m : Int) - (m2 : Int)) = (((m + 18446744073709551616 - m2) % 18446744073709551616 : Nat) : Int) := by rw [IntKind.wrap_u64]; omega
    have key : ∀ t1 t2 : Nat, t1 ≤ 1 → t2 ≤ 1 → Go.bits .or .u64 (shr .u64 (IntKind.u64.wrap ((h : Int) - (t1 : Int))) (s : Int)) (t2 : Int) = ((((h - t1) / 2 ^ s) ||| t2 : Nat) : Int) := by
      intro t1 t2 h1 h2
      rw [show (h : Int) - (t1 : Int) = ((h - t1 : Nat) : Int) by omega, wrap_N _ (by omega), shr_N _ _ hs]
      have : (h - t1) / 2 ^ s ≤ h - t1 := Nat.div_le_self ..
      exact or_N _ _ (by omega) (by omega)
    unfold strconv_bool2_uint64.f
    rw [e1]
    by_cases c1 : m < m2
    · rw [if_pos (decide_eq_true (by omega)), Option.bind_some, if_pos c1]
      by_cases c2 : (m + 18446744073709551616 - m2) % 18446744073709551616 > 1
      · rw [if_pos (decide_eq_true (by omega)), Option.bind_some, if_pos c2]
        rw [show (1 : Int) = ((1 : Nat) : Int) by rfl, key 1 1 (by omega) (by omega)]
      · rw [if_neg (by rw [decide_eq_true_eq]; omega), Option.bind_some, if_neg c2]
        rw [show (1 : Int) = ((1 : Nat) : Int) by rfl, show (0 : Int) = ((0 : Nat) : Int) by rfl, key 1 0 (by omega) (by omega)]
    · rw [if_neg (by rw [decide_eq_true_eq]; omega), Option.bind_some, if_neg c1]
      by_cases c2 : (m + 18446744073709551616 - m2) % 18446744073709551616 > 1
      · rw [if_pos (decide_eq_true (by omega)), Option.bind_some, if_pos c2]
        rw [show (1 : Int) = ((1 : Nat) : Int) by rfl, show (0 : Int) = ((0 : Nat) : Int) by rfl, key 0 1 (by omega) (by omega)]
      · rw [if_neg (by rw [decide_eq_true_eq]; omega), Option.bind_some, if_neg c2]
        rw [show (0 : Int) = ((0 : Nat) : Int) by rfl, key 0 0 (by omega) (by omega)]
  · rw [if_neg (by omega), if_pos c]
    rw [show (1 : Int) = ((1 : Nat) : Int) by rfl, or_N _ 1 (by omega) (by omega)]
end Go.Proofs.YthbmfhkpkkgdnaaGreatDoor.U

import Derived.Test.YthbmfhkpkkgdnaaGreatDoorT17
import Derived.Laws.FloatArith
namespace Go.Proofs.YthbmfhkpkkgdnaaGreatDoor.Q
open Go.RowKit Go.Proofs.YthbmfhkpkkgdnaaGreatDoorW.PrintWords Go.Proofs.YthbmfhkpkkgdnaaGreatDoorW.PrintLast Go.Proofs.YthbmfhkpkkgdnaaGreatDoorW.PrintMore
attribute [local go_sem] max2_int min2_int max_two min_two max_three min_three max_four min_four
set_option linter.unusedVariables false
set_option linter.unusedSimpArgs false
theorem dbl : Ieee.double.signWeight = 9223372036854775808 ∧ Ieee.double.binade = 4503599627370496 ∧ Ieee.double.infRung = 9218868437227405312 := by decide
/-- A finite word is a number. -/
theorem read_fin {b : Nat} (h : b % 9223372036854775808 < 9218868437227405312) : ∃ s m i, Ieee.double.read b = .number s m i := by
  unfold Ieee.Format.read
  simp only [dbl.1, dbl.2.1, dbl.2.2]
  split
  · exact ⟨_, _, _, rfl⟩
  · exact ⟨_, _, _, rfl⟩
theorem read_inf {b : Nat} (h : ¬ b % 9223372036854775808 < 9218868437227405312) : (∃ s, Ieee.double.read b = .infinity s) ∨ ∃ s f, Ieee.double.read b = .nan s f := by
  unfold Ieee.Format.read
  simp only [dbl.1, dbl.2.1, dbl.2.2]
  rw [if_neg (by omega), if_neg h]
  split
  · exact .inl ⟨_, rfl⟩
  · exact .inr ⟨_, _, rfl⟩
theorem sub_self_fin {b : Nat} (h : b % 9223372036854775808 < 9218868437227405312) : floatBits .sub .f64 b b = some 0 := by
  obtain ⟨s, m, i, hr⟩ := read_fin h
  show Ieee.double.sub b b = some 0
  unfold Ieee.Format.sub
  rw [hr]
  have e : ∀ n : Nat, Ieee.signed s m n + Ieee.signed (!s) m n = 0 := by
    intro n
    unfold Ieee.signed
    cases s <;> simp <;> omega
  simp only [Ieee.Datum.opposite, Ieee.Datum.sum, Option.map_some, e]
  cases s <;> simp [Ieee.Format.write, Ieee.Format.nearest, Ieee.Format.word]
theorem sub_self_inf {b : Nat} (h : ¬ b % 9223372036854775808 < 9218868437227405312) : Ieee.double.sub b b = none := by
  unfold Ieee.Format.sub
  rcases read_inf h with ⟨s, hr⟩ | ⟨s, f, hr⟩ <;> rw [hr]
  · cases s <;> simp [Ieee.Datum.opposite, Ieee.Datum.sum]
  · simp [Ieee.Datum.opposite, Ieee.Datum.sum]
theorem order_self {b : Nat} (h : b % 9223372036854775808 < 9218868437227405312) : Ieee.double.order b b = some .eq := by
  obtain ⟨s, m, i, hr⟩ := read_fin h
  unfold Ieee.Format.order
  rw [hr]
  simp only [Ieee.Datum.order]
  congr 1
  simp
theorem order_nan {t : Nat} : Ieee.double.order (t % 2 * 2 ^ 63 + 9218868437227405312 + 1 + t / 2 % (2 ^ 52 - 1)) 0 = none := by
  have e : (t % 2 * 2 ^ 63 + 9218868437227405312 + 1 + t / 2 % (2 ^ 52 - 1)) % 9223372036854775808 = 9218868437227405312 + 1 + t / 2 % (2 ^ 52 - 1) := by omega
  unfold Ieee.Format.order
  have hr : ∃ s f, Ieee.double.read (t % 2 * 2 ^ 63 + 9218868437227405312 + 1 + t / 2 % (2 ^ 52 - 1)) = .nan s f := by
    unfold Ieee.Format.read
    simp only [dbl.1, dbl.2.1, dbl.2.2, e]
    rw [if_neg (by omega), if_neg (by omega), if_neg (by omega)]
    exact ⟨_, _, rfl⟩
  obtain ⟨s, f, hr⟩ := hr
  rw [hr]
  simp [Ieee.Datum.order]
theorem run_sub_fin {b : Nat} (h : b % 9223372036854775808 < 9218868437227405312) (W : World) : (binOp .sub 22 (.float .f64 b) (.float .f64 b)).run Tryz.prog W = .ok (.float .f64 0) W := run_float_arith W .sub 22 .f64 b b 0 (sub_self_fin h)
theorem run_sub_inf {b : Nat} (h : ¬ b % 9223372036854775808 < 9218868437227405312) (W : World) : ∃ t, (binOp .sub 22 (.float .f64 b) (.float .f64 b)).run Tryz.prog W = .ok (.float .f64 (t % 2 * 2 ^ 63 + 9218868437227405312 + 1 + t / 2 % (2 ^ 52 - 1))) W.drew := by
  refine ⟨W.tape W.drawn (.nanBits .f64 b b), ?_⟩
  have hs := sub_self_inf h
  have hs : FloatKind.f64.format.sub b b = none := hs
  simp [binOp, Op.floatArith, hs, Question.forced, Question.cut]
theorem run_neq_f (x y : Nat) (W : World) : (binOp .neq 22 (.float .f64 x) (.float .f64 y)).run Tryz.prog W = .ok (.bool (Ieee.double.order x y != some .eq)) W := by
  have h22 : Tryz.prog.underlying 22 = some (.float .f64) := Tryz.underlying22
  simp [binOp, Op.floatCmp, Op.equal, Op.maxDepth, Op.equalIn, run_underlying h22, Op.floatEq]
  rfl
theorem run_eql_f (x y : Nat) (W : World) : (binOp .eql 22 (.float .f64 x) (.float .f64 y)).run Tryz.prog W = .ok (.bool (Ieee.double.order x y == some .eq)) W := by
  have h22 : Tryz.prog.underlying 22 = some (.float .f64) := Tryz.underlying22
  simp [binOp, Op.equal, Op.maxDepth, Op.equalIn, run_underlying h22, Op.floatEq]
  rfl
set_option maxHeartbeats 8000000 in
set_option maxRecDepth 100000 in
theorem laws_FnFjBuildFloat.inf (b : Nat) (w : World) (hfin : ¬ b % 9223372036854775808 < 9218868437227405312) :
    Calls Tryz.prog 3 #[.float .f64 b] w fun e w' => e = .returned (.bool true) ∧ Below w.heap.size w w' := by
  obtain ⟨t, h1⟩ := run_sub_inf hfin w
  obtain ⟨r0, hr0⟩ : ∃ r0, t % 2 * 2 ^ 63 + 9218868437227405312 + 1 + t / 2 % (2 ^ 52 - 1) = r0 := ⟨_, rfl⟩
  have h2 : ∀ W : World, (binOp .neq 22 (.float .f64 r0) (.float .f64 0)).run Tryz.prog W = .ok (.bool true) W := fun W => by rw [run_neq_f, ← hr0, order_nan]; rfl
  have h2b : (FloatKind.f64.format.order r0 0 != some Ordering.eq) = true := by rw [show FloatKind.f64.format.order r0 0 = none by rw [← hr0]; exact order_nan]; rfl
  rw [hr0] at h1
  clear hr0 hfin h2
  go_enter Tryz.func3, Tryz.ntmps3
  go_wp2
  go_ret
  exact ⟨rfl, below_drew (Below.refl _ _)⟩
set_option maxHeartbeats 8000000 in
set_option maxRecDepth 100000 in
theorem laws_FnFjBuildFloat.fin (k k2 b : Nat) (r : List Int) (ng : Bool) (dg : ByteArray) (pw : Int) (w : World) (hb64 : b < 18446744073709551616) (hfin : b % 9223372036854775808 < 9218868437227405312) (h : Texts k [] b r) (hr : 0 < r.length) (hr2 : r.length ≤ 800)
    (hT : TabP w) (hU : TabU w) (h3 : 3 < w.heap.size) (hv : spec_Value.f k2 (strOfNums r) = some (ng, dg, pw)) (hn : spec_Nearest.f k2 ng dg pw = some (b : Int)) :
    Calls Tryz.prog 3 #[.float .f64 b] w fun e w' => e = .returned (.bool true) ∧ Below w.heap.size w w' := by
  have h1 := fun W => run_sub_fin hfin W
  have h2 : ∀ W : World, (binOp .neq 22 (.float .f64 0) (.float .f64 0)).run Tryz.prog W = .ok (.bool false) W := fun W => by rw [run_neq_f, order_self (by decide)]; rfl
  have h3e : ∀ W : World, (binOp .eql 22 (.float .f64 b) (.float .f64 b)).run Tryz.prog W = .ok (.bool true) W := fun W => by rw [run_eql_f, order_self hfin]; rfl
  have h2b : (FloatKind.f64.format.order 0 0 != some Ordering.eq) = false := by rw [show FloatKind.f64.format.order 0 0 = some .eq from order_self (by decide)]; rfl
  have h3b : (FloatKind.f64.format.order b b == some Ordering.eq) = true := by rw [show FloatKind.f64.format.order b b = some .eq from order_self hfin]; rfl
  have h3c : Op.floatEq .f64 b b = true := h3b
  have hsz : (strOfNums r).size = r.length := strOfNums_size r
  have c1 := Aside0.mk (impl_FjBuildFloat.calls k b r w hb64 hfin h hr (by omega) hT hU h3)
  have c2 := Aside0.mk (fun W => spec_NearestTo.calls k2 k2 (strOfNums r) ng dg pw b W (by omega) (by omega) hv hn)
  clear h hT hU hv hn hsz
  go_enter Tryz.func3, Tryz.ntmps3
  go_wp2_with (first | (go_at_call 4; (refine c1.out.mono ?_); rintro e w1 ⟨rfl, hB1⟩; have HB1 := Aside0.mk hB1; clear hB1) | (go_at_call 5; (refine (c2.out _).mono ?_); rintro e w2 ⟨rfl, hB2⟩; have HB2 := Aside0.mk (below_step HB1.out hB2); clear hB2))
  go_ret
  exact ⟨rfl, HB2.out⟩
end Go.Proofs.YthbmfhkpkkgdnaaGreatDoor.Q

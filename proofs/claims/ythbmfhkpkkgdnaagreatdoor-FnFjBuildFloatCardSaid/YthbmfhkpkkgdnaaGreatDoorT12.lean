import Derived.Test.YthbmfhkpkkgdnaaGreatDoorT11
namespace Go.Proofs.YthbmfhkpkkgdnaaGreatDoor.Q
open Go.RowKit Go.Proofs.YthbmfhkpkkgdnaaGreatDoorW.PrintWords Go.Proofs.YthbmfhkpkkgdnaaGreatDoorW.PrintLast Go.Proofs.YthbmfhkpkkgdnaaGreatDoorW.PrintMore
attribute [local go_sem] max2_int min2_int max_two min_two max_three min_three max_four min_four
set_option linter.unusedVariables false
set_option linter.unusedSimpArgs false
/-- The bits of the float nearest to a decimal within reach. -/
def spec_Nearest.f (k : Nat) (ng : Bool) (dg : ByteArray) (pw : Int) : Option Int :=
  if dg.toList = [] then some (if ng = true then Go.bits .or .u64 0 9223372036854775808 else 0)
  else if -400 ≤ wrap64 (pw + dg.size) ∧ wrap64 (pw + dg.size) ≤ 400 then (spec_nearest.f k ng dg pw).bind fun n => some (if ng = true then Go.bits .or .u64 n 9223372036854775808 else n)
  else none
set_option maxHeartbeats 8000000 in
set_option maxRecDepth 100000 in
theorem spec_Nearest.calls (k : Nat) (ng : Bool) (dg : ByteArray) (pw : Int) (r : Nat) (w : World) (h : spec_Nearest.f k ng dg pw = some (r : Int)) :
    Calls Tryz.prog 9 #[.agg #[.bool ng, .string dg, .int .i64 pw]] w fun e w' => e = .returned (.float .f64 r) ∧ Below w.heap.size w w' := by
  have hu37 := Tryz.underlying37
  have hfb := run_Float64frombits r
  have hh := Aside0.mk h
  clear h
  go_enter Tryz.func9, Tryz.ntmps9
  go_upto_region 4 with (fail)
  have BK := Aside0.mk (heap_alloc_new w (.cells #[.bool ng, .string dg, .int .i64 pw] 37))
  have HB := Aside0.mk (below_alloc (Below.refl w.heap.size w) (.cells #[.bool ng, .string dg, .int .i64 pw] 37))
  generalize World.alloc _ _ = wa at BK HB ⊢
  have hc0 : wa.cell? ⟨w.heap.size, 0, none⟩ = some (.bool ng) := (blk_cell BK.out 0).trans rfl
  have hc1 : wa.cell? ⟨w.heap.size, 1, none⟩ = some (.string dg) := (blk_cell BK.out 1).trans rfl
  have hc2 : wa.cell? ⟨w.heap.size, 2, none⟩ = some (.int .i64 pw) := (blk_cell BK.out 2).trans rfl
  have h := hh.out
  clear hh
  unfold spec_Nearest.f at h
  by_cases c : dg.toList = []
  · rw [if_pos c] at h
    have cd : decide (dg.toList = []) = true := decide_eq_true c
    cases ng with
    | true =>
      rw [if_pos rfl] at h
      have h := Option.some.inj h
      go_wp2
      go_ret
      exact ⟨rfl, HB.out⟩
    | false =>
      rw [if_neg (by decide)] at h
      have h := Option.some.inj h
      go_wp2
      go_ret
      exact ⟨rfl, HB.out⟩
  · rw [if_neg c] at h
    have cd : decide (dg.toList = []) = false := decide_eq_false c
    have ce : (dg.toList = []) = False := eq_false c
    have ci : dg.toList.isEmpty = false := by cases hq : dg.toList with | nil => exact absurd hq c | cons a b => rfl
    by_cases c2 : -400 ≤ wrap64 (pw + dg.size) ∧ wrap64 (pw + dg.size) ≤ 400
    · rw [if_pos c2] at h
      obtain ⟨n, A1, h⟩ := Option.bind_eq_some_iff.mp h
      have A1 := Aside0.mk A1
      obtain ⟨e0, he0⟩ : ∃ e0, wrap64 (pw + dg.size) = e0 := ⟨_, rfl⟩
      rw [he0] at c2 ⊢
      obtain ⟨e1, e2⟩ := c2
      have d1 : decide (e0 < -400) = false := decide_eq_false (by omega)
      have d2 : decide (400 < e0) = false := decide_eq_false (by omega)
      clear he0
      have h := Option.some.inj h
      clear c
      cases ng with
      | true =>
        rw [if_pos rfl] at h
        go_wp2_with (first | (go_at_call 19; (refine (spec_nearest.calls k true dg pw n _ A1.out).mono ?_); rintro e w9 ⟨rfl, hb9⟩; have BK9 := Aside0.mk (blk_below BK.out hb9); have HB9 := Aside0.mk (below_step HB.out hb9); clear hb9; have hd0 : w9.cell? ⟨w.heap.size, 0, none⟩ = some (.bool true) := (blk_cell BK9.out 0).trans rfl))
        go_ret
        exact ⟨rfl, HB9.out⟩
      | false =>
        rw [if_neg (by decide)] at h
        go_wp2_with (first | (go_at_call 19; (refine (spec_nearest.calls k false dg pw n _ A1.out).mono ?_); rintro e w9 ⟨rfl, hb9⟩; have BK9 := Aside0.mk (blk_below BK.out hb9); have HB9 := Aside0.mk (below_step HB.out hb9); clear hb9; have hd0 : w9.cell? ⟨w.heap.size, 0, none⟩ = some (.bool false) := (blk_cell BK9.out 0).trans rfl))
        go_ret
        exact ⟨rfl, HB9.out⟩
    · rw [if_neg c2] at h; exact absurd h (by simp)
end Go.Proofs.YthbmfhkpkkgdnaaGreatDoor.Q

import Derived.Test.YthbmfhkpkkgdnaaGreatDoorT12
namespace Go.Proofs.YthbmfhkpkkgdnaaGreatDoor.Q
open Go.RowKit Go.Proofs.YthbmfhkpkkgdnaaGreatDoorW.PrintWords Go.Proofs.YthbmfhkpkkgdnaaGreatDoorW.PrintLast Go.Proofs.YthbmfhkpkkgdnaaGreatDoorW.PrintMore
attribute [local go_sem] max2_int min2_int max_two min_two max_three min_three max_four min_four
set_option linter.unusedVariables false
set_option linter.unusedSimpArgs false
set_option maxHeartbeats 8000000 in
set_option maxRecDepth 100000 in
theorem spec_NearestTo.calls (k k2 : Nat) (s : ByteArray) (ng : Bool) (dg : ByteArray) (pw : Int) (r : Nat) (w : World) (hs : s.size ≤ 800) (hs0 : 0 < s.size) (hv : spec_Value.f k s = some (ng, dg, pw)) (h : spec_Nearest.f k2 ng dg pw = some (r : Int)) :
    Calls Tryz.prog 5 #[.string s] w fun e w' => e = .returned (.tuple #[.float .f64 r, .bool true]) ∧ Below w.heap.size w w' := by
  have hu37 := Tryz.underlying37
  have hh := Aside0.mk h
  have hv := Aside0.mk hv
  clear h
  have c1 : decide (800 < (s.size : Int)) = false := decide_eq_false (by omega)
  go_enter Tryz.func5, Tryz.ntmps5
  go_upto_region 4 with (first | (go_at_call 8; (refine (spec_Value.calls k s ng dg pw _ (by omega) hs0 hv.out).mono ?_); rintro e w9 ⟨rfl, hb9⟩; have HB9 := Aside0.mk hb9; clear hb9))
  have HB := Aside0.mk (below_alloc HB9.out (.cells #[.bool ng, .string dg, .int .i64 pw] 37))
  have BK := Aside0.mk (heap_alloc_new w9 (.cells #[.bool ng, .string dg, .int .i64 pw] 37))
  generalize World.alloc _ _ = wa at HB BK ⊢
  have hc0 : wa.cell? ⟨w9.heap.size, 0, none⟩ = some (.bool ng) := (blk_cell BK.out 0).trans rfl
  have hc1 : wa.cell? ⟨w9.heap.size, 1, none⟩ = some (.string dg) := (blk_cell BK.out 1).trans rfl
  have hc2 : wa.cell? ⟨w9.heap.size, 2, none⟩ = some (.int .i64 pw) := (blk_cell BK.out 2).trans rfl
  go_wp2_with (first | (go_at_call 9; (refine (spec_Nearest.calls k2 ng dg pw r _ hh.out).mono ?_); rintro e w10 ⟨rfl, hb9⟩; have HBz := Aside0.mk (below_step HB.out hb9); clear hb9))
  go_ret2
  exact ⟨rfl, HBz.out⟩
end Go.Proofs.YthbmfhkpkkgdnaaGreatDoor.Q

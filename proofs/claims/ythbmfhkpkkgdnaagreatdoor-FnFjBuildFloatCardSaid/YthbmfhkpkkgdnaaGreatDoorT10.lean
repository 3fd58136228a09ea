import Derived.Test.YthbmfhkpkkgdnaaGreatDoorQ6
import Derived.Test.YthbmfhkpkkgdnaaGreatDoorQ10
import Derived.Laws.Externs
namespace Go.Proofs.YthbmfhkpkkgdnaaGreatDoor.Q
open Go.RowKit Go.Proofs.YthbmfhkpkkgdnaaGreatDoorW.PrintWords Go.Proofs.YthbmfhkpkkgdnaaGreatDoorW.PrintLast Go.Proofs.YthbmfhkpkkgdnaaGreatDoorW.PrintMore
attribute [local go_sem] max2_int min2_int max_two min_two max_three min_three max_four min_four
set_option linter.unusedVariables false
set_option linter.unusedSimpArgs false
theorem run_Float64frombits (b : Nat) (w : World) : (callFunc 20 #[.int .u64 (b : Int)]).run Tryz.prog w = .ok (.value (.float .f64 b)) w := by
  rw [run_callFunc_extern Tryz.func20 (by kernel_rfl) (by kernel_rfl) (by kernel_rfl) (e := Extern.MathFloatBits.float64frombits) (by kernel_rfl)]
  rfl
def spec_IsNumber.f (k : Nat) (s : ByteArray) : Option Bool := (spec_reader_number.f k s 0).bind fun t => some (t.1 && (t.2.2 == (s.size : Int)))
set_option maxHeartbeats 8000000 in
set_option maxRecDepth 100000 in
theorem spec_IsNumber.calls (k : Nat) (s : ByteArray) (r : Bool) (w : World) (h : spec_IsNumber.f k s = some r) :
    Calls Tryz.prog 16 #[.string s] w fun e w' => e = .returned (.bool r) ∧ Below w.heap.size w w' := by
  unfold spec_IsNumber.f at h
  obtain ⟨⟨t1, t2, t3⟩, A1, h⟩ := Option.bind_eq_some_iff.mp h
  replace h := Option.some.inj h
  simp only at h
  subst h
  have A1 := Aside0.mk A1
  go_enter Tryz.func16, Tryz.ntmps16
  go_upto_region 2 with (fail)
  have HI := Aside0.mk (show IsS73 w (w.alloc (.cells #[.string s, .int .i64 0] 73)) w.heap.size s 0 from ⟨heap_alloc_new w _, Nat.le_refl _⟩)
  have HB := Aside0.mk (below_alloc (Below.refl w.heap.size w) (.cells #[.string s, .int .i64 0] 73))
  cases t1 with
  | true =>
    clear h
    go_wp2_with (first | ((with_reducible refine gate_callee (f := 24) rfl ?_); refine goesL_ (some 6) rfl rfl Tryz.func24 (by kernel_rfl) rfl #[.pointer (some ⟨w.heap.size, 0, none⟩)] rfl (by (try simp only [List.map_toArray, List.map_cons, List.map_nil]); first | done | rfl) ?_; (refine (spec_reader_number.calls k w.heap.size s 0 true t2 t3 w _ HI.out HB.out A1.out).mono ?_); rintro e w' ⟨rfl, hI2, hB2, hK2⟩; refine ⟨_, rfl, ?_⟩; have hc := cellS73_1 hI2.1; have HB2 := Aside0.mk hB2; clear hI2 hB2 hK2))
    go_ret
    exact ⟨by first | rfl | simp, HB2.out⟩
  | false =>
    clear h
    go_wp2_with (first | ((with_reducible refine gate_callee (f := 24) rfl ?_); refine goesL_ (some 6) rfl rfl Tryz.func24 (by kernel_rfl) rfl #[.pointer (some ⟨w.heap.size, 0, none⟩)] rfl (by (try simp only [List.map_toArray, List.map_cons, List.map_nil]); first | done | rfl) ?_; (refine (spec_reader_number.calls k w.heap.size s 0 false t2 t3 w _ HI.out HB.out A1.out).mono ?_); rintro e w' ⟨rfl, hI2, hB2, hK2⟩; refine ⟨_, rfl, ?_⟩; have hc := cellS73_1 hI2.1; have HB2 := Aside0.mk hB2; clear hI2 hB2 hK2))
    go_ret
    exact ⟨by first | rfl | simp, HB2.out⟩
end Go.Proofs.YthbmfhkpkkgdnaaGreatDoor.Q

/- Functions of the program as Lean functions, each with a proof that the call comes to what it gives. Written by prx.py (wip/pr). -/
import Derived.Test.YthbmfhkpkkgdnaaGreatDoorQ0
import Derived.Test.YthbmfhkpkkgdnaaGreatDoorQ8
import Derived.Test.YthbmfhkpkkgdnaaGreatDoorQ9
namespace Go.Proofs.YthbmfhkpkkgdnaaGreatDoor.Q
open Go.RowKit Go.Proofs.YthbmfhkpkkgdnaaGreatDoorW.PrintWords Go.Proofs.YthbmfhkpkkgdnaaGreatDoorW.PrintLast Go.Proofs.YthbmfhkpkkgdnaaGreatDoorW.PrintMore
attribute [local go_sem] max2_int min2_int max_two min_two max_three min_three max_four min_four   -- for this text's walks alone
set_option linter.unusedVariables false
set_option linter.unusedSimpArgs false

/-! ### spec_nearest: function 19 -/
def spec_nearest.l0 : Nat → Int → Int → Bool → ByteArray → Int → Option (Int)
  | 0, _, _, _, _, _ => none
  | k + 1, x3, x4, x442000, x442001, x442002 => if (IntKind.u64.wrap (x4 - x3)) > 1 then ((spec_binary.f (IntKind.u64.wrap (x3 + (IntKind.u64.wrap (Int.tdiv (IntKind.u64.wrap (x4 - x3)) 2))))).bind fun bt442 => ((spec_scaled.f k bt442.1 bt442.2 x442000 x442001 x442002).bind fun t444 => (if t444 ≤ 0 then (spec_nearest.l0 k (IntKind.u64.wrap (x3 + (IntKind.u64.wrap (Int.tdiv (IntKind.u64.wrap (x4 - x3)) 2)))) x4 x442000 x442001 x442002) else (spec_nearest.l0 k x3 (IntKind.u64.wrap (x3 + (IntKind.u64.wrap (Int.tdiv (IntKind.u64.wrap (x4 - x3)) 2)))) x442000 x442001 x442002)))) else ((spec_binary.f x3).bind fun bt445 => ((spec_scaled.f k (IntKind.u64.wrap ((IntKind.u64.wrap (2 * bt445.1)) + 1)) (wrap64 (bt445.2 - 1)) x442000 x442001 x442002).bind fun t447 => (if t447 < 0 then (some (IntKind.u64.wrap (x3 + 1))) else (if t447 = 0 then (if (Int.tmod bt445.1 2) = 1 then (some (IntKind.u64.wrap (x3 + 1))) else (some x3)) else (some x3)))))
def spec_nearest.f (k : Nat) (a0_0 : Bool) (a0_1 : ByteArray) (a0_2 : Int) : Option (Int) := spec_nearest.l0 k 0 9218868437227405312 a0_0 a0_1 a0_2
theorem spec_nearest.mono_l : ∀ k, (∀ y0 y1 y2 y3 y4, LeO (spec_nearest.l0 k y0 y1 y2 y3 y4) (spec_nearest.l0 (k + 1) y0 y1 y2 y3 y4))
  | 0 => fun _ _ _ _ _ r h => by simp [spec_nearest.l0] at h
  | k + 1 => by
    have ih0 := spec_nearest.mono_l k
    · intro y0 y1 y2 y3 y4
      unfold spec_nearest.l0
      repeat' first
      | (with_reducible exact ih0 _ _ _ _ _)
      | (with_reducible exact spec_scaled.mono _ _ _ _ _ _)
      | (with_reducible exact LeO.refl _)
      | (with_reducible exact LeO.none _)
      | (with_reducible refine LeO.ite ?_ ?_)
      | (with_reducible refine LeO.bind ?_ (fun _ => ?_))
      | exact ih0 _ _ _ _ _
      | exact spec_scaled.mono _ _ _ _ _ _
      | exact LeO.none _
      | refine LeO.ite ?_ ?_
      | refine LeO.bind ?_ (fun _ => ?_)
theorem spec_nearest.mono : ∀ a0 a1 a2 k, LeO (spec_nearest.f k a0 a1 a2) (spec_nearest.f (k + 1) a0 a1 a2) := by
  intro a0 a1 a2 k
  have ih0 := spec_nearest.mono_l k
  unfold spec_nearest.f
  repeat' first
      | (with_reducible exact ih0 _ _ _ _ _)
      | (with_reducible exact spec_scaled.mono _ _ _ _ _ _)
      | (with_reducible exact LeO.refl _)
      | (with_reducible exact LeO.none _)
      | (with_reducible refine LeO.ite ?_ ?_)
      | (with_reducible refine LeO.bind ?_ (fun _ => ?_))
      | exact ih0 _ _ _ _ _
      | exact spec_scaled.mono _ _ _ _ _ _
      | exact LeO.none _
      | refine LeO.ite ?_ ?_
      | refine LeO.bind ?_ (fun _ => ?_)
set_option maxHeartbeats 8000000 in
set_option maxRecDepth 100000 in
theorem spec_nearest.calls (k : Nat) (a0_0 : Bool) (a0_1 : ByteArray) (a0_2 : Int) (r : Int) (w : World) (h : spec_nearest.f k a0_0 a0_1 a0_2 = some r) :
    Calls Tryz.prog 19 #[.agg #[.bool a0_0, .string a0_1, .int .i64 a0_2]] w fun e w' => e = .returned (.int .u64 r) ∧ Below w.heap.size w w' := by
  have hu37 := Tryz.underlying37
  have HB := Aside0.mk (Below.refl w.heap.size w)
  have H : (spec_nearest.l0 k 0 9218868437227405312 a0_0 a0_1 a0_2) = some r := h
  clear h
  have H' := Aside0.mk H
  clear H
  go_enter Tryz.func19, Tryz.ntmps19
  go_wp2_with (first | ((with_reducible refine gate_dst (N := 1) rfl ?_); refine box_event ?hg (N := 1) ?hd (cs := #[.bool a0_0, .string a0_1, .int .i64 a0_2]) (t := 37) ?hr ?_; (case hd => rfl); (case hg => rfl); (case hr => first | (go_simp; done) | (go_simp; rfl)); intro gb441 hg w2 hbox hb; have n0_ := Aside0.mk (below_step (by repeat (first | (with_reducible first | exact HB.out | apply below_alloc | apply pw_below_drewN | apply below_drew1) | exact HB.out)) hb); have n1_ := Aside0.mk (hbox); have n2_ := Aside0.mk ((by rw [hg]; exact (below_size (by repeat (first | (with_reducible first | exact HB.out | apply below_alloc | apply pw_below_drewN | apply below_drew1) | exact HB.out))) : w.heap.size ≤ gb441)); have n3_ := Aside0.mk ((by rw [hg]; exact (below_size (by repeat (first | (with_reducible first | exact HB.out | apply below_alloc | apply pw_below_drewN | apply below_drew1) | exact HB.out))) : w.heap.size ≤ gb441)); clear HB; have HB := n0_; have BK441 := n1_; have GW441 := n2_; have GE441 := n3_; clear n0_ n1_ n2_ n3_; clear hb hbox hg))
  (try simp only [Act.put, List.setIfInBounds_toArray, List.set_cons_zero, List.set_cons_succ])
  go_loopg [3, 4] k (fun kq v3 v4 w' => ∃ (x3_1 : Int) (x4_1 : Int), v3 = .int .u64 x3_1 ∧ v4 = .int .u64 x4_1 ∧ Aside0 (spec_nearest.l0 kq x3_1 x4_1 a0_0 a0_1 a0_2 = some r) ∧ Aside0 (kq ≤ k) ∧ Aside0 (w'.heap[gb441]? = some (.cells #[.bool a0_0, .string a0_1, .int .i64 a0_2] 37 (0, 0))) ∧ Aside0 (Below w.heap.size w w'))
  case atStart => exact ⟨(0), (9218868437227405312), (by first | rfl | (simp; done) | (simp [*]; done)), (by first | rfl | (simp; done) | (simp [*]; done)), H', ⟨Nat.le_refl _⟩, ⟨by (with_reducible repeat (first | refine blk_drewN ?_ _ | refine blk_drew ?_ | refine blk_alloc ?_ _)); exact BK441.out⟩, ⟨by repeat (first | (with_reducible first | exact HB.out | apply below_alloc | apply pw_below_drewN | apply below_drew1 | refine below_set ?_ GE441.out) | exact HB.out)⟩⟩
  case round =>
    clear H'
    try clear c1
    try clear p2
    obtain ⟨x3_1, x4_1, rfl, rfl, HA, HK1, BK441, HB⟩ := hrel
    cases gk with
    | zero => exact absurd HA.out (by simp [spec_nearest.l0])
    | succ k1 =>
      have H := HA.out
      clear HA
      simp only [spec_nearest.l0] at H
      by_cases c3 : (IntKind.u64.wrap (x4_1 - x3_1)) > 1
      · rw [if_pos c3] at H
        have c3b0 : decide (1 < (IntKind.u64.wrap (x4_1 - x3_1))) = true := decide_eq_true c3
        clear c3
        replace H := Option.bind_eq_some_iff.mp H
        obtain ⟨⟨t442, t443⟩, A40, H⟩ := H
        replace H : ((spec_scaled.f k1 t442 t443 a0_0 a0_1 a0_2).bind fun t444 => (if t444 ≤ 0 then (spec_nearest.l0 k1 (IntKind.u64.wrap (x3_1 + (IntKind.u64.wrap (Int.tdiv (IntKind.u64.wrap (x4_1 - x3_1)) 2)))) x4_1 a0_0 a0_1 a0_2) else (spec_nearest.l0 k1 x3_1 (IntKind.u64.wrap (x3_1 + (IntKind.u64.wrap (Int.tdiv (IntKind.u64.wrap (x4_1 - x3_1)) 2)))) a0_0 a0_1 a0_2))) = some r := H
        have A4 := Aside0.mk A40
        clear A40
        replace H := Option.bind_eq_some_iff.mp H
        obtain ⟨t444, A50, H⟩ := H
        replace H : (if t444 ≤ 0 then (spec_nearest.l0 k1 (IntKind.u64.wrap (x3_1 + (IntKind.u64.wrap (Int.tdiv (IntKind.u64.wrap (x4_1 - x3_1)) 2)))) x4_1 a0_0 a0_1 a0_2) else (spec_nearest.l0 k1 x3_1 (IntKind.u64.wrap (x3_1 + (IntKind.u64.wrap (Int.tdiv (IntKind.u64.wrap (x4_1 - x3_1)) 2)))) a0_0 a0_1 a0_2)) = some r := H
        have A5 := Aside0.mk A50
        clear A50
        by_cases c6 : t444 ≤ 0
        · rw [if_pos c6] at H
          have c6b0 : decide (t444 ≤ 0) = true := decide_eq_true c6
          clear c6
          have H' := Aside0.mk H
          clear H
          go_wp2_with (first | ((with_reducible refine gate_callee (f := 25) rfl ?_); refine goesL_ (some 23) rfl rfl Tryz.func25 (by kernel_rfl) rfl #[.int .u64 (IntKind.u64.wrap (x3_1 + (IntKind.u64.wrap (Int.tdiv (IntKind.u64.wrap (x4_1 - x3_1)) 2))))] rfl (by (try simp only [List.map_toArray, List.map_cons, List.map_nil]); first | done | rfl | (simp only [List.length_drop, List.length_take]; rfl)) ?_; (with_reducible refine (spec_binary.calls (IntKind.u64.wrap (x3_1 + (IntKind.u64.wrap (Int.tdiv (IntKind.u64.wrap (x4_1 - x3_1)) 2)))) t442 t443 _ A4.out).mono ?_); rintro e w' ⟨rfl, ⟨nd, rfl⟩⟩; refine ⟨_, rfl, ?_⟩; have hcz7_0 : wr.cell? ⟨gb441, 0, none⟩ = some (.bool a0_0) := (blk_cell BK441.out 0).trans rfl; have hcz7_1 : wr.cell? ⟨gb441, 1, none⟩ = some (.string a0_1) := (blk_cell BK441.out 1).trans rfl; have hcz7_2 : wr.cell? ⟨gb441, 2, none⟩ = some (.int .i64 a0_2) := (blk_cell BK441.out 2).trans rfl; have hfz7_0 := blk_frozen BK441.out 0; have hfz7_1 := blk_frozen BK441.out 1; have hfz7_2 := blk_frozen BK441.out 2) | ((with_reducible refine gate_callee (f := 26) rfl ?_); refine goesL_ (some 29) rfl rfl Tryz.func26 (by kernel_rfl) rfl #[.int .u64 t442, .int .i64 t443, .agg #[.bool a0_0, .string a0_1, .int .i64 a0_2]] rfl (by (try simp only [List.map_toArray, List.map_cons, List.map_nil]); first | done | rfl | (simp only [List.length_drop, List.length_take]; rfl)) ?_; (with_reducible refine (spec_scaled.calls k1 t442 t443 a0_0 a0_1 a0_2 t444 _ A5.out).mono ?_); rintro e w8 ⟨rfl, hb⟩; refine ⟨_, rfl, ?_⟩; have n0_ := Aside0.mk (blk_below (g := gb441) (o := .cells #[.bool a0_0, .string a0_1, .int .i64 a0_2] 37 (0, 0)) (by (with_reducible repeat (first | refine blk_drewN ?_ _ | refine blk_drew ?_ | refine blk_alloc ?_ _)); exact BK441.out) hb); have n1_ := Aside0.mk (below_step (by repeat (first | (with_reducible first | exact HB.out | apply below_alloc | apply pw_below_drewN | apply below_drew1 | refine below_set ?_ GE441.out) | exact HB.out)) hb); clear BK441; clear HB; have BK441 := n0_; have HB := n1_; clear n0_ n1_; (try clear hb); (try clear hb2); (try clear hk); (try clear hi)))
          go_roundg k1
          case measure => have := HK1.out; omega
          case rel => exact ⟨(IntKind.u64.wrap (x3_1 + (IntKind.u64.wrap (Int.tdiv (IntKind.u64.wrap (x4_1 - x3_1)) 2)))), (x4_1), (by first | rfl | (simp; done) | (simp [*]; done)), (by first | rfl | (simp; done) | (simp [*]; done)), H', ⟨by have := HK1.out; omega⟩, ⟨by (with_reducible repeat (first | refine blk_drewN ?_ _ | refine blk_drew ?_ | refine blk_alloc ?_ _)); exact BK441.out⟩, ⟨by repeat (first | (with_reducible first | exact HB.out | apply below_alloc | apply pw_below_drewN | apply below_drew1 | refine below_set ?_ GE441.out) | exact HB.out)⟩⟩
        · rw [if_neg c6] at H
          have c6b0 : decide (t444 ≤ 0) = false := decide_eq_false c6
          clear c6
          have H' := Aside0.mk H
          clear H
          go_wp2_with (first | ((with_reducible refine gate_callee (f := 25) rfl ?_); refine goesL_ (some 23) rfl rfl Tryz.func25 (by kernel_rfl) rfl #[.int .u64 (IntKind.u64.wrap (x3_1 + (IntKind.u64.wrap (Int.tdiv (IntKind.u64.wrap (x4_1 - x3_1)) 2))))] rfl (by (try simp only [List.map_toArray, List.map_cons, List.map_nil]); first | done | rfl | (simp only [List.length_drop, List.length_take]; rfl)) ?_; (with_reducible refine (spec_binary.calls (IntKind.u64.wrap (x3_1 + (IntKind.u64.wrap (Int.tdiv (IntKind.u64.wrap (x4_1 - x3_1)) 2)))) t442 t443 _ A4.out).mono ?_); rintro e w' ⟨rfl, ⟨nd, rfl⟩⟩; refine ⟨_, rfl, ?_⟩; have hcz9_0 : wr.cell? ⟨gb441, 0, none⟩ = some (.bool a0_0) := (blk_cell BK441.out 0).trans rfl; have hcz9_1 : wr.cell? ⟨gb441, 1, none⟩ = some (.string a0_1) := (blk_cell BK441.out 1).trans rfl; have hcz9_2 : wr.cell? ⟨gb441, 2, none⟩ = some (.int .i64 a0_2) := (blk_cell BK441.out 2).trans rfl; have hfz9_0 := blk_frozen BK441.out 0; have hfz9_1 := blk_frozen BK441.out 1; have hfz9_2 := blk_frozen BK441.out 2) | ((with_reducible refine gate_callee (f := 26) rfl ?_); refine goesL_ (some 29) rfl rfl Tryz.func26 (by kernel_rfl) rfl #[.int .u64 t442, .int .i64 t443, .agg #[.bool a0_0, .string a0_1, .int .i64 a0_2]] rfl (by (try simp only [List.map_toArray, List.map_cons, List.map_nil]); first | done | rfl | (simp only [List.length_drop, List.length_take]; rfl)) ?_; (with_reducible refine (spec_scaled.calls k1 t442 t443 a0_0 a0_1 a0_2 t444 _ A5.out).mono ?_); rintro e w10 ⟨rfl, hb⟩; refine ⟨_, rfl, ?_⟩; have n0_ := Aside0.mk (blk_below (g := gb441) (o := .cells #[.bool a0_0, .string a0_1, .int .i64 a0_2] 37 (0, 0)) (by (with_reducible repeat (first | refine blk_drewN ?_ _ | refine blk_drew ?_ | refine blk_alloc ?_ _)); exact BK441.out) hb); have n1_ := Aside0.mk (below_step (by repeat (first | (with_reducible first | exact HB.out | apply below_alloc | apply pw_below_drewN | apply below_drew1 | refine below_set ?_ GE441.out) | exact HB.out)) hb); clear BK441; clear HB; have BK441 := n0_; have HB := n1_; clear n0_ n1_; (try clear hb); (try clear hb2); (try clear hk); (try clear hi)))
          go_roundg k1
          case measure => have := HK1.out; omega
          case rel => exact ⟨(x3_1), (IntKind.u64.wrap (x3_1 + (IntKind.u64.wrap (Int.tdiv (IntKind.u64.wrap (x4_1 - x3_1)) 2)))), (by first | rfl | (simp; done) | (simp [*]; done)), (by first | rfl | (simp; done) | (simp [*]; done)), H', ⟨by have := HK1.out; omega⟩, ⟨by (with_reducible repeat (first | refine blk_drewN ?_ _ | refine blk_drew ?_ | refine blk_alloc ?_ _)); exact BK441.out⟩, ⟨by repeat (first | (with_reducible first | exact HB.out | apply below_alloc | apply pw_below_drewN | apply below_drew1 | refine below_set ?_ GE441.out) | exact HB.out)⟩⟩
      · rw [if_neg c3] at H
        have c3b0 : decide (1 < (IntKind.u64.wrap (x4_1 - x3_1))) = false := decide_eq_false c3
        clear c3
        replace H := Option.bind_eq_some_iff.mp H
        obtain ⟨⟨t445, t446⟩, A110, H⟩ := H
        replace H : ((spec_scaled.f k1 (IntKind.u64.wrap ((IntKind.u64.wrap (2 * t445)) + 1)) (wrap64 (t446 - 1)) a0_0 a0_1 a0_2).bind fun t447 => (if t447 < 0 then (some (IntKind.u64.wrap (x3_1 + 1))) else (if t447 = 0 then (if (Int.tmod t445 2) = 1 then (some (IntKind.u64.wrap (x3_1 + 1))) else (some x3_1)) else (some x3_1)))) = some r := H
        have A11 := Aside0.mk A110
        clear A110
        replace H := Option.bind_eq_some_iff.mp H
        obtain ⟨t447, A120, H⟩ := H
        replace H : (if t447 < 0 then (some (IntKind.u64.wrap (x3_1 + 1))) else (if t447 = 0 then (if (Int.tmod t445 2) = 1 then (some (IntKind.u64.wrap (x3_1 + 1))) else (some x3_1)) else (some x3_1))) = some r := H
        have A12 := Aside0.mk A120
        clear A120
        by_cases c13 : t447 < 0
        · rw [if_pos c13] at H
          have c13b0 : decide (t447 < 0) = true := decide_eq_true c13
          clear c13
          obtain rfl := Option.some.inj H
          go_wp2_with (first | ((with_reducible refine gate_callee (f := 25) rfl ?_); refine goesL_ (some 35) rfl rfl Tryz.func25 (by kernel_rfl) rfl #[.int .u64 x3_1] rfl (by (try simp only [List.map_toArray, List.map_cons, List.map_nil]); first | done | rfl | (simp only [List.length_drop, List.length_take]; rfl)) ?_; (with_reducible refine (spec_binary.calls x3_1 t445 t446 _ A11.out).mono ?_); rintro e w' ⟨rfl, ⟨nd, rfl⟩⟩; refine ⟨_, rfl, ?_⟩; have hcz14_0 : wr.cell? ⟨gb441, 0, none⟩ = some (.bool a0_0) := (blk_cell BK441.out 0).trans rfl; have hcz14_1 : wr.cell? ⟨gb441, 1, none⟩ = some (.string a0_1) := (blk_cell BK441.out 1).trans rfl; have hcz14_2 : wr.cell? ⟨gb441, 2, none⟩ = some (.int .i64 a0_2) := (blk_cell BK441.out 2).trans rfl; have hfz14_0 := blk_frozen BK441.out 0; have hfz14_1 := blk_frozen BK441.out 1; have hfz14_2 := blk_frozen BK441.out 2) | ((with_reducible refine gate_callee (f := 26) rfl ?_); refine goesL_ (some 44) rfl rfl Tryz.func26 (by kernel_rfl) rfl #[.int .u64 (IntKind.u64.wrap ((IntKind.u64.wrap (2 * t445)) + 1)), .int .i64 (wrap64 (t446 - 1)), .agg #[.bool a0_0, .string a0_1, .int .i64 a0_2]] rfl (by (try simp only [List.map_toArray, List.map_cons, List.map_nil]); first | done | rfl | (simp only [List.length_drop, List.length_take]; rfl)) ?_; (with_reducible refine (spec_scaled.calls k1 (IntKind.u64.wrap ((IntKind.u64.wrap (2 * t445)) + 1)) (wrap64 (t446 - 1)) a0_0 a0_1 a0_2 t447 _ A12.out).mono ?_); rintro e w15 ⟨rfl, hb⟩; refine ⟨_, rfl, ?_⟩; have n0_ := Aside0.mk (blk_below (g := gb441) (o := .cells #[.bool a0_0, .string a0_1, .int .i64 a0_2] 37 (0, 0)) (by (with_reducible repeat (first | refine blk_drewN ?_ _ | refine blk_drew ?_ | refine blk_alloc ?_ _)); exact BK441.out) hb); have n1_ := Aside0.mk (below_step (by repeat (first | (with_reducible first | exact HB.out | apply below_alloc | apply pw_below_drewN | apply below_drew1 | refine below_set ?_ GE441.out) | exact HB.out)) hb); clear BK441; clear HB; have BK441 := n0_; have HB := n1_; clear n0_ n1_; (try clear hb); (try clear hb2); (try clear hk); (try clear hi)))
          go_ret
          exact ⟨by first | rfl | (simp [errW_none, errW_some] <;> rfl) | (simp [*, errW_none, errW_some] <;> rfl), by repeat (first | (with_reducible first | exact HB.out | apply below_alloc | apply pw_below_drewN | apply below_drew1 | refine below_set ?_ GE441.out) | exact HB.out)⟩
        · rw [if_neg c13] at H
          have c13b0 : decide (t447 < 0) = false := decide_eq_false c13
          clear c13
          by_cases c16 : t447 = 0
          · rw [if_pos c16] at H
            have c16b0 : (t447 == 0) = true := beq_iff_eq.mpr c16
            have c16b1 : (t447 != 0) = false := bne_eq_false_iff_eq.mpr c16
            clear c16
            by_cases c17 : (Int.tmod t445 2) = 1
            · rw [if_pos c17] at H
              have c17b0 : ((Int.tmod t445 2) == 1) = true := beq_iff_eq.mpr c17
              have c17b1 : ((Int.tmod t445 2) != 1) = false := bne_eq_false_iff_eq.mpr c17
              clear c17
              obtain rfl := Option.some.inj H
              go_wp2_with (first | ((with_reducible refine gate_callee (f := 25) rfl ?_); refine goesL_ (some 35) rfl rfl Tryz.func25 (by kernel_rfl) rfl #[.int .u64 x3_1] rfl (by (try simp only [List.map_toArray, List.map_cons, List.map_nil]); first | done | rfl | (simp only [List.length_drop, List.length_take]; rfl)) ?_; (with_reducible refine (spec_binary.calls x3_1 t445 t446 _ A11.out).mono ?_); rintro e w' ⟨rfl, ⟨nd, rfl⟩⟩; refine ⟨_, rfl, ?_⟩; have hcz18_0 : wr.cell? ⟨gb441, 0, none⟩ = some (.bool a0_0) := (blk_cell BK441.out 0).trans rfl; have hcz18_1 : wr.cell? ⟨gb441, 1, none⟩ = some (.string a0_1) := (blk_cell BK441.out 1).trans rfl; have hcz18_2 : wr.cell? ⟨gb441, 2, none⟩ = some (.int .i64 a0_2) := (blk_cell BK441.out 2).trans rfl; have hfz18_0 := blk_frozen BK441.out 0; have hfz18_1 := blk_frozen BK441.out 1; have hfz18_2 := blk_frozen BK441.out 2) | ((with_reducible refine gate_callee (f := 26) rfl ?_); refine goesL_ (some 44) rfl rfl Tryz.func26 (by kernel_rfl) rfl #[.int .u64 (IntKind.u64.wrap ((IntKind.u64.wrap (2 * t445)) + 1)), .int .i64 (wrap64 (t446 - 1)), .agg #[.bool a0_0, .string a0_1, .int .i64 a0_2]] rfl (by (try simp only [List.map_toArray, List.map_cons, List.map_nil]); first | done | rfl | (simp only [List.length_drop, List.length_take]; rfl)) ?_; (with_reducible refine (spec_scaled.calls k1 (IntKind.u64.wrap ((IntKind.u64.wrap (2 * t445)) + 1)) (wrap64 (t446 - 1)) a0_0 a0_1 a0_2 t447 _ A12.out).mono ?_); rintro e w19 ⟨rfl, hb⟩; refine ⟨_, rfl, ?_⟩; have n0_ := Aside0.mk (blk_below (g := gb441) (o := .cells #[.bool a0_0, .string a0_1, .int .i64 a0_2] 37 (0, 0)) (by (with_reducible repeat (first | refine blk_drewN ?_ _ | refine blk_drew ?_ | refine blk_alloc ?_ _)); exact BK441.out) hb); have n1_ := Aside0.mk (below_step (by repeat (first | (with_reducible first | exact HB.out | apply below_alloc | apply pw_below_drewN | apply below_drew1 | refine below_set ?_ GE441.out) | exact HB.out)) hb); clear BK441; clear HB; have BK441 := n0_; have HB := n1_; clear n0_ n1_; (try clear hb); (try clear hb2); (try clear hk); (try clear hi)))
              go_ret
              exact ⟨by first | rfl | (simp [errW_none, errW_some] <;> rfl) | (simp [*, errW_none, errW_some] <;> rfl), by repeat (first | (with_reducible first | exact HB.out | apply below_alloc | apply pw_below_drewN | apply below_drew1 | refine below_set ?_ GE441.out) | exact HB.out)⟩
            · rw [if_neg c17] at H
              have c17b0 : ((Int.tmod t445 2) == 1) = false := beq_eq_false_iff_ne.mpr c17
              have c17b1 : ((Int.tmod t445 2) != 1) = true := bne_iff_ne.mpr c17
              obtain rfl := Option.some.inj H
              go_wp2_with (first | ((with_reducible refine gate_callee (f := 25) rfl ?_); refine goesL_ (some 35) rfl rfl Tryz.func25 (by kernel_rfl) rfl #[.int .u64 x3_1] rfl (by (try simp only [List.map_toArray, List.map_cons, List.map_nil]); first | done | rfl | (simp only [List.length_drop, List.length_take]; rfl)) ?_; (with_reducible refine (spec_binary.calls x3_1 t445 t446 _ A11.out).mono ?_); rintro e w' ⟨rfl, ⟨nd, rfl⟩⟩; refine ⟨_, rfl, ?_⟩; have hcz20_0 : wr.cell? ⟨gb441, 0, none⟩ = some (.bool a0_0) := (blk_cell BK441.out 0).trans rfl; have hcz20_1 : wr.cell? ⟨gb441, 1, none⟩ = some (.string a0_1) := (blk_cell BK441.out 1).trans rfl; have hcz20_2 : wr.cell? ⟨gb441, 2, none⟩ = some (.int .i64 a0_2) := (blk_cell BK441.out 2).trans rfl; have hfz20_0 := blk_frozen BK441.out 0; have hfz20_1 := blk_frozen BK441.out 1; have hfz20_2 := blk_frozen BK441.out 2) | ((with_reducible refine gate_callee (f := 26) rfl ?_); refine goesL_ (some 44) rfl rfl Tryz.func26 (by kernel_rfl) rfl #[.int .u64 (IntKind.u64.wrap ((IntKind.u64.wrap (2 * t445)) + 1)), .int .i64 (wrap64 (t446 - 1)), .agg #[.bool a0_0, .string a0_1, .int .i64 a0_2]] rfl (by (try simp only [List.map_toArray, List.map_cons, List.map_nil]); first | done | rfl | (simp only [List.length_drop, List.length_take]; rfl)) ?_; (with_reducible refine (spec_scaled.calls k1 (IntKind.u64.wrap ((IntKind.u64.wrap (2 * t445)) + 1)) (wrap64 (t446 - 1)) a0_0 a0_1 a0_2 t447 _ A12.out).mono ?_); rintro e w21 ⟨rfl, hb⟩; refine ⟨_, rfl, ?_⟩; have n0_ := Aside0.mk (blk_below (g := gb441) (o := .cells #[.bool a0_0, .string a0_1, .int .i64 a0_2] 37 (0, 0)) (by (with_reducible repeat (first | refine blk_drewN ?_ _ | refine blk_drew ?_ | refine blk_alloc ?_ _)); exact BK441.out) hb); have n1_ := Aside0.mk (below_step (by repeat (first | (with_reducible first | exact HB.out | apply below_alloc | apply pw_below_drewN | apply below_drew1 | refine below_set ?_ GE441.out) | exact HB.out)) hb); clear BK441; clear HB; have BK441 := n0_; have HB := n1_; clear n0_ n1_; (try clear hb); (try clear hb2); (try clear hk); (try clear hi)))
              go_ret
              exact ⟨by first | rfl | (simp [errW_none, errW_some] <;> rfl) | (simp [*, errW_none, errW_some] <;> rfl), by repeat (first | (with_reducible first | exact HB.out | apply below_alloc | apply pw_below_drewN | apply below_drew1 | refine below_set ?_ GE441.out) | exact HB.out)⟩
          · rw [if_neg c16] at H
            have c16b0 : (t447 == 0) = false := beq_eq_false_iff_ne.mpr c16
            have c16b1 : (t447 != 0) = true := bne_iff_ne.mpr c16
            obtain rfl := Option.some.inj H
            go_wp2_with (first | ((with_reducible refine gate_callee (f := 25) rfl ?_); refine goesL_ (some 35) rfl rfl Tryz.func25 (by kernel_rfl) rfl #[.int .u64 x3_1] rfl (by (try simp only [List.map_toArray, List.map_cons, List.map_nil]); first | done | rfl | (simp only [List.length_drop, List.length_take]; rfl)) ?_; (with_reducible refine (spec_binary.calls x3_1 t445 t446 _ A11.out).mono ?_); rintro e w' ⟨rfl, ⟨nd, rfl⟩⟩; refine ⟨_, rfl, ?_⟩; have hcz22_0 : wr.cell? ⟨gb441, 0, none⟩ = some (.bool a0_0) := (blk_cell BK441.out 0).trans rfl; have hcz22_1 : wr.cell? ⟨gb441, 1, none⟩ = some (.string a0_1) := (blk_cell BK441.out 1).trans rfl; have hcz22_2 : wr.cell? ⟨gb441, 2, none⟩ = some (.int .i64 a0_2) := (blk_cell BK441.out 2).trans rfl; have hfz22_0 := blk_frozen BK441.out 0; have hfz22_1 := blk_frozen BK441.out 1; have hfz22_2 := blk_frozen BK441.out 2) | ((with_reducible refine gate_callee (f := 26) rfl ?_); refine goesL_ (some 44) rfl rfl Tryz.func26 (by kernel_rfl) rfl #[.int .u64 (IntKind.u64.wrap ((IntKind.u64.wrap (2 * t445)) + 1)), .int .i64 (wrap64 (t446 - 1)), .agg #[.bool a0_0, .string a0_1, .int .i64 a0_2]] rfl (by (try simp only [List.map_toArray, List.map_cons, List.map_nil]); first | done | rfl | (simp only [List.length_drop, List.length_take]; rfl)) ?_; (with_reducible refine (spec_scaled.calls k1 (IntKind.u64.wrap ((IntKind.u64.wrap (2 * t445)) + 1)) (wrap64 (t446 - 1)) a0_0 a0_1 a0_2 t447 _ A12.out).mono ?_); rintro e w23 ⟨rfl, hb⟩; refine ⟨_, rfl, ?_⟩; have n0_ := Aside0.mk (blk_below (g := gb441) (o := .cells #[.bool a0_0, .string a0_1, .int .i64 a0_2] 37 (0, 0)) (by (with_reducible repeat (first | refine blk_drewN ?_ _ | refine blk_drew ?_ | refine blk_alloc ?_ _)); exact BK441.out) hb); have n1_ := Aside0.mk (below_step (by repeat (first | (with_reducible first | exact HB.out | apply below_alloc | apply pw_below_drewN | apply below_drew1 | refine below_set ?_ GE441.out) | exact HB.out)) hb); clear BK441; clear HB; have BK441 := n0_; have HB := n1_; clear n0_ n1_; (try clear hb); (try clear hb2); (try clear hk); (try clear hi)))
            go_ret
            exact ⟨by first | rfl | (simp [errW_none, errW_some] <;> rfl) | (simp [*, errW_none, errW_some] <;> rfl), by repeat (first | (with_reducible first | exact HB.out | apply below_alloc | apply pw_below_drewN | apply below_drew1 | refine below_set ?_ GE441.out) | exact HB.out)⟩

-- NOT PRINTED: function 20 (math_Float64frombits)

-- NOT PRINTED: function 9 (spec_Nearest)

-- NOT PRINTED: function 5 (spec_NearestTo)

-- NOT PRINTED: function 3 (laws_FnFjBuildFloat)

end Go.Proofs.YthbmfhkpkkgdnaaGreatDoor.Q

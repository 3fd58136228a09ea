/- Functions of the program as Lean functions, each with a proof that the call comes to what it gives. Written by prx.py (wip/pr). -/
import Derived.Test.YthbmfhkpkkgdnaaGreatDoorQ0
namespace Go.Proofs.YthbmfhkpkkgdnaaGreatDoor.Q
open Go.RowKit Go.Proofs.YthbmfhkpkkgdnaaGreatDoorW.PrintWords Go.Proofs.YthbmfhkpkkgdnaaGreatDoorW.PrintLast Go.Proofs.YthbmfhkpkkgdnaaGreatDoorW.PrintMore
attribute [local go_sem] max2_int min2_int max_two min_two max_three min_three max_four min_four   -- for this text's walks alone
set_option linter.unusedVariables false
set_option linter.unusedSimpArgs false

/-! ### spec_bare: function 18 -/
mutual
def spec_bare.j1 : Nat → List Int → Int → Option (ByteArray × Int)
  | 0, _, _ => none
  | k + 1, x0, x1 => spec_bare.l1 k x0 x1
def spec_bare.l1 : Nat → List Int → Int → Option (ByteArray × Int)
  | 0, _, _ => none
  | k + 1, x0, x1 => if (x0.length : Int) > 0 then (if 0 ≤ (wrap64 ((x0.length : Int) - 1)) then (if (wrap64 ((x0.length : Int) - 1)) < (x0.length : Int) then (if (rd x0 (wrap64 ((x0.length : Int) - 1))) = 48 then (if (wrap64 ((x0.length : Int) - 1)) ≤ (x0.length : Int) then (spec_bare.l1 k (x0.take ((wrap64 ((x0.length : Int) - 1)) : Int).toNat) (wrap64 (x1 + 1))) else (none)) else (if (x0.length : Int) = 0 then (some (strOfNums x0, 0)) else (some (strOfNums x0, x1)))) else (none)) else (none)) else (if (x0.length : Int) = 0 then (some (strOfNums x0, 0)) else (some (strOfNums x0, x1)))
def spec_bare.l0 : Nat → List Int → Int → Option (ByteArray × Int)
  | 0, _, _ => none
  | k + 1, x0, x1 => if (x0.length : Int) > 0 then (if 0 < (x0.length : Int) then (if (rd x0 0) = 48 then (if 1 ≤ (x0.length : Int) then (spec_bare.l0 k (x0.drop 1) x1) else (none)) else (spec_bare.j1 k x0 x1)) else (none)) else (spec_bare.j1 k x0 x1)
end
def spec_bare.f (k : Nat) (l0 : List Int) (a1 : Int) : Option (ByteArray × Int) := spec_bare.l0 k l0 a1
theorem spec_bare.mono_l : ∀ k, (∀ y0 y1, LeO (spec_bare.j1 k y0 y1) (spec_bare.j1 (k + 1) y0 y1)) ∧ (∀ y0 y1, LeO (spec_bare.l1 k y0 y1) (spec_bare.l1 (k + 1) y0 y1)) ∧ (∀ y0 y1, LeO (spec_bare.l0 k y0 y1) (spec_bare.l0 (k + 1) y0 y1))
  | 0 => ⟨fun _ _ r h => by simp [spec_bare.j1] at h, fun _ _ r h => by simp [spec_bare.l1] at h, fun _ _ r h => by simp [spec_bare.l0] at h⟩
  | k + 1 => by
    obtain ⟨ih0, ih1, ih2⟩ := spec_bare.mono_l k
    refine ⟨?_, ?_, ?_⟩
    · intro y0 y1
      unfold spec_bare.j1
      repeat' first
      | (with_reducible exact ih0 _ _)
      | (with_reducible exact ih1 _ _)
      | (with_reducible exact ih2 _ _)
      | (with_reducible exact LeO.refl _)
      | (with_reducible exact LeO.none _)
      | (with_reducible refine LeO.ite ?_ ?_)
      | (with_reducible refine LeO.bind ?_ (fun _ => ?_))
      | exact ih0 _ _
      | exact ih1 _ _
      | exact ih2 _ _
      | exact LeO.none _
      | refine LeO.ite ?_ ?_
      | refine LeO.bind ?_ (fun _ => ?_)
    · intro y0 y1
      unfold spec_bare.l1
      repeat' first
      | (with_reducible exact ih0 _ _)
      | (with_reducible exact ih1 _ _)
      | (with_reducible exact ih2 _ _)
      | (with_reducible exact LeO.refl _)
      | (with_reducible exact LeO.none _)
      | (with_reducible refine LeO.ite ?_ ?_)
      | (with_reducible refine LeO.bind ?_ (fun _ => ?_))
      | exact ih0 _ _
      | exact ih1 _ _
      | exact ih2 _ _
      | exact LeO.none _
      | refine LeO.ite ?_ ?_
      | refine LeO.bind ?_ (fun _ => ?_)
    · intro y0 y1
      unfold spec_bare.l0
      repeat' first
      | (with_reducible exact ih0 _ _)
      | (with_reducible exact ih1 _ _)
      | (with_reducible exact ih2 _ _)
      | (with_reducible exact LeO.refl _)
      | (with_reducible exact LeO.none _)
      | (with_reducible refine LeO.ite ?_ ?_)
      | (with_reducible refine LeO.bind ?_ (fun _ => ?_))
      | exact ih0 _ _
      | exact ih1 _ _
      | exact ih2 _ _
      | exact LeO.none _
      | refine LeO.ite ?_ ?_
      | refine LeO.bind ?_ (fun _ => ?_)
theorem spec_bare.mono : ∀ a0 a1 k, LeO (spec_bare.f k a0 a1) (spec_bare.f (k + 1) a0 a1) := by
  intro a0 a1 k
  obtain ⟨ih0, ih1, ih2⟩ := spec_bare.mono_l k
  unfold spec_bare.f
  repeat' first
      | (with_reducible exact ih0 _ _)
      | (with_reducible exact ih1 _ _)
      | (with_reducible exact ih2 _ _)
      | (with_reducible exact LeO.refl _)
      | (with_reducible exact LeO.none _)
      | (with_reducible refine LeO.ite ?_ ?_)
      | (with_reducible refine LeO.bind ?_ (fun _ => ?_))
      | exact ih0 _ _
      | exact ih1 _ _
      | exact ih2 _ _
      | exact LeO.none _
      | refine LeO.ite ?_ ?_
      | refine LeO.bind ?_ (fun _ => ?_)
set_option maxHeartbeats 8000000 in
set_option maxRecDepth 100000 in
theorem spec_bare.calls (k : Nat) (P0_ : Nat → Prop) (A0 : Option Addr) (c0 : Nat) (l0 : List Int) (a1 : Int) (r1 : ByteArray) (r2 : Int) (w : World) (hs0 : Kd.V (Kd.int .u8) 5 w w.heap.size (fun k_ => P0_ k_) (.slice A0 l0.length c0) l0) (h : spec_bare.f k l0 a1 = some (r1, r2)) :
    Calls Tryz.prog 18 #[.slice A0 l0.length c0, .int .i64 a1] w fun e w' => e = .returned (.tuple #[.string r1, .int .i64 r2]) ∧ Below w.heap.size w w' := by
  have HO0 := Aside0.mk (show Kd.V (Kd.int .u8) 5 w w.heap.size (fun k_ => (P0_ k_ ∨ w.heap.size ≤ k_)) (.slice A0 l0.length c0) l0 from Kd.V_mono hs0 (fun k_ hk => .inl hk))
  have HB := Aside0.mk (Below.refl w.heap.size w)
  have H : (spec_bare.l0 k l0 a1) = some (r1, r2) := h
  clear h
  have HC3 := Aside0.mk H
  clear H
  go_enter Tryz.func18, Tryz.ntmps18
  go_upto_block 0 with (fail)
  go_cut [0] (fun v0 wc => ∃ (kq : Nat) (x0_2 : List Int), Aside0 (spec_bare.j1 kq x0_2 a1 = some (r1, r2)) ∧ Aside0 (kq ≤ k) ∧ Aside0 (Kd.V (Kd.int .u8) 5 wc w.heap.size (fun k_ => (P0_ k_ ∨ w.heap.size ≤ k_)) v0 x0_2) ∧ Aside0 (Below w.heap.size w wc))
  case first =>
    have H := HC3.out
    clear HC3
    have H' := Aside0.mk H
    clear H
    go_wp2
    (try simp only [Act.put, List.setIfInBounds_toArray, List.set_cons_zero, List.set_cons_succ])
    go_loopg [0] k (fun kq v0 w' => ∃ (x0_1 : List Int), Aside0 (spec_bare.l0 kq x0_1 a1 = some (r1, r2)) ∧ Aside0 (kq ≤ k) ∧ Aside0 (Kd.V (Kd.int .u8) 5 w' w.heap.size (fun k_ => (P0_ k_ ∨ w.heap.size ≤ k_)) v0 x0_1) ∧ Aside0 (Below w.heap.size w w'))
    case atStart => exact ⟨(l0), H', ⟨Nat.le_refl _⟩, ⟨by (with_reducible repeat (first | apply Kd.V_alloc | apply Kd.V_drewN | apply Kd.V_drew)); exact HO0.out⟩, ⟨by repeat (first | (with_reducible first | exact HB.out | apply below_alloc | apply pw_below_drewN | apply below_drew1) | exact HB.out)⟩⟩
    case round =>
      clear H'
      try clear c1
      try clear p2
      obtain ⟨x0_1, HA, HK1, HO_0, HB⟩ := hrel
      cases gk with
      | zero => exact absurd HA.out (by simp [spec_bare.l0])
      | succ k1 =>
        have H := HA.out
        clear HA
        simp only [spec_bare.l0] at H
        by_cases c4 : (x0_1.length : Int) > 0
        · rw [if_pos c4] at H
          have c4b0 : decide (0 < (x0_1.length : Int)) = true := decide_eq_true c4
          have c4b1 : decide (0 < x0_1.length) = true := decide_eq_true (by omega)
          clear c4
          (first | rw [c4b0] | (simp only [i64_w, i32_w]; rw [c4b0]) | skip)
          by_cases c5 : 0 < (x0_1.length : Int)
          · rw [if_pos c5] at H
            have c5b0 : decide (0 < (x0_1.length : Int)) = true := decide_eq_true c5
            have c5b1 : decide (0 < x0_1.length) = true := decide_eq_true (by omega)
            clear c5
            by_cases c6 : (rd x0_1 0) = 48
            · rw [if_pos c6] at H
              have c6b0 : ((rd x0_1 0) == 48) = true := beq_iff_eq.mpr c6
              have c6b1 : ((rd x0_1 0) != 48) = false := bne_eq_false_iff_eq.mpr c6
              clear c6
              by_cases c7 : 1 ≤ (x0_1.length : Int)
              · rw [if_pos c7] at H
                have c7b0 := eq_true c7
                have c7b1 : decide (1 ≤ (x0_1.length : Int)) = true := decide_eq_true c7
                clear c7
                obtain ⟨y369, hy369⟩ : ∃ y_ : List Int, y_ = (x0_1.drop 1) := ⟨_, rfl⟩
                replace H : (spec_bare.l0 k1 y369 a1) = some (r1, r2) := by first | (rw [hy369]; with_reducible exact H) | (have H2_ := (Option.bind_some _ _).symm.trans H; rw [hy369]; with_reducible exact H2_) | (have H2_ := (Option.bind_some _ _).symm.trans H; with_reducible exact H2_) | with_reducible exact H | (rw [hy369]; exact H) | exact H
                have Ny369 := Aside0.mk hy369
                clear hy369
                have H' := Aside0.mk H
                clear H
                obtain ⟨Ao8, co8, eo8⟩ := Kd.V_slice HO_0.out
                subst eo8
                have p368 : 0 ≤ (0 : Int) := (by omega)
                have q368 : 0 < (x0_1.length : Int) := of_decide_eq_true (by first | (with_reducible assumption) | assumption)
                obtain ⟨ad368, e368, hx368_0⟩ := Kd.at_int (Kd.V_reads' HO_0.out).2.2 0 p368 q368
                cases e368
                have qi368 : (0 < x0_1.length) = True := eq_true (by omega)
                (try rw [show ((0 : Int)).toNat = 0 from rfl] at hx368_0)
                (try rw [Addr.add_zero'] at hx368_0)
                replace p368 := eq_true p368
                replace q368 := eq_true q368
                have q9 : (1 : Int) ≤ ((x0_1.length : Int) : Int) := of_decide_eq_true (by first | (with_reducible assumption) | assumption)
                obtain ⟨i09, hi09, _, hsz9, _⟩ := info_parts info5
                have hroom9 : x0_1.length ≤ co8 := (Kd.V_reads' HO_0.out).2.1
                have hC9 : Kd.F (Kd.int .u8) _ _ (some ad368) x0_1.length x0_1 := (Kd.V_at (base := w.heap.size) HO_0.out).2.2
                have hcut9 := cut_from (P := Tryz.prog) 27 5 .i64 Tryz.underlying27 hi09 1 hsz9 (some ad368) x0_1.length co8 1 (by omega) q9
                have hr9 := Kd.F_cut (m := (1 : Int).toNat) (c := co8) hC9 (by omega) hroom9
                obtain ⟨A9, hA9⟩ : ∃ Aq_, Aq_ = (if co8 = (1 : Int).toNat then (some ad368) else ((some ad368) : Option Addr).map (·.add ((1 : Int).toNat * 1))) := ⟨_, rfl⟩
                obtain ⟨c9, hc9⟩ : ∃ cq_, cq_ = co8 - (1 : Int).toNat := ⟨_, rfl⟩
                have hy9 : y369.length = x0_1.length - (1 : Int).toNat := (by rw [Ny369.out, List.length_drop] <;> omega)
                rw [show (x0_1).drop (1 : Int).toNat = y369 from Ny369.out.symm] at hr9
                replace hr9 : Kd.F (Kd.int .u8) _ _ A9 y369.length y369 := (by rw [hA9]; exact hr9)
                rw [← hy9, ← hA9, ← hc9] at hcut9
                have HO373 := Aside0.mk (show Kd.V (Kd.int .u8) 5 _ w.heap.size _ (.slice A9 y369.length c9) y369 from Kd.V_mk (by rw [hy9, hc9]; exact Nat.sub_le_sub_right hroom9 _) hr9)
                have HC373 := Aside0.mk (show y369.length ≤ c9 from by rw [hy9, hc9]; exact Nat.sub_le_sub_right hroom9 _)
                clear hr9 hC9 hroom9 hi09 hsz9 hc9
                have KY9 := Aside0.mk hy9
                have KA9 := Aside0.mk hA9
                clear hy9 hA9
                replace q9 := eq_true q9
                go_wp2
                go_roundg k1
                case measure => have := HK1.out; omega
                case rel => exact ⟨(y369), H', ⟨by have := HK1.out; omega⟩, ⟨by (with_reducible repeat (first | apply Kd.V_alloc | apply Kd.V_drewN | apply Kd.V_drew)); exact HO373.out⟩, ⟨by repeat (first | (with_reducible first | exact HB.out | apply below_alloc | apply pw_below_drewN | apply below_drew1) | exact HB.out)⟩⟩
              · rw [if_neg c7] at H
                exact absurd H (by simp)
            · rw [if_neg c6] at H
              have c6b0 : ((rd x0_1 0) == 48) = false := beq_eq_false_iff_ne.mpr c6
              have c6b1 : ((rd x0_1 0) != 48) = true := bne_iff_ne.mpr c6
              have H' := Aside0.mk H
              clear H
              obtain ⟨Ao10, co10, eo10⟩ := Kd.V_slice HO_0.out
              subst eo10
              have p368 : 0 ≤ (0 : Int) := (by omega)
              have q368 : 0 < (x0_1.length : Int) := of_decide_eq_true (by first | (with_reducible assumption) | assumption)
              obtain ⟨ad368, e368, hx368_0⟩ := Kd.at_int (Kd.V_reads' HO_0.out).2.2 0 p368 q368
              cases e368
              have qi368 : (0 < x0_1.length) = True := eq_true (by omega)
              (try rw [show ((0 : Int)).toNat = 0 from rfl] at hx368_0)
              (try rw [Addr.add_zero'] at hx368_0)
              replace p368 := eq_true p368
              replace q368 := eq_true q368
              go_wp2
              go_meet
              case rel => exact ⟨_, (x0_1), H', ⟨by have := HK1.out; first | omega | exact Nat.le_refl _⟩, ⟨by (with_reducible repeat (first | apply Kd.V_alloc | apply Kd.V_drewN | apply Kd.V_drew)); exact HO_0.out⟩, ⟨by repeat (first | (with_reducible first | exact HB.out | apply below_alloc | apply pw_below_drewN | apply below_drew1) | exact HB.out)⟩⟩
          · rw [if_neg c5] at H
            exact absurd H (by simp)
        · rw [if_neg c4] at H
          have c4b0 : decide (0 < (x0_1.length : Int)) = false := decide_eq_false c4
          have c4b1 : decide (0 < x0_1.length) = false := decide_eq_false (by omega)
          clear c4
          (first | rw [c4b0] | (simp only [i64_w, i32_w]; rw [c4b0]) | skip)
          have H' := Aside0.mk H
          clear H
          obtain ⟨Ao11, co11, eo11⟩ := Kd.V_slice HO_0.out
          subst eo11
          go_wp2
          go_meet
          case rel => exact ⟨_, (x0_1), H', ⟨by have := HK1.out; first | omega | exact Nat.le_refl _⟩, ⟨by (with_reducible repeat (first | apply Kd.V_alloc | apply Kd.V_drewN | apply Kd.V_drew)); exact HO_0.out⟩, ⟨by repeat (first | (with_reducible first | exact HB.out | apply below_alloc | apply pw_below_drewN | apply below_drew1) | exact HB.out)⟩⟩
  case rest =>
    clear HC3
    try clear c1
    try clear p2
    try clear p3
    try clear q3
    try clear hx3
    try clear qi3
    try clear c4
    try clear c4b0
    try clear c4b1
    try clear c5
    try clear c5b0
    try clear c5b1
    try clear c6
    try clear c6b0
    try clear c6b1
    try clear c7
    try clear c7b0
    try clear c7b1
    try clear c9
    try clear q9
    try clear hx368_0
    try clear p2
    try clear p368
    try clear q368
    try clear q9
    obtain ⟨kq, x0_2, HA, HJ2, HO_0, HB⟩ := hcut
    cases kq with
    | zero => exact absurd HA.out (by simp [spec_bare.j1])
    | succ kj2 =>
      have H := HA.out
      clear HA
      simp only [spec_bare.j1] at H
      have H' := Aside0.mk H
      clear H
      go_wp2
      (try simp only [Act.put, List.setIfInBounds_toArray, List.set_cons_zero, List.set_cons_succ])
      go_loopg [0, 1] kj2 (fun kq v0 v1 w' => ∃ (x0_2 : List Int) (x1_2 : Int), v1 = .int .i64 x1_2 ∧ Aside0 (spec_bare.l1 kq x0_2 x1_2 = some (r1, r2)) ∧ Aside0 (kq ≤ kj2) ∧ Aside0 (Kd.V (Kd.int .u8) 5 w' w.heap.size (fun k_ => (P0_ k_ ∨ w.heap.size ≤ k_)) v0 x0_2) ∧ Aside0 (Below w.heap.size w w'))
      case atStart => exact ⟨(x0_2), (a1), (by first | rfl | (simp; done) | (simp [*]; done)), H', ⟨Nat.le_refl _⟩, ⟨by (with_reducible repeat (first | apply Kd.V_alloc | apply Kd.V_drewN | apply Kd.V_drew)); exact HO_0.out⟩, ⟨by repeat (first | (with_reducible first | exact HB.out | apply below_alloc | apply pw_below_drewN | apply below_drew1) | exact HB.out)⟩⟩
      case round =>
        clear H'
        try clear c1
        try clear p2
        try clear p3
        try clear q3
        try clear hx3
        try clear qi3
        try clear c4
        try clear c4b0
        try clear c4b1
        try clear c5
        try clear c5b0
        try clear c5b1
        try clear c6
        try clear c6b0
        try clear c6b1
        try clear c7
        try clear c7b0
        try clear c7b1
        try clear c9
        try clear q9
        try clear hx368_0
        try clear p2
        try clear p3
        try clear p368
        try clear q3
        try clear q368
        try clear q9
        obtain ⟨x0_2, x1_2, rfl, HA, HK2, HO_0, HB⟩ := hrel
        cases gk with
        | zero => exact absurd HA.out (by simp [spec_bare.l1])
        | succ k2 =>
          have H := HA.out
          clear HA
          simp only [spec_bare.l1] at H
          by_cases c12 : (x0_2.length : Int) > 0
          · rw [if_pos c12] at H
            have c12b0 : decide (0 < (x0_2.length : Int)) = true := decide_eq_true c12
            have c12b1 : decide (0 < x0_2.length) = true := decide_eq_true (by omega)
            clear c12
            obtain ⟨ji13, hji13⟩ : ∃ j_ : Int, (wrap64 ((x0_2.length : Int) - 1)) = j_ := ⟨_, rfl⟩
            replace H : (if 0 ≤ (ji13) then (if (ji13) < (x0_2.length : Int) then (if (rd x0_2 (ji13)) = 48 then (if (ji13) ≤ (x0_2.length : Int) then (spec_bare.l1 k2 (x0_2.take ((ji13) : Int).toNat) (wrap64 (x1_2 + 1))) else (none)) else (if (x0_2.length : Int) = 0 then (some (strOfNums x0_2, 0)) else (some (strOfNums x0_2, x1_2)))) else (none)) else (none)) = some (r1, r2) := by first | (rw [hji13] at H; exact H) | (simp only [hji13] at H ⊢; exact H)
            have hji13w : (IntKind.i64.wrap ((x0_2.length : Int) - 1)) = ji13 := (i64_w _).trans hji13
            by_cases c14 : 0 ≤ (ji13)
            · rw [if_pos c14] at H
              have c14b0 : decide (0 ≤ (ji13)) = true := decide_eq_true c14
              clear c14
              by_cases c15 : (ji13) < (x0_2.length : Int)
              · rw [if_pos c15] at H
                have c15b0 : decide ((ji13) < (x0_2.length : Int)) = true := decide_eq_true c15
                clear c15
                by_cases c16 : (rd x0_2 (ji13)) = 48
                · rw [if_pos c16] at H
                  have c16b0 : ((rd x0_2 (ji13)) == 48) = true := beq_iff_eq.mpr c16
                  have c16b1 : ((rd x0_2 (ji13)) != 48) = false := bne_eq_false_iff_eq.mpr c16
                  clear c16
                  have c17b0 := eq_true (of_decide_eq_true (by first | (with_reducible assumption) | assumption) : 0 ≤ (ji13))
                  by_cases c18 : (ji13) ≤ (x0_2.length : Int)
                  · rw [if_pos c18] at H
                    have c18b0 := eq_true c18
                    have c18b1 : decide ((ji13) ≤ (x0_2.length : Int)) = true := decide_eq_true c18
                    clear c18
                    obtain ⟨y375, hy375⟩ : ∃ y_ : List Int, y_ = (x0_2.take ((ji13) : Int).toNat) := ⟨_, rfl⟩
                    replace H : (spec_bare.l1 k2 y375 (wrap64 (x1_2 + 1))) = some (r1, r2) := by first | (rw [hy375]; with_reducible exact H) | (have H2_ := (Option.bind_some _ _).symm.trans H; rw [hy375]; with_reducible exact H2_) | (have H2_ := (Option.bind_some _ _).symm.trans H; with_reducible exact H2_) | with_reducible exact H | (rw [hy375]; exact H) | exact H
                    have Ny375 := Aside0.mk hy375
                    clear hy375
                    have H' := Aside0.mk H
                    clear H
                    obtain ⟨Ao19, co19, eo19⟩ := Kd.V_slice HO_0.out
                    subst eo19
                    have p374 : 0 ≤ ((ji13) : Int) := of_decide_eq_true (by first | (with_reducible assumption) | assumption)
                    have q374 : (ji13) < (x0_2.length : Int) := of_decide_eq_true (by first | (with_reducible assumption) | assumption)
                    obtain ⟨ad374, e374, hx374_0⟩ := Kd.at_int (Kd.V_reads' HO_0.out).2.2 (ji13) p374 q374
                    cases e374
                    replace p374 := eq_true p374
                    replace q374 := eq_true q374
                    have q20 : ((ji13) : Int) ≤ ((x0_2.length : Int) : Int) := of_decide_eq_true (by first | (with_reducible assumption) | assumption)
                    obtain ⟨i020, hi020, _, hsz20, _⟩ := info_parts info5
                    have hroom20 : x0_2.length ≤ co19 := (Kd.V_reads' HO_0.out).2.1
                    have hC20 : Kd.F (Kd.int .u8) _ _ (some ad374) x0_2.length x0_2 := (Kd.V_at (base := w.heap.size) HO_0.out).2.2
                    have hcut20 := cut_to (P := Tryz.prog) 27 5 .i64 Tryz.underlying27 hi020 (some ad374) x0_2.length co19 (ji13) (of_decide_eq_true (by first | (with_reducible assumption) | assumption)) q20 hroom20
                    have hr20 := Kd.F_take (m := ((ji13) : Int).toNat) hC20 (by omega)
                    have hy20 : y375.length = ((ji13) : Int).toNat := (by rw [Ny375.out, List.length_take]; omega)
                    rw [← Ny375.out] at hr20
                    rw [← hy20] at hcut20
                    have HO379 := Aside0.mk (show Kd.V (Kd.int .u8) 5 _ w.heap.size _ (.slice (some ad374) y375.length co19) y375 from Kd.V_mk (by omega) hr20)
                    have HC379 := Aside0.mk (show y375.length ≤ co19 from by omega)
                    clear hr20 hC20 hroom20 hi020 hsz20
                    have KY20 := Aside0.mk hy20
                    clear hy20
                    replace q20 := eq_true q20
                    go_wp2
                    go_roundg k2
                    case measure => have := HJ2.out; have := HK2.out; omega
                    case rel => exact ⟨(y375), (wrap64 (x1_2 + 1)), (by first | rfl | (simp; done) | (simp [*]; done)), H', ⟨by have := HJ2.out; have := HK2.out; omega⟩, ⟨by (with_reducible repeat (first | apply Kd.V_alloc | apply Kd.V_drewN | apply Kd.V_drew)); exact HO379.out⟩, ⟨by repeat (first | (with_reducible first | exact HB.out | apply below_alloc | apply pw_below_drewN | apply below_drew1) | exact HB.out)⟩⟩
                  · rw [if_neg c18] at H
                    exact absurd H (by simp)
                · rw [if_neg c16] at H
                  have c16b0 : ((rd x0_2 (ji13)) == 48) = false := beq_eq_false_iff_ne.mpr c16
                  have c16b1 : ((rd x0_2 (ji13)) != 48) = true := bne_iff_ne.mpr c16
                  by_cases c21 : (x0_2.length : Int) = 0
                  · rw [if_pos c21] at H
                    have c21b0 : ((x0_2.length : Int) == 0) = true := beq_iff_eq.mpr c21
                    have c21b1 : ((x0_2.length : Int) != 0) = false := bne_eq_false_iff_eq.mpr c21
                    clear c21
                    simp only [Option.some.injEq, Prod.mk.injEq] at H
                    obtain ⟨rfl, rfl⟩ := H
                    obtain ⟨Ao22, co22, eo22⟩ := Kd.V_slice HO_0.out
                    subst eo22
                    have p374 : 0 ≤ ((ji13) : Int) := of_decide_eq_true (by first | (with_reducible assumption) | assumption)
                    have q374 : (ji13) < (x0_2.length : Int) := of_decide_eq_true (by first | (with_reducible assumption) | assumption)
                    obtain ⟨ad374, e374, hx374_0⟩ := Kd.at_int (Kd.V_reads' HO_0.out).2.2 (ji13) p374 q374
                    cases e374
                    replace p374 := eq_true p374
                    replace q374 := eq_true q374
                    have hcv23 := Kd.C_string (P := Tryz.prog) (c := co22) Tryz.underlying27 Tryz.underlying5 Tryz.underlying9 (Kd.V_reads' HO_0.out).2.2
                    go_wp2
                    go_ret2
                    exact ⟨by first | rfl | (simp [errW_none, errW_some] <;> rfl) | (simp only [← hji13]; first | rfl | (simp [errW_none, errW_some] <;> rfl)) | (simp [*, errW_none, errW_some] <;> rfl), by repeat (first | (with_reducible first | exact HB.out | apply below_alloc | apply pw_below_drewN | apply below_drew1) | exact HB.out)⟩
                  · rw [if_neg c21] at H
                    have c21b0 : ((x0_2.length : Int) == 0) = false := beq_eq_false_iff_ne.mpr c21
                    have c21b1 : ((x0_2.length : Int) != 0) = true := bne_iff_ne.mpr c21
                    have c21b2 : ¬ (x0_2 = []) := fun h_ => c21 (by rw [h_]; rfl)
                    simp only [Option.some.injEq, Prod.mk.injEq] at H
                    obtain ⟨rfl, rfl⟩ := H
                    obtain ⟨Ao24, co24, eo24⟩ := Kd.V_slice HO_0.out
                    subst eo24
                    have p374 : 0 ≤ ((ji13) : Int) := of_decide_eq_true (by first | (with_reducible assumption) | assumption)
                    have q374 : (ji13) < (x0_2.length : Int) := of_decide_eq_true (by first | (with_reducible assumption) | assumption)
                    obtain ⟨ad374, e374, hx374_0⟩ := Kd.at_int (Kd.V_reads' HO_0.out).2.2 (ji13) p374 q374
                    cases e374
                    replace p374 := eq_true p374
                    replace q374 := eq_true q374
                    have hcv25 := Kd.C_string (P := Tryz.prog) (c := co24) Tryz.underlying27 Tryz.underlying5 Tryz.underlying9 (Kd.V_reads' HO_0.out).2.2
                    go_wp2
                    go_ret2
                    exact ⟨by first | rfl | (simp [errW_none, errW_some] <;> rfl) | (simp only [← hji13]; first | rfl | (simp [errW_none, errW_some] <;> rfl)) | (simp [*, errW_none, errW_some] <;> rfl), by repeat (first | (with_reducible first | exact HB.out | apply below_alloc | apply pw_below_drewN | apply below_drew1) | exact HB.out)⟩
              · rw [if_neg c15] at H
                exact absurd H (by simp)
            · rw [if_neg c14] at H
              exact absurd H (by simp)
          · rw [if_neg c12] at H
            have c12b0 : decide (0 < (x0_2.length : Int)) = false := decide_eq_false c12
            have c12b1 : decide (0 < x0_2.length) = false := decide_eq_false (by omega)
            clear c12
            by_cases c26 : (x0_2.length : Int) = 0
            · rw [if_pos c26] at H
              have c26b0 : ((x0_2.length : Int) == 0) = true := beq_iff_eq.mpr c26
              have c26b1 : ((x0_2.length : Int) != 0) = false := bne_eq_false_iff_eq.mpr c26
              clear c26
              simp only [Option.some.injEq, Prod.mk.injEq] at H
              obtain ⟨rfl, rfl⟩ := H
              obtain ⟨Ao27, co27, eo27⟩ := Kd.V_slice HO_0.out
              subst eo27
              have hcv28 := Kd.C_string (P := Tryz.prog) (c := co27) Tryz.underlying27 Tryz.underlying5 Tryz.underlying9 (Kd.V_reads' HO_0.out).2.2
              go_wp2
              go_ret2
              exact ⟨by first | rfl | (simp [errW_none, errW_some] <;> rfl) | (simp [*, errW_none, errW_some] <;> rfl), by repeat (first | (with_reducible first | exact HB.out | apply below_alloc | apply pw_below_drewN | apply below_drew1) | exact HB.out)⟩
            · rw [if_neg c26] at H
              have c26b0 : ((x0_2.length : Int) == 0) = false := beq_eq_false_iff_ne.mpr c26
              have c26b1 : ((x0_2.length : Int) != 0) = true := bne_iff_ne.mpr c26
              have c26b2 : ¬ (x0_2 = []) := fun h_ => c26 (by rw [h_]; rfl)
              simp only [Option.some.injEq, Prod.mk.injEq] at H
              obtain ⟨rfl, rfl⟩ := H
              obtain ⟨Ao29, co29, eo29⟩ := Kd.V_slice HO_0.out
              subst eo29
              have hcv30 := Kd.C_string (P := Tryz.prog) (c := co29) Tryz.underlying27 Tryz.underlying5 Tryz.underlying9 (Kd.V_reads' HO_0.out).2.2
              go_wp2
              go_ret2
              exact ⟨by first | rfl | (simp [errW_none, errW_some] <;> rfl) | (simp [*, errW_none, errW_some] <;> rfl), by repeat (first | (with_reducible first | exact HB.out | apply below_alloc | apply pw_below_drewN | apply below_drew1) | exact HB.out)⟩

-- NOT PRINTED: function 8 (spec_Value)

/-! ### spec_binary: function 25 -/
def spec_binary.f (a0 : Int) : Option (Int × Int) := if (wrap64 (a0 / 4503599627370496)) = 0 then (some (Go.bits .and .u64 a0 4503599627370495, (-1074))) else (some (Go.bits .or .u64 (Go.bits .and .u64 a0 4503599627370495) 4503599627370496, wrap64 ((wrap64 (a0 / 4503599627370496)) - 1075)))
set_option maxHeartbeats 8000000 in
set_option maxRecDepth 100000 in
theorem spec_binary.calls (a0 : Int) (r1 : Int) (r2 : Int) (w : World) (h : spec_binary.f a0 = some (r1, r2)) :
    Calls Tryz.prog 25 #[.int .u64 a0] w fun e w' => e = .returned (.tuple #[.int .u64 r1, .int .i64 r2]) ∧ Drawn0 w w' := by
  have H : (if (wrap64 (a0 / 4503599627370496)) = 0 then (some (Go.bits .and .u64 a0 4503599627370495, (-1074))) else (some (Go.bits .or .u64 (Go.bits .and .u64 a0 4503599627370495) 4503599627370496, wrap64 ((wrap64 (a0 / 4503599627370496)) - 1075)))) = some (r1, r2) := h
  clear h
  by_cases c2 : (wrap64 (a0 / 4503599627370496)) = 0
  · rw [if_pos c2] at H
    have c2b0 : ((wrap64 (a0 / 4503599627370496)) == 0) = true := beq_iff_eq.mpr c2
    have c2b1 : ((wrap64 (a0 / 4503599627370496)) != 0) = false := bne_eq_false_iff_eq.mpr c2
    clear c2
    simp only [Option.some.injEq, Prod.mk.injEq] at H
    obtain ⟨rfl, rfl⟩ := H
    go_enter Tryz.func25, Tryz.ntmps25
    go_wp2
    go_ret2
    exact ⟨by first | rfl | (simp; done) | (simp [*]; done), by repeat (first | exact Drawn0.refl _ | apply Drawn0.step)⟩
  · rw [if_neg c2] at H
    have c2b0 : ((wrap64 (a0 / 4503599627370496)) == 0) = false := beq_eq_false_iff_ne.mpr c2
    have c2b1 : ((wrap64 (a0 / 4503599627370496)) != 0) = true := bne_iff_ne.mpr c2
    simp only [Option.some.injEq, Prod.mk.injEq] at H
    obtain ⟨rfl, rfl⟩ := H
    go_enter Tryz.func25, Tryz.ntmps25
    go_wp2
    go_ret2
    exact ⟨by first | rfl | (simp; done) | (simp [*]; done), by repeat (first | exact Drawn0.refl _ | apply Drawn0.step)⟩

/-! ### spec_ofWord: function 33 -/
def spec_ofWord.l0 : Nat → List Int → Option (List Int)
  | 0, _ => none
  | k + 1, x3 => if (x3.length : Int) > 0 then (if 0 ≤ (wrap64 ((x3.length : Int) - 1)) then (if (wrap64 ((x3.length : Int) - 1)) < (x3.length : Int) then (if (rd x3 (wrap64 ((x3.length : Int) - 1))) = 0 then (if (wrap64 ((x3.length : Int) - 1)) ≤ (x3.length : Int) then (spec_ofWord.l0 k (x3.take ((wrap64 ((x3.length : Int) - 1)) : Int).toNat)) else (none)) else (some x3)) else (none)) else (none)) else (some x3)
def spec_ofWord.f (k : Nat) (a0 : Int) : Option (List Int) := spec_ofWord.l0 k (([(a0) % 4294967296, (a0 / 4294967296) % 4294967296] : List Int))
theorem spec_ofWord.mono_l : ∀ k, (∀ y0, LeO (spec_ofWord.l0 k y0) (spec_ofWord.l0 (k + 1) y0))
  | 0 => fun _ r h => by simp [spec_ofWord.l0] at h
  | k + 1 => by
    have ih0 := spec_ofWord.mono_l k
    · intro y0
      unfold spec_ofWord.l0
      repeat' first
      | (with_reducible exact ih0 _)
      | (with_reducible exact LeO.refl _)
      | (with_reducible exact LeO.none _)
      | (with_reducible refine LeO.ite ?_ ?_)
      | (with_reducible refine LeO.bind ?_ (fun _ => ?_))
      | exact ih0 _
      | exact LeO.none _
      | refine LeO.ite ?_ ?_
      | refine LeO.bind ?_ (fun _ => ?_)
theorem spec_ofWord.mono : ∀ a0 k, LeO (spec_ofWord.f k a0) (spec_ofWord.f (k + 1) a0) := by
  intro a0 k
  have ih0 := spec_ofWord.mono_l k
  unfold spec_ofWord.f
  repeat' first
      | (with_reducible exact ih0 _)
      | (with_reducible exact LeO.refl _)
      | (with_reducible exact LeO.none _)
      | (with_reducible refine LeO.ite ?_ ?_)
      | (with_reducible refine LeO.bind ?_ (fun _ => ?_))
      | exact ih0 _
      | exact LeO.none _
      | refine LeO.ite ?_ ?_
      | refine LeO.bind ?_ (fun _ => ?_)
set_option maxHeartbeats 8000000 in
set_option maxRecDepth 100000 in
theorem spec_ofWord.calls (k : Nat) (a0 : Int) (r : List Int) (w : World) (h : spec_ofWord.f k a0 = some r) :
    Calls Tryz.prog 33 #[.int .u64 a0] w fun e w' => ∃ v0_ : Value, e = .returned (v0_) ∧ Kd.R (Kd.int .u32) 92 w' w.heap.size (fun _ => True) v0_ r ∧ Below w.heap.size w w' := by
  have HB := Aside0.mk (Below.refl w.heap.size w)
  have H : (spec_ofWord.l0 k (([(a0) % 4294967296, (a0 / 4294967296) % 4294967296] : List Int))) = some r := h
  clear h
  obtain ⟨y381, hy381⟩ : ∃ y_ : List Int, y_ = (([(a0) % 4294967296, (a0 / 4294967296) % 4294967296] : List Int)) := ⟨_, rfl⟩
  replace H : (spec_ofWord.l0 k y381) = some r := by first | (rw [hy381]; with_reducible exact H) | (have H2_ := (Option.bind_some _ _).symm.trans H; rw [hy381]; with_reducible exact H2_) | (have H2_ := (Option.bind_some _ _).symm.trans H; with_reducible exact H2_) | with_reducible exact H | (rw [hy381]; exact H) | exact H
  have Ny381 := Aside0.mk hy381
  clear hy381
  have H' := Aside0.mk H
  clear H
  go_enter Tryz.func33, Tryz.ntmps33
  go_wp2_with (first | ((with_reducible refine gate_dst (N := 9) rfl ?_); (try (refine gate_guard (by rfl) ?_; dsimp only)); refine Kd.R_lit (Kd.int .u32) _ 92 ?hg (N := 9) ?hd (xs := ([(a0) % 4294967296, (a0 / 4294967296) % 4294967296] : List Int)) (inner := [.int .u32 ((a0) % 4294967296), .int .u32 ((a0 / 4294967296) % 4294967296)]) (ok := fun _ => True) (okp := fun _ => True) ?hr ?hp (fun _ hk => hk) trivial (Below.refl _ _) (Nat.le_refl _) (by simp) ?_; (case hd => rfl); (case hg => rfl); (case hr => first | (go_simp; done) | (go_simp; rfl)); (case hp => exact (Reps.one (show Kd.M (Kd.int .u32) _ _ _ ((a0) % 4294967296) [.int .u32 ((a0) % 4294967296)] from rfl) (Reps.one (show Kd.M (Kd.int .u32) _ _ _ ((a0 / 4294967296) % 4294967296) [.int .u32 ((a0 / 4294967296) % 4294967296)] from rfl) (Reps.none _ _)))); intro v382 w2 ho3 hb hg_ hnew_; clear hg_ hnew_; (first | rw [← Ny381.out] at ho3 | (simp only [Int.reduceToNat] at ho3; rw [← Ny381.out] at ho3)); have n0_ := Aside0.mk (Kd.R_lower ho3 (below_size (by repeat (first | (with_reducible first | exact HB.out | apply below_alloc | apply pw_below_drewN | apply below_drew1) | exact HB.out)))); have n1_ := Aside0.mk (below_step (by repeat (first | (with_reducible first | exact HB.out | apply below_alloc | apply pw_below_drewN | apply below_drew1) | exact HB.out)) hb); clear HB; have HO383 := n0_; have HB := n1_; clear n0_ n1_; clear hb ho3))
  (try simp only [Act.put, List.setIfInBounds_toArray, List.set_cons_zero, List.set_cons_succ])
  go_loopg [3] k (fun kq v3 w' => ∃ (x3_1 : List Int), Aside0 (spec_ofWord.l0 kq x3_1 = some r) ∧ Aside0 (kq ≤ k) ∧ Aside0 (Kd.R (Kd.int .u32) 92 w' w.heap.size (fun _ => True) v3 x3_1) ∧ Aside0 (Below w.heap.size w w'))
  case atStart => exact ⟨(y381), H', ⟨Nat.le_refl _⟩, ⟨by (with_reducible repeat (first | apply Kd.R_alloc | apply Kd.R_drewN | apply Kd.R_drew)); exact HO383.out⟩, ⟨by repeat (first | (with_reducible first | exact HB.out | apply below_alloc | apply pw_below_drewN | apply below_drew1) | exact HB.out)⟩⟩
  case round =>
    clear H'
    try clear p2
    try clear c3
    obtain ⟨x3_1, HA, HK1, HO_3, HB⟩ := hrel
    cases gk with
    | zero => exact absurd HA.out (by simp [spec_ofWord.l0])
    | succ k1 =>
      have H := HA.out
      clear HA
      simp only [spec_ofWord.l0] at H
      by_cases c4 : (x3_1.length : Int) > 0
      · rw [if_pos c4] at H
        have c4b0 : decide (0 < (x3_1.length : Int)) = true := decide_eq_true c4
        have c4b1 : decide (0 < x3_1.length) = true := decide_eq_true (by omega)
        clear c4
        obtain ⟨ji5, hji5⟩ : ∃ j_ : Int, (wrap64 ((x3_1.length : Int) - 1)) = j_ := ⟨_, rfl⟩
        replace H : (if 0 ≤ (ji5) then (if (ji5) < (x3_1.length : Int) then (if (rd x3_1 (ji5)) = 0 then (if (ji5) ≤ (x3_1.length : Int) then (spec_ofWord.l0 k1 (x3_1.take ((ji5) : Int).toNat)) else (none)) else (some x3_1)) else (none)) else (none)) = some r := by first | (rw [hji5] at H; exact H) | (simp only [hji5] at H ⊢; exact H)
        have hji5w : (IntKind.i64.wrap ((x3_1.length : Int) - 1)) = ji5 := (i64_w _).trans hji5
        by_cases c6 : 0 ≤ (ji5)
        · rw [if_pos c6] at H
          have c6b0 : decide (0 ≤ (ji5)) = true := decide_eq_true c6
          clear c6
          by_cases c7 : (ji5) < (x3_1.length : Int)
          · rw [if_pos c7] at H
            have c7b0 : decide ((ji5) < (x3_1.length : Int)) = true := decide_eq_true c7
            clear c7
            by_cases c8 : (rd x3_1 (ji5)) = 0
            · rw [if_pos c8] at H
              have c8b0 : ((rd x3_1 (ji5)) == 0) = true := beq_iff_eq.mpr c8
              have c8b1 : ((rd x3_1 (ji5)) != 0) = false := bne_eq_false_iff_eq.mpr c8
              clear c8
              by_cases c9 : (ji5) ≤ (x3_1.length : Int)
              · rw [if_pos c9] at H
                have c9b0 := eq_true c9
                have c9b1 : decide ((ji5) ≤ (x3_1.length : Int)) = true := decide_eq_true c9
                clear c9
                obtain ⟨y385, hy385⟩ : ∃ y_ : List Int, y_ = (x3_1.take ((ji5) : Int).toNat) := ⟨_, rfl⟩
                replace H : (spec_ofWord.l0 k1 y385) = some r := by first | (rw [hy385]; with_reducible exact H) | (have H2_ := (Option.bind_some _ _).symm.trans H; rw [hy385]; with_reducible exact H2_) | (have H2_ := (Option.bind_some _ _).symm.trans H; with_reducible exact H2_) | with_reducible exact H | (rw [hy385]; exact H) | exact H
                have Ny385 := Aside0.mk hy385
                clear hy385
                have H' := Aside0.mk H
                clear H
                obtain ⟨Ao10, co10, eo10⟩ := Kd.R_slice HO_3.out
                subst eo10
                have p384 : 0 ≤ ((ji5) : Int) := of_decide_eq_true (by first | (with_reducible assumption) | assumption)
                have q384 : (ji5) < (x3_1.length : Int) := of_decide_eq_true (by first | (with_reducible assumption) | assumption)
                obtain ⟨ad384, e384, hx384_0⟩ := Kd.at_int (Kd.R_reads' HO_3.out).2.2 (ji5) p384 q384
                cases e384
                replace p384 := eq_true p384
                replace q384 := eq_true q384
                have q11 : ((ji5) : Int) ≤ ((x3_1.length : Int) : Int) := of_decide_eq_true (by first | (with_reducible assumption) | assumption)
                obtain ⟨i011, hi011, _, hsz11, _⟩ := info_parts info92
                have hcut11 := cut_to (P := Tryz.prog) 87 92 .i64 Tryz.underlying87 hi011 (some ad384) x3_1.length co10 (ji5) (of_decide_eq_true (by first | (with_reducible assumption) | assumption)) q11 (Kd.R_reads' HO_3.out).2.1
                have hr11 := Kd.R_take (m := ((ji5) : Int).toNat) HO_3.out (by omega)
                have hy11 : y385.length = ((ji5) : Int).toNat := (by rw [Ny385.out, List.length_take]; omega)
                rw [← Ny385.out] at hr11
                rw [← hy11] at hr11 hcut11
                clear hy11 hi011 hsz11 HO_3
                have HO387 := Aside0.mk hr11
                clear hr11
                replace q11 := eq_true q11
                go_wp2
                go_roundg k1
                case measure => have := HK1.out; omega
                case rel => exact ⟨(y385), H', ⟨by have := HK1.out; omega⟩, ⟨by (with_reducible repeat (first | apply Kd.R_alloc | apply Kd.R_drewN | apply Kd.R_drew)); exact HO387.out⟩, ⟨by repeat (first | (with_reducible first | exact HB.out | apply below_alloc | apply pw_below_drewN | apply below_drew1) | exact HB.out)⟩⟩
              · rw [if_neg c9] at H
                exact absurd H (by simp)
            · rw [if_neg c8] at H
              have c8b0 : ((rd x3_1 (ji5)) == 0) = false := beq_eq_false_iff_ne.mpr c8
              have c8b1 : ((rd x3_1 (ji5)) != 0) = true := bne_iff_ne.mpr c8
              obtain rfl := Option.some.inj H
              obtain ⟨Ao12, co12, eo12⟩ := Kd.R_slice HO_3.out
              subst eo12
              have p384 : 0 ≤ ((ji5) : Int) := of_decide_eq_true (by first | (with_reducible assumption) | assumption)
              have q384 : (ji5) < (x3_1.length : Int) := of_decide_eq_true (by first | (with_reducible assumption) | assumption)
              obtain ⟨ad384, e384, hx384_0⟩ := Kd.at_int (Kd.R_reads' HO_3.out).2.2 (ji5) p384 q384
              cases e384
              replace p384 := eq_true p384
              replace q384 := eq_true q384
              go_wp2
              go_ret
              exact ⟨_, by first | rfl | (simp [errW_none, errW_some] <;> rfl) | (simp only [← hji5]; first | rfl | (simp [errW_none, errW_some] <;> rfl)) | (simp [*, errW_none, errW_some] <;> rfl), by (with_reducible repeat (first | apply Kd.R_alloc | apply Kd.R_drewN | apply Kd.R_drew)); exact HO_3.out, by repeat (first | (with_reducible first | exact HB.out | apply below_alloc | apply pw_below_drewN | apply below_drew1) | exact HB.out)⟩
          · rw [if_neg c7] at H
            exact absurd H (by simp)
        · rw [if_neg c6] at H
          exact absurd H (by simp)
      · rw [if_neg c4] at H
        have c4b0 : decide (0 < (x3_1.length : Int)) = false := decide_eq_false c4
        have c4b1 : decide (0 < x3_1.length) = false := decide_eq_false (by omega)
        clear c4
        obtain rfl := Option.some.inj H
        obtain ⟨Ao13, co13, eo13⟩ := Kd.R_slice HO_3.out
        subst eo13
        go_wp2
        go_ret
        exact ⟨_, by first | rfl | (simp [errW_none, errW_some] <;> rfl) | (simp [*, errW_none, errW_some] <;> rfl), by (with_reducible repeat (first | apply Kd.R_alloc | apply Kd.R_drewN | apply Kd.R_drew)); exact HO_3.out, by repeat (first | (with_reducible first | exact HB.out | apply below_alloc | apply pw_below_drewN | apply below_drew1) | exact HB.out)⟩

/-! ### spec_natural_times: function 57 -/
def spec_natural_times.l0 : Nat → List Int → Int → List Int → Int → Int → Option (List Int)
  | 0, _, _, _, _, _ => none
  | k + 1, x0, x1, x7, x8, x9 => if x9 < (x0.length : Int) then (if 0 ≤ x9 then (if x7.length < 35184372088832 then (spec_natural_times.l0 k x0 x1 (x7 ++ [(IntKind.u64.wrap (x8 + (IntKind.u64.wrap ((IntKind.u64.wrap (rd x0 x9)) * (IntKind.u64.wrap (x1)))))) % 4294967296]) ((IntKind.u64.wrap (x8 + (IntKind.u64.wrap ((IntKind.u64.wrap (rd x0 x9)) * (IntKind.u64.wrap (x1)))))) / 4294967296) (wrap64 (x9 + 1))) else (none)) else (none)) else (if x8 > 0 then (if x7.length < 35184372088832 then (some (x7 ++ [(x8) % 4294967296])) else (none)) else (some x7))
def spec_natural_times.f (k : Nat) (l0 : List Int) (a1 : Int) (a2 : Int) : Option (List Int) := if 0 ≤ (wrap64 ((l0.length : Int) + 1)) then (if (wrap64 ((l0.length : Int) + 1) : Int).toNat ≤ 70368744177664 then (spec_natural_times.l0 k l0 a1 (([] : List Int)) (IntKind.u64.wrap (a2)) 0) else (none)) else (none)
theorem spec_natural_times.mono_l : ∀ k, (∀ y0 y1 y2 y3 y4, LeO (spec_natural_times.l0 k y0 y1 y2 y3 y4) (spec_natural_times.l0 (k + 1) y0 y1 y2 y3 y4))
  | 0 => fun _ _ _ _ _ r h => by simp [spec_natural_times.l0] at h
  | k + 1 => by
    have ih0 := spec_natural_times.mono_l k
    · intro y0 y1 y2 y3 y4
      unfold spec_natural_times.l0
      repeat' first
      | (with_reducible exact ih0 _ _ _ _ _)
      | (with_reducible exact LeO.refl _)
      | (with_reducible exact LeO.none _)
      | (with_reducible refine LeO.ite ?_ ?_)
      | (with_reducible refine LeO.bind ?_ (fun _ => ?_))
      | exact ih0 _ _ _ _ _
      | exact LeO.none _
      | refine LeO.ite ?_ ?_
      | refine LeO.bind ?_ (fun _ => ?_)
theorem spec_natural_times.mono : ∀ a0 a1 a2 k, LeO (spec_natural_times.f k a0 a1 a2) (spec_natural_times.f (k + 1) a0 a1 a2) := by
  intro a0 a1 a2 k
  have ih0 := spec_natural_times.mono_l k
  unfold spec_natural_times.f
  repeat' first
      | (with_reducible exact ih0 _ _ _ _ _)
      | (with_reducible exact LeO.refl _)
      | (with_reducible exact LeO.none _)
      | (with_reducible refine LeO.ite ?_ ?_)
      | (with_reducible refine LeO.bind ?_ (fun _ => ?_))
      | exact ih0 _ _ _ _ _
      | exact LeO.none _
      | refine LeO.ite ?_ ?_
      | refine LeO.bind ?_ (fun _ => ?_)
set_option maxHeartbeats 8000000 in
set_option maxRecDepth 100000 in
theorem spec_natural_times.calls (k : Nat) (A0 : Option Addr) (c0 : Nat) (l0 : List Int) (a1 : Int) (a2 : Int) (r : List Int) (w : World) (hr0 : Kd.C (Kd.int .u32) w A0 l0.length l0) (hc0 : l0.length ≤ c0) (h : spec_natural_times.f k l0 a1 a2 = some r) :
    Calls Tryz.prog 57 #[.slice A0 l0.length c0, .int .u32 a1, .int .u32 a2] w fun e w' => ∃ v0_ : Value, e = .returned (v0_) ∧ Kd.R (Kd.int .u32) 92 w' w.heap.size (fun _ => True) v0_ r ∧ Below w.heap.size w w' := by
  have HR0 := Aside0.mk hr0
  have HC0 := Aside0.mk hc0
  clear hr0 hc0
  have HB := Aside0.mk (Below.refl w.heap.size w)
  have H : (if 0 ≤ (wrap64 ((l0.length : Int) + 1)) then (if (wrap64 ((l0.length : Int) + 1) : Int).toNat ≤ 70368744177664 then (spec_natural_times.l0 k l0 a1 (([] : List Int)) (IntKind.u64.wrap (a2)) 0) else (none)) else (none)) = some r := h
  clear h
  obtain ⟨ji4, hji4⟩ : ∃ j_ : Int, (wrap64 ((l0.length : Int) + 1)) = j_ := ⟨_, rfl⟩
  replace H : (if 0 ≤ (ji4) then (if (ji4 : Int).toNat ≤ 70368744177664 then (spec_natural_times.l0 k l0 a1 (([] : List Int)) (IntKind.u64.wrap (a2)) 0) else (none)) else (none)) = some r := by first | (rw [hji4] at H; exact H) | (simp only [hji4] at H ⊢; exact H)
  have hji4w : (IntKind.i64.wrap ((l0.length : Int) + 1)) = ji4 := (i64_w _).trans hji4
  by_cases c5 : 0 ≤ (ji4)
  · rw [if_pos c5] at H
    have c5b0 := eq_true c5
    have c5b1 : decide (0 ≤ (ji4)) = true := decide_eq_true c5
    clear c5
    by_cases c6 : (ji4 : Int).toNat ≤ 70368744177664
    · rw [if_pos c6] at H
      have c6b0 := eq_true c6
      have c6b1 : decide ((ji4 : Int).toNat ≤ 70368744177664) = true := decide_eq_true c6
      clear c6
      obtain ⟨y388, hy388⟩ : ∃ y_ : List Int, y_ = (([] : List Int)) := ⟨_, rfl⟩
      replace H : (spec_natural_times.l0 k l0 a1 y388 (IntKind.u64.wrap (a2)) 0) = some r := by first | (rw [hy388]; with_reducible exact H) | (have H2_ := (Option.bind_some _ _).symm.trans H; rw [hy388]; with_reducible exact H2_) | (have H2_ := (Option.bind_some _ _).symm.trans H; with_reducible exact H2_) | with_reducible exact H | (rw [hy388]; exact H) | exact H
      have Ny388 := Aside0.mk hy388
      clear hy388
      have H' := Aside0.mk H
      clear H
      go_enter Tryz.func57, Tryz.ntmps57
      go_wp2_with (first | ((with_reducible refine gate_dst (N := 13) rfl ?_); refine Kd.R_make0 (Kd.int .u32) _ 92 rfl (N := 13) rfl 87 _ _ rfl ji4 rfl rfl Tryz.underlying87 (.int .u32 0) 4 info92 rfl (by decide) (by omega) 0 (ok := fun _ => True) (okp := fun _ => True) rfl (fun _ hk => hk) trivial (of_decide_eq_true (by first | (with_reducible assumption) | assumption)) (Nat.le_trans (Nat.mul_le_mul_right _ (of_decide_eq_true (by first | (with_reducible assumption) | assumption) : ji4.toNat ≤ 70368744177664)) (by omega)) (Below.refl _ _) (Nat.le_refl _) ?_; intro v389 w7 ho8 hb hg_ hnew_; clear hg_ hnew_; (first | rw [← Ny388.out] at ho8 | (simp only [Int.reduceToNat] at ho8; rw [← Ny388.out] at ho8)); have n0_ := Aside0.mk (Kd.R_lower ho8 (below_size (by repeat (first | (with_reducible first | exact HB.out | apply below_alloc | apply pw_below_drewN | apply below_drew1) | exact HB.out)))); have n1_ := Aside0.mk (below_step (by repeat (first | (with_reducible first | exact HB.out | apply below_alloc | apply pw_below_drewN | apply below_drew1) | exact HB.out)) hb); clear HB; have HO390 := n0_; have HB := n1_; clear n0_ n1_; clear hb ho8))
      (try simp only [Act.put, List.setIfInBounds_toArray, List.set_cons_zero, List.set_cons_succ])
      go_loopg [7, 8, 9] k (fun kq v7 v8 v9 w' => ∃ (x7_1 : List Int) (x8_1 : Int) (x9_1 : Int), v8 = .int .u64 x8_1 ∧ v9 = .int .i64 x9_1 ∧ Aside0 (spec_natural_times.l0 kq l0 a1 x7_1 x8_1 x9_1 = some r) ∧ Aside0 (kq ≤ k) ∧ Aside0 (Kd.R (Kd.int .u32) 92 w' w.heap.size (fun _ => True) v7 x7_1) ∧ Aside0 (Below w.heap.size w w'))
      case atStart => exact ⟨(y388), (IntKind.u64.wrap (a2)), (0), (by first | rfl | (simp; done) | (simp [*]; done)), (by first | rfl | (simp; done) | (simp [*]; done)), H', ⟨Nat.le_refl _⟩, ⟨by (with_reducible repeat (first | apply Kd.R_alloc | apply Kd.R_drewN | apply Kd.R_drew)); exact HO390.out⟩, ⟨by repeat (first | (with_reducible first | exact HB.out | apply below_alloc | apply pw_below_drewN | apply below_drew1) | exact HB.out)⟩⟩
      case round =>
        clear H'
        try clear p2
        try clear c5
        try clear c5b0
        try clear c5b1
        try clear c6
        try clear c6b0
        try clear c6b1
        try clear p6
        obtain ⟨x7_1, x8_1, x9_1, rfl, rfl, HA, HK1, HO_7, HB⟩ := hrel
        cases gk with
        | zero => exact absurd HA.out (by simp [spec_natural_times.l0])
        | succ k1 =>
          have H := HA.out
          clear HA
          simp only [spec_natural_times.l0] at H
          by_cases c9 : x9_1 < (l0.length : Int)
          · rw [if_pos c9] at H
            have c9b0 : decide (x9_1 < (l0.length : Int)) = true := decide_eq_true c9
            clear c9
            by_cases c10 : 0 ≤ x9_1
            · rw [if_pos c10] at H
              have c10b0 : decide (0 ≤ x9_1) = true := decide_eq_true c10
              clear c10
              by_cases c11 : x7_1.length < 35184372088832
              · rw [if_pos c11] at H
                have LMc11 := Aside0.mk c11
                clear c11
                obtain ⟨y392, hy392⟩ : ∃ y_ : List Int, y_ = (x7_1 ++ [(IntKind.u64.wrap (x8_1 + (IntKind.u64.wrap ((IntKind.u64.wrap (rd l0 x9_1)) * (IntKind.u64.wrap (a1)))))) % 4294967296]) := ⟨_, rfl⟩
                replace H : (spec_natural_times.l0 k1 l0 a1 y392 ((IntKind.u64.wrap (x8_1 + (IntKind.u64.wrap ((IntKind.u64.wrap (rd l0 x9_1)) * (IntKind.u64.wrap (a1)))))) / 4294967296) (wrap64 (x9_1 + 1))) = some r := by first | (rw [hy392]; with_reducible exact H) | (have H2_ := (Option.bind_some _ _).symm.trans H; rw [hy392]; with_reducible exact H2_) | (have H2_ := (Option.bind_some _ _).symm.trans H; with_reducible exact H2_) | with_reducible exact H | (rw [hy392]; exact H) | exact H
                have Ny392 := Aside0.mk hy392
                clear hy392
                have H' := Aside0.mk H
                clear H
                have p391 : 0 ≤ (x9_1 : Int) := of_decide_eq_true (by first | (with_reducible assumption) | assumption)
                have q391 : x9_1 < (l0.length : Int) := of_decide_eq_true (by first | (with_reducible assumption) | assumption)
                obtain ⟨ad391, e391, hx391_0⟩ := Kd.at_int HR0.out x9_1 p391 q391
                cases e391
                replace hx391_0 := (HB.out.cell (World.block_lt_of_cell? w _ hx391_0)).trans hx391_0
                replace p391 := eq_true p391
                replace q391 := eq_true q391
                go_wp2_with (first | ((with_reducible refine gate_builtin (b := .append) (xs := #[.tmp 32, .tmp 35]) rfl ?_); at_builtin; refine Kd.R_append (Kd.int .u32) (w0 := w) w.heap.size rfl (.tmp 32) (.tmp 35) 87 92 (.int .u32 0) 4 rfl Tryz.underlying87 info92 rfl (by decide) (by omega) u7 x7_1 ((IntKind.u64.wrap (x8_1 + (IntKind.u64.wrap ((IntKind.u64.wrap (rd l0 x9_1)) * (IntKind.u64.wrap (a1)))))) % 4294967296) [.int .u32 ((IntKind.u64.wrap (x8_1 + (IntKind.u64.wrap ((IntKind.u64.wrap (rd l0 x9_1)) * (IntKind.u64.wrap (a1)))))) % 4294967296)] (fun _ => True) (fun _ => False) rfl rfl ?aP (fun _ hk => hk.elim) ?aF ?aO ?aB ?aS ?aL ?_; (case aP => exact rfl); (case aB => exact (by repeat (first | (with_reducible first | exact HB.out | apply below_alloc | apply pw_below_drewN | apply below_drew1) | exact HB.out))); (case aF => exact (fun _ _ => trivial)); (case aO => exact (by (with_reducible repeat (first | apply Kd.R_alloc | apply Kd.R_drewN | apply Kd.R_drew)); exact HO_7.out)); (case aS => exact (below_size (by repeat (first | (with_reducible first | exact HB.out | apply below_alloc | apply pw_below_drewN | apply below_drew1) | exact HB.out)))); (case aL => have := LMc11.out; omega); intro v393 w12 ho hb hg hat; rw [← Ny392.out] at ho; have n0_ := Aside0.mk (hb); have n1_ := Aside0.mk (ho); clear HB; clear HO_7; have HB := n0_; have HO394 := n1_; clear n0_ n1_; clear ho hb hg hat))
                go_roundg k1
                case measure => have := HK1.out; omega
                case rel => exact ⟨(y392), ((IntKind.u64.wrap (x8_1 + (IntKind.u64.wrap ((IntKind.u64.wrap (rd l0 x9_1)) * (IntKind.u64.wrap (a1)))))) / 4294967296), (wrap64 (x9_1 + 1)), (by first | rfl | (simp; done) | (simp [*]; done)), (by first | rfl | (simp; done) | (simp [*]; done)), H', ⟨by have := HK1.out; omega⟩, ⟨by (with_reducible repeat (first | apply Kd.R_alloc | apply Kd.R_drewN | apply Kd.R_drew)); exact HO394.out⟩, ⟨by repeat (first | (with_reducible first | exact HB.out | apply below_alloc | apply pw_below_drewN | apply below_drew1) | exact HB.out)⟩⟩
              · rw [if_neg c11] at H
                exact absurd H (by simp)
            · rw [if_neg c10] at H
              exact absurd H (by simp)
          · rw [if_neg c9] at H
            have c9b0 : decide (x9_1 < (l0.length : Int)) = false := decide_eq_false c9
            clear c9
            by_cases c13 : x8_1 > 0
            · rw [if_pos c13] at H
              have c13b0 : decide (0 < x8_1) = true := decide_eq_true c13
              clear c13
              by_cases c14 : x7_1.length < 35184372088832
              · rw [if_pos c14] at H
                have LMc14 := Aside0.mk c14
                clear c14
                obtain ⟨y395, hy395⟩ : ∃ y_ : List Int, y_ = (x7_1 ++ [(x8_1) % 4294967296]) := ⟨_, rfl⟩
                replace H : (some y395) = some r := by first | (rw [hy395]; with_reducible exact H) | (have H2_ := (Option.bind_some _ _).symm.trans H; rw [hy395]; with_reducible exact H2_) | (have H2_ := (Option.bind_some _ _).symm.trans H; with_reducible exact H2_) | with_reducible exact H | (rw [hy395]; exact H) | exact H
                have Ny395 := Aside0.mk hy395
                clear hy395
                obtain rfl := Option.some.inj H
                go_wp2_with (first | ((with_reducible refine gate_builtin (b := .append) (xs := #[.tmp 41, .tmp 44]) rfl ?_); at_builtin; refine Kd.R_append (Kd.int .u32) (w0 := w) w.heap.size rfl (.tmp 41) (.tmp 44) 87 92 (.int .u32 0) 4 rfl Tryz.underlying87 info92 rfl (by decide) (by omega) u7 x7_1 ((x8_1) % 4294967296) [.int .u32 ((x8_1) % 4294967296)] (fun _ => True) (fun _ => False) rfl rfl ?aP (fun _ hk => hk.elim) ?aF ?aO ?aB ?aS ?aL ?_; (case aP => exact rfl); (case aB => exact (by repeat (first | (with_reducible first | exact HB.out | apply below_alloc | apply pw_below_drewN | apply below_drew1) | exact HB.out))); (case aF => exact (fun _ _ => trivial)); (case aO => exact (by (with_reducible repeat (first | apply Kd.R_alloc | apply Kd.R_drewN | apply Kd.R_drew)); exact HO_7.out)); (case aS => exact (below_size (by repeat (first | (with_reducible first | exact HB.out | apply below_alloc | apply pw_below_drewN | apply below_drew1) | exact HB.out)))); (case aL => have := LMc14.out; omega); intro v396 w15 ho hb hg hat; rw [← Ny395.out] at ho; have n0_ := Aside0.mk (hb); have n1_ := Aside0.mk (ho); clear HB; clear HO_7; have HB := n0_; have HO397 := n1_; clear n0_ n1_; clear ho hb hg hat))
                go_ret
                exact ⟨_, by first | rfl | (simp [errW_none, errW_some] <;> rfl) | (simp only [← hji4]; first | rfl | (simp [errW_none, errW_some] <;> rfl)) | (simp [*, errW_none, errW_some] <;> rfl), by (with_reducible repeat (first | apply Kd.R_alloc | apply Kd.R_drewN | apply Kd.R_drew)); exact HO397.out, by repeat (first | (with_reducible first | exact HB.out | apply below_alloc | apply pw_below_drewN | apply below_drew1) | exact HB.out)⟩
              · rw [if_neg c14] at H
                exact absurd H (by simp)
            · rw [if_neg c13] at H
              have c13b0 : decide (0 < x8_1) = false := decide_eq_false c13
              clear c13
              obtain rfl := Option.some.inj H
              go_wp2
              go_ret
              exact ⟨_, by first | rfl | (simp [errW_none, errW_some] <;> rfl) | (simp only [← hji4]; first | rfl | (simp [errW_none, errW_some] <;> rfl)) | (simp [*, errW_none, errW_some] <;> rfl), by (with_reducible repeat (first | apply Kd.R_alloc | apply Kd.R_drewN | apply Kd.R_drew)); exact HO_7.out, by repeat (first | (with_reducible first | exact HB.out | apply below_alloc | apply pw_below_drewN | apply below_drew1) | exact HB.out)⟩
    · rw [if_neg c6] at H
      exact absurd H (by simp)
  · rw [if_neg c5] at H
    exact absurd H (by simp)

/-! ### spec_ofDigits: function 34 -/
def spec_ofDigits.l0 : Nat → ByteArray → List Int → Int → Option (List Int)
  | 0, _, _, _ => none
  | k + 1, x0, x3, x4 => if x4 < (x0.size : Int) then (if 0 ≤ x4 then ((spec_natural_times.f k x3 10 (((bt x0 x4) - 48) % 256)).bind fun t398 => (spec_ofDigits.l0 k x0 t398 (wrap64 (x4 + 1)))) else (none)) else (some x3)
def spec_ofDigits.f (k : Nat) (a0 : ByteArray) : Option (List Int) := spec_ofDigits.l0 k a0 ([] : List Int) 0
theorem spec_ofDigits.mono_l : ∀ k, (∀ y0 y1 y2, LeO (spec_ofDigits.l0 k y0 y1 y2) (spec_ofDigits.l0 (k + 1) y0 y1 y2))
  | 0 => fun _ _ _ r h => by simp [spec_ofDigits.l0] at h
  | k + 1 => by
    have ih0 := spec_ofDigits.mono_l k
    · intro y0 y1 y2
      unfold spec_ofDigits.l0
      repeat' first
      | (with_reducible exact ih0 _ _ _)
      | (with_reducible exact spec_natural_times.mono _ _ _ _)
      | (with_reducible exact LeO.refl _)
      | (with_reducible exact LeO.none _)
      | (with_reducible refine LeO.ite ?_ ?_)
      | (with_reducible refine LeO.bind ?_ (fun _ => ?_))
      | exact ih0 _ _ _
      | exact spec_natural_times.mono _ _ _ _
      | exact LeO.none _
      | refine LeO.ite ?_ ?_
      | refine LeO.bind ?_ (fun _ => ?_)
theorem spec_ofDigits.mono : ∀ a0 k, LeO (spec_ofDigits.f k a0) (spec_ofDigits.f (k + 1) a0) := by
  intro a0 k
  have ih0 := spec_ofDigits.mono_l k
  unfold spec_ofDigits.f
  repeat' first
      | (with_reducible exact ih0 _ _ _)
      | (with_reducible exact spec_natural_times.mono _ _ _ _)
      | (with_reducible exact LeO.refl _)
      | (with_reducible exact LeO.none _)
      | (with_reducible refine LeO.ite ?_ ?_)
      | (with_reducible refine LeO.bind ?_ (fun _ => ?_))
      | exact ih0 _ _ _
      | exact spec_natural_times.mono _ _ _ _
      | exact LeO.none _
      | refine LeO.ite ?_ ?_
      | refine LeO.bind ?_ (fun _ => ?_)
set_option maxHeartbeats 8000000 in
set_option maxRecDepth 100000 in
theorem spec_ofDigits.calls (k : Nat) (a0 : ByteArray) (r : List Int) (w : World) (h : spec_ofDigits.f k a0 = some r) :
    Calls Tryz.prog 34 #[.string a0] w fun e w' => ∃ v0_ : Value, e = .returned (v0_) ∧ Kd.R (Kd.int .u32) 92 w' w.heap.size (fun _ => True) v0_ r ∧ Below w.heap.size w w' := by
  have HB := Aside0.mk (Below.refl w.heap.size w)
  have H : (spec_ofDigits.l0 k a0 ([] : List Int) 0) = some r := h
  clear h
  have H' := Aside0.mk H
  clear H
  go_enter Tryz.func34, Tryz.ntmps34
  go_wp2
  (try simp only [Act.put, List.setIfInBounds_toArray, List.set_cons_zero, List.set_cons_succ])
  go_loopg [3, 4] k (fun kq v3 v4 w' => ∃ (x3_1 : List Int) (x4_1 : Int), v4 = .int .i64 x4_1 ∧ Aside0 (spec_ofDigits.l0 kq a0 x3_1 x4_1 = some r) ∧ Aside0 (kq ≤ k) ∧ Aside0 (Kd.R (Kd.int .u32) 92 w' w.heap.size (fun _ => True) v3 x3_1) ∧ Aside0 (Below w.heap.size w w'))
  case atStart => exact ⟨(([] : List Int)), (0), (by first | rfl | (simp; done) | (simp [*]; done)), H', ⟨Nat.le_refl _⟩, ⟨by first | exact Kd.R_nil _ _ _ _ _ | exact Kd.N_nil _ _ _ _ _ | exact Kd.V_nil _ _ _ _ _ | exact Kd.Q_nil _ _ _ _ _ | exact Kd.S_nil _ _ _ _ _⟩, ⟨by repeat (first | (with_reducible first | exact HB.out | apply below_alloc | apply pw_below_drewN | apply below_drew1) | exact HB.out)⟩⟩
  case round =>
    clear H'
    obtain ⟨x3_1, x4_1, rfl, HA, HK1, HO_3, HB⟩ := hrel
    cases gk with
    | zero => exact absurd HA.out (by simp [spec_ofDigits.l0])
    | succ k1 =>
      have H := HA.out
      clear HA
      simp only [spec_ofDigits.l0] at H
      by_cases c2 : x4_1 < (a0.size : Int)
      · rw [if_pos c2] at H
        have c2b0 : decide (x4_1 < (a0.size : Int)) = true := decide_eq_true c2
        clear c2
        by_cases c3 : 0 ≤ x4_1
        · rw [if_pos c3] at H
          have c3b0 : decide (0 ≤ x4_1) = true := decide_eq_true c3
          clear c3
          replace H := Option.bind_eq_some_iff.mp H
          obtain ⟨t398, A50, H⟩ := H
          replace H : (spec_ofDigits.l0 k1 a0 t398 (wrap64 (x4_1 + 1))) = some r := H
          have A5 := Aside0.mk A50
          clear A50
          have H' := Aside0.mk H
          clear H
          have p4 : 0 ≤ (x4_1 : Int) := of_decide_eq_true (by first | (with_reducible assumption) | assumption)
          have q4 : x4_1 < (a0.size : Int) := of_decide_eq_true (by first | (with_reducible assumption) | assumption)
          have hx4 := bt_at a0 x4_1
          replace p4 := eq_true p4
          replace q4 := eq_true q4
          obtain ⟨Ao6, co6, eo6⟩ := Kd.R_slice HO_3.out
          subst eo6
          go_wp2_with (first | ((with_reducible refine gate_callee (f := 57) rfl ?_); refine goesL_ (some 17) rfl rfl Tryz.func57 (by kernel_rfl) rfl #[.slice Ao6 x3_1.length co6, .int .u32 10, .int .u32 (((bt a0 x4_1) - 48) % 256)] rfl (by (try simp only [List.map_toArray, List.map_cons, List.map_nil]); first | done | rfl | (simp only [List.length_drop, List.length_take]; rfl)) ?_; (with_reducible refine (spec_natural_times.calls k1 _ _ x3_1 10 (((bt a0 x4_1) - 48) % 256) t398 _ ?side1 ?side2 A5.out).mono ?_); (case side1 => repeat (first | exact (Kd.R_reads' HO_3.out).2.2 | (with_reducible refine Kd.C_alloc ?_ _) | (with_reducible refine Kd.C_drewN ?_ _) | (with_reducible refine Kd.C_drew ?_))); (case side2 => exact (Kd.R_reads' HO_3.out).2.1); rintro e w7 ⟨v399, rfl, ho0, hb⟩; refine ⟨_, rfl, ?_⟩; have n0_ := Aside0.mk (Kd.R_elder' (by (with_reducible repeat (first | apply Kd.R_alloc | apply Kd.R_drewN | apply Kd.R_drew)); exact HO_3.out) (Kd.R_base ho0) hb); have n1_ := Aside0.mk (Kd.R_lower (Kd.R_new' ho0 (Kd.R_lt (by (with_reducible repeat (first | apply Kd.R_alloc | apply Kd.R_drewN | apply Kd.R_drew)); exact HO_3.out))) (below_size (by repeat (first | (with_reducible first | exact HB.out | apply below_alloc | apply pw_below_drewN | apply below_drew1) | exact HB.out)))); have n2_ := Aside0.mk (below_step (by repeat (first | (with_reducible first | exact HB.out | apply below_alloc | apply pw_below_drewN | apply below_drew1) | exact HB.out)) hb); clear HO_3; clear HB; have HO_3 := n0_; have HO400 := n1_; have HB := n2_; clear n0_ n1_ n2_; (try clear hb); (try clear hb2); (try clear hk); (try clear hi); (try clear ho0)))
          go_roundg k1
          case measure => have := HK1.out; omega
          case rel => exact ⟨(t398), (wrap64 (x4_1 + 1)), (by first | rfl | (simp; done) | (simp [*]; done)), H', ⟨by have := HK1.out; omega⟩, ⟨by (with_reducible repeat (first | apply Kd.R_alloc | apply Kd.R_drewN | apply Kd.R_drew)); exact Kd.R_mono HO400.out (fun _ hk => trivial)⟩, ⟨by repeat (first | (with_reducible first | exact HB.out | apply below_alloc | apply pw_below_drewN | apply below_drew1) | exact HB.out)⟩⟩
        · rw [if_neg c3] at H
          exact absurd H (by simp)
      · rw [if_neg c2] at H
        have c2b0 : decide (x4_1 < (a0.size : Int)) = false := decide_eq_false c2
        clear c2
        obtain rfl := Option.some.inj H
        go_wp2
        go_ret
        exact ⟨_, by first | rfl | (simp [errW_none, errW_some] <;> rfl) | (simp [*, errW_none, errW_some] <;> rfl), by (with_reducible repeat (first | apply Kd.R_alloc | apply Kd.R_drewN | apply Kd.R_drew)); exact HO_3.out, by repeat (first | (with_reducible first | exact HB.out | apply below_alloc | apply pw_below_drewN | apply below_drew1) | exact HB.out)⟩

end Go.Proofs.YthbmfhkpkkgdnaaGreatDoor.Q

import Derived.Test.YthbmfhkpkkgdnaaGreatDoorT10
import Derived.Test.YthbmfhkpkkgdnaaGreatDoorX1
import Derived.Test.YthbmfhkpkkgdnaaGreatDoorQ7
import Derived.Test.YthbmfhkpkkgdnaaGreatDoorQ8
namespace Go.Proofs.YthbmfhkpkkgdnaaGreatDoor.Q
open Go.RowKit Go.Proofs.YthbmfhkpkkgdnaaGreatDoorW.PrintWords Go.Proofs.YthbmfhkpkkgdnaaGreatDoorW.PrintLast Go.Proofs.YthbmfhkpkkgdnaaGreatDoorW.PrintMore
attribute [local go_sem] max2_int min2_int max_two min_two max_three min_three max_four min_four
set_option linter.unusedVariables false
set_option linter.unusedSimpArgs false
/-- The digits and the power, up to an 'e'. -/
def spec_Value.l0 : Nat → ByteArray → Nat → List Int → Int → Bool → Option (Nat × List Int × Int)
  | 0, _, _, _, _, _ => none
  | k + 1, s, i, ds, pw, pt =>
    if i < s.size then
      if bt s i = 101 then some (i, ds, pw) else if bt s i = 69 then some (i, ds, pw)
      else if bt s i = 46 then spec_Value.l0 k s (i + 1) ds pw true
      else if pt = true then spec_Value.l0 k s (i + 1) (ds ++ [bt s i]) (wrap64 (pw - 1)) pt else spec_Value.l0 k s (i + 1) (ds ++ [bt s i]) pw pt
    else some (i, ds, pw)
def spec_Value.f (k : Nat) (s : ByteArray) : Option (Bool × ByteArray × Int) :=
  if spec_IsNumber.f k s = some true then
    (spec_Value.l0 k s (if bt s 0 = 45 then 1 else 0) [] 0 false).bind fun q =>
      (if q.1 < s.size then (spec_signed.f k (s.extract (q.1 + 1) s.size)).bind fun x => if x.2 = true then some (wrap64 (q.2.2 + x.1)) else none else some q.2.2).bind fun pw =>
        (spec_bare.f k q.2.1 pw).bind fun d => some (bt s 0 == 45, d.1, d.2)
  else none
set_option maxHeartbeats 8000000 in
set_option maxRecDepth 100000 in
theorem spec_Value.calls (k : Nat) (s : ByteArray) (r1 : Bool) (r2 : ByteArray) (r3 : Int) (w : World) (hs : s.size < 1000000) (hs0 : 0 < s.size) (h : spec_Value.f k s = some (r1, r2, r3)) :
    Calls Tryz.prog 8 #[.string s] w fun e w' => e = .returned (.tuple #[.agg #[.bool r1, .string r2, .int .i64 r3], .bool true]) ∧ Below w.heap.size w w' := by
  unfold spec_Value.f at h
  by_cases hn : spec_IsNumber.f k s = some true
  · rw [if_pos hn] at h
    obtain ⟨⟨i1, ds1, pw1⟩, A1, h⟩ := Option.bind_eq_some_iff.mp h
    obtain ⟨pw2, A2, h⟩ := Option.bind_eq_some_iff.mp h
    obtain ⟨⟨dg, pw3⟩, A3, h⟩ := Option.bind_eq_some_iff.mp h
    replace h := Option.some.inj h
    simp only [Prod.mk.injEq] at h
    obtain ⟨rfl, rfl, rfl⟩ := h
    have A1 := Aside0.mk A1
    have A2 := Aside0.mk A2
    have A3 := Aside0.mk A3
    have hn := Aside0.mk hn
    have p0 : ((0 : Int) < (s.size : Int)) = True := eq_true (by omega)
    have hx : ∀ h : 0 < s.size, ((s[0]'h).toNat : Int) = bt s 0 := bt_at s 0
    have hu37 := Tryz.underlying37
    go_enter Tryz.func8, Tryz.ntmps8
    go_upto_if 18 with (first | (go_at_call 16; (with_reducible refine (spec_IsNumber.calls k s true _ hn.out).mono ?_); rintro e w' ⟨rfl, hb⟩; have BK2 := Aside0.mk ((hb.block w.heap.size (blk_lt (heap_alloc_new w _))).trans (heap_alloc_new w _)); have HB := Aside0.mk (below_step (below_alloc (Below.refl w.heap.size w) _) hb); clear hb))
    have hlt := blk_lt BK2.out
    have BK4 := Aside0.mk (heap_alloc_new w' (.cells #[.bool false, .string ⟨#[]⟩, .int .i64 0] 37))
    have BK2 := Aside0.mk (blk_alloc BK2.out (.cells #[.bool false, .string ⟨#[]⟩, .int .i64 0] 37))
    have HB := Aside0.mk (below_alloc HB.out (.cells #[.bool false, .string ⟨#[]⟩, .int .i64 0] 37))
    generalize World.alloc _ _ = wa at BK4 BK2 HB ⊢
    go_cut [5] (fun v5 wc => v5 = .int .i64 (((if bt s 0 = 45 then 1 else 0 : Nat)) : Int) ∧ Aside0 (wc.heap[w.heap.size]? = some (.cells #[.bool false, .string ⟨#[]⟩, .int .i64 0] 37 (0, 0))) ∧ Aside0 (wc.heap[w'.heap.size]? = some (.cells #[.bool (bt s 0 == 45), .string ⟨#[]⟩, .int .i64 0] 37 (0, 0))) ∧ Aside0 (Below w.heap.size w wc))
    case first =>
      by_cases c : bt s 0 = 45
      · have cd : (bt s 0 == 45) = true := beq_iff_eq.mpr c
        have hc4 := (blk_cell BK4.out 0).trans rfl
        have hf4 := blk_frozen BK4.out 0
        have cp := Aside0.mk c
        clear c
        go_wp2
        go_meet
        case rel => exact ⟨by rw [if_pos cp.out]; rfl, ⟨blk_far BK2.out (by show w.heap.size ≠ w'.heap.size; omega) _⟩, ⟨by rw [cd]; exact blk_set BK4.out 0 (.bool true)⟩, ⟨HB.out.setCell (by show w.heap.size ≤ w'.heap.size; omega) _⟩⟩
      · have cd : (bt s 0 == 45) = false := beq_eq_false_iff_ne.mpr c
        have cp := Aside0.mk c
        clear c
        go_wp2
        go_meet
        case rel => exact ⟨by rw [if_neg cp.out]; rfl, BK2, ⟨by rw [cd]; exact BK4.out⟩, HB⟩
    case rest =>
      clear BK2 BK4 HB
      obtain ⟨rfl, BK2, BK4, HB⟩ := hcut
      obtain ⟨i0, hi0⟩ : ∃ i0 : Nat, (if bt s 0 = 45 then 1 else 0) = i0 := ⟨_, rfl⟩
      obtain ⟨b0, hb0⟩ : ∃ b0, (bt s 0 == 45) = b0 := ⟨_, rfl⟩
      have hi1 : i0 ≤ 1 := by rw [← hi0]; split <;> omega
      rw [hi0] at A1 ⊢
      rw [hb0] at BK4
      clear hi0 hx
      go_wp2
      go_loopg [5, 6, 7, 8] k (fun kq v5 v6 v7 v8 wl => ∃ (i : Nat) (ds : List Int) (pw : Int) (pt : Bool), v5 = .int .i64 (i : Int) ∧ v7 = .int .i64 pw ∧ v8 = .bool pt ∧ Aside0 (spec_Value.l0 kq s i ds pw pt = some (i1, ds1, pw1)) ∧ Aside0 (i ≤ s.size ∧ ds.length ≤ i) ∧ Aside0 (Kd.R (Kd.int .u8) 5 wl w.heap.size (fun k_ => w.heap.size ≤ k_) v6 ds) ∧ Aside0 (wl.heap[w.heap.size]? = some (.cells #[.bool false, .string ⟨#[]⟩, .int .i64 0] 37 (0, 0))) ∧ Aside0 (wl.heap[w'.heap.size]? = some (.cells #[.bool b0, .string ⟨#[]⟩, .int .i64 0] 37 (0, 0))) ∧ Aside0 (Below w.heap.size w wl))
      case atStart => exact ⟨i0, [], 0, false, rfl, rfl, rfl, A1, ⟨by omega, by simp⟩, ⟨Kd.R_nil (Kd.int .u8) 5 _ _ _⟩, BK2, BK4, HB⟩
      case round =>
        clear BK2 BK4 HB A1
        obtain ⟨i, ds, pw, pt, rfl, rfl, rfl, A1, HL, HO, BK2, BK4, HB⟩ := hrel
        obtain ⟨hi, hdl⟩ := HL.out
        clear HL
        have hx : ∀ h : i < s.size, ((s[i]'h).toNat : Int) = bt s i := bt_at s i
        cases gk with
        | zero => exact absurd A1.out (by simp [spec_Value.l0])
        | succ k1 =>
          have h := A1.out
          clear A1
          simp only [spec_Value.l0] at h
          by_cases c1 : i < s.size
          · rw [if_pos c1] at h
            have c1d : decide ((i : Int) < (s.size : Int)) = true := decide_eq_true (by omega)
            have p1 : ((i : Int) < (s.size : Int)) = True := eq_true (by omega)
            have wi : wrap64 ((i : Int) + 1) = (i : Int) + 1 := by unfold wrap64; omega
            by_cases c2 : bt s i = 101
            · rw [if_pos c2] at h
              have c2d : (bt s i != 101) = false := by simp [c2]
              clear c2
              simp only [Option.some.injEq, Prod.mk.injEq] at h
              obtain ⟨rfl, rfl, rfl⟩ := h
              have A2 := A2.out
              rw [if_pos c1] at A2
              obtain ⟨⟨x9, x10⟩, B1, B2⟩ := Option.bind_eq_some_iff.mp A2
              cases x10 with
              | false => exact absurd B2 (by simp)
              | true =>
                have B2 := Option.some.inj (show some (wrap64 (pw + x9)) = some pw2 from B2)
                subst B2
                have B1 := Aside0.mk B1
                clear A2
                have hu := Kd.R_slice HO.out
                obtain ⟨Ao, co, eo⟩ := hu
                subst eo
                go_upto_region 24 with (first | (go_at_call 17; (refine (spec_signed.calls k (s.extract (i + 1) s.size) x9 true _ B1.out).mono ?_); rintro e w9 ⟨rfl, ⟨nd9, hq9⟩⟩; have BK2 := Aside0.mk (blk_at hq9.symm BK2.out); have BK4 := Aside0.mk (blk_at hq9.symm BK4.out); have HB := Aside0.mk (below_at hq9.symm HB.out); have HO := Aside0.mk (Kd.R_at hq9.symm HO.out); clear hq9) | (go_at_call 18; (refine (spec_bare.calls k (fun k_ => w.heap.size ≤ k_) Ao co ds (wrap64 (pw + x9)) dg pw3 _ ?v1 A3.out).mono ?_); (case v1 => first | exact Kd.R_V HO.out | exact Kd.R_V (Kd.R_drewN HO.out _)); rintro e w9 ⟨rfl, hb9⟩; have BK2b := Aside0.mk (blk_below BK2.out hb9); have BK4b := Aside0.mk (blk_below BK4.out hb9); have HB9 := Aside0.mk (below_step (by first | exact HB.out | exact pw_below_drewN HB.out _) hb9); clear hb9; have hd40 : w9.cell? ⟨w'.heap.size, 0, none⟩ = some (.bool b0) := (blk_cell BK4b.out 0).trans rfl; have hd41 : w9.cell? ⟨w'.heap.size, 1, none⟩ = some (.string ⟨#[]⟩) := (blk_cell BK4b.out 1).trans rfl; have hd42 : w9.cell? ⟨w'.heap.size, 2, none⟩ = some (.int .i64 0) := (blk_cell BK4b.out 2).trans rfl; have he40 := blk_frozen BK4b.out 0; have he41 := blk_frozen BK4b.out 1; have he42 := blk_frozen BK4b.out 2; skip))
                have BK2c := Aside0.mk (blk_far (blk_far BK2b.out (p := ⟨w'.heap.size, 1, none⟩) (by show w.heap.size ≠ w'.heap.size; omega) (.string dg)) (p := ⟨w'.heap.size, 2, none⟩) (by show w.heap.size ≠ w'.heap.size; omega) (.int .i64 pw3))
                have BK4c := Aside0.mk (show ((w9.setCell ⟨w'.heap.size, 1, none⟩ (.string dg)).setCell ⟨w'.heap.size, 2, none⟩ (.int .i64 pw3)).heap[w'.heap.size]? = some (.cells #[.bool b0, .string dg, .int .i64 pw3] 37 (0, 0)) from blk_set (blk_set BK4b.out 1 (.string dg)) 2 (.int .i64 pw3))
                have HBc := Aside0.mk ((HB9.out.setCell (p := ⟨w'.heap.size, 1, none⟩) (by show w.heap.size ≤ w'.heap.size; omega) (.string dg)).setCell (p := ⟨w'.heap.size, 2, none⟩) (by show w.heap.size ≤ w'.heap.size; omega) (.int .i64 pw3))
                clear hd40 hd41 hd42 he40 he41 he42 BK2b BK4b HB9
                generalize World.setCell _ _ _ = wz at BK2c BK4c HBc ⊢
                have hd40 : wz.cell? ⟨w'.heap.size, 0, none⟩ = some (.bool b0) := (blk_cell BK4c.out 0).trans rfl
                have hd41 : wz.cell? ⟨w'.heap.size, 1, none⟩ = some (.string dg) := (blk_cell BK4c.out 1).trans rfl
                have hd42 : wz.cell? ⟨w'.heap.size, 2, none⟩ = some (.int .i64 pw3) := (blk_cell BK4c.out 2).trans rfl
                go_wp2_with (first | ((with_reducible refine gate_store (t := 37) (p := 2) rfl ?_); refine box_put (g := w.heap.size) (cs := #[.bool false, .string ⟨#[]⟩, .int .i64 0]) (cs' := #[.bool b0, .string dg, .int .i64 pw3]) rfl rfl rfl rfl rfl rfl BK2c.out rfl (by kernel_rfl) ?h1 ?_; (case h1 => intro q hq; simp only [List.mem_cons, List.not_mem_nil, or_false] at hq; rcases hq with rfl | rfl | rfl <;> rfl); intro w8 pb8; have PB8 := Aside0.mk pb8; clear pb8))
                refine bodyPost_ret (results_ct rfl _ _ w.heap.size 37 #[.bool b0, .string dg, .int .i64 pw3] (0, 0) _ rfl PB8.out.blk Tryz.underlying37 rfl (by kernel_rfl)) rfl ?_
                exact ⟨by rw [hb0]; rfl, PB8.out.below HBc.out (Nat.le_refl _)⟩
            · by_cases c3 : bt s i = 69
              · rw [if_neg c2, if_pos c3] at h
                have c2d : (bt s i != 101) = true := bne_iff_ne.mpr c2
                have c3d : (bt s i != 69) = false := by simp [c3]
                clear c2 c3
                simp only [Option.some.injEq, Prod.mk.injEq] at h
                obtain ⟨rfl, rfl, rfl⟩ := h
                have A2 := A2.out
                rw [if_pos c1] at A2
                obtain ⟨⟨x9, x10⟩, B1, B2⟩ := Option.bind_eq_some_iff.mp A2
                cases x10 with
                | false => exact absurd B2 (by simp)
                | true =>
                  have B2 := Option.some.inj (show some (wrap64 (pw + x9)) = some pw2 from B2)
                  subst B2
                  have B1 := Aside0.mk B1
                  clear A2
                  have hu := Kd.R_slice HO.out
                  obtain ⟨Ao, co, eo⟩ := hu
                  subst eo
                  go_upto_region 24 with (first | (go_at_call 17; (refine (spec_signed.calls k (s.extract (i + 1) s.size) x9 true _ B1.out).mono ?_); rintro e w9 ⟨rfl, ⟨nd9, hq9⟩⟩; have BK2 := Aside0.mk (blk_at hq9.symm BK2.out); have BK4 := Aside0.mk (blk_at hq9.symm BK4.out); have HB := Aside0.mk (below_at hq9.symm HB.out); have HO := Aside0.mk (Kd.R_at hq9.symm HO.out); clear hq9) | (go_at_call 18; (refine (spec_bare.calls k (fun k_ => w.heap.size ≤ k_) Ao co ds (wrap64 (pw + x9)) dg pw3 _ ?v1 A3.out).mono ?_); (case v1 => first | exact Kd.R_V HO.out | exact Kd.R_V (Kd.R_drewN HO.out _)); rintro e w9 ⟨rfl, hb9⟩; have BK2b := Aside0.mk (blk_below BK2.out hb9); have BK4b := Aside0.mk (blk_below BK4.out hb9); have HB9 := Aside0.mk (below_step (by first | exact HB.out | exact pw_below_drewN HB.out _) hb9); clear hb9; have hd40 : w9.cell? ⟨w'.heap.size, 0, none⟩ = some (.bool b0) := (blk_cell BK4b.out 0).trans rfl; have hd41 : w9.cell? ⟨w'.heap.size, 1, none⟩ = some (.string ⟨#[]⟩) := (blk_cell BK4b.out 1).trans rfl; have hd42 : w9.cell? ⟨w'.heap.size, 2, none⟩ = some (.int .i64 0) := (blk_cell BK4b.out 2).trans rfl; have he40 := blk_frozen BK4b.out 0; have he41 := blk_frozen BK4b.out 1; have he42 := blk_frozen BK4b.out 2; skip))
                  have BK2c := Aside0.mk (blk_far (blk_far BK2b.out (p := ⟨w'.heap.size, 1, none⟩) (by show w.heap.size ≠ w'.heap.size; omega) (.string dg)) (p := ⟨w'.heap.size, 2, none⟩) (by show w.heap.size ≠ w'.heap.size; omega) (.int .i64 pw3))
                  have BK4c := Aside0.mk (show ((w9.setCell ⟨w'.heap.size, 1, none⟩ (.string dg)).setCell ⟨w'.heap.size, 2, none⟩ (.int .i64 pw3)).heap[w'.heap.size]? = some (.cells #[.bool b0, .string dg, .int .i64 pw3] 37 (0, 0)) from blk_set (blk_set BK4b.out 1 (.string dg)) 2 (.int .i64 pw3))
                  have HBc := Aside0.mk ((HB9.out.setCell (p := ⟨w'.heap.size, 1, none⟩) (by show w.heap.size ≤ w'.heap.size; omega) (.string dg)).setCell (p := ⟨w'.heap.size, 2, none⟩) (by show w.heap.size ≤ w'.heap.size; omega) (.int .i64 pw3))
                  clear hd40 hd41 hd42 he40 he41 he42 BK2b BK4b HB9
                  generalize World.setCell _ _ _ = wz at BK2c BK4c HBc ⊢
                  have hd40 : wz.cell? ⟨w'.heap.size, 0, none⟩ = some (.bool b0) := (blk_cell BK4c.out 0).trans rfl
                  have hd41 : wz.cell? ⟨w'.heap.size, 1, none⟩ = some (.string dg) := (blk_cell BK4c.out 1).trans rfl
                  have hd42 : wz.cell? ⟨w'.heap.size, 2, none⟩ = some (.int .i64 pw3) := (blk_cell BK4c.out 2).trans rfl
                  go_wp2_with (first | ((with_reducible refine gate_store (t := 37) (p := 2) rfl ?_); refine box_put (g := w.heap.size) (cs := #[.bool false, .string ⟨#[]⟩, .int .i64 0]) (cs' := #[.bool b0, .string dg, .int .i64 pw3]) rfl rfl rfl rfl rfl rfl BK2c.out rfl (by kernel_rfl) ?h1 ?_; (case h1 => intro q hq; simp only [List.mem_cons, List.not_mem_nil, or_false] at hq; rcases hq with rfl | rfl | rfl <;> rfl); intro w8 pb8; have PB8 := Aside0.mk pb8; clear pb8))
                  refine bodyPost_ret (results_ct rfl _ _ w.heap.size 37 #[.bool b0, .string dg, .int .i64 pw3] (0, 0) _ rfl PB8.out.blk Tryz.underlying37 rfl (by kernel_rfl)) rfl ?_
                  exact ⟨by rw [hb0]; rfl, PB8.out.below HBc.out (Nat.le_refl _)⟩
              · rw [if_neg c2, if_neg c3] at h
                have c2d : (bt s i != 101) = true := bne_iff_ne.mpr c2
                have c3d : (bt s i != 69) = true := bne_iff_ne.mpr c3
                by_cases c4 : bt s i = 46
                · rw [if_pos c4] at h
                  have c4d : (bt s i == 46) = true := beq_iff_eq.mpr c4
                  have h := Aside0.mk h
                  clear c2 c3 c4
                  go_wp2
                  go_roundg k1
                  case measure => omega
                  case rel => exact ⟨i + 1, ds, pw, true, (by congr 1), rfl, rfl, h, ⟨by omega, by omega⟩, HO, BK2, BK4, HB⟩
                · rw [if_neg c4] at h
                  have c4d : (bt s i == 46) = false := beq_eq_false_iff_ne.mpr c4
                  clear c2 c3 c4
                  cases pt with
                  | true =>
                    rw [if_pos rfl] at h
                    have h := Aside0.mk h
                    go_wp2_with (first | ((with_reducible refine gate_builtin (b := .append) (xs := #[.tmp 42, .tmp 46]) rfl ?_); at_builtin; refine Kd.R_append (Kd.int .u8) (w0 := w) w.heap.size rfl (.tmp 42) (.tmp 46) 27 5 (.int .u8 0) 1 rfl Tryz.underlying27 info5 rfl (by decide) (by omega) u6 ds (bt s i) [.int .u8 (bt s i)] (fun k_ => w.heap.size ≤ k_) (fun _ => False) rfl rfl ?aP (fun _ hk => hk.elim) ?aF ?aO ?aB ?aS ?aL ?_; (case aP => exact rfl); (case aB => exact (by repeat (first | (with_reducible first | exact HB.out | apply below_alloc | apply pw_below_drewN | apply below_drew1) | exact HB.out))); (case aF => exact (fun k_ hk => Nat.le_trans (below_size (by repeat (first | (with_reducible first | exact HB.out | apply below_alloc | apply pw_below_drewN | apply below_drew1) | exact HB.out))) hk)); (case aO => exact (by (with_reducible repeat (first | apply Kd.R_alloc | apply Kd.R_drewN | apply Kd.R_drew)); exact HO.out)); (case aS => exact (below_size (by repeat (first | (with_reducible first | exact HB.out | apply below_alloc | apply pw_below_drewN | apply below_drew1) | exact HB.out)))); (case aL => omega); intro v180 w38 ho hb hg hat; have n1 := Aside0.mk (blk_grown (g := w.heap.size) (by (with_reducible repeat (first | refine blk_drewN ?_ _ | refine blk_drew ?_ | refine blk_alloc ?_ _)); exact BK2.out) hg (Kd.R_ne HO.out BK2.out (by decide))); have n2 := Aside0.mk (blk_grown (g := w'.heap.size) (by (with_reducible repeat (first | refine blk_drewN ?_ _ | refine blk_drew ?_ | refine blk_alloc ?_ _)); exact BK4.out) hg (Kd.R_ne HO.out BK4.out (by decide))); have n3 := Aside0.mk hb; have n4 := Aside0.mk ho; clear BK2 BK4 HB HO ho hb hg hat; have BK2 := n1; have BK4 := n2; have HB := n3; have HO := n4; clear n1 n2 n3 n4))
                    go_roundg k1
                    case measure => omega
                    case rel => exact ⟨i + 1, ds ++ [bt s i], _, true, (by congr 1), rfl, rfl, h, ⟨by omega, by simp; omega⟩, HO, BK2, BK4, HB⟩
                  | false =>
                    rw [if_neg (by decide)] at h
                    have h := Aside0.mk h
                    go_wp2_with (first | ((with_reducible refine gate_builtin (b := .append) (xs := #[.tmp 42, .tmp 46]) rfl ?_); at_builtin; refine Kd.R_append (Kd.int .u8) (w0 := w) w.heap.size rfl (.tmp 42) (.tmp 46) 27 5 (.int .u8 0) 1 rfl Tryz.underlying27 info5 rfl (by decide) (by omega) u6 ds (bt s i) [.int .u8 (bt s i)] (fun k_ => w.heap.size ≤ k_) (fun _ => False) rfl rfl ?aP (fun _ hk => hk.elim) ?aF ?aO ?aB ?aS ?aL ?_; (case aP => exact rfl); (case aB => exact (by repeat (first | (with_reducible first | exact HB.out | apply below_alloc | apply pw_below_drewN | apply below_drew1) | exact HB.out))); (case aF => exact (fun k_ hk => Nat.le_trans (below_size (by repeat (first | (with_reducible first | exact HB.out | apply below_alloc | apply pw_below_drewN | apply below_drew1) | exact HB.out))) hk)); (case aO => exact (by (with_reducible repeat (first | apply Kd.R_alloc | apply Kd.R_drewN | apply Kd.R_drew)); exact HO.out)); (case aS => exact (below_size (by repeat (first | (with_reducible first | exact HB.out | apply below_alloc | apply pw_below_drewN | apply below_drew1) | exact HB.out)))); (case aL => omega); intro v180 w38 ho hb hg hat; have n1 := Aside0.mk (blk_grown (g := w.heap.size) (by (with_reducible repeat (first | refine blk_drewN ?_ _ | refine blk_drew ?_ | refine blk_alloc ?_ _)); exact BK2.out) hg (Kd.R_ne HO.out BK2.out (by decide))); have n2 := Aside0.mk (blk_grown (g := w'.heap.size) (by (with_reducible repeat (first | refine blk_drewN ?_ _ | refine blk_drew ?_ | refine blk_alloc ?_ _)); exact BK4.out) hg (Kd.R_ne HO.out BK4.out (by decide))); have n3 := Aside0.mk hb; have n4 := Aside0.mk ho; clear BK2 BK4 HB HO ho hb hg hat; have BK2 := n1; have BK4 := n2; have HB := n3; have HO := n4; clear n1 n2 n3 n4))
                    go_roundg k1
                    case measure => omega
                    case rel => exact ⟨i + 1, ds ++ [bt s i], _, false, (by congr 1), rfl, rfl, h, ⟨by omega, by simp; omega⟩, HO, BK2, BK4, HB⟩
          · rw [if_neg c1] at h
            have c1d : decide ((i : Int) < (s.size : Int)) = false := decide_eq_false (by omega)
            simp only [Option.some.injEq, Prod.mk.injEq] at h
            obtain ⟨rfl, rfl, rfl⟩ := h
            have A2 := A2.out
            rw [if_neg c1] at A2
            obtain rfl := Option.some.inj A2
            clear A2
            have hu := Kd.R_slice HO.out
            obtain ⟨Ao, co, eo⟩ := hu
            subst eo
            go_upto_region 24 with (first | (go_at_call 18; (refine (spec_bare.calls k (fun k_ => w.heap.size ≤ k_) Ao co ds pw dg pw3 _ ?v1 A3.out).mono ?_); (case v1 => first | exact Kd.R_V HO.out | exact Kd.R_V (Kd.R_drewN HO.out _)); rintro e w9 ⟨rfl, hb9⟩; have BK2b := Aside0.mk (blk_below BK2.out hb9); have BK4b := Aside0.mk (blk_below BK4.out hb9); have HB9 := Aside0.mk (below_step (by first | exact HB.out | exact pw_below_drewN HB.out _) hb9); clear hb9; have hd40 : w9.cell? ⟨w'.heap.size, 0, none⟩ = some (.bool b0) := (blk_cell BK4b.out 0).trans rfl; have hd41 : w9.cell? ⟨w'.heap.size, 1, none⟩ = some (.string ⟨#[]⟩) := (blk_cell BK4b.out 1).trans rfl; have hd42 : w9.cell? ⟨w'.heap.size, 2, none⟩ = some (.int .i64 0) := (blk_cell BK4b.out 2).trans rfl; have he40 := blk_frozen BK4b.out 0; have he41 := blk_frozen BK4b.out 1; have he42 := blk_frozen BK4b.out 2; skip))
            have BK2c := Aside0.mk (blk_far (blk_far BK2b.out (p := ⟨w'.heap.size, 1, none⟩) (by show w.heap.size ≠ w'.heap.size; omega) (.string dg)) (p := ⟨w'.heap.size, 2, none⟩) (by show w.heap.size ≠ w'.heap.size; omega) (.int .i64 pw3))
            have BK4c := Aside0.mk (show ((w9.setCell ⟨w'.heap.size, 1, none⟩ (.string dg)).setCell ⟨w'.heap.size, 2, none⟩ (.int .i64 pw3)).heap[w'.heap.size]? = some (.cells #[.bool b0, .string dg, .int .i64 pw3] 37 (0, 0)) from blk_set (blk_set BK4b.out 1 (.string dg)) 2 (.int .i64 pw3))
            have HBc := Aside0.mk ((HB9.out.setCell (p := ⟨w'.heap.size, 1, none⟩) (by show w.heap.size ≤ w'.heap.size; omega) (.string dg)).setCell (p := ⟨w'.heap.size, 2, none⟩) (by show w.heap.size ≤ w'.heap.size; omega) (.int .i64 pw3))
            clear hd40 hd41 hd42 he40 he41 he42 BK2b BK4b HB9
            generalize World.setCell _ _ _ = wz at BK2c BK4c HBc ⊢
            have hd40 : wz.cell? ⟨w'.heap.size, 0, none⟩ = some (.bool b0) := (blk_cell BK4c.out 0).trans rfl
            have hd41 : wz.cell? ⟨w'.heap.size, 1, none⟩ = some (.string dg) := (blk_cell BK4c.out 1).trans rfl
            have hd42 : wz.cell? ⟨w'.heap.size, 2, none⟩ = some (.int .i64 pw3) := (blk_cell BK4c.out 2).trans rfl
            go_wp2_with (first | ((with_reducible refine gate_store (t := 37) (p := 2) rfl ?_); refine box_put (g := w.heap.size) (cs := #[.bool false, .string ⟨#[]⟩, .int .i64 0]) (cs' := #[.bool b0, .string dg, .int .i64 pw3]) rfl rfl rfl rfl rfl rfl BK2c.out rfl (by kernel_rfl) ?h1 ?_; (case h1 => intro q hq; simp only [List.mem_cons, List.not_mem_nil, or_false] at hq; rcases hq with rfl | rfl | rfl <;> rfl); intro w8 pb8; have PB8 := Aside0.mk pb8; clear pb8))
            refine bodyPost_ret (results_ct rfl _ _ w.heap.size 37 #[.bool b0, .string dg, .int .i64 pw3] (0, 0) _ rfl PB8.out.blk Tryz.underlying37 rfl (by kernel_rfl)) rfl ?_
            exact ⟨by rw [hb0]; rfl, PB8.out.below HBc.out (Nat.le_refl _)⟩
  · rw [if_neg hn] at h; exact absurd h (by simp)
end Go.Proofs.YthbmfhkpkkgdnaaGreatDoor.Q

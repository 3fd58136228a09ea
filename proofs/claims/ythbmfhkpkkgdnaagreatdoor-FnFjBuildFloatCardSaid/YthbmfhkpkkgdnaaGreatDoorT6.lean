import Derived.Test.YthbmfhkpkkgdnaaGreatDoorT1
import Derived.Test.YthbmfhkpkkgdnaaGreatDoorQ1
namespace Go.Proofs.YthbmfhkpkkgdnaaGreatDoor.Q
open Go.RowKit Go.Proofs.YthbmfhkpkkgdnaaGreatDoorW.PrintWords Go.Proofs.YthbmfhkpkkgdnaaGreatDoorW.PrintLast Go.Proofs.YthbmfhkpkkgdnaaGreatDoorW.PrintMore
attribute [local go_sem] max2_int min2_int max_two min_two max_three min_three max_four min_four
set_option linter.unusedVariables false
set_option linter.unusedSimpArgs false
def strconv_shortFloat.mid (m e : Int) : Option (Int × Int × Int × Int) :=
  if m = 9223372036854775808 ∧ e > -1085 then (strconv_skewed.f (e + 11)).bind fun s => some (wrap64 (-s), m - 512, IntKind.u64.wrap (m + 1024), Go.bits .and .i64 (m / 2048) 1)
  else if e ≥ -1085 then (strconv_log10Pow2.f (e + 11)).bind fun s => some (wrap64 (-s), m - 1024, IntKind.u64.wrap (m + 1024), Go.bits .and .i64 (m / 2048) 1)
  else (strconv_log10Pow2.f (-1074)).bind fun s => some (wrap64 (-s), IntKind.u64.wrap (m - IntKind.u64.wrap (2 ^ ((-1074 - e).toNat - 1))), IntKind.u64.wrap (m + IntKind.u64.wrap (2 ^ ((-1074 - e).toNat - 1))), Go.bits .and .i64 (wrap64 (m / 2 ^ (-1074 - e).toNat)) 1)
def strconv_shortFloat.tail (m hi lo s mn mx odd p : Int) : Option (Int × Int) :=
  (strconv_uscale.f mn hi lo s).bind fun t1 => (strconv_unrounded_nudge.f t1.1 odd).bind fun t2 => (strconv_unrounded_ceil.f t2).bind fun dl =>
  (strconv_uscale.f mx hi lo s).bind fun t3 => (strconv_unrounded_nudge.f t3.1 (wrap64 (-odd))).bind fun t4 => (strconv_unrounded_floor.f t4).bind fun du =>
  if (IntKind.u64.wrap (IntKind.u64.wrap (Int.tdiv du 10) * 10)) ≥ dl then some (IntKind.u64.wrap (Int.tdiv du 10), wrap64 (-wrap64 (p - 1)))
  else if dl < du then (strconv_uscale.f m hi lo s).bind fun t5 => (strconv_unrounded_round.f t5.1).bind fun d => some (d, wrap64 (-p))
  else some (dl, wrap64 (-p))
def strconv_shortFloat.f (m e : Int) : Option (Int × Int) :=
  (strconv_shortFloat.mid m e).bind fun q => if -348 ≤ q.1 ∧ q.1 ≤ 347 then (strconv_log2Pow10.f q.1).bind fun lp => strconv_shortFloat.tail m (pHi (q.1 + 348).toNat) (pLo (q.1 + 348).toNat) (wrap64 (-wrap64 (wrap64 (e + lp) + 3))) q.2.1 q.2.2.1 q.2.2.2 q.1 else none
theorem uscale_same {x hi lo s r1 r2 r3 r4 : Int} (h : strconv_uscale.f x hi lo s = some (r1, r2, r3, r4)) : r2 = hi ∧ r3 = lo ∧ r4 = s := by
  unfold strconv_uscale.f at h
  obtain ⟨a, _, h⟩ := Option.bind_eq_some_iff.mp h
  split at h
  · split at h
    · obtain ⟨b, _, h⟩ := Option.bind_eq_some_iff.mp h
      obtain ⟨c, _, h⟩ := Option.bind_eq_some_iff.mp h
      obtain ⟨d, _, h⟩ := Option.bind_eq_some_iff.mp h
      simp only [Option.some.injEq, Prod.mk.injEq] at h
      exact ⟨h.2.1.symm, h.2.2.1.symm, h.2.2.2.symm⟩
    · simp only [Option.some.injEq, Prod.mk.injEq] at h
      exact ⟨h.2.1.symm, h.2.2.1.symm, h.2.2.2.symm⟩
  · exact absurd h (by simp)
theorem TabP.below {w W : World} (hT : TabP w) (h3 : 3 < w.heap.size) (hB : Below w.heap.size w W) : TabP W := by
  intro i hi
  have h := hB.block 3 h3
  obtain ⟨a, b⟩ := hT i hi
  simp only [World.cell?, h] at a b ⊢
  exact ⟨a, b⟩
set_option maxHeartbeats 8000000 in
set_option maxRecDepth 100000 in
theorem strconv_shortFloat.calls (m e r1 r2 : Int) (w : World) (hm : 9223372036854775808 ≤ m ∧ m < 18446744073709551616) (he : -1137 ≤ e ∧ e ≤ 960) (hT : TabP w) (h3 : 3 < w.heap.size) (h : strconv_shortFloat.f m e = some (r1, r2)) :
    Calls Tryz.prog 52 #[.int .u64 m, .int .i64 e] w fun ex w' => ex = .returned (.tuple #[.int .u64 r1, .int .i64 r2]) ∧ Below w.heap.size w w' := by
  unfold strconv_shortFloat.f at h
  obtain ⟨⟨p, mn, mx, odd⟩, hq, h⟩ := Option.bind_eq_some_iff.mp h
  replace h : (if -348 ≤ p ∧ p ≤ 347 then (strconv_log2Pow10.f p).bind fun lp => strconv_shortFloat.tail m (pHi (p + 348).toNat) (pLo (p + 348).toNat) (wrap64 (-wrap64 (wrap64 (e + lp) + 3))) mn mx odd p else none) = some (r1, r2) := h
  by_cases hp : -348 ≤ p ∧ p ≤ 347
  · rw [if_pos hp] at h
    have hp' := Aside0.mk hp
    clear hp
    have hh := Aside0.mk h
    clear h
    have hq' := Aside0.mk hq
    clear hq
    have hT' := Aside0.mk hT
    clear hT
    obtain ⟨hm1, hm2⟩ := hm
    obtain ⟨he1, he2⟩ := he
    go_enter Tryz.func52, Tryz.ntmps52
    go_upto_region 12 with (fail)
    go_cut [28] (fun v28 wc => v28 = .bool (decide (m = 9223372036854775808 ∧ e > -1085)) ∧ Drawn0 w wc)
    case first =>
      clear hq' hh hT' hp'
      by_cases c1 : m = 9223372036854775808
      · have c1b : (m == 9223372036854775808) = true := beq_iff_eq.mpr c1
        by_cases c2 : -1085 < e
        · have c2b : decide (-1085 < e) = true := decide_eq_true c2
          have hd : decide (m = 9223372036854775808 ∧ e > -1085) = true := decide_eq_true ⟨c1, c2⟩
          replace hd := Aside0.mk hd
          clear c1
          go_wp2
          go_meet
          case rel => exact ⟨by rw [hd.out], Drawn0.refl _⟩
        · have c2b : decide (-1085 < e) = false := decide_eq_false c2
          have hd : decide (m = 9223372036854775808 ∧ e > -1085) = false := decide_eq_false (fun h => c2 h.2)
          replace hd := Aside0.mk hd
          clear c1
          go_wp2
          go_meet
          case rel => exact ⟨by rw [hd.out], Drawn0.refl _⟩
      · have c1b : (m == 9223372036854775808) = false := beq_eq_false_iff_ne.mpr c1
        have hd : decide (m = 9223372036854775808 ∧ e > -1085) = false := decide_eq_false (fun h => c1 h.1)
        replace hd := Aside0.mk hd
        clear c1
        go_wp2
        go_meet
        case rel => exact ⟨by rw [hd.out], Drawn0.refl _⟩
    case rest =>
      obtain ⟨rfl, ⟨n0, rfl⟩⟩ := hcut
      go_upto_if 28 with (fail)
      go_cut [5, 8, 9, 10] (fun v5 v8 v9 v10 wc => v5 = .int .i64 p ∧ v8 = .int .u64 mn ∧ v9 = .int .u64 mx ∧ v10 = .int .i64 odd ∧ Drawn0 w wc)
      case first =>
        have hq := hq'.out
        clear hq' hh hT' hp'
        unfold strconv_shortFloat.mid at hq
        by_cases c : m = 9223372036854775808 ∧ e > -1085
        · rw [if_pos c] at hq
          obtain ⟨s, A1, hq⟩ := Option.bind_eq_some_iff.mp hq
          simp only [Option.some.injEq, Prod.mk.injEq] at hq
          obtain ⟨rfl, rfl, rfl, rfl⟩ := hq
          have A1 := Aside0.mk A1
          have hd : decide (m = 9223372036854775808 ∧ e > -1085) = true := decide_eq_true c
          rw [hd]
          have we : wrap64 (e + 11) = e + 11 := by unfold wrap64; omega
          clear c hd
          go_wp2_with (first | (go_at_call 61; (with_reducible refine (strconv_skewed.calls (e + 11) s _ A1.out).mono ?_); rintro ex w' ⟨rfl, ⟨nd, rfl⟩⟩))
          go_meet
          case rel => exact ⟨rfl, rfl, rfl, rfl, _, rfl⟩
        · rw [if_neg c] at hq
          have hd : decide (m = 9223372036854775808 ∧ e > -1085) = false := decide_eq_false c
          rw [hd]
          clear c hd
          by_cases c : e ≥ -1085
          · rw [if_pos c] at hq
            obtain ⟨s, A1, hq⟩ := Option.bind_eq_some_iff.mp hq
            simp only [Option.some.injEq, Prod.mk.injEq] at hq
            obtain ⟨rfl, rfl, rfl, rfl⟩ := hq
            have A1 := Aside0.mk A1
            have we : wrap64 (e + 11) = e + 11 := by unfold wrap64; omega
            have cd : decide (-1085 ≤ e) = true := decide_eq_true c
            go_wp2_with (first | (go_at_call 47; (with_reducible refine (strconv_log10Pow2.calls (e + 11) s _ A1.out).mono ?_); rintro ex w' ⟨rfl, ⟨nd, rfl⟩⟩))
            go_meet
            case rel => exact ⟨rfl, rfl, rfl, rfl, _, rfl⟩
          · rw [if_neg c] at hq
            obtain ⟨s, A1, hq⟩ := Option.bind_eq_some_iff.mp hq
            simp only [Option.some.injEq, Prod.mk.injEq] at hq
            obtain ⟨rfl, rfl, rfl, rfl⟩ := hq
            have A1 := Aside0.mk A1
            have cd : decide (-1085 ≤ e) = false := decide_eq_false c
            have w1 : wrap64 (-1085 - e) = -1085 - e := by unfold wrap64; omega
            have w2 : wrap64 (11 + (-1085 - e)) = -1074 - e := by unfold wrap64; omega
            have w3 : wrap64 (e + (-1074 - e)) = -1074 := by unfold wrap64; omega
            have w4 : wrap64 (-1074 - e - 1) = -1074 - e - 1 := by unfold wrap64; omega
            have wa : 11 + (-1085 - e) = -1074 - e := by omega
            have wb : e + (-1074 - e) = -1074 := by omega
            have p0 : (0 ≤ -1074 - e) = True := eq_true (by omega)
            have p1 : (0 ≤ -1074 - e - 1) = True := eq_true (by omega)
            go_wp2_with (first | (go_at_call 47; (with_reducible refine (strconv_log10Pow2.calls (-1074) s _ A1.out).mono ?_); rintro ex w' ⟨rfl, ⟨nd, rfl⟩⟩))
            go_meet
            case rel => exact ⟨rfl, rfl, rfl, rfl, _, rfl⟩
      case rest =>
        obtain ⟨rfl, rfl, rfl, rfl, ⟨n1, hn1⟩⟩ := hcut
        have HBw := Aside0.mk (show Below w.heap.size w wc from by rw [hn1]; exact pw_below_drewN (Below.refl _ _) _)
        clear hn1
        have h := hh.out
        clear hh hq'
        obtain ⟨lp, A0, h⟩ := Option.bind_eq_some_iff.mp h
        have A0 := Aside0.mk A0
        generalize hhi : pHi (p + 348).toNat = hi at h
        generalize hlo : pLo (p + 348).toNat = lo at h
        generalize hss : wrap64 (-wrap64 (wrap64 (e + lp) + 3)) = sh at h
        have hss := Aside0.mk hss
        have hhi := Aside0.mk hhi
        have hlo := Aside0.mk hlo
        unfold strconv_shortFloat.tail at h
        obtain ⟨⟨t1, x1, x2, x3⟩, A1, h⟩ := Option.bind_eq_some_iff.mp h
        obtain ⟨rfl, rfl, rfl⟩ := uscale_same A1
        obtain ⟨t2, A2, h⟩ := Option.bind_eq_some_iff.mp h
        obtain ⟨dl, A3, h⟩ := Option.bind_eq_some_iff.mp h
        obtain ⟨⟨t3, x1, x2, x3⟩, A4, h⟩ := Option.bind_eq_some_iff.mp h
        obtain ⟨rfl, rfl, rfl⟩ := uscale_same A4
        obtain ⟨t4, A5, h⟩ := Option.bind_eq_some_iff.mp h
        obtain ⟨du, A6, h⟩ := Option.bind_eq_some_iff.mp h
        simp only at A2 A3 A5 A6 h
        have A1 := Aside0.mk A1
        have A2 := Aside0.mk A2
        have A3 := Aside0.mk A3
        have A4 := Aside0.mk A4
        have A5 := Aside0.mk A5
        have A6 := Aside0.mk A6
        go_wp2_with (first | (go_at_call 63; (with_reducible refine (strconv_log2Pow10.calls p lp _ A0.out).mono ?_); rintro ex w' ⟨rfl, ⟨nd, rfl⟩⟩))
        have HI := Aside0.mk (IsS121.drewN (IsS121.new w wc 0 0 0 HBw.out) nd)
        have HB := Aside0.mk (pw_below_drewN (below_alloc HBw.out (.cells #[.int .u64 0, .int .u64 0, .int .i64 0] 121)) nd)
        clear HBw
        by_cases c1 : (IntKind.u64.wrap (IntKind.u64.wrap (Int.tdiv du 10) * 10)) ≥ dl
        · rw [if_pos c1] at h
          have c1d : decide (dl ≤ IntKind.u64.wrap (IntKind.u64.wrap (Int.tdiv du 10) * 10)) = true := decide_eq_true c1
          simp only [Option.some.injEq, Prod.mk.injEq] at h
          obtain ⟨rfl, rfl⟩ := h
          go_wp2_with (first | (go_at_call 62; (with_reducible refine (strconv_prescale.calls wc.heap.size 0 0 0 e p lp w _ ?i1 ?i2 hp'.out ?i3 h3).mono ?_); (case i1 => first | exact HI.out | exact IsS121.drewN HI.out _); (case i2 => first | exact HB.out | exact pw_below_drewN HB.out _); (case i3 => exact TabP.below hT'.out h3 HB.out); rintro ex w' ⟨rfl, hI2, hB2, hK2⟩; rw [hhi.out, hlo.out, hss.out] at hI2; have HI := Aside0.mk hI2; have HB := Aside0.mk hB2; clear hI2 hB2 hK2) | (go_at_call 64; (with_reducible refine (strconv_uscale.calls mn wc.heap.size x1 x2 x3 t1 x1 x2 x3 w _ ?i1 ?i2 A1.out).mono ?_); (case i1 => first | exact HI.out | exact IsS121.drewN HI.out _); (case i2 => first | exact HB.out | exact pw_below_drewN HB.out _); rintro ex w' ⟨rfl, hI2, hB2, hK2⟩; have HI := Aside0.mk hI2; have HB := Aside0.mk hB2; clear hI2 hB2 hK2) | (go_at_call 64; (with_reducible refine (strconv_uscale.calls mx wc.heap.size x1 x2 x3 t3 x1 x2 x3 w _ ?i1 ?i2 A4.out).mono ?_); (case i1 => first | exact HI.out | exact IsS121.drewN HI.out _); (case i2 => first | exact HB.out | exact pw_below_drewN HB.out _); rintro ex w' ⟨rfl, hI2, hB2, hK2⟩; have HI := Aside0.mk hI2; have HB := Aside0.mk hB2; clear hI2 hB2 hK2) | (go_at_call 65; (with_reducible refine (strconv_unrounded_nudge.calls t1 odd t2 _ A2.out).mono ?_); rintro e w' ⟨rfl, ⟨nd2, rfl⟩⟩) | (go_at_call 66; (with_reducible refine (strconv_unrounded_ceil.calls t2 dl _ A3.out).mono ?_); rintro e w' ⟨rfl, ⟨nd2, rfl⟩⟩) | (go_at_call 65; (with_reducible refine (strconv_unrounded_nudge.calls t3 (wrap64 (-odd)) t4 _ A5.out).mono ?_); rintro e w' ⟨rfl, ⟨nd2, rfl⟩⟩) | (go_at_call 67; (with_reducible refine (strconv_unrounded_floor.calls t4 du _ A6.out).mono ?_); rintro e w' ⟨rfl, ⟨nd2, rfl⟩⟩))
          go_ret2
          exact ⟨rfl, by first | exact HB.out | exact pw_below_drewN HB.out _⟩
        · rw [if_neg c1] at h
          have c1d : decide (dl ≤ IntKind.u64.wrap (IntKind.u64.wrap (Int.tdiv du 10) * 10)) = false := decide_eq_false c1
          clear c1
          by_cases c2 : dl < du
          · rw [if_pos c2] at h
            have c2d : decide (dl < du) = true := decide_eq_true c2
            obtain ⟨⟨t5, x1, x2, x3⟩, A7, h7⟩ := Option.bind_eq_some_iff.mp h
            clear h
            obtain ⟨rfl, rfl, rfl⟩ := uscale_same A7
            obtain ⟨d, A8, h⟩ := Option.bind_eq_some_iff.mp h7
            clear h7
            replace A8 : strconv_unrounded_round.f t5 = some d := A8
            replace h := Option.some.inj h
            simp only [Prod.mk.injEq] at h
            obtain ⟨rfl, rfl⟩ := h
            have A7 := Aside0.mk A7
            have A8 := Aside0.mk A8
            go_wp2_with (first | (go_at_call 62; (with_reducible refine (strconv_prescale.calls wc.heap.size 0 0 0 e p lp w _ ?i1 ?i2 hp'.out ?i3 h3).mono ?_); (case i1 => first | exact HI.out | exact IsS121.drewN HI.out _); (case i2 => first | exact HB.out | exact pw_below_drewN HB.out _); (case i3 => exact TabP.below hT'.out h3 HB.out); rintro ex w' ⟨rfl, hI2, hB2, hK2⟩; rw [hhi.out, hlo.out, hss.out] at hI2; have HI := Aside0.mk hI2; have HB := Aside0.mk hB2; clear hI2 hB2 hK2) | (go_at_call 64; (with_reducible refine (strconv_uscale.calls mn wc.heap.size x1 x2 x3 t1 x1 x2 x3 w _ ?i1 ?i2 A1.out).mono ?_); (case i1 => first | exact HI.out | exact IsS121.drewN HI.out _); (case i2 => first | exact HB.out | exact pw_below_drewN HB.out _); rintro ex w' ⟨rfl, hI2, hB2, hK2⟩; have HI := Aside0.mk hI2; have HB := Aside0.mk hB2; clear hI2 hB2 hK2) | (go_at_call 64; (with_reducible refine (strconv_uscale.calls mx wc.heap.size x1 x2 x3 t3 x1 x2 x3 w _ ?i1 ?i2 A4.out).mono ?_); (case i1 => first | exact HI.out | exact IsS121.drewN HI.out _); (case i2 => first | exact HB.out | exact pw_below_drewN HB.out _); rintro ex w' ⟨rfl, hI2, hB2, hK2⟩; have HI := Aside0.mk hI2; have HB := Aside0.mk hB2; clear hI2 hB2 hK2) | (go_at_call 65; (with_reducible refine (strconv_unrounded_nudge.calls t1 odd t2 _ A2.out).mono ?_); rintro e w' ⟨rfl, ⟨nd2, rfl⟩⟩) | (go_at_call 66; (with_reducible refine (strconv_unrounded_ceil.calls t2 dl _ A3.out).mono ?_); rintro e w' ⟨rfl, ⟨nd2, rfl⟩⟩) | (go_at_call 65; (with_reducible refine (strconv_unrounded_nudge.calls t3 (wrap64 (-odd)) t4 _ A5.out).mono ?_); rintro e w' ⟨rfl, ⟨nd2, rfl⟩⟩) | (go_at_call 67; (with_reducible refine (strconv_unrounded_floor.calls t4 du _ A6.out).mono ?_); rintro e w' ⟨rfl, ⟨nd2, rfl⟩⟩) | (go_at_call 64; (with_reducible refine (strconv_uscale.calls m wc.heap.size x1 x2 x3 t5 x1 x2 x3 w _ ?i1 ?i2 A7.out).mono ?_); (case i1 => first | exact HI.out | exact IsS121.drewN HI.out _); (case i2 => first | exact HB.out | exact pw_below_drewN HB.out _); rintro ex w' ⟨rfl, hI2, hB2, hK2⟩; have HI := Aside0.mk hI2; have HB := Aside0.mk hB2; clear hI2 hB2 hK2) | (go_at_call 68; (with_reducible refine (strconv_unrounded_round.calls t5 d _ A8.out).mono ?_); rintro e w' ⟨rfl, ⟨nd2, rfl⟩⟩))
            go_ret2
            exact ⟨rfl, by first | exact HB.out | exact pw_below_drewN HB.out _⟩
          · rw [if_neg c2] at h
            have c2d : decide (dl < du) = false := decide_eq_false c2
            simp only [Option.some.injEq, Prod.mk.injEq] at h
            obtain ⟨rfl, rfl⟩ := h
            go_wp2_with (first | (go_at_call 62; (with_reducible refine (strconv_prescale.calls wc.heap.size 0 0 0 e p lp w _ ?i1 ?i2 hp'.out ?i3 h3).mono ?_); (case i1 => first | exact HI.out | exact IsS121.drewN HI.out _); (case i2 => first | exact HB.out | exact pw_below_drewN HB.out _); (case i3 => exact TabP.below hT'.out h3 HB.out); rintro ex w' ⟨rfl, hI2, hB2, hK2⟩; rw [hhi.out, hlo.out, hss.out] at hI2; have HI := Aside0.mk hI2; have HB := Aside0.mk hB2; clear hI2 hB2 hK2) | (go_at_call 64; (with_reducible refine (strconv_uscale.calls mn wc.heap.size x1 x2 x3 t1 x1 x2 x3 w _ ?i1 ?i2 A1.out).mono ?_); (case i1 => first | exact HI.out | exact IsS121.drewN HI.out _); (case i2 => first | exact HB.out | exact pw_below_drewN HB.out _); rintro ex w' ⟨rfl, hI2, hB2, hK2⟩; have HI := Aside0.mk hI2; have HB := Aside0.mk hB2; clear hI2 hB2 hK2) | (go_at_call 64; (with_reducible refine (strconv_uscale.calls mx wc.heap.size x1 x2 x3 t3 x1 x2 x3 w _ ?i1 ?i2 A4.out).mono ?_); (case i1 => first | exact HI.out | exact IsS121.drewN HI.out _); (case i2 => first | exact HB.out | exact pw_below_drewN HB.out _); rintro ex w' ⟨rfl, hI2, hB2, hK2⟩; have HI := Aside0.mk hI2; have HB := Aside0.mk hB2; clear hI2 hB2 hK2) | (go_at_call 65; (with_reducible refine (strconv_unrounded_nudge.calls t1 odd t2 _ A2.out).mono ?_); rintro e w' ⟨rfl, ⟨nd2, rfl⟩⟩) | (go_at_call 66; (with_reducible refine (strconv_unrounded_ceil.calls t2 dl _ A3.out).mono ?_); rintro e w' ⟨rfl, ⟨nd2, rfl⟩⟩) | (go_at_call 65; (with_reducible refine (strconv_unrounded_nudge.calls t3 (wrap64 (-odd)) t4 _ A5.out).mono ?_); rintro e w' ⟨rfl, ⟨nd2, rfl⟩⟩) | (go_at_call 67; (with_reducible refine (strconv_unrounded_floor.calls t4 du _ A6.out).mono ?_); rintro e w' ⟨rfl, ⟨nd2, rfl⟩⟩))
            go_ret2
            exact ⟨rfl, by first | exact HB.out | exact pw_below_drewN HB.out _⟩
  · rw [if_neg hp] at h; exact absurd h (by simp)
end Go.Proofs.YthbmfhkpkkgdnaaGreatDoor.Q

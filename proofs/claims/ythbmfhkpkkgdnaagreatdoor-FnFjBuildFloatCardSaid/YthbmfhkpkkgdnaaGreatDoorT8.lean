import Derived.Test.YthbmfhkpkkgdnaaGreatDoorT7
namespace Go.Proofs.YthbmfhkpkkgdnaaGreatDoor.Q
open Go.RowKit Go.Proofs.YthbmfhkpkkgdnaaGreatDoorW.PrintWords Go.Proofs.YthbmfhkpkkgdnaaGreatDoorW.PrintLast Go.Proofs.YthbmfhkpkkgdnaaGreatDoorW.PrintMore
attribute [local go_sem] max2_int min2_int max_two min_two max_three min_three max_four min_four
set_option linter.unusedVariables false
set_option linter.unusedSimpArgs false
noncomputable def ft.T38 : Bool × List (List Nat × List Nat) := rtab .any (opsOf Tryz.f28 38)
theorem ft.tab38 : rtab .any (opsOf Tryz.f28 38) = ft.T38 := rfl
theorem Buf.C {b g : Nat} {W : World} {l : List Int} (h : Buf b W g l) : Kd.C (Kd.int .u8) W (some ⟨g, 0, none⟩) l.length l := by
  refine ⟨rfl, by have := h.2.2; omega, fun _ => ⟨_, rfl, fun j p hj => ⟨[.int .u8 p], rfl, rfl, fun i u hu => ?_⟩⟩⟩
  obtain ⟨hl, hp⟩ := List.getElem?_eq_some_iff.1 hj
  cases i with
  | zero =>
    have hu2 : Value.int .u8 p = u := by simpa using hu
    have := Buf.cell h j (by have := h.2.2; omega)
    rw [List.getD_eq_getElem?_getD, hj] at this
    rw [← hu2]
    have e : (⟨g, 0, none⟩ : Addr).add (j * 1 + 0) = ⟨g, j, none⟩ := by simp [Addr.add]; try omega
    rw [show (Kd.int .u8).sz = 1 from rfl, e]
    exact this
  | succ i => simp at hu
theorem Buf.below {b g B : Nat} {w W : World} {l : List Int} (h : Buf b w g l) (hB : Below B w W) (hg : g < B) : Buf b W g l := ⟨(hB.block g hg).trans h.1, h.2⟩
theorem Buf.new (W : World) : Buf W.heap.size (W.alloc (.cells #[.int .u8 0, .int .u8 0, .int .u8 0, .int .u8 0, .int .u8 0, .int .u8 0, .int .u8 0, .int .u8 0, .int .u8 0, .int .u8 0, .int .u8 0, .int .u8 0, .int .u8 0, .int .u8 0, .int .u8 0, .int .u8 0, .int .u8 0, .int .u8 0, .int .u8 0, .int .u8 0, .int .u8 0, .int .u8 0, .int .u8 0, .int .u8 0, .int .u8 0, .int .u8 0, .int .u8 0, .int .u8 0, .int .u8 0, .int .u8 0, .int .u8 0, .int .u8 0] 98)) W.heap.size (List.replicate 32 0) := ⟨heap_alloc_new W _, Nat.le_refl _, rfl⟩
theorem fmtEFG32 (k : Nat) (P0_ : Nat → Prop) (u9000_ : Value) (l0 : List Int) (a1 : Bool) (A2 : Option Addr) (l2 : List Int) (hl : l2.length = 32) (a3 a4 a5 a6 : Int) (a7 : Bool) (r : List Int) (w0 w : World) (hB : Below w0.heap.size w0 w) (ho0 : Kd.R (Kd.int .u8) 5 w w0.heap.size P0_ u9000_ l0) (hr2 : ∀ W_, Kept w W_ (fun k_ => P0_ k_) → Kd.C (Kd.int .u8) W_ A2 l2.length l2) (h : strconv_fmtEFG.f k l0 a1 l2 a3 a4 a5 a6 a7 = some r) :
    Calls Tryz.prog 42 #[u9000_, .bool a1, .slice A2 32 32, .int .i64 a3, .int .i64 a4, .int .i64 a5, .int .u8 a6, .bool a7] w fun e w' => ∃ v0_ : Value, e = .returned (v0_) ∧ Kd.R (Kd.int .u8) 5 w' w0.heap.size (fun k_ => (P0_ k_ ∨ w.heap.size ≤ k_)) v0_ r ∧ Below w0.heap.size w0 w' ∧ Kept w w' (fun k_ => P0_ k_) := by
  have h1 := strconv_fmtEFG.calls k P0_ u9000_ l0 a1 A2 32 l2 a3 a4 a5 a6 a7 r w0 w hB ho0 hr2 (by omega) h
  rw [hl] at h1
  exact h1
theorem TabU.below {w W : World} (hT : TabU w) (h3 : 3 < w.heap.size) (hB : Below w.heap.size w W) : TabU W := by
  intro i hi
  have h := hB.block 2 (by omega)
  have a := hT i hi
  simp only [World.cell?, h] at a ⊢
  exact a
open Go.Proofs.YthbmfhkpkkgdnaaGreatDoor.U in
set_option maxHeartbeats 8000000 in
set_option maxRecDepth 100000 in
theorem strconv_ftoa64.calls (k : Nat) (P0_ : Nat → Prop) (u9000_ : Value) (l0 : List Int) (b L D nd : Nat) (p : Int) (r : List Int) (w0 w : World) (hb64 : b < 18446744073709551616) (hfin : b % 9223372036854775808 < 9218868437227405312) (hnz : mB (b % 9223372036854775808) ≠ 0)
    (HL : bits_Len64.f k (mB (b % 9223372036854775808) : Int) = some (L : Int)) (hL : 1 ≤ L ∧ L ≤ 53) (hm1 : 9223372036854775808 ≤ mB (b % 9223372036854775808) * 2 ^ (64 - L)) (hm2 : mB (b % 9223372036854775808) * 2 ^ (64 - L) < 18446744073709551616)
    (HS : strconv_shortFloat.f ((mB (b % 9223372036854775808) * 2 ^ (64 - L) : Nat) : Int) (eB (b % 9223372036854775808) - ((64 - L : Nat) : Int)) = some ((D : Int), p)) (HN : strconv_numDigits.f k (D : Int) = some (nd : Int)) (hnd : nd ≤ 20) (hD : D < 2 ^ 64) (hD10 : D < 10 ^ nd) (hp : -2000 ≤ p ∧ p ≤ 2000)
    (hT : TabP w) (hU : TabU w) (h3 : 3 < w.heap.size) (hP0 : ∀ k_, P0_ k_ → k_ < w.heap.size)
    (hB : Below w0.heap.size w0 w) (ho0 : Kd.R (Kd.int .u8) 5 w w0.heap.size P0_ u9000_ l0)
    (h : ∀ (l : List Int) (n : Nat), l.length = 32 → Put D nd 0 (List.replicate 32 0) l → n ≤ nd → (∀ i, n ≤ i → i < nd → l.getD i 0 = 48) → (n = 0 ∨ l.getD (n - 1) 0 ≠ 48) → strconv_fmtEFG.f k l0 (decide (9223372036854775808 ≤ b)) l (nd + p) n n 103 true = some r) :
    Calls Tryz.prog 28 #[u9000_, .float .f64 b, .int .u8 103, .int .i64 (-1)] w fun e w' => ∃ v0_ : Value, e = .returned (v0_) ∧ Kd.R (Kd.int .u8) 5 w' w0.heap.size (fun k_ => (P0_ k_ ∨ w.heap.size ≤ k_)) v0_ r ∧ Below w0.heap.size w0 w' ∧ Kept w w' (fun k_ => P0_ k_) := by
  have HB := Aside0.mk hB
  have HO := Aside0.mk ho0
  have HH := Aside0.mk h
  clear hB ho0 h
  have hf := run_float64bits b
  obtain ⟨c, hc⟩ : ∃ c, b % 9223372036854775808 = c := ⟨_, rfl⟩
  have hX := and_2047 (b / 4503599627370496) (by omega)
  have hXX : (((b / 4503599627370496 % 2048 : Nat)) : Int) = ((c / 4503599627370496 : Nat) : Int) := by omega
  rw [hXX, show ((b / 4503599627370496 : Nat) : Int) = (b : Int) / 4503599627370496 by omega] at hX
  have hF := and_mask b (by omega)
  rw [show b % 4503599627370496 = c % 4503599627370496 by omega] at hF
  go_enter Tryz.func28, Tryz.ntmps28
  obtain ⟨X, hXc⟩ : ∃ X, c / 4503599627370496 = X := ⟨_, rfl⟩
  obtain ⟨F, hFc⟩ : ∃ F, c % 4503599627370496 = F := ⟨_, rfl⟩
  rw [hXc] at hX
  rw [hFc] at hF
  have hX2 : X ≤ 2046 := by omega
  have hF2 : F < 4503599627370496 := by omega
  have hor := or_top F hF2
  have hne : ((X : Int) == 2047) = false := by simp; omega
  rw [hc] at hfin hnz HL hm1 hm2 HS
  have HL := Aside0.mk HL
  have HS := Aside0.mk HS
  have HN := Aside0.mk HN
  have hT := Aside0.mk hT
  have hU := Aside0.mk hU
  have hP0 := Aside0.mk hP0
  have hD10 := Aside0.mk hD10
  have hD := Aside0.mk hD
  have hb2 : (((b : Int) / 9223372036854775808 : Int) != 0) = decide (9223372036854775808 ≤ b) := by
    by_cases hq : 9223372036854775808 ≤ b
    · rw [decide_eq_true hq]; simp; omega
    · rw [decide_eq_false hq]; simp; omega
  have hmB : mB c = if X = 0 then F else F + 4503599627370496 := by unfold mB; rw [hXc, hFc]; split <;> omega
  have heB : eB c + 1075 = if X = 0 then 1 else (X : Int) := by unfold eB; rw [hXc]; split <;> omega
  have hmB := Aside0.mk hmB
  have heB := Aside0.mk heB
  have hXc := Aside0.mk hXc
  have hFc := Aside0.mk hFc
  have hc := Aside0.mk hc
  go_wp2
  go_quiet (fail)
  go_upto_if 78 with (fail)
  go_cut [14, 15] (fun v14 v15 wc => v14 = .int .i64 (eB c + 1075) ∧ v15 = .int .u64 (mB c : Int) ∧ Drawn0 w wc)
  case first =>
    by_cases c0 : X = 0
    · have cd : ((X : Int) == 0) = true := by simp; omega
      subst c0
      go_wp2
      go_meet
      case rel => exact ⟨by rw [heB.out]; rfl, by rw [hmB.out]; rfl, _, rfl⟩
    · have cd : ((X : Int) == 0) = false := by simp; omega
      go_wp2
      go_meet
      case rel => exact ⟨by rw [heB.out, if_neg c0], by rw [hmB.out, if_neg c0]; exact congrArg (Value.int .u64) (by omega), _, rfl⟩
  case rest =>
    obtain ⟨rfl, rfl, hdr⟩ := hcut
    have hdr := Aside0.mk hdr
    obtain ⟨ee, hee⟩ : ∃ ee, eB c = ee := ⟨_, rfl⟩
    obtain ⟨M, hM⟩ : ∃ M, mB c = M := ⟨_, rfl⟩
    have hb := mB_lt hfin
    have HL := HL.out
    have HS := HS.out
    rw [hM] at hnz HL HS hm1 hm2 hb
    rw [hee] at hb HS
    rw [hee, hM]
    obtain ⟨hM1, he1, he2⟩ := hb
    clear hX hF hor hne hb2 hX2 hF2 hf hee hM hmB heB
    have HL := Aside0.mk HL
    have HS := Aside0.mk HS
    have hnM : ((M : Int) == 0) = false := by simp; omega
    obtain ⟨m, hm⟩ : ∃ m : Nat, M * 2 ^ (64 - L) = m := ⟨_, rfl⟩
    have HS := HS.out
    rw [hm] at HS hm1 hm2
    have HS := Aside0.mk HS
    have ws : wrap64 (64 - (L : Int)) = 64 - (L : Int) := by unfold wrap64; omega
    have ps : ((0 : Int) ≤ 64 - (L : Int)) = True := eq_true (by omega)
    have hsh : IntKind.u64.wrap ((M : Int) * 2 ^ (64 - L)) = (m : Int) := by
      rw [show (M : Int) * 2 ^ (64 - L) = (m : Int) by rw [← hm]; push_cast; rfl, wu (by omega) (by omega)]
    obtain ⟨e0, he0⟩ : ∃ e0 : Int, ee - ((64 - L : Nat) : Int) = e0 := ⟨_, rfl⟩
    have HS := HS.out
    rw [he0] at HS
    have HS := Aside0.mk HS
    have hee0 : ee + 1075 + -1023 - (64 - (L : Int)) - 52 = e0 := by omega
    have he01 : -1137 ≤ e0 ∧ e0 ≤ 960 := by omega
    have hm := Aside0.mk hm
    have he0 := Aside0.mk he0
    obtain ⟨nw, rfl⟩ := hdr.out
    clear hdr
    go_upto_region 34 with (fail)
    have HBf := Aside0.mk (Buf.new (w.drewN nw))
    have HW := Aside0.mk (below_alloc (pw_below_drewN (Below.refl w.heap.size w) nw) (.cells #[.int .u8 0, .int .u8 0, .int .u8 0, .int .u8 0, .int .u8 0, .int .u8 0, .int .u8 0, .int .u8 0, .int .u8 0, .int .u8 0, .int .u8 0, .int .u8 0, .int .u8 0, .int .u8 0, .int .u8 0, .int .u8 0, .int .u8 0, .int .u8 0, .int .u8 0, .int .u8 0, .int .u8 0, .int .u8 0, .int .u8 0, .int .u8 0, .int .u8 0, .int .u8 0, .int .u8 0, .int .u8 0, .int .u8 0, .int .u8 0, .int .u8 0, .int .u8 0] 98))
    generalize World.alloc _ _ = wa at HBf HW ⊢
    go_wp2_with (first | (go_at_call 43; (with_reducible refine (bits_Len64.calls k (M : Int) (L : Int) _ HL.out).mono ?_); rintro e w' ⟨rfl, ⟨nd2, rfl⟩⟩; have HBf := Aside0.mk (Buf.drewN HBf.out nd2); have HW := Aside0.mk (pw_below_drewN HW.out nd2)) | (go_at_call 52; (refine (strconv_shortFloat.calls (m : Int) e0 (D : Int) p _ ?s1 he01 ?s2 ?s3 HS.out).mono ?_); (case s1 => exact ⟨by omega, by omega⟩); (case s2 => exact TabP.below hT.out h3 HW.out); (case s3 => exact Nat.lt_of_lt_of_le h3 HW.out.size); rintro e w' ⟨rfl, hb⟩; have HBf := Aside0.mk (Buf.below HBf.out hb (blk_lt HBf.out.1)); have HW := Aside0.mk (below_step HW.out hb); clear hb))
    refine start_ (n := 11) (S := fun _ => True) (ds := [4, 5]) #[false, false, false, false, false, false, false, false, false, false, false] (by kernel_rfl) rfl rfl trivial (fun hHeld => ?_); refine with_tab ft.tab38 (fun HT_ => ?_)
    have HBd := Aside0.mk (Buf.drew HBf.out)
    have HWd := Aside0.mk (below_drew1 HW.out)
    clear HBf HW
    generalize World.drew _ = wd at HBd HWd ⊢
    refine pure_ (i := 0) (N := some 140) (v := ?_) (a' := ?_) #[true, false, false, false, false, false, false, false, false, false, false] rfl rfl (any_of HT_.out (by kernel_rfl)) (fun _ _ _ h => h) (Or.inl ⟨by rfl, ?_⟩) ?_ ?_
    rotate_left
    · intro w'
      go_simp
      with_reducible rfl
    rotate_left
    · simp only [Act.put, List.setIfInBounds_toArray, List.set_cons_zero, List.set_cons_succ, i64_w, i32_w]
      rfl
    refine pure_ (i := 1) (N := some 141) (v := ?_) (a' := ?_) #[true, true, false, false, false, false, false, false, false, false, false] rfl rfl (any_of HT_.out (by kernel_rfl)) (fun _ _ _ h => h) (Or.inl ⟨by rfl, ?_⟩) ?_ ?_
    rotate_left
    · intro w'
      go_simp
      with_reducible rfl
    rotate_left
    · simp only [Act.put, List.setIfInBounds_toArray, List.set_cons_zero, List.set_cons_succ, i64_w, i32_w]
      rfl
    refine pure_ (i := 2) (N := some 142) (v := ?_) (a' := ?_) #[true, true, true, false, false, false, false, false, false, false, false] rfl rfl (any_of HT_.out (by kernel_rfl)) (fun _ _ _ h => h) (Or.inl ⟨by rfl, ?_⟩) ?_ ?_
    rotate_left
    · intro w'
      go_simp
      with_reducible rfl
    rotate_left
    · simp only [Act.put, List.setIfInBounds_toArray, List.set_cons_zero, List.set_cons_succ, i64_w, i32_w]
      rfl
    refine pure_ (i := 3) (N := some 143) (v := ?_) (a' := ?_) #[true, true, true, true, false, false, false, false, false, false, false] rfl rfl (any_of HT_.out (by kernel_rfl)) (fun _ _ _ h => h) (Or.inl ⟨by rfl, ?_⟩) ?_ ?_
    rotate_left
    · intro w'
      go_simp
      with_reducible rfl
    rotate_left
    · simp only [Act.put, List.setIfInBounds_toArray, List.set_cons_zero, List.set_cons_succ, i64_w, i32_w]
      rfl
    refine last_ (i := 4) (N := some 144) #[true, true, true, true, true, false, false, false, false, false, false] rfl rfl (one_of HT_.out (by kernel_rfl)) (by decide) (fun K hK => ?_)
    refine goes_ Tryz.func46 (by kernel_rfl) rfl #[.int .u64 (D : Int)] (by rfl) rfl rfl (by (try simp only [List.map_toArray, List.map_cons, List.map_nil]); first | done | rfl) ?_
    refine (strconv_numDigits.calls k (D : Int) (nd : Int) wd (TabU.below hU.out h3 HWd.out) HN.out).mono ?_
    rintro e w9 ⟨rfl, ⟨n9, rfl⟩⟩; have HBf := Aside0.mk (Buf.drewN HBd.out n9); have HW := Aside0.mk (pw_below_drewN HWd.out n9); clear HBd HWd
    refine ⟨_, rfl, ?_⟩
    refine hK.out _ _ ?_
    clear hK K
    refine norm_ (a' := ?_) ?_ ?_
    rotate_left
    · show Act.put _ (some 144) _ = _
      simp only [Act.put, List.setIfInBounds_toArray, List.set_cons_zero, List.set_cons_succ, i64_w, i32_w]
      rfl
    refine last_ (i := 5) (N := some 145) #[true, true, true, true, true, true, false, false, false, false, false] rfl rfl (one_of HT_.out (by kernel_rfl)) (by decide) (fun K hK => ?_)
    refine goes_ Tryz.func45 (by kernel_rfl) rfl #[.slice (some ⟨w.heap.size, 0, none⟩) 32 32, .int .u64 (D : Int), .int .i64 p, .int .i64 (nd : Int)] (by rfl) rfl rfl (by (try simp only [List.map_toArray, List.map_cons, List.map_nil]); first | done | rfl) ?_
    refine (strconv_setDigits.calls w.heap.size w.heap.size nd D p (List.replicate 32 0) _ HBf.out hnd hD.out hD10.out hp).mono ?_
    rintro e w10 ⟨l, n, rfl, g1, g2, g3, g4, g5, g6⟩; have HBd := Aside0.mk g1; have HWd := Aside0.mk (HW.out.trans g6.below); have HH := Aside0.mk (HH.out l n g1.2.2 g2 g3 g4 g5); have hl := g1.2.2; clear g1 g2 g3 g4 g5 g6 HBf HW
    refine ⟨_, rfl, ?_⟩
    refine hK.out _ _ ?_
    clear hK K
    refine norm_ (a' := ?_) ?_ ?_
    rotate_left
    · show Act.put _ (some 145) _ = _
      simp only [Act.put, List.setIfInBounds_toArray, List.set_cons_zero, List.set_cons_succ, i64_w, i32_w]
      rfl
    refine pure_ (i := 6) (N := some 139) (v := ?_) (a' := ?_) #[true, true, true, true, true, true, true, false, false, false, false] rfl rfl (any_of HT_.out (by kernel_rfl)) (fun _ _ _ h => h) (Or.inl ⟨by rfl, ?_⟩) ?_ ?_
    rotate_left
    · intro w'
      go_simp
      with_reducible rfl
    rotate_left
    · simp only [Act.put, List.setIfInBounds_toArray, List.set_cons_zero, List.set_cons_succ, i64_w, i32_w]
      rfl
    refine pure_ (i := 7) (N := some 146) (v := ?_) (a' := ?_) #[true, true, true, true, true, true, true, true, false, false, false] rfl rfl (any_of HT_.out (by kernel_rfl)) (fun _ _ _ h => h) (Or.inl ⟨by rfl, ?_⟩) ?_ ?_
    rotate_left
    · intro w'
      go_simp
      with_reducible rfl
    rotate_left
    · simp only [Act.put, List.setIfInBounds_toArray, List.set_cons_zero, List.set_cons_succ, i64_w, i32_w]
      rfl
    refine pure_ (i := 8) (N := some 147) (v := ?_) (a' := ?_) #[true, true, true, true, true, true, true, true, true, false, false] rfl rfl (any_of HT_.out (by kernel_rfl)) (fun _ _ _ h => h) (Or.inl ⟨by rfl, ?_⟩) ?_ ?_
    rotate_left
    · intro w'
      go_simp
      with_reducible rfl
    rotate_left
    · simp only [Act.put, List.setIfInBounds_toArray, List.set_cons_zero, List.set_cons_succ, i64_w, i32_w]
      rfl
    refine pure_ (i := 9) (N := some 22) (v := ?_) (a' := ?_) #[true, true, true, true, true, true, true, true, true, true, false] rfl rfl (any_of HT_.out (by kernel_rfl)) (fun _ _ _ h => h) (Or.inl ⟨by rfl, ?_⟩) ?_ ?_
    rotate_left
    · intro w'
      go_simp
      with_reducible rfl
    rotate_left
    · simp only [Act.put, List.setIfInBounds_toArray, List.set_cons_zero, List.set_cons_succ, i64_w, i32_w]
      rfl
    refine pure_ (i := 10) (N := some 23) (v := ?_) (a' := ?_) #[true, true, true, true, true, true, true, true, true, true, true] rfl rfl (any_of HT_.out (by kernel_rfl)) (fun _ _ _ h => h) (Or.inl ⟨by rfl, ?_⟩) ?_ ?_
    rotate_left
    · intro w'
      go_simp
      with_reducible rfl
    rotate_left
    · simp only [Act.put, List.setIfInBounds_toArray, List.set_cons_zero, List.set_cons_succ, i64_w, i32_w]
      rfl
    refine done_ (done_of HT_.out (by kernel_rfl)) ?_
    clear HT_ hHeld
    replace hl := Aside0.mk hl
    clear hsh hee0 ws ps
    go_wp2_with (first | (go_at_call 42; (refine (fmtEFG32 k P0_ u9000_ l0 (decide (9223372036854775808 ≤ b)) (some ⟨w.heap.size, 0, none⟩) l hl.out ((nd : Int) + p) (n : Int) (n : Int) 103 true r w0 _ ?b1 ?b2 ?b3 HH.out).mono ?_); (case b1 => exact below_step HB.out HWd.out); (case b2 => exact Kd.R_below HO.out HWd.out); (case b3 => intro W_ hk; exact Buf.C (b := w.heap.size) ⟨(hk.2 _ (blk_lt HBd.out.1) (fun hc => absurd (hP0.out _ hc) (Nat.lt_irrefl _))).trans HBd.out.1, HBd.out.2⟩); rintro e w11 ⟨v0, rfl, ho, hb, hk⟩))
    go_ret
    exact ⟨_, rfl, Kd.R_mono ho (fun k_ hk_ => hk_.imp id (fun h_ => Nat.le_trans HWd.out.size h_)), hb, ((Kept.of_below HWd.out (fun k_ => P0_ k_)).then_ hk (fun _ h2 => .inl h2))⟩
end Go.Proofs.YthbmfhkpkkgdnaaGreatDoor.Q

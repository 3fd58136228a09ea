import Derived.Test.YthbmfhkpkkgdnaaGreatDoorT3
namespace Go.Proofs.YthbmfhkpkkgdnaaGreatDoor.Q
open Go.RowKit Go.Proofs.YthbmfhkpkkgdnaaGreatDoorW.PrintWords Go.Proofs.YthbmfhkpkkgdnaaGreatDoorW.PrintLast Go.Proofs.YthbmfhkpkkgdnaaGreatDoorW.PrintMore
attribute [local go_sem] max2_int min2_int max_two min_two max_three min_three max_four min_four
set_option linter.unusedVariables false
set_option linter.unusedSimpArgs false
/-- The digits of U from place m on, of nd. -/
def Put (U nd m : Nat) (l0 l : List Int) : Prop := ∀ i : Nat, l.getD i 0 = if m ≤ i ∧ i < nd then 48 + ((U / 10 ^ (nd - 1 - i) % 10 : Nat) : Int) else l0.getD i 0
theorem getD_set (l : List Int) (i j : Nat) (x : Int) (hi : i < l.length) : (l.set i x).getD j 0 = if i = j then x else l.getD j 0 := by
  simp only [List.getD_eq_getElem?_getD, List.getElem?_set]
  split
  · rename_i h; subst h; simp [hi]
  · rfl
theorem Put.one {U nd m i : Nat} {l0 l : List Int} (hP : Put U nd m l0 l) (h1 : i + 1 = m) (hm : m ≤ nd) (hl : m ≤ l.length) {x : Int} (hx : x = 48 + ((U / 10 ^ (nd - m) % 10 : Nat) : Int)) : Put U nd i l0 (l.set i x) := by
  intro j
  rw [getD_set l i j x (by omega)]
  by_cases h : i = j
  · subst h
    rw [if_pos rfl, if_pos ⟨Nat.le_refl _, by omega⟩, hx, show nd - 1 - i = nd - m by omega]
  · rw [if_neg h, hP j]
    by_cases hj : m ≤ j ∧ j < nd
    · rw [if_pos hj, if_pos ⟨by omega, hj.2⟩]
    · rw [if_neg hj, if_neg (by omega)]
theorem Put.two {U nd m i1 i2 d : Nat} {l0 l : List Int} (hP : Put U nd m l0 l) (h1 : i1 + 1 = m) (h2 : i2 + 2 = m) (hm : m ≤ nd) (hl : m ≤ l.length) (hd : d = U / 10 ^ (nd - m) % 100) (hd1 : d < 100) : Put U nd i2 l0 ((l.set i1 (bt smalls ((d : Int) * 2 + 1))).set i2 (bt smalls ((d : Int) * 2))) := by
  obtain ⟨s0, s1⟩ := smalls_bt d hd1
  have e : U / 10 ^ (nd - i1) = U / 10 ^ (nd - m) / 10 := by rw [show nd - i1 = (nd - m) + 1 by omega, Nat.pow_succ, Nat.div_div_eq_div_mul]
  refine (hP.one h1 hm hl (by rw [s1]; have : d % 10 = U / 10 ^ (nd - m) % 10 := by { rw [hd]; omega }
                              rw [this])).one (by omega) (by omega) (by simp; omega) ?_
  rw [s0, e]
  have : d / 10 = U / 10 ^ (nd - m) / 10 % 10 := by rw [hd]; omega
  rw [this]
theorem div_ten (U a k b : Nat) (h : b = a + k) : U / 10 ^ b = U / 10 ^ a / 10 ^ k := by subst h; rw [Nat.pow_add, Nat.div_div_eq_div_mul]
noncomputable def fb.T7 : Bool × List (List Nat × List Nat) := rtab .any (opsOf Tryz.f69 7)
theorem fb.tab7 : rtab .any (opsOf Tryz.f69 7) = fb.T7 := rfl
noncomputable def fb.T8 : Bool × List (List Nat × List Nat) := rtab .any (opsOf Tryz.f69 8)
theorem fb.tab8 : rtab .any (opsOf Tryz.f69 8) = fb.T8 := rfl
noncomputable def fb.T9 : Bool × List (List Nat × List Nat) := rtab .any (opsOf Tryz.f69 9)
theorem fb.tab9 : rtab .any (opsOf Tryz.f69 9) = fb.T9 := rfl
noncomputable def fb.T10 : Bool × List (List Nat × List Nat) := rtab .any (opsOf Tryz.f69 10)
theorem fb.tab10 : rtab .any (opsOf Tryz.f69 10) = fb.T10 := rfl
noncomputable def fb.T17 : Bool × List (List Nat × List Nat) := rtab .any (opsOf Tryz.f69 17)
theorem fb.tab17 : rtab .any (opsOf Tryz.f69 17) = fb.T17 := rfl
noncomputable def fb.T18 : Bool × List (List Nat × List Nat) := rtab .any (opsOf Tryz.f69 18)
theorem fb.tab18 : rtab .any (opsOf Tryz.f69 18) = fb.T18 := rfl
noncomputable def fb.T23 : Bool × List (List Nat × List Nat) := rtab .any (opsOf Tryz.f69 23)
theorem fb.tab23 : rtab .any (opsOf Tryz.f69 23) = fb.T23 := rfl
set_option maxHeartbeats 8000000 in
set_option maxRecDepth 100000 in
theorem strconv_formatBase10.calls (b g nd cap U : Nat) (l0 : List Int) (w : World) (hb : Buf b w g l0) (hn : nd ≤ 20) (hc : nd ≤ cap) (hU : U < 2 ^ 64) (hU10 : U < 10 ^ nd) :
    Calls Tryz.prog 69 #[.slice (some ⟨g, 0, none⟩) nd cap, .int .u64 U] w fun e w' => e = .returned (.tuple #[]) ∧ ∃ l, Buf b w' g l ∧ Put U nd 0 l0 l ∧ KB b g w w' := by
  have hb0 := hb.2.1
  have HB := Aside0.mk hb
  clear hb
  have HU10 := Aside0.mk hU10
  clear hU10
  go_enter Tryz.func69, Tryz.ntmps69
  go_wp2
  (try simp only [Act.put, List.setIfInBounds_toArray, List.set_cons_zero, List.set_cons_succ])
  go_loopg [1, 4] 3 (fun kq v1 v4 w' => ∃ (m : Nat) (l : List Int), v1 = .int .u64 ((U / 10 ^ (nd - m) : Nat) : Int) ∧ v4 = .int .i64 (m : Int) ∧ Aside0 (m ≤ nd ∧ m / 8 < kq ∧ kq ≤ 3 ∧ Put U nd m l0 l) ∧ Aside0 (Buf b w' g l) ∧ Aside0 (KB b g w w'))
  case atStart => exact ⟨nd, l0, by simp, rfl, ⟨Nat.le_refl _, by omega, by omega, fun i => by rw [if_neg (by omega)]⟩, HB, ⟨KB.refl w hb0⟩⟩
  case round =>
    clear HB
    obtain ⟨m, l, rfl, rfl, HA, HB, HK⟩ := hrel
    obtain ⟨hm, hm8, hk3, HP0⟩ := HA.out
    replace HP0 := Aside0.mk HP0
    clear HA
    obtain ⟨u, hu⟩ : ∃ u : Nat, U / 10 ^ (nd - m) = u := ⟨_, rfl⟩
    rw [hu]
    have hu64 : u < 2 ^ 64 := by rw [← hu]; exact Nat.lt_of_le_of_lt (Nat.div_le_self _ _) hU
    replace hu := Aside0.mk hu
    cases gk with
    | zero => omega
    | succ k1 =>
      by_cases c : 8 ≤ m
      · have c1 : decide ((8 : Int) ≤ (m : Int)) = true := decide_eq_true (by omega)
        go_upto_region 7 with (fail)
        obtain ⟨d0, ed0, qd0, rd0⟩ : ∃ d : Nat, (((u : Int) % 100 : Int) = (d : Int)) ∧ d = u % 100 ∧ d < 100 := ⟨u % 100, by omega, rfl, by omega⟩
        rw [ed0]
        replace ed0 := Aside0.mk ed0
        replace qd0 := Aside0.mk qd0
        have pd00 := eq_true (show (0 : Int) ≤ (d0 : Int) * 2 by omega)
        have pd01 := eq_true (show (0 : Int) ≤ (d0 : Int) * 2 + 1 by omega)
        have pd02 := eq_true (show (d0 : Int) * 2 < 200 by omega)
        have pd03 := eq_true (show (d0 : Int) * 2 + 1 < 200 by omega)
        have wd01 : IntKind.u32.wrap ((d0 : Int) * 2 + 1) = (d0 : Int) * 2 + 1 := by rw [IntKind.wrap_u32]; omega
        have xd00 := bt_at smalls ((d0 : Int) * 2)
        have xd01 := bt_at smalls ((d0 : Int) * 2 + 1)
        have wm1 : wrap64 ((m : Int) - 1) = (m : Int) - 1 := by unfold wrap64; omega
        have pm1 : ((1 : Int) ≤ (m : Int)) = True := eq_true (by omega)
        have tm1 : ((m : Int) - 1).toNat = m - 1 := by omega
        have qm1 : ((m : Int) - 1 < (nd : Int)) = True := eq_true (by omega)
        have wm2 : wrap64 ((m : Int) - 2) = (m : Int) - 2 := by unfold wrap64; omega
        have pm2 : ((2 : Int) ≤ (m : Int)) = True := eq_true (by omega)
        have tm2 : ((m : Int) - 2).toNat = m - 2 := by omega
        have qm2 : ((m : Int) - 2 < (nd : Int)) = True := eq_true (by omega)
        refine start_ (n := 15) (S := fun _ => True) (ds := [12, 14]) #[false, false, false, false, false, false, false, false, false, false, false, false, false, false, false] (by kernel_rfl) rfl rfl trivial (fun hHeld => ?_); refine with_tab fb.tab7 (fun HT_ => ?_)
        have HBd := Aside0.mk (Buf.drew HB.out)
        have HKd := Aside0.mk (KB.drew HK.out)
        clear HB HK
        generalize World.drew _ = wd at HBd HKd ⊢
        refine pure_ (i := 0) (N := (some 42)) (v := ?_) (a' := ?_) #[true, false, false, false, false, false, false, false, false, false, false, false, false, false, false] rfl rfl (any_of HT_.out (by kernel_rfl)) (fun _ _ _ h => h) (Or.inl ⟨by rfl, ?_⟩) ?_ ?_
        rotate_left
        · intro w'
          go_simp
          with_reducible rfl
        rotate_left
        · simp only [Act.put, List.setIfInBounds_toArray, List.set_cons_zero, List.set_cons_succ, i64_w, i32_w]
          rfl
        refine pure_ (i := 1) (N := (some 43)) (v := ?_) (a' := ?_) #[true, true, false, false, false, false, false, false, false, false, false, false, false, false, false] rfl rfl (any_of HT_.out (by kernel_rfl)) (fun _ _ _ h => h) (Or.inl ⟨by rfl, ?_⟩) ?_ ?_
        rotate_left
        · intro w'
          go_simp
          with_reducible rfl
        rotate_left
        · simp only [Act.put, List.setIfInBounds_toArray, List.set_cons_zero, List.set_cons_succ, i64_w, i32_w]
          rfl
        refine pure_ (i := 2) (N := (some 44)) (v := ?_) (a' := ?_) #[true, true, true, false, false, false, false, false, false, false, false, false, false, false, false] rfl rfl (any_of HT_.out (by kernel_rfl)) (fun _ _ _ h => h) (Or.inl ⟨by rfl, ?_⟩) ?_ ?_
        rotate_left
        · intro w'
          go_simp
          with_reducible rfl
        rotate_left
        · simp only [Act.put, List.setIfInBounds_toArray, List.set_cons_zero, List.set_cons_succ, i64_w, i32_w]
          rfl
        refine pure_ (i := 3) (N := (some 45)) (v := ?_) (a' := ?_) #[true, true, true, true, false, false, false, false, false, false, false, false, false, false, false] rfl rfl (any_of HT_.out (by kernel_rfl)) (fun _ _ _ h => h) (Or.inl ⟨by rfl, ?_⟩) ?_ ?_
        rotate_left
        · intro w'
          go_simp
          with_reducible rfl
        rotate_left
        · simp only [Act.put, List.setIfInBounds_toArray, List.set_cons_zero, List.set_cons_succ, i64_w, i32_w]
          rfl
        refine pure_ (i := 4) (N := (some 46)) (v := ?_) (a' := ?_) #[true, true, true, true, true, false, false, false, false, false, false, false, false, false, false] rfl rfl (any_of HT_.out (by kernel_rfl)) (fun _ _ _ h => h) (Or.inl ⟨by rfl, ?_⟩) ?_ ?_
        rotate_left
        · intro w'
          go_simp
          with_reducible rfl
        rotate_left
        · simp only [Act.put, List.setIfInBounds_toArray, List.set_cons_zero, List.set_cons_succ, i64_w, i32_w]
          rfl
        refine pure_ (i := 5) (N := (some 47)) (v := ?_) (a' := ?_) #[true, true, true, true, true, true, false, false, false, false, false, false, false, false, false] rfl rfl (any_of HT_.out (by kernel_rfl)) (fun _ _ _ h => h) (Or.inl ⟨by rfl, ?_⟩) ?_ ?_
        rotate_left
        · intro w'
          go_simp
          with_reducible rfl
        rotate_left
        · simp only [Act.put, List.setIfInBounds_toArray, List.set_cons_zero, List.set_cons_succ, i64_w, i32_w]
          rfl
        refine pure_ (i := 6) (N := (some 48)) (v := ?_) (a' := ?_) #[true, true, true, true, true, true, true, false, false, false, false, false, false, false, false] rfl rfl (any_of HT_.out (by kernel_rfl)) (fun _ _ _ h => h) (Or.inl ⟨by rfl, ?_⟩) ?_ ?_
        rotate_left
        · intro w'
          go_simp
          with_reducible rfl
        rotate_left
        · simp only [Act.put, List.setIfInBounds_toArray, List.set_cons_zero, List.set_cons_succ, i64_w, i32_w]
          rfl
        refine pure_ (i := 7) (N := (some 49)) (v := ?_) (a' := ?_) #[true, true, true, true, true, true, true, true, false, false, false, false, false, false, false] rfl rfl (any_of HT_.out (by kernel_rfl)) (fun _ _ _ h => h) (Or.inl ⟨by rfl, ?_⟩) ?_ ?_
        rotate_left
        · intro w'
          go_simp
          with_reducible rfl
        rotate_left
        · simp only [Act.put, List.setIfInBounds_toArray, List.set_cons_zero, List.set_cons_succ, i64_w, i32_w]
          rfl
        refine pure_ (i := 8) (N := (some 50)) (v := ?_) (a' := ?_) #[true, true, true, true, true, true, true, true, true, false, false, false, false, false, false] rfl rfl (any_of HT_.out (by kernel_rfl)) (fun _ _ _ h => h) (Or.inl ⟨by rfl, ?_⟩) ?_ ?_
        rotate_left
        · intro w'
          go_simp
          with_reducible rfl
        rotate_left
        · simp only [Act.put, List.setIfInBounds_toArray, List.set_cons_zero, List.set_cons_succ, i64_w, i32_w]
          rfl
        refine pure_ (i := 9) (N := (some 51)) (v := ?_) (a' := ?_) #[true, true, true, true, true, true, true, true, true, true, false, false, false, false, false] rfl rfl (any_of HT_.out (by kernel_rfl)) (fun _ _ _ h => h) (Or.inl ⟨by rfl, ?_⟩) ?_ ?_
        rotate_left
        · intro w'
          go_simp
          with_reducible rfl
        rotate_left
        · simp only [Act.put, List.setIfInBounds_toArray, List.set_cons_zero, List.set_cons_succ, i64_w, i32_w]
          rfl
        refine pure_ (i := 10) (N := (some 52)) (v := ?_) (a' := ?_) #[true, true, true, true, true, true, true, true, true, true, true, false, false, false, false] rfl rfl (any_of HT_.out (by kernel_rfl)) (fun _ _ _ h => h) (Or.inl ⟨by rfl, ?_⟩) ?_ ?_
        rotate_left
        · intro w'
          go_simp
          with_reducible rfl
        rotate_left
        · simp only [Act.put, List.setIfInBounds_toArray, List.set_cons_zero, List.set_cons_succ, i64_w, i32_w]
          rfl
        refine pure_ (i := 11) (N := (some 53)) (v := ?_) (a' := ?_) #[true, true, true, true, true, true, true, true, true, true, true, true, false, false, false] rfl rfl (any_of HT_.out (by kernel_rfl)) (fun _ _ _ h => h) (Or.inl ⟨by rfl, ?_⟩) ?_ ?_
        rotate_left
        · intro w'
          go_simp
          with_reducible rfl
        rotate_left
        · simp only [Act.put, List.setIfInBounds_toArray, List.set_cons_zero, List.set_cons_succ, i64_w, i32_w]
          rfl
        refine last_ (i := 12) (N := none) #[true, true, true, true, true, true, true, true, true, true, true, true, true, false, false] rfl rfl (one_of HT_.out (by kernel_rfl)) (by decide) (fun K hK => ?_)
        have hc_ := Buf.cell HBd.out ((m - 1)) (by omega)
        have hf_ := Buf.frozen HBd.out ((m - 1))
        refine skip_ (by rfl) rfl (w1 := ?_) ?_ ?_
        rotate_left
        · go_simp
          with_reducible rfl
        clear hc_ hf_
        have HBe := Aside0.mk (Buf.set_ (i := (m - 1)) HBd.out (bt smalls ((d0 : Int) * 2 + 1)))
        have HKe := Aside0.mk (KB.set_ HKd.out ((m - 1)) (Value.int .u8 (bt smalls ((d0 : Int) * 2 + 1))))
        clear HBd HKd
        refine hK.out _ _ ?_
        clear hK K
        have HBd := HBe
        have HKd := HKe
        clear HBe HKe
        generalize World.setCell _ _ _ = we at HBd HKd ⊢
        refine pure_ (i := 13) (N := (some 54)) (v := ?_) (a' := ?_) #[true, true, true, true, true, true, true, true, true, true, true, true, true, true, false] rfl rfl (any_of HT_.out (by kernel_rfl)) (fun _ _ _ h => h) (Or.inl ⟨by rfl, ?_⟩) ?_ ?_
        rotate_left
        · intro w'
          go_simp
          with_reducible rfl
        rotate_left
        · simp only [Act.put, List.setIfInBounds_toArray, List.set_cons_zero, List.set_cons_succ, i64_w, i32_w]
          rfl
        refine last_ (i := 14) (N := none) #[true, true, true, true, true, true, true, true, true, true, true, true, true, true, true] rfl rfl (one_of HT_.out (by kernel_rfl)) (by decide) (fun K hK => ?_)
        have hc_ := Buf.cell HBd.out ((m - 2)) (by omega)
        have hf_ := Buf.frozen HBd.out ((m - 2))
        refine skip_ (by rfl) rfl (w1 := ?_) ?_ ?_
        rotate_left
        · go_simp
          with_reducible rfl
        clear hc_ hf_
        have HBe := Aside0.mk (Buf.set_ (i := (m - 2)) HBd.out (bt smalls ((d0 : Int) * 2)))
        have HKe := Aside0.mk (KB.set_ HKd.out ((m - 2)) (Value.int .u8 (bt smalls ((d0 : Int) * 2))))
        clear HBd HKd
        refine hK.out _ _ ?_
        clear hK K
        have HB := HBe
        have HK := HKe
        clear HBe HKe
        generalize World.setCell _ _ _ = wf at HB HK ⊢
        refine done_ (done_of HT_.out (by kernel_rfl)) ?_
        clear HT_ hHeld
        have HP2 := Aside0.mk (Put.two (d := d0) (i1 := m - 1) (i2 := m - 2) HP0.out (by omega) (by omega) (by omega) (by have := HB.out.2.2; simp only [List.length_set] at this ⊢; omega) (by rw [div_ten U (nd - m) 0 _ (by omega), hu.out, qd0.out]; omega) rd0)
        clear pd00 pd01 pd02 pd03 wd01 xd00 xd01
        clear wm1 pm1 tm1 qm1
        clear wm2 pm2 tm2 qm2
        go_upto_region 8 with (fail)
        obtain ⟨d1, ed1, qd1, rd1⟩ : ∃ d : Nat, (((u : Int) % 10000 / 100 : Int) = (d : Int)) ∧ d = u % 10000 / 100 ∧ d < 100 := ⟨u % 10000 / 100, by omega, rfl, by omega⟩
        rw [ed1]
        replace ed1 := Aside0.mk ed1
        replace qd1 := Aside0.mk qd1
        have pd10 := eq_true (show (0 : Int) ≤ (d1 : Int) * 2 by omega)
        have pd11 := eq_true (show (0 : Int) ≤ (d1 : Int) * 2 + 1 by omega)
        have pd12 := eq_true (show (d1 : Int) * 2 < 200 by omega)
        have pd13 := eq_true (show (d1 : Int) * 2 + 1 < 200 by omega)
        have wd11 : IntKind.u32.wrap ((d1 : Int) * 2 + 1) = (d1 : Int) * 2 + 1 := by rw [IntKind.wrap_u32]; omega
        have xd10 := bt_at smalls ((d1 : Int) * 2)
        have xd11 := bt_at smalls ((d1 : Int) * 2 + 1)
        have wm3 : wrap64 ((m : Int) - 3) = (m : Int) - 3 := by unfold wrap64; omega
        have pm3 : ((3 : Int) ≤ (m : Int)) = True := eq_true (by omega)
        have tm3 : ((m : Int) - 3).toNat = m - 3 := by omega
        have qm3 : ((m : Int) - 3 < (nd : Int)) = True := eq_true (by omega)
        have wm4 : wrap64 ((m : Int) - 4) = (m : Int) - 4 := by unfold wrap64; omega
        have pm4 : ((4 : Int) ≤ (m : Int)) = True := eq_true (by omega)
        have tm4 : ((m : Int) - 4).toNat = m - 4 := by omega
        have qm4 : ((m : Int) - 4 < (nd : Int)) = True := eq_true (by omega)
        refine start_ (n := 15) (S := fun _ => True) (ds := [12, 14]) #[false, false, false, false, false, false, false, false, false, false, false, false, false, false, false] (by kernel_rfl) rfl rfl trivial (fun hHeld => ?_); refine with_tab fb.tab8 (fun HT_ => ?_)
        have HBd := Aside0.mk (Buf.drew HB.out)
        have HKd := Aside0.mk (KB.drew HK.out)
        clear HB HK
        generalize World.drew _ = wd at HBd HKd ⊢
        refine pure_ (i := 0) (N := (some 55)) (v := ?_) (a' := ?_) #[true, false, false, false, false, false, false, false, false, false, false, false, false, false, false] rfl rfl (any_of HT_.out (by kernel_rfl)) (fun _ _ _ h => h) (Or.inl ⟨by rfl, ?_⟩) ?_ ?_
        rotate_left
        · intro w'
          go_simp
          with_reducible rfl
        rotate_left
        · simp only [Act.put, List.setIfInBounds_toArray, List.set_cons_zero, List.set_cons_succ, i64_w, i32_w]
          rfl
        refine pure_ (i := 1) (N := (some 56)) (v := ?_) (a' := ?_) #[true, true, false, false, false, false, false, false, false, false, false, false, false, false, false] rfl rfl (any_of HT_.out (by kernel_rfl)) (fun _ _ _ h => h) (Or.inl ⟨by rfl, ?_⟩) ?_ ?_
        rotate_left
        · intro w'
          go_simp
          with_reducible rfl
        rotate_left
        · simp only [Act.put, List.setIfInBounds_toArray, List.set_cons_zero, List.set_cons_succ, i64_w, i32_w]
          rfl
        refine pure_ (i := 2) (N := (some 57)) (v := ?_) (a' := ?_) #[true, true, true, false, false, false, false, false, false, false, false, false, false, false, false] rfl rfl (any_of HT_.out (by kernel_rfl)) (fun _ _ _ h => h) (Or.inl ⟨by rfl, ?_⟩) ?_ ?_
        rotate_left
        · intro w'
          go_simp
          with_reducible rfl
        rotate_left
        · simp only [Act.put, List.setIfInBounds_toArray, List.set_cons_zero, List.set_cons_succ, i64_w, i32_w]
          rfl
        refine pure_ (i := 3) (N := (some 58)) (v := ?_) (a' := ?_) #[true, true, true, true, false, false, false, false, false, false, false, false, false, false, false] rfl rfl (any_of HT_.out (by kernel_rfl)) (fun _ _ _ h => h) (Or.inl ⟨by rfl, ?_⟩) ?_ ?_
        rotate_left
        · intro w'
          go_simp
          with_reducible rfl
        rotate_left
        · simp only [Act.put, List.setIfInBounds_toArray, List.set_cons_zero, List.set_cons_succ, i64_w, i32_w]
          rfl
        refine pure_ (i := 4) (N := (some 59)) (v := ?_) (a' := ?_) #[true, true, true, true, true, false, false, false, false, false, false, false, false, false, false] rfl rfl (any_of HT_.out (by kernel_rfl)) (fun _ _ _ h => h) (Or.inl ⟨by rfl, ?_⟩) ?_ ?_
        rotate_left
        · intro w'
          go_simp
          with_reducible rfl
        rotate_left
        · simp only [Act.put, List.setIfInBounds_toArray, List.set_cons_zero, List.set_cons_succ, i64_w, i32_w]
          rfl
        refine pure_ (i := 5) (N := (some 60)) (v := ?_) (a' := ?_) #[true, true, true, true, true, true, false, false, false, false, false, false, false, false, false] rfl rfl (any_of HT_.out (by kernel_rfl)) (fun _ _ _ h => h) (Or.inl ⟨by rfl, ?_⟩) ?_ ?_
        rotate_left
        · intro w'
          go_simp
          with_reducible rfl
        rotate_left
        · simp only [Act.put, List.setIfInBounds_toArray, List.set_cons_zero, List.set_cons_succ, i64_w, i32_w]
          rfl
        refine pure_ (i := 6) (N := (some 61)) (v := ?_) (a' := ?_) #[true, true, true, true, true, true, true, false, false, false, false, false, false, false, false] rfl rfl (any_of HT_.out (by kernel_rfl)) (fun _ _ _ h => h) (Or.inl ⟨by rfl, ?_⟩) ?_ ?_
        rotate_left
        · intro w'
          go_simp
          with_reducible rfl
        rotate_left
        · simp only [Act.put, List.setIfInBounds_toArray, List.set_cons_zero, List.set_cons_succ, i64_w, i32_w]
          rfl
        refine pure_ (i := 7) (N := (some 62)) (v := ?_) (a' := ?_) #[true, true, true, true, true, true, true, true, false, false, false, false, false, false, false] rfl rfl (any_of HT_.out (by kernel_rfl)) (fun _ _ _ h => h) (Or.inl ⟨by rfl, ?_⟩) ?_ ?_
        rotate_left
        · intro w'
          go_simp
          with_reducible rfl
        rotate_left
        · simp only [Act.put, List.setIfInBounds_toArray, List.set_cons_zero, List.set_cons_succ, i64_w, i32_w]
          rfl
        refine pure_ (i := 8) (N := (some 63)) (v := ?_) (a' := ?_) #[true, true, true, true, true, true, true, true, true, false, false, false, false, false, false] rfl rfl (any_of HT_.out (by kernel_rfl)) (fun _ _ _ h => h) (Or.inl ⟨by rfl, ?_⟩) ?_ ?_
        rotate_left
        · intro w'
          go_simp
          with_reducible rfl
        rotate_left
        · simp only [Act.put, List.setIfInBounds_toArray, List.set_cons_zero, List.set_cons_succ, i64_w, i32_w]
          rfl
        refine pure_ (i := 9) (N := (some 64)) (v := ?_) (a' := ?_) #[true, true, true, true, true, true, true, true, true, true, false, false, false, false, false] rfl rfl (any_of HT_.out (by kernel_rfl)) (fun _ _ _ h => h) (Or.inl ⟨by rfl, ?_⟩) ?_ ?_
        rotate_left
        · intro w'
          go_simp
          with_reducible rfl
        rotate_left
        · simp only [Act.put, List.setIfInBounds_toArray, List.set_cons_zero, List.set_cons_succ, i64_w, i32_w]
          rfl
        refine pure_ (i := 10) (N := (some 65)) (v := ?_) (a' := ?_) #[true, true, true, true, true, true, true, true, true, true, true, false, false, false, false] rfl rfl (any_of HT_.out (by kernel_rfl)) (fun _ _ _ h => h) (Or.inl ⟨by rfl, ?_⟩) ?_ ?_
        rotate_left
        · intro w'
          go_simp
          with_reducible rfl
        rotate_left
        · simp only [Act.put, List.setIfInBounds_toArray, List.set_cons_zero, List.set_cons_succ, i64_w, i32_w]
          rfl
        refine pure_ (i := 11) (N := (some 66)) (v := ?_) (a' := ?_) #[true, true, true, true, true, true, true, true, true, true, true, true, false, false, false] rfl rfl (any_of HT_.out (by kernel_rfl)) (fun _ _ _ h => h) (Or.inl ⟨by rfl, ?_⟩) ?_ ?_
        rotate_left
        · intro w'
          go_simp
          with_reducible rfl
        rotate_left
        · simp only [Act.put, List.setIfInBounds_toArray, List.set_cons_zero, List.set_cons_succ, i64_w, i32_w]
          rfl
        refine last_ (i := 12) (N := none) #[true, true, true, true, true, true, true, true, true, true, true, true, true, false, false] rfl rfl (one_of HT_.out (by kernel_rfl)) (by decide) (fun K hK => ?_)
        have hc_ := Buf.cell HBd.out ((m - 3)) (by omega)
        have hf_ := Buf.frozen HBd.out ((m - 3))
        refine skip_ (by rfl) rfl (w1 := ?_) ?_ ?_
        rotate_left
        · go_simp
          with_reducible rfl
        clear hc_ hf_
        have HBe := Aside0.mk (Buf.set_ (i := (m - 3)) HBd.out (bt smalls ((d1 : Int) * 2 + 1)))
        have HKe := Aside0.mk (KB.set_ HKd.out ((m - 3)) (Value.int .u8 (bt smalls ((d1 : Int) * 2 + 1))))
        clear HBd HKd
        refine hK.out _ _ ?_
        clear hK K
        have HBd := HBe
        have HKd := HKe
        clear HBe HKe
        generalize World.setCell _ _ _ = we at HBd HKd ⊢
        refine pure_ (i := 13) (N := (some 67)) (v := ?_) (a' := ?_) #[true, true, true, true, true, true, true, true, true, true, true, true, true, true, false] rfl rfl (any_of HT_.out (by kernel_rfl)) (fun _ _ _ h => h) (Or.inl ⟨by rfl, ?_⟩) ?_ ?_
        rotate_left
        · intro w'
          go_simp
          with_reducible rfl
        rotate_left
        · simp only [Act.put, List.setIfInBounds_toArray, List.set_cons_zero, List.set_cons_succ, i64_w, i32_w]
          rfl
        refine last_ (i := 14) (N := none) #[true, true, true, true, true, true, true, true, true, true, true, true, true, true, true] rfl rfl (one_of HT_.out (by kernel_rfl)) (by decide) (fun K hK => ?_)
        have hc_ := Buf.cell HBd.out ((m - 4)) (by omega)
        have hf_ := Buf.frozen HBd.out ((m - 4))
        refine skip_ (by rfl) rfl (w1 := ?_) ?_ ?_
        rotate_left
        · go_simp
          with_reducible rfl
        clear hc_ hf_
        have HBe := Aside0.mk (Buf.set_ (i := (m - 4)) HBd.out (bt smalls ((d1 : Int) * 2)))
        have HKe := Aside0.mk (KB.set_ HKd.out ((m - 4)) (Value.int .u8 (bt smalls ((d1 : Int) * 2))))
        clear HBd HKd
        refine hK.out _ _ ?_
        clear hK K
        have HB := HBe
        have HK := HKe
        clear HBe HKe
        generalize World.setCell _ _ _ = wf at HB HK ⊢
        refine done_ (done_of HT_.out (by kernel_rfl)) ?_
        clear HT_ hHeld
        have HP4 := Aside0.mk (Put.two (d := d1) (i1 := m - 3) (i2 := m - 4) HP2.out (by omega) (by omega) (by omega) (by have := HB.out.2.2; simp only [List.length_set] at this ⊢; omega) (by rw [div_ten U (nd - m) 2 _ (by omega), hu.out, qd1.out]; omega) rd1)
        clear pd10 pd11 pd12 pd13 wd11 xd10 xd11
        clear wm3 pm3 tm3 qm3
        clear wm4 pm4 tm4 qm4
        go_upto_region 9 with (fail)
        obtain ⟨d2, ed2, qd2, rd2⟩ : ∃ d : Nat, (((u : Int) % 100000000 / 10000 % 100 : Int) = (d : Int)) ∧ d = u % 100000000 / 10000 % 100 ∧ d < 100 := ⟨u % 100000000 / 10000 % 100, by omega, rfl, by omega⟩
        rw [ed2]
        replace ed2 := Aside0.mk ed2
        replace qd2 := Aside0.mk qd2
        have pd20 := eq_true (show (0 : Int) ≤ (d2 : Int) * 2 by omega)
        have pd21 := eq_true (show (0 : Int) ≤ (d2 : Int) * 2 + 1 by omega)
        have pd22 := eq_true (show (d2 : Int) * 2 < 200 by omega)
        have pd23 := eq_true (show (d2 : Int) * 2 + 1 < 200 by omega)
        have wd21 : IntKind.u32.wrap ((d2 : Int) * 2 + 1) = (d2 : Int) * 2 + 1 := by rw [IntKind.wrap_u32]; omega
        have xd20 := bt_at smalls ((d2 : Int) * 2)
        have xd21 := bt_at smalls ((d2 : Int) * 2 + 1)
        have wm5 : wrap64 ((m : Int) - 5) = (m : Int) - 5 := by unfold wrap64; omega
        have pm5 : ((5 : Int) ≤ (m : Int)) = True := eq_true (by omega)
        have tm5 : ((m : Int) - 5).toNat = m - 5 := by omega
        have qm5 : ((m : Int) - 5 < (nd : Int)) = True := eq_true (by omega)
        have wm6 : wrap64 ((m : Int) - 6) = (m : Int) - 6 := by unfold wrap64; omega
        have pm6 : ((6 : Int) ≤ (m : Int)) = True := eq_true (by omega)
        have tm6 : ((m : Int) - 6).toNat = m - 6 := by omega
        have qm6 : ((m : Int) - 6 < (nd : Int)) = True := eq_true (by omega)
        refine start_ (n := 15) (S := fun _ => True) (ds := [12, 14]) #[false, false, false, false, false, false, false, false, false, false, false, false, false, false, false] (by kernel_rfl) rfl rfl trivial (fun hHeld => ?_); refine with_tab fb.tab9 (fun HT_ => ?_)
        have HBd := Aside0.mk (Buf.drew HB.out)
        have HKd := Aside0.mk (KB.drew HK.out)
        clear HB HK
        generalize World.drew _ = wd at HBd HKd ⊢
        refine pure_ (i := 0) (N := (some 68)) (v := ?_) (a' := ?_) #[true, false, false, false, false, false, false, false, false, false, false, false, false, false, false] rfl rfl (any_of HT_.out (by kernel_rfl)) (fun _ _ _ h => h) (Or.inl ⟨by rfl, ?_⟩) ?_ ?_
        rotate_left
        · intro w'
          go_simp
          with_reducible rfl
        rotate_left
        · simp only [Act.put, List.setIfInBounds_toArray, List.set_cons_zero, List.set_cons_succ, i64_w, i32_w]
          rfl
        refine pure_ (i := 1) (N := (some 69)) (v := ?_) (a' := ?_) #[true, true, false, false, false, false, false, false, false, false, false, false, false, false, false] rfl rfl (any_of HT_.out (by kernel_rfl)) (fun _ _ _ h => h) (Or.inl ⟨by rfl, ?_⟩) ?_ ?_
        rotate_left
        · intro w'
          go_simp
          with_reducible rfl
        rotate_left
        · simp only [Act.put, List.setIfInBounds_toArray, List.set_cons_zero, List.set_cons_succ, i64_w, i32_w]
          rfl
        refine pure_ (i := 2) (N := (some 70)) (v := ?_) (a' := ?_) #[true, true, true, false, false, false, false, false, false, false, false, false, false, false, false] rfl rfl (any_of HT_.out (by kernel_rfl)) (fun _ _ _ h => h) (Or.inl ⟨by rfl, ?_⟩) ?_ ?_
        rotate_left
        · intro w'
          go_simp
          with_reducible rfl
        rotate_left
        · simp only [Act.put, List.setIfInBounds_toArray, List.set_cons_zero, List.set_cons_succ, i64_w, i32_w]
          rfl
        refine pure_ (i := 3) (N := (some 71)) (v := ?_) (a' := ?_) #[true, true, true, true, false, false, false, false, false, false, false, false, false, false, false] rfl rfl (any_of HT_.out (by kernel_rfl)) (fun _ _ _ h => h) (Or.inl ⟨by rfl, ?_⟩) ?_ ?_
        rotate_left
        · intro w'
          go_simp
          with_reducible rfl
        rotate_left
        · simp only [Act.put, List.setIfInBounds_toArray, List.set_cons_zero, List.set_cons_succ, i64_w, i32_w]
          rfl
        refine pure_ (i := 4) (N := (some 72)) (v := ?_) (a' := ?_) #[true, true, true, true, true, false, false, false, false, false, false, false, false, false, false] rfl rfl (any_of HT_.out (by kernel_rfl)) (fun _ _ _ h => h) (Or.inl ⟨by rfl, ?_⟩) ?_ ?_
        rotate_left
        · intro w'
          go_simp
          with_reducible rfl
        rotate_left
        · simp only [Act.put, List.setIfInBounds_toArray, List.set_cons_zero, List.set_cons_succ, i64_w, i32_w]
          rfl
        refine pure_ (i := 5) (N := (some 73)) (v := ?_) (a' := ?_) #[true, true, true, true, true, true, false, false, false, false, false, false, false, false, false] rfl rfl (any_of HT_.out (by kernel_rfl)) (fun _ _ _ h => h) (Or.inl ⟨by rfl, ?_⟩) ?_ ?_
        rotate_left
        · intro w'
          go_simp
          with_reducible rfl
        rotate_left
        · simp only [Act.put, List.setIfInBounds_toArray, List.set_cons_zero, List.set_cons_succ, i64_w, i32_w]
          rfl
        refine pure_ (i := 6) (N := (some 74)) (v := ?_) (a' := ?_) #[true, true, true, true, true, true, true, false, false, false, false, false, false, false, false] rfl rfl (any_of HT_.out (by kernel_rfl)) (fun _ _ _ h => h) (Or.inl ⟨by rfl, ?_⟩) ?_ ?_
        rotate_left
        · intro w'
          go_simp
          with_reducible rfl
        rotate_left
        · simp only [Act.put, List.setIfInBounds_toArray, List.set_cons_zero, List.set_cons_succ, i64_w, i32_w]
          rfl
        refine pure_ (i := 7) (N := (some 75)) (v := ?_) (a' := ?_) #[true, true, true, true, true, true, true, true, false, false, false, false, false, false, false] rfl rfl (any_of HT_.out (by kernel_rfl)) (fun _ _ _ h => h) (Or.inl ⟨by rfl, ?_⟩) ?_ ?_
        rotate_left
        · intro w'
          go_simp
          with_reducible rfl
        rotate_left
        · simp only [Act.put, List.setIfInBounds_toArray, List.set_cons_zero, List.set_cons_succ, i64_w, i32_w]
          rfl
        refine pure_ (i := 8) (N := (some 76)) (v := ?_) (a' := ?_) #[true, true, true, true, true, true, true, true, true, false, false, false, false, false, false] rfl rfl (any_of HT_.out (by kernel_rfl)) (fun _ _ _ h => h) (Or.inl ⟨by rfl, ?_⟩) ?_ ?_
        rotate_left
        · intro w'
          go_simp
          with_reducible rfl
        rotate_left
        · simp only [Act.put, List.setIfInBounds_toArray, List.set_cons_zero, List.set_cons_succ, i64_w, i32_w]
          rfl
        refine pure_ (i := 9) (N := (some 77)) (v := ?_) (a' := ?_) #[true, true, true, true, true, true, true, true, true, true, false, false, false, false, false] rfl rfl (any_of HT_.out (by kernel_rfl)) (fun _ _ _ h => h) (Or.inl ⟨by rfl, ?_⟩) ?_ ?_
        rotate_left
        · intro w'
          go_simp
          with_reducible rfl
        rotate_left
        · simp only [Act.put, List.setIfInBounds_toArray, List.set_cons_zero, List.set_cons_succ, i64_w, i32_w]
          rfl
        refine pure_ (i := 10) (N := (some 78)) (v := ?_) (a' := ?_) #[true, true, true, true, true, true, true, true, true, true, true, false, false, false, false] rfl rfl (any_of HT_.out (by kernel_rfl)) (fun _ _ _ h => h) (Or.inl ⟨by rfl, ?_⟩) ?_ ?_
        rotate_left
        · intro w'
          go_simp
          with_reducible rfl
        rotate_left
        · simp only [Act.put, List.setIfInBounds_toArray, List.set_cons_zero, List.set_cons_succ, i64_w, i32_w]
          rfl
        refine pure_ (i := 11) (N := (some 79)) (v := ?_) (a' := ?_) #[true, true, true, true, true, true, true, true, true, true, true, true, false, false, false] rfl rfl (any_of HT_.out (by kernel_rfl)) (fun _ _ _ h => h) (Or.inl ⟨by rfl, ?_⟩) ?_ ?_
        rotate_left
        · intro w'
          go_simp
          with_reducible rfl
        rotate_left
        · simp only [Act.put, List.setIfInBounds_toArray, List.set_cons_zero, List.set_cons_succ, i64_w, i32_w]
          rfl
        refine last_ (i := 12) (N := none) #[true, true, true, true, true, true, true, true, true, true, true, true, true, false, false] rfl rfl (one_of HT_.out (by kernel_rfl)) (by decide) (fun K hK => ?_)
        have hc_ := Buf.cell HBd.out ((m - 5)) (by omega)
        have hf_ := Buf.frozen HBd.out ((m - 5))
        refine skip_ (by rfl) rfl (w1 := ?_) ?_ ?_
        rotate_left
        · go_simp
          with_reducible rfl
        clear hc_ hf_
        have HBe := Aside0.mk (Buf.set_ (i := (m - 5)) HBd.out (bt smalls ((d2 : Int) * 2 + 1)))
        have HKe := Aside0.mk (KB.set_ HKd.out ((m - 5)) (Value.int .u8 (bt smalls ((d2 : Int) * 2 + 1))))
        clear HBd HKd
        refine hK.out _ _ ?_
        clear hK K
        have HBd := HBe
        have HKd := HKe
        clear HBe HKe
        generalize World.setCell _ _ _ = we at HBd HKd ⊢
        refine pure_ (i := 13) (N := (some 80)) (v := ?_) (a' := ?_) #[true, true, true, true, true, true, true, true, true, true, true, true, true, true, false] rfl rfl (any_of HT_.out (by kernel_rfl)) (fun _ _ _ h => h) (Or.inl ⟨by rfl, ?_⟩) ?_ ?_
        rotate_left
        · intro w'
          go_simp
          with_reducible rfl
        rotate_left
        · simp only [Act.put, List.setIfInBounds_toArray, List.set_cons_zero, List.set_cons_succ, i64_w, i32_w]
          rfl
        refine last_ (i := 14) (N := none) #[true, true, true, true, true, true, true, true, true, true, true, true, true, true, true] rfl rfl (one_of HT_.out (by kernel_rfl)) (by decide) (fun K hK => ?_)
        have hc_ := Buf.cell HBd.out ((m - 6)) (by omega)
        have hf_ := Buf.frozen HBd.out ((m - 6))
        refine skip_ (by rfl) rfl (w1 := ?_) ?_ ?_
        rotate_left
        · go_simp
          with_reducible rfl
        clear hc_ hf_
        have HBe := Aside0.mk (Buf.set_ (i := (m - 6)) HBd.out (bt smalls ((d2 : Int) * 2)))
        have HKe := Aside0.mk (KB.set_ HKd.out ((m - 6)) (Value.int .u8 (bt smalls ((d2 : Int) * 2))))
        clear HBd HKd
        refine hK.out _ _ ?_
        clear hK K
        have HB := HBe
        have HK := HKe
        clear HBe HKe
        generalize World.setCell _ _ _ = wf at HB HK ⊢
        refine done_ (done_of HT_.out (by kernel_rfl)) ?_
        clear HT_ hHeld
        have HP6 := Aside0.mk (Put.two (d := d2) (i1 := m - 5) (i2 := m - 6) HP4.out (by omega) (by omega) (by omega) (by have := HB.out.2.2; simp only [List.length_set] at this ⊢; omega) (by rw [div_ten U (nd - m) 4 _ (by omega), hu.out, qd2.out]; omega) rd2)
        clear pd20 pd21 pd22 pd23 wd21 xd20 xd21
        clear wm5 pm5 tm5 qm5
        clear wm6 pm6 tm6 qm6
        go_upto_region 10 with (fail)
        obtain ⟨d3, ed3, qd3, rd3⟩ : ∃ d : Nat, (((u : Int) % 100000000 / 10000 / 100 : Int) = (d : Int)) ∧ d = u % 100000000 / 10000 / 100 ∧ d < 100 := ⟨u % 100000000 / 10000 / 100, by omega, rfl, by omega⟩
        rw [ed3]
        replace ed3 := Aside0.mk ed3
        replace qd3 := Aside0.mk qd3
        have pd30 := eq_true (show (0 : Int) ≤ (d3 : Int) * 2 by omega)
        have pd31 := eq_true (show (0 : Int) ≤ (d3 : Int) * 2 + 1 by omega)
        have pd32 := eq_true (show (d3 : Int) * 2 < 200 by omega)
        have pd33 := eq_true (show (d3 : Int) * 2 + 1 < 200 by omega)
        have wd31 : IntKind.u32.wrap ((d3 : Int) * 2 + 1) = (d3 : Int) * 2 + 1 := by rw [IntKind.wrap_u32]; omega
        have xd30 := bt_at smalls ((d3 : Int) * 2)
        have xd31 := bt_at smalls ((d3 : Int) * 2 + 1)
        have wm7 : wrap64 ((m : Int) - 7) = (m : Int) - 7 := by unfold wrap64; omega
        have pm7 : ((7 : Int) ≤ (m : Int)) = True := eq_true (by omega)
        have tm7 : ((m : Int) - 7).toNat = m - 7 := by omega
        have qm7 : ((m : Int) - 7 < (nd : Int)) = True := eq_true (by omega)
        have wm8 : wrap64 ((m : Int) - 8) = (m : Int) - 8 := by unfold wrap64; omega
        have pm8 : ((8 : Int) ≤ (m : Int)) = True := eq_true (by omega)
        have tm8 : ((m : Int) - 8).toNat = m - 8 := by omega
        have qm8 : ((m : Int) - 8 < (nd : Int)) = True := eq_true (by omega)
        refine start_ (n := 15) (S := fun _ => True) (ds := [12, 14]) #[false, false, false, false, false, false, false, false, false, false, false, false, false, false, false] (by kernel_rfl) rfl rfl trivial (fun hHeld => ?_); refine with_tab fb.tab10 (fun HT_ => ?_)
        have HBd := Aside0.mk (Buf.drew HB.out)
        have HKd := Aside0.mk (KB.drew HK.out)
        clear HB HK
        generalize World.drew _ = wd at HBd HKd ⊢
        refine pure_ (i := 0) (N := (some 81)) (v := ?_) (a' := ?_) #[true, false, false, false, false, false, false, false, false, false, false, false, false, false, false] rfl rfl (any_of HT_.out (by kernel_rfl)) (fun _ _ _ h => h) (Or.inl ⟨by rfl, ?_⟩) ?_ ?_
        rotate_left
        · intro w'
          go_simp
          with_reducible rfl
        rotate_left
        · simp only [Act.put, List.setIfInBounds_toArray, List.set_cons_zero, List.set_cons_succ, i64_w, i32_w]
          rfl
        refine pure_ (i := 1) (N := (some 82)) (v := ?_) (a' := ?_) #[true, true, false, false, false, false, false, false, false, false, false, false, false, false, false] rfl rfl (any_of HT_.out (by kernel_rfl)) (fun _ _ _ h => h) (Or.inl ⟨by rfl, ?_⟩) ?_ ?_
        rotate_left
        · intro w'
          go_simp
          with_reducible rfl
        rotate_left
        · simp only [Act.put, List.setIfInBounds_toArray, List.set_cons_zero, List.set_cons_succ, i64_w, i32_w]
          rfl
        refine pure_ (i := 2) (N := (some 83)) (v := ?_) (a' := ?_) #[true, true, true, false, false, false, false, false, false, false, false, false, false, false, false] rfl rfl (any_of HT_.out (by kernel_rfl)) (fun _ _ _ h => h) (Or.inl ⟨by rfl, ?_⟩) ?_ ?_
        rotate_left
        · intro w'
          go_simp
          with_reducible rfl
        rotate_left
        · simp only [Act.put, List.setIfInBounds_toArray, List.set_cons_zero, List.set_cons_succ, i64_w, i32_w]
          rfl
        refine pure_ (i := 3) (N := (some 84)) (v := ?_) (a' := ?_) #[true, true, true, true, false, false, false, false, false, false, false, false, false, false, false] rfl rfl (any_of HT_.out (by kernel_rfl)) (fun _ _ _ h => h) (Or.inl ⟨by rfl, ?_⟩) ?_ ?_
        rotate_left
        · intro w'
          go_simp
          with_reducible rfl
        rotate_left
        · simp only [Act.put, List.setIfInBounds_toArray, List.set_cons_zero, List.set_cons_succ, i64_w, i32_w]
          rfl
        refine pure_ (i := 4) (N := (some 85)) (v := ?_) (a' := ?_) #[true, true, true, true, true, false, false, false, false, false, false, false, false, false, false] rfl rfl (any_of HT_.out (by kernel_rfl)) (fun _ _ _ h => h) (Or.inl ⟨by rfl, ?_⟩) ?_ ?_
        rotate_left
        · intro w'
          go_simp
          with_reducible rfl
        rotate_left
        · simp only [Act.put, List.setIfInBounds_toArray, List.set_cons_zero, List.set_cons_succ, i64_w, i32_w]
          rfl
        refine pure_ (i := 5) (N := (some 86)) (v := ?_) (a' := ?_) #[true, true, true, true, true, true, false, false, false, false, false, false, false, false, false] rfl rfl (any_of HT_.out (by kernel_rfl)) (fun _ _ _ h => h) (Or.inl ⟨by rfl, ?_⟩) ?_ ?_
        rotate_left
        · intro w'
          go_simp
          with_reducible rfl
        rotate_left
        · simp only [Act.put, List.setIfInBounds_toArray, List.set_cons_zero, List.set_cons_succ, i64_w, i32_w]
          rfl
        refine pure_ (i := 6) (N := (some 87)) (v := ?_) (a' := ?_) #[true, true, true, true, true, true, true, false, false, false, false, false, false, false, false] rfl rfl (any_of HT_.out (by kernel_rfl)) (fun _ _ _ h => h) (Or.inl ⟨by rfl, ?_⟩) ?_ ?_
        rotate_left
        · intro w'
          go_simp
          with_reducible rfl
        rotate_left
        · simp only [Act.put, List.setIfInBounds_toArray, List.set_cons_zero, List.set_cons_succ, i64_w, i32_w]
          rfl
        refine pure_ (i := 7) (N := (some 88)) (v := ?_) (a' := ?_) #[true, true, true, true, true, true, true, true, false, false, false, false, false, false, false] rfl rfl (any_of HT_.out (by kernel_rfl)) (fun _ _ _ h => h) (Or.inl ⟨by rfl, ?_⟩) ?_ ?_
        rotate_left
        · intro w'
          go_simp
          with_reducible rfl
        rotate_left
        · simp only [Act.put, List.setIfInBounds_toArray, List.set_cons_zero, List.set_cons_succ, i64_w, i32_w]
          rfl
        refine pure_ (i := 8) (N := (some 89)) (v := ?_) (a' := ?_) #[true, true, true, true, true, true, true, true, true, false, false, false, false, false, false] rfl rfl (any_of HT_.out (by kernel_rfl)) (fun _ _ _ h => h) (Or.inl ⟨by rfl, ?_⟩) ?_ ?_
        rotate_left
        · intro w'
          go_simp
          with_reducible rfl
        rotate_left
        · simp only [Act.put, List.setIfInBounds_toArray, List.set_cons_zero, List.set_cons_succ, i64_w, i32_w]
          rfl
        refine pure_ (i := 9) (N := (some 90)) (v := ?_) (a' := ?_) #[true, true, true, true, true, true, true, true, true, true, false, false, false, false, false] rfl rfl (any_of HT_.out (by kernel_rfl)) (fun _ _ _ h => h) (Or.inl ⟨by rfl, ?_⟩) ?_ ?_
        rotate_left
        · intro w'
          go_simp
          with_reducible rfl
        rotate_left
        · simp only [Act.put, List.setIfInBounds_toArray, List.set_cons_zero, List.set_cons_succ, i64_w, i32_w]
          rfl
        refine pure_ (i := 10) (N := (some 91)) (v := ?_) (a' := ?_) #[true, true, true, true, true, true, true, true, true, true, true, false, false, false, false] rfl rfl (any_of HT_.out (by kernel_rfl)) (fun _ _ _ h => h) (Or.inl ⟨by rfl, ?_⟩) ?_ ?_
        rotate_left
        · intro w'
          go_simp
          with_reducible rfl
        rotate_left
        · simp only [Act.put, List.setIfInBounds_toArray, List.set_cons_zero, List.set_cons_succ, i64_w, i32_w]
          rfl
        refine pure_ (i := 11) (N := (some 92)) (v := ?_) (a' := ?_) #[true, true, true, true, true, true, true, true, true, true, true, true, false, false, false] rfl rfl (any_of HT_.out (by kernel_rfl)) (fun _ _ _ h => h) (Or.inl ⟨by rfl, ?_⟩) ?_ ?_
        rotate_left
        · intro w'
          go_simp
          with_reducible rfl
        rotate_left
        · simp only [Act.put, List.setIfInBounds_toArray, List.set_cons_zero, List.set_cons_succ, i64_w, i32_w]
          rfl
        refine last_ (i := 12) (N := none) #[true, true, true, true, true, true, true, true, true, true, true, true, true, false, false] rfl rfl (one_of HT_.out (by kernel_rfl)) (by decide) (fun K hK => ?_)
        have hc_ := Buf.cell HBd.out ((m - 7)) (by omega)
        have hf_ := Buf.frozen HBd.out ((m - 7))
        refine skip_ (by rfl) rfl (w1 := ?_) ?_ ?_
        rotate_left
        · go_simp
          with_reducible rfl
        clear hc_ hf_
        have HBe := Aside0.mk (Buf.set_ (i := (m - 7)) HBd.out (bt smalls ((d3 : Int) * 2 + 1)))
        have HKe := Aside0.mk (KB.set_ HKd.out ((m - 7)) (Value.int .u8 (bt smalls ((d3 : Int) * 2 + 1))))
        clear HBd HKd
        refine hK.out _ _ ?_
        clear hK K
        have HBd := HBe
        have HKd := HKe
        clear HBe HKe
        generalize World.setCell _ _ _ = we at HBd HKd ⊢
        refine pure_ (i := 13) (N := (some 93)) (v := ?_) (a' := ?_) #[true, true, true, true, true, true, true, true, true, true, true, true, true, true, false] rfl rfl (any_of HT_.out (by kernel_rfl)) (fun _ _ _ h => h) (Or.inl ⟨by rfl, ?_⟩) ?_ ?_
        rotate_left
        · intro w'
          go_simp
          with_reducible rfl
        rotate_left
        · simp only [Act.put, List.setIfInBounds_toArray, List.set_cons_zero, List.set_cons_succ, i64_w, i32_w]
          rfl
        refine last_ (i := 14) (N := none) #[true, true, true, true, true, true, true, true, true, true, true, true, true, true, true] rfl rfl (one_of HT_.out (by kernel_rfl)) (by decide) (fun K hK => ?_)
        have hc_ := Buf.cell HBd.out ((m - 8)) (by omega)
        have hf_ := Buf.frozen HBd.out ((m - 8))
        refine skip_ (by rfl) rfl (w1 := ?_) ?_ ?_
        rotate_left
        · go_simp
          with_reducible rfl
        clear hc_ hf_
        have HBe := Aside0.mk (Buf.set_ (i := (m - 8)) HBd.out (bt smalls ((d3 : Int) * 2)))
        have HKe := Aside0.mk (KB.set_ HKd.out ((m - 8)) (Value.int .u8 (bt smalls ((d3 : Int) * 2))))
        clear HBd HKd
        refine hK.out _ _ ?_
        clear hK K
        have HB := HBe
        have HK := HKe
        clear HBe HKe
        generalize World.setCell _ _ _ = wf at HB HK ⊢
        refine done_ (done_of HT_.out (by kernel_rfl)) ?_
        clear HT_ hHeld
        have HP8 := Aside0.mk (Put.two (d := d3) (i1 := m - 7) (i2 := m - 8) HP6.out (by omega) (by omega) (by omega) (by have := HB.out.2.2; simp only [List.length_set] at this ⊢; omega) (by rw [div_ten U (nd - m) 6 _ (by omega), hu.out, qd3.out]; omega) rd3)
        clear pd30 pd31 pd32 pd33 wd31 xd30 xd31
        clear wm7 pm7 tm7 qm7
        clear wm8 pm8 tm8 qm8
        go_wp2
        go_roundg k1
        case measure => omega
        case rel => exact ⟨m - 8, _, (by rw [div_ten U (nd - m) 8 _ (by omega), hu.out]; congr 1 <;> omega), (by congr 1; first | omega | (unfold wrap64; omega)), ⟨by omega, by omega, by omega, HP8.out⟩, HB, HK⟩
      · have c1 : decide ((8 : Int) ≤ (m : Int)) = false := decide_eq_false (by omega)
        have hu8 : u < 10 ^ m := by
          rw [← hu.out, Nat.div_lt_iff_lt_mul (Nat.pow_pos (by omega)), ← Nat.pow_add, show m + (nd - m) = nd by omega]; exact HU10.out
        have hu7 : u < 10 ^ 8 := Nat.lt_of_lt_of_le hu8 (Nat.pow_le_pow_right (by omega) (by omega))
        replace hu8 := Aside0.mk hu8
        go_upto_if 99 with (fail)
        go_cut [4, 12] (fun v4 v12 wc => ∃ (m2 : Nat) (l2 : List Int), v4 = .int .i64 (m2 : Int) ∧ v12 = .int .u32 ((U / 10 ^ (nd - m2) : Nat) : Int) ∧ Aside0 (m2 < 4 ∧ m2 ≤ nd ∧ Put U nd m2 l0 l2) ∧ Aside0 (Buf b wc g l2) ∧ Aside0 (KB b g w wc))
        case first =>
          by_cases c4 : 4 ≤ m
          · have c41 : decide ((4 : Int) ≤ (m : Int)) = true := decide_eq_true (by omega)
            go_upto_region 17 with (fail)
            obtain ⟨d0, ed0, qd0, rd0⟩ : ∃ d : Nat, (((u : Int) % 100 : Int) = (d : Int)) ∧ d = u % 100 ∧ d < 100 := ⟨u % 100, by omega, rfl, by omega⟩
            rw [ed0]
            replace ed0 := Aside0.mk ed0
            replace qd0 := Aside0.mk qd0
            have pd00 := eq_true (show (0 : Int) ≤ (d0 : Int) * 2 by omega)
            have pd01 := eq_true (show (0 : Int) ≤ (d0 : Int) * 2 + 1 by omega)
            have pd02 := eq_true (show (d0 : Int) * 2 < 200 by omega)
            have pd03 := eq_true (show (d0 : Int) * 2 + 1 < 200 by omega)
            have wd01 : IntKind.u32.wrap ((d0 : Int) * 2 + 1) = (d0 : Int) * 2 + 1 := by rw [IntKind.wrap_u32]; omega
            have xd00 := bt_at smalls ((d0 : Int) * 2)
            have xd01 := bt_at smalls ((d0 : Int) * 2 + 1)
            have wm1 : wrap64 ((m : Int) - 1) = (m : Int) - 1 := by unfold wrap64; omega
            have pm1 : ((1 : Int) ≤ (m : Int)) = True := eq_true (by omega)
            have tm1 : ((m : Int) - 1).toNat = m - 1 := by omega
            have qm1 : ((m : Int) - 1 < (nd : Int)) = True := eq_true (by omega)
            have wm2 : wrap64 ((m : Int) - 2) = (m : Int) - 2 := by unfold wrap64; omega
            have pm2 : ((2 : Int) ≤ (m : Int)) = True := eq_true (by omega)
            have tm2 : ((m : Int) - 2).toNat = m - 2 := by omega
            have qm2 : ((m : Int) - 2 < (nd : Int)) = True := eq_true (by omega)
            refine start_ (n := 15) (S := fun _ => True) (ds := [12, 14]) #[false, false, false, false, false, false, false, false, false, false, false, false, false, false, false] (by kernel_rfl) rfl rfl trivial (fun hHeld => ?_); refine with_tab fb.tab17 (fun HT_ => ?_)
            have HBd := Aside0.mk (Buf.drew HB.out)
            have HKd := Aside0.mk (KB.drew HK.out)
            clear HB HK
            generalize World.drew _ = wd at HBd HKd ⊢
            refine pure_ (i := 0) (N := (some 110)) (v := ?_) (a' := ?_) #[true, false, false, false, false, false, false, false, false, false, false, false, false, false, false] rfl rfl (any_of HT_.out (by kernel_rfl)) (fun _ _ _ h => h) (Or.inl ⟨by rfl, ?_⟩) ?_ ?_
            rotate_left
            · intro w'
              go_simp
              with_reducible rfl
            rotate_left
            · simp only [Act.put, List.setIfInBounds_toArray, List.set_cons_zero, List.set_cons_succ, i64_w, i32_w]
              rfl
            refine pure_ (i := 1) (N := (some 111)) (v := ?_) (a' := ?_) #[true, true, false, false, false, false, false, false, false, false, false, false, false, false, false] rfl rfl (any_of HT_.out (by kernel_rfl)) (fun _ _ _ h => h) (Or.inl ⟨by rfl, ?_⟩) ?_ ?_
            rotate_left
            · intro w'
              go_simp
              with_reducible rfl
            rotate_left
            · simp only [Act.put, List.setIfInBounds_toArray, List.set_cons_zero, List.set_cons_succ, i64_w, i32_w]
              rfl
            refine pure_ (i := 2) (N := (some 112)) (v := ?_) (a' := ?_) #[true, true, true, false, false, false, false, false, false, false, false, false, false, false, false] rfl rfl (any_of HT_.out (by kernel_rfl)) (fun _ _ _ h => h) (Or.inl ⟨by rfl, ?_⟩) ?_ ?_
            rotate_left
            · intro w'
              go_simp
              with_reducible rfl
            rotate_left
            · simp only [Act.put, List.setIfInBounds_toArray, List.set_cons_zero, List.set_cons_succ, i64_w, i32_w]
              rfl
            refine pure_ (i := 3) (N := (some 113)) (v := ?_) (a' := ?_) #[true, true, true, true, false, false, false, false, false, false, false, false, false, false, false] rfl rfl (any_of HT_.out (by kernel_rfl)) (fun _ _ _ h => h) (Or.inl ⟨by rfl, ?_⟩) ?_ ?_
            rotate_left
            · intro w'
              go_simp
              with_reducible rfl
            rotate_left
            · simp only [Act.put, List.setIfInBounds_toArray, List.set_cons_zero, List.set_cons_succ, i64_w, i32_w]
              rfl
            refine pure_ (i := 4) (N := (some 114)) (v := ?_) (a' := ?_) #[true, true, true, true, true, false, false, false, false, false, false, false, false, false, false] rfl rfl (any_of HT_.out (by kernel_rfl)) (fun _ _ _ h => h) (Or.inl ⟨by rfl, ?_⟩) ?_ ?_
            rotate_left
            · intro w'
              go_simp
              with_reducible rfl
            rotate_left
            · simp only [Act.put, List.setIfInBounds_toArray, List.set_cons_zero, List.set_cons_succ, i64_w, i32_w]
              rfl
            refine pure_ (i := 5) (N := (some 115)) (v := ?_) (a' := ?_) #[true, true, true, true, true, true, false, false, false, false, false, false, false, false, false] rfl rfl (any_of HT_.out (by kernel_rfl)) (fun _ _ _ h => h) (Or.inl ⟨by rfl, ?_⟩) ?_ ?_
            rotate_left
            · intro w'
              go_simp
              with_reducible rfl
            rotate_left
            · simp only [Act.put, List.setIfInBounds_toArray, List.set_cons_zero, List.set_cons_succ, i64_w, i32_w]
              rfl
            refine pure_ (i := 6) (N := (some 116)) (v := ?_) (a' := ?_) #[true, true, true, true, true, true, true, false, false, false, false, false, false, false, false] rfl rfl (any_of HT_.out (by kernel_rfl)) (fun _ _ _ h => h) (Or.inl ⟨by rfl, ?_⟩) ?_ ?_
            rotate_left
            · intro w'
              go_simp
              with_reducible rfl
            rotate_left
            · simp only [Act.put, List.setIfInBounds_toArray, List.set_cons_zero, List.set_cons_succ, i64_w, i32_w]
              rfl
            refine pure_ (i := 7) (N := (some 117)) (v := ?_) (a' := ?_) #[true, true, true, true, true, true, true, true, false, false, false, false, false, false, false] rfl rfl (any_of HT_.out (by kernel_rfl)) (fun _ _ _ h => h) (Or.inl ⟨by rfl, ?_⟩) ?_ ?_
            rotate_left
            · intro w'
              go_simp
              with_reducible rfl
            rotate_left
            · simp only [Act.put, List.setIfInBounds_toArray, List.set_cons_zero, List.set_cons_succ, i64_w, i32_w]
              rfl
            refine pure_ (i := 8) (N := (some 118)) (v := ?_) (a' := ?_) #[true, true, true, true, true, true, true, true, true, false, false, false, false, false, false] rfl rfl (any_of HT_.out (by kernel_rfl)) (fun _ _ _ h => h) (Or.inl ⟨by rfl, ?_⟩) ?_ ?_
            rotate_left
            · intro w'
              go_simp
              with_reducible rfl
            rotate_left
            · simp only [Act.put, List.setIfInBounds_toArray, List.set_cons_zero, List.set_cons_succ, i64_w, i32_w]
              rfl
            refine pure_ (i := 9) (N := (some 119)) (v := ?_) (a' := ?_) #[true, true, true, true, true, true, true, true, true, true, false, false, false, false, false] rfl rfl (any_of HT_.out (by kernel_rfl)) (fun _ _ _ h => h) (Or.inl ⟨by rfl, ?_⟩) ?_ ?_
            rotate_left
            · intro w'
              go_simp
              with_reducible rfl
            rotate_left
            · simp only [Act.put, List.setIfInBounds_toArray, List.set_cons_zero, List.set_cons_succ, i64_w, i32_w]
              rfl
            refine pure_ (i := 10) (N := (some 120)) (v := ?_) (a' := ?_) #[true, true, true, true, true, true, true, true, true, true, true, false, false, false, false] rfl rfl (any_of HT_.out (by kernel_rfl)) (fun _ _ _ h => h) (Or.inl ⟨by rfl, ?_⟩) ?_ ?_
            rotate_left
            · intro w'
              go_simp
              with_reducible rfl
            rotate_left
            · simp only [Act.put, List.setIfInBounds_toArray, List.set_cons_zero, List.set_cons_succ, i64_w, i32_w]
              rfl
            refine pure_ (i := 11) (N := (some 121)) (v := ?_) (a' := ?_) #[true, true, true, true, true, true, true, true, true, true, true, true, false, false, false] rfl rfl (any_of HT_.out (by kernel_rfl)) (fun _ _ _ h => h) (Or.inl ⟨by rfl, ?_⟩) ?_ ?_
            rotate_left
            · intro w'
              go_simp
              with_reducible rfl
            rotate_left
            · simp only [Act.put, List.setIfInBounds_toArray, List.set_cons_zero, List.set_cons_succ, i64_w, i32_w]
              rfl
            refine last_ (i := 12) (N := none) #[true, true, true, true, true, true, true, true, true, true, true, true, true, false, false] rfl rfl (one_of HT_.out (by kernel_rfl)) (by decide) (fun K hK => ?_)
            have hc_ := Buf.cell HBd.out ((m - 1)) (by omega)
            have hf_ := Buf.frozen HBd.out ((m - 1))
            refine skip_ (by rfl) rfl (w1 := ?_) ?_ ?_
            rotate_left
            · go_simp
              with_reducible rfl
            clear hc_ hf_
            have HBe := Aside0.mk (Buf.set_ (i := (m - 1)) HBd.out (bt smalls ((d0 : Int) * 2 + 1)))
            have HKe := Aside0.mk (KB.set_ HKd.out ((m - 1)) (Value.int .u8 (bt smalls ((d0 : Int) * 2 + 1))))
            clear HBd HKd
            refine hK.out _ _ ?_
            clear hK K
            have HBd := HBe
            have HKd := HKe
            clear HBe HKe
            generalize World.setCell _ _ _ = we at HBd HKd ⊢
            refine pure_ (i := 13) (N := (some 122)) (v := ?_) (a' := ?_) #[true, true, true, true, true, true, true, true, true, true, true, true, true, true, false] rfl rfl (any_of HT_.out (by kernel_rfl)) (fun _ _ _ h => h) (Or.inl ⟨by rfl, ?_⟩) ?_ ?_
            rotate_left
            · intro w'
              go_simp
              with_reducible rfl
            rotate_left
            · simp only [Act.put, List.setIfInBounds_toArray, List.set_cons_zero, List.set_cons_succ, i64_w, i32_w]
              rfl
            refine last_ (i := 14) (N := none) #[true, true, true, true, true, true, true, true, true, true, true, true, true, true, true] rfl rfl (one_of HT_.out (by kernel_rfl)) (by decide) (fun K hK => ?_)
            have hc_ := Buf.cell HBd.out ((m - 2)) (by omega)
            have hf_ := Buf.frozen HBd.out ((m - 2))
            refine skip_ (by rfl) rfl (w1 := ?_) ?_ ?_
            rotate_left
            · go_simp
              with_reducible rfl
            clear hc_ hf_
            have HBe := Aside0.mk (Buf.set_ (i := (m - 2)) HBd.out (bt smalls ((d0 : Int) * 2)))
            have HKe := Aside0.mk (KB.set_ HKd.out ((m - 2)) (Value.int .u8 (bt smalls ((d0 : Int) * 2))))
            clear HBd HKd
            refine hK.out _ _ ?_
            clear hK K
            have HB := HBe
            have HK := HKe
            clear HBe HKe
            generalize World.setCell _ _ _ = wf at HB HK ⊢
            refine done_ (done_of HT_.out (by kernel_rfl)) ?_
            clear HT_ hHeld
            have HP2 := Aside0.mk (Put.two (d := d0) (i1 := m - 1) (i2 := m - 2) HP0.out (by omega) (by omega) (by omega) (by have := HB.out.2.2; simp only [List.length_set] at this ⊢; omega) (by rw [div_ten U (nd - m) 0 _ (by omega), hu.out, qd0.out]; omega) rd0)
            clear pd00 pd01 pd02 pd03 wd01 xd00 xd01
            clear wm1 pm1 tm1 qm1
            clear wm2 pm2 tm2 qm2
            go_upto_region 18 with (fail)
            obtain ⟨d1, ed1, qd1, rd1⟩ : ∃ d : Nat, (((u : Int) % 10000 / 100 : Int) = (d : Int)) ∧ d = u % 10000 / 100 ∧ d < 100 := ⟨u % 10000 / 100, by omega, rfl, by omega⟩
            rw [ed1]
            replace ed1 := Aside0.mk ed1
            replace qd1 := Aside0.mk qd1
            have pd10 := eq_true (show (0 : Int) ≤ (d1 : Int) * 2 by omega)
            have pd11 := eq_true (show (0 : Int) ≤ (d1 : Int) * 2 + 1 by omega)
            have pd12 := eq_true (show (d1 : Int) * 2 < 200 by omega)
            have pd13 := eq_true (show (d1 : Int) * 2 + 1 < 200 by omega)
            have wd11 : IntKind.u32.wrap ((d1 : Int) * 2 + 1) = (d1 : Int) * 2 + 1 := by rw [IntKind.wrap_u32]; omega
            have xd10 := bt_at smalls ((d1 : Int) * 2)
            have xd11 := bt_at smalls ((d1 : Int) * 2 + 1)
            have wm3 : wrap64 ((m : Int) - 3) = (m : Int) - 3 := by unfold wrap64; omega
            have pm3 : ((3 : Int) ≤ (m : Int)) = True := eq_true (by omega)
            have tm3 : ((m : Int) - 3).toNat = m - 3 := by omega
            have qm3 : ((m : Int) - 3 < (nd : Int)) = True := eq_true (by omega)
            have wm4 : wrap64 ((m : Int) - 4) = (m : Int) - 4 := by unfold wrap64; omega
            have pm4 : ((4 : Int) ≤ (m : Int)) = True := eq_true (by omega)
            have tm4 : ((m : Int) - 4).toNat = m - 4 := by omega
            have qm4 : ((m : Int) - 4 < (nd : Int)) = True := eq_true (by omega)
            refine start_ (n := 15) (S := fun _ => True) (ds := [12, 14]) #[false, false, false, false, false, false, false, false, false, false, false, false, false, false, false] (by kernel_rfl) rfl rfl trivial (fun hHeld => ?_); refine with_tab fb.tab18 (fun HT_ => ?_)
            have HBd := Aside0.mk (Buf.drew HB.out)
            have HKd := Aside0.mk (KB.drew HK.out)
            clear HB HK
            generalize World.drew _ = wd at HBd HKd ⊢
            refine pure_ (i := 0) (N := (some 123)) (v := ?_) (a' := ?_) #[true, false, false, false, false, false, false, false, false, false, false, false, false, false, false] rfl rfl (any_of HT_.out (by kernel_rfl)) (fun _ _ _ h => h) (Or.inl ⟨by rfl, ?_⟩) ?_ ?_
            rotate_left
            · intro w'
              go_simp
              with_reducible rfl
            rotate_left
            · simp only [Act.put, List.setIfInBounds_toArray, List.set_cons_zero, List.set_cons_succ, i64_w, i32_w]
              rfl
            refine pure_ (i := 1) (N := (some 124)) (v := ?_) (a' := ?_) #[true, true, false, false, false, false, false, false, false, false, false, false, false, false, false] rfl rfl (any_of HT_.out (by kernel_rfl)) (fun _ _ _ h => h) (Or.inl ⟨by rfl, ?_⟩) ?_ ?_
            rotate_left
            · intro w'
              go_simp
              with_reducible rfl
            rotate_left
            · simp only [Act.put, List.setIfInBounds_toArray, List.set_cons_zero, List.set_cons_succ, i64_w, i32_w]
              rfl
            refine pure_ (i := 2) (N := (some 125)) (v := ?_) (a' := ?_) #[true, true, true, false, false, false, false, false, false, false, false, false, false, false, false] rfl rfl (any_of HT_.out (by kernel_rfl)) (fun _ _ _ h => h) (Or.inl ⟨by rfl, ?_⟩) ?_ ?_
            rotate_left
            · intro w'
              go_simp
              with_reducible rfl
            rotate_left
            · simp only [Act.put, List.setIfInBounds_toArray, List.set_cons_zero, List.set_cons_succ, i64_w, i32_w]
              rfl
            refine pure_ (i := 3) (N := (some 126)) (v := ?_) (a' := ?_) #[true, true, true, true, false, false, false, false, false, false, false, false, false, false, false] rfl rfl (any_of HT_.out (by kernel_rfl)) (fun _ _ _ h => h) (Or.inl ⟨by rfl, ?_⟩) ?_ ?_
            rotate_left
            · intro w'
              go_simp
              with_reducible rfl
            rotate_left
            · simp only [Act.put, List.setIfInBounds_toArray, List.set_cons_zero, List.set_cons_succ, i64_w, i32_w]
              rfl
            refine pure_ (i := 4) (N := (some 127)) (v := ?_) (a' := ?_) #[true, true, true, true, true, false, false, false, false, false, false, false, false, false, false] rfl rfl (any_of HT_.out (by kernel_rfl)) (fun _ _ _ h => h) (Or.inl ⟨by rfl, ?_⟩) ?_ ?_
            rotate_left
            · intro w'
              go_simp
              with_reducible rfl
            rotate_left
            · simp only [Act.put, List.setIfInBounds_toArray, List.set_cons_zero, List.set_cons_succ, i64_w, i32_w]
              rfl
            refine pure_ (i := 5) (N := (some 128)) (v := ?_) (a' := ?_) #[true, true, true, true, true, true, false, false, false, false, false, false, false, false, false] rfl rfl (any_of HT_.out (by kernel_rfl)) (fun _ _ _ h => h) (Or.inl ⟨by rfl, ?_⟩) ?_ ?_
            rotate_left
            · intro w'
              go_simp
              with_reducible rfl
            rotate_left
            · simp only [Act.put, List.setIfInBounds_toArray, List.set_cons_zero, List.set_cons_succ, i64_w, i32_w]
              rfl
            refine pure_ (i := 6) (N := (some 129)) (v := ?_) (a' := ?_) #[true, true, true, true, true, true, true, false, false, false, false, false, false, false, false] rfl rfl (any_of HT_.out (by kernel_rfl)) (fun _ _ _ h => h) (Or.inl ⟨by rfl, ?_⟩) ?_ ?_
            rotate_left
            · intro w'
              go_simp
              with_reducible rfl
            rotate_left
            · simp only [Act.put, List.setIfInBounds_toArray, List.set_cons_zero, List.set_cons_succ, i64_w, i32_w]
              rfl
            refine pure_ (i := 7) (N := (some 130)) (v := ?_) (a' := ?_) #[true, true, true, true, true, true, true, true, false, false, false, false, false, false, false] rfl rfl (any_of HT_.out (by kernel_rfl)) (fun _ _ _ h => h) (Or.inl ⟨by rfl, ?_⟩) ?_ ?_
            rotate_left
            · intro w'
              go_simp
              with_reducible rfl
            rotate_left
            · simp only [Act.put, List.setIfInBounds_toArray, List.set_cons_zero, List.set_cons_succ, i64_w, i32_w]
              rfl
            refine pure_ (i := 8) (N := (some 131)) (v := ?_) (a' := ?_) #[true, true, true, true, true, true, true, true, true, false, false, false, false, false, false] rfl rfl (any_of HT_.out (by kernel_rfl)) (fun _ _ _ h => h) (Or.inl ⟨by rfl, ?_⟩) ?_ ?_
            rotate_left
            · intro w'
              go_simp
              with_reducible rfl
            rotate_left
            · simp only [Act.put, List.setIfInBounds_toArray, List.set_cons_zero, List.set_cons_succ, i64_w, i32_w]
              rfl
            refine pure_ (i := 9) (N := (some 132)) (v := ?_) (a' := ?_) #[true, true, true, true, true, true, true, true, true, true, false, false, false, false, false] rfl rfl (any_of HT_.out (by kernel_rfl)) (fun _ _ _ h => h) (Or.inl ⟨by rfl, ?_⟩) ?_ ?_
            rotate_left
            · intro w'
              go_simp
              with_reducible rfl
            rotate_left
            · simp only [Act.put, List.setIfInBounds_toArray, List.set_cons_zero, List.set_cons_succ, i64_w, i32_w]
              rfl
            refine pure_ (i := 10) (N := (some 133)) (v := ?_) (a' := ?_) #[true, true, true, true, true, true, true, true, true, true, true, false, false, false, false] rfl rfl (any_of HT_.out (by kernel_rfl)) (fun _ _ _ h => h) (Or.inl ⟨by rfl, ?_⟩) ?_ ?_
            rotate_left
            · intro w'
              go_simp
              with_reducible rfl
            rotate_left
            · simp only [Act.put, List.setIfInBounds_toArray, List.set_cons_zero, List.set_cons_succ, i64_w, i32_w]
              rfl
            refine pure_ (i := 11) (N := (some 134)) (v := ?_) (a' := ?_) #[true, true, true, true, true, true, true, true, true, true, true, true, false, false, false] rfl rfl (any_of HT_.out (by kernel_rfl)) (fun _ _ _ h => h) (Or.inl ⟨by rfl, ?_⟩) ?_ ?_
            rotate_left
            · intro w'
              go_simp
              with_reducible rfl
            rotate_left
            · simp only [Act.put, List.setIfInBounds_toArray, List.set_cons_zero, List.set_cons_succ, i64_w, i32_w]
              rfl
            refine last_ (i := 12) (N := none) #[true, true, true, true, true, true, true, true, true, true, true, true, true, false, false] rfl rfl (one_of HT_.out (by kernel_rfl)) (by decide) (fun K hK => ?_)
            have hc_ := Buf.cell HBd.out ((m - 3)) (by omega)
            have hf_ := Buf.frozen HBd.out ((m - 3))
            refine skip_ (by rfl) rfl (w1 := ?_) ?_ ?_
            rotate_left
            · go_simp
              with_reducible rfl
            clear hc_ hf_
            have HBe := Aside0.mk (Buf.set_ (i := (m - 3)) HBd.out (bt smalls ((d1 : Int) * 2 + 1)))
            have HKe := Aside0.mk (KB.set_ HKd.out ((m - 3)) (Value.int .u8 (bt smalls ((d1 : Int) * 2 + 1))))
            clear HBd HKd
            refine hK.out _ _ ?_
            clear hK K
            have HBd := HBe
            have HKd := HKe
            clear HBe HKe
            generalize World.setCell _ _ _ = we at HBd HKd ⊢
            refine pure_ (i := 13) (N := (some 135)) (v := ?_) (a' := ?_) #[true, true, true, true, true, true, true, true, true, true, true, true, true, true, false] rfl rfl (any_of HT_.out (by kernel_rfl)) (fun _ _ _ h => h) (Or.inl ⟨by rfl, ?_⟩) ?_ ?_
            rotate_left
            · intro w'
              go_simp
              with_reducible rfl
            rotate_left
            · simp only [Act.put, List.setIfInBounds_toArray, List.set_cons_zero, List.set_cons_succ, i64_w, i32_w]
              rfl
            refine last_ (i := 14) (N := none) #[true, true, true, true, true, true, true, true, true, true, true, true, true, true, true] rfl rfl (one_of HT_.out (by kernel_rfl)) (by decide) (fun K hK => ?_)
            have hc_ := Buf.cell HBd.out ((m - 4)) (by omega)
            have hf_ := Buf.frozen HBd.out ((m - 4))
            refine skip_ (by rfl) rfl (w1 := ?_) ?_ ?_
            rotate_left
            · go_simp
              with_reducible rfl
            clear hc_ hf_
            have HBe := Aside0.mk (Buf.set_ (i := (m - 4)) HBd.out (bt smalls ((d1 : Int) * 2)))
            have HKe := Aside0.mk (KB.set_ HKd.out ((m - 4)) (Value.int .u8 (bt smalls ((d1 : Int) * 2))))
            clear HBd HKd
            refine hK.out _ _ ?_
            clear hK K
            have HB := HBe
            have HK := HKe
            clear HBe HKe
            generalize World.setCell _ _ _ = wf at HB HK ⊢
            refine done_ (done_of HT_.out (by kernel_rfl)) ?_
            clear HT_ hHeld
            have HP4 := Aside0.mk (Put.two (d := d1) (i1 := m - 3) (i2 := m - 4) HP2.out (by omega) (by omega) (by omega) (by have := HB.out.2.2; simp only [List.length_set] at this ⊢; omega) (by rw [div_ten U (nd - m) 2 _ (by omega), hu.out, qd1.out]; omega) rd1)
            clear pd10 pd11 pd12 pd13 wd11 xd10 xd11
            clear wm3 pm3 tm3 qm3
            clear wm4 pm4 tm4 qm4
            go_wp2
            go_meet
            case rel => exact ⟨m - 4, _, (by congr 1; first | omega | (unfold wrap64; omega)), (by rw [div_ten U (nd - m) 4 _ (by omega), hu.out]; congr 1 <;> omega), ⟨by omega, by omega, HP4.out⟩, HB, HK⟩
          · have c41 : decide ((4 : Int) ≤ (m : Int)) = false := decide_eq_false (by omega)
            go_wp2
            go_meet
            case rel => exact ⟨m, l, rfl, (by rw [hu.out]), ⟨by omega, by omega, HP0.out⟩, HB, HK⟩
        case rest =>
          clear HB HK HP0 hu hu8 hu7 hu64 c c1 hm hm8 hk3
          obtain ⟨m2, l2, rfl, rfl, HA, HB, HK⟩ := hcut
          obtain ⟨hm4, hm, HP0⟩ := HA.out
          replace HP0 := Aside0.mk HP0
          clear HA
          obtain ⟨u2, hu⟩ : ∃ u : Nat, U / 10 ^ (nd - m2) = u := ⟨_, rfl⟩
          rw [hu]
          have hu8 : u2 < 10 ^ m2 := by
            rw [← hu, Nat.div_lt_iff_lt_mul (Nat.pow_pos (by omega)), ← Nat.pow_add, show m2 + (nd - m2) = nd by omega]; exact HU10.out
          have hu7 : u2 < 10 ^ 4 := Nat.lt_of_lt_of_le hu8 (Nat.pow_le_pow_right (by omega) (by omega))
          replace hu := Aside0.mk hu
          replace hu8 := Aside0.mk hu8
          go_upto_if 139 with (fail)
          go_cut [4, 12] (fun v4 v12 wc => ∃ (m3 : Nat) (l2 : List Int), v4 = .int .i64 (m3 : Int) ∧ v12 = .int .u32 ((U / 10 ^ (nd - m3) : Nat) : Int) ∧ Aside0 (m3 < 2 ∧ m3 ≤ nd ∧ Put U nd m3 l0 l2) ∧ Aside0 (Buf b wc g l2) ∧ Aside0 (KB b g w wc))
          case first =>
            by_cases c4 : 2 ≤ m2
            · have c41 : decide ((2 : Int) ≤ (m2 : Int)) = true := decide_eq_true (by omega)
              go_upto_region 23 with (fail)
              obtain ⟨d0, ed0, qd0, rd0⟩ : ∃ d : Nat, (((u2 : Int) % 100 : Int) = (d : Int)) ∧ d = u2 % 100 ∧ d < 100 := ⟨u2 % 100, by omega, rfl, by omega⟩
              rw [ed0]
              replace ed0 := Aside0.mk ed0
              replace qd0 := Aside0.mk qd0
              have pd00 := eq_true (show (0 : Int) ≤ (d0 : Int) * 2 by omega)
              have pd01 := eq_true (show (0 : Int) ≤ (d0 : Int) * 2 + 1 by omega)
              have pd02 := eq_true (show (d0 : Int) * 2 < 200 by omega)
              have pd03 := eq_true (show (d0 : Int) * 2 + 1 < 200 by omega)
              have wd01 : IntKind.u32.wrap ((d0 : Int) * 2 + 1) = (d0 : Int) * 2 + 1 := by rw [IntKind.wrap_u32]; omega
              have xd00 := bt_at smalls ((d0 : Int) * 2)
              have xd01 := bt_at smalls ((d0 : Int) * 2 + 1)
              have wm1 : wrap64 ((m2 : Int) - 1) = (m2 : Int) - 1 := by unfold wrap64; omega
              have pm1 : ((1 : Int) ≤ (m2 : Int)) = True := eq_true (by omega)
              have tm1 : ((m2 : Int) - 1).toNat = m2 - 1 := by omega
              have qm1 : ((m2 : Int) - 1 < (nd : Int)) = True := eq_true (by omega)
              have wm2 : wrap64 ((m2 : Int) - 2) = (m2 : Int) - 2 := by unfold wrap64; omega
              have pm2 : ((2 : Int) ≤ (m2 : Int)) = True := eq_true (by omega)
              have tm2 : ((m2 : Int) - 2).toNat = m2 - 2 := by omega
              have qm2 : ((m2 : Int) - 2 < (nd : Int)) = True := eq_true (by omega)
              refine start_ (n := 15) (S := fun _ => True) (ds := [12, 14]) #[false, false, false, false, false, false, false, false, false, false, false, false, false, false, false] (by kernel_rfl) rfl rfl trivial (fun hHeld => ?_); refine with_tab fb.tab23 (fun HT_ => ?_)
              have HBd := Aside0.mk (Buf.drew HB.out)
              have HKd := Aside0.mk (KB.drew HK.out)
              clear HB HK
              generalize World.drew _ = wd at HBd HKd ⊢
              refine pure_ (i := 0) (N := (some 145)) (v := ?_) (a' := ?_) #[true, false, false, false, false, false, false, false, false, false, false, false, false, false, false] rfl rfl (any_of HT_.out (by kernel_rfl)) (fun _ _ _ h => h) (Or.inl ⟨by rfl, ?_⟩) ?_ ?_
              rotate_left
              · intro w'
                go_simp
                with_reducible rfl
              rotate_left
              · simp only [Act.put, List.setIfInBounds_toArray, List.set_cons_zero, List.set_cons_succ, i64_w, i32_w]
                rfl
              refine pure_ (i := 1) (N := (some 146)) (v := ?_) (a' := ?_) #[true, true, false, false, false, false, false, false, false, false, false, false, false, false, false] rfl rfl (any_of HT_.out (by kernel_rfl)) (fun _ _ _ h => h) (Or.inl ⟨by rfl, ?_⟩) ?_ ?_
              rotate_left
              · intro w'
                go_simp
                with_reducible rfl
              rotate_left
              · simp only [Act.put, List.setIfInBounds_toArray, List.set_cons_zero, List.set_cons_succ, i64_w, i32_w]
                rfl
              refine pure_ (i := 2) (N := (some 147)) (v := ?_) (a' := ?_) #[true, true, true, false, false, false, false, false, false, false, false, false, false, false, false] rfl rfl (any_of HT_.out (by kernel_rfl)) (fun _ _ _ h => h) (Or.inl ⟨by rfl, ?_⟩) ?_ ?_
              rotate_left
              · intro w'
                go_simp
                with_reducible rfl
              rotate_left
              · simp only [Act.put, List.setIfInBounds_toArray, List.set_cons_zero, List.set_cons_succ, i64_w, i32_w]
                rfl
              refine pure_ (i := 3) (N := (some 148)) (v := ?_) (a' := ?_) #[true, true, true, true, false, false, false, false, false, false, false, false, false, false, false] rfl rfl (any_of HT_.out (by kernel_rfl)) (fun _ _ _ h => h) (Or.inl ⟨by rfl, ?_⟩) ?_ ?_
              rotate_left
              · intro w'
                go_simp
                with_reducible rfl
              rotate_left
              · simp only [Act.put, List.setIfInBounds_toArray, List.set_cons_zero, List.set_cons_succ, i64_w, i32_w]
                rfl
              refine pure_ (i := 4) (N := (some 149)) (v := ?_) (a' := ?_) #[true, true, true, true, true, false, false, false, false, false, false, false, false, false, false] rfl rfl (any_of HT_.out (by kernel_rfl)) (fun _ _ _ h => h) (Or.inl ⟨by rfl, ?_⟩) ?_ ?_
              rotate_left
              · intro w'
                go_simp
                with_reducible rfl
              rotate_left
              · simp only [Act.put, List.setIfInBounds_toArray, List.set_cons_zero, List.set_cons_succ, i64_w, i32_w]
                rfl
              refine pure_ (i := 5) (N := (some 150)) (v := ?_) (a' := ?_) #[true, true, true, true, true, true, false, false, false, false, false, false, false, false, false] rfl rfl (any_of HT_.out (by kernel_rfl)) (fun _ _ _ h => h) (Or.inl ⟨by rfl, ?_⟩) ?_ ?_
              rotate_left
              · intro w'
                go_simp
                with_reducible rfl
              rotate_left
              · simp only [Act.put, List.setIfInBounds_toArray, List.set_cons_zero, List.set_cons_succ, i64_w, i32_w]
                rfl
              refine pure_ (i := 6) (N := (some 151)) (v := ?_) (a' := ?_) #[true, true, true, true, true, true, true, false, false, false, false, false, false, false, false] rfl rfl (any_of HT_.out (by kernel_rfl)) (fun _ _ _ h => h) (Or.inl ⟨by rfl, ?_⟩) ?_ ?_
              rotate_left
              · intro w'
                go_simp
                with_reducible rfl
              rotate_left
              · simp only [Act.put, List.setIfInBounds_toArray, List.set_cons_zero, List.set_cons_succ, i64_w, i32_w]
                rfl
              refine pure_ (i := 7) (N := (some 152)) (v := ?_) (a' := ?_) #[true, true, true, true, true, true, true, true, false, false, false, false, false, false, false] rfl rfl (any_of HT_.out (by kernel_rfl)) (fun _ _ _ h => h) (Or.inl ⟨by rfl, ?_⟩) ?_ ?_
              rotate_left
              · intro w'
                go_simp
                with_reducible rfl
              rotate_left
              · simp only [Act.put, List.setIfInBounds_toArray, List.set_cons_zero, List.set_cons_succ, i64_w, i32_w]
                rfl
              refine pure_ (i := 8) (N := (some 153)) (v := ?_) (a' := ?_) #[true, true, true, true, true, true, true, true, true, false, false, false, false, false, false] rfl rfl (any_of HT_.out (by kernel_rfl)) (fun _ _ _ h => h) (Or.inl ⟨by rfl, ?_⟩) ?_ ?_
              rotate_left
              · intro w'
                go_simp
                with_reducible rfl
              rotate_left
              · simp only [Act.put, List.setIfInBounds_toArray, List.set_cons_zero, List.set_cons_succ, i64_w, i32_w]
                rfl
              refine pure_ (i := 9) (N := (some 154)) (v := ?_) (a' := ?_) #[true, true, true, true, true, true, true, true, true, true, false, false, false, false, false] rfl rfl (any_of HT_.out (by kernel_rfl)) (fun _ _ _ h => h) (Or.inl ⟨by rfl, ?_⟩) ?_ ?_
              rotate_left
              · intro w'
                go_simp
                with_reducible rfl
              rotate_left
              · simp only [Act.put, List.setIfInBounds_toArray, List.set_cons_zero, List.set_cons_succ, i64_w, i32_w]
                rfl
              refine pure_ (i := 10) (N := (some 155)) (v := ?_) (a' := ?_) #[true, true, true, true, true, true, true, true, true, true, true, false, false, false, false] rfl rfl (any_of HT_.out (by kernel_rfl)) (fun _ _ _ h => h) (Or.inl ⟨by rfl, ?_⟩) ?_ ?_
              rotate_left
              · intro w'
                go_simp
                with_reducible rfl
              rotate_left
              · simp only [Act.put, List.setIfInBounds_toArray, List.set_cons_zero, List.set_cons_succ, i64_w, i32_w]
                rfl
              refine pure_ (i := 11) (N := (some 156)) (v := ?_) (a' := ?_) #[true, true, true, true, true, true, true, true, true, true, true, true, false, false, false] rfl rfl (any_of HT_.out (by kernel_rfl)) (fun _ _ _ h => h) (Or.inl ⟨by rfl, ?_⟩) ?_ ?_
              rotate_left
              · intro w'
                go_simp
                with_reducible rfl
              rotate_left
              · simp only [Act.put, List.setIfInBounds_toArray, List.set_cons_zero, List.set_cons_succ, i64_w, i32_w]
                rfl
              refine last_ (i := 12) (N := none) #[true, true, true, true, true, true, true, true, true, true, true, true, true, false, false] rfl rfl (one_of HT_.out (by kernel_rfl)) (by decide) (fun K hK => ?_)
              have hc_ := Buf.cell HBd.out ((m2 - 1)) (by omega)
              have hf_ := Buf.frozen HBd.out ((m2 - 1))
              refine skip_ (by rfl) rfl (w1 := ?_) ?_ ?_
              rotate_left
              · go_simp
                with_reducible rfl
              clear hc_ hf_
              have HBe := Aside0.mk (Buf.set_ (i := (m2 - 1)) HBd.out (bt smalls ((d0 : Int) * 2 + 1)))
              have HKe := Aside0.mk (KB.set_ HKd.out ((m2 - 1)) (Value.int .u8 (bt smalls ((d0 : Int) * 2 + 1))))
              clear HBd HKd
              refine hK.out _ _ ?_
              clear hK K
              have HBd := HBe
              have HKd := HKe
              clear HBe HKe
              generalize World.setCell _ _ _ = we at HBd HKd ⊢
              refine pure_ (i := 13) (N := (some 157)) (v := ?_) (a' := ?_) #[true, true, true, true, true, true, true, true, true, true, true, true, true, true, false] rfl rfl (any_of HT_.out (by kernel_rfl)) (fun _ _ _ h => h) (Or.inl ⟨by rfl, ?_⟩) ?_ ?_
              rotate_left
              · intro w'
                go_simp
                with_reducible rfl
              rotate_left
              · simp only [Act.put, List.setIfInBounds_toArray, List.set_cons_zero, List.set_cons_succ, i64_w, i32_w]
                rfl
              refine last_ (i := 14) (N := none) #[true, true, true, true, true, true, true, true, true, true, true, true, true, true, true] rfl rfl (one_of HT_.out (by kernel_rfl)) (by decide) (fun K hK => ?_)
              have hc_ := Buf.cell HBd.out ((m2 - 2)) (by omega)
              have hf_ := Buf.frozen HBd.out ((m2 - 2))
              refine skip_ (by rfl) rfl (w1 := ?_) ?_ ?_
              rotate_left
              · go_simp
                with_reducible rfl
              clear hc_ hf_
              have HBe := Aside0.mk (Buf.set_ (i := (m2 - 2)) HBd.out (bt smalls ((d0 : Int) * 2)))
              have HKe := Aside0.mk (KB.set_ HKd.out ((m2 - 2)) (Value.int .u8 (bt smalls ((d0 : Int) * 2))))
              clear HBd HKd
              refine hK.out _ _ ?_
              clear hK K
              have HB := HBe
              have HK := HKe
              clear HBe HKe
              generalize World.setCell _ _ _ = wf at HB HK ⊢
              refine done_ (done_of HT_.out (by kernel_rfl)) ?_
              clear HT_ hHeld
              have HP2 := Aside0.mk (Put.two (d := d0) (i1 := m2 - 1) (i2 := m2 - 2) HP0.out (by omega) (by omega) (by omega) (by have := HB.out.2.2; simp only [List.length_set] at this ⊢; omega) (by rw [div_ten U (nd - m2) 0 _ (by omega), hu.out, qd0.out]; omega) rd0)
              clear pd00 pd01 pd02 pd03 wd01 xd00 xd01
              clear wm1 pm1 tm1 qm1
              clear wm2 pm2 tm2 qm2
              go_wp2
              go_meet
              case rel => exact ⟨m2 - 2, _, (by congr 1; first | omega | (unfold wrap64; omega)), (by rw [div_ten U (nd - m2) 2 _ (by omega), hu.out]; congr 1 <;> omega), ⟨by omega, by omega, HP2.out⟩, HB, HK⟩
            · have c41 : decide ((2 : Int) ≤ (m2 : Int)) = false := decide_eq_false (by omega)
              go_wp2
              go_meet
              case rel => exact ⟨m2, l2, rfl, (by rw [hu.out]), ⟨by omega, by omega, HP0.out⟩, HB, HK⟩
          case rest =>
            clear HB HK HP0 hu hu8 hu7 hm hm4
            obtain ⟨m3, l3, rfl, rfl, HA, HB, HK⟩ := hcut
            obtain ⟨hm2, hm, HP0⟩ := HA.out
            replace HP0 := Aside0.mk HP0
            clear HA
            obtain ⟨u3, hu⟩ : ∃ u : Nat, U / 10 ^ (nd - m3) = u := ⟨_, rfl⟩
            rw [hu]
            have hu8 : u3 < 10 ^ m3 := by
              rw [← hu, Nat.div_lt_iff_lt_mul (Nat.pow_pos (by omega)), ← Nat.pow_add, show m3 + (nd - m3) = nd by omega]; exact HU10.out
            have hu7 : u3 < 10 ^ 2 := Nat.lt_of_lt_of_le hu8 (Nat.pow_le_pow_right (by omega) (by omega))
            replace hu := Aside0.mk hu
            replace hu8 := Aside0.mk hu8
            by_cases c4 : 0 < m3
            · have c41 : decide ((0 : Int) < (m3 : Int)) = true := decide_eq_true (by omega)
              have hcc := Buf.cell HB.out 0 (by omega)
              have hff := Buf.frozen HB.out 0
              have pn : ((0 : Int) < (nd : Int)) = True := eq_true (by omega)
              have pn2 : (0 < nd) = True := eq_true (by omega)
              have h10 : u3 < 10 := by have := hu8.out; rw [show m3 = 1 by omega] at this; simpa using this
              go_wp2
              refine bodyPost_end (v := .tuple #[]) (results_none rfl _ _ _) rfl ⟨rfl, _, Buf.set_ HB.out _, Put.one (i := 0) HP0.out (by omega) (by omega) (by have := HB.out.2.2; omega) ?_, KB.set_ HK.out _ _⟩
              rw [hu.out]; try simp only [IntKind.wrap_u32, IntKind.wrap_u8]
              omega
            · have c41 : decide ((0 : Int) < (m3 : Int)) = false := decide_eq_false (by omega)
              go_wp2
              refine bodyPost_end (v := .tuple #[]) (results_none rfl _ _ _) rfl ⟨rfl, l3, HB.out, ?_, HK.out⟩
              have := HP0.out; rw [show m3 = 0 by omega] at this; exact this
end Go.Proofs.YthbmfhkpkkgdnaaGreatDoor.Q

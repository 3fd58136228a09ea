/- Small words of the squeezed texts: a fact that a fixed tactic block shows (its default argument). Written by squeeze.py. -/
import Derived.KernelRfl
import Derived.Test.YtnejkimpkaopoaaGreatDoorX0
section
namespace Go.Proofs.YtnejkimpkaopoaaGreatDoor.Q
theorem oI {p : Prop} (h : p := by repeat (first | (with_reducible first | exact HI0.out | apply IsS152.alloc | apply IsS152.drewN | apply IsS152.drew | apply IsS152.set_0 | apply IsS152.set_1) | exact HI0.out)) : p := h
theorem oI1 {q0 p : Prop} (a0 : q0) (h : q0 → p := by intro h0_; repeat (first | (with_reducible first | exact HI0.out | apply IsS152.alloc | apply IsS152.drewN | apply IsS152.drew | apply IsS152.set_0 | apply IsS152.set_1 | refine IsS152.far ?_ h0_ _) | exact HI0.out)) : p := h a0
theorem oI2 {q0 q1 p : Prop} (a0 : q0) (a1 : q1) (h : q0 → q1 → p := by intro h0_ h1_; repeat (first | (with_reducible first | exact HI0.out | apply IsS152.alloc | apply IsS152.drewN | apply IsS152.drew | apply IsS152.set_0 | apply IsS152.set_1 | refine IsS152.far ?_ h0_ _ | refine IsS152.far ?_ h1_ _) | exact HI0.out)) : p := h a0 a1
theorem oI3 {q0 q1 q2 p : Prop} (a0 : q0) (a1 : q1) (a2 : q2) (h : q0 → q1 → q2 → p := by intro h0_ h1_ h2_; repeat (first | (with_reducible first | exact HI0.out | apply IsS152.alloc | apply IsS152.drewN | apply IsS152.drew | apply IsS152.set_0 | apply IsS152.set_1 | refine IsS152.far ?_ h0_ _ | refine IsS152.far ?_ h1_ _ | refine IsS152.far ?_ h2_ _) | exact HI0.out)) : p := h a0 a1 a2
theorem oK {p : Prop} (h : p := by repeat (first | (with_reducible first | exact HK.out | apply KeepBut.set_ | apply keep_drewN | apply keep_drew | apply keep_alloc) | exact HK.out)) : p := h
theorem oK1 {q0 p : Prop} (a0 : q0) (h : q0 → p := by intro h0_; repeat (first | (with_reducible first | exact HK.out | apply KeepBut.set_ | apply keep_drewN | apply keep_drew | apply keep_alloc | refine keep_far ?_ h0_ _) | exact HK.out)) : p := h a0
theorem oK2 {q0 q1 p : Prop} (a0 : q0) (a1 : q1) (h : q0 → q1 → p := by intro h0_ h1_; repeat (first | (with_reducible first | exact HK.out | apply KeepBut.set_ | apply keep_drewN | apply keep_drew | apply keep_alloc | refine keep_far ?_ h0_ _ | refine keep_far ?_ h1_ _) | exact HK.out)) : p := h a0 a1
theorem oK3 {q0 q1 q2 p : Prop} (a0 : q0) (a1 : q1) (a2 : q2) (h : q0 → q1 → q2 → p := by intro h0_ h1_ h2_; repeat (first | (with_reducible first | exact HK.out | apply KeepBut.set_ | apply keep_drewN | apply keep_drew | apply keep_alloc | refine keep_far ?_ h0_ _ | refine keep_far ?_ h1_ _ | refine keep_far ?_ h2_ _) | exact HK.out)) : p := h a0 a1 a2
theorem oP {p : Prop} (h : p := by repeat (first | (with_reducible first | exact HK.out | apply Kept.alloc | apply Kept.drewN | apply Kept.drew) | exact HK.out)) : p := h
theorem oP1 {q0 p : Prop} (a0 : q0) (h : q0 → p := by intro h0_; repeat (first | (with_reducible first | exact HK.out | apply Kept.alloc | apply Kept.drewN | apply Kept.drew | refine Kept.setCell ?_ (.inr h0_) _) | exact HK.out)) : p := h a0
theorem oP2 {q0 q1 p : Prop} (a0 : q0) (a1 : q1) (h : q0 → q1 → p := by intro h0_ h1_; repeat (first | (with_reducible first | exact HK.out | apply Kept.alloc | apply Kept.drewN | apply Kept.drew | refine Kept.setCell ?_ (.inr h0_) _ | refine Kept.setCell ?_ (.inr h1_) _) | exact HK.out)) : p := h a0 a1
theorem oP3 {q0 q1 q2 p : Prop} (a0 : q0) (a1 : q1) (a2 : q2) (h : q0 → q1 → q2 → p := by intro h0_ h1_ h2_; repeat (first | (with_reducible first | exact HK.out | apply Kept.alloc | apply Kept.drewN | apply Kept.drew | refine Kept.setCell ?_ (.inr h0_) _ | refine Kept.setCell ?_ (.inr h1_) _ | refine Kept.setCell ?_ (.inr h2_) _) | exact HK.out)) : p := h a0 a1 a2
theorem oG {p : Prop} (h : p := by repeat (first | (with_reducible first | exact HB.out | apply below_alloc | apply pw_below_drewN | apply below_drew1 | refine below_set ?_ (IsS152.ge HI0.out)) | exact HB.out)) : p := h
theorem oG1 {q0 p : Prop} (a0 : q0) (h : q0 → p := by intro h0_; repeat (first | (with_reducible first | exact HB.out | apply below_alloc | apply pw_below_drewN | apply below_drew1 | refine below_set ?_ (IsS152.ge HI0.out) | refine below_set ?_ h0_) | exact HB.out)) : p := h a0
theorem oG2 {q0 q1 p : Prop} (a0 : q0) (a1 : q1) (h : q0 → q1 → p := by intro h0_ h1_; repeat (first | (with_reducible first | exact HB.out | apply below_alloc | apply pw_below_drewN | apply below_drew1 | refine below_set ?_ (IsS152.ge HI0.out) | refine below_set ?_ h0_ | refine below_set ?_ h1_) | exact HB.out)) : p := h a0 a1
theorem oG3 {q0 q1 q2 p : Prop} (a0 : q0) (a1 : q1) (a2 : q2) (h : q0 → q1 → q2 → p := by intro h0_ h1_ h2_; repeat (first | (with_reducible first | exact HB.out | apply below_alloc | apply pw_below_drewN | apply below_drew1 | refine below_set ?_ (IsS152.ge HI0.out) | refine below_set ?_ h0_ | refine below_set ?_ h1_ | refine below_set ?_ h2_) | exact HB.out)) : p := h a0 a1 a2
theorem oB {p : Prop} (h : p := by repeat (first | (with_reducible first | exact HB.out | apply below_alloc | apply pw_below_drewN | apply below_drew1) | exact HB.out)) : p := h
theorem oB1 {q0 p : Prop} (a0 : q0) (h : q0 → p := by intro h0_; repeat (first | (with_reducible first | exact HB.out | apply below_alloc | apply pw_below_drewN | apply below_drew1 | refine below_set ?_ h0_) | exact HB.out)) : p := h a0
theorem oB2 {q0 q1 p : Prop} (a0 : q0) (a1 : q1) (h : q0 → q1 → p := by intro h0_ h1_; repeat (first | (with_reducible first | exact HB.out | apply below_alloc | apply pw_below_drewN | apply below_drew1 | refine below_set ?_ h0_ | refine below_set ?_ h1_) | exact HB.out)) : p := h a0 a1
theorem oB3 {q0 q1 q2 p : Prop} (a0 : q0) (a1 : q1) (a2 : q2) (h : q0 → q1 → q2 → p := by intro h0_ h1_ h2_; repeat (first | (with_reducible first | exact HB.out | apply below_alloc | apply pw_below_drewN | apply below_drew1 | refine below_set ?_ h0_ | refine below_set ?_ h1_ | refine below_set ?_ h2_) | exact HB.out)) : p := h a0 a1 a2
theorem oM {p : Prop} (h : p := by (try simp only [List.map_toArray, List.map_cons, List.map_nil]); first | done | rfl | (simp only [List.length_drop, List.length_take]; rfl)) : p := h
theorem oA {p : Prop} (h : p := by first | (with_reducible assumption) | assumption) : p := h
theorem oS {p : Prop} (h : p := by first | rfl | (simp; done) | (simp [*]; done)) : p := h
theorem oE {p : Prop} (h : p := by first | rfl | (simp [errW_none, errW_some] <;> rfl) | (simp [*, errW_none, errW_some] <;> rfl)) : p := h
theorem oR {q p : Prop} (a : q) (h : q → p := by intro h_; (with_reducible repeat (first | apply Kd.R_alloc | apply Kd.R_drewN | apply Kd.R_drew)); exact h_) : p := h a
theorem oL {q p : Prop} (a : q) (h : q → p := by intro h_; (with_reducible repeat (first | refine blk_drewN ?_ _ | refine blk_drew ?_ | refine blk_alloc ?_ _)); exact h_) : p := h a
theorem oJ {p : Prop} (h : p := by simp only [List.length_append, List.length_cons, List.length_nil]; omega) : p := h
theorem oj {p : Prop} (h : p := by simp only [List.length_append, List.length_cons, List.length_nil]; push_cast; omega) : p := h
theorem om {p : Prop} (h : p := by omega) : p := h
end Go.Proofs.YtnejkimpkaopoaaGreatDoor.Q
end
section
/- Steps of a region whose order is drawn, with what is alike in all of them as default arguments. -/
namespace Go.Proofs.YtnejkimpkaopoaaGreatDoor.Q
open Go.RowKit Go.Proofs.YtnejkimpkaopoaaGreatDoorW.PrintWords Go.Proofs.YtnejkimpkaopoaaGreatDoorW.PrintLast Go.Proofs.YtnejkimpkaopoaaGreatDoorW.PrintMore
theorem Ak {p : Prop} (h : p) : Aside0 p := ⟨h⟩
def mA (n m : Nat) : Array Bool := ((List.range n).map (fun i => m.testBit i)).toArray
section
variable {P : Program} {ops : Array Oper} {Q : Exit → Act → World → Prop} {md : Region.Mode} {S : World → Prop} {ds : List Nat} {oi : Oper} {v : Value} {fuel : Nat} {l : Array Bool} {a a' : Act} {w : World}
theorem zP (i : Nat) (N : Option Tmp) (l' : Array Bool) (h : wpAnyLast P md ops Q S ds fuel l' a' w) (hi : ops[i]? = some oi := by rfl) (hN : oi.dst = N := by rfl) (hc : anyB md ops l l' i = true := by exact any_of HT_.out (by kernel_rfl))
    (hy : Yields P ops oi v a := by exact (Or.inl ⟨by rfl, by (intro w'; go_simp; with_reducible rfl)⟩)) (hQ : ∀ c a w, Q (.panic c) (a.put oi.dst v) w → Q (.panic c) a w := by exact (fun _ _ _ h => h))
    (ha : a.put N v = a' := by (simp only [Act.put, List.setIfInBounds_toArray, List.set_cons_zero, List.set_cons_succ, i64_w, i32_w]; rfl)) : wpAnyLast P md ops Q S ds (fuel + 1) l a w := pure_ l' hi hN hc hQ hy ha h
theorem zT (i : Nat) (N : Option Tmp) (l' : Array Bool) (h : wpAnyLast P md ops Q S ds fuel l' a' w) (hi : ops[i]? = some oi := by rfl) (hN : oi.dst = N := by rfl) (hc : takeB md ops ds l l' i = true := by exact take_ofW HT_.out HW_.out (by kernel_rfl))
    (hy : YieldsIf P ops S oi v a := by exact (Or.inl ⟨by rfl, by (intro w' hs_; repeat (obtain ⟨h_, hs_⟩ := hs_); go_simp; with_reducible rfl)⟩)) (hS : S w := by exact hHeld) (hQ : ∀ c a w, Q (.panic c) (a.put oi.dst v) w → Q (.panic c) a w := by exact (fun _ _ _ h => h))
    (ha : a.put N v = a' := by (simp only [Act.put, List.setIfInBounds_toArray, List.set_cons_zero, List.set_cons_succ, i64_w, i32_w]; rfl)) : wpAnyLast P md ops Q S ds (fuel + 1) l a w := take_ l' hi hN hc hQ hy hS ha h
theorem zO (i : Nat) (N : Option Tmp) (l' : Array Bool) (h : ∀ K : Act → World → Prop, Shut (∀ a' w', S w' → (S w' → wpAnyLast P md ops Q S ds fuel l' a' w') → K a' w') → if Region.wanted oi (yielded ops a.tmps) = true then Oper.wp P oi a w K Q else K (a.put N undef) w)
    (hi : ops[i]? = some oi := by rfl) (hN : oi.dst = N := by rfl) (hc : readyB md ops l l' i = true := by exact one_of HT_.out (by kernel_rfl)) (hd : i ∉ ds := by decide) : wpAnyLast P md ops Q S ds (fuel + 1) l a w := one_ l' hi hN hc hd h
end
end Go.Proofs.YtnejkimpkaopoaaGreatDoor.Q
end

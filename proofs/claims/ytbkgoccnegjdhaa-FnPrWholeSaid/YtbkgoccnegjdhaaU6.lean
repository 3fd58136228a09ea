/- The reference's layout: what it writes of a place that reads as a tree. -/
import Derived.Test.YtbkgoccnegjdhaaU4
import Derived.Test.YtbkgoccnegjdhaaQ12
import Derived.Test.YtbkgoccnegjdhaaQ13
namespace Go.Proofs.Ytbkgoccnegjdhaa.U
open Go.RowKit Go.Proofs.YtbkgoccnegjdhaaW.PrintWords Go.Proofs.Ytbkgoccnegjdhaa.Q
theorem drop_next {α : Type} {xs qs : List α} {p d : α} {i : Int} (h0 : 0 ≤ i) (h : xs.drop i.toNat = p :: qs) : i < xs.length ∧ xs.getD i.toNat d = p ∧ xs.drop (i + 1).toNat = qs := by
  have hlt : i.toNat < xs.length := by
    rcases Nat.lt_or_ge i.toNat xs.length with h1 | h1
    · exact h1
    · rw [List.drop_eq_nil_of_le h1] at h; cases h
  rw [List.drop_eq_getElem_cons hlt] at h
  have h1 := (List.cons.inj h).1
  have h2 := (List.cons.inj h).2
  refine ⟨by omega, ?_, by rw [show (i + 1).toNat = i.toNat + 1 by omega]; exact h2⟩
  rw [List.getD_eq_getElem?_getD, List.getElem?_eq_getElem hlt, ← h1]; rfl
theorem drop_end {α : Type} {xs : List α} {i : Int} (h0 : 0 ≤ i) (h : xs.drop i.toNat = []) : (xs.length : Int) ≤ i := by
  have := List.drop_eq_nil_iff.mp h; omega
theorem bytesOf_app (a b : ByteArray) : bytesOf (a ++ b) = bytesOf a ++ bytesOf b := by
  unfold bytesOf; rw [ByteArray.data_append, Array.toList_append, List.map_append]
theorem RepL.len {s : ByteArray} : ∀ {k : TL} {ps : List S28}, RepL s k ps → ps.length ≤ k.sz
  | .nil, ps, h => by simp only [RepL] at h; subst h; simp
  | .cons t k, ps, h => by
    simp only [RepL] at h; obtain ⟨p, qs, e, _, hq⟩ := h
    have := RepL.len hq; subst e; simp only [TL.sz, List.length_cons]; omega
theorem RepM.len {s : ByteArray} : ∀ {m : TM} {ns : List S52} {ps : List S28}, RepM s m ns ps → ps.length ≤ m.sz ∧ ns.length = ps.length
  | .nil, ns, ps, h => by simp only [RepM] at h; rw [h.1, h.2]; simp
  | .cons n t m, ns, ps, h => by
    simp only [RepM] at h; obtain ⟨y, ms, p, qs, e1, e2, _, _, _, _, _, hq⟩ := h
    have := RepM.len hq; subst e1; subst e2; simp only [TM.sz, List.length_cons]; omega
/-! ### objects -/
theorem objects_true {K : List S28} {a b c : Int} {N : List S52} (hK : (K.length : Int) ≤ 1000000) (d : Nat) : ∀ i : Int, 0 ≤ i → (K.length : Int) - i ≤ d → Ev (fun k => spec_objects.l0 k true K.length i a b c N K) true := by
  induction d with
  | zero => intro i h0 hd; exact Ev.const _ fun k => by simp only [spec_objects.l0]; rw [if_neg (by omega)]
  | succ d ih =>
    intro i h0 hd
    by_cases hi : i < (K.length : Int)
    · refine Ev.step (fun k => ?_) (ih (i + 1) (by omega) (by omega))
      simp only [spec_objects.l0]; rw [if_pos hi, if_pos (by trivial), wr (by omega) (by omega)]
    · exact Ev.const _ fun k => by simp only [spec_objects.l0]; rw [if_neg hi]
mutual
theorem objects_ev {s : ByteArray} : ∀ (t : T) (p : S28), Rep s t p → t.sz ≤ 4096 → Ev (fun k => spec_objects.f k p.f0 p.f1 p.f2 p.f3 p.f4) t.objs
  | .leaf b, p, h, hz => by
    simp only [Rep] at h
    refine Ev.step (f := fun k => spec_objects.l0 k (p.f0 == 6) (p.f4.length : Int) 0 p.f0 p.f1 p.f2 p.f3 p.f4) (fun k => by simp only [spec_objects.f]) (Ev.const _ fun k => ?_)
    have e : (p.f0 == 6) = false := by simpa using h.2.1
    simp only [spec_objects.l0, T.objs]; rw [h.2.2.2.2.2.2, if_neg (by simp), e]
  | .arr k, p, h, hz => by
    simp only [Rep] at h
    simp only [T.sz] at hz
    have hl := RepL.len h.2
    refine Ev.step (f := fun k => spec_objects.l0 k (p.f0 == 6) (p.f4.length : Int) 0 p.f0 p.f1 p.f2 p.f3 p.f4) (fun k => by simp only [spec_objects.f]) ?_
    have e : (p.f0 == 6) = false := by rw [h.1]; decide
    rw [e]
    exact objectsL_ev k p.f4 0 p.f0 p.f1 p.f2 p.f3 (by omega) h.2 (by omega) (by omega)
  | .obj m, p, h, hz => by
    simp only [Rep] at h
    simp only [T.sz] at hz
    have hl := RepM.len h.2
    refine Ev.step (f := fun k => spec_objects.l0 k (p.f0 == 6) (p.f4.length : Int) 0 p.f0 p.f1 p.f2 p.f3 p.f4) (fun k => by simp only [spec_objects.f]) ?_
    have e : (p.f0 == 6) = true := by rw [h.1]; decide
    rw [e]
    exact objects_true (by omega) p.f4.length 0 (by omega) (by omega)
theorem objectsL_ev {s : ByteArray} : ∀ (kk : TL) (K : List S28) (i a b c : Int) (N : List S52), 0 ≤ i → RepL s kk (K.drop i.toNat) → (K.length : Int) ≤ 1000000 → kk.sz ≤ 4096 → Ev (fun k => spec_objects.l0 k false K.length i a b c N K) kk.objs
  | .nil, K, i, a, b, c, N, h0, h, hK, hz => by
    simp only [RepL] at h
    have := drop_end h0 h
    exact Ev.const _ fun k => by simp only [spec_objects.l0, TL.objs]; rw [if_neg (by omega)]
  | .cons t kk, K, i, a, b, c, N, h0, h, hK, hz => by
    simp only [RepL] at h
    simp only [TL.sz] at hz
    obtain ⟨p, qs, e, hp, hq⟩ := h
    obtain ⟨hlt, hg, hd⟩ := drop_next (d := z28) h0 e
    have h1 := objects_ev t p hp (by omega)
    have h2 : Ev (fun k => spec_objects.l0 k t.objs K.length (i + 1) a b c N K) (TL.cons t kk).objs := by
      cases ht : t.objs with
      | true =>
        have : (TL.cons t kk).objs = true := by simp only [TL.objs, ht, Bool.true_or]
        rw [this]; exact objects_true hK K.length (i + 1) (by omega) (by omega)
      | false =>
        have : (TL.cons t kk).objs = kk.objs := by simp only [TL.objs, ht, Bool.false_or]
        rw [this]; exact objectsL_ev kk K (i + 1) a b c N (by omega) (by rw [hd]; exact hq) hK (by omega)
    refine Ev.step (f := fun k => (spec_objects.f k p.f0 p.f1 p.f2 p.f3 p.f4).bind fun t => spec_objects.l0 k t K.length (i + 1) a b c N K) (fun k => ?_) (Ev.bind h1 h2)
    have e2 : rd_T28 K i = p := hg
    simp only [spec_objects.l0]; rw [if_pos hlt, if_neg (by simp), if_pos h0, if_pos hlt, e2, wr (by omega) (by omega)]
end
/-! ### lineTo -/
mutual
theorem lineTo_ev {s : ByteArray} : ∀ (t : T) (p : S28) (x : List Int), Rep s t p → t.objs = false → t.sz ≤ 4096 → x.length + 3 * t.sz < 140737488355328 → Ev (fun k => spec_lineTo.f k x s p.f0 p.f1 p.f2 p.f3 p.f4) (x ++ t.line)
  | .leaf b, p, x, h, _, hz, hx => by
    simp only [Rep] at h
    simp only [T.sz] at hz hx
    obtain ⟨h5, h6, h1, h2, h3, h4, h7⟩ := h
    have hs : (s.extract p.f1.toNat p.f2.toNat).size = b.length := by rw [← bytesOf_length, bytesOf_extract, h4]
    refine Ev.const _ fun k => ?_
    simp only [spec_lineTo.f, T.line]; rw [if_neg h5, if_pos h1, if_pos h2, if_pos h3, if_pos (by rw [hs]; omega), bytesOf_extract, h4]
  | .arr k, p, x, h, ho, hz, hx => by
    simp only [Rep] at h
    simp only [T.sz] at hz hx
    simp only [T.objs] at ho
    have hl := RepL.len h.2
    have h2 := lineL0_ev k p.f4 p.f0 p.f1 p.f2 p.f3 (x ++ [91]) h.2 ho (by omega) (by omega) (by simp; omega)
    simp only [T.line]
    rw [List.append_assoc] at h2
    refine Ev.step (f := fun k => spec_lineTo.l0 k (x ++ [91]) s (p.f4.length : Int) 0 p.f0 p.f1 p.f2 p.f3 p.f4) (fun k => ?_) h2
    simp only [spec_lineTo.f]; rw [if_pos h.1, if_pos (by omega)]
  | .obj m, p, x, h, ho, hz, hx => by simp only [T.objs] at ho; cases ho
theorem lineL0_ev {s : ByteArray} : ∀ (kk : TL) (K : List S28) (a b c : Int) (N : List S52) (x : List Int), RepL s kk K → kk.objs = false → (K.length : Int) ≤ 1000000 → kk.sz ≤ 4096 → x.length + 3 * kk.sz < 140737488355327 → Ev (fun k => spec_lineTo.l0 k x s K.length 0 a b c N K) (x ++ kk.line0)
  | .nil, K, a, b, c, N, x, h, _, hK, hz, hx => by
    simp only [RepL] at h
    subst h
    exact Ev.const _ fun k => by simp only [spec_lineTo.l0, TL.line0]; rw [if_neg (by simp), if_pos (by omega)]
  | .cons t kk, K, a, b, c, N, x, h, ho, hK, hz, hx => by
    simp only [RepL] at h
    simp only [TL.sz] at hz hx
    simp only [TL.objs, Bool.or_eq_false_iff] at ho
    obtain ⟨p, qs, e, hp, hq⟩ := h
    have hlen := T.line_len t
    have h1 := lineTo_ev t p x hp ho.1 (by omega) (by omega)
    have h2 := lineL1_ev kk K 1 a b c N (x ++ t.line) (by omega) (by rw [e]; exact hq) ho.2 hK (by omega) (by rw [List.length_append]; omega)
    simp only [TL.line0]
    rw [List.append_assoc] at h2
    refine Ev.step (f := fun k => (spec_lineTo.f k x s p.f0 p.f1 p.f2 p.f3 p.f4).bind fun t => spec_lineTo.l0 k t s K.length 1 a b c N K) (fun k => ?_) (Ev.bind h1 h2)
    have hlt : (0 : Int) < K.length := by rw [e]; simp
    have e2 : rd_T28 K 0 = p := by rw [e]; rfl
    simp only [spec_lineTo.l0]; rw [if_pos hlt, if_neg (by omega), if_pos (by omega), if_pos hlt, e2, wr (by omega) (by omega)]; rfl
theorem lineL1_ev {s : ByteArray} : ∀ (kk : TL) (K : List S28) (i a b c : Int) (N : List S52) (x : List Int), 0 < i → RepL s kk (K.drop i.toNat) → kk.objs = false → (K.length : Int) ≤ 1000000 → kk.sz ≤ 4096 → x.length + 3 * kk.sz < 140737488355327 → Ev (fun k => spec_lineTo.l0 k x s K.length i a b c N K) (x ++ kk.line1)
  | .nil, K, i, a, b, c, N, x, h0, h, _, hK, hz, hx => by
    simp only [RepL] at h
    have := drop_end (by omega) h
    exact Ev.const _ fun k => by simp only [spec_lineTo.l0, TL.line1]; rw [if_neg (by omega), if_pos (by omega)]
  | .cons t kk, K, i, a, b, c, N, x, h0, h, ho, hK, hz, hx => by
    simp only [RepL] at h
    simp only [TL.sz] at hz hx
    simp only [TL.objs, Bool.or_eq_false_iff] at ho
    obtain ⟨p, qs, e, hp, hq⟩ := h
    obtain ⟨hlt, hg, hd⟩ := drop_next (d := z28) (by omega) e
    have hlen := T.line_len t
    have h1 := lineTo_ev t p (x ++ [44, 32]) hp ho.1 (by omega) (by simp; omega)
    have h2 := lineL1_ev kk K (i + 1) a b c N (x ++ [44, 32] ++ t.line) (by omega) (by rw [hd]; exact hq) ho.2 hK (by omega) (by simp; omega)
    simp only [TL.line1]
    have e3 : x ++ [44, 32] ++ t.line ++ kk.line1 = x ++ 44 :: 32 :: (t.line ++ kk.line1) := by simp
    rw [e3] at h2
    refine Ev.step (f := fun k => (spec_lineTo.f k (x ++ [44, 32]) s p.f0 p.f1 p.f2 p.f3 p.f4).bind fun t => spec_lineTo.l0 k t s K.length (i + 1) a b c N K) (fun k => ?_) (Ev.bind h1 h2)
    have e2 : rd_T28 K i = p := hg
    simp only [spec_lineTo.l0]; rw [if_pos hlt, if_pos h0, Option.bind_some, if_pos (by simp; omega), if_pos (by omega), if_pos hlt, e2, wr (by omega) (by omega)]
end
end Go.Proofs.Ytbkgoccnegjdhaa.U

/- The reference's layout: values and elements by lines. -/
import Derived.Test.YtbkgoccnegjdhaaU6
namespace Go.Proofs.Ytbkgoccnegjdhaa.U
open Go.RowKit Go.Proofs.YtbkgoccnegjdhaaW.PrintWords Go.Proofs.Ytbkgoccnegjdhaa.Q
/-- What is written of a value without kids. -/
theorem bareTo_ev {s : ByteArray} {t : T} {p : S28} (h : Rep s t p) (h4 : p.f4 = []) (W : Int) (ind ah : List Int) (col : Int) (x : List Int) (hz : t.sz ≤ 4096) (hx : x.length + 3 * t.sz < 140737488355328) :
    Ev (fun k => spec_bareTo.f k x s p.f0 p.f1 p.f2 p.f3 p.f4) (x ++ t.lay W ind ah col) := by
  cases t with
  | leaf b =>
    simp only [Rep] at h
    simp only [T.sz] at hz hx
    obtain ⟨h5, h6, h1, h2, h3, h7, -⟩ := h
    have hs : (s.extract p.f1.toNat p.f2.toNat).size = b.length := by rw [← bytesOf_length, bytesOf_extract, h7]
    refine Ev.step (f := fun k => spec_bareTo.j0 k x s true p.f0 p.f1 p.f2 p.f3 p.f4) (fun k => ?_) (Ev.const _ fun k => ?_)
    · have e : (p.f0 != 6) = true := by simpa using h6
      simp only [spec_bareTo.f]; rw [if_neg h5, e]
    · simp only [spec_bareTo.j0, T.lay]; rw [if_pos (by trivial), if_pos h1, if_pos h2, if_pos h3, if_pos (by rw [hs]; omega), bytesOf_extract, h7]
  | arr k =>
    simp only [Rep] at h
    simp only [T.sz] at hz hx
    have hk : k = .nil := by
      cases k with
      | nil => rfl
      | cons t k => have := h.2; simp only [RepL] at this; obtain ⟨p', qs, e, _⟩ := this; rw [h4] at e; cases e
    subst hk
    have hl : (T.arr .nil).lay W ind ah col = [91, 93] := by simp only [T.lay, TL.line0, TL.layF]; exact ite_self _
    rw [hl]
    refine Ev.step (f := fun k => spec_bareTo.j0 k x s false p.f0 p.f1 p.f2 p.f3 p.f4) (fun k => by simp only [spec_bareTo.f]; rw [if_pos h.1]) ?_
    refine Ev.step (f := fun k => spec_bareTo.j1 k x s 91 93 p.f0 p.f1 p.f2 p.f3 p.f4) (fun k => by simp only [spec_bareTo.j0]; rw [if_neg (by simp), if_neg (by rw [h.1]; decide)]) ?_
    refine Ev.step (f := fun k => spec_bareTo.l0 k (x ++ [91]) s 93 (p.f4.length : Int) 0 p.f0 p.f1 p.f2 p.f3 p.f4) (fun k => by simp only [spec_bareTo.j1]; rw [if_pos (by omega)]) ?_
    exact Ev.const _ fun k => by simp only [spec_bareTo.l0]; rw [h4, if_neg (by simp), if_pos (by simp; omega)]; simp
  | obj m =>
    simp only [Rep] at h
    simp only [T.sz] at hz hx
    have hk : m = .nil := by
      cases m with
      | nil => rfl
      | cons n t m => have := h.2; simp only [RepM] at this; obtain ⟨y, ms, p', qs, _, e, _⟩ := this; rw [h4] at e; cases e
    subst hk
    have hl : (T.obj .nil).lay W ind ah col = [123, 125] := by simp only [T.lay, TM.layF]
    rw [hl]
    have e6 : (p.f0 != 6) = false := by rw [h.1]; decide
    refine Ev.step (f := fun k => spec_bareTo.j0 k x s false p.f0 p.f1 p.f2 p.f3 p.f4) (fun k => by simp only [spec_bareTo.f]; rw [if_neg (by rw [h.1]; decide), e6]) ?_
    refine Ev.step (f := fun k => spec_bareTo.j1 k x s 123 125 p.f0 p.f1 p.f2 p.f3 p.f4) (fun k => by simp only [spec_bareTo.j0]; rw [if_neg (by simp), if_pos h.1]) ?_
    refine Ev.step (f := fun k => spec_bareTo.l0 k (x ++ [123]) s 125 (p.f4.length : Int) 0 p.f0 p.f1 p.f2 p.f3 p.f4) (fun k => by simp only [spec_bareTo.j1]; rw [if_pos (by omega)]) ?_
    exact Ev.const _ fun k => by simp only [spec_bareTo.l0]; rw [h4, if_neg (by simp), if_pos (by simp; omega)]; simp
variable {s P I : ByteArray} {W : Int}
mutual
theorem value_lay (hI : I.size ≤ 64) (hW : 0 ≤ W ∧ W ≤ 1073741824) : ∀ (t : T) (p : S28) (x : List Int) (A : ByteArray) (col : Int), Rep s t p → t.sz ≤ 4096 → A.size + 64 * t.sz ≤ 262208 → 0 ≤ col → col ≤ 1000000 → x.length + 262300 * t.sz < 140737488000000 →
    Ev (fun k => spec_Layout_value.f k P I W x s p.f0 p.f1 p.f2 p.f3 p.f4 A col) (x ++ t.lay W (bytesOf I) (bytesOf A) col)
  | .leaf b, p, x, A, col, h, hz, hA, hc0, hc1, hx => by
    have h4 : p.f4 = [] := by simp only [Rep] at h; exact h.2.2.2.2.2.2
    refine Ev.step (f := fun k => (spec_bareTo.f k x s p.f0 p.f1 p.f2 p.f3 p.f4).bind fun t => some t) (fun k => ?_) (Ev.bind (bareTo_ev h h4 W (bytesOf I) (bytesOf A) col x hz (by omega)) (Ev.now _))
    simp only [spec_Layout_value.f]; rw [h4, if_pos (by simp)]
  | .arr .nil, p, x, A, col, h, hz, hA, hc0, hc1, hx => by
    have h4 : p.f4 = [] := by simp only [Rep, RepL] at h; exact h.2
    refine Ev.step (f := fun k => (spec_bareTo.f k x s p.f0 p.f1 p.f2 p.f3 p.f4).bind fun t => some t) (fun k => ?_) (Ev.bind (bareTo_ev h h4 W (bytesOf I) (bytesOf A) col x hz (by omega)) (Ev.now _))
    simp only [spec_Layout_value.f]; rw [h4, if_pos (by simp)]
  | .obj .nil, p, x, A, col, h, hz, hA, hc0, hc1, hx => by
    have h4 : p.f4 = [] := by simp only [Rep, RepM] at h; exact h.2.2
    refine Ev.step (f := fun k => (spec_bareTo.f k x s p.f0 p.f1 p.f2 p.f3 p.f4).bind fun t => some t) (fun k => ?_) (Ev.bind (bareTo_ev h h4 W (bytesOf I) (bytesOf A) col x hz (by omega)) (Ev.now _))
    simp only [spec_Layout_value.f]; rw [h4, if_pos (by simp)]
  | .arr (.cons t0 k0), p, x, A, col, h, hz, hA, hc0, hc1, hx => by
    have hob := objects_ev (.arr (.cons t0 k0)) p h hz
    have hli := fun ho => lineTo_ev (.arr (.cons t0 k0)) p [] h ho hz (by simp; omega)
    have hll := TL.line0_len (.cons t0 k0)
    simp only [Rep] at h
    simp only [T.sz] at hz hA hx
    obtain ⟨h5, hr⟩ := h
    have hlen := hr.len
    have hne : ¬ (p.f4.length : Int) = 0 := by
      simp only [RepL] at hr; obtain ⟨p', qs, e, _⟩ := hr; rw [e]; simp; omega
    have hE : Ev (fun k => spec_Layout_elements.f k P I W x s p.f0 p.f1 p.f2 p.f3 p.f4 A) (x ++ 91 :: (TL.cons t0 k0).layF W (bytesOf I) (bytesOf A)) := by
      have h2 := elements_layF hI hW (.cons t0 k0) (fun h => by cases h) p.f4 p.f0 p.f1 p.f2 p.f3 (x ++ [91]) A hr (by omega) (by omega) (by omega) (by simp; omega)
      rw [List.append_assoc] at h2
      refine Ev.step (fun k => ?_) h2
      simp only [spec_Layout_elements.f]; rw [if_pos (by omega), if_pos (by omega)]
    have hJ1 : Ev (fun k => spec_Layout_value.j1 k x s A P I W p.f0 p.f1 p.f2 p.f3 p.f4) (x ++ 91 :: (TL.cons t0 k0).layF W (bytesOf I) (bytesOf A)) := by
      refine Ev.step (f := fun k => (spec_Layout_elements.f k P I W x s p.f0 p.f1 p.f2 p.f3 p.f4 A).bind fun t => some t) (fun k => ?_) (Ev.bind hE (Ev.now _))
      simp only [spec_Layout_value.j1]; rw [if_pos h5]
    have hF : Ev (fun k => spec_Layout_value.j0 k x s A (W - col) false P I W p.f0 p.f1 p.f2 p.f3 p.f4) (x ++ 91 :: (TL.cons t0 k0).layF W (bytesOf I) (bytesOf A)) :=
      Ev.step (fun k => by simp only [spec_Layout_value.j0]; rw [if_neg (by simp)]) hJ1
    by_cases hw : 0 < W
    · by_cases h3 : 3 < W - col
      · refine Ev.step (f := fun k => (spec_objects.f k p.f0 p.f1 p.f2 p.f3 p.f4).bind fun t => spec_Layout_value.j0 k x s A (W - col) (!t) P I W p.f0 p.f1 p.f2 p.f3 p.f4) (fun k => ?_) (Ev.bind hob ?_)
        · simp only [spec_Layout_value.f]; rw [if_neg hne, if_pos hw, wr (by omega) (by omega), if_pos h3]
        · simp only [T.objs]
          cases ho : (TL.cons t0 k0).objs with
          | true =>
            have e : (T.arr (.cons t0 k0)).lay W (bytesOf I) (bytesOf A) col = 91 :: (TL.cons t0 k0).layF W (bytesOf I) (bytesOf A) := by
              simp only [T.lay]; rw [if_neg (by rw [ho]; simp)]
            rw [e]; exact hF
          | false =>
            have h1 := hli (by simp only [T.objs]; exact ho)
            simp only [T.line, List.nil_append] at h1
            refine Ev.step (f := fun k => (spec_lineTo.f k ([] : List Int) s p.f0 p.f1 p.f2 p.f3 p.f4).bind fun t => if (t.length : Int) ≤ W - col then (if x.length + t.length < 140737488355328 then some (x ++ t) else none) else spec_Layout_value.j1 k x s A P I W p.f0 p.f1 p.f2 p.f3 p.f4) (fun k => ?_) (Ev.bind h1 ?_)
            · simp only [spec_Layout_value.j0]; rw [if_pos (by trivial)]
            · by_cases hfit : ((TL.cons t0 k0).line0.length : Int) + 1 ≤ W - col
              · have e : (T.arr (.cons t0 k0)).lay W (bytesOf I) (bytesOf A) col = 91 :: (TL.cons t0 k0).line0 := by
                  simp only [T.lay]; rw [if_pos ⟨hw, h3, ho, hfit⟩]
                rw [e]
                refine Ev.congr (fun k => ?_) (Ev.now _)
                rw [if_pos (by simp only [List.length_cons]; push_cast; omega), if_pos (by simp only [List.length_cons]; omega)]
              · have e : (T.arr (.cons t0 k0)).lay W (bytesOf I) (bytesOf A) col = 91 :: (TL.cons t0 k0).layF W (bytesOf I) (bytesOf A) := by
                  simp only [T.lay]; rw [if_neg (fun h => hfit h.2.2.2)]
                rw [e]
                refine Ev.congr (fun k => ?_) hJ1
                rw [if_neg (by simp only [List.length_cons]; push_cast; omega)]
      · have e : (T.arr (.cons t0 k0)).lay W (bytesOf I) (bytesOf A) col = 91 :: (TL.cons t0 k0).layF W (bytesOf I) (bytesOf A) := by
          simp only [T.lay]; rw [if_neg (fun h => h3 h.2.1)]
        rw [e]
        refine Ev.step (fun k => ?_) hF
        simp only [spec_Layout_value.f]; rw [if_neg hne, if_pos hw, wr (by omega) (by omega), if_neg (by omega)]
    · have e : (T.arr (.cons t0 k0)).lay W (bytesOf I) (bytesOf A) col = 91 :: (TL.cons t0 k0).layF W (bytesOf I) (bytesOf A) := by
        simp only [T.lay]; rw [if_neg (fun h => hw h.1)]
      rw [e]
      refine Ev.step (fun k => ?_) hF
      simp only [spec_Layout_value.f]; rw [if_neg hne, if_neg (by omega), wr (by omega) (by omega)]
  | .obj (.cons n0 t0 m0), p, x, A, col, h, hz, hA, hc0, hc1, hx => by
    have hob := objects_ev (.obj (.cons n0 t0 m0)) p h hz
    simp only [Rep] at h
    simp only [T.sz] at hz hA hx
    obtain ⟨h6, hr⟩ := h
    have hlen := hr.len
    have hne : ¬ (p.f4.length : Int) = 0 := by
      simp only [RepM] at hr; obtain ⟨y, ms, p', qs, _, e, _⟩ := hr; rw [e]; simp; omega
    have hJ1 : Ev (fun k => spec_Layout_value.j1 k x s A P I W p.f0 p.f1 p.f2 p.f3 p.f4) (x ++ 123 :: (TM.cons n0 t0 m0).layF W (bytesOf I) (bytesOf A)) := by
      have h2 := members_layF hI hW (.cons n0 t0 m0) (fun h => by cases h) p.f4 p.f0 p.f1 p.f2 p.f3 (x ++ [123]) A hr (by omega) (by omega) (by omega) (by simp; omega)
      rw [List.append_assoc] at h2
      refine Ev.step (fun k => ?_) h2
      simp only [spec_Layout_value.j1]; rw [if_neg (by rw [h6]; decide), if_pos (by omega), if_pos (by omega)]
    have hF : Ev (fun k => spec_Layout_value.j0 k x s A (W - col) false P I W p.f0 p.f1 p.f2 p.f3 p.f4) (x ++ 123 :: (TM.cons n0 t0 m0).layF W (bytesOf I) (bytesOf A)) :=
      Ev.step (fun k => by simp only [spec_Layout_value.j0]; rw [if_neg (by simp)]) hJ1
    simp only [T.lay]
    by_cases hw : 0 < W
    · by_cases h3 : 3 < W - col
      · refine Ev.step (f := fun k => (spec_objects.f k p.f0 p.f1 p.f2 p.f3 p.f4).bind fun t => spec_Layout_value.j0 k x s A (W - col) (!t) P I W p.f0 p.f1 p.f2 p.f3 p.f4) (fun k => ?_) (Ev.bind hob ?_)
        · simp only [spec_Layout_value.f]; rw [if_neg hne, if_pos hw, wr (by omega) (by omega), if_pos h3]
        · simp only [T.objs]; exact hF
      · refine Ev.step (fun k => ?_) hF
        simp only [spec_Layout_value.f]; rw [if_neg hne, if_pos hw, wr (by omega) (by omega), if_neg (by omega)]
    · refine Ev.step (fun k => ?_) hF
      simp only [spec_Layout_value.f]; rw [if_neg hne, if_neg (by omega), wr (by omega) (by omega)]
theorem elements_layF (hI : I.size ≤ 64) (hW : 0 ≤ W ∧ W ≤ 1073741824) : ∀ (kk : TL), kk ≠ .nil → ∀ (K : List S28) (a b c : Int) (N : List S52) (x : List Int) (A : ByteArray), RepL s kk K → (K.length : Int) ≤ 1000000 → kk.sz ≤ 4096 → A.size + 64 * kk.sz + 64 ≤ 262208 → x.length + 262300 * kk.sz + 262290 < 140737488000000 →
    Ev (fun k => spec_Layout_elements.l0 k x s A (A ++ I) (wrap64 (((A ++ I).size : Int) + 1)) K.length 0 P I W a b c N K) (x ++ kk.layF W (bytesOf I) (bytesOf A))
  | .nil, hne, K, a, b, c, N, x, A, h, hK, hz, hA, hx => absurd rfl hne
  | .cons t kk, _, K, a, b, c, N, x, A, h, hK, hz, hA, hx => by
    simp only [RepL] at h
    simp only [TL.sz] at hz hx hA
    obtain ⟨p, qs, e, hp, hq⟩ := h
    have hAI : (A ++ I).size = A.size + I.size := ByteArray.size_append
    have hbl : (bytesOf A ++ bytesOf I).length = A.size + I.size := by rw [List.length_append, bytesOf_length, bytesOf_length]
    have hlen := T.lay_len W (ind := bytesOf I) (by rw [bytesOf_length]; exact hI) t (bytesOf A ++ bytesOf I) (((A ++ I).size : Int) + 1) (by rw [hbl]; omega)
    have h1 := value_lay hI hW t p (x ++ [10] ++ bytesOf (A ++ I)) (A ++ I) (((A ++ I).size : Int) + 1) hp (by omega) (by omega) (by omega) (by omega) (by rw [List.length_append, List.length_append, bytesOf_length, hAI]; simp only [List.length_cons, List.length_nil]; omega)
    rw [bytesOf_app] at h1
    have h2 := elements_layT hI hW kk K 1 (((A ++ I).size : Int) + 1) a b c N (x ++ [10] ++ (bytesOf A ++ bytesOf I) ++ t.lay W (bytesOf I) (bytesOf A ++ bytesOf I) (((A ++ I).size : Int) + 1)) A (by omega) (by rw [e]; exact hq) hK (by omega) (by omega) (by simp only [List.length_append, bytesOf_length, List.length_cons, List.length_nil]; omega)
    have e3 : x ++ [10] ++ (bytesOf A ++ bytesOf I) ++ t.lay W (bytesOf I) (bytesOf A ++ bytesOf I) (((A ++ I).size : Int) + 1) ++ kk.layT W (bytesOf I) (bytesOf A) = x ++ (TL.cons t kk).layF W (bytesOf I) (bytesOf A) := by
      simp only [TL.layF]; rw [hbl, hAI]; simp
    rw [e3] at h2
    refine Ev.step (f := fun k => (spec_Layout_value.f k P I W (x ++ [10] ++ (bytesOf A ++ bytesOf I)) s p.f0 p.f1 p.f2 p.f3 p.f4 (A ++ I) (((A ++ I).size : Int) + 1)).bind fun t => spec_Layout_elements.l0 k t s A (A ++ I) (((A ++ I).size : Int) + 1) K.length 1 P I W a b c N K) (fun k => ?_) (Ev.bind h1 h2)
    have hlt : (0 : Int) < K.length := by rw [e]; simp
    have e2 : rd_T28 K 0 = p := by rw [e]; rfl
    rw [wr (by omega) (by omega)]
    simp only [spec_Layout_elements.l0]
    rw [if_pos hlt, if_neg (by omega), if_pos (by omega), Option.bind_some, if_pos (by simp only [List.length_append, List.length_cons, List.length_nil]; omega), if_pos (by omega), if_pos hlt, e2, bytesOf_app, wr (by omega) (by omega)]; rfl
theorem elements_layT (hI : I.size ≤ 64) (hW : 0 ≤ W ∧ W ≤ 1073741824) : ∀ (kk : TL) (K : List S28) (i x12 a b c : Int) (N : List S52) (x : List Int) (A : ByteArray), 0 < i → RepL s kk (K.drop i.toNat) → (K.length : Int) ≤ 1000000 → kk.sz ≤ 4096 → A.size + 64 * kk.sz + 64 ≤ 262208 → x.length + 262300 * kk.sz + 262290 < 140737488000000 →
    Ev (fun k => spec_Layout_elements.l0 k x s A (A ++ I) x12 K.length i P I W a b c N K) (x ++ kk.layT W (bytesOf I) (bytesOf A))
  | .nil, K, i, x12, a, b, c, N, x, A, h0, h, hK, hz, hA, hx => by
    simp only [RepL] at h
    have := drop_end (by omega) h
    refine Ev.const _ fun k => ?_
    simp only [spec_Layout_elements.l0, TL.layT]
    rw [if_neg (by omega), if_pos (by omega), Option.bind_some, if_pos (by simp only [List.length_append, List.length_cons, List.length_nil]; omega), Option.bind_some, if_pos (by simp only [List.length_append, List.length_cons, List.length_nil, bytesOf_length]; omega)]
    simp
  | .cons t kk, K, i, x12, a, b, c, N, x, A, h0, h, hK, hz, hA, hx => by
    simp only [RepL] at h
    simp only [TL.sz] at hz hx hA
    obtain ⟨p, qs, e, hp, hq⟩ := h
    obtain ⟨hlt, hg, hd⟩ := drop_next (d := z28) (by omega) e
    have hAI : (A ++ I).size = A.size + I.size := ByteArray.size_append
    have hbl : (bytesOf A ++ bytesOf I).length = A.size + I.size := by rw [List.length_append, bytesOf_length, bytesOf_length]
    have hlen := T.lay_len W (ind := bytesOf I) (by rw [bytesOf_length]; exact hI) t (bytesOf A ++ bytesOf I) ((A ++ I).size : Int) (by rw [hbl]; omega)
    have h1 := value_lay hI hW t p (x ++ [44] ++ [10] ++ bytesOf (A ++ I)) (A ++ I) ((A ++ I).size : Int) hp (by omega) (by omega) (by omega) (by omega) (by rw [List.length_append, List.length_append, List.length_append, bytesOf_length, hAI]; simp only [List.length_cons, List.length_nil]; omega)
    rw [bytesOf_app] at h1
    have h2 := elements_layT hI hW kk K (i + 1) ((A ++ I).size : Int) a b c N (x ++ [44] ++ [10] ++ (bytesOf A ++ bytesOf I) ++ t.lay W (bytesOf I) (bytesOf A ++ bytesOf I) ((A ++ I).size : Int)) A (by omega) (by rw [hd]; exact hq) hK (by omega) (by omega) (by simp only [List.length_append, bytesOf_length, List.length_cons, List.length_nil]; omega)
    have e3 : x ++ [44] ++ [10] ++ (bytesOf A ++ bytesOf I) ++ t.lay W (bytesOf I) (bytesOf A ++ bytesOf I) ((A ++ I).size : Int) ++ kk.layT W (bytesOf I) (bytesOf A) = x ++ (TL.cons t kk).layT W (bytesOf I) (bytesOf A) := by
      simp only [TL.layT]; rw [hbl, hAI]; simp
    rw [e3] at h2
    refine Ev.step (f := fun k => (spec_Layout_value.f k P I W (x ++ [44] ++ [10] ++ (bytesOf A ++ bytesOf I)) s p.f0 p.f1 p.f2 p.f3 p.f4 (A ++ I) ((A ++ I).size : Int)).bind fun t => spec_Layout_elements.l0 k t s A (A ++ I) ((A ++ I).size : Int) K.length (i + 1) P I W a b c N K) (fun k => ?_) (Ev.bind h1 h2)
    have e2 : rd_T28 K i = p := hg
    simp only [spec_Layout_elements.l0]
    rw [if_pos hlt, if_pos h0, if_pos (by omega), Option.bind_some, if_pos (by simp only [List.length_append, List.length_cons, List.length_nil]; omega), Option.bind_some, if_pos (by simp only [List.length_append, List.length_cons, List.length_nil]; omega), if_pos (by omega), if_pos hlt, e2, bytesOf_app, wr (by omega) (by omega)]
theorem members_layF (hI : I.size ≤ 64) (hW : 0 ≤ W ∧ W ≤ 1073741824) : ∀ (mm : TM), mm ≠ .nil → ∀ (K : List S28) (a b c : Int) (N : List S52) (x : List Int) (A : ByteArray), RepM s mm N K → (K.length : Int) ≤ 1000000 → mm.sz ≤ 4096 → A.size + 64 * mm.sz + 64 ≤ 262208 → x.length + 262300 * mm.sz + 262290 < 140737488000000 →
    Ev (fun k => spec_Layout_value.l0 k x s A (A ++ I) K.length 0 P I W a b c N K) (x ++ mm.layF W (bytesOf I) (bytesOf A))
  | .nil, hne, K, a, b, c, N, x, A, h, hK, hz, hA, hx => absurd rfl hne
  | .cons n t mm, _, K, a, b, c, N, x, A, h, hK, hz, hA, hx => by
    simp only [RepM] at h
    simp only [TM.sz] at hz hx hA
    obtain ⟨y, ms, p, qs, e, e', hy0, hy1, hy2, hyn, hp, hq⟩ := h
    have hAI : (A ++ I).size = A.size + I.size := ByteArray.size_append
    have hbl : (bytesOf A ++ bytesOf I).length = A.size + I.size := by rw [List.length_append, bytesOf_length, bytesOf_length]
    have hs : (s.extract y.f0.toNat y.f1.toNat).size = n.length := by rw [← bytesOf_length, bytesOf_extract, hyn]
    have hlen := T.lay_len W (ind := bytesOf I) (by rw [bytesOf_length]; exact hI) t (bytesOf A ++ bytesOf I) (((A ++ I).size : Int) + n.length + 3) (by rw [hbl]; omega)
    have h1 := value_lay hI hW t p (x ++ [10] ++ bytesOf (A ++ I) ++ n ++ [58, 32]) (A ++ I) (((A ++ I).size : Int) + n.length + 3) hp (by omega) (by omega) (by omega) (by omega) (by simp only [List.length_append, bytesOf_length, List.length_cons, List.length_nil]; omega)
    rw [bytesOf_app] at h1
    have h2 := members_layT hI hW mm K 1 a b c N (x ++ [10] ++ (bytesOf A ++ bytesOf I) ++ n ++ [58, 32] ++ t.lay W (bytesOf I) (bytesOf A ++ bytesOf I) (((A ++ I).size : Int) + n.length + 3)) A (by omega) (by rw [e, e']; exact hq) hK (by omega) (by omega) (by simp only [List.length_append, bytesOf_length, List.length_cons, List.length_nil]; omega)
    have e3 : x ++ [10] ++ (bytesOf A ++ bytesOf I) ++ n ++ [58, 32] ++ t.lay W (bytesOf I) (bytesOf A ++ bytesOf I) (((A ++ I).size : Int) + n.length + 3) ++ mm.layT W (bytesOf I) (bytesOf A) = x ++ (TM.cons n t mm).layF W (bytesOf I) (bytesOf A) := by
      simp only [TM.layF]; rw [hbl, hAI]; simp
    rw [e3] at h2
    refine Ev.step (f := fun k => (spec_Layout_value.f k P I W (x ++ [10] ++ (bytesOf A ++ bytesOf I) ++ n ++ [58, 32]) s p.f0 p.f1 p.f2 p.f3 p.f4 (A ++ I) (((A ++ I).size : Int) + n.length + 3)).bind fun t => spec_Layout_value.l0 k t s A (A ++ I) K.length 1 P I W a b c N K) (fun k => ?_) (Ev.bind h1 h2)
    have hlt : (0 : Int) < K.length := by rw [e']; simp
    have hltN : (0 : Int) < N.length := by rw [e]; simp
    have e2 : rd_T28 K 0 = p := by rw [e']; rfl
    have e4 : rd_T52 N 0 = y := by rw [e]; rfl
    simp only [spec_Layout_value.l0]
    rw [if_pos hlt, if_neg (by omega), if_pos (by omega), if_pos hltN, e4, if_pos hy0, if_pos hy1, if_pos hy2, if_pos (by omega), Option.bind_some, if_pos (by simp only [List.length_append, List.length_cons, List.length_nil]; omega), Option.bind_some, if_pos (by simp only [List.length_append, List.length_cons, List.length_nil, bytesOf_length]; omega), Option.bind_some, Option.bind_some, bytesOf_extract, hyn, if_pos (by simp only [List.length_append, List.length_cons, List.length_nil, bytesOf_length]; omega), if_pos hlt, e2, hs, wr (i := ((A ++ I).size : Int) + n.length) (by omega) (by omega), wr (by omega) (by omega), wr (by omega) (by omega), bytesOf_app]; rfl
theorem members_layT (hI : I.size ≤ 64) (hW : 0 ≤ W ∧ W ≤ 1073741824) : ∀ (mm : TM) (K : List S28) (i a b c : Int) (N : List S52) (x : List Int) (A : ByteArray), 0 < i → RepM s mm (N.drop i.toNat) (K.drop i.toNat) → (K.length : Int) ≤ 1000000 → mm.sz ≤ 4096 → A.size + 64 * mm.sz + 64 ≤ 262208 → x.length + 262300 * mm.sz + 262290 < 140737488000000 →
    Ev (fun k => spec_Layout_value.l0 k x s A (A ++ I) K.length i P I W a b c N K) (x ++ mm.layT W (bytesOf I) (bytesOf A))
  | .nil, K, i, a, b, c, N, x, A, h0, h, hK, hz, hA, hx => by
    simp only [RepM] at h
    have := drop_end (by omega) h.2
    refine Ev.const _ fun k => ?_
    simp only [spec_Layout_value.l0, TM.layT]
    rw [if_neg (by omega), if_pos (by omega), Option.bind_some, if_pos (by simp only [List.length_append, List.length_cons, List.length_nil]; omega), Option.bind_some, if_pos (by simp only [List.length_append, List.length_cons, List.length_nil, bytesOf_length]; omega)]
    simp
  | .cons n t mm, K, i, a, b, c, N, x, A, h0, h, hK, hz, hA, hx => by
    simp only [RepM] at h
    simp only [TM.sz] at hz hx hA
    obtain ⟨y, ms, p, qs, e, e', hy0, hy1, hy2, hyn, hp, hq⟩ := h
    obtain ⟨hlt, hg, hd⟩ := drop_next (d := z28) (by omega) e'
    obtain ⟨hltN, hgN, hdN⟩ := drop_next (d := z52) (by omega) e
    have hAI : (A ++ I).size = A.size + I.size := ByteArray.size_append
    have hbl : (bytesOf A ++ bytesOf I).length = A.size + I.size := by rw [List.length_append, bytesOf_length, bytesOf_length]
    have hs : (s.extract y.f0.toNat y.f1.toNat).size = n.length := by rw [← bytesOf_length, bytesOf_extract, hyn]
    have hlen := T.lay_len W (ind := bytesOf I) (by rw [bytesOf_length]; exact hI) t (bytesOf A ++ bytesOf I) (((A ++ I).size : Int) + n.length + 3) (by rw [hbl]; omega)
    have h1 := value_lay hI hW t p (x ++ [44] ++ [10] ++ bytesOf (A ++ I) ++ n ++ [58, 32]) (A ++ I) (((A ++ I).size : Int) + n.length + 3) hp (by omega) (by omega) (by omega) (by omega) (by simp only [List.length_append, bytesOf_length, List.length_cons, List.length_nil]; omega)
    rw [bytesOf_app] at h1
    have h2 := members_layT hI hW mm K (i + 1) a b c N (x ++ [44] ++ [10] ++ (bytesOf A ++ bytesOf I) ++ n ++ [58, 32] ++ t.lay W (bytesOf I) (bytesOf A ++ bytesOf I) (((A ++ I).size : Int) + n.length + 3)) A (by omega) (by rw [hd, hdN]; exact hq) hK (by omega) (by omega) (by simp only [List.length_append, bytesOf_length, List.length_cons, List.length_nil]; omega)
    have e3 : x ++ [44] ++ [10] ++ (bytesOf A ++ bytesOf I) ++ n ++ [58, 32] ++ t.lay W (bytesOf I) (bytesOf A ++ bytesOf I) (((A ++ I).size : Int) + n.length + 3) ++ mm.layT W (bytesOf I) (bytesOf A) = x ++ (TM.cons n t mm).layT W (bytesOf I) (bytesOf A) := by
      simp only [TM.layT]; rw [hbl, hAI]; simp
    rw [e3] at h2
    refine Ev.step (f := fun k => (spec_Layout_value.f k P I W (x ++ [44] ++ [10] ++ (bytesOf A ++ bytesOf I) ++ n ++ [58, 32]) s p.f0 p.f1 p.f2 p.f3 p.f4 (A ++ I) (((A ++ I).size : Int) + n.length + 3)).bind fun t => spec_Layout_value.l0 k t s A (A ++ I) K.length (i + 1) P I W a b c N K) (fun k => ?_) (Ev.bind h1 h2)
    have e2 : rd_T28 K i = p := hg
    have e4 : rd_T52 N i = y := hgN
    simp only [spec_Layout_value.l0]
    rw [if_pos hlt, if_pos h0, if_pos (by omega), Option.bind_some, if_pos (by omega), if_pos hltN, e4, if_pos hy0, if_pos hy1, if_pos hy2, if_pos (by simp only [List.length_append, List.length_cons, List.length_nil]; omega), Option.bind_some, if_pos (by simp only [List.length_append, List.length_cons, List.length_nil]; omega), Option.bind_some, if_pos (by simp only [List.length_append, List.length_cons, List.length_nil, bytesOf_length]; omega), Option.bind_some, Option.bind_some, bytesOf_extract, hyn, if_pos (by simp only [List.length_append, List.length_cons, List.length_nil, bytesOf_length]; omega), if_pos hlt, e2, hs, wr (i := ((A ++ I).size : Int) + n.length) (by omega) (by omega), wr (by omega) (by omega), wr (by omega) (by omega), bytesOf_app]
end
end Go.Proofs.Ytbkgoccnegjdhaa.U

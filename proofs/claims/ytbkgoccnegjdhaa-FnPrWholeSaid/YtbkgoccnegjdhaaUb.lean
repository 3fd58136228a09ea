/- The package's appendPrettyAny and appendPrettyObject in plain words: what they write of a tree. -/
import Derived.Test.YtbkgoccnegjdhaaUa
namespace Go.Proofs.Ytbkgoccnegjdhaa.U
open Go.RowKit Go.Proofs.YtbkgoccnegjdhaaW.PrintWords Go.Proofs.Ytbkgoccnegjdhaa.Q
variable {l : List Int} {W : Int} {P I : ByteArray}
/-- What the try of an array on one line comes to. -/
theorem obj_line {x : List Int} {mx i e tb nl : Int} {kk : TL} (hW : 0 < W) (hm : mx ≠ -1) (hl : l.length ≤ 4611686018427387904) (h0 : 0 ≤ i) (hi : i < l.length) (sk : Bool) (hr : RdF l kk (i + 1) e) (hx : (x.length : Int) + 3 * kk.sz + 13 < lim) :
    ∃ z i' nl', Ev (fun k => pretty_appendPrettyObject.f k x l i 91 93 false W P I sk tb nl mx) (x ++ 91 :: z, i', nl', !kk.objs) ∧ z.length ≤ 3 * kk.sz + 1 ∧ (kk.objs = false → z = kk.line0 ∧ i' = e) := by
  obtain ⟨z, i', nl', hz, hlen, hq⟩ := line_F (P := P) (I := I) (sk := sk) hW hm hl kk (x ++ [91]) (i + 1) e tb nl [] hr (by simp only [List.length_append, List.length_cons, List.length_nil]; omega)
  refine ⟨z, i', nl', ?_, hlen, hq⟩
  rw [List.append_assoc] at hz
  refine Ev.step (f := fun k => pretty_appendPrettyObject.j0 k x l i 91 93 false W P I sk tb nl mx false) (fun k => by simp only [pretty_appendPrettyObject.f]; rw [if_pos (by omega), if_neg (by simp)]) ?_
  refine Ev.step (f := fun k => pretty_appendPrettyObject.j1 k x l i 91 93 false W P I sk tb nl mx) (fun k => by simp only [pretty_appendPrettyObject.j0]; rw [if_neg (by simp), if_neg hm, if_neg (by decide)]) ?_
  refine Ev.step (f := fun k => pretty_appendPrettyObject.j2 k (x ++ [91]) l (i + 1) 91 93 false W P I sk tb nl mx [] false) (fun k => by simp only [pretty_appendPrettyObject.j1]; rw [if_pos (by unfold lim at hx; omega), Option.bind_some, if_neg (by decide), wr (by omega) (by omega)]) ?_
  refine Ev.step (f := fun k => pretty_appendPrettyObject.j3 k (x ++ [91]) l (i + 1) 91 93 false W P I sk tb nl mx []) (fun k => by simp only [pretty_appendPrettyObject.j2]; rw [if_neg (by simp)]) ?_
  exact Ev.step (fun k => by simp only [pretty_appendPrettyObject.j3]) hz
theorem j1_go {x : List Int} {i nl op cl : Int} {m : Nat} {r : List Int × Int × Int × Bool} (h0 : 0 ≤ i) (hi : i < l.length) (hl : l.length ≤ 4611686018427387904) (hx : (x.length : Int) < lim)
    (h : Ev (fun k => pretty_appendPrettyObject.l0 k (x ++ [op]) l (i + 1) op cl true W P I false m nl (-1) [] 0) r) : Ev (fun k => pretty_appendPrettyObject.j1 k x l i op cl true W P I false m nl (-1)) r := by
  refine Ev.step (f := fun k => pretty_appendPrettyObject.j2 k (x ++ [op]) l (i + 1) op cl true W P I false m nl (-1) [] false) (fun k => ?_) ?_
  · simp only [pretty_appendPrettyObject.j1]
    rw [if_pos (by unfold lim at hx; omega), Option.bind_some, wr (by omega) (by omega)]
    by_cases ho : op = 123
    · rw [if_pos ho]
    · rw [if_neg ho]
  · refine Ev.step (f := fun k => pretty_appendPrettyObject.j3 k (x ++ [op]) l (i + 1) op cl true W P I false m nl (-1) []) (fun k => by simp only [pretty_appendPrettyObject.j2]; rw [if_neg (by simp)]) ?_
    exact Ev.step (fun k => by simp only [pretty_appendPrettyObject.j3]) h
mutual
theorem any_lay (hI : I.size ≤ 64) (hW : -9223372036854775808 ≤ W ∧ W ≤ 9223372036854775807) (hl : l.length ≤ 4611686018427387904) : ∀ (t : T) (x : List Int) (i e : Int) (m : Nat) (nl col : Int), Rd l t i e → StopAt l e → 0 ≤ nl → nl ≤ x.length → (0 < W → col = x.length - nl) → t.sz ≤ 4096 → P.size + 64 * m + 64 * t.sz ≤ 262208 → (x.length : Int) + 262300 * t.sz + 1000000 < lim →
    ∃ nl' ok, Ev (fun k => pretty_appendPrettyAny.l0 k x l i true W P I false m nl (-1)) (x ++ t.lay W (bytesOf I) (ahd (bytesOf P) (bytesOf I) m) col, e, nl', ok)
  | .leaf b, x, i, e, m, nl, col, h, hst, hn0, hn1, hc, hz, hm, hx => by
    simp only [Rd] at h
    obtain ⟨ha, he, hb⟩ := h
    simp only [T.sz] at hx
    subst he
    simp only [T.lay]
    exact ⟨nl, true, any_leaf hl ha hb hst (by omega)⟩
  | .arr kk, x, i, e, m, nl, col, h, hst, hn0, hn1, hc, hz, hm, hx => by
    simp only [Rd] at h
    obtain ⟨ha, hr⟩ := h
    simp only [T.sz] at hz hm hx
    have ha0 := ha.1
    have ha1 := ha.2.1
    have hb := hx
    unfold lim at hb
    obtain ⟨nlm, okm, hmul'⟩ := lay_F hI hW hl kk x (i + 1) e m nl hr (by omega) (by omega) (by omega)
    have hmul : Ev (fun k => pretty_appendPrettyObject.j1 k x l i 91 93 true W P I false m nl (-1)) (x ++ 91 :: kk.layF W (bytesOf I) (ahd (bytesOf P) (bytesOf I) m), e, nlm, okm) := by
      refine j1_go ha0 ha1 hl (by omega) ?_
      rw [List.append_assoc] at hmul'
      exact hmul'
    by_cases hw : 0 < W
    · have hcc := hc hw
      have hf : ∀ r, Ev (fun k => pretty_appendPrettyObject.j0 k x l i 91 93 true W P I false m nl (-1) true) r → Ev (fun k => pretty_appendPrettyAny.l0 k x l i true W P I false m nl (-1)) r := by
        intro r h
        refine any_arr ha (Ev.step (fun k => ?_) h)
        simp only [pretty_appendPrettyObject.f]
        rw [if_pos (by omega), if_pos (by trivial), if_pos (by trivial)]; rfl
      have hwr : wrap64 (W - (wrap64 ((x.length : Int) - nl))) = W - col := by
        rw [wr (i := (x.length : Int) - nl) (by omega) (by omega), wr (by omega) (by omega), hcc]
      by_cases h3 : 3 < W - col
      · obtain ⟨z, i', nl', hz', hlen, hq⟩ := obj_line (P := P) (I := ⟨#[]⟩) (x := x) (mx := W - col) (tb := 0) (nl := 0) hw (by omega) hl ha0 ha1 false hr (by omega)
        have hcut : (x ++ 91 :: z).take ((x.length : Int)).toNat = x := by
          rw [Int.toNat_natCast, List.take_left]
        have hgo : ∀ r, (if kk.objs = false ∧ (kk.line0.length : Int) + 1 ≤ W - col then r = (x ++ 91 :: kk.line0, e, nl, true) else Ev (fun k => pretty_appendPrettyObject.j1 k x l i 91 93 true W P I false m nl (-1)) r) → Ev (fun k => pretty_appendPrettyObject.j0 k x l i 91 93 true W P I false m nl (-1) true) r := by
          intro r hr'
          refine Ev.step (f := fun k => (pretty_appendPrettyObject.f k x l i 91 93 false W P (⟨#[]⟩ : ByteArray) false 0 0 (W - col)).bind fun t => if t.2.2.2 = true then (if wrap64 ((t.1.length : Int) - (x.length : Int)) ≤ W - col then some (t.1, t.2.1, nl, true) else if 0 ≤ (x.length : Int) then if (x.length : Int) ≤ (t.1.length : Int) then pretty_appendPrettyObject.j1 k (t.1.take ((x.length : Int) : Int).toNat) l i 91 93 true W P I false m nl (-1) else none else none) else if 0 ≤ (x.length : Int) then if (x.length : Int) ≤ (t.1.length : Int) then pretty_appendPrettyObject.j1 k (t.1.take ((x.length : Int) : Int).toNat) l i 91 93 true W P I false m nl (-1) else none else none) (fun k => ?_) (Ev.bind hz' ?_)
          · simp only [pretty_appendPrettyObject.j0]
            rw [if_pos (by trivial), hwr, if_pos h3]
          · have hl1 : ((x ++ 91 :: z).length : Int) = (x.length : Int) + (z.length + 1) := by simp
            cases ho : kk.objs with
            | true =>
              rw [ho, if_neg (by simp)] at hr'
              refine Ev.congr (fun k => ?_) hr'
              dsimp only
              rw [if_neg (by simp), if_pos (by omega), if_pos (by omega), hcut]
            | false =>
              obtain ⟨e1, e2⟩ := hq ho
              subst e1; subst e2
              by_cases hfit : (kk.line0.length : Int) + 1 ≤ W - col
              · rw [if_pos ⟨ho, hfit⟩] at hr'
                subst hr'
                refine Ev.congr (fun k => ?_) (Ev.now _)
                dsimp only
                rw [if_pos (by simp), hl1, wr (by omega) (by omega), if_pos (by omega)]
              · rw [if_neg (fun h => hfit h.2)] at hr'
                refine Ev.congr (fun k => ?_) hr'
                dsimp only
                rw [if_pos (by simp), hl1, wr (by omega) (by omega), if_neg (by omega), if_pos (by omega), if_pos (by omega), hcut]
        by_cases hfit : kk.objs = false ∧ (kk.line0.length : Int) + 1 ≤ W - col
        · have el : (T.arr kk).lay W (bytesOf I) (ahd (bytesOf P) (bytesOf I) m) col = 91 :: kk.line0 := by
            simp only [T.lay]; rw [if_pos ⟨hw, h3, hfit.1, hfit.2⟩]
          rw [el]
          exact ⟨nl, true, hf _ (hgo _ (by rw [if_pos hfit]))⟩
        · have el : (T.arr kk).lay W (bytesOf I) (ahd (bytesOf P) (bytesOf I) m) col = 91 :: kk.layF W (bytesOf I) (ahd (bytesOf P) (bytesOf I) m) := by
            simp only [T.lay]; rw [if_neg (fun h => hfit h.2.2)]
          rw [el]
          exact ⟨nlm, okm, hf _ (hgo _ (by rw [if_neg hfit]; exact hmul))⟩
      · have el : (T.arr kk).lay W (bytesOf I) (ahd (bytesOf P) (bytesOf I) m) col = 91 :: kk.layF W (bytesOf I) (ahd (bytesOf P) (bytesOf I) m) := by
          simp only [T.lay]; rw [if_neg (fun h => h3 h.2.1)]
        rw [el]
        refine ⟨nlm, okm, hf _ (Ev.step (fun k => ?_) hmul)⟩
        simp only [pretty_appendPrettyObject.j0]
        rw [if_pos (by trivial), hwr, if_neg (by omega)]
    · have el : (T.arr kk).lay W (bytesOf I) (ahd (bytesOf P) (bytesOf I) m) col = 91 :: kk.layF W (bytesOf I) (ahd (bytesOf P) (bytesOf I) m) := by
        simp only [T.lay]; rw [if_neg (fun h => hw h.1)]
      rw [el]
      refine ⟨nlm, okm, any_arr ha (Ev.step (fun k => ?_) hmul)⟩
      simp only [pretty_appendPrettyObject.f]
      rw [if_neg (by omega)]
  | .obj mm, x, i, e, m, nl, col, h, hst, hn0, hn1, hc, hz, hm, hx => by
    simp only [Rd] at h
    obtain ⟨ha, hr⟩ := h
    simp only [T.sz] at hz hm hx
    have ha0 := ha.1
    have ha1 := ha.2.1
    obtain ⟨nlm, okm, hmul'⟩ := lay_G hI hW hl mm x (i + 1) e m nl hr (by omega) (by omega) (by omega)
    have hmul : Ev (fun k => pretty_appendPrettyObject.j1 k x l i 123 125 true W P I false m nl (-1)) (x ++ 123 :: mm.layF W (bytesOf I) (ahd (bytesOf P) (bytesOf I) m), e, nlm, okm) := by
      refine j1_go ha0 ha1 hl (by omega) ?_
      rw [List.append_assoc] at hmul'
      exact hmul'
    simp only [T.lay]
    refine ⟨nlm, okm, any_obj ha ?_⟩
    by_cases hw : 0 < W
    · refine Ev.step (f := fun k => pretty_appendPrettyObject.j0 k x l i 123 125 true W P I false m nl (-1) false) (fun k => ?_) (Ev.step (fun k => ?_) hmul)
      · simp only [pretty_appendPrettyObject.f]
        rw [if_pos (by omega), if_pos (by trivial), if_neg (by decide)]
      · simp only [pretty_appendPrettyObject.j0]
        rw [if_neg (by simp), if_pos (by trivial)]
    · refine Ev.step (fun k => ?_) hmul
      simp only [pretty_appendPrettyObject.f]
      rw [if_neg (by omega)]
theorem lay_F (hI : I.size ≤ 64) (hW : -9223372036854775808 ≤ W ∧ W ≤ 9223372036854775807) (hl : l.length ≤ 4611686018427387904) : ∀ (kk : TL) (y : List Int) (i e : Int) (m : Nat) (nl : Int), RdF l kk i e → kk.sz ≤ 4095 → P.size + 64 * m + 64 * kk.sz + 64 ≤ 262208 → (y.length : Int) + 262300 * kk.sz + 1200000 < lim →
    ∃ nl' ok, Ev (fun k => pretty_appendPrettyObject.l0 k (y ++ [91]) l i 91 93 true W P I false m nl (-1) [] 0) (y ++ [91] ++ kk.layF W (bytesOf I) (ahd (bytesOf P) (bytesOf I) m), e, nl', ok)
  | .nil, y, i, e, m, nl, h, hz, hm, hx => by
    simp only [RdF] at h
    obtain ⟨a, hw, ha, he⟩ := h
    subst he
    simp only [TL.layF]
    exact ⟨nl, _, obj_skip hl hw (p_nil (by decide) ha hl (by omega))⟩
  | .cons t kk, y, i, e, m, nl, h, hz, hm, hx => by
    simp only [RdF] at h
    obtain ⟨a, c, hw, hr, hk⟩ := h
    simp only [TL.sz] at hz hm hx
    have hb := T.sz_le t hr
    have hb2 := TL.szT_le kk hk
    have hi0 := hw.1
    have hi1 := hw.2.1
    have hne := first_byte hr
    have hPl := ahd_le (p := bytesOf P) (ind := bytesOf I) (by rw [bytesOf_length]; exact hI) (m + 1)
    rw [bytesOf_length] at hPl
    have hlay := T.lay_len W (ind := bytesOf I) (by rw [bytesOf_length]; exact hI) t (ahd (bytesOf P) (bytesOf I) (m + 1)) (((ahd (bytesOf P) (bytesOf I) (m + 1)).length : Int) + 1) (by omega)
    obtain ⟨z, d, hzd, hd⟩ := T.lay_last hr W (bytesOf I) (ahd (bytesOf P) (bytesOf I) (m + 1)) (((ahd (bytesOf P) (bytesOf I) (m + 1)).length : Int) + 1)
    obtain ⟨nl1, ok1, h1⟩ := any_lay hI hW hl t (y ++ [91] ++ [10] ++ ahd (bytesOf P) (bytesOf I) (m + 1)) a c (m + 1) ((y.length : Int) + 1) (((ahd (bytesOf P) (bytesOf I) (m + 1)).length : Int) + 1) hr hk.stop (by omega) (by simp only [List.length_append, List.length_cons, List.length_nil]; omega) (fun _ => by simp only [List.length_append, List.length_cons, List.length_nil]; omega) (by omega) (by omega) (by simp only [List.length_append, List.length_cons, List.length_nil]; omega)
    rw [hzd] at hlay
    simp only [List.length_append, List.length_cons, List.length_nil] at hlay
    obtain ⟨nl2, ok2, h2⟩ := lay_T hI hW hl kk (y ++ [91] ++ [10] ++ ahd (bytesOf P) (bytesOf I) (m + 1) ++ z) d c e m nl1 (0 + 1) hd (by omega) (by omega) hk (by omega) (by omega) (by simp only [List.length_append, List.length_cons, List.length_nil]; omega)
    refine ⟨nl2, ok2, obj_skip hl hw ?_⟩
    have e3 : y ++ [91] ++ [10] ++ ahd (bytesOf P) (bytesOf I) (m + 1) ++ z ++ [d] ++ kk.layT W (bytesOf I) (ahd (bytesOf P) (bytesOf I) m) = y ++ [91] ++ (TL.cons t kk).layF W (bytesOf I) (ahd (bytesOf P) (bytesOf I) m) := by
      simp only [TL.layF]
      show _ = y ++ [91] ++ 10 :: (ahd (bytesOf P) (bytesOf I) (m + 1) ++ (t.lay W (bytesOf I) (ahd (bytesOf P) (bytesOf I) (m + 1)) (((ahd (bytesOf P) (bytesOf I) (m + 1)).length : Int) + 1) ++ kk.layT W (bytesOf I) (ahd (bytesOf P) (bytesOf I) m)))
      rw [hzd]; simp
    rw [e3] at h2
    rw [hzd, ← List.append_assoc] at h1
    refine Ev.step (f := fun k => pretty_appendPrettyObject.j7 k (y ++ [91]) l a 91 93 true W P I false m nl (-1) [] 0 true) (fun k => ?_) (Ev.step (f := fun k => pretty_appendPrettyObject.j8 k (y ++ [91]) l a 91 93 true W P I false m nl (-1) [] 0) (fun k => ?_) ?_)
    · simp only [pretty_appendPrettyObject.l0]
      rw [if_pos hne.2.2.2.2.2.2, if_pos hne.1, if_neg hne.2.1, if_neg hne.2.2.1, if_pos (by trivial)]
    · simp only [pretty_appendPrettyObject.j7]
      rw [if_pos (by trivial), if_neg (by omega)]
    · refine p_j8 (by decide) (by omega) (p_j9 hI (by omega) (by omega) (by simp only [List.length_append, List.length_cons, List.length_nil]; push_cast; omega) ?_)
      refine Ev.step (fun k => ?_) (p_val (cl := 93) (by omega) (by omega) (by omega) ⟨by omega, by omega⟩ (any_f h1) h2)
      simp only [pretty_appendPrettyObject.j10]; rw [if_neg (by decide)]
theorem lay_T (hI : I.size ≤ 64) (hW : -9223372036854775808 ≤ W ∧ W ≤ 9223372036854775807) (hl : l.length ≤ 4611686018427387904) : ∀ (kk : TL) (y : List Int) (c i e : Int) (m : Nat) (nl n : Int), c ≠ 32 → 0 < n → n ≤ 1 + i → RdT l kk i e → kk.sz ≤ 4095 → P.size + 64 * m + 64 * kk.sz + 64 ≤ 262208 → (y.length : Int) + 262300 * kk.sz + 1000000 < lim →
    ∃ nl' ok, Ev (fun k => pretty_appendPrettyObject.l0 k (y ++ [c]) l i 91 93 true W P I false m nl (-1) [] n) (y ++ [c] ++ kk.layT W (bytesOf I) (ahd (bytesOf P) (bytesOf I) m), e, nl', ok)
  | .nil, y, c, i, e, m, nl, n, hc, hn0, hn1, h, hz, hm, hx => by
    simp only [RdT] at h
    obtain ⟨a, hw, ha, he⟩ := h
    subst he
    simp only [TL.layT]
    exact ⟨_, _, obj_skip hl hw (p_end hI (by omega) (by omega) (by decide) hc ha hl hn0 (by omega))⟩
  | .cons t kk, y, c, i, e, m, nl, n, hc, hn0, hn1, h, hz, hm, hx => by
    simp only [RdT] at h
    obtain ⟨a, b, c', hw, ha, hw2, hr, hk⟩ := h
    simp only [TL.sz] at hz hm hx
    have hb := T.sz_le t hr
    have hb2 := TL.szT_le kk hk
    have hi0 := hw.1
    have hi1 := hw.2.1
    have hi2 := hw2.2.1
    have ha1 := ha.1
    have ha2 := ha.2.1
    have ha3 := ha.2.2.1
    have hxx := hx
    unfold lim at hxx
    have hPl := ahd_le (p := bytesOf P) (ind := bytesOf I) (by rw [bytesOf_length]; exact hI) (m + 1)
    rw [bytesOf_length] at hPl
    have hlay := T.lay_len W (ind := bytesOf I) (by rw [bytesOf_length]; exact hI) t (ahd (bytesOf P) (bytesOf I) (m + 1)) ((ahd (bytesOf P) (bytesOf I) (m + 1)).length : Int) (by omega)
    obtain ⟨z, d, hzd, hd⟩ := T.lay_last hr W (bytesOf I) (ahd (bytesOf P) (bytesOf I) (m + 1)) ((ahd (bytesOf P) (bytesOf I) (m + 1)).length : Int)
    rw [hzd] at hlay
    simp only [List.length_append, List.length_cons, List.length_nil] at hlay
    -- the line's beginning: where the column counts from
    have main : ∀ nl0 : Int, 0 ≤ nl0 → nl0 ≤ (y.length : Int) + 3 → (0 < W → nl0 = (y.length : Int) + 3) → ∃ nl' ok, Ev (fun k => pretty_appendPrettyObject.j9 k (y ++ [c] ++ [44] ++ [10]) l a 91 93 true W P I false m nl0 (-1) [] n 0 0 0 0) (y ++ [c] ++ (TL.cons t kk).layT W (bytesOf I) (ahd (bytesOf P) (bytesOf I) m), e, nl', ok) := by
      intro nl0 hl0 hl1 hl2
      obtain ⟨nl1, ok1, h1'⟩ := any_lay hI hW hl t (y ++ [c] ++ [44] ++ [10] ++ ahd (bytesOf P) (bytesOf I) (m + 1)) b c' (m + 1) nl0 ((ahd (bytesOf P) (bytesOf I) (m + 1)).length : Int) hr hk.stop hl0 (by simp only [List.length_append, List.length_cons, List.length_nil]; omega) (fun hw => by have := hl2 hw; simp only [List.length_append, List.length_cons, List.length_nil]; omega) (by omega) (by omega) (by simp only [List.length_append, List.length_cons, List.length_nil]; omega)
      have h1 := any_skip hl ((Sk.one ha (by omega)).trans hw2.toSk) h1'
      obtain ⟨nl2, ok2, h2⟩ := lay_T hI hW hl kk (y ++ [c] ++ [44] ++ [10] ++ ahd (bytesOf P) (bytesOf I) (m + 1) ++ z) d c' e m nl1 (n + 1) hd (by omega) (by omega) hk (by omega) (by omega) (by simp only [List.length_append, List.length_cons, List.length_nil]; omega)
      refine ⟨nl2, ok2, ?_⟩
      have e3 : y ++ [c] ++ [44] ++ [10] ++ ahd (bytesOf P) (bytesOf I) (m + 1) ++ z ++ [d] ++ kk.layT W (bytesOf I) (ahd (bytesOf P) (bytesOf I) m) = y ++ [c] ++ (TL.cons t kk).layT W (bytesOf I) (ahd (bytesOf P) (bytesOf I) m) := by
        simp only [TL.layT]
        show _ = y ++ [c] ++ 44 :: 10 :: (ahd (bytesOf P) (bytesOf I) (m + 1) ++ (t.lay W (bytesOf I) (ahd (bytesOf P) (bytesOf I) (m + 1)) ((ahd (bytesOf P) (bytesOf I) (m + 1)).length : Int) ++ kk.layT W (bytesOf I) (ahd (bytesOf P) (bytesOf I) m)))
        rw [hzd]; simp
      rw [e3] at h2
      rw [hzd, ← List.append_assoc] at h1
      refine p_j9 hI (by omega) (by omega) (by simp only [List.length_append, List.length_cons, List.length_nil]; push_cast; omega) ?_
      refine Ev.step (fun k => ?_) (p_val (cl := 93) (by omega) (by omega) (by omega) ⟨by omega, by omega⟩ (any_f h1) h2)
      simp only [pretty_appendPrettyObject.j10]; rw [if_neg (by decide)]
    have first : ∀ r, (if W = -1 then Ev (fun k => pretty_appendPrettyObject.j8 k (y ++ [c] ++ [44]) l a 91 93 true W P I false m nl (-1) [] n) r else Ev (fun k => pretty_appendPrettyObject.j8 k (y ++ [c] ++ [44] ++ [32]) l a 91 93 true W P I false m nl (-1) [] n) r) → Ev (fun k => pretty_appendPrettyObject.l0 k (y ++ [c]) l i 91 93 true W P I false m nl (-1) [] n) r := by
      intro r hr'
      refine obj_skip hl hw (Ev.step (f := fun k => pretty_appendPrettyObject.j7 k (y ++ [c]) l a 91 93 true W P I false m nl (-1) [] n true) (fun k => ?_) ?_)
      · simp only [pretty_appendPrettyObject.l0]
        rw [if_pos ha2, if_pos ha1, if_neg (by omega), if_neg (by omega), if_pos (by trivial)]
      · by_cases hw1 : W = -1
        · rw [if_pos hw1] at hr'
          refine Ev.step (fun k => ?_) hr'
          simp only [pretty_appendPrettyObject.j7]
          rw [if_pos (by trivial), if_pos (by omega), if_pos (by simp only [List.length_append, List.length_cons, List.length_nil]; omega), Option.bind_some, if_pos hw1]
        · rw [if_neg hw1] at hr'
          refine Ev.step (fun k => ?_) hr'
          simp only [pretty_appendPrettyObject.j7]
          rw [if_pos (by trivial), if_pos (by omega), if_pos (by simp only [List.length_append, List.length_cons, List.length_nil]; omega), Option.bind_some, if_neg hw1, if_pos (by trivial), if_pos (by simp only [List.length_append, List.length_cons, List.length_nil]; omega)]
    by_cases hw1 : W = -1
    · obtain ⟨nl', ok, h⟩ := main ((y ++ [c]).length + 1) (by simp only [List.length_append, List.length_cons, List.length_nil]; omega) (by simp only [List.length_append, List.length_cons, List.length_nil]; omega) (fun h => by omega)
      refine ⟨nl', ok, first _ ?_⟩
      rw [if_pos hw1]
      exact p_j8 (by decide) (by simp only [List.length_append, List.length_cons, List.length_nil]; omega) h
    · obtain ⟨nl', ok, h⟩ := main ((y ++ [c] ++ [44]).length + 1) (by simp only [List.length_append, List.length_cons, List.length_nil]; omega) (by simp only [List.length_append, List.length_cons, List.length_nil]; omega) (fun h => by simp only [List.length_append, List.length_cons, List.length_nil]; omega)
      refine ⟨nl', ok, first _ ?_⟩
      rw [if_neg hw1]
      exact p_j8' (by simp only [List.length_append, List.length_cons, List.length_nil]; omega) h
theorem lay_G (hI : I.size ≤ 64) (hW : -9223372036854775808 ≤ W ∧ W ≤ 9223372036854775807) (hl : l.length ≤ 4611686018427387904) : ∀ (mm : TM) (y : List Int) (i e : Int) (m : Nat) (nl : Int), RdG l mm i e → mm.sz ≤ 4095 → P.size + 64 * m + 64 * mm.sz + 64 ≤ 262208 → (y.length : Int) + 262300 * mm.sz + 1200000 < lim →
    ∃ nl' ok, Ev (fun k => pretty_appendPrettyObject.l0 k (y ++ [123]) l i 123 125 true W P I false m nl (-1) [] 0) (y ++ [123] ++ mm.layF W (bytesOf I) (ahd (bytesOf P) (bytesOf I) m), e, nl', ok)
  | .nil, y, i, e, m, nl, h, hz, hm, hx => by
    simp only [RdG] at h
    obtain ⟨a, hw, ha, he⟩ := h
    subst he
    simp only [TM.layF]
    exact ⟨nl, _, obj_skip hl hw (p_nil (by decide) ha hl (by omega))⟩
  | .cons nm t mm, y, i, e, m, nl, h, hz, hm, hx => by
    simp only [RdG] at h
    obtain ⟨a, b, c2, e2, hw, hn, hok, hw2, hc0, hw3, hr, hk⟩ := h
    simp only [TM.sz] at hz hm hx
    have hxx := hx
    unfold lim at hxx
    obtain ⟨nr, hnr, hns⟩ := hok
    have hn1 : rd l a = 34 ∧ a < l.length ∧ 0 ≤ a := by subst hnr; exact ⟨hn.2.2.1, hn.2.1, hn.1⟩
    have hb := T.sz_le t hr
    have hb2 := TM.szT_le mm hk
    have hnb := hn.bound
    have hi0 := hw.1
    have hi1 := hw.2.1
    have hi2 := hw2.2.1
    have hi3 := hw3.2.1
    have hPl := ahd_le (p := bytesOf P) (ind := bytesOf I) (by rw [bytesOf_length]; exact hI) (m + 1)
    rw [bytesOf_length] at hPl
    have hlay := T.lay_len W (ind := bytesOf I) (by rw [bytesOf_length]; exact hI) t (ahd (bytesOf P) (bytesOf I) (m + 1)) (((ahd (bytesOf P) (bytesOf I) (m + 1)).length : Int) + nm.length + 3) (by omega)
    obtain ⟨z, d, hzd, hd⟩ := T.lay_last hr W (bytesOf I) (ahd (bytesOf P) (bytesOf I) (m + 1)) (((ahd (bytesOf P) (bytesOf I) (m + 1)).length : Int) + nm.length + 3)
    rw [hzd] at hlay
    simp only [List.length_append, List.length_cons, List.length_nil] at hlay
    obtain ⟨nl1, ok1, h1'⟩ := any_lay hI hW hl t (y ++ [123] ++ [10] ++ ahd (bytesOf P) (bytesOf I) (m + 1) ++ nm ++ [58] ++ [32]) c2 e2 (m + 1) ((y.length : Int) + 1) (((ahd (bytesOf P) (bytesOf I) (m + 1)).length : Int) + nm.length + 3) hr hk.stop (by omega) (by simp only [List.length_append, List.length_cons, List.length_nil]; omega) (fun _ => by simp only [List.length_append, List.length_cons, List.length_nil]; omega) (by omega) (by omega) (by simp only [List.length_append, List.length_cons, List.length_nil]; omega)
    have h1 := any_skip hl (hw2.toSk.trans ((Sk.one hc0 (by omega)).trans hw3.toSk)) h1'
    obtain ⟨nl2, ok2, h2⟩ := lay_M hI hW hl mm (y ++ [123] ++ [10] ++ ahd (bytesOf P) (bytesOf I) (m + 1) ++ nm ++ [58] ++ [32] ++ z) d e2 e m nl1 (0 + 1) hd (by omega) (by omega) hk (by omega) (by omega) (by simp only [List.length_append, List.length_cons, List.length_nil]; omega)
    have hs := string_ev (x := y ++ [123] ++ [10] ++ ahd (bytesOf P) (bytesOf I) (m + 1)) (nl := (y.length : Int) + 1) hl hn ⟨nr, hnr, hns⟩ (by simp only [List.length_append, List.length_cons, List.length_nil]; omega)
    refine ⟨nl2, ok2, ?_⟩
    have e3 : y ++ [123] ++ [10] ++ ahd (bytesOf P) (bytesOf I) (m + 1) ++ nm ++ [58] ++ [32] ++ z ++ [d] ++ mm.layT W (bytesOf I) (ahd (bytesOf P) (bytesOf I) m) = y ++ [123] ++ (TM.cons nm t mm).layF W (bytesOf I) (ahd (bytesOf P) (bytesOf I) m) := by
      simp only [TM.layF]
      show _ = y ++ [123] ++ 10 :: (ahd (bytesOf P) (bytesOf I) (m + 1) ++ (nm ++ 58 :: 32 :: (t.lay W (bytesOf I) (ahd (bytesOf P) (bytesOf I) (m + 1)) (((ahd (bytesOf P) (bytesOf I) (m + 1)).length : Int) + nm.length + 3) ++ mm.layT W (bytesOf I) (ahd (bytesOf P) (bytesOf I) m))))
      rw [hzd]; simp
    rw [e3] at h2
    rw [hzd, ← List.append_assoc] at h1
    have h10 : Ev (fun k => pretty_appendPrettyObject.j10 k (y ++ [123] ++ [10] ++ ahd (bytesOf P) (bytesOf I) (m + 1)) l a 123 125 true W P I false m ((y.length : Int) + 1) (-1) [] (0) 0 0 0 0) (y ++ [123] ++ (TM.cons nm t mm).layF W (bytesOf I) (ahd (bytesOf P) (bytesOf I) m), e, nl2, ok2) := by
      refine Ev.step (f := fun k => (pretty_appendPrettyString.f k (y ++ [123] ++ [10] ++ ahd (bytesOf P) (bytesOf I) (m + 1)) l a ((y.length : Int) + 1)).bind fun t => pretty_appendPrettyObject.j11 k t.1 l t.2.1 123 125 true W P I false m t.2.2.1 (-1) [] (0) 0 0 0 0) (fun k => ?_) (Ev.bind hs (Ev.step (fun k => ?_) (p_val (cl := 125) (by omega) (by omega) (by omega) ⟨by omega, by omega⟩ (any_f h1) h2)))
      · simp only [pretty_appendPrettyObject.j10]; rw [if_pos (by trivial)]; simp only [Bool.false_eq_true, if_false]
      · simp only [pretty_appendPrettyObject.j11]
        rw [if_pos (by simp only [List.length_append, List.length_cons, List.length_nil]; omega), Option.bind_some, if_pos (by trivial), if_pos (by simp only [List.length_append, List.length_cons, List.length_nil]; omega)]
    refine obj_skip hl hw (Ev.step (f := fun k => pretty_appendPrettyObject.j7 k (y ++ [123]) l a 123 125 true W P I false m nl (-1) [] 0 true) (fun k => ?_) (Ev.step (f := fun k => pretty_appendPrettyObject.j8 k (y ++ [123]) l a 123 125 true W P I false m nl (-1) [] 0) (fun k => ?_) ?_))
    · simp only [pretty_appendPrettyObject.l0]
      rw [if_pos hn1.2.1, if_pos hn1.2.2, if_neg (by omega), if_neg (by omega), if_neg (by decide), hn1.1]; rfl
    · simp only [pretty_appendPrettyObject.j7]
      rw [if_pos (by trivial), if_neg (by omega)]
    · exact p_j8 (by decide) (by omega) (p_j9 hI (by omega) (by omega) (by simp only [List.length_append, List.length_cons, List.length_nil]; push_cast; omega) h10)
theorem lay_M (hI : I.size ≤ 64) (hW : -9223372036854775808 ≤ W ∧ W ≤ 9223372036854775807) (hl : l.length ≤ 4611686018427387904) : ∀ (mm : TM) (y : List Int) (c i e : Int) (m : Nat) (nl n : Int), c ≠ 32 → 0 < n → n ≤ 1 + i → RdM l mm i e → mm.sz ≤ 4095 → P.size + 64 * m + 64 * mm.sz + 64 ≤ 262208 → (y.length : Int) + 262300 * mm.sz + 1000000 < lim →
    ∃ nl' ok, Ev (fun k => pretty_appendPrettyObject.l0 k (y ++ [c]) l i 123 125 true W P I false m nl (-1) [] n) (y ++ [c] ++ mm.layT W (bytesOf I) (ahd (bytesOf P) (bytesOf I) m), e, nl', ok)
  | .nil, y, c, i, e, m, nl, n, hc, hn0, hn1, h, hz, hm, hx => by
    simp only [RdM] at h
    obtain ⟨a, hw, ha, he⟩ := h
    subst he
    simp only [TM.layT]
    exact ⟨_, _, obj_skip hl hw (p_end hI (by omega) (by omega) (by decide) hc ha hl hn0 (by omega))⟩
  | .cons nm t mm, y, c, i, e, m, nl, n, hc, hn0, hn1, h, hz, hm, hx => by
    simp only [RdM] at h
    obtain ⟨z0, a, b, c2, e2, hw0, hz0, hw, hn, hok, hw2, hc0, hw3, hr, hk⟩ := h
    simp only [TM.sz] at hz hm hx
    have hz1 := hz0.1
    have hz2 := hz0.2.1
    have hz3 := hz0.2.2.1
    have hw01 := hw0.2.1
    have hxx := hx
    unfold lim at hxx
    obtain ⟨nr, hnr, hns⟩ := hok
    have hn1 : rd l a = 34 ∧ a < l.length ∧ 0 ≤ a := by subst hnr; exact ⟨hn.2.2.1, hn.2.1, hn.1⟩
    have hb := T.sz_le t hr
    have hb2 := TM.szT_le mm hk
    have hnb := hn.bound
    have hi0 := hw.1
    have hi1 := hw.2.1
    have hi2 := hw2.2.1
    have hi3 := hw3.2.1
    have hPl := ahd_le (p := bytesOf P) (ind := bytesOf I) (by rw [bytesOf_length]; exact hI) (m + 1)
    rw [bytesOf_length] at hPl
    have hlay := T.lay_len W (ind := bytesOf I) (by rw [bytesOf_length]; exact hI) t (ahd (bytesOf P) (bytesOf I) (m + 1)) (((ahd (bytesOf P) (bytesOf I) (m + 1)).length : Int) + nm.length + 3) (by omega)
    obtain ⟨z, d, hzd, hd⟩ := T.lay_last hr W (bytesOf I) (ahd (bytesOf P) (bytesOf I) (m + 1)) (((ahd (bytesOf P) (bytesOf I) (m + 1)).length : Int) + nm.length + 3)
    rw [hzd] at hlay
    simp only [List.length_append, List.length_cons, List.length_nil] at hlay
    have hyl : ((y ++ [c]).length : Int) = (y.length : Int) + 1 := by simp
    obtain ⟨nl1, ok1, h1'⟩ := any_lay hI hW hl t (y ++ [c] ++ [44] ++ [10] ++ ahd (bytesOf P) (bytesOf I) (m + 1) ++ nm ++ [58] ++ [32]) c2 e2 (m + 1) (((y ++ [c]).length : Int) + 1) (((ahd (bytesOf P) (bytesOf I) (m + 1)).length : Int) + nm.length + 3) hr hk.stop (by omega) (by simp only [List.length_append, List.length_cons, List.length_nil]; omega) (fun _ => by simp only [List.length_append, List.length_cons, List.length_nil]; omega) (by omega) (by omega) (by simp only [List.length_append, List.length_cons, List.length_nil]; omega)
    have h1 := any_skip hl (hw2.toSk.trans ((Sk.one hc0 (by omega)).trans hw3.toSk)) h1'
    obtain ⟨nl2, ok2, h2⟩ := lay_M hI hW hl mm (y ++ [c] ++ [44] ++ [10] ++ ahd (bytesOf P) (bytesOf I) (m + 1) ++ nm ++ [58] ++ [32] ++ z) d e2 e m nl1 (n + 1) hd (by omega) (by omega) hk (by omega) (by omega) (by simp only [List.length_append, List.length_cons, List.length_nil]; omega)
    have hs := string_ev (x := y ++ [c] ++ [44] ++ [10] ++ ahd (bytesOf P) (bytesOf I) (m + 1)) (nl := ((y ++ [c]).length : Int) + 1) hl hn ⟨nr, hnr, hns⟩ (by simp only [List.length_append, List.length_cons, List.length_nil]; omega)
    refine ⟨nl2, ok2, ?_⟩
    have e3 : y ++ [c] ++ [44] ++ [10] ++ ahd (bytesOf P) (bytesOf I) (m + 1) ++ nm ++ [58] ++ [32] ++ z ++ [d] ++ mm.layT W (bytesOf I) (ahd (bytesOf P) (bytesOf I) m) = y ++ [c] ++ (TM.cons nm t mm).layT W (bytesOf I) (ahd (bytesOf P) (bytesOf I) m) := by
      simp only [TM.layT]
      show _ = y ++ [c] ++ 44 :: 10 :: (ahd (bytesOf P) (bytesOf I) (m + 1) ++ (nm ++ 58 :: 32 :: (t.lay W (bytesOf I) (ahd (bytesOf P) (bytesOf I) (m + 1)) (((ahd (bytesOf P) (bytesOf I) (m + 1)).length : Int) + nm.length + 3) ++ mm.layT W (bytesOf I) (ahd (bytesOf P) (bytesOf I) m))))
      rw [hzd]; simp
    rw [e3] at h2
    rw [hzd, ← List.append_assoc] at h1
    have h10 : Ev (fun k => pretty_appendPrettyObject.j10 k (y ++ [c] ++ [44] ++ [10] ++ ahd (bytesOf P) (bytesOf I) (m + 1)) l a 123 125 true W P I false m (((y ++ [c]).length : Int) + 1) (-1) [] (n) 0 0 0 0) (y ++ [c] ++ (TM.cons nm t mm).layT W (bytesOf I) (ahd (bytesOf P) (bytesOf I) m), e, nl2, ok2) := by
      refine Ev.step (f := fun k => (pretty_appendPrettyString.f k (y ++ [c] ++ [44] ++ [10] ++ ahd (bytesOf P) (bytesOf I) (m + 1)) l a (((y ++ [c]).length : Int) + 1)).bind fun t => pretty_appendPrettyObject.j11 k t.1 l t.2.1 123 125 true W P I false m t.2.2.1 (-1) [] (n) 0 0 0 0) (fun k => ?_) (Ev.bind hs (Ev.step (fun k => ?_) (p_val (cl := 125) (by omega) (by omega) (by omega) ⟨by omega, by omega⟩ (any_f h1) h2)))
      · simp only [pretty_appendPrettyObject.j10]; rw [if_pos (by trivial)]; simp only [Bool.false_eq_true, if_false]
      · simp only [pretty_appendPrettyObject.j11]
        rw [if_pos (by simp only [List.length_append, List.length_cons, List.length_nil]; omega), Option.bind_some, if_pos (by trivial), if_pos (by simp only [List.length_append, List.length_cons, List.length_nil]; omega)]
    refine obj_skip hl hw0 (Ev.step (f := fun k => pretty_appendPrettyObject.j7 k (y ++ [c]) l z0 123 125 true W P I false m nl (-1) [] n false) (fun k => ?_) (Ev.step (f := fun k => pretty_appendPrettyObject.l0 k (y ++ [c]) l (z0 + 1) 123 125 true W P I false m nl (-1) [] n) (fun k => ?_) ?_))
    · simp only [pretty_appendPrettyObject.l0]
      rw [if_pos hz2, if_pos hz1, if_neg (by omega), if_neg (by omega), if_neg (by decide), hz3]; rfl
    · simp only [pretty_appendPrettyObject.j7]
      rw [if_neg (by simp), wr (by omega) (by omega)]
    refine obj_skip hl hw (Ev.step (f := fun k => pretty_appendPrettyObject.j7 k (y ++ [c]) l a 123 125 true W P I false m nl (-1) [] n true) (fun k => ?_) (Ev.step (f := fun k => pretty_appendPrettyObject.j8 k (y ++ [c] ++ [44]) l a 123 125 true W P I false m nl (-1) [] n) (fun k => ?_) ?_))
    · simp only [pretty_appendPrettyObject.l0]
      rw [if_pos hn1.2.1, if_pos hn1.2.2, if_neg (by omega), if_neg (by omega), if_neg (by decide), hn1.1]; rfl
    · simp only [pretty_appendPrettyObject.j7]
      rw [if_pos (by trivial), if_pos (by omega), if_pos (by simp only [List.length_append, List.length_cons, List.length_nil]; omega), Option.bind_some]
      by_cases hw1 : W = -1
      · rw [if_pos hw1]
      · rw [if_neg hw1, if_neg (by decide)]
    · exact p_j8 (by decide) (by simp only [List.length_append, List.length_cons, List.length_nil]; omega) (p_j9 hI (by omega) (by omega) (by simp only [List.length_append, List.length_cons, List.length_nil]; push_cast; omega) h10)
end
end Go.Proofs.Ytbkgoccnegjdhaa.U

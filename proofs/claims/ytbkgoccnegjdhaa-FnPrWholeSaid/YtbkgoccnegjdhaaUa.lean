/- The package's appendPrettyAny and appendPrettyObject in plain words: by lines. -/
import Derived.Test.YtbkgoccnegjdhaaU9
namespace Go.Proofs.Ytbkgoccnegjdhaa.U
open Go.RowKit Go.Proofs.YtbkgoccnegjdhaaW.PrintWords Go.Proofs.Ytbkgoccnegjdhaa.Q
theorem rd_last {y : List Int} {c : Int} : rd (y ++ [c]) (y.length : Int) = c := by
  unfold rd
  rw [List.getD_eq_getElem?_getD, List.getElem?_append_right (by omega)]
  simp
theorem set_last {y : List Int} {c d : Int} : (y ++ [c]).set (y.length : Int).toNat d = y ++ [d] := by
  rw [List.set_append_right _ _ (by omega)]
  simp
/-! ### the last byte -/
theorem ScanB.last {r : List Int} (h : ScanB r) : ∃ z, r = z ++ [34] := by
  induction h with
  | stop => exact ⟨[], rfl⟩
  | @plain c r _ _ _ ih => obtain ⟨z, e⟩ := ih; exact ⟨c :: z, by rw [e]; rfl⟩
  | @esc c r _ ih => obtain ⟨z, e⟩ := ih; exact ⟨92 :: c :: z, by rw [e]; rfl⟩
theorem LeafOK.last {b : List Int} (h : LeafOK b) : ∃ z c, b = z ++ [c] ∧ c ≠ 32 := by
  rcases h with h | h | h | h | h
  · obtain ⟨r, e, hs⟩ := h; obtain ⟨z, e2⟩ := hs.last; exact ⟨34 :: z, 34, by rw [e, e2]; rfl, by decide⟩
  · obtain ⟨c, r, e, hc, hr⟩ := h
    rcases List.eq_nil_or_concat r with h | ⟨z, d, h⟩
    · subst h; exact ⟨[], c, e, by omega⟩
    · subst h; exact ⟨c :: z, d, by rw [e]; simp, by have := (hr d (by simp)).1; omega⟩
  · exact ⟨[116, 114, 117], 101, h, by decide⟩
  · exact ⟨[102, 97, 108, 115], 101, h, by decide⟩
  · exact ⟨[110, 117, 108], 108, h, by decide⟩
theorem TL.line1_last : ∀ k : TL, ∃ z, k.line1 = z ++ [93]
  | .nil => ⟨[], rfl⟩
  | .cons t k => by obtain ⟨z, e⟩ := TL.line1_last k; exact ⟨44 :: 32 :: (t.line ++ z), by simp only [TL.line1]; rw [e]; simp⟩
theorem TL.line0_last : ∀ k : TL, ∃ z, k.line0 = z ++ [93]
  | .nil => ⟨[], rfl⟩
  | .cons t k => by obtain ⟨z, e⟩ := TL.line1_last k; exact ⟨t.line ++ z, by simp only [TL.line0]; rw [e]; simp⟩
theorem TL.layT_last (W : Int) (ind : List Int) : ∀ (k : TL) (ah : List Int), ∃ z, k.layT W ind ah = z ++ [93]
  | .nil, ah => ⟨10 :: ah, rfl⟩
  | .cons t k, ah => by
    obtain ⟨z, e⟩ := TL.layT_last W ind k ah
    exact ⟨44 :: 10 :: ((ah ++ ind) ++ (t.lay W ind (ah ++ ind) ((ah ++ ind).length : Int) ++ z)), by simp only [TL.layT]; rw [e]; simp⟩
theorem TL.layF_last (W : Int) (ind : List Int) : ∀ (k : TL) (ah : List Int), ∃ z, k.layF W ind ah = z ++ [93]
  | .nil, ah => ⟨[], rfl⟩
  | .cons t k, ah => by
    obtain ⟨z, e⟩ := TL.layT_last W ind k ah
    exact ⟨10 :: ((ah ++ ind) ++ (t.lay W ind (ah ++ ind) (((ah ++ ind).length : Int) + 1) ++ z)), by simp only [TL.layF]; rw [e]; simp⟩
theorem TM.layT_last (W : Int) (ind : List Int) : ∀ (m : TM) (ah : List Int), ∃ z, m.layT W ind ah = z ++ [125]
  | .nil, ah => ⟨10 :: ah, rfl⟩
  | .cons n t m, ah => by
    obtain ⟨z, e⟩ := TM.layT_last W ind m ah
    exact ⟨44 :: 10 :: ((ah ++ ind) ++ (n ++ 58 :: 32 :: (t.lay W ind (ah ++ ind) (((ah ++ ind).length : Int) + n.length + 3) ++ z))), by simp only [TM.layT]; rw [e]; simp⟩
theorem TM.layF_last (W : Int) (ind : List Int) : ∀ (m : TM) (ah : List Int), ∃ z, m.layF W ind ah = z ++ [125]
  | .nil, ah => ⟨[], rfl⟩
  | .cons n t m, ah => by
    obtain ⟨z, e⟩ := TM.layT_last W ind m ah
    exact ⟨10 :: ((ah ++ ind) ++ (n ++ 58 :: 32 :: (t.lay W ind (ah ++ ind) (((ah ++ ind).length : Int) + n.length + 3) ++ z))), by simp only [TM.layF]; rw [e]; simp⟩
theorem T.lay_last {l : List Int} {t : T} {i e : Int} (h : Rd l t i e) (W : Int) (ind ah : List Int) (col : Int) : ∃ z c, t.lay W ind ah col = z ++ [c] ∧ c ≠ 32 := by
  cases t with
  | leaf b => simp only [Rd] at h; simp only [T.lay]; exact h.2.2.last
  | arr k =>
    simp only [T.lay]
    split
    · obtain ⟨z, e⟩ := TL.line0_last k; exact ⟨91 :: z, 93, by rw [e]; rfl, by decide⟩
    · obtain ⟨z, e⟩ := TL.layF_last W ind k ah; exact ⟨91 :: z, 93, by rw [e]; rfl, by decide⟩
  | obj m => obtain ⟨z, e⟩ := TM.layF_last W ind m ah; exact ⟨123 :: z, 125, by simp only [T.lay]; rw [e]; rfl, by decide⟩
variable {x l : List Int} {W : Int} {P I : ByteArray} {sk : Bool} {tb nl mx : Int} {r : List Int × Int × Int × Bool} {op cl : Int} {ps : List S82} {n : Int}
/-! ### the steps of a line -/
theorem p_j8 {i : Int} {y : List Int} {c : Int} (hc : c ≠ 32) (hx : (y.length : Int) + 10 < lim)
    (h : Ev (fun k => pretty_appendPrettyObject.j9 k (y ++ [c] ++ [10]) l i op cl true W P I sk tb ((y.length : Int) + 1) mx ps n 0 0 0 0) r) :
    Ev (fun k => pretty_appendPrettyObject.j8 k (y ++ [c]) l i op cl true W P I sk tb nl mx ps n) r := by
  refine Ev.step (fun k => ?_) h
  have hl : ((y ++ [c]).length : Int) = (y.length : Int) + 1 := by simp
  have hb := hx
  unfold lim at hb
  simp only [pretty_appendPrettyObject.j8]
  rw [if_pos (by trivial), hl, wr (by omega) (by omega), show (y.length : Int) + 1 - 1 = y.length by omega, if_pos (by omega), if_pos (by omega), rd_last, if_neg hc, if_pos (by simp only [List.length_append, List.length_cons, List.length_nil]; omega)]
theorem p_j8' {i : Int} {y : List Int} (hx : (y.length : Int) + 10 < lim)
    (h : Ev (fun k => pretty_appendPrettyObject.j9 k (y ++ [10]) l i op cl true W P I sk tb ((y.length : Int) + 1) mx ps n 0 0 0 0) r) :
    Ev (fun k => pretty_appendPrettyObject.j8 k (y ++ [32]) l i op cl true W P I sk tb nl mx ps n) r := by
  refine Ev.step (fun k => ?_) h
  have hl : ((y ++ [32]).length : Int) = (y.length : Int) + 1 := by simp
  have hb := hx
  unfold lim at hb
  simp only [pretty_appendPrettyObject.j8]
  rw [if_pos (by trivial), hl, wr (by omega) (by omega), show (y.length : Int) + 1 - 1 = y.length by omega, if_pos (by omega), if_pos (by omega), rd_last, if_pos (by trivial), set_last]
theorem p_j9 {i : Int} {m : Nat} (hI : I.size ≤ 64) (hm : m ≤ 10000) (hop : op = 91 ∨ op = 123) (hx : (x.length : Int) + P.size + 64 * (m + 1 : Nat) < lim)
    (h : Ev (fun k => pretty_appendPrettyObject.j10 k (x ++ ahd (bytesOf P) (bytesOf I) (m + 1)) l i op cl true W P I false m nl mx ps n 0 0 0 0) r) :
    Ev (fun k => pretty_appendPrettyObject.j9 k x l i op cl true W P I false m nl mx ps n 0 0 0 0) r := by
  have ht := tabs_ev (x := x) (P := P) hI (n := m + 1) (by omega) hx
  refine Ev.step (f := fun k => (pretty_appendTabs.f k x P I ((m + 1 : Nat) : Int)).bind fun t => pretty_appendPrettyObject.j10 k t l i op cl true W P I false m nl mx ps n 0 0 0 0) (fun k => ?_) (Ev.bind ht h)
  simp only [pretty_appendPrettyObject.j9]
  rw [wr (by omega) (by omega)]
  rcases hop with h | h <;> subst h
  · rw [if_neg (by decide)]; rfl
  · rw [if_pos (by trivial), if_neg (by simp)]; rfl
/-- From an element's or a member's value on to the rest. -/
theorem p_val {i : Int} {m : Nat} {y : List Int} {a nl2 : Int} {ok : Bool} (hm : m ≤ 10000) (ha : 0 ≤ a) (hal : a ≤ 4611686018427387904) (hn : 0 ≤ n ∧ n ≤ 4611686018427387905)
    (h : Ev (fun k => pretty_appendPrettyAny.f k x l i true W P I false ((m + 1 : Nat) : Int) nl (-1)) (y, a, nl2, ok))
    (hr : Ev (fun k => pretty_appendPrettyObject.l0 k y l a op cl true W P I false m nl2 (-1) ps (n + 1)) r) :
    Ev (fun k => pretty_appendPrettyObject.j12 k x l i op cl true W P I false m nl (-1) ps n 0 0 0 0) r := by
  have h14 : Ev (fun k => pretty_appendPrettyObject.j14 k y l a op cl true W P I false m nl2 (-1) ps n false 0 0 0 0) r := by
    refine Ev.step (fun k => ?_) hr
    simp only [pretty_appendPrettyObject.j14]
    rw [if_neg (by simp), wr (i := a - 1) (by omega) (by omega), wr (i := a - 1 + 1) (by omega) (by omega), wr (by omega) (by omega), show a - 1 + 1 = a by omega]
  refine Ev.step (f := fun k => (pretty_appendPrettyAny.f k x l i true W P I false ((m + 1 : Nat) : Int) nl (-1)).bind fun t => pretty_appendPrettyObject.j13 k t.1 l t.2.1 op cl true W P I false m t.2.2.1 (-1) ps n false 0 0 0 0) (fun k => ?_) (Ev.bind h (Ev.step (fun k => ?_) h14))
  · simp only [pretty_appendPrettyObject.j12]
    rw [wr (by omega) (by omega)]; rfl
  · simp only [pretty_appendPrettyObject.j13]
    rw [if_neg (by simp), if_pos (by trivial)]
    by_cases ho : op = 123
    · rw [if_pos ho]
    · rw [if_neg ho]
/-- The end of an array or object that has something in it. -/
theorem p_end {i : Int} {m : Nat} {y : List Int} {c : Int} (hI : I.size ≤ 64) (hm : m ≤ 10000) (hop : op = 91 ∨ op = 123) (hcl : 32 < cl) (hc : c ≠ 32) (ha : At l i [cl]) (hl : l.length ≤ 4611686018427387904) (hn : 0 < n) (hx : (y.length : Int) + P.size + 64 * m + 100 < lim) :
    Ev (fun k => pretty_appendPrettyObject.l0 k (y ++ [c]) l i op cl true W P I false m nl mx ps n) (y ++ [c] ++ 10 :: (ahd (bytesOf P) (bytesOf I) m ++ [cl]), i + 1, (y.length : Int) + 1, op != 123) := by
  obtain ⟨h1, h2, h3, h4⟩ := ha
  have hb := hx
  unfold lim at hb
  have ht := tabs_ev (x := y ++ [c] ++ [10]) (P := P) hI (n := m) (by omega) (by simp only [List.length_append, List.length_cons, List.length_nil]; push_cast; omega)
  have hle := ahd_le (p := bytesOf P) (ind := bytesOf I) (by rw [bytesOf_length]; exact hI) m
  rw [bytesOf_length] at hle
  have e : y ++ [c] ++ 10 :: (ahd (bytesOf P) (bytesOf I) m ++ [cl]) = y ++ [c] ++ [10] ++ ahd (bytesOf P) (bytesOf I) m ++ [cl] := by simp
  rw [e]
  have h6 : Ev (fun k => pretty_appendPrettyObject.j6 k (y ++ [c] ++ [10]) i op cl P I m ((y.length : Int) + 1)) (y ++ [c] ++ [10] ++ ahd (bytesOf P) (bytesOf I) m ++ [cl], i + 1, (y.length : Int) + 1, op != 123) := by
    refine Ev.step (f := fun k => (pretty_appendTabs.f k (y ++ [c] ++ [10]) P I m).bind fun t => if t.length < 140737488355328 then some (t ++ [cl], wrap64 (i + 1), (y.length : Int) + 1, op != 123) else none) (fun k => ?_) (Ev.bind ht (Ev.congr (fun k => ?_) (Ev.now _)))
    · have hl2 : ((y ++ [c] ++ [10]).length : Int) = ((y ++ [c]).length : Int) + 1 := by simp; omega
      simp only [pretty_appendPrettyObject.j6]
      rw [hl2, wr (by simp only [List.length_append, List.length_cons, List.length_nil]; push_cast; omega) (by simp only [List.length_append, List.length_cons, List.length_nil]; push_cast; omega), show ((y ++ [c]).length : Int) + 1 - 1 = (y ++ [c]).length by omega, if_pos (by omega), if_pos (by omega), rd_last, if_neg (by omega)]
    · rw [if_pos (by simp only [List.length_append, List.length_cons, List.length_nil]; omega), wr (by omega) (by omega)]
  have h5 : Ev (fun k => pretty_appendPrettyObject.j5 k (y ++ [c]) i op cl P I m nl n false) (y ++ [c] ++ [10] ++ ahd (bytesOf P) (bytesOf I) m ++ [cl], i + 1, (y.length : Int) + 1, op != 123) := by
    refine Ev.step (fun k => ?_) h6
    have hl2 : ((y ++ [c]).length : Int) = (y.length : Int) + 1 := by simp
    simp only [pretty_appendPrettyObject.j5]
    rw [if_neg (by simp), if_pos hn, hl2, wr (by omega) (by omega), show (y.length : Int) + 1 - 1 = y.length by omega, if_pos (by omega), if_pos (by omega), rd_last, if_neg hc, if_pos (by simp only [List.length_append, List.length_cons, List.length_nil]; omega)]
  refine Ev.step (fun k => ?_) h5
  simp only [pretty_appendPrettyObject.l0]
  rw [if_pos h2, if_pos h1, if_neg (by omega), if_pos h3, if_pos (by trivial)]
  by_cases ho : op = 123
  · rw [if_pos ho]
  · rw [if_neg ho]
/-- The end of an empty one. -/
theorem p_nil {i : Int} {m : Nat} {y : List Int} (hcl : 32 < cl) (ha : At l i [cl]) (hl : l.length ≤ 4611686018427387904) (hx : (y.length : Int) + 100 < lim) :
    Ev (fun k => pretty_appendPrettyObject.l0 k (y ++ [op]) l i op cl true W P I false m nl mx ps 0) (y ++ [op] ++ [cl], i + 1, nl, op != 123) := by
  obtain ⟨h1, h2, h3, h4⟩ := ha
  have hb := hx
  unfold lim at hb
  have h6 : Ev (fun k => pretty_appendPrettyObject.j6 k (y ++ [op]) i op cl P I m nl) (y ++ [op] ++ [cl], i + 1, nl, op != 123) := by
    refine Ev.const _ fun k => ?_
    have hl2 : ((y ++ [op]).length : Int) = (y.length : Int) + 1 := by simp
    simp only [pretty_appendPrettyObject.j6]
    rw [hl2, wr (by omega) (by omega), show (y.length : Int) + 1 - 1 = y.length by omega, if_pos (by omega), if_pos (by omega), rd_last, if_pos rfl, if_pos (by simp only [List.length_append, List.length_cons, List.length_nil]; omega), wr (by omega) (by omega)]
  have h5 : Ev (fun k => pretty_appendPrettyObject.j5 k (y ++ [op]) i op cl P I m nl 0 false) (y ++ [op] ++ [cl], i + 1, nl, op != 123) := by
    refine Ev.step (fun k => ?_) h6
    simp only [pretty_appendPrettyObject.j5]
    rw [if_neg (by simp), if_neg (by omega)]
  refine Ev.step (fun k => ?_) h5
  simp only [pretty_appendPrettyObject.l0]
  rw [if_pos h2, if_pos h1, if_neg (by omega), if_pos h3, if_pos (by trivial)]
  by_cases ho : op = 123
  · rw [if_pos ho]
  · rw [if_neg ho]
end Go.Proofs.Ytbkgoccnegjdhaa.U

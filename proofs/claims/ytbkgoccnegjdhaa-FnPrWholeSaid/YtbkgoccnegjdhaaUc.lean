/- What the package writes of a JSON text, and what the reference's layout writes of it: the same. -/
import Derived.Test.YtbkgoccnegjdhaaU5
import Derived.Test.YtbkgoccnegjdhaaU7
import Derived.Test.YtbkgoccnegjdhaaUb
import Derived.Test.YtbkgoccnegjdhaaQ15
namespace Go.Proofs.Ytbkgoccnegjdhaa.U
open Go.RowKit Go.Proofs.YtbkgoccnegjdhaaW.PrintWords Go.Proofs.Ytbkgoccnegjdhaa.Q
theorem str_app (a b : List Int) : strOfNums (a ++ b) = strOfNums a ++ strOfNums b := by
  apply ByteArray.ext
  rw [ByteArray.data_append]
  apply Array.ext'
  rw [Array.toList_append, strOfNums_data, strOfNums_data, strOfNums_data, List.map_append]
theorem str_bytes (P : ByteArray) : strOfNums (bytesOf P) = P := by
  apply ByteArray.ext
  apply Array.ext'
  rw [strOfNums_data]
  unfold bytesOf
  rw [List.map_map]
  conv => rhs; rw [← List.map_id P.data.toList]
  apply List.map_congr_left
  intro x _
  simp
/-! ### prBlank -/
def spt (s : ByteArray) : Prop := s.size ≤ 64 ∧ ∀ q : Int, 0 ≤ q → q < s.size → bt s q = 32 ∨ bt s q = 9
theorem prBlank_l1 {s : ByteArray} {L : List ByteArray} {nL j : Int} (hs : s.size ≤ 4611686018427387904) {b0 : Bool} {Y : Prop} (hj : 0 ≤ j ∧ j < 10)
    (hy : Ev (fun k => laws_prBlank.l0 k L nL (j + 1)) b0) (hb : b0 = true → Y) (d : Nat) : ∀ i : Int, 0 ≤ i → (s.size : Int) - i ≤ d → (∀ q, 0 ≤ q → q < i → bt s q = 32 ∨ bt s q = 9) → i ≤ s.size →
    ∃ b, Ev (fun k => laws_prBlank.l1 k s i L nL j) b ∧ (b = true → spt s ∧ Y) := by
  induction d with
  | zero =>
    intro i h0 hd hq hle
    by_cases h64 : (s.size : Int) > 64
    · exact ⟨false, Ev.const _ fun k => by simp only [laws_prBlank.l1]; rw [if_neg (by omega), if_pos h64], fun h => by cases h⟩
    · refine ⟨b0, Ev.step (fun k => ?_) hy, fun h => ⟨⟨by omega, fun q h1 h2 => hq q h1 (by omega)⟩, hb h⟩⟩
      simp only [laws_prBlank.l1]; rw [if_neg (by omega), if_neg h64, wr (by omega) (by omega)]
  | succ d ih =>
    intro i h0 hd hq hle
    by_cases hi : i < (s.size : Int)
    · by_cases h32 : bt s i = 32 ∨ bt s i = 9
      · obtain ⟨b, hb', hY⟩ := ih (i + 1) (by omega) (by omega) (fun q h1 h2 => by
          by_cases e : q = i
          · subst e; exact h32
          · exact hq q h1 (by omega)) (by omega)
        refine ⟨b, Ev.step (fun k => ?_) hb', hY⟩
        simp only [laws_prBlank.l1]
        rw [if_pos hi, if_pos h0, wr (by omega) (by omega)]
        by_cases h : bt s i = 32
        · rw [if_pos h]
        · rw [if_neg h, if_pos (by omega)]
      · exact ⟨false, Ev.const _ fun k => by simp only [laws_prBlank.l1]; rw [if_pos hi, if_pos h0, if_neg (fun h => h32 (.inl h)), if_neg (fun h => h32 (.inr h))], fun h => by cases h⟩
    · by_cases h64 : (s.size : Int) > 64
      · exact ⟨false, Ev.const _ fun k => by simp only [laws_prBlank.l1]; rw [if_neg (by omega), if_pos h64], fun h => by cases h⟩
      · refine ⟨b0, Ev.step (fun k => ?_) hy, fun h => ⟨⟨by omega, fun q h1 h2 => hq q h1 (by omega)⟩, hb h⟩⟩
        simp only [laws_prBlank.l1]; rw [if_neg (by omega), if_neg h64, wr (by omega) (by omega)]
theorem prBlank_ev (W : Int) (P I : ByteArray) (sk : Bool) (hP : P.size ≤ 2147483647) (hI : I.size ≤ 2147483647) : ∃ b, Ev (fun k => laws_prBlank.f k W P I sk) b ∧ (b = true → spt P ∧ spt I) := by
  have hL : (([P, I] : List ByteArray).length : Int) = 2 := rfl
  have h2 : Ev (fun k => laws_prBlank.l0 k [P, I] (([P, I] : List ByteArray).length : Int) (1 + 1)) true :=
    Ev.const _ fun k => by simp only [laws_prBlank.l0]; rw [hL, if_neg (by omega)]
  obtain ⟨b1, h1, hb1⟩ := prBlank_l1 (s := I) (L := [P, I]) (j := 1) (Y := True) (by omega) (by omega) h2 (fun _ => trivial) I.size 0 (by omega) (by omega) (fun q _ _ => by omega) (by omega)
  have h1' : Ev (fun k => laws_prBlank.l0 k [P, I] (([P, I] : List ByteArray).length : Int) (0 + 1)) b1 :=
    Ev.step (fun k => by simp only [laws_prBlank.l0]; rw [hL, if_pos (by omega), if_pos (by omega), if_pos (by omega)]; rfl) h1
  obtain ⟨b0, h0, hb0⟩ := prBlank_l1 (s := P) (L := [P, I]) (j := 0) (Y := spt I) (by omega) (by omega) h1' (fun h => (hb1 h).1) P.size 0 (by omega) (by omega) (fun q _ _ => by omega) (by omega)
  refine ⟨b0, Ev.congr (f := fun k => laws_prBlank.l0 k [P, I] (([P, I] : List ByteArray).length : Int) 0) (fun k => rfl) (Ev.step (fun k => ?_) h0), hb0⟩
  simp only [laws_prBlank.l0]; rw [hL, if_pos (by omega), if_pos (by omega), if_pos (by omega)]; rfl
/-! ### what is written -/
def prettyB (k : Nat) (s : ByteArray) (W : Int) (P I : ByteArray) (sk : Bool) : Option ByteArray :=
  (pretty_appendPrettyAny.f k (bytesOf P) (bytesOf s) 0 true W P I sk 0 0 (-1)).bind fun t => if t.1.length > 0 then (if t.1.length < 140737488355328 then some (strOfNums (t.1 ++ [10])) else none) else some (strOfNums t.1)
/-- What a tree is written as, whole. -/
def whole (t : T) (W : Int) (P I : ByteArray) : List Int := bytesOf P ++ t.lay W (bytesOf I) (bytesOf P) P.size ++ [10]
theorem prettyB_ev {s : ByteArray} {t : T} {a e : Int} {W : Int} {P I : ByteArray} (hW : -9223372036854775808 ≤ W ∧ W ≤ 9223372036854775807) (hP : P.size ≤ 64) (hI : I.size ≤ 64) (hs : s.size ≤ 4611686018427387904) (hz : t.sz ≤ 4096)
    (hr : Rd (bytesOf s) t a e) (h0 : Wl (bytesOf s) 0 a) (he : Wl (bytesOf s) e s.size) : Ev (fun k => prettyB k s W P I false) (strOfNums (whole t W P I)) := by
  have hl : (bytesOf s).length ≤ 4611686018427387904 := by rw [bytesOf_length]; exact hs
  have hst : StopAt (bytesOf s) e := by
    obtain ⟨h1, h2, h3, h4⟩ := he
    by_cases h : e = s.size
    · left; rw [bytesOf_length]; exact h
    · right; left; exact h4 e (by omega) (by omega)
  obtain ⟨nl', ok, h⟩ := any_lay (W := W) (P := P) hI hW hl t (bytesOf P) a e 0 0 P.size hr hst (by omega) (by omega) (fun _ => by rw [bytesOf_length]; omega) hz (by omega) (by rw [bytesOf_length]; unfold lim; omega)
  have h2 := any_f (any_skip hl h0.toSk h)
  have hlay := T.lay_len W (ind := bytesOf I) (by rw [bytesOf_length]; exact hI) t (bytesOf P) P.size (by rw [bytesOf_length]; omega)
  have hne : 0 < (bytesOf P ++ t.lay W (bytesOf I) (bytesOf P) P.size).length := by
    obtain ⟨z, c, hzc, -⟩ := T.lay_last hr W (bytesOf I) (bytesOf P) P.size
    rw [hzc]; simp; omega
  have e0 : ahd (bytesOf P) (bytesOf I) 0 = bytesOf P := rfl
  rw [e0] at h2
  refine Ev.bind h2 (Ev.congr (fun k => ?_) (Ev.now _))
  dsimp only
  rw [if_pos hne, if_pos (by rw [List.length_append, bytesOf_length]; omega)]
  rfl
theorem laid_ev {s : ByteArray} {t : T} {p : S28} {W : Int} {P I : ByteArray} (hW : 0 ≤ W ∧ W ≤ 1073741824) (hP : P.size ≤ 64) (hI : I.size ≤ 64) (hz : t.sz ≤ 4096) (hp : Rep s t p) :
    Ev (fun k => spec_Layout_Laid.f k P I W s p.f0 p.f1 p.f2 p.f3 p.f4) (strOfNums (whole t W P I)) := by
  have h := value_lay (P := P) hI hW t p [] P P.size hp hz (by omega) (by omega) (by omega) (by simp; omega)
  have hlay := T.lay_len W (ind := bytesOf I) (by rw [bytesOf_length]; exact hI) t (bytesOf P) P.size (by rw [bytesOf_length]; omega)
  rw [List.nil_append] at h
  refine Ev.bind h (Ev.congr (fun k => ?_) (Ev.now _))
  have e : strOfNums (whole t W P I) = P ++ strOfNums (t.lay W (bytesOf I) (bytesOf P) P.size) ++ (⟨#[10]⟩ : ByteArray) := by
    unfold whole; rw [str_app, str_app, str_bytes]; rfl
  rw [if_pos (by rw [strOfNums_size]; omega), if_pos (by rw [ByteArray.size_append, strOfNums_size]; omega), e]
end Go.Proofs.Ytbkgoccnegjdhaa.U

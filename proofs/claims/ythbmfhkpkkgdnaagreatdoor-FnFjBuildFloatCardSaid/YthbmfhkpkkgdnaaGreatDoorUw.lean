/- The plain law of FnFjBuildFloat: what is written of a finite float64 is a number whose nearest float64 it is. -/
import Derived.Test.YthbmfhkpkkgdnaaGreatDoorUv
import Derived.Test.YthbmfhkpkkgdnaaGreatDoorT12
namespace Go.Proofs.YthbmfhkpkkgdnaaGreatDoor.U
open Go.RowKit Go.Proofs.YthbmfhkpkkgdnaaGreatDoorW.PrintWords Go.Proofs.YthbmfhkpkkgdnaaGreatDoorW.PrintLast Go.Proofs.YthbmfhkpkkgdnaaGreatDoorW.PrintMore Go.Proofs.YthbmfhkpkkgdnaaGreatDoor.Q
set_option linter.unusedVariables false
/-- The digits of D, nd of them. -/
def digs (D nd : Nat) : List Int := (List.range 32).map fun i => if i < nd then 48 + ((D / 10 ^ (nd - 1 - i) % 10 : Nat) : Int) else 0
theorem digs_len (D nd : Nat) : (digs D nd).length = 32 := by simp [digs]
theorem digs_at (D nd i : Nat) (hi : i < 32) : (digs D nd).getD i 0 = if i < nd then 48 + ((D / 10 ^ (nd - 1 - i) % 10 : Nat) : Int) else 0 := by
  unfold digs
  rw [List.getD_eq_getElem?_getD, List.getElem?_map, List.getElem?_range hi]; rfl
theorem put_eq {D nd : Nat} {l : List Int} (hl : l.length = 32) (h : Put D nd 0 (List.replicate 32 0) l) : l = digs D nd := by
  apply List.ext_getElem (by rw [hl, digs_len])
  intro i h1 h2
  have e1 := h i
  have e2 := digs_at D nd i (by omega)
  rw [List.getD_eq_getElem?_getD, List.getElem?_eq_getElem h1] at e1
  rw [List.getD_eq_getElem?_getD, List.getElem?_eq_getElem h2] at e2
  have e1 : l[i] = _ := e1
  have e2 : (digs D nd)[i] = _ := e2
  rw [e1, e2]
  by_cases c : i < nd
  · rw [if_pos ⟨by omega, c⟩, if_pos c]
  · rw [if_neg (by omega), if_neg c]
    rw [List.getD_eq_getElem?_getD, List.getElem?_replicate, if_pos (by omega)]; rfl
theorem D10_take {D nd : Nat} (hnd : nd ≤ 32) (hD : D < 10 ^ nd) : ∀ m, m ≤ nd → D10 ((digs D nd).take m) = D / 10 ^ (nd - m) := by
  intro m
  induction m with
  | zero => intro _; rw [List.take_zero, Nat.sub_zero, Nat.div_eq_of_lt hD]; rfl
  | succ m ih =>
    intro hm
    have h1 : (digs D nd)[m]? = some (48 + ((D / 10 ^ (nd - 1 - m) % 10 : Nat) : Int)) := by
      have := digs_at D nd m (by omega)
      rw [if_pos (by omega), List.getD_eq_getElem?_getD, List.getElem?_eq_getElem (by rw [digs_len]; omega)] at this
      rw [List.getElem?_eq_getElem (by rw [digs_len]; omega)]
      exact congrArg some this
    rw [List.take_add_one, h1, D10_append, ih (by omega), Option.toList_some, D10_cons]
    simp only [List.length_cons, List.length_nil, D10, List.foldl_nil]
    rw [show nd - m = (nd - 1 - m) + 1 by omega, Nat.pow_succ, ← Nat.div_div_eq_div_mul, show nd - (m + 1) = nd - 1 - m by omega]
    omega
/-- How many digits are left without the zeros at the end. -/
theorem trim_ex (l : List Int) : ∀ nd : Nat, ∃ n, n ≤ nd ∧ (∀ i, n ≤ i → i < nd → l.getD i 0 = 48) ∧ (n = 0 ∨ l.getD (n - 1) 0 ≠ 48) := by
  intro nd
  induction nd with
  | zero => exact ⟨0, Nat.le_refl _, fun i _ h => by omega, .inl rfl⟩
  | succ nd ih =>
    by_cases c : l.getD nd 0 = 48
    · obtain ⟨n, h1, h2, h3⟩ := ih
      refine ⟨n, by omega, fun i hi hi2 => ?_, h3⟩
      by_cases e : i = nd
      · rw [e]; exact c
      · exact h2 i hi (by omega)
    · exact ⟨nd + 1, Nat.le_refl _, fun i h1 h2 => by omega, .inr (by rw [Nat.add_sub_cancel]; exact c)⟩
theorem trim_uniq {l : List Int} {nd n m : Nat} (h1 : n ≤ nd) (h2 : ∀ i, n ≤ i → i < nd → l.getD i 0 = 48) (h3 : n = 0 ∨ l.getD (n - 1) 0 ≠ 48)
    (g1 : m ≤ nd) (g2 : ∀ i, m ≤ i → i < nd → l.getD i 0 = 48) (g3 : m = 0 ∨ l.getD (m - 1) 0 ≠ 48) : n = m := by
  rcases Nat.lt_trichotomy n m with h | h | h
  · rcases g3 with g3 | g3
    · omega
    · exact absurd (h2 (m - 1) (by omega) (by omega)) g3
  · exact h
  · rcases h3 with h3 | h3
    · omega
    · exact absurd (g2 (n - 1) (by omega) (by omega)) h3
theorem D10_trim {l : List Int} {n : Nat} : ∀ d, (∀ i, n ≤ i → i < n + d → l.getD i 0 = 48) → n + d ≤ l.length → D10 (l.take (n + d)) = D10 (l.take n) * 10 ^ d := by
  intro d
  induction d with
  | zero => intro _ _; simp
  | succ d ih =>
    intro h hl
    have h1 := h (n + d) (by omega) (by omega)
    rw [List.getD_eq_getElem?_getD, List.getElem?_eq_getElem (by omega)] at h1
    have h1 : l[n + d]'(by omega) = 48 := h1
    rw [← Nat.add_assoc, List.take_add_one, List.getElem?_eq_getElem (by omega), h1, D10_append, ih (fun i a b => h i a (by omega)) (by omega), Option.toList_some, show D10 [(48 : Int)] = 0 by decide, Nat.add_zero, Nat.mul_assoc, ← Nat.pow_add]
    rfl
/-- The powers of ten moved about. -/
theorem move_tens {Y t D d F : Nat} {q x1 p rp : Int} {nd n j : Nat} (hq : x1 ≤ q) (hF : F = Y * 10 ^ (q - x1).toNat) (hFd : F = d * 10 ^ j) (hx1 : x1 + j = nd + rp - n) (hn : n ≤ nd) (hD : D = d * 10 ^ (nd - n))
    (ht : (rp = -p ∧ D = t) ∨ (rp = 1 - p ∧ D * 10 = t)) (b1 : -2000 ≤ q ∧ q ≤ 2000) (b2 : -1000 ≤ x1) (b3 : -1000 ≤ p ∧ p ≤ 1000) :
    Y * 10 ^ q.toNat * 10 ^ p.toNat = t * 10 ^ (-q).toNat * 10 ^ (-p).toNat := by
  have pw : ∀ (a b c : Nat), a + b = c → (10 : Nat) ^ a * 10 ^ b = 10 ^ c := fun a b c h => by rw [← Nat.pow_add, h]
  -- over K = 5000
  have h1 : Y * 10 ^ (q + 5000).toNat = F * 10 ^ (x1 + 5000).toNat := by
    rw [hF, Nat.mul_assoc, pw _ _ (q + 5000).toNat (by omega)]
  have h2 : F * 10 ^ (x1 + 5000).toNat = D * 10 ^ (rp + 5000).toNat := by
    rw [hFd, hD, Nat.mul_assoc, Nat.mul_assoc, pw _ _ (j + (x1 + 5000).toNat) rfl, pw _ _ (j + (x1 + 5000).toNat) (by omega)]
  have h3 : D * 10 ^ (rp + 5000).toNat = t * 10 ^ (5000 - p).toNat := by
    rcases ht with ⟨e1, e2⟩ | ⟨e1, e2⟩
    · rw [e2, show (rp + 5000).toNat = (5000 - p).toNat by omega]
    · rw [← e2, Nat.mul_assoc, ← Nat.pow_succ', show (rp + 5000).toNat = (5000 - p).toNat + 1 by omega]
  have h4 : Y * 10 ^ (q + 5000).toNat * 10 ^ ((-q).toNat + p.toNat) = t * 10 ^ (5000 - p).toNat * 10 ^ ((-q).toNat + p.toNat) := by rw [h1, h2, h3]
  obtain ⟨K, hK⟩ : ∃ K : Nat, K = 5000 := ⟨_, rfl⟩
  have h5 : Y * 10 ^ q.toNat * 10 ^ p.toNat * 10 ^ K = t * 10 ^ (-q).toNat * 10 ^ (-p).toNat * 10 ^ K := by
    rw [Nat.mul_assoc, pw _ _ _ rfl] at h4
    rw [Nat.mul_assoc t, pw _ _ _ rfl] at h4
    rw [Nat.mul_assoc Y, pw _ _ _ rfl, Nat.mul_assoc Y, pw _ _ _ rfl, Nat.mul_assoc t, pw _ _ _ rfl, Nat.mul_assoc t, pw _ _ _ rfl]
    rw [show q.toNat + p.toNat + K = (q + 5000).toNat + ((-q).toNat + p.toNat) by omega, h4]
    congr 2
    omega
  exact Nat.eq_of_mul_eq_mul_right (Nat.pow_pos (by decide)) h5
theorem bytesOf_str {l : List Int} (h : ∀ c, c ∈ l → 0 ≤ c ∧ c ≤ 255) : bytesOf (strOfNums l) = l := by
  unfold bytesOf
  rw [strOfNums_data, List.map_map]
  conv => rhs; rw [← List.map_id l]
  apply List.map_congr_left
  intro c hc
  have := h c hc
  simp only [Function.comp_apply, UInt8.toNat_ofNat', id]
  omega
theorem text_byt {N : Num} (h : N.ok) : ∀ c, c ∈ N.text → 0 ≤ c ∧ c ≤ 255 := by
  intro c hc
  unfold Num.text Num.sg Num.ft Num.et at hc
  have hA := h.dA
  have hF := h.dF
  have hE := h.dE
  unfold isD at hA hF hE
  rcases List.mem_append.1 hc with h1 | h1
  · split at h1 <;> simp at h1; omega
  · rcases List.mem_append.1 h1 with h2 | h2
    · have := hA c h2; omega
    · rcases List.mem_append.1 h2 with h3 | h3
      · split at h3
        · simp at h3
        · rcases List.mem_cons.1 h3 with h4 | h4
          · omega
          · have := hF c h4; omega
      · cases hx : N.ex with
        | none => rw [hx] at h3; simp at h3
        | some q =>
          obtain ⟨b, ed⟩ := q
          rw [hx] at h3
          have h3 : c ∈ (101 : Int) :: (if b = true then 45 else 43) :: ed := h3
          rcases List.mem_cons.1 h3 with h4 | h4
          · omega
          · rcases List.mem_cons.1 h4 with h5 | h5
            · split at h5 <;> omega
            · have := (hE b ed hx).1 c h5; omega
theorem bt_isD {y : List Int} (hy : ∀ c, c ∈ y → isD c) : ∀ q : Int, 0 ≤ q → q < (strOfNums y).size → 48 ≤ bt (strOfNums y) q ∧ bt (strOfNums y) q ≤ 57 := by
  intro q h0 h1
  have hb : bytesOf (strOfNums y) = y := bytesOf_str (fun c hc => by have := hy c hc; unfold isD at this; omega)
  rw [← rd_bytesOf, hb]
  rw [strOfNums_size] at h1
  unfold rd
  rw [List.getD_eq_getElem?_getD, List.getElem?_eq_getElem (by omega)]
  exact hy _ (List.getElem_mem _)
theorem or_sign (a : Nat) (ha : a < 9223372036854775808) : Go.bits .or .u64 (a : Int) 9223372036854775808 = ((a + 9223372036854775808 : Nat) : Int) := by
  have h := (bits_nat .u64 64 (by decide) wraps_u64 a 9223372036854775808 (by omega) (by decide)).2
  have h2 := Nat.two_pow_add_eq_or_of_lt (i := 63) (b := a) (by omega) 1
  have e : 2 ^ 63 * 1 = 9223372036854775808 := by decide
  rw [e] at h2
  have h3 : Go.bits .or .u64 (a : Int) 9223372036854775808 = ((a ||| 9223372036854775808 : Nat) : Int) := h
  rw [h3, Nat.or_comm, ← h2, Nat.add_comm]
theorem loop_len (bs : ByteArray) : ∀ (d i : Nat) (r : List UInt8), bs.size - i = d → (ByteArray.toList.loop bs i r).length = d + r.length := by
  intro d
  induction d with
  | zero => intro i r h; rw [ByteArray.toList.loop, if_neg (by omega)]; simp
  | succ d ih => intro i r h; rw [ByteArray.toList.loop, if_pos (by omega), ih _ _ (by omega)]; simp; omega
theorem toList_len (bs : ByteArray) : bs.toList.length = bs.size := by
  unfold ByteArray.toList
  rw [loop_len bs bs.size 0 [] (by omega)]; simp
/-- The bits back, whatever the sign. -/
theorem nearest_bits {b : Nat} {y : List Int} {q : Int} (hb64 : b < 18446744073709551616) (hfin : b % 9223372036854775808 < 9218868437227405312) (hne : y ≠ []) (hlen : y.length ≤ 1000)
    (hsz : -400 ≤ q + y.length ∧ q + y.length ≤ 400)
    (h : Ev (fun k => spec_nearest.f k (decide (9223372036854775808 ≤ b)) (strOfNums y) q) ((b % 9223372036854775808 : Nat) : Int)) :
    Ev (fun k => spec_Nearest.f k (decide (9223372036854775808 ≤ b)) (strOfNums y) q) (b : Int) := by
  have hl : ¬ (strOfNums y).toList = [] := by
    intro e
    have h1 := congrArg List.length e
    have h2 : (strOfNums y).size = y.length := strOfNums_size y
    have h3 : (strOfNums y).toList.length = (strOfNums y).size := toList_len _
    rw [h3, h2] at h1
    exact hne (List.length_eq_zero_iff.1 h1)
  have h2 := Ev.bind (f := fun _ n => some (if decide (9223372036854775808 ≤ b) = true then Go.bits .or .u64 n 9223372036854775808 else n)) h (r := (b : Int)) (by
    refine Ev.congr (fun k => ?_) (Ev.now _)
    congr 1
    by_cases c : 9223372036854775808 ≤ b
    · rw [if_pos (decide_eq_true c), or_sign _ (by omega)]; omega
    · rw [if_neg (by rw [decide_eq_true_eq]; exact c)]; omega)
  refine Ev.congr (fun k => ?_) h2
  unfold spec_Nearest.f
  rw [if_neg hl, strOfNums_size, wr (by omega) (by omega), if_pos hsz]
/-- The law for a finite float64 that is not zero. -/
theorem law_pos {b : Nat} (hb64 : b < 18446744073709551616) (hfin : b % 9223372036854775808 < 9218868437227405312) (h0 : 0 < b % 9223372036854775808) :
    ∃ (k k2 : Nat) (r : List Int) (ng : Bool) (dg : ByteArray) (pw : Int), Texts k [] b r ∧ 0 < r.length ∧ r.length ≤ 800 ∧ spec_Value.f k2 (strOfNums r) = some (ng, dg, pw) ∧ spec_Nearest.f k2 ng dg pw = some (b : Int) := by
  obtain ⟨c, hc⟩ : ∃ c, c = b % 9223372036854775808 := ⟨_, rfl⟩
  rw [← hc] at hfin h0
  have hmb := mB_lt hfin
  have hM0 : mB c ≠ 0 := by unfold mB; split <;> omega
  obtain ⟨L, _, hL1, hL2, hL3, hL4⟩ := len64_eq (a := mB c) 0 (by omega) (by omega)
  have hL53 : L ≤ 53 := by
    apply Classical.byContradiction
    intro h
    have := Nat.pow_le_pow_right (n := 2) (i := 53) (j := L - 1) (by omega) (by omega)
    omega
  obtain ⟨D, t, rp, p, s1, s2, s3, s4, s5, s6, s7⟩ := short_ok h0 hfin ⟨hL1, hL53⟩ hL3 hL4
  obtain ⟨nd, _, n1, n2, n3, n4⟩ := numDigits_eq (D := D) 0 s5 (by omega)
  have hnd : nd ≤ 18 := by
    apply Classical.byContradiction
    intro h
    have := Nat.pow_le_pow_right (n := 10) (i := 18) (j := nd - 1) (by omega) (by omega)
    omega
  -- the digits
  obtain ⟨n, t1, t2, t3⟩ := trim_ex (digs D nd) nd
  have hdl := digs_len D nd
  have hdig : ∀ i, i < nd → isD ((digs D nd).getD i 0) := by
    intro i hi
    rw [digs_at D nd i (by omega), if_pos hi]
    unfold isD
    omega
  have hlead : (digs D nd).getD 0 0 ≠ 48 := by
    rw [digs_at D nd 0 (by omega), if_pos (by omega)]
    have h1 : 1 ≤ D / 10 ^ (nd - 1 - 0) := by rw [Nat.sub_zero]; exact (Nat.le_div_iff_mul_le (Nat.pow_pos (by decide))).2 (by omega)
    have h2 : D / 10 ^ (nd - 1 - 0) < 10 := by
      rw [Nat.sub_zero]
      refine (Nat.div_lt_iff_lt_mul (Nat.pow_pos (by decide))).2 ?_
      rw [← Nat.pow_succ', show (nd - 1).succ = nd by omega]; exact n4
    rw [Nat.mod_eq_of_lt h2]
    omega
  have hn1 : 1 ≤ n := by
    apply Classical.byContradiction
    intro h
    exact hlead (t2 0 (by omega) (by omega))
  have hDn : D = D10 ((digs D nd).take n) * 10 ^ (nd - n) := by
    have h1 := D10_trim (l := digs D nd) (n := n) (nd - n) (fun i a b => t2 i a (by omega)) (by omega)
    rw [show n + (nd - n) = nd by omega, D10_take (by omega) n4 nd (Nat.le_refl _), Nat.sub_self, Nat.pow_zero, Nat.div_one] at h1
    exact h1
  have hdp : -350 ≤ (nd : Int) + rp ∧ (nd : Int) + rp ≤ 330 := by omega
  obtain ⟨N, N1, N2, N3, N4, N5, N6, ⟨j, N7, N8⟩, N9, N10⟩ := body_num (digs D nd) n hdl ⟨hn1, by omega⟩ (fun i hi => hdig i (by omega)) hlead (decide (9223372036854775808 ≤ b)) ((nd : Int) + rp) hdp
  have hfmt := fmt_ev (digs D nd) n hdl ⟨hn1, by omega⟩ (decide (9223372036854775808 ≤ b)) ((nd : Int) + rp) (by omega)
  rw [← N3] at hfmt
  obtain ⟨K1, hK1⟩ := hfmt
  -- the text read
  have hbs := bytesOf_str (text_byt N1)
  have hsz : (strOfNums N.text).size = N.text.length := strOfNums_size _
  have hAt : At (strOfNums N.text) 0 N.text := ⟨by rw [hbs]; rfl, Nat.zero_le _⟩
  have hpos : 0 < D10 (N.A ++ N.fd) := by
    rw [N7]
    refine Nat.mul_pos ?_ (Nat.pow_pos (by decide))
    apply Nat.pos_of_ne_zero
    intro h
    rw [h, Nat.zero_mul] at hDn
    omega
  rcases value_ev (s := strOfNums N.text) (by omega) N1 hAt (by omega) with ⟨v1, _⟩ | ⟨_, y, q, v1, v2, v3, v4, v5, v6, v7⟩
  · omega
  rw [N2] at v1
  have hAFl : (N.A ++ N.fd).length ≤ 100 := by
    have h1 := N4
    unfold Num.text Num.ft at h1
    simp only [List.length_append] at h1 ⊢
    split at h1
    · rename_i e; rw [e]; simp; omega
    · rw [List.length_cons] at h1; omega
  have hyl : 0 < y.length := by cases hy : y with | nil => exact absurd hy v3 | cons a r => simp
  have hmove := move_tens (x1 := expV N.ex - N.fd.length) (p := p) (rp := rp) (n := n) v5 v7 N7 N8 t1 hDn s3 (by omega) (by omega) (by omega)
  have hDy : D10 (bytesOf (strOfNums y)) = D10 y := by rw [bytesOf_str (fun c hc => by have := v2 c hc; unfold isD at this; omega)]
  have hnear := back_ev (s := strOfNums y) (q := q) (p := p) (t := t) (decide (9223372036854775808 ≤ b)) (by omega) (by rw [strOfNums_size]; omega) (bt_isD v2) h0 hfin (by rw [hDy]; exact hmove) s2
  rw [hc] at hnear
  have hN := nearest_bits hb64 (by rw [← hc]; exact hfin) v3 (by omega) (by omega) hnear
  obtain ⟨K2, hK2⟩ := v1
  obtain ⟨K3, hK3⟩ := hN
  have htl : 0 < N.text.length := by
    unfold Num.text
    simp only [List.length_append]
    have : 0 < N.A.length := by cases hA : N.A with | nil => exact absurd hA N1.nA | cons a r => simp
    omega
  refine ⟨K1 + 1, K2 + K3, N.text, decide (9223372036854775808 ≤ b), strOfNums y, q, ?_, htl, by omega, hK2 _ (by omega), hK3 _ (by omega)⟩
  unfold Texts
  rw [← hc]
  have hL64 : 2 ^ L * 2 ^ (64 - L) = 18446744073709551616 := by rw [← Nat.pow_add, show L + (64 - L) = 64 by omega]
  have hL63 : 2 ^ (L - 1) * 2 ^ (64 - L) = 9223372036854775808 := by rw [← Nat.pow_add, show L - 1 + (64 - L) = 63 by omega]
  have hu1 : 9223372036854775808 ≤ mB c * 2 ^ (64 - L) := by rw [← hL63]; exact Nat.mul_le_mul_right _ hL3
  have hu2 : mB c * 2 ^ (64 - L) < 18446744073709551616 := by rw [← hL64]; exact Nat.mul_lt_mul_of_pos_right hL4 (Nat.two_pow_pos _)
  obtain ⟨L', hl1, hl2, hl3, hl4, hl5⟩ := len64_eq (a := mB c) K1 (by omega) (by omega)
  have hLL : L' = L := by
    apply Nat.le_antisymm
    · apply Classical.byContradiction
      intro h
      have := Nat.pow_le_pow_right (n := 2) (i := L) (j := L' - 1) (by omega) (by omega)
      omega
    · apply Classical.byContradiction
      intro h
      have := Nat.pow_le_pow_right (n := 2) (i := L') (j := L - 1) (by omega) (by omega)
      omega
  rw [hLL] at hl1
  obtain ⟨nd', m1, m2, m3, m4, m5⟩ := numDigits_eq (D := D) K1 s5 (by omega)
  have hnn : nd' = nd := by
    apply Nat.le_antisymm
    · apply Classical.byContradiction
      intro h
      have := Nat.pow_le_pow_right (n := 10) (i := nd) (j := nd' - 1) (by omega) (by omega)
      omega
    · apply Classical.byContradiction
      intro h
      have := Nat.pow_le_pow_right (n := 10) (i := nd') (j := nd - 1) (by omega) (by omega)
      omega
  rw [hnn] at m1
  refine .inr ⟨hM0, L, D, nd, rp, hl1, ⟨hL1, hL53⟩, hu1, hu2, s1, m1, n2, by omega, n4, by omega, ?_⟩
  intro l n' hl hP hn' ht hz
  have e1 := put_eq hl hP
  subst e1
  have e2 : n' = n := trim_uniq hn' ht hz t1 t2 t3
  subst e2
  exact hK1 _ (by omega)
/-- Of both zeros. -/
theorem law_zero {b : Nat} (hb : b = 0 ∨ b = 9223372036854775808) :
    ∃ (k k2 : Nat) (r : List Int) (ng : Bool) (dg : ByteArray) (pw : Int), Texts k [] b r ∧ 0 < r.length ∧ r.length ≤ 800 ∧ spec_Value.f k2 (strOfNums r) = some (ng, dg, pw) ∧ spec_Nearest.f k2 ng dg pw = some (b : Int) := by
  rcases hb with rfl | rfl
  · refine ⟨20, 20, [48], false, strOfNums [], 0, .inl ⟨by decide +kernel, by decide +kernel⟩, by decide, by decide, by decide +kernel, ?_⟩
    unfold spec_Nearest.f
    rw [if_pos (by decide +kernel), if_neg (by decide)]; rfl
  · refine ⟨20, 20, [45, 48], true, strOfNums [], 0, .inl ⟨by decide +kernel, by decide +kernel⟩, by decide, by decide, by decide +kernel, ?_⟩
    unfold spec_Nearest.f
    rw [if_pos (by decide +kernel), if_pos rfl]
    exact congrArg some (or_sign 0 (by decide))
theorem law_fin {b : Nat} (hb64 : b < 18446744073709551616) (hfin : b % 9223372036854775808 < 9218868437227405312) :
    ∃ (k k2 : Nat) (r : List Int) (ng : Bool) (dg : ByteArray) (pw : Int), Texts k [] b r ∧ 0 < r.length ∧ r.length ≤ 800 ∧ spec_Value.f k2 (strOfNums r) = some (ng, dg, pw) ∧ spec_Nearest.f k2 ng dg pw = some (b : Int) := by
  by_cases h0 : 0 < b % 9223372036854775808
  · exact law_pos hb64 hfin h0
  · exact law_zero (by omega)
end Go.Proofs.YthbmfhkpkkgdnaaGreatDoor.U

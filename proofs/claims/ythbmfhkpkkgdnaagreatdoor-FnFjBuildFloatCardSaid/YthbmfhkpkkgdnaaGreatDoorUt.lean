/- What Value says of a number's text. -/
import Derived.Test.YthbmfhkpkkgdnaaGreatDoorUs
namespace Go.Proofs.YthbmfhkpkkgdnaaGreatDoor.U
open Go.RowKit Go.Proofs.YthbmfhkpkkgdnaaGreatDoorW.PrintWords Go.Proofs.YthbmfhkpkkgdnaaGreatDoorW.PrintLast Go.Proofs.YthbmfhkpkkgdnaaGreatDoorW.PrintMore Go.Proofs.YthbmfhkpkkgdnaaGreatDoor.Q
set_option linter.unusedVariables false
theorem At.cut {s : ByteArray} {i : Nat} {l : List Int} (h : At s i l) : At (s.extract i s.size) 0 l ∧ (s.extract i s.size).size = l.length := by
  have e : bytesOf (s.extract i s.size) = (bytesOf s).drop i := by
    unfold bytesOf
    rw [ByteArray.data_extract, Array.toList_extract, ← List.map_drop]
    congr 1
    rw [List.extract_eq_take_drop, List.take_of_length_le]
    rw [List.length_drop, data_length]
    exact Nat.le_refl _
  have hl : (s.extract i s.size).size = l.length := by rw [← bytesOf_length, e, h.1]
  exact ⟨⟨by rw [e, List.drop_zero]; exact h.1, Nat.zero_le _⟩, hl⟩
theorem D10_cons (c : Int) (l : List Int) : D10 (c :: l) = (c - 48).toNat * 10 ^ l.length + D10 l := by
  have := D10_append [c] l
  rw [List.singleton_append] at this
  rw [this]
  unfold D10
  simp
theorem D10_lt : ∀ (l : List Int), (∀ c, c ∈ l → isD c) → D10 l < 10 ^ l.length := by
  intro l
  induction l with
  | nil => intro _; simp [D10]
  | cons c l ih =>
    intro h
    have h0 := h c List.mem_cons_self
    have h1 := ih (fun d hd => h d (List.mem_cons_of_mem _ hd))
    unfold isD at h0
    rw [D10_cons, List.length_cons, Nat.pow_succ]
    have : (c - 48).toNat * 10 ^ l.length ≤ 9 * 10 ^ l.length := Nat.mul_le_mul_right _ (by omega)
    omega
/-- signed, from place i on. -/
theorem signed_loop {x : ByteArray} (hx : x.size ≤ 10) (neg : Bool) : ∀ (l : List Int) (i N g : Nat), (∀ c, c ∈ l → isD c) → At x i l → g ≤ i → N < 10 ^ i →
    Ev (fun k => spec_signed.l0 k x neg (N : Int) (g : Int) (i : Int)) ((if neg = true then -((N * 10 ^ l.length + D10 l : Nat) : Int) else ((N * 10 ^ l.length + D10 l : Nat) : Int)), true) := by
  intro l
  induction l with
  | nil =>
    intro i N g _ h hg hN
    have hi := h.nil
    have h10 : 10 ^ i ≤ 10 ^ 10 := Nat.pow_le_pow_right (by omega) (by omega)
    refine Ev.const _ fun k => ?_
    simp only [spec_signed.l0]
    rw [if_neg (by omega)]
    simp only [List.length_nil, Nat.pow_zero, Nat.mul_one, D10, List.foldl_nil, Nat.add_zero]
    cases neg with
    | true => rw [if_pos rfl, if_pos rfl, wr (by omega) (by omega)]
    | false => rw [if_neg (by decide), if_neg (by decide)]
  | cons c l ih =>
    intro i N g hd h hg hN
    have h0 := hd c List.mem_cons_self
    unfold isD at h0
    obtain ⟨h1, h2, h3⟩ := h.head
    have h10 : 10 ^ i ≤ 10 ^ 10 := Nat.pow_le_pow_right (by omega) (by omega)
    have hN2 : N * 10 + (c - 48).toNat < 10 ^ (i + 1) := by rw [Nat.pow_succ]; omega
    have e1 : wrap64 (wrap64 ((N : Int) * 10) + (bt x (i : Int) - 48) % 256) = ((N * 10 + (c - 48).toNat : Nat) : Int) := by
      rw [h2, wr (i := (N : Int) * 10) (by omega) (by omega), wr (by omega) (by omega)]; omega
    have e2 : (N * 10 + (c - 48).toNat) * 10 ^ l.length + D10 l = N * 10 ^ (c :: l).length + D10 (c :: l) := by
      rw [D10_cons, List.length_cons, Nat.pow_succ, Nat.add_mul, Nat.mul_assoc, Nat.mul_comm 10]; omega
    have go : ∀ g2 : Nat, g2 ≤ i + 1 → Ev (fun k => spec_signed.l0 k x neg (wrap64 (wrap64 ((N : Int) * 10) + (bt x (i : Int) - 48) % 256)) (g2 : Int) (wrap64 ((i : Int) + 1))) ((if neg = true then -((N * 10 ^ (c :: l).length + D10 (c :: l) : Nat) : Int) else ((N * 10 ^ (c :: l).length + D10 (c :: l) : Nat) : Int)), true) := by
      intro g2 hg2
      have := ih (i + 1) (N * 10 + (c - 48).toNat) g2 (fun d hd' => hd d (List.mem_cons_of_mem _ hd')) h3 hg2 hN2
      rw [e2] at this
      rw [e1, wr (i := (i : Int) + 1) (by omega) (by omega)]
      exact this
    have j3 : ∀ b : Bool, Ev (fun k => spec_signed.j3 k x neg (N : Int) (g : Int) (i : Int) b) ((if neg = true then -((N * 10 ^ (c :: l).length + D10 (c :: l) : Nat) : Int) else ((N * 10 ^ (c :: l).length + D10 (c :: l) : Nat) : Int)), true) := by
      intro b
      cases b with
      | true =>
        refine Ev.step (fun k => ?_) (go (g + 1) (by omega))
        simp only [spec_signed.j3]
        rw [if_pos trivial, wr (i := (g : Int) + 1) (by omega) (by omega), if_neg (by omega), if_pos (by omega), if_pos (by omega)]
        rfl
      | false =>
        refine Ev.step (fun k => ?_) (go g (by omega))
        simp only [spec_signed.j3]
        rw [if_neg (by decide), if_neg (by omega), if_pos (by omega), if_pos (by omega)]
    by_cases c1 : (g : Int) > 0
    · refine Ev.step (fun k => ?_) (j3 true)
      simp only [spec_signed.l0]
      rw [if_pos (by omega), if_pos c1]
    · refine Ev.step (fun k => ?_) (j3 (bt x (i : Int) != 48))
      simp only [spec_signed.l0]
      rw [if_pos (by omega), if_neg c1, if_pos (by omega)]
def expV : Option (Bool × List Int) → Int
  | none => 0
  | some (b, ed) => if b = true then -(D10 ed : Int) else (D10 ed : Int)
theorem signed_ev {x : ByteArray} {b : Bool} {ed : List Int} (hx : At x 0 ((if b = true then 45 else 43) :: ed)) (hd : ∀ c, c ∈ ed → isD c) (hl : ed.length ≤ 10) :
    Ev (fun k => spec_signed.f k x) (expV (some (b, ed)), true) := by
  have hsz := hx.len
  rw [List.length_cons] at hsz
  obtain ⟨h1, h2, h3⟩ := hx.head
  obtain ⟨h4, h5⟩ := h3.cut
  have h5 : (x.extract 1 x.size).size = ed.length := h5
  have hloop := signed_loop (x := x.extract 1 x.size) (by omega) b ed 0 0 0 hd h4 (Nat.le_refl _) (by decide)
  rw [Nat.zero_mul, Nat.zero_add] at hloop
  have hj0 : Ev (fun k => spec_signed.j0 k x b true) (expV (some (b, ed)), true) := by
    refine Ev.step (f := fun k => spec_signed.j1 k (x.extract 1 x.size) b) (fun k => ?_) (Ev.step (fun k => ?_) hloop)
    · simp only [spec_signed.j0]
      rw [if_pos trivial, if_pos (by omega)]
    · simp only [spec_signed.j1]
      rfl
  refine Ev.congr (fun k => ?_) hj0
  unfold spec_signed.f
  rw [if_pos (by omega)]
  have h2 : bt x 0 = (if b = true then 45 else 43) := h2
  rw [h2]
  cases b with
  | true => rw [if_pos rfl, if_pos rfl]; rfl
  | false => rw [if_neg (by decide), if_neg (by decide)]; rfl
/-- bare: the zeros at the end. -/
theorem bare_l1 (m : Nat) : ∀ (x : List Int) (p : Int), x.length = m → (∀ c, c ∈ x → isD c) → m ≤ 1000 → -100000 ≤ p ∧ p ≤ 100000 - m →
    (D10 x = 0 ∧ Ev (fun k => spec_bare.l1 k x p) (strOfNums [], 0)) ∨
    (0 < D10 x ∧ ∃ y q, Ev (fun k => spec_bare.l1 k x p) (strOfNums y, q) ∧ (∀ c, c ∈ y → isD c) ∧ y ≠ [] ∧ y.length ≤ x.length ∧ p ≤ q ∧ q ≤ p + x.length ∧ D10 x = D10 y * 10 ^ (q - p).toNat) := by
  induction m with
  | zero =>
    intro x p hx _ _ hp
    have : x = [] := List.length_eq_zero_iff.1 hx
    subst this
    refine .inl ⟨rfl, Ev.const _ fun k => ?_⟩
    simp only [spec_bare.l1]
    rw [if_neg (by simp), if_pos (by simp)]
  | succ m ih =>
    intro x p hx hd hm hp
    have hne : x ≠ [] := by intro h; rw [h] at hx; simp at hx
    obtain ⟨z, c, rfl⟩ : ∃ z c, x = z ++ [c] := ⟨x.dropLast, x.getLast hne, (List.dropLast_concat_getLast hne).symm⟩
    have hz : z.length = m := by simpa using hx
    have hc := hd c (by simp)
    unfold isD at hc
    have hlen : (((z ++ [c]).length : Nat) : Int) = (m : Int) + 1 := by rw [hx]; omega
    have hrd : rd (z ++ [c]) (m : Int) = c := by
      unfold rd
      rw [Int.toNat_natCast, List.getD_eq_getElem?_getD, ← hz]; simp
    have htk : (z ++ [c]).take (m : Int).toNat = z := by rw [Int.toNat_natCast, ← hz]; simp
    have hD : D10 (z ++ [c]) = D10 z * 10 + (c - 48).toNat := by rw [D10_append, D10_cons]; simp [D10]
    by_cases c1 : c = 48
    · have hstep : ∀ {R}, Ev (fun k => spec_bare.l1 k z (p + 1)) R → Ev (fun k => spec_bare.l1 k (z ++ [c]) p) R := by
        intro R h
        refine Ev.step (fun k => ?_) h
        simp only [spec_bare.l1]
        rw [hlen, wr (i := (m : Int) + 1 - 1) (by omega) (by omega), if_pos (by omega), show (m : Int) + 1 - 1 = (m : Int) by omega, hrd, if_pos (by omega), if_pos (by omega), if_pos c1, if_pos (by omega), htk, wr (by omega) (by omega)]
      have hD2 : D10 (z ++ [c]) = D10 z * 10 := by rw [hD, c1]; rfl
      rcases ih z (p + 1) hz (fun d hd' => hd d (List.mem_append_left _ hd')) (by omega) (by omega) with ⟨h1, h2⟩ | ⟨h1, y, q, h2, h3, h4, h5, h6, h7, h8⟩
      · exact .inl ⟨by rw [hD2, h1], hstep h2⟩
      · refine .inr ⟨by omega, y, q, hstep h2, h3, h4, by rw [hx]; omega, by omega, by rw [hx]; omega, ?_⟩
        rw [hD2, h8, Nat.mul_assoc, show (q - p).toNat = (q - (p + 1)).toNat + 1 by omega, Nat.pow_succ]
    · refine .inr ⟨by omega, z ++ [c], p, Ev.const _ fun k => ?_, hd, hne, Nat.le_refl _, by omega, by omega, by simp⟩
      simp only [spec_bare.l1]
      rw [hlen, wr (i := (m : Int) + 1 - 1) (by omega) (by omega), if_pos (by omega), show (m : Int) + 1 - 1 = (m : Int) by omega, hrd, if_pos (by omega), if_pos (by omega), if_neg c1, if_neg (by omega)]
theorem bare_ev : ∀ (x : List Int) (p : Int), (∀ c, c ∈ x → isD c) → x.length ≤ 1000 → -100000 ≤ p ∧ p ≤ 100000 - 1000 →
    (D10 x = 0 ∧ Ev (fun k => spec_bare.f k x p) (strOfNums [], 0)) ∨
    (0 < D10 x ∧ ∃ y q, Ev (fun k => spec_bare.f k x p) (strOfNums y, q) ∧ (∀ c, c ∈ y → isD c) ∧ y ≠ [] ∧ y.length ≤ x.length ∧ p ≤ q ∧ q ≤ p + x.length ∧ D10 x = D10 y * 10 ^ (q - p).toNat) := by
  intro x p
  have to1 : ∀ {x : List Int} {R}, (x = [] ∨ rd x 0 ≠ 48) → Ev (fun k => spec_bare.l1 k x p) R → Ev (fun k => spec_bare.f k x p) R := by
    intro x R hx h
    unfold spec_bare.f
    refine Ev.step (f := fun k => spec_bare.j1 k x p) (fun k => ?_) (Ev.step (fun k => ?_) h)
    · simp only [spec_bare.l0]
      by_cases c : (x.length : Int) > 0
      · rw [if_pos c, if_pos c, if_neg]
        rcases hx with h | h
        · rw [h] at c; simp at c
        · exact h
      · rw [if_neg c]
    · simp only [spec_bare.j1]
  induction x with
  | nil =>
    intro hd hl hp
    exact .inl ⟨rfl, to1 (.inl rfl) ((bare_l1 0 [] p rfl hd (by omega) (by omega)).elim (fun h => h.2) (fun h => absurd h.1 (by decide)))⟩
  | cons c x ih =>
    intro hd hl hp
    rw [List.length_cons] at hl
    by_cases c1 : c = 48
    · have hstep : ∀ {R}, Ev (fun k => spec_bare.f k x p) R → Ev (fun k => spec_bare.f k (c :: x) p) R := by
        intro R h
        unfold spec_bare.f at h ⊢
        refine Ev.step (fun k => ?_) h
        simp only [spec_bare.l0]
        rw [if_pos (by rw [List.length_cons]; omega), if_pos (by rw [List.length_cons]; omega), if_pos (by unfold rd; simpa using c1), if_pos (by rw [List.length_cons]; omega)]
        rfl
      have hD2 : D10 (c :: x) = D10 x := by rw [D10_cons, c1]; simp
      rcases ih (fun d hd' => hd d (List.mem_cons_of_mem _ hd')) (by omega) hp with ⟨h1, h2⟩ | ⟨h1, y, q, h2, h3, h4, h5, h6, h7, h8⟩
      · exact .inl ⟨by rw [hD2, h1], hstep h2⟩
      · exact .inr ⟨by omega, y, q, hstep h2, h3, h4, by rw [List.length_cons]; omega, h6, by rw [List.length_cons]; omega, by rw [hD2, h8]⟩
    · have hr : rd (c :: x) 0 ≠ 48 := by unfold rd; simpa using c1
      rcases bare_l1 (c :: x).length (c :: x) p rfl hd (by rw [List.length_cons]; omega) (by rw [List.length_cons]; omega) with ⟨h1, h2⟩ | ⟨h1, y, q, h2, h3⟩
      · exact .inl ⟨h1, to1 (.inr hr) h2⟩
      · exact .inr ⟨h1, y, q, to1 (.inr hr) h2, h3⟩
/-- Value's loop over digits. -/
theorem val_digits {s : ByteArray} (hs : s.size ≤ 1000) {R : Nat × List Int × Int} (pt : Bool) : ∀ (a : List Int) (i : Nat) (ds r : List Int) (pw : Int), (∀ c, c ∈ a → isD c) → At s i (a ++ r) → -100000 ≤ pw - a.length ∧ pw ≤ 100000 →
    Ev (fun k => spec_Value.l0 k s (i + a.length) (ds ++ a) (if pt = true then pw - a.length else pw) pt) R → Ev (fun k => spec_Value.l0 k s i ds pw pt) R := by
  intro a
  induction a with
  | nil =>
    intro i ds r pw _ _ _ h
    rw [List.append_nil] at h
    cases pt <;> simpa using h
  | cons c a ih =>
    intro i ds r pw hd h hp hE
    have hc := hd c List.mem_cons_self
    unfold isD at hc
    rw [List.length_cons] at hp
    obtain ⟨h1, h2, h3⟩ := h.head
    have hn : ∀ pw2 : Int, (pw2 = if pt = true then pw - 1 else pw) → Ev (fun k => spec_Value.l0 k s (i + 1) (ds ++ [c]) pw2 pt) R := by
      intro pw2 hpw
      refine ih (i + 1) (ds ++ [c]) r pw2 (fun d hd' => hd d (List.mem_cons_of_mem _ hd')) h3 (by cases pt <;> simp at hpw <;> omega) ?_
      rw [List.length_cons] at hE
      rw [List.append_assoc, List.singleton_append, show i + 1 + a.length = i + (a.length + 1) by omega]
      have e : (if pt = true then pw2 - (a.length : Int) else pw2) = (if pt = true then pw - ((a.length + 1 : Nat) : Int) else pw) := by
        cases pt <;> simp at hpw ⊢ <;> omega
      rw [e]; exact hE
    cases pt with
    | true =>
      refine Ev.step (fun k => ?_) (hn (pw - 1) rfl)
      simp only [spec_Value.l0]
      rw [if_pos h1, h2, if_neg (by omega), if_neg (by omega), if_neg (by omega), if_pos trivial, wr (by omega) (by omega)]
    | false =>
      refine Ev.step (fun k => ?_) (hn pw rfl)
      simp only [spec_Value.l0]
      rw [if_pos h1, h2, if_neg (by omega), if_neg (by omega), if_neg (by omega), if_neg (by decide)]
theorem val_end {s : ByteArray} {n : Num} {i : Nat} (ds : List Int) (pw : Int) (pt : Bool) (h : At s i n.et) : Ev (fun k => spec_Value.l0 k s i ds pw pt) (i, ds, pw) := by
  refine Ev.const _ fun k => ?_
  simp only [spec_Value.l0]
  unfold Num.et at h
  cases hx : n.ex with
  | none =>
    rw [hx] at h
    have h : At s i [] := h
    rw [if_neg (by have := h.nil; omega)]
  | some q =>
    obtain ⟨b, ed⟩ := q
    rw [hx] at h
    have h : At s i (101 :: (if b = true then 45 else 43) :: ed) := h
    obtain ⟨h1, h2, h3⟩ := h.head
    rw [if_pos h1, if_pos h2]
section
variable {s : ByteArray} {n : Num} (hs : s.size ≤ 1000) (hn : n.ok)
include hs hn
theorem val_l0 (h : At s 0 n.text) : ∃ i, At s i n.et ∧ Ev (fun k => spec_Value.l0 k s (if bt s 0 = 45 then 1 else 0) [] 0 false) (i, n.A ++ n.fd, -(n.fd.length : Int)) ∧ (bt s 0 == 45) = n.neg := by
  have hl := h.len
  have hA := hn.nA
  obtain ⟨p0, hp0, hp1, hp2⟩ : ∃ p0 : Nat, (if bt s 0 = 45 then 1 else 0) = p0 ∧ At s p0 (n.A ++ (n.ft ++ n.et)) ∧ (bt s 0 == 45) = n.neg := by
    unfold Num.text Num.sg at h
    cases hg : n.neg with
    | true =>
      rw [hg] at h
      have h : At s 0 (45 :: (n.A ++ (n.ft ++ n.et))) := h
      obtain ⟨h1, h2, h3⟩ := h.head
      have h2 : bt s 0 = 45 := h2
      exact ⟨1, by rw [if_pos h2], h3, by rw [h2]; rfl⟩
    | false =>
      rw [hg] at h
      have h : At s 0 (n.A ++ (n.ft ++ n.et)) := h
      cases hq : n.A with
      | nil => exact absurd hq hA
      | cons d r =>
        have hh := h
        rw [hq] at hh
        obtain ⟨h1, h2, h3⟩ := hh.head
        have h2 : bt s 0 = d := h2
        have := hn.dA d (by rw [hq]; exact List.mem_cons_self)
        unfold isD at this
        exact ⟨0, by rw [if_neg (by omega)], by rw [← hq]; exact h, by rw [h2]; exact beq_eq_false_iff_ne.2 (by omega)⟩
  rw [hp0]
  have hAl := hp1.len
  simp only [List.length_append] at hAl
  unfold Num.ft at hp1 hAl
  by_cases c : n.fd = []
  · rw [if_pos c, List.nil_append] at hp1
    refine ⟨p0 + n.A.length, hp1.skip, ?_, hp2⟩
    refine val_digits hs false n.A p0 [] n.et 0 hn.dA hp1 (by omega) ?_
    have := val_end (n := n) ([] ++ n.A) 0 false hp1.skip
    rw [c]
    simpa using this
  · rw [if_neg c] at hp1
    rw [if_neg c, List.length_cons] at hAl
    have hp3 : At s p0 (n.A ++ (46 :: (n.fd ++ n.et))) := hp1
    have h46 := hp3.skip
    obtain ⟨h1, h2, h3⟩ := h46.head
    refine ⟨p0 + n.A.length + 1 + n.fd.length, h3.skip, ?_, hp2⟩
    refine val_digits hs false n.A p0 [] (46 :: (n.fd ++ n.et)) 0 hn.dA hp3 (by omega) ?_
    rw [if_neg (by decide), List.nil_append]
    refine Ev.step (f := fun k => spec_Value.l0 k s (p0 + n.A.length + 1) n.A 0 true) (fun k => ?_) ?_
    · simp only [spec_Value.l0]
      rw [if_pos h1, h2, if_neg (by decide), if_neg (by decide), if_pos rfl]
    · refine val_digits hs true n.fd (p0 + n.A.length + 1) n.A n.et 0 hn.dF h3 (by omega) ?_
      rw [if_pos rfl, Int.zero_sub]
      exact val_end (n := n) (n.A ++ n.fd) _ true h3.skip
theorem value_ev (h : At s 0 n.text) (he : -50000 ≤ expV n.ex ∧ expV n.ex ≤ 50000) :
    (D10 (n.A ++ n.fd) = 0 ∧ Ev (fun k => spec_Value.f k s) (n.neg, strOfNums [], 0)) ∨
    (0 < D10 (n.A ++ n.fd) ∧ ∃ y q, Ev (fun k => spec_Value.f k s) (n.neg, strOfNums y, q) ∧ (∀ c, c ∈ y → isD c) ∧ y ≠ [] ∧ y.length ≤ (n.A ++ n.fd).length ∧ expV n.ex - n.fd.length ≤ q ∧ q ≤ expV n.ex - n.fd.length + (n.A ++ n.fd).length ∧
      D10 (n.A ++ n.fd) = D10 y * 10 ^ (q - (expV n.ex - n.fd.length)).toNat) := by
  obtain ⟨i, hi, hl0, hb⟩ := val_l0 hs hn h
  have hnum := isNumber_ev (by omega) hn h
  have hlen := h.len
  have hlen2 : (n.A ++ n.fd).length ≤ 1000 := by
    unfold Num.text Num.ft at hlen
    simp only [List.length_append] at hlen ⊢
    split at hlen
    · rename_i c; rw [c]; simp; omega
    · rw [List.length_cons] at hlen; omega
  have hfl : n.fd.length ≤ 1000 := by rw [List.length_append] at hlen2; omega
  have hpow : Ev (fun k => if i < s.size then (spec_signed.f k (s.extract (i + 1) s.size)).bind fun x => if x.2 = true then some (wrap64 (-(n.fd.length : Int) + x.1)) else none else some (-(n.fd.length : Int))) (expV n.ex - n.fd.length) := by
    have hE := hn.dE
    unfold Num.et at hi
    cases hx : n.ex with
    | none =>
      rw [hx] at hi
      have hi : At s i [] := hi
      refine Ev.congr (f := fun _ => some (expV none - (n.fd.length : Int))) (fun k => ?_) (Ev.now _)
      rw [if_neg (by have := hi.nil; omega)]
      have e : expV none = 0 := rfl
      rw [e, Int.zero_sub]
    | some q =>
      obtain ⟨b, ed⟩ := q
      rw [hx] at hi he
      have hi : At s i (101 :: (if b = true then 45 else 43) :: ed) := hi
      obtain ⟨h1, h2, h3⟩ := hi.head
      obtain ⟨d1, d2, d3⟩ := hE b ed hx
      obtain ⟨h4, h5⟩ := h3.cut
      have hb2 : Ev (fun k => (spec_signed.f k (s.extract (i + 1) s.size)).bind fun x => if x.2 = true then some (wrap64 (-(n.fd.length : Int) + x.1)) else none) (expV (some (b, ed)) - n.fd.length) := by
        refine Ev.bind (f := fun _ x => if x.2 = true then some (wrap64 (-(n.fd.length : Int) + x.1)) else none) (signed_ev h4 d1 d3) (Ev.congr (fun k => ?_) (Ev.now _))
        dsimp only
        rw [if_pos rfl, wr (by omega) (by omega)]
        congr 1
        omega
      refine Ev.congr (fun k => ?_) hb2
      rw [if_pos h1]
  have hdAF : ∀ c, c ∈ n.A ++ n.fd → isD c := fun c hc => (List.mem_append.1 hc).elim (hn.dA c) (hn.dF c)
  have fin : ∀ (y : ByteArray) (q : Int), Ev (fun k => spec_bare.f k (n.A ++ n.fd) (expV n.ex - n.fd.length)) (y, q) → Ev (fun k => spec_Value.f k s) (n.neg, y, q) := by
    intro y q hbr
    have h3 : Ev (fun k => (spec_bare.f k (n.A ++ n.fd) (expV n.ex - n.fd.length)).bind fun d => some (bt s 0 == 45, d.1, d.2)) (n.neg, y, q) := Ev.bind (f := fun _ d => some (bt s 0 == 45, d.1, d.2)) hbr (by rw [hb]; exact Ev.now _)
    have h4 := Ev.bind (f := fun k pw => (spec_bare.f k (n.A ++ n.fd) pw).bind fun d => some (bt s 0 == 45, d.1, d.2)) hpow h3
    have h5 := Ev.bind (f := fun k (q : Nat × List Int × Int) => (if q.1 < s.size then (spec_signed.f k (s.extract (q.1 + 1) s.size)).bind fun x => if x.2 = true then some (wrap64 (q.2.2 + x.1)) else none else some q.2.2).bind fun pw => (spec_bare.f k q.2.1 pw).bind fun d => some (bt s 0 == 45, d.1, d.2)) hl0 h4
    obtain ⟨K, hK⟩ := hnum
    obtain ⟨K2, hK2⟩ := h5
    refine ⟨K + K2, fun k hk => ?_⟩
    have hk1 : spec_IsNumber.f k s = some true := hK k (by omega)
    show spec_Value.f k s = _
    unfold spec_Value.f
    rw [if_pos hk1]
    exact hK2 k (by omega)
  rcases bare_ev (n.A ++ n.fd) (expV n.ex - n.fd.length) hdAF hlen2 (by omega) with ⟨h1, h2⟩ | ⟨h1, y, q, h2, h3⟩
  · exact .inl ⟨h1, fin _ _ h2⟩
  · exact .inr ⟨h1, y, q, fin _ _ h2, h3⟩
end
end Go.Proofs.YthbmfhkpkkgdnaaGreatDoor.U

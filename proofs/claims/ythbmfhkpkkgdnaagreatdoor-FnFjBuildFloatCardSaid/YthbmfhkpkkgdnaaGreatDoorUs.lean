/- A number's text, read: IsNumber, signed, bare and Value in plain words. -/
import Derived.Test.YthbmfhkpkkgdnaaGreatDoorUk
import Derived.Test.YthbmfhkpkkgdnaaGreatDoorT11
namespace Go.Proofs.YthbmfhkpkkgdnaaGreatDoor.U
open Go.RowKit Go.Proofs.YthbmfhkpkkgdnaaGreatDoorW.PrintWords Go.Proofs.YthbmfhkpkkgdnaaGreatDoorW.PrintLast Go.Proofs.YthbmfhkpkkgdnaaGreatDoorW.PrintMore Go.Proofs.YthbmfhkpkkgdnaaGreatDoor.Q
set_option linter.unusedVariables false
/-- What stands in the text from place i on. -/
def At (s : ByteArray) (i : Nat) (l : List Int) : Prop := (bytesOf s).drop i = l ∧ i ≤ s.size
def isD (c : Int) : Prop := 48 ≤ c ∧ c ≤ 57
theorem At.len {s : ByteArray} {i : Nat} {l : List Int} (h : At s i l) : i + l.length = s.size := by
  have := congrArg List.length h.1
  rw [List.length_drop, bytesOf_length] at this
  have := h.2
  omega
theorem At.head {s : ByteArray} {i : Nat} {c : Int} {r : List Int} (h : At s i (c :: r)) : i < s.size ∧ bt s (i : Int) = c ∧ At s (i + 1) r := by
  have hl := h.len
  rw [List.length_cons] at hl
  have hi : i < s.size := by omega
  have h1 := h.1
  rw [List.drop_eq_getElem_cons (by rw [bytesOf_length]; omega)] at h1
  injection h1 with h2 h3
  refine ⟨hi, ?_, h3, hi⟩
  rw [← rd_bytesOf]
  unfold rd
  rw [Int.toNat_natCast, List.getD_eq_getElem?_getD, List.getElem?_eq_getElem (by rw [bytesOf_length]; omega)]
  exact h2
theorem At.nil {s : ByteArray} {i : Nat} (h : At s i []) : i = s.size := by have := h.len; simpa using this
theorem At.skip {s : ByteArray} {a : List Int} : ∀ {i : Nat} {r : List Int}, At s i (a ++ r) → At s (i + a.length) r := by
  induction a with
  | nil => intro i r h; exact h
  | cons c a ih =>
    intro i r h
    have := ih h.head.2.2
    rw [List.length_cons, show i + (a.length + 1) = i + 1 + a.length by omega]
    exact this
/-- the first byte is none of these -/
def nf (l : List Int) (c : Int) : Prop := l.head? ≠ some c
def stops (l : List Int) : Prop := ∀ c, l.head? = some c → ¬ isD c
section
variable {s : ByteArray} {i : Nat} {l r : List Int} {c : Int}
theorem take_yes (h : At s i (c :: r)) (hs : s.size ≤ 1000000) : spec_reader_take.f s (i : Int) c = some (true, s, ((i + 1 : Nat) : Int)) := by
  obtain ⟨h1, h2, h3⟩ := h.head
  unfold spec_reader_take.f
  rw [if_pos (by omega), if_pos (by omega), if_pos h2, wr (by omega) (by omega)]
  rfl
theorem take_no (h : At s i l) (hc : l.head? ≠ some c) : spec_reader_take.f s (i : Int) c = some (false, s, (i : Int)) := by
  unfold spec_reader_take.f
  cases l with
  | nil => rw [if_neg (by have := h.nil; omega)]
  | cons d r =>
    obtain ⟨h1, h2, h3⟩ := h.head
    rw [if_pos (by omega), if_pos (by omega), if_neg (by rw [h2]; intro e; exact hc (by rw [e]; rfl))]
theorem here_eq (h : At s i l) : spec_reader_here.f s (i : Int) = some (l.headD 0, s, (i : Int)) := by
  unfold spec_reader_here.f
  cases l with
  | nil => rw [if_neg (by have := h.nil; omega)]; rfl
  | cons d r =>
    obtain ⟨h1, h2, h3⟩ := h.head
    rw [if_pos (by omega), if_pos (by omega), h2]; rfl
theorem digits_loop (hs : s.size ≤ 1000000) (b : Int) (hr : stops r) : ∀ (dl : List Int) (i : Nat), (∀ c, c ∈ dl → isD c) → At s i (dl ++ r) →
    Ev (fun k => spec_reader_digits.l0 k b ((dl ++ r).headD 0) s (i : Int)) (decide (((i + dl.length : Nat) : Int) > b), s, ((i + dl.length : Nat) : Int)) := by
  intro dl
  induction dl with
  | nil =>
    intro i _ h
    refine Ev.const _ fun k => ?_
    simp only [spec_reader_digits.l0, List.nil_append, List.length_nil, Nat.add_zero]
    cases r with
    | nil => rw [if_neg (by decide)]
    | cons d r =>
      have := hr d rfl
      unfold isD at this
      by_cases c1 : 48 ≤ d
      · rw [if_pos (by exact c1), if_neg (by show ¬ d ≤ 57; omega)]
      · rw [if_neg (by exact c1)]
  | cons d dl ih =>
    intro i hd h
    have h0 := hd d List.mem_cons_self
    obtain ⟨h1, h2, h3⟩ := h.head
    have := ih (i + 1) (fun c hc => hd c (List.mem_cons_of_mem _ hc)) h3
    rw [List.length_cons, show i + (dl.length + 1) = i + 1 + dl.length by omega]
    refine Ev.step (f := fun k => spec_reader_digits.l0 k b ((dl ++ r).headD 0) s ((i + 1 : Nat) : Int)) (fun k => ?_) this
    simp only [spec_reader_digits.l0]
    rw [if_pos (by exact h0.1), if_pos (by exact h0.2), wr (by omega) (by omega)]
    rw [show (i : Int) + 1 = ((i + 1 : Nat) : Int) by omega, here_eq h3]
    rfl
theorem digits_ev (hs : s.size ≤ 1000000) (hr : stops r) {dl : List Int} (hd : ∀ c, c ∈ dl → isD c) (hne : dl ≠ []) (h : At s i (dl ++ r)) :
    Ev (fun k => spec_reader_digits.f k s (i : Int)) (true, s, ((i + dl.length : Nat) : Int)) := by
  have h1 := digits_loop hs (i : Int) hr dl i hd h
  have hp : 0 < dl.length := by cases dl with | nil => exact absurd rfl hne | cons d r => simp
  rw [decide_eq_true (by omega)] at h1
  refine Ev.congr (fun k => ?_) h1
  unfold spec_reader_digits.f
  rw [here_eq h]
  rfl
end
/-- A number's parts. -/
structure Num where
  neg : Bool
  A : List Int
  fd : List Int
  ex : Option (Bool × List Int)
def Num.sg (n : Num) : List Int := if n.neg = true then [45] else []
def Num.ft (n : Num) : List Int := if n.fd = [] then [] else 46 :: n.fd
def Num.et (n : Num) : List Int := match n.ex with | none => [] | some (b, ed) => 101 :: (if b = true then 45 else 43) :: ed
def Num.text (n : Num) : List Int := n.sg ++ (n.A ++ (n.ft ++ n.et))
structure Num.ok (n : Num) : Prop where
  dA : ∀ c, c ∈ n.A → isD c
  dF : ∀ c, c ∈ n.fd → isD c
  dE : ∀ b ed, n.ex = some (b, ed) → (∀ c, c ∈ ed → isD c) ∧ ed ≠ [] ∧ ed.length ≤ 10
  nA : n.A ≠ []
  lead : n.A = [48] ∨ n.A.head? ≠ some 48
theorem et_head (n : Num) : (∀ c, isD c → n.et.head? ≠ some c) ∧ n.et.head? ≠ some 46 ∧ n.et.head? ≠ some 69 := by
  unfold Num.et isD
  cases n.ex with
  | none => simp
  | some q => obtain ⟨b, ed⟩ := q; simp; omega
theorem ft_head (n : Num) : (∀ c, isD c → (n.ft ++ n.et).head? ≠ some c) := by
  intro c hc
  unfold Num.ft
  split
  · exact (et_head n).1 c hc
  · unfold isD at hc; simp; omega
section
variable {s : ByteArray} {n : Num} (hs : s.size ≤ 1000000) (hn : n.ok)
include hs hn
theorem num_j2 {i : Nat} (h : At s i n.et) : Ev (fun k => (spec_reader_take.f s (i : Int) 101).bind fun bt346 => (if bt346.1 = true then (spec_reader_number.j2 k true bt346.2.1 bt346.2.2) else ((spec_reader_take.f bt346.2.1 bt346.2.2 69).bind fun bt349 => (spec_reader_number.j2 k bt349.1 bt349.2.1 bt349.2.2)))) (true, s, (s.size : Int)) := by
  have hE := hn.dE
  obtain ⟨_, _, h69⟩ := et_head n
  unfold Num.et at h h69
  cases hx : n.ex with
  | none =>
    rw [hx] at h
    have h : At s i [] := h
    refine Ev.step (f := fun _ => some (true, s, (s.size : Int))) (fun k => ?_) (Ev.now _)
    rw [take_no h (by simp), Option.bind_some]
    dsimp only
    rw [if_neg (by decide), take_no h (by simp), Option.bind_some]
    simp only [spec_reader_number.j2]
    rw [if_neg (by decide), h.nil]
  | some q =>
    obtain ⟨b, ed⟩ := q
    rw [hx] at h
    obtain ⟨d1, d2, d3⟩ := hE b ed hx
    have h : At s i (101 :: (if b = true then 45 else 43) :: ed) := h
    obtain ⟨a1, a2, a3⟩ := h.head
    obtain ⟨b1, b2, b3⟩ := a3.head
    have hl := b3.len
    have hdg := digits_ev (r := []) hs (by intro c hc; simp at hc) d1 d2 (by rw [List.append_nil]; exact b3)
    rw [show i + 1 + 1 + ed.length = s.size by omega] at hdg
    refine Ev.step (f := fun k => (spec_reader_digits.f k s ((i + 1 + 1 : Nat) : Int)).bind fun t => some (t.1, t.2.1, t.2.2)) (fun k => ?_) (Ev.bind hdg (Ev.now _))
    rw [take_yes h hs, Option.bind_some]
    dsimp only
    rw [if_pos rfl]
    simp only [spec_reader_number.j2]
    rw [if_pos trivial]
    cases b with
    | true =>
      have a3 : At s (i + 1) (45 :: ed) := a3
      rw [take_no a3 (by simp), Option.bind_some]
      dsimp only
      rw [if_neg (by decide), take_yes a3 hs, Option.bind_some]
    | false =>
      have a3 : At s (i + 1) (43 :: ed) := a3
      rw [take_yes a3 hs, Option.bind_some]
      dsimp only
      rw [if_pos rfl]
theorem num_j1 {i : Nat} (h : At s i n.et) : Ev (fun k => spec_reader_number.j1 k false s (i : Int)) (true, s, (s.size : Int)) := by
  refine Ev.step (fun k => ?_) (num_j2 hs hn h)
  simp only [spec_reader_number.j1]
  rw [if_neg (by decide)]
theorem num_j0 {i : Nat} (h : At s i (n.ft ++ n.et)) : Ev (fun k => spec_reader_number.j0 k false s (i : Int)) (true, s, (s.size : Int)) := by
  have hE := et_head n
  unfold Num.ft at h
  by_cases c : n.fd = []
  · rw [if_pos c, List.nil_append] at h
    refine Ev.step (fun k => ?_) (num_j1 hs hn h)
    simp only [spec_reader_number.j0]
    rw [if_neg (by decide), take_no h hE.2.1, Option.bind_some]
    dsimp only
    rw [if_neg (by decide)]
  · rw [if_neg c] at h
    have h : At s i (46 :: (n.fd ++ n.et)) := h
    obtain ⟨a1, a2, a3⟩ := h.head
    have hdg := digits_ev hs (fun c hc hd => hE.1 c hd hc) hn.dF c a3
    refine Ev.step (f := fun k => (spec_reader_digits.f k s ((i + 1 : Nat) : Int)).bind fun t => spec_reader_number.j1 k (!t.1) t.2.1 t.2.2) (fun k => ?_) (Ev.bind hdg (num_j1 hs hn a3.skip))
    simp only [spec_reader_number.j0]
    rw [if_neg (by decide), take_yes h hs, Option.bind_some]
    dsimp only
    rw [if_pos rfl]
theorem number_ev (h : At s 0 n.text) : Ev (fun k => spec_reader_number.f k s 0) (true, s, (s.size : Int)) := by
  have hF := ft_head n
  have main : ∀ j : Nat, At s j (n.A ++ (n.ft ++ n.et)) → Ev (fun k => (spec_reader_take.f s (j : Int) 48).bind fun bt334 => (if bt334.1 = true then (spec_reader_number.j0 k false bt334.2.1 bt334.2.2) else ((spec_reader_digits.f k bt334.2.1 bt334.2.2).bind fun bt337 => (spec_reader_number.j0 k (!bt337.1) bt337.2.1 bt337.2.2)))) (true, s, (s.size : Int)) := by
    intro j hj
    rcases hn.lead with hA | hA
    · rw [hA] at hj
      have hj : At s j (48 :: (n.ft ++ n.et)) := hj
      refine Ev.congr (fun k => ?_) (num_j0 hs hn hj.head.2.2)
      rw [take_yes hj hs, Option.bind_some]
      dsimp only
      rw [if_pos rfl]
    · have hdg := digits_ev hs (fun c hc hd => hF c hd hc) hn.dA hn.nA hj
      refine Ev.congr (f := fun k => (spec_reader_digits.f k s (j : Int)).bind fun t => spec_reader_number.j0 k (!t.1) t.2.1 t.2.2) (fun k => ?_) (Ev.bind hdg (num_j0 hs hn hj.skip))
      rw [take_no hj (by
        intro e
        apply hA
        cases hq : n.A with
        | nil => exact absurd hq hn.nA
        | cons d r => rw [hq] at e; exact e), Option.bind_some]
      dsimp only
      rw [if_neg (by decide)]
  have h45 : n.neg = false → (n.A ++ (n.ft ++ n.et)).head? ≠ some 45 := by
    intro _ e
    cases hq : n.A with
    | nil => exact hn.nA hq
    | cons d r =>
      rw [hq] at e
      have := hn.dA d (by rw [hq]; exact List.mem_cons_self)
      unfold isD at this
      have : d = 45 := by simpa using e
      omega
  unfold Num.text Num.sg at h
  cases hg : n.neg with
  | true =>
    rw [hg] at h
    have h : At s 0 (45 :: (n.A ++ (n.ft ++ n.et))) := h
    refine Ev.congr (fun k => ?_) (main 1 h.head.2.2)
    have ht := take_yes h hs
    unfold spec_reader_number.f
    rw [show (0 : Int) = ((0 : Nat) : Int) by rfl, ht]
    rfl
  | false =>
    rw [hg] at h
    have h : At s 0 (n.A ++ (n.ft ++ n.et)) := h
    refine Ev.congr (fun k => ?_) (main 0 h)
    have ht := take_no h (h45 hg)
    unfold spec_reader_number.f
    rw [show (0 : Int) = ((0 : Nat) : Int) by rfl, ht]
    rfl
theorem isNumber_ev (h : At s 0 n.text) : Ev (fun k => spec_IsNumber.f k s) true := by
  have := Ev.bind (f := fun _ t => some (t.1 && (t.2.2 == (s.size : Int)))) (number_ev hs hn h) (Ev.now _)
  simp only [beq_self_eq_true, Bool.and_true] at this
  exact this
end
end Go.Proofs.YthbmfhkpkkgdnaaGreatDoor.U

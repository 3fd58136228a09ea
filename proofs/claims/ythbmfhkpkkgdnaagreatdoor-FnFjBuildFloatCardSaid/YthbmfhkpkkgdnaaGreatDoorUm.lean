/- The reference's scaled in plain words: it compares m * 2^e with the decimal. -/
import Derived.Test.YthbmfhkpkkgdnaaGreatDoorUn
namespace Go.Proofs.YthbmfhkpkkgdnaaGreatDoor.U
open Go.RowKit Go.Proofs.YthbmfhkpkkgdnaaGreatDoorW.PrintWords Go.Proofs.YthbmfhkpkkgdnaaGreatDoorW.PrintLast Go.Proofs.YthbmfhkpkkgdnaaGreatDoorW.PrintMore Go.Proofs.YthbmfhkpkkgdnaaGreatDoor.Q
set_option linter.unusedVariables false
/-- A natural number of the reference: its digits, no 0 at the end, and what they come to. -/
structure Nt (l : List Int) (n B : Nat) : Prop where
  dg : dg l
  nm : nm l
  val : nv l = n
  len : l.length ≤ B
theorem Nt.up {l : List Int} {n B C : Nat} (h : Nt l n B) (hC : B ≤ C) : Nt l n C := ⟨h.dg, h.nm, h.val, Nat.le_trans h.len hC⟩
theorem Nt.nil (B : Nat) : Nt [] 0 B := ⟨fun c h => by simp at h, by unfold U.nm; simp, rfl, by simp⟩
theorem Nt.mul {l : List Int} {n B : Nat} {m a : Int} (h : Nt l n B) (hm : 0 < m ∧ m < 4294967296) (ha : 0 ≤ a ∧ a < 4294967296) : Nt (mulc l m a) (n * m.toNat + a.toNat) (B + 1) := by
  obtain ⟨h1, h2, h3⟩ := mulc_dg l m a h.dg (by omega) ha
  exact ⟨h1, mulc_nm l m a h.dg h.nm hm ha, by rw [h2, h.val], by have := h.len; omega⟩
/-! ### ofWord -/
theorem ofWord_ev {m : Int} (hm : 0 ≤ m ∧ m < 18446744073709551616) : ∃ l, Ev (fun k => spec_ofWord.f k m) l ∧ Nt l m.toNat 2 := by
  have h0 : ∀ l : List Int, l = [] → Ev (fun k => spec_ofWord.l0 k l) [] := fun l h => by
    subst h
    exact Ev.const _ fun k => by simp only [spec_ofWord.l0]; rw [if_neg (by simp)]
  have hstop : ∀ (a : List Int) (c : Int), a.length ≤ 2 → c ≠ 0 → Ev (fun k => spec_ofWord.l0 k (a ++ [c])) (a ++ [c]) := fun a c ha hc => Ev.const _ fun k => by
    have hl : ((a ++ [c]).length : Int) = (a.length : Int) + 1 := by simp
    simp only [spec_ofWord.l0]
    rw [hl, if_pos (by omega), wr (by omega) (by omega), show (a.length : Int) + 1 - 1 = a.length by omega, if_pos (by omega), if_pos (by omega), rd_mid, if_neg hc]
  have hgo : ∀ (a : List Int) (r : List Int), a.length ≤ 2 → Ev (fun k => spec_ofWord.l0 k a) r → Ev (fun k => spec_ofWord.l0 k (a ++ [0])) r := fun a r ha h => by
    refine Ev.step (fun k => ?_) h
    have hl : ((a ++ [0]).length : Int) = (a.length : Int) + 1 := by simp
    simp only [spec_ofWord.l0]
    rw [hl, if_pos (by omega), wr (by omega) (by omega), show (a.length : Int) + 1 - 1 = a.length by omega, if_pos (by omega), if_pos (by omega), rd_mid, if_pos rfl, if_pos (by omega), Int.toNat_natCast, List.take_left]
  obtain ⟨a, ha⟩ : ∃ a, a = m % 4294967296 := ⟨_, rfl⟩
  obtain ⟨b, hb⟩ : ∃ b, b = m / 4294967296 % 4294967296 := ⟨_, rfl⟩
  have hf : ∀ k, spec_ofWord.f k m = spec_ofWord.l0 k [a, b] := fun k => by unfold spec_ofWord.f; rw [ha, hb]
  by_cases hb0 : b = 0
  · by_cases ha0 : a = 0
    · refine ⟨[], Ev.congr hf ?_, ?_⟩
      · rw [hb0]; exact hgo [a] _ (by simp) (by rw [ha0]; exact hgo [] _ (by simp) (h0 _ rfl))
      · have : m.toNat = 0 := by omega
        rw [this]; exact Nt.nil 2
    · refine ⟨[a], Ev.congr hf ?_, ?_⟩
      · rw [hb0]; exact hgo [a] _ (by simp) (hstop [] a (by simp) ha0)
      · refine ⟨fun c hc => ?_, ?_, ?_, by simp⟩
        · rw [List.mem_singleton] at hc; omega
        · unfold U.nm; simp; exact ha0
        · simp only [nv]; omega
  · refine ⟨[a, b], Ev.congr hf (hstop [a] b (by simp) hb0), ?_⟩
    refine ⟨fun c hc => ?_, ?_, ?_, by simp⟩
    · simp only [List.mem_cons, List.not_mem_nil, or_false] at hc; omega
    · unfold U.nm; simp; exact hb0
    · simp only [nv]; omega
/-! ### ofDigits -/
def D10 (l : List Int) : Nat := l.foldl (fun n c => n * 10 + (c - 48).toNat) 0
theorem foldl10 : ∀ (l : List Int) (n : Nat), l.foldl (fun n c => n * 10 + (c - 48).toNat) n = n * 10 ^ l.length + D10 l
  | [], n => by simp [D10]
  | c :: r, n => by
    unfold D10
    rw [List.foldl_cons, List.foldl_cons, foldl10 r, foldl10 r (0 * 10 + (c - 48).toNat), List.length_cons, Nat.pow_succ, Nat.zero_mul, Nat.zero_add, Nat.add_mul, Nat.mul_assoc, Nat.mul_comm 10 (10 ^ r.length), ← Nat.mul_assoc, Nat.add_assoc]
theorem D10_append (a b : List Int) : D10 (a ++ b) = D10 a * 10 ^ b.length + D10 b := by
  conv => lhs; unfold D10
  rw [List.foldl_append, foldl10 b]; rfl
theorem ofDigits_loop {s : ByteArray} (hs : s.size ≤ 5000) (hd : ∀ q : Int, 0 ≤ q → q < s.size → 48 ≤ bt s q ∧ bt s q ≤ 57) (d : Nat) : ∀ (i : Nat) (x : List Int) (n : Nat), i ≤ s.size → s.size - i = d → Nt x n i →
    ∃ l, Ev (fun k => spec_ofDigits.l0 k s x i) l ∧ Nt l ((bytesOf s).drop i |>.foldl (fun n c => n * 10 + (c - 48).toNat) n) s.size := by
  induction d with
  | zero =>
    intro i x n h1 h2 hx
    refine ⟨x, Ev.const _ fun k => ?_, ?_⟩
    · simp only [spec_ofDigits.l0]; rw [if_neg (by omega)]
    · rw [List.drop_of_length_le (by rw [bytesOf_length]; omega)]; exact hx.up (by omega)
  | succ d ih =>
    intro i x n h1 h2 hx
    have hi := hd i (by omega) (by omega)
    have hlen := hx.len
    have hmul := hx.mul (m := 10) (a := bt s i - 48) (by omega) (by omega)
    obtain ⟨l, hl, hn⟩ := ih (i + 1) _ _ (by omega) (by omega) hmul
    refine ⟨l, ?_, ?_⟩
    · have ht := times_ev (l := x) (m := 10) (a := bt s i - 48) (by omega) hx.dg (by omega) (by omega)
      refine Ev.step (f := fun k => (spec_natural_times.f k x 10 (bt s i - 48)).bind fun t => spec_ofDigits.l0 k s t ((i + 1 : Nat) : Int)) (fun k => ?_) (Ev.bind ht hl)
      simp only [spec_ofDigits.l0]
      rw [if_pos (by omega), if_pos (by omega), Int.emod_eq_of_lt (by omega) (by omega), wr (by omega) (by omega)]; rfl
    · have e : (bytesOf s).drop i = bt s i :: (bytesOf s).drop (i + 1) := by
        rw [List.drop_eq_getElem_cons (by rw [bytesOf_length]; omega)]
        congr 1
        rw [← rd_bytesOf]
        unfold rd
        rw [Int.toNat_natCast, List.getD_eq_getElem?_getD, List.getElem?_eq_getElem (by rw [bytesOf_length]; omega)]; rfl
      rw [e, List.foldl_cons]
      exact hn
theorem ofDigits_ev {s : ByteArray} (hs : s.size ≤ 5000) (hd : ∀ q : Int, 0 ≤ q → q < s.size → 48 ≤ bt s q ∧ bt s q ≤ 57) : ∃ l, Ev (fun k => spec_ofDigits.f k s) l ∧ Nt l (D10 (bytesOf s)) s.size := by
  obtain ⟨l, h1, h2⟩ := ofDigits_loop hs hd s.size 0 [] 0 (by omega) rfl (Nt.nil 0)
  exact ⟨l, Ev.congr (fun k => rfl) h1, h2⟩
/-! ### shift -/
theorem nv_zeros (n : Nat) (l : List Int) : nv (List.replicate n 0 ++ l) = 4294967296 ^ n * nv l := by
  induction n with
  | zero => simp
  | succ n ih => rw [List.replicate_succ, List.cons_append, nv, ih, Nat.pow_succ, Nat.mul_comm (4294967296 ^ n) 4294967296, Nat.mul_assoc]; simp
theorem shift_ev {l : List Int} {v B n : Nat} (h : Nt l v B) (hB : B ≤ 5000) (hn : n ≤ 5000) : ∃ r, Ev (fun k => spec_natural_shift.f k l n) r ∧ Nt r (v * 2 ^ n) (B + 1 + n) := by
  by_cases h0 : l = []
  · subst h0
    have hv : v = 0 := h.val.symm
    refine ⟨[], Ev.congr (fun k => ?_) (Ev.now _), by rw [hv, Nat.zero_mul]; exact Nt.nil _⟩
    unfold spec_natural_shift.f
    rw [if_pos (by simp)]
  · have hlen := h.len
    have hl0 : 0 < l.length := List.length_pos_iff.2 h0
    have e1 : Int.tmod (n : Int) 32 = ((n % 32 : Nat) : Int) := by rw [Int.tmod_eq_emod_of_nonneg (by omega)]; omega
    have e2 : Int.tdiv (n : Int) 32 = ((n / 32 : Nat) : Int) := by rw [Int.tdiv_eq_ediv_of_nonneg (by omega)]; omega
    have hp : 2 ^ (n % 32) < 4294967296 := by
      have : n % 32 < 32 := Nat.mod_lt _ (by decide)
      calc 2 ^ (n % 32) < 2 ^ 32 := Nat.pow_lt_pow_right (by decide) this
        _ = 4294967296 := by decide
    have e3 : shl .u32 1 ((n % 32 : Nat) : Int) = ((2 ^ (n % 32) : Nat) : Int) := by
      unfold shl
      have : min ((n % 32 : Nat) : Int).toNat IntKind.u32.bits = n % 32 := by rw [Int.toNat_natCast]; show min (n % 32) 32 = _; omega
      rw [this, Int.one_mul]
      obtain ⟨P, hP⟩ : ∃ P : Int, P = 2 ^ (n % 32) := ⟨_, rfl⟩
      have c1 : ((2 ^ (n % 32) : Nat) : Int) = P := by rw [hP, Int.natCast_pow]; rfl
      rw [← hP, c1]
      have e : IntKind.u32.wrap P = P % 4294967296 := rfl
      rw [e]
      have p0 : 0 ≤ P := by rw [← c1]; exact Int.natCast_nonneg _
      have p1 : P < 4294967296 := by rw [← c1]; exact Int.ofNat_lt.mpr hp
      exact Int.emod_eq_of_lt p0 p1
    have hp0 : 0 < 2 ^ (n % 32) := Nat.two_pow_pos _
    have hmul := h.mul (m := ((2 ^ (n % 32) : Nat) : Int)) (a := 0) (by omega) (by omega)
    have ht := times_ev (l := l) (m := ((2 ^ (n % 32) : Nat) : Int)) (a := 0) (by omega) h.dg (by omega) (by omega)
    have hml := hmul.len
    have hne := mulc_ne l ((2 ^ (n % 32) : Nat) : Int) 0 h0
    refine ⟨List.replicate (n / 32) 0 ++ mulc l ((2 ^ (n % 32) : Nat) : Int) 0, Ev.congr (f := fun k => (spec_natural_times.f k l ((2 ^ (n % 32) : Nat) : Int) 0).bind fun t => if (List.replicate (n / 32) (0 : Int)).length + t.length < 35184372088832 then some (List.replicate (n / 32) 0 ++ t) else none) (fun k => ?_) (Ev.bind ht (Ev.congr (fun k => ?_) (Ev.now _))), ?_⟩
    · unfold spec_natural_shift.f
      rw [if_neg (by omega), e1, if_pos (by omega), e3, e2, wr (by omega) (by omega)]
      congr 1
      funext t
      rw [if_pos (by omega), if_pos (by omega), Option.bind_some, Int.toNat_natCast]
    · rw [if_pos (by rw [List.length_replicate]; omega)]
    · refine ⟨fun c hc => ?_, ?_, ?_, by rw [List.length_append, List.length_replicate]; omega⟩
      · rcases List.mem_append.1 hc with hc | hc
        · have := List.eq_of_mem_replicate hc; omega
        · exact hmul.dg c hc
      · have h5 := hmul.nm
        unfold U.nm at h5 ⊢
        rw [List.getLast?_append]
        cases hg : (mulc l ((2 ^ (n % 32) : Nat) : Int) 0).getLast? with
        | none => rw [List.getLast?_eq_none_iff] at hg; exact absurd hg hne
        | some x => rw [hg] at h5; simpa using h5
      · rw [nv_zeros, hmul.val, Int.toNat_natCast]
        have e4 : (4294967296 : Nat) ^ (n / 32) = 2 ^ (32 * (n / 32)) := by rw [Nat.pow_mul]
        have e5 : 2 ^ n = 2 ^ (32 * (n / 32)) * 2 ^ (n % 32) := by rw [← Nat.pow_add]; congr 1; omega
        rw [e4, e5]
        rw [Int.toNat_zero, Nat.add_zero, Nat.mul_comm (2 ^ (32 * (n / 32))) (v * _), Nat.mul_assoc, Nat.mul_comm (2 ^ (n % 32))]
/-! ### tens -/
theorem tens1_ev (d : Nat) : ∀ {l : List Int} {v B : Nat}, Nt l v B → B + d ≤ 10000 → ∃ r, Ev (fun k => spec_natural_tens.l1 k l (d : Int)) r ∧ Nt r (v * 10 ^ d) (B + d) := by
  induction d with
  | zero =>
    intro l v B h hB
    exact ⟨l, Ev.const _ fun k => by simp only [spec_natural_tens.l1]; rw [if_neg (by omega)], by rw [Nat.pow_zero, Nat.mul_one]; exact h⟩
  | succ d ih =>
    intro l v B h hB
    have hlen := h.len
    have hm := h.mul (m := 10) (a := 0) (by omega) (by omega)
    obtain ⟨r, h1, h2⟩ := ih hm (by omega)
    have ht := times_ev (l := l) (m := 10) (a := 0) (by omega) h.dg (by omega) (by omega)
    refine ⟨r, Ev.step (f := fun k => (spec_natural_times.f k l 10 0).bind fun t => spec_natural_tens.l1 k t (d : Int)) (fun k => ?_) (Ev.bind ht h1), ?_⟩
    · simp only [spec_natural_tens.l1]
      rw [if_pos (by omega), wr (by omega) (by omega), show ((d + 1 : Nat) : Int) - 1 = d by omega]
    · have e : (v * Int.toNat 10 + Int.toNat 0) * 10 ^ d = v * 10 ^ (d + 1) := by
        rw [Nat.pow_succ, Nat.mul_comm (10 ^ d) 10, ← Nat.mul_assoc]; rfl
      rw [e] at h2
      exact h2.up (by omega)
theorem tens_ev (d : Nat) : ∀ {l : List Int} {v B : Nat}, Nt l v B → B + d ≤ 10000 → ∃ r, Ev (fun k => spec_natural_tens.f k l (d : Int)) r ∧ Nt r (v * 10 ^ d) (B + d) := by
  induction d using Nat.strongRecOn with
  | _ d ih =>
    intro l v B h hB
    by_cases h9 : 9 ≤ d
    · have hlen := h.len
      have hm := h.mul (m := 1000000000) (a := 0) (by omega) (by omega)
      obtain ⟨r, h1, h2⟩ := ih (d - 9) (by omega) hm (by omega)
      have ht := times_ev (l := l) (m := 1000000000) (a := 0) (by omega) h.dg (by omega) (by omega)
      have hs : Ev (fun k => spec_natural_tens.l0 k l (d : Int)) r := by
        refine Ev.step (f := fun k => (spec_natural_times.f k l 1000000000 0).bind fun t => spec_natural_tens.l0 k t ((d - 9 : Nat) : Int)) (fun k => ?_) (Ev.bind ht h1)
        simp only [spec_natural_tens.l0]
        rw [if_pos (by omega), wr (by omega) (by omega), show (d : Int) - 9 = ((d - 9 : Nat) : Int) by omega]
      refine ⟨r, hs, ?_⟩
      have e : (v * Int.toNat 1000000000 + Int.toNat 0) * 10 ^ (d - 9) = v * 10 ^ d := by
        have e1 : 10 ^ d = 10 ^ 9 * 10 ^ (d - 9) := by rw [← Nat.pow_add]; congr 1; omega
        have e2 : Int.toNat 1000000000 = 10 ^ 9 := by decide
        rw [e1, ← Nat.mul_assoc, e2, Int.toNat_zero, Nat.add_zero]
      rw [e] at h2
      exact h2.up (by omega)
    · obtain ⟨r, h1, h2⟩ := tens1_ev d h hB
      refine ⟨r, ?_, h2⟩
      show Ev (fun k => spec_natural_tens.l0 k l (d : Int)) r
      refine Ev.step (fun k => ?_) h1
      simp only [spec_natural_tens.l0]
      rw [if_neg (by omega)]
end Go.Proofs.YthbmfhkpkkgdnaaGreatDoor.U

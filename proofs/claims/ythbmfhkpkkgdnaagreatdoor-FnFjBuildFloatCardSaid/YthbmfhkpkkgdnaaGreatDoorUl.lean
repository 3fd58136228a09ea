/- The reference's scaled and against in plain words. -/
import Derived.Test.YthbmfhkpkkgdnaaGreatDoorUm
namespace Go.Proofs.YthbmfhkpkkgdnaaGreatDoor.U
open Go.RowKit Go.Proofs.YthbmfhkpkkgdnaaGreatDoorW.PrintWords Go.Proofs.YthbmfhkpkkgdnaaGreatDoorW.PrintLast Go.Proofs.YthbmfhkpkkgdnaaGreatDoorW.PrintMore Go.Proofs.YthbmfhkpkkgdnaaGreatDoor.Q
set_option linter.unusedVariables false
theorem nv_lt : ∀ (l : List Int), dg l → nv l < 4294967296 ^ l.length
  | [], _ => by simp [nv]
  | c :: r, h => by
    have ih := nv_lt r fun x hx => h x (List.mem_cons_of_mem _ hx)
    have hc := h c (List.mem_cons_self ..)
    have h1 := Nat.mul_le_mul_left 4294967296 (show nv r + 1 ≤ 4294967296 ^ r.length by omega)
    rw [nv, List.length_cons, Nat.pow_succ]
    omega
theorem nv_append (b : List Int) : ∀ (a : List Int), nv (a ++ b) = nv a + 4294967296 ^ a.length * nv b
  | [] => by simp [nv]
  | c :: r => by
    have ih := nv_append b r
    rw [List.cons_append, nv, nv, ih, List.length_cons, Nat.pow_succ, Nat.mul_add, ← Nat.mul_assoc 4294967296, Nat.mul_comm 4294967296 (4294967296 ^ r.length)]
    omega
theorem nv_ge : ∀ (l : List Int), dg l → nm l → l ≠ [] → 4294967296 ^ (l.length - 1) ≤ nv l := by
  intro l hd hn hne
  obtain ⟨a, c, e⟩ : ∃ a c, l = a ++ [c] := by
    rcases List.eq_nil_or_concat l with h | ⟨a, c, h⟩
    · exact absurd h hne
    · exact ⟨a, c, by rw [h, List.concat_eq_append]⟩
  subst e
  have hc := hd c (by simp)
  have hc0 : c ≠ 0 := by
    intro h; apply hn; rw [List.getLast?_append]; simp [h]
  rw [nv_append, List.length_append, List.length_cons, List.length_nil, Nat.add_sub_cancel]
  have h1 := Nat.mul_le_mul_left (4294967296 ^ a.length) (show 1 ≤ nv [c] by simp only [nv]; omega)
  omega
/-- What a comparison says of two numbers. -/
def Says (r : Int) (x y : Nat) : Prop := (r < 0 ↔ x < y) ∧ (r = 0 ↔ x = y)
theorem take_succ_rd {l : List Int} {i : Nat} (h : i < l.length) : l.take (i + 1) = l.take i ++ [rd l i] := by
  rw [List.take_succ_eq_append_getElem h]
  congr 2
  unfold rd
  rw [Int.toNat_natCast, List.getD_eq_getElem?_getD, List.getElem?_eq_getElem h]
  rfl
theorem against_loop {x y : List Int} (hx : dg x) (hy : dg y) (he : x.length = y.length) (hl : x.length ≤ 1000000) (n : Nat) : n ≤ x.length →
    ∃ r, Ev (fun k => spec_natural_against.l0 k x y ((n : Int) - 1)) r ∧ Says r (nv (x.take n)) (nv (y.take n)) := by
  induction n with
  | zero =>
    intro h
    refine ⟨0, Ev.const _ fun k => ?_, by unfold Says; simp [nv]⟩
    simp only [spec_natural_against.l0]
    rw [if_neg (by omega)]
  | succ n ih =>
    intro h
    obtain ⟨r, h1, h2⟩ := ih (by omega)
    have ex := take_succ_rd (l := x) (i := n) (by omega)
    have ey := take_succ_rd (l := y) (i := n) (by omega)
    have hxn := hx (rd x n) (List.mem_of_mem_take (i := n + 1) (by rw [ex]; simp))
    have hyn := hy (rd y n) (List.mem_of_mem_take (i := n + 1) (by rw [ey]; simp))
    have lx : (x.take n).length = n := by rw [List.length_take]; omega
    have ly : (y.take n).length = n := by rw [List.length_take]; omega
    have vx := nv_lt (x.take n) fun c hc => hx c (List.mem_of_mem_take hc)
    have vy := nv_lt (y.take n) fun c hc => hy c (List.mem_of_mem_take hc)
    rw [lx] at vx
    rw [ly] at vy
    obtain ⟨P, hP⟩ : ∃ P, P = 4294967296 ^ n := ⟨_, rfl⟩
    have nx : nv (x.take (n + 1)) = nv (x.take n) + P * (rd x n).toNat := by rw [ex, nv_append, lx, hP]; simp [nv]
    have ny : nv (y.take (n + 1)) = nv (y.take n) + P * (rd y n).toNat := by rw [ey, nv_append, ly, hP]; simp [nv]
    rw [← hP] at vx vy
    have hstep : ∀ a b : Nat, a < b → P * a + P ≤ P * b := fun a b h => by
      have := Nat.mul_le_mul_left P (show a + 1 ≤ b by omega)
      rw [Nat.mul_add, Nat.mul_one] at this; exact this
    have e1 : ((n + 1 : Nat) : Int) - 1 = n := by omega
    by_cases c1 : rd x n < rd y n
    · refine ⟨-1, Ev.const _ fun k => ?_, ?_⟩
      · simp only [spec_natural_against.l0]
        rw [e1, if_pos (by omega), if_pos (by omega), if_pos (by omega), if_pos (by omega), if_pos c1]
      · have := hstep (rd x n).toNat (rd y n).toNat (by omega)
        unfold Says; rw [nx, ny]; omega
    · by_cases c2 : rd x n > rd y n
      · refine ⟨1, Ev.const _ fun k => ?_, ?_⟩
        · simp only [spec_natural_against.l0]
          rw [e1, if_pos (by omega), if_pos (by omega), if_pos (by omega), if_pos (by omega), if_neg c1, if_pos c2]
        · have := hstep (rd y n).toNat (rd x n).toNat (by omega)
          unfold Says; rw [nx, ny]; omega
      · refine ⟨r, Ev.step (fun k => ?_) h1, ?_⟩
        · simp only [spec_natural_against.l0]
          rw [e1, if_pos (by omega), if_pos (by omega), if_pos (by omega), if_pos (by omega), if_neg c1, if_neg c2, wr (by omega) (by omega)]
        · have e2 : rd x n = rd y n := by omega
          unfold Says at h2 ⊢
          rw [nx, ny, e2]; omega
theorem against_ev {x y : List Int} {a b B C : Nat} (hx : Nt x a B) (hy : Nt y b C) (hB : B ≤ 1000000) (hC : C ≤ 1000000) : ∃ r, Ev (fun k => spec_natural_against.f k x y) r ∧ Says r a b := by
  have hxl := hx.len
  have hyl := hy.len
  have key : ∀ {u v : List Int} {m n : Nat}, dg u → nv u = m → dg v → nm v → nv v = n → u.length < v.length → m < n := by
    intro u v m n hu hm hv hvn hn hlt
    have h1 := nv_lt u hu
    have h2 := nv_ge v hv hvn (by intro h; rw [h] at hlt; simp at hlt)
    have h3 : 4294967296 ^ u.length ≤ 4294967296 ^ (v.length - 1) := Nat.pow_le_pow_right (by decide) (by omega)
    omega
  by_cases he : x.length = y.length
  · obtain ⟨r, h1, h2⟩ := against_loop hx.dg hy.dg he (by omega) x.length (Nat.le_refl _)
    rw [List.take_length, he, List.take_length, hx.val, hy.val] at h2
    refine ⟨r, Ev.congr (fun k => ?_) h1, h2⟩
    unfold spec_natural_against.f
    rw [if_pos (by omega), wr (by omega) (by omega)]
  · by_cases hlt : x.length < y.length
    · have := key hx.dg hx.val hy.dg hy.nm hy.val hlt
      refine ⟨-1, Ev.congr (fun k => ?_) (Ev.now _), by unfold Says; omega⟩
      unfold spec_natural_against.f
      rw [if_neg (by omega), if_pos (by omega)]
    · have := key hy.dg hy.val hx.dg hx.nm hx.val (by omega)
      refine ⟨1, Ev.congr (fun k => ?_) (Ev.now _), by unfold Says; omega⟩
      unfold spec_natural_against.f
      rw [if_neg (by omega), if_neg (by omega)]
/-- scaled: m * 2^e against the decimal. -/
theorem scaled_ev {m e q : Int} {s : ByteArray} (neg : Bool) (hm : 0 ≤ m ∧ m < 18446744073709551616) (he : -2000 ≤ e ∧ e ≤ 2000) (hq : -2000 ≤ q ∧ q ≤ 2000) (hs : s.size ≤ 1000) (hd : ∀ q : Int, 0 ≤ q → q < s.size → 48 ≤ bt s q ∧ bt s q ≤ 57) :
    ∃ r, Ev (fun k => spec_scaled.f k m e neg s q) r ∧ Says r (m.toNat * 2 ^ e.toNat * 10 ^ (-q).toNat) (D10 (bytesOf s) * 2 ^ (-e).toNat * 10 ^ q.toNat) := by
  obtain ⟨x, hx, nx⟩ := ofWord_ev hm
  obtain ⟨y, hy, ny⟩ := ofDigits_ev (s := s) (by omega) hd
  have tail : ∀ {x y : List Int} {a b : Nat}, Nt x a 3000 → Nt y b 4000 → ∃ r, Ev (fun k => spec_scaled.j0 k x y neg s q) r ∧ Says r (a * 10 ^ (-q).toNat) (b * 10 ^ q.toNat) := by
    intro x y a b hx hy
    by_cases c : q > 0
    · obtain ⟨z, hz, nz⟩ := tens_ev q.toNat hy (by omega)
      rw [show ((q.toNat : Nat) : Int) = q by omega] at hz
      obtain ⟨r, hr, hs⟩ := against_ev hx nz (by omega) (by omega)
      refine ⟨r, Ev.step (f := fun k => (spec_natural_tens.f k y q).bind fun t => (spec_natural_against.f k x t).bind fun t2 => some t2) (fun k => ?_) (Ev.bind hz (Ev.bind hr (Ev.now _))), ?_⟩
      · simp only [spec_scaled.j0]; rw [if_pos c]
      · rw [show (-q).toNat = 0 by omega, Nat.pow_zero, Nat.mul_one]; exact hs
    · obtain ⟨z, hz, nz⟩ := tens_ev (-q).toNat hx (by omega)
      rw [show (((-q).toNat : Nat) : Int) = -q by omega] at hz
      obtain ⟨r, hr, hs⟩ := against_ev nz hy (by omega) (by omega)
      refine ⟨r, Ev.step (f := fun k => (spec_natural_tens.f k x (-q)).bind fun t => (spec_natural_against.f k t y).bind fun t2 => some t2) (fun k => ?_) (Ev.bind hz (Ev.bind hr (Ev.now _))), ?_⟩
      · simp only [spec_scaled.j0]; rw [if_neg c, wr (by omega) (by omega)]
      · rw [show q.toNat = 0 by omega, Nat.pow_zero, Nat.mul_one]; exact hs
  by_cases c : e > 0
  · obtain ⟨z, hz, nz⟩ := shift_ev (n := e.toNat) nx (by omega) (by omega)
    rw [show ((e.toNat : Nat) : Int) = e by omega] at hz
    obtain ⟨r, hr, hs2⟩ := tail (nz.up (by omega)) (ny.up (by omega))
    refine ⟨r, Ev.congr (f := fun k => (spec_ofWord.f k m).bind fun t => (spec_ofDigits.f k s).bind fun t2 => (spec_natural_shift.f k t e).bind fun t3 => spec_scaled.j0 k t3 t2 neg s q) (fun k => ?_) (Ev.bind hx (Ev.bind hy (Ev.bind hz hr))), ?_⟩
    · unfold spec_scaled.f; simp only [if_pos c]
    · rw [show (-e).toNat = 0 by omega, Nat.pow_zero, Nat.mul_one]; exact hs2
  · obtain ⟨z, hz, nz⟩ := shift_ev (n := (-e).toNat) ny (by omega) (by omega)
    rw [show (((-e).toNat : Nat) : Int) = -e by omega] at hz
    obtain ⟨r, hr, hs2⟩ := tail (nx.up (by omega)) (nz.up (by omega))
    refine ⟨r, Ev.congr (f := fun k => (spec_ofWord.f k m).bind fun t => (spec_ofDigits.f k s).bind fun t2 => (spec_natural_shift.f k t2 (-e)).bind fun t3 => spec_scaled.j0 k t t3 neg s q) (fun k => ?_) (Ev.bind hx (Ev.bind hy (Ev.bind hz hr))), ?_⟩
    · unfold spec_scaled.f; simp only [if_neg c]; rw [wr (by omega) (by omega)]
    · rw [show e.toNat = 0 by omega, Nat.pow_zero, Nat.mul_one]; exact hs2
end Go.Proofs.YthbmfhkpkkgdnaaGreatDoor.U

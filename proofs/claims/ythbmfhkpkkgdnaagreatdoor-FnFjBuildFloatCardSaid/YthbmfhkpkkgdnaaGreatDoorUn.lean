/- The reference's natural numbers in plain words: digits to the base 2^32, what times, shift, tens, ofDigits, ofWord make, what against says. -/
import Derived.Test.YthbmfhkpkkgdnaaGreatDoorQ10
namespace Go.Proofs.YthbmfhkpkkgdnaaGreatDoor.U
open Go.RowKit Go.Proofs.YthbmfhkpkkgdnaaGreatDoorW.PrintWords Go.Proofs.YthbmfhkpkkgdnaaGreatDoorW.PrintLast Go.Proofs.YthbmfhkpkkgdnaaGreatDoorW.PrintMore Go.Proofs.YthbmfhkpkkgdnaaGreatDoor.Q
set_option linter.unusedVariables false
theorem Ev.const {α : Type} (r : α) {g : Nat → Option α} (h : ∀ k, g (k + 1) = some r) : Ev g r := Ev.step (f := fun _ => some r) h (Ev.now r)
theorem wr {i : Int} (h0 : -9223372036854775808 ≤ i) (h : i ≤ 9223372036854775807) : wrap64 i = i := by unfold wrap64; omega
theorem wu {i : Int} (h0 : 0 ≤ i) (h : i < 18446744073709551616) : IntKind.u64.wrap i = i := by
  have e : IntKind.u64.wrap i = i % 18446744073709551616 := rfl
  rw [e]; omega
def nv : List Int → Nat
  | [] => 0
  | c :: r => c.toNat + 4294967296 * nv r
def dg (l : List Int) : Prop := ∀ c, c ∈ l → 0 ≤ c ∧ c < 4294967296
def nm (l : List Int) : Prop := l.getLast? ≠ some 0
def mulc : List Int → Int → Int → List Int
  | [], m, c => if c > 0 then [c] else []
  | d :: r, m, c => (c + d * m) % 4294967296 :: mulc r m ((c + d * m) / 4294967296)
theorem mul_bound {c d m : Int} (hc : 0 ≤ c ∧ c < 4294967296) (hd : 0 ≤ d ∧ d < 4294967296) (hm : 0 ≤ m ∧ m < 4294967296) : 0 ≤ d * m ∧ d * m ≤ 18446744065119617025 := by
  have h1 := Int.mul_nonneg hd.1 hm.1
  have h2 : d * m ≤ 4294967295 * 4294967295 := Int.mul_le_mul (by omega) (by omega) hm.1 (by omega)
  omega
theorem mulc_dg : ∀ (l : List Int) (m c : Int), dg l → 0 ≤ m ∧ m < 4294967296 → 0 ≤ c ∧ c < 4294967296 → dg (mulc l m c) ∧ nv (mulc l m c) = nv l * m.toNat + c.toNat ∧ (mulc l m c).length ≤ l.length + 1
  | [], m, c, hl, hm, hc => by
    unfold mulc
    split
    · refine ⟨fun x hx => ?_, ?_, by simp⟩
      · rw [List.mem_singleton] at hx; subst hx; exact hc
      · simp [nv]
    · refine ⟨fun x hx => by simp at hx, ?_, by simp⟩
      simp only [nv]; omega
  | d :: r, m, c, hl, hm, hc => by
    have hd := hl d (List.mem_cons_self ..)
    have hb := mul_bound hc hd hm
    obtain ⟨i1, i2, i3⟩ := mulc_dg r m ((c + d * m) / 4294967296) (fun x hx => hl x (List.mem_cons_of_mem _ hx)) hm (by omega)
    unfold mulc
    refine ⟨fun x hx => ?_, ?_, by simp only [List.length_cons]; omega⟩
    · rcases List.mem_cons.1 hx with rfl | hx
      · omega
      · exact i1 x hx
    · simp only [nv]
      rw [i2]
      have e1 : (d * m).toNat = d.toNat * m.toNat := by rw [Int.toNat_mul hd.1 hm.1]
      have e2 : (d.toNat + 4294967296 * nv r) * m.toNat = d.toNat * m.toNat + 4294967296 * (nv r * m.toNat) := by rw [Nat.add_mul, Nat.mul_assoc]
      rw [e2, ← e1]
      omega
theorem mulc_ne : ∀ (l : List Int) (m c : Int), l ≠ [] → mulc l m c ≠ []
  | [], m, c, h => absurd rfl h
  | d :: r, m, c, h => by unfold mulc; simp
theorem mulc_nm : ∀ (l : List Int) (m c : Int), dg l → nm l → 0 < m ∧ m < 4294967296 → 0 ≤ c ∧ c < 4294967296 → nm (mulc l m c)
  | [], m, c, hl, hn, hm, hc => by
    unfold mulc nm
    split
    · simp; omega
    · simp
  | [d], m, c, hl, hn, hm, hc => by
    have hd := hl d (List.mem_cons_self ..)
    have hb := mul_bound hc hd (by omega : 0 ≤ m ∧ m < 4294967296)
    have hd0 : d ≠ 0 := by intro h; apply hn; rw [h]; rfl
    have h1 : 1 * 1 ≤ d * m := Int.mul_le_mul (by omega) (by omega) (by omega) (by omega)
    unfold mulc mulc nm
    split
    · rw [List.getLast?_cons_cons]; simp; omega
    · simp; omega
  | d :: e :: r, m, c, hl, hn, hm, hc => by
    have hd := hl d (List.mem_cons_self ..)
    have hb := mul_bound hc hd (by omega : 0 ≤ m ∧ m < 4294967296)
    have ih := mulc_nm (e :: r) m ((c + d * m) / 4294967296) (fun x hx => hl x (List.mem_cons_of_mem _ hx)) (by unfold nm at hn ⊢; rwa [List.getLast?_cons_cons] at hn) hm (by omega)
    rw [mulc]
    obtain ⟨x, y, hxy⟩ := List.exists_cons_of_ne_nil (mulc_ne (e :: r) m ((c + d * m) / 4294967296) (by simp))
    rw [hxy] at ih ⊢
    unfold nm at ih ⊢
    rwa [List.getLast?_cons_cons]
theorem rd_mid {a r : List Int} {d : Int} : rd (a ++ d :: r) (a.length : Int) = d := by
  unfold rd
  rw [Int.toNat_natCast, List.getD_eq_getElem?_getD, List.getElem?_append_right (Nat.le_refl _), Nat.sub_self]; rfl
theorem times_loop {l : List Int} {m : Int} (hlen : l.length ≤ 1000000) (hl : dg l) (hm : 0 ≤ m ∧ m < 4294967296) : ∀ (rest dn x : List Int) (c : Int), l = dn ++ rest → 0 ≤ c ∧ c < 4294967296 → x.length = dn.length →
    Ev (fun k => spec_natural_times.l0 k l m x c (dn.length : Int)) (x ++ mulc rest m c)
  | [], dn, x, c, h, hc, hx => by
    rw [List.append_nil] at h
    subst h
    refine Ev.const _ fun k => ?_
    simp only [spec_natural_times.l0, mulc]
    rw [if_neg (by omega)]
    by_cases c0 : c > 0
    · rw [if_pos c0, if_pos c0, if_pos (by omega), Int.emod_eq_of_lt hc.1 hc.2]
    · rw [if_neg c0, if_neg c0, List.append_nil]
  | d :: r, dn, x, c, h, hc, hx => by
    have hlen2 : l.length = dn.length + (r.length + 1) := by rw [h]; simp
    have hd := hl d (by rw [h]; simp)
    have hb := mul_bound hc hd hm
    have ih := times_loop hlen hl hm r (dn ++ [d]) (x ++ [(c + d * m) % 4294967296]) ((c + d * m) / 4294967296) (by rw [h]; simp) (by omega) (by simp [hx])
    rw [show ((dn ++ [d]).length : Int) = (dn.length : Int) + 1 by simp] at ih
    rw [mulc]
    have e : x ++ (c + d * m) % 4294967296 :: mulc r m ((c + d * m) / 4294967296) = x ++ [(c + d * m) % 4294967296] ++ mulc r m ((c + d * m) / 4294967296) := by simp
    rw [e]
    refine Ev.step (fun k => ?_) ih
    have hrd : rd l (dn.length : Int) = d := by rw [h]; exact rd_mid
    simp only [spec_natural_times.l0]
    rw [if_pos (by omega), if_pos (by omega), if_pos (by omega), hrd, wu (i := d) (by omega) (by omega), wu (i := m) (by omega) (by omega), wu (i := d * m) (by omega) (by omega), wu (i := c + d * m) (by omega) (by omega), wr (by omega) (by omega)]
theorem times_ev {l : List Int} {m a : Int} (hlen : l.length ≤ 1000000) (hl : dg l) (hm : 0 ≤ m ∧ m < 4294967296) (ha : 0 ≤ a ∧ a < 4294967296) :
    Ev (fun k => spec_natural_times.f k l m a) (mulc l m a) := by
  have h := times_loop hlen hl hm l [] [] a rfl ha rfl
  refine Ev.congr (fun k => ?_) h
  unfold spec_natural_times.f
  rw [wr (by omega) (by omega), if_pos (by omega), if_pos (by omega), wu (by omega) (by omega)]; rfl
end Go.Proofs.YthbmfhkpkkgdnaaGreatDoor.U

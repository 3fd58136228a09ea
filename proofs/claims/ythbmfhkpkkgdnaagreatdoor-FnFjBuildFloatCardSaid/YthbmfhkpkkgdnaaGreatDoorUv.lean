/- The text of fmtEFG as a number of RFC 8259, and its value; the digits that formatBase10 puts. -/
import Derived.Test.YthbmfhkpkkgdnaaGreatDoorUu
import Derived.Test.YthbmfhkpkkgdnaaGreatDoorUr
import Derived.Test.YthbmfhkpkkgdnaaGreatDoorT9
namespace Go.Proofs.YthbmfhkpkkgdnaaGreatDoor.U
open Go.RowKit Go.Proofs.YthbmfhkpkkgdnaaGreatDoorW.PrintWords Go.Proofs.YthbmfhkpkkgdnaaGreatDoorW.PrintLast Go.Proofs.YthbmfhkpkkgdnaaGreatDoorW.PrintMore Go.Proofs.YthbmfhkpkkgdnaaGreatDoor.Q
set_option linter.unusedVariables false
theorem D10_zeros (j : Nat) : D10 (List.replicate j 48) = 0 := by
  induction j with
  | zero => rfl
  | succ j ih => rw [List.replicate_succ, D10_cons, ih]; simp
theorem zeros_isD (j : Nat) : ∀ c, c ∈ List.replicate j (48 : Int) → isD c := by
  intro c hc
  have := List.eq_of_mem_replicate hc
  unfold isD; omega
section
variable (l : List Int) (n : Nat) (hl : l.length = 32) (hn : 1 ≤ n ∧ n ≤ 20) (hds : ∀ i, i < n → isD (l.getD i 0)) (hlead : l.getD 0 0 ≠ 48)
include hl hn hds
theorem take_isD (m : Nat) (hm : m ≤ n) : ∀ c, c ∈ l.take m → isD c := by
  have _ := hn
  intro c hc
  obtain ⟨i, hi, e⟩ := List.getElem_of_mem hc
  rw [List.length_take] at hi
  have := hds i (by omega)
  rw [List.getD_eq_getElem?_getD, List.getElem?_eq_getElem (by omega)] at this
  rw [List.getElem_take] at e
  rw [← e]; exact this
theorem take_head (m : Nat) (hm : 1 ≤ m) : l.take m = rd l 0 :: (l.take m).drop 1 := by
  have _ := hn
  have h0 : rd l 0 = l[0]'(by omega) := by
    unfold rd
    rw [show (0 : Int).toNat = 0 by rfl, List.getD_eq_getElem?_getD, List.getElem?_eq_getElem (by omega)]; rfl
  cases l with
  | nil => simp at hl
  | cons c r =>
    obtain ⟨k, rfl⟩ : ∃ k, m = k + 1 := ⟨m - 1, by omega⟩
    rw [h0]; simp
include hlead
theorem body_num (neg : Bool) (dp : Int) (hd : -350 ≤ dp ∧ dp ≤ 330) :
    ∃ N : Num, N.ok ∧ N.neg = neg ∧ N.text = (if neg = true then [45] else []) ++ bodyT l n dp ∧ N.text.length ≤ 100 ∧ -1000 ≤ expV N.ex ∧ expV N.ex ≤ 1000 ∧
      (∃ j : Nat, D10 (N.A ++ N.fd) = D10 (l.take n) * 10 ^ j ∧ expV N.ex - (N.fd.length : Int) + j = dp - n) ∧ expV N.ex - (N.fd.length : Int) + 2 * ((N.A ++ N.fd).length : Int) ≤ 380 ∧ -380 ≤ expV N.ex - (N.fd.length : Int) := by
  have hr0 : rd l 0 = l.getD 0 0 := rfl
  have hd0 := hds 0 (by omega)
  have hlt : ∀ m, m ≤ n → (l.take m).length = m := fun m hm => by rw [List.length_take]; omega
  have hsg : ((if neg = true then [45] else []) : List Int).length ≤ 1 := by cases neg <;> simp
  unfold bodyT
  by_cases c : dp - 1 < -4 ∨ 6 ≤ dp - 1
  · rw [if_pos c]
    obtain ⟨e1, e2, e3, e4⟩ := expD_ok (e := (dp - 1).natAbs) (by omega)
    have hth := take_head l n hl hn hds n hn.1
    have hfl : ((l.take n).drop 1).length = n - 1 := by rw [List.length_drop, hlt n (Nat.le_refl _)]
    have hexp : expV (some (decide (dp - 1 < 0), expD (dp - 1).natAbs)) = dp - 1 := by
      unfold expV
      dsimp only
      rw [e4]
      by_cases c2 : dp - 1 < 0
      · rw [decide_eq_true c2, if_pos rfl]; omega
      · rw [decide_eq_false c2, if_neg (by decide)]; omega
    have hft : (if 1 < n then 46 :: (l.take n).drop 1 else []) = (if (l.take n).drop 1 = [] then [] else 46 :: (l.take n).drop 1) := by
      by_cases c2 : 1 < n
      · rw [if_pos c2, if_neg (by intro h; rw [h] at hfl; simp at hfl; omega)]
      · rw [if_neg c2, if_pos (List.length_eq_zero_iff.1 (by omega))]
    have htext : Num.text ⟨neg, [rd l 0], (l.take n).drop 1, some (decide (dp - 1 < 0), expD (dp - 1).natAbs)⟩ = (if neg = true then [45] else []) ++ (rd l 0 :: ((if 1 < n then 46 :: (l.take n).drop 1 else []) ++ eT (dp - 1))) := by
      rw [hft]; rfl
    refine ⟨⟨neg, [rd l 0], (l.take n).drop 1, some (decide (dp - 1 < 0), expD (dp - 1).natAbs)⟩, ⟨?_, ?_, ?_, by simp, ?_⟩, rfl, htext, ?_, ?_, ?_, ?_, ?_, ?_⟩
    · intro d hd'; simp only [List.mem_cons, List.not_mem_nil, or_false] at hd'; rw [hd', hr0]; exact hd0
    · intro d hd'; exact take_isD l n hl hn hds n (Nat.le_refl _) d (List.mem_of_mem_drop hd')
    · intro b ed he
      simp only [Option.some.injEq, Prod.mk.injEq] at he
      rw [← he.2]; exact ⟨e1, e2, by omega⟩
    · right; simp; rw [hr0]; exact hlead
    · rw [htext, hft]
      unfold eT
      simp only [List.length_append, List.length_cons]
      have : (if (l.take n).drop 1 = [] then [] else 46 :: (l.take n).drop 1).length ≤ n := by
        split
        · simp
        · rw [List.length_cons, hfl]; omega
      omega
    · show -1000 ≤ expV (some _); rw [hexp]; omega
    · show expV (some _) ≤ 1000; rw [hexp]; omega
    · refine ⟨0, ?_, ?_⟩
      · show D10 ([rd l 0] ++ (l.take n).drop 1) = _
        rw [List.singleton_append, ← hth]; simp
      · show expV (some _) - ((((l.take n).drop 1).length : Nat) : Int) + ((0 : Nat) : Int) = _
        rw [hexp, hfl]; omega
    · show expV (some _) - ((((l.take n).drop 1).length : Nat) : Int) + 2 * ((([rd l 0] ++ (l.take n).drop 1).length : Nat) : Int) ≤ _
      rw [hexp, List.singleton_append, ← hth, hfl, hlt n (Nat.le_refl _)]; omega
    · show _ ≤ expV (some _) - ((((l.take n).drop 1).length : Nat) : Int)
      rw [hexp, hfl]; omega
  · rw [if_neg c]
    unfold intT fracT
    by_cases c1 : 0 < dp
    · rw [if_pos c1]
      by_cases c2 : (n : Int) ≤ dp
      · -- whole
        rw [if_pos c2, List.append_nil, show min n dp.toNat = n by omega]
        have hA : (l.take n ++ List.replicate (dp - (n : Int)).toNat 48).length = dp.toNat := by rw [List.length_append, hlt n (Nat.le_refl _), List.length_replicate]; omega
        have htext : Num.text ⟨neg, l.take n ++ List.replicate (dp - (n : Int)).toNat 48, [], none⟩ = (if neg = true then [45] else []) ++ (l.take n ++ List.replicate (dp - (n : Int)).toNat 48) := by
          show _ ++ (_ ++ ((if _ = [] then [] else _) ++ [])) = _
          rw [if_pos rfl, List.append_nil, List.append_nil]; rfl
        refine ⟨⟨neg, l.take n ++ List.replicate (dp - (n : Int)).toNat 48, [], none⟩, ⟨?_, by simp, by simp, ?_, ?_⟩, rfl, ?_, ?_, by show (-1000 : Int) ≤ 0; omega, by show (0 : Int) ≤ 1000; omega, ⟨(dp - n).toNat, ?_, ?_⟩, ?_, by show (-380 : Int) ≤ 0 - ((0 : Nat) : Int); omega⟩
        · intro d hd'
          rcases List.mem_append.1 hd' with h | h
          · exact take_isD l n hl hn hds n (Nat.le_refl _) d h
          · exact zeros_isD _ d h
        · intro h
          have h : (l.take n ++ List.replicate (dp - (n : Int)).toNat 48) = [] := h
          rw [h] at hA; simp at hA; omega
        · right
          show (l.take n ++ _).head? ≠ _
          rw [take_head l n hl hn hds n hn.1]; simp; rw [hr0]; exact hlead
        · exact htext
        · rw [htext, List.length_append, hA]; omega
        · show D10 (_ ++ []) = _
          rw [List.append_nil, D10_append, D10_zeros, List.length_replicate, Nat.add_zero, show (dp - (n : Int)).toNat = (dp - n).toNat by rfl]
        · show (0 : Int) - ((0 : Nat) : Int) + _ = _
          omega
        · show (0 : Int) - ((0 : Nat) : Int) + 2 * (((_ ++ []) : List Int).length : Int) ≤ _
          rw [List.append_nil, hA]; omega
      · rw [if_neg c2, show min n dp.toNat = dp.toNat by omega, show (dp - ((dp.toNat : Nat) : Int)).toNat = 0 by omega, show (-dp).toNat = 0 by omega]
        simp only [List.replicate_zero, List.append_nil, List.nil_append]
        have hfl : ((l.drop dp.toNat).take (n - dp.toNat)).length = n - dp.toNat := by rw [List.length_take, List.length_drop]; omega
        have hfne : (l.drop dp.toNat).take (n - dp.toNat) ≠ [] := by intro h; rw [h] at hfl; simp at hfl; omega
        have hAF : l.take dp.toNat ++ (l.drop dp.toNat).take (n - dp.toNat) = l.take n := by
          rw [← List.take_add, show dp.toNat + (n - dp.toNat) = n by omega]
        have htext : Num.text ⟨neg, l.take dp.toNat, (l.drop dp.toNat).take (n - dp.toNat), none⟩ = (if neg = true then [45] else []) ++ (l.take dp.toNat ++ (46 :: (l.drop dp.toNat).take (n - dp.toNat))) := by
          show _ ++ (_ ++ ((if _ = [] then [] else _) ++ [])) = _
          rw [if_neg hfne, List.append_nil]; rfl
        refine ⟨⟨neg, l.take dp.toNat, (l.drop dp.toNat).take (n - dp.toNat), none⟩, ⟨?_, ?_, by simp, ?_, ?_⟩, rfl, htext, ?_, by show (-1000 : Int) ≤ 0; omega, by show (0 : Int) ≤ 1000; omega, ⟨0, ?_, ?_⟩, ?_, ?_⟩
        · exact take_isD l n hl hn hds _ (by omega)
        · intro d hd'
          exact take_isD l n hl hn hds n (Nat.le_refl _) d (by rw [← hAF]; exact List.mem_append_right _ hd')
        · intro h
          have h : l.take dp.toNat = [] := h
          have := hlt dp.toNat (by omega)
          rw [h] at this; simp at this; omega
        · right
          show (l.take dp.toNat).head? ≠ _
          rw [take_head l n hl hn hds _ (by omega)]; simp; rw [hr0]; exact hlead
        · rw [htext]
          simp only [List.length_append, List.length_cons, hfl, hlt dp.toNat (by omega)]
          omega
        · show D10 (_ ++ _) = _
          rw [hAF]; simp
        · show (0 : Int) - ((_ : Nat) : Int) + ((0 : Nat) : Int) = _
          rw [hfl]; omega
        · show (0 : Int) - ((_ : Nat) : Int) + 2 * (((_ ++ _) : List Int).length : Int) ≤ _
          rw [hAF, hfl, hlt n (Nat.le_refl _)]; omega
        · show _ ≤ (0 : Int) - ((_ : Nat) : Int)
          rw [hfl]; omega
    · rw [if_neg c1, if_neg (show ¬ (n : Int) ≤ dp by omega), show dp.toNat = 0 by omega, List.drop_zero, Nat.sub_zero]
      have hfl : (List.replicate (-dp).toNat 48 ++ l.take n).length = (-dp).toNat + n := by rw [List.length_append, List.length_replicate, hlt n (Nat.le_refl _)]
      have hfne : List.replicate (-dp).toNat 48 ++ l.take n ≠ [] := by intro h; rw [h] at hfl; simp at hfl; omega
      have htext : Num.text ⟨neg, [48], List.replicate (-dp).toNat 48 ++ l.take n, none⟩ = (if neg = true then [45] else []) ++ ([48] ++ (46 :: (List.replicate (-dp).toNat 48 ++ l.take n))) := by
        show _ ++ (_ ++ ((if _ = [] then [] else _) ++ [])) = _
        rw [if_neg hfne, List.append_nil]; rfl
      refine ⟨⟨neg, [48], List.replicate (-dp).toNat 48 ++ l.take n, none⟩, ⟨?_, ?_, by simp, by simp, .inl rfl⟩, rfl, htext, ?_, by show (-1000 : Int) ≤ 0; omega, by show (0 : Int) ≤ 1000; omega, ⟨0, ?_, ?_⟩, ?_, ?_⟩
      · intro d hd'
        have hd' : d ∈ [(48 : Int)] := hd'
        simp only [List.mem_cons, List.not_mem_nil, or_false] at hd'
        unfold isD; omega
      · intro d hd'
        rcases List.mem_append.1 hd' with h | h
        · exact zeros_isD _ d h
        · exact take_isD l n hl hn hds n (Nat.le_refl _) d h
      · rw [htext]
        simp only [List.length_append, List.length_cons, List.length_nil, List.length_replicate, hlt n (Nat.le_refl _)]
        omega
      · show D10 ([48] ++ (_ ++ _)) = _
        rw [D10_append, D10_append, D10_zeros]
        simp [D10]
      · show (0 : Int) - ((_ : Nat) : Int) + ((0 : Nat) : Int) = _
        rw [hfl]; omega
      · show (0 : Int) - (((List.replicate (-dp).toNat 48 ++ l.take n).length : Nat) : Int) + 2 * (((48 :: (List.replicate (-dp).toNat 48 ++ l.take n) : List Int).length : Nat) : Int) ≤ 380
        rw [List.length_cons, hfl]; omega
      · show _ ≤ (0 : Int) - ((_ : Nat) : Int)
        rw [hfl]; omega
end
end Go.Proofs.YthbmfhkpkkgdnaaGreatDoor.U

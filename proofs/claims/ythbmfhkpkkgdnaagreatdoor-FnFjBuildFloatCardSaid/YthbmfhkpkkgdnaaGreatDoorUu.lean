/- The text that fmtEFG writes at 'g', the shortest: a number of RFC 8259, and its value. -/
import Derived.Test.YthbmfhkpkkgdnaaGreatDoorUt
import Derived.Test.YthbmfhkpkkgdnaaGreatDoorQ3
namespace Go.Proofs.YthbmfhkpkkgdnaaGreatDoor.U
open Go.RowKit Go.Proofs.YthbmfhkpkkgdnaaGreatDoorW.PrintWords Go.Proofs.YthbmfhkpkkgdnaaGreatDoorW.PrintLast Go.Proofs.YthbmfhkpkkgdnaaGreatDoorW.PrintMore Go.Proofs.YthbmfhkpkkgdnaaGreatDoor.Q
set_option linter.unusedVariables false
def expD (e : Nat) : List Int := if e < 10 then [48, 48 + (e : Int)] else if e < 100 then [48 + (e / 10 : Nat), 48 + (e % 10 : Nat)] else [48 + (e / 100 : Nat), 48 + (e / 10 % 10 : Nat), 48 + (e % 10 : Nat)]
theorem expD_ok {e : Nat} (he : e < 1000) : (∀ c, c ∈ expD e → isD c) ∧ expD e ≠ [] ∧ (expD e).length ≤ 3 ∧ D10 (expD e) = e := by
  unfold expD isD
  split
  · refine ⟨fun c hc => ?_, by simp, by simp, ?_⟩
    · simp only [List.mem_cons, List.not_mem_nil, or_false] at hc; omega
    · simp only [D10_cons, List.length_cons, List.length_nil]
      simp only [D10, List.foldl_nil]; omega
  · split
    · refine ⟨fun c hc => ?_, by simp, by simp, ?_⟩
      · simp only [List.mem_cons, List.not_mem_nil, or_false] at hc; omega
      · simp only [D10_cons, List.length_cons, List.length_nil]
        simp only [D10, List.foldl_nil]; omega
    · refine ⟨fun c hc => ?_, by simp, by simp, ?_⟩
      · simp only [List.mem_cons, List.not_mem_nil, or_false] at hc; omega
      · simp only [D10_cons, List.length_cons, List.length_nil]
        simp only [D10, List.foldl_nil]; omega
theorem j13_ev (x0 : List Int) (sg : Int) (e : Nat) (he : e < 1000) (hx : x0.length ≤ 1000) : Ev (fun k => strconv_fmtEFG.j13 k x0 sg (e : Int)) (x0 ++ (sg :: expD e)) := by
  refine Ev.const _ fun k => ?_
  simp only [strconv_fmtEFG.j13]
  rw [if_pos (by omega)]
  simp only [Option.bind_some, List.append_assoc, List.length_append, List.length_cons, List.length_nil, List.singleton_append]
  have t1 : ∀ a : Int, Int.tdiv (e : Int) 10 = ((e / 10 : Nat) : Int) := fun _ => by rw [Int.tdiv_eq_ediv_of_nonneg (by omega)]; omega
  have t2 : Int.tdiv (e : Int) 100 = ((e / 100 : Nat) : Int) := by rw [Int.tdiv_eq_ediv_of_nonneg (by omega)]; omega
  have t3 : Int.tmod (e : Int) 10 = ((e % 10 : Nat) : Int) := by rw [Int.tmod_eq_emod_of_nonneg (by omega)]; omega
  rw [t1 0, t2, t3, wr (i := ((e / 10 : Nat) : Int)) (by omega) (by omega), wr (i := ((e / 100 : Nat) : Int)) (by omega) (by omega)]
  unfold expD
  by_cases c1 : e < 10
  · rw [if_pos (by omega), if_pos (by omega), if_pos c1]
    congr 5; omega
  · rw [if_neg (by omega), if_neg c1]
    by_cases c2 : e < 100
    · rw [if_pos (by omega), if_pos (by omega), if_pos c2]
      have a1 : (((e / 10 : Nat) : Int) % 256 + 48) % 256 = 48 + ((e / 10 : Nat) : Int) := by omega
      have a2 : (((e % 10 : Nat) : Int) % 256 + 48) % 256 = 48 + ((e % 10 : Nat) : Int) := by omega
      rw [a1, a2]
    · rw [if_neg (by omega), if_pos (by omega), if_neg c2]
      have a1 : (((e / 100 : Nat) : Int) % 256 + 48) % 256 = 48 + ((e / 100 : Nat) : Int) := by omega
      have a2 : (((e % 10 : Nat) : Int) % 256 + 48) % 256 = 48 + ((e % 10 : Nat) : Int) := by omega
      have a3 : ((e / 10 : Nat) : Int) % 256 % 10 + 48 = 48 + ((e / 10 % 10 : Nat) : Int) := by omega
      rw [a1, a2, a3]
theorem j12_ev (x0 : List Int) (e : Int) (he : -1000 < e ∧ e < 1000) (hx : x0.length ≤ 1000) : Ev (fun k => strconv_fmtEFG.j12 k x0 e) (x0 ++ ((if decide (e < 0) = true then 45 else 43) :: expD e.natAbs)) := by
  by_cases c : e < 0
  · rw [decide_eq_true c, if_pos rfl]
    refine Ev.step (fun k => ?_) (j13_ev x0 45 e.natAbs (by omega) hx)
    simp only [strconv_fmtEFG.j12]
    rw [if_pos c, wr (by omega) (by omega), show ((e.natAbs : Nat) : Int) = -e by omega]
  · rw [decide_eq_false c, if_neg (by decide)]
    refine Ev.step (fun k => ?_) (j13_ev x0 43 e.natAbs (by omega) hx)
    simp only [strconv_fmtEFG.j12]
    rw [if_neg c, show ((e.natAbs : Nat) : Int) = e by omega]
def eT (e : Int) : List Int := 101 :: (if decide (e < 0) = true then 45 else 43) :: expD e.natAbs
theorem j11_ev (x0 : List Int) (dp n : Int) (hn : n ≠ 0) (hd : -900 < dp ∧ dp < 900) (hx : x0.length ≤ 900) : Ev (fun k => strconv_fmtEFG.j11 k x0 dp n 101) (x0 ++ eT (dp - 1)) := by
  have h := j12_ev (x0 ++ [101]) (dp - 1) (by omega) (by rw [List.length_append]; simp; omega)
  rw [List.append_assoc, List.singleton_append] at h
  refine Ev.step (fun k => ?_) h
  simp only [strconv_fmtEFG.j11]
  rw [if_pos (by omega), Option.bind_some, if_neg hn, wr (by omega) (by omega)]
section
variable (l : List Int) (n : Nat) (hl : l.length = 32) (hn : 1 ≤ n ∧ n ≤ 20)
include hl hn
/-- The 'e' form behind the sign. -/
theorem j7_ev (x0 : List Int) (dp : Int) (hd : -900 < dp ∧ dp < 900) (hx : x0.length ≤ 800) :
    Ev (fun k => strconv_fmtEFG.j7 k x0 l dp (n : Int) ((n : Int) - 1) 101) (x0 ++ (rd l 0 :: ((if 1 < n then 46 :: (l.take n).drop 1 else []) ++ eT (dp - 1)))) := by
  have hmn : ∀ a : Int, mn a a = a := fun a => by unfold mn; split <;> rfl
  refine Ev.step (f := fun k => strconv_fmtEFG.j8 k x0 l dp (n : Int) ((n : Int) - 1) 101 (rd l 0)) (fun k => ?_) ?_
  · simp only [strconv_fmtEFG.j7]
    rw [if_neg (by omega), if_pos (by omega)]
  by_cases c : 1 < n
  · rw [if_pos c]
    have hlt : ((l.take n).drop 1).length = n - 1 := by rw [List.length_drop, List.length_take]; omega
    have h := j11_ev (x0 ++ [rd l 0] ++ [46] ++ (l.take n).drop 1) dp (n : Int) (by omega) hd (by simp only [List.length_append, List.length_cons, List.length_nil, hlt]; omega)
    have e : x0 ++ [rd l 0] ++ [46] ++ (l.take n).drop 1 ++ eT (dp - 1) = x0 ++ (rd l 0 :: ((46 :: (l.take n).drop 1) ++ eT (dp - 1))) := by simp
    rw [e] at h
    refine Ev.step (f := fun k => strconv_fmtEFG.j9 k (x0 ++ [rd l 0] ++ [46] ++ (l.take n).drop 1) dp (n : Int) ((n : Int) - 1) 101 (n : Int)) (fun k => ?_) (Ev.step (f := fun k => strconv_fmtEFG.l0 k (x0 ++ [rd l 0] ++ [46] ++ (l.take n).drop 1) dp (n : Int) 101 0 0) (fun k => ?_) (Ev.step (fun k => ?_) h))
    · simp only [strconv_fmtEFG.j8]
      rw [if_pos (by omega), Option.bind_some, if_pos (by omega), if_pos (by simp; omega), Option.bind_some, wr (i := (n : Int) - 1 + 1) (by omega) (by omega), show (n : Int) - 1 + 1 = (n : Int) by omega, hmn, if_pos (by omega), if_pos (by omega), if_pos (by omega), Option.bind_some, Int.toNat_natCast]
      rw [if_pos (by rw [hlt]; simp only [List.length_append, List.length_cons, List.length_nil]; omega)]
    · simp only [strconv_fmtEFG.j9]
      rw [wr (i := (n : Int) - 1 + 1) (by omega) (by omega), show (n : Int) - 1 + 1 - (n : Int) = 0 by omega, wr (by omega) (by omega)]
    · simp only [strconv_fmtEFG.l0]
      rw [if_neg (by omega)]
  · rw [if_neg c, List.nil_append]
    have h := j11_ev (x0 ++ [rd l 0]) dp (n : Int) (by omega) hd (by simp only [List.length_append, List.length_cons, List.length_nil]; omega)
    have e : x0 ++ [rd l 0] ++ eT (dp - 1) = x0 ++ (rd l 0 :: eT (dp - 1)) := by simp
    rw [e] at h
    refine Ev.step (fun k => ?_) h
    simp only [strconv_fmtEFG.j8]
    rw [if_pos (by omega), Option.bind_some, if_neg (by omega)]
/-- Digits, from place a on. -/
theorem l4_ev (a c : Nat) (ha : a + c ≤ 32) (d : Nat) : ∀ (x0 : List Int) (i : Nat), c - i = d → i ≤ c → x0.length ≤ 900 - d →
    Ev (fun k => strconv_fmtEFG.l4 k x0 l (a : Int) 0 (c : Int) (i : Int)) (x0 ++ (l.drop (a + i)).take d) := by
  have _ := hn
  induction d with
  | zero =>
    intro x0 i hd hi hx
    refine Ev.step (f := fun k => strconv_fmtEFG.l5 k x0 0 0) (fun k => ?_) (Ev.const _ fun k => ?_)
    · simp only [strconv_fmtEFG.l4]
      rw [if_neg (by omega)]
    · simp only [strconv_fmtEFG.l5]
      rw [if_neg (by omega)]; simp
  | succ d ih =>
    intro x0 i hd hi hx
    have hx1 : rd l ((a : Int) + (i : Int)) = l[a + i]'(by omega) := by
      unfold rd
      rw [show ((a : Int) + (i : Int)).toNat = a + i by omega, List.getD_eq_getElem?_getD, List.getElem?_eq_getElem (by omega)]; rfl
    have h := ih (x0 ++ [rd l ((a : Int) + (i : Int))]) (i + 1) (by omega) (by omega) (by rw [List.length_append]; simp; omega)
    have e : x0 ++ [rd l ((a : Int) + (i : Int))] ++ (l.drop (a + (i + 1))).take d = x0 ++ (l.drop (a + i)).take (d + 1) := by
      rw [List.append_assoc, List.singleton_append, hx1, List.drop_eq_getElem_cons (i := a + i) (by omega), List.take_succ_cons]; rfl
    rw [e] at h
    refine Ev.step (fun k => ?_) h
    simp only [strconv_fmtEFG.l4]
    rw [if_pos (by omega), wr (i := (a : Int) + i) (by omega) (by omega), if_pos (by omega), if_pos (by omega), if_pos (by omega), wr (by omega) (by omega)]
    rfl
/-- Zeros, then digits. -/
theorem l3_ev (a c z : Nat) (ha : a + c ≤ 32) (hz : z ≤ 300) (d : Nat) : ∀ (x0 : List Int) (i : Nat), z - i = d → i ≤ z → x0.length ≤ 500 - d →
    Ev (fun k => strconv_fmtEFG.l3 k x0 l (a : Int) (c : Int) 0 (z : Int) (i : Int)) (x0 ++ (List.replicate d 48 ++ (l.drop a).take c)) := by
  induction d with
  | zero =>
    intro x0 i hd hi hx
    have h := l4_ev l n hl hn a c ha c x0 0 (by omega) (by omega) (by omega)
    refine Ev.step (fun k => ?_) h
    simp only [strconv_fmtEFG.l3]
    rw [if_neg (by omega)]
    rfl
  | succ d ih =>
    intro x0 i hd hi hx
    have h := ih (x0 ++ [48]) (i + 1) (by omega) (by omega) (by rw [List.length_append]; simp; omega)
    have e : x0 ++ [48] ++ (List.replicate d 48 ++ (l.drop a).take c) = x0 ++ (List.replicate (d + 1) 48 ++ (l.drop a).take c) := by
      rw [List.replicate_succ]; simp
    rw [e] at h
    refine Ev.step (fun k => ?_) h
    simp only [strconv_fmtEFG.l3]
    rw [if_pos (by omega), if_pos (by omega), wr (by omega) (by omega)]
    rfl
/-- The fraction's text. -/
def fracT (dp : Int) : List Int := if (n : Int) ≤ dp then [] else 46 :: (List.replicate (-dp).toNat 48 ++ (l.drop dp.toNat).take (n - dp.toNat))
theorem j17_ev (x0 : List Int) (dp : Int) (hd : -200 < dp ∧ dp < 200) (hx : x0.length ≤ 200) :
    Ev (fun k => strconv_fmtEFG.j17 k x0 l dp (n : Int) (mx ((n : Int) - dp) 0)) (x0 ++ fracT l n dp) := by
  unfold fracT
  by_cases c : (n : Int) ≤ dp
  · rw [if_pos c, List.append_nil]
    refine Ev.const _ fun k => ?_
    simp only [strconv_fmtEFG.j17]
    rw [if_neg (by unfold mx; split <;> omega)]
  · rw [if_neg c]
    have e0 : mx ((n : Int) - dp) 0 = (n : Int) - dp := by unfold mx; rw [if_neg (by omega)]
    have e1 : mx 0 (wrap64 (-dp)) = (((-dp).toNat : Nat) : Int) := by rw [wr (by omega) (by omega)]; unfold mx; split <;> omega
    have e2 : mn ((n : Int) - dp) (((-dp).toNat : Nat) : Int) = (((-dp).toNat : Nat) : Int) := by unfold mn; rw [if_pos (by omega)]
    have e3 : wrap64 (dp + (((-dp).toNat : Nat) : Int)) = ((dp.toNat : Nat) : Int) := by rw [wr (by omega) (by omega)]; omega
    have e4 : mx 0 (wrap64 ((n : Int) - ((dp.toNat : Nat) : Int))) = ((n - dp.toNat : Nat) : Int) := by rw [wr (by omega) (by omega)]; unfold mx; split <;> omega
    have e5 : wrap64 ((n : Int) - dp - (((-dp).toNat : Nat) : Int)) = ((n - dp.toNat : Nat) : Int) := by rw [wr (by omega) (by omega)]; omega
    have e6 : mn ((n - dp.toNat : Nat) : Int) ((n - dp.toNat : Nat) : Int) = ((n - dp.toNat : Nat) : Int) := by unfold mn; split <;> rfl
    have e7 : mx 0 (wrap64 (((n - dp.toNat : Nat) : Int) - ((n - dp.toNat : Nat) : Int))) = 0 := by rw [Int.sub_self]; unfold mx wrap64; decide
    have h := l3_ev l n hl hn dp.toNat (n - dp.toNat) (-dp).toNat (by omega) (by omega) (-dp).toNat (x0 ++ [46]) 0 (by omega) (by omega) (by rw [List.length_append]; simp; omega)
    rw [List.append_assoc, List.singleton_append] at h
    refine Ev.step (fun k => ?_) h
    simp only [strconv_fmtEFG.j17]
    rw [e0, e1, e2, e3, e4, e5, e6, e7, if_pos (by omega), if_pos (by omega)]
    rfl
/-- Zeros behind the digits. -/
theorem l2_ev (dp : Int) (hd : -200 < dp ∧ dp < 200) (z : Nat) (hz : z ≤ 100) (d : Nat) : ∀ (x0 : List Int) (i : Nat), z - i = d → i ≤ z → x0.length ≤ 150 - d →
    Ev (fun k => strconv_fmtEFG.l2 k x0 l dp (n : Int) (mx ((n : Int) - dp) 0) (z : Int) (i : Int)) (x0 ++ (List.replicate d 48 ++ fracT l n dp)) := by
  induction d with
  | zero =>
    intro x0 i hdd hi hx
    have h := j17_ev l n hl hn x0 dp hd (by omega)
    refine Ev.step (fun k => ?_) h
    simp only [strconv_fmtEFG.l2]
    rw [if_neg (by omega)]
  | succ d ih =>
    intro x0 i hdd hi hx
    have h := ih (x0 ++ [48]) (i + 1) (by omega) (by omega) (by rw [List.length_append]; simp; omega)
    have e : x0 ++ [48] ++ (List.replicate d 48 ++ fracT l n dp) = x0 ++ (List.replicate (d + 1) 48 ++ fracT l n dp) := by
      rw [List.replicate_succ]; simp
    rw [e] at h
    refine Ev.step (fun k => ?_) h
    simp only [strconv_fmtEFG.l2]
    rw [if_pos (by omega), if_pos (by omega), wr (by omega) (by omega)]
    rfl
/-- The digits ahead of the point. -/
theorem l1_ev (dp : Int) (hd : 0 < dp ∧ dp < 50) (m : Nat) (hm : m ≤ 20) (hmd : (m : Int) ≤ dp) (d : Nat) : ∀ (x0 : List Int) (i : Nat), m - i = d → i ≤ m → x0.length ≤ 50 - d →
    Ev (fun k => strconv_fmtEFG.l1 k x0 l dp (n : Int) (mx ((n : Int) - dp) 0) (m : Int) (l.take m) (m : Int) (i : Int)) (x0 ++ ((l.drop i).take d ++ (List.replicate (dp - m).toNat 48 ++ fracT l n dp))) := by
  have hlt : (l.take m).length = m := by rw [List.length_take]; omega
  induction d with
  | zero =>
    intro x0 i hdd hi hx
    have h := l2_ev l n hl hn dp (by omega) (dp - m).toNat (by omega) (dp - m).toNat x0 0 (by omega) (by omega) (by omega)
    rw [List.take_zero, List.nil_append]
    refine Ev.step (fun k => ?_) h
    simp only [strconv_fmtEFG.l1]
    rw [if_neg (by omega), wr (by omega) (by omega), show (((dp - (m : Int)).toNat : Nat) : Int) = dp - m by omega]
    rfl
  | succ d ih =>
    intro x0 i hdd hi hx
    have hx1 : rd (l.take m) (i : Int) = l[i]'(by omega) := by
      unfold rd
      rw [Int.toNat_natCast, List.getD_eq_getElem?_getD, List.getElem?_eq_getElem (by rw [hlt]; omega), List.getElem_take]; rfl
    have h := ih (x0 ++ [rd (l.take m) (i : Int)]) (i + 1) (by omega) (by omega) (by rw [List.length_append]; simp; omega)
    have e : x0 ++ [rd (l.take m) (i : Int)] ++ ((l.drop (i + 1)).take d ++ (List.replicate (dp - m).toNat 48 ++ fracT l n dp)) = x0 ++ ((l.drop i).take (d + 1) ++ (List.replicate (dp - m).toNat 48 ++ fracT l n dp)) := by
      rw [List.append_assoc, List.singleton_append, hx1, List.drop_eq_getElem_cons (i := i) (by omega), List.take_succ_cons]; rfl
    rw [e] at h
    refine Ev.step (fun k => ?_) h
    simp only [strconv_fmtEFG.l1]
    rw [if_pos (by omega), if_pos (by omega), if_pos (by rw [hlt]; omega), if_pos (by omega), wr (by omega) (by omega)]
    rfl
/-- The digits ahead of the point, as a text. -/
def intT (dp : Int) : List Int := if 0 < dp then l.take (min n dp.toNat) ++ List.replicate (dp - (min n dp.toNat : Nat)).toNat 48 else [48]
theorem j14_ev (x0 : List Int) (dp : Int) (hd : -50 < dp ∧ dp < 50) (hx : x0.length ≤ 10) :
    Ev (fun k => strconv_fmtEFG.j14 k x0 l dp (n : Int) (mx ((n : Int) - dp) 0)) (x0 ++ (intT l n dp ++ fracT l n dp)) := by
  unfold intT
  by_cases c : 0 < dp
  · rw [if_pos c]
    have em : mn (n : Int) dp = ((min n dp.toNat : Nat) : Int) := by unfold mn; split <;> omega
    obtain ⟨m, hm⟩ : ∃ m, m = min n dp.toNat := ⟨_, rfl⟩
    rw [← hm] at em ⊢
    have h := l1_ev l n hl hn dp (by omega) m (by omega) (by omega) m x0 0 (by omega) (by omega) (by omega)
    rw [List.drop_zero, ← List.append_assoc (l.take m)] at h
    refine Ev.step (fun k => ?_) h
    simp only [strconv_fmtEFG.j14]
    rw [if_pos (by omega), em, if_pos (by omega), if_pos (by omega), Option.bind_some, Int.toNat_natCast, show ((l.take m).length : Int) = (m : Int) by rw [List.length_take]; omega]
    rfl
  · rw [if_neg c]
    have h := j17_ev l n hl hn (x0 ++ [48]) dp (by omega) (by rw [List.length_append]; simp; omega)
    rw [List.append_assoc] at h
    refine Ev.step (fun k => ?_) h
    simp only [strconv_fmtEFG.j14]
    rw [if_neg (by omega), if_pos (by omega)]
/-- The whole text. -/
def bodyT (dp : Int) : List Int := if dp - 1 < -4 ∨ 6 ≤ dp - 1 then rd l 0 :: ((if 1 < n then 46 :: (l.take n).drop 1 else []) ++ eT (dp - 1)) else intT l n dp ++ fracT l n dp
theorem fmt_ev (neg : Bool) (dp : Int) (hd : -800 < dp ∧ dp < 800) :
    Ev (fun k => strconv_fmtEFG.f k [] neg l dp (n : Int) (n : Int) 103 true) ((if neg = true then [45] else []) ++ bodyT l n dp) := by
  have to3 : ∀ {R}, Ev (fun k => strconv_fmtEFG.j3 k [] neg l dp (n : Int) (n : Int) 103 6) R → Ev (fun k => strconv_fmtEFG.f k [] neg l dp (n : Int) (n : Int) 103 true) R := by
    intro R h
    refine Ev.congr (f := fun k => strconv_fmtEFG.j0 k [] neg l dp (n : Int) (n : Int) 103 true true) (fun k => ?_) (Ev.step (f := fun k => strconv_fmtEFG.j1 k [] neg l dp (n : Int) (n : Int) 103 true (n : Int) false) (fun k => ?_) (Ev.step (f := fun k => strconv_fmtEFG.j2 k [] neg l dp (n : Int) (n : Int) 103 true (n : Int)) (fun k => ?_) (Ev.step (fun k => ?_) h)))
    · unfold strconv_fmtEFG.f
      rw [if_pos rfl]
    · simp only [strconv_fmtEFG.j0]
      rw [if_pos trivial, if_neg (by omega)]
    · simp only [strconv_fmtEFG.j1]
      rw [if_neg (by decide)]
    · simp only [strconv_fmtEFG.j2]
      rw [if_pos trivial]
  refine to3 ?_
  unfold bodyT
  by_cases c : dp - 1 < -4 ∨ 6 ≤ dp - 1
  · rw [if_pos c]
    have h4 : Ev (fun k => strconv_fmtEFG.j4 k [] neg l dp (n : Int) (n : Int) 103 true) ((if neg = true then [45] else []) ++ (rd l 0 :: ((if 1 < n then 46 :: (l.take n).drop 1 else []) ++ eT (dp - 1)))) := by
      refine Ev.step (f := fun k => strconv_fmtEFG.j5 k [] neg l dp (n : Int) ((n : Int) - 1) 101) (fun k => ?_) (Ev.step (f := fun k => strconv_fmtEFG.j6 k [] neg l dp (n : Int) ((n : Int) - 1) 101 101 true) (fun k => ?_) ?_)
      · simp only [strconv_fmtEFG.j4]
        rw [if_pos trivial, if_neg (by omega), wr (by omega) (by omega)]
        rfl
      · simp only [strconv_fmtEFG.j5]
        rw [if_pos trivial]
        rfl
      · cases neg with
        | true =>
          refine Ev.step (fun k => ?_) (j7_ev l n hl hn [45] dp (by omega) (by decide))
          simp only [strconv_fmtEFG.j6]
          rw [if_pos trivial, if_pos trivial, if_pos (by decide)]
          rfl
        | false =>
          refine Ev.step (fun k => ?_) (j7_ev l n hl hn [] dp (by omega) (by decide))
          simp only [strconv_fmtEFG.j6]
          rw [if_pos trivial, if_neg (by decide)]
    refine Ev.step (fun k => ?_) h4
    simp only [strconv_fmtEFG.j3]
    rw [wr (by omega) (by omega)]
    by_cases c2 : dp - 1 < -4
    · rw [if_pos c2]
    · rw [if_neg c2, decide_eq_true (by omega)]
  · rw [if_neg c]
    have h4 : Ev (fun k => strconv_fmtEFG.j4 k [] neg l dp (n : Int) (n : Int) 103 false) ((if neg = true then [45] else []) ++ (intT l n dp ++ fracT l n dp)) := by
      refine Ev.step (f := fun k => strconv_fmtEFG.j5 k [] neg l dp (n : Int) (mx ((n : Int) - dp) 0) 102) (fun k => ?_) (Ev.step (f := fun k => strconv_fmtEFG.j6 k [] neg l dp (n : Int) (mx ((n : Int) - dp) 0) 102 102 false) (fun k => ?_) ?_)
      · simp only [strconv_fmtEFG.j4]
        rw [if_neg (by decide), wr (by omega) (by omega)]
        split <;> rfl
      · simp only [strconv_fmtEFG.j5]
        rw [if_neg (by decide)]
        rfl
      · cases neg with
        | true =>
          refine Ev.step (fun k => ?_) (j14_ev l n hl hn [45] dp (by omega) (by decide))
          simp only [strconv_fmtEFG.j6]
          rw [if_neg (by decide), if_pos trivial, if_pos trivial, if_pos (by decide)]
          rfl
        | false =>
          refine Ev.step (fun k => ?_) (j14_ev l n hl hn [] dp (by omega) (by decide))
          simp only [strconv_fmtEFG.j6]
          rw [if_neg (by decide), if_pos trivial, if_neg (by decide)]
    refine Ev.step (fun k => ?_) h4
    simp only [strconv_fmtEFG.j3]
    rw [wr (by omega) (by omega), if_neg (by omega), decide_eq_false (by omega)]
end
end Go.Proofs.YthbmfhkpkkgdnaaGreatDoor.U

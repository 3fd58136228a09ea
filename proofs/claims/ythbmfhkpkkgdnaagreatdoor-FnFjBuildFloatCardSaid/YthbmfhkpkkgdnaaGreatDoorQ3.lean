/- Functions of the program as Lean functions, each with a proof that the call comes to what it gives. Written by prx.py (wip/pr). -/
import Derived.Test.YthbmfhkpkkgdnaaGreatDoorQ0
namespace Go.Proofs.YthbmfhkpkkgdnaaGreatDoor.Q
open Go.RowKit Go.Proofs.YthbmfhkpkkgdnaaGreatDoorW.PrintWords Go.Proofs.YthbmfhkpkkgdnaaGreatDoorW.PrintLast Go.Proofs.YthbmfhkpkkgdnaaGreatDoorW.PrintMore
attribute [local go_sem] max2_int min2_int max_two min_two max_three min_three max_four min_four   -- for this text's walks alone
set_option linter.unusedVariables false
set_option linter.unusedSimpArgs false

/-! ### strconv_fmtEFG: function 42 -/
mutual
def strconv_fmtEFG.j0 : Nat → List Int → Bool → List Int → Int → Int → Int → Int → Bool → Bool → Option (List Int)
  | 0, _, _, _, _, _, _, _, _, _ => none
  | k + 1, x0, x1, x2, x3, x4, x5, x6, x7, x36 => if x36 = true then (if x5 > x4 then (strconv_fmtEFG.j1 k x0 x1 x2 x3 x4 x5 x6 x7 x5 (decide (x4 ≥ x3))) else (strconv_fmtEFG.j1 k x0 x1 x2 x3 x4 x5 x6 x7 x5 false)) else (strconv_fmtEFG.j5 k x0 x1 x2 x3 x4 x5 x6)
def strconv_fmtEFG.j5 : Nat → List Int → Bool → List Int → Int → Int → Int → Int → Option (List Int)
  | 0, _, _, _, _, _, _, _ => none
  | k + 1, x0, x1, x2, x3, x4, x5, x6 => if x6 = 101 then (strconv_fmtEFG.j6 k x0 x1 x2 x3 x4 x5 x6 x6 (x6 == 101)) else (strconv_fmtEFG.j6 k x0 x1 x2 x3 x4 x5 x6 x6 (x6 == 69))
def strconv_fmtEFG.j6 : Nat → List Int → Bool → List Int → Int → Int → Int → Int → Int → Bool → Option (List Int)
  | 0, _, _, _, _, _, _, _, _, _ => none
  | k + 1, x0, x1, x2, x3, x4, x5, x6, x74, x75 => if x75 = true then (if x1 = true then (if x0.length < 140737488355328 then (strconv_fmtEFG.j7 k (x0 ++ [45]) x2 x3 x4 x5 x6) else (none)) else (strconv_fmtEFG.j7 k x0 x2 x3 x4 x5 x6)) else (if x74 = 102 then (if x1 = true then (if x0.length < 140737488355328 then (strconv_fmtEFG.j14 k (x0 ++ [45]) x2 x3 x4 x5) else (none)) else (strconv_fmtEFG.j14 k x0 x2 x3 x4 x5)) else ((some (([37, x6] : List Int) : List Int)).bind fun y249 => (if x0.length + y249.length < 140737488355328 then (some (x0 ++ y249)) else (none))))
def strconv_fmtEFG.j7 : Nat → List Int → List Int → Int → Int → Int → Int → Option (List Int)
  | 0, _, _, _, _, _, _ => none
  | k + 1, x0, x2, x3, x4, x5, x6 => if x4 = 0 then (strconv_fmtEFG.j8 k x0 x2 x3 x4 x5 x6 48) else (if 0 < (x2.length : Int) then (strconv_fmtEFG.j8 k x0 x2 x3 x4 x5 x6 (rd x2 0)) else (none))
def strconv_fmtEFG.j8 : Nat → List Int → List Int → Int → Int → Int → Int → Int → Option (List Int)
  | 0, _, _, _, _, _, _, _ => none
  | k + 1, x0, x2, x3, x4, x5, x6, x19 => if x0.length < 140737488355328 then ((some (x0 ++ [x19] : List Int)).bind fun y179 => (if x5 > 0 then (if y179.length < 140737488355328 then ((some (y179 ++ [46] : List Int)).bind fun y182 => (if 1 < (mn x4 (wrap64 (x5 + 1))) then (if 1 ≤ (mn x4 (wrap64 (x5 + 1))) then (if (mn x4 (wrap64 (x5 + 1))) ≤ (x2.length : Int) then ((some ((x2.take ((mn x4 (wrap64 (x5 + 1))) : Int).toNat).drop 1 : List Int)).bind fun y185 => (if y182.length + y185.length < 140737488355328 then (strconv_fmtEFG.j9 k (y182 ++ y185) x3 x4 x5 x6 (mn x4 (wrap64 (x5 + 1)))) else (none))) else (none)) else (none)) else (strconv_fmtEFG.j9 k y182 x3 x4 x5 x6 1))) else (none)) else (strconv_fmtEFG.j11 k y179 x3 x4 x6))) else (none)
def strconv_fmtEFG.j11 : Nat → List Int → Int → Int → Int → Option (List Int)
  | 0, _, _, _, _ => none
  | k + 1, x0, x3, x4, x6 => if x0.length < 140737488355328 then ((some (x0 ++ [x6] : List Int)).bind fun y195 => (if x4 = 0 then (strconv_fmtEFG.j12 k y195 0) else (strconv_fmtEFG.j12 k y195 (wrap64 (x3 - 1))))) else (none)
def strconv_fmtEFG.j12 : Nat → List Int → Int → Option (List Int)
  | 0, _, _ => none
  | k + 1, x0, x22 => if x22 < 0 then (strconv_fmtEFG.j13 k x0 45 (wrap64 (-x22))) else (strconv_fmtEFG.j13 k x0 43 x22)
def strconv_fmtEFG.j13 : Nat → List Int → Int → Int → Option (List Int)
  | 0, _, _, _ => none
  | k + 1, x0, x19, x22 => if x0.length < 140737488355328 then ((some (x0 ++ [x19] : List Int)).bind fun y198 => (if x22 < 10 then ((some (([48, (((x22) % 256) + 48) % 256] : List Int) : List Int)).bind fun y201 => (if y198.length + y201.length < 140737488355328 then (some (y198 ++ y201)) else (none))) else (if x22 < 100 then ((some (([(((wrap64 (Int.tdiv x22 10)) % 256) + 48) % 256, (((Int.tmod x22 10) % 256) + 48) % 256] : List Int) : List Int)).bind fun y207 => (if y198.length + y207.length < 140737488355328 then (some (y198 ++ y207)) else (none))) else ((some (([(((wrap64 (Int.tdiv x22 100)) % 256) + 48) % 256, (((wrap64 (Int.tdiv x22 10)) % 256) % 10) + 48, (((Int.tmod x22 10) % 256) + 48) % 256] : List Int) : List Int)).bind fun y213 => (if y198.length + y213.length < 140737488355328 then (some (y198 ++ y213)) else (none)))))) else (none)
def strconv_fmtEFG.j9 : Nat → List Int → Int → Int → Int → Int → Int → Option (List Int)
  | 0, _, _, _, _, _, _ => none
  | k + 1, x0, x3, x4, x5, x6, x20 => strconv_fmtEFG.l0 k x0 x3 x4 x6 (wrap64 ((wrap64 (x5 + 1)) - x20)) 0
def strconv_fmtEFG.l0 : Nat → List Int → Int → Int → Int → Int → Int → Option (List Int)
  | 0, _, _, _, _, _, _ => none
  | k + 1, x0, x3, x4, x6, x113, x114 => if x114 < x113 then (if x0.length < 140737488355328 then (strconv_fmtEFG.l0 k (x0 ++ [48]) x3 x4 x6 x113 (wrap64 (x114 + 1))) else (none)) else (strconv_fmtEFG.j11 k x0 x3 x4 x6)
def strconv_fmtEFG.j14 : Nat → List Int → List Int → Int → Int → Int → Option (List Int)
  | 0, _, _, _, _, _ => none
  | k + 1, x0, x2, x3, x4, x5 => if x3 > 0 then (if 0 ≤ (mn x4 x3) then (if (mn x4 x3) ≤ (x2.length : Int) then ((some (x2.take ((mn x4 x3) : Int).toNat : List Int)).bind fun y222 => (strconv_fmtEFG.l1 k x0 x2 x3 x4 x5 (mn x4 x3) y222 (y222.length : Int) 0)) else (none)) else (none)) else (if x0.length < 140737488355328 then (strconv_fmtEFG.j17 k (x0 ++ [48]) x2 x3 x4 x5) else (none))
def strconv_fmtEFG.j17 : Nat → List Int → List Int → Int → Int → Int → Option (List Int)
  | 0, _, _, _, _, _ => none
  | k + 1, x0, x2, x3, x4, x5 => if x5 > 0 then (if x0.length < 140737488355328 then (strconv_fmtEFG.l3 k (x0 ++ [46]) x2 (wrap64 (x3 + (mn x5 (mx 0 (wrap64 (-x3)))))) (mn (wrap64 (x5 - (mn x5 (mx 0 (wrap64 (-x3)))))) (mx 0 (wrap64 (x4 - (wrap64 (x3 + (mn x5 (mx 0 (wrap64 (-x3)))))))))) (mx 0 (wrap64 ((wrap64 (x5 - (mn x5 (mx 0 (wrap64 (-x3)))))) - (mn (wrap64 (x5 - (mn x5 (mx 0 (wrap64 (-x3)))))) (mx 0 (wrap64 (x4 - (wrap64 (x3 + (mn x5 (mx 0 (wrap64 (-x3))))))))))))) (mn x5 (mx 0 (wrap64 (-x3)))) 0) else (none)) else (some x0)
def strconv_fmtEFG.l3 : Nat → List Int → List Int → Int → Int → Int → Int → Int → Option (List Int)
  | 0, _, _, _, _, _, _, _ => none
  | k + 1, x0, x2, x27, x28, x29, x239, x240 => if x240 < x239 then (if x0.length < 140737488355328 then (strconv_fmtEFG.l3 k (x0 ++ [48]) x2 x27 x28 x29 x239 (wrap64 (x240 + 1))) else (none)) else (strconv_fmtEFG.l4 k x0 x2 x27 x29 x28 0)
def strconv_fmtEFG.l4 : Nat → List Int → List Int → Int → Int → Int → Int → Option (List Int)
  | 0, _, _, _, _, _, _ => none
  | k + 1, x0, x2, x27, x29, x246, x247 => if x247 < x246 then (if 0 ≤ (wrap64 (x27 + x247)) then (if (wrap64 (x27 + x247)) < (x2.length : Int) then (if x0.length < 140737488355328 then (strconv_fmtEFG.l4 k (x0 ++ [rd x2 (wrap64 (x27 + x247))]) x2 x27 x29 x246 (wrap64 (x247 + 1))) else (none)) else (none)) else (none)) else (strconv_fmtEFG.l5 k x0 x29 0)
def strconv_fmtEFG.l5 : Nat → List Int → Int → Int → Option (List Int)
  | 0, _, _, _ => none
  | k + 1, x0, x260, x261 => if x261 < x260 then (if x0.length < 140737488355328 then (strconv_fmtEFG.l5 k (x0 ++ [48]) x260 (wrap64 (x261 + 1))) else (none)) else (some x0)
def strconv_fmtEFG.l1 : Nat → List Int → List Int → Int → Int → Int → Int → List Int → Int → Int → Option (List Int)
  | 0, _, _, _, _, _, _, _, _, _ => none
  | k + 1, x0, x2, x3, x4, x5, x23, x189, x190, x191 => if x191 < x190 then (if 0 ≤ x191 then (if x191 < (x189.length : Int) then (if x0.length < 140737488355328 then (strconv_fmtEFG.l1 k (x0 ++ [rd x189 x191]) x2 x3 x4 x5 x23 x189 x190 (wrap64 (x191 + 1))) else (none)) else (none)) else (none)) else (strconv_fmtEFG.l2 k x0 x2 x3 x4 x5 (wrap64 (x3 - x23)) 0)
def strconv_fmtEFG.l2 : Nat → List Int → List Int → Int → Int → Int → Int → Int → Option (List Int)
  | 0, _, _, _, _, _, _, _ => none
  | k + 1, x0, x2, x3, x4, x5, x202, x203 => if x203 < x202 then (if x0.length < 140737488355328 then (strconv_fmtEFG.l2 k (x0 ++ [48]) x2 x3 x4 x5 x202 (wrap64 (x203 + 1))) else (none)) else (strconv_fmtEFG.j17 k x0 x2 x3 x4 x5)
def strconv_fmtEFG.j1 : Nat → List Int → Bool → List Int → Int → Int → Int → Int → Bool → Int → Bool → Option (List Int)
  | 0, _, _, _, _, _, _, _, _, _, _ => none
  | k + 1, x0, x1, x2, x3, x4, x5, x6, x7, x17, x45 => if x45 = true then (strconv_fmtEFG.j2 k x0 x1 x2 x3 x4 x5 x6 x7 x4) else (strconv_fmtEFG.j2 k x0 x1 x2 x3 x4 x5 x6 x7 x17)
def strconv_fmtEFG.j2 : Nat → List Int → Bool → List Int → Int → Int → Int → Int → Bool → Int → Option (List Int)
  | 0, _, _, _, _, _, _, _, _, _ => none
  | k + 1, x0, x1, x2, x3, x4, x5, x6, x7, x17 => if x7 = true then (strconv_fmtEFG.j3 k x0 x1 x2 x3 x4 x5 x6 6) else (strconv_fmtEFG.j3 k x0 x1 x2 x3 x4 x5 x6 x17)
def strconv_fmtEFG.j3 : Nat → List Int → Bool → List Int → Int → Int → Int → Int → Int → Option (List Int)
  | 0, _, _, _, _, _, _, _, _ => none
  | k + 1, x0, x1, x2, x3, x4, x5, x6, x17 => if (wrap64 (x3 - 1)) < (-4) then (strconv_fmtEFG.j4 k x0 x1 x2 x3 x4 x5 x6 true) else (strconv_fmtEFG.j4 k x0 x1 x2 x3 x4 x5 x6 (decide ((wrap64 (x3 - 1)) ≥ x17)))
def strconv_fmtEFG.j4 : Nat → List Int → Bool → List Int → Int → Int → Int → Int → Bool → Option (List Int)
  | 0, _, _, _, _, _, _, _, _ => none
  | k + 1, x0, x1, x2, x3, x4, x5, x6, x56 => if x56 = true then (if x5 > x4 then (strconv_fmtEFG.j5 k x0 x1 x2 x3 x4 (wrap64 (x4 - 1)) ((((x6 + 101) % 256) - 103) % 256)) else (strconv_fmtEFG.j5 k x0 x1 x2 x3 x4 (wrap64 (x5 - 1)) ((((x6 + 101) % 256) - 103) % 256))) else (if x5 > x3 then (strconv_fmtEFG.j5 k x0 x1 x2 x3 x4 (mx (wrap64 (x4 - x3)) 0) 102) else (strconv_fmtEFG.j5 k x0 x1 x2 x3 x4 (mx (wrap64 (x5 - x3)) 0) 102))
end
def strconv_fmtEFG.f (k : Nat) (l0 : List Int) (a1 : Bool) (l2 : List Int) (a3 : Int) (a4 : Int) (a5 : Int) (a6 : Int) (a7 : Bool) : Option (List Int) := if a6 = 103 then (strconv_fmtEFG.j0 k l0 a1 l2 a3 a4 a5 a6 a7 true) else (strconv_fmtEFG.j0 k l0 a1 l2 a3 a4 a5 a6 a7 (a6 == 71))
theorem strconv_fmtEFG.mono_l : ∀ k, (∀ y0 y1 y2 y3 y4 y5 y6 y7 y8, LeO (strconv_fmtEFG.j0 k y0 y1 y2 y3 y4 y5 y6 y7 y8) (strconv_fmtEFG.j0 (k + 1) y0 y1 y2 y3 y4 y5 y6 y7 y8)) ∧ (∀ y0 y1 y2 y3 y4 y5 y6, LeO (strconv_fmtEFG.j5 k y0 y1 y2 y3 y4 y5 y6) (strconv_fmtEFG.j5 (k + 1) y0 y1 y2 y3 y4 y5 y6)) ∧ (∀ y0 y1 y2 y3 y4 y5 y6 y7 y8, LeO (strconv_fmtEFG.j6 k y0 y1 y2 y3 y4 y5 y6 y7 y8) (strconv_fmtEFG.j6 (k + 1) y0 y1 y2 y3 y4 y5 y6 y7 y8)) ∧ (∀ y0 y1 y2 y3 y4 y5, LeO (strconv_fmtEFG.j7 k y0 y1 y2 y3 y4 y5) (strconv_fmtEFG.j7 (k + 1) y0 y1 y2 y3 y4 y5)) ∧ (∀ y0 y1 y2 y3 y4 y5 y6, LeO (strconv_fmtEFG.j8 k y0 y1 y2 y3 y4 y5 y6) (strconv_fmtEFG.j8 (k + 1) y0 y1 y2 y3 y4 y5 y6)) ∧ (∀ y0 y1 y2 y3, LeO (strconv_fmtEFG.j11 k y0 y1 y2 y3) (strconv_fmtEFG.j11 (k + 1) y0 y1 y2 y3)) ∧ (∀ y0 y1, LeO (strconv_fmtEFG.j12 k y0 y1) (strconv_fmtEFG.j12 (k + 1) y0 y1)) ∧ (∀ y0 y1 y2, LeO (strconv_fmtEFG.j13 k y0 y1 y2) (strconv_fmtEFG.j13 (k + 1) y0 y1 y2)) ∧ (∀ y0 y1 y2 y3 y4 y5, LeO (strconv_fmtEFG.j9 k y0 y1 y2 y3 y4 y5) (strconv_fmtEFG.j9 (k + 1) y0 y1 y2 y3 y4 y5)) ∧ (∀ y0 y1 y2 y3 y4 y5, LeO (strconv_fmtEFG.l0 k y0 y1 y2 y3 y4 y5) (strconv_fmtEFG.l0 (k + 1) y0 y1 y2 y3 y4 y5)) ∧ (∀ y0 y1 y2 y3 y4, LeO (strconv_fmtEFG.j14 k y0 y1 y2 y3 y4) (strconv_fmtEFG.j14 (k + 1) y0 y1 y2 y3 y4)) ∧ (∀ y0 y1 y2 y3 y4, LeO (strconv_fmtEFG.j17 k y0 y1 y2 y3 y4) (strconv_fmtEFG.j17 (k + 1) y0 y1 y2 y3 y4)) ∧ (∀ y0 y1 y2 y3 y4 y5 y6, LeO (strconv_fmtEFG.l3 k y0 y1 y2 y3 y4 y5 y6) (strconv_fmtEFG.l3 (k + 1) y0 y1 y2 y3 y4 y5 y6)) ∧ (∀ y0 y1 y2 y3 y4 y5, LeO (strconv_fmtEFG.l4 k y0 y1 y2 y3 y4 y5) (strconv_fmtEFG.l4 (k + 1) y0 y1 y2 y3 y4 y5)) ∧ (∀ y0 y1 y2, LeO (strconv_fmtEFG.l5 k y0 y1 y2) (strconv_fmtEFG.l5 (k + 1) y0 y1 y2)) ∧ (∀ y0 y1 y2 y3 y4 y5 y6 y7 y8, LeO (strconv_fmtEFG.l1 k y0 y1 y2 y3 y4 y5 y6 y7 y8) (strconv_fmtEFG.l1 (k + 1) y0 y1 y2 y3 y4 y5 y6 y7 y8)) ∧ (∀ y0 y1 y2 y3 y4 y5 y6, LeO (strconv_fmtEFG.l2 k y0 y1 y2 y3 y4 y5 y6) (strconv_fmtEFG.l2 (k + 1) y0 y1 y2 y3 y4 y5 y6)) ∧ (∀ y0 y1 y2 y3 y4 y5 y6 y7 y8 y9, LeO (strconv_fmtEFG.j1 k y0 y1 y2 y3 y4 y5 y6 y7 y8 y9) (strconv_fmtEFG.j1 (k + 1) y0 y1 y2 y3 y4 y5 y6 y7 y8 y9)) ∧ (∀ y0 y1 y2 y3 y4 y5 y6 y7 y8, LeO (strconv_fmtEFG.j2 k y0 y1 y2 y3 y4 y5 y6 y7 y8) (strconv_fmtEFG.j2 (k + 1) y0 y1 y2 y3 y4 y5 y6 y7 y8)) ∧ (∀ y0 y1 y2 y3 y4 y5 y6 y7, LeO (strconv_fmtEFG.j3 k y0 y1 y2 y3 y4 y5 y6 y7) (strconv_fmtEFG.j3 (k + 1) y0 y1 y2 y3 y4 y5 y6 y7)) ∧ (∀ y0 y1 y2 y3 y4 y5 y6 y7, LeO (strconv_fmtEFG.j4 k y0 y1 y2 y3 y4 y5 y6 y7) (strconv_fmtEFG.j4 (k + 1) y0 y1 y2 y3 y4 y5 y6 y7))
  | 0 => ⟨fun _ _ _ _ _ _ _ _ _ r h => by simp [strconv_fmtEFG.j0] at h, fun _ _ _ _ _ _ _ r h => by simp [strconv_fmtEFG.j5] at h, fun _ _ _ _ _ _ _ _ _ r h => by simp [strconv_fmtEFG.j6] at h, fun _ _ _ _ _ _ r h => by simp [strconv_fmtEFG.j7] at h, fun _ _ _ _ _ _ _ r h => by simp [strconv_fmtEFG.j8] at h, fun _ _ _ _ r h => by simp [strconv_fmtEFG.j11] at h, fun _ _ r h => by simp [strconv_fmtEFG.j12] at h, fun _ _ _ r h => by simp [strconv_fmtEFG.j13] at h, fun _ _ _ _ _ _ r h => by simp [strconv_fmtEFG.j9] at h, fun _ _ _ _ _ _ r h => by simp [strconv_fmtEFG.l0] at h, fun _ _ _ _ _ r h => by simp [strconv_fmtEFG.j14] at h, fun _ _ _ _ _ r h => by simp [strconv_fmtEFG.j17] at h, fun _ _ _ _ _ _ _ r h => by simp [strconv_fmtEFG.l3] at h, fun _ _ _ _ _ _ r h => by simp [strconv_fmtEFG.l4] at h, fun _ _ _ r h => by simp [strconv_fmtEFG.l5] at h, fun _ _ _ _ _ _ _ _ _ r h => by simp [strconv_fmtEFG.l1] at h, fun _ _ _ _ _ _ _ r h => by simp [strconv_fmtEFG.l2] at h, fun _ _ _ _ _ _ _ _ _ _ r h => by simp [strconv_fmtEFG.j1] at h, fun _ _ _ _ _ _ _ _ _ r h => by simp [strconv_fmtEFG.j2] at h, fun _ _ _ _ _ _ _ _ r h => by simp [strconv_fmtEFG.j3] at h, fun _ _ _ _ _ _ _ _ r h => by simp [strconv_fmtEFG.j4] at h⟩
  | k + 1 => by
    obtain ⟨ih0, ih1, ih2, ih3, ih4, ih5, ih6, ih7, ih8, ih9, ih10, ih11, ih12, ih13, ih14, ih15, ih16, ih17, ih18, ih19, ih20⟩ := strconv_fmtEFG.mono_l k
    refine ⟨?_, ?_, ?_, ?_, ?_, ?_, ?_, ?_, ?_, ?_, ?_, ?_, ?_, ?_, ?_, ?_, ?_, ?_, ?_, ?_, ?_⟩
    · intro y0 y1 y2 y3 y4 y5 y6 y7 y8
      unfold strconv_fmtEFG.j0
      repeat' first
      | (with_reducible exact ih0 _ _ _ _ _ _ _ _ _)
      | (with_reducible exact ih1 _ _ _ _ _ _ _)
      | (with_reducible exact ih2 _ _ _ _ _ _ _ _ _)
      | (with_reducible exact ih3 _ _ _ _ _ _)
      | (with_reducible exact ih4 _ _ _ _ _ _ _)
      | (with_reducible exact ih5 _ _ _ _)
      | (with_reducible exact ih6 _ _)
      | (with_reducible exact ih7 _ _ _)
      | (with_reducible exact ih8 _ _ _ _ _ _)
      | (with_reducible exact ih9 _ _ _ _ _ _)
      | (with_reducible exact ih10 _ _ _ _ _)
      | (with_reducible exact ih11 _ _ _ _ _)
      | (with_reducible exact ih12 _ _ _ _ _ _ _)
      | (with_reducible exact ih13 _ _ _ _ _ _)
      | (with_reducible exact ih14 _ _ _)
      | (with_reducible exact ih15 _ _ _ _ _ _ _ _ _)
      | (with_reducible exact ih16 _ _ _ _ _ _ _)
      | (with_reducible exact ih17 _ _ _ _ _ _ _ _ _ _)
      | (with_reducible exact ih18 _ _ _ _ _ _ _ _ _)
      | (with_reducible exact ih19 _ _ _ _ _ _ _ _)
      | (with_reducible exact ih20 _ _ _ _ _ _ _ _)
      | (with_reducible exact LeO.refl _)
      | (with_reducible exact LeO.none _)
      | (with_reducible refine LeO.ite ?_ ?_)
      | (with_reducible refine LeO.bind ?_ (fun _ => ?_))
      | exact ih0 _ _ _ _ _ _ _ _ _
      | exact ih1 _ _ _ _ _ _ _
      | exact ih2 _ _ _ _ _ _ _ _ _
      | exact ih3 _ _ _ _ _ _
      | exact ih4 _ _ _ _ _ _ _
      | exact ih5 _ _ _ _
      | exact ih6 _ _
      | exact ih7 _ _ _
      | exact ih8 _ _ _ _ _ _
      | exact ih9 _ _ _ _ _ _
      | exact ih10 _ _ _ _ _
      | exact ih11 _ _ _ _ _
      | exact ih12 _ _ _ _ _ _ _
      | exact ih13 _ _ _ _ _ _
      | exact ih14 _ _ _
      | exact ih15 _ _ _ _ _ _ _ _ _
      | exact ih16 _ _ _ _ _ _ _
      | exact ih17 _ _ _ _ _ _ _ _ _ _
      | exact ih18 _ _ _ _ _ _ _ _ _
      | exact ih19 _ _ _ _ _ _ _ _
      | exact ih20 _ _ _ _ _ _ _ _
      | exact LeO.none _
      | refine LeO.ite ?_ ?_
      | refine LeO.bind ?_ (fun _ => ?_)
    · intro y0 y1 y2 y3 y4 y5 y6
      unfold strconv_fmtEFG.j5
      repeat' first
      | (with_reducible exact ih0 _ _ _ _ _ _ _ _ _)
      | (with_reducible exact ih1 _ _ _ _ _ _ _)
      | (with_reducible exact ih2 _ _ _ _ _ _ _ _ _)
      | (with_reducible exact ih3 _ _ _ _ _ _)
      | (with_reducible exact ih4 _ _ _ _ _ _ _)
      | (with_reducible exact ih5 _ _ _ _)
      | (with_reducible exact ih6 _ _)
      | (with_reducible exact ih7 _ _ _)
      | (with_reducible exact ih8 _ _ _ _ _ _)
      | (with_reducible exact ih9 _ _ _ _ _ _)
      | (with_reducible exact ih10 _ _ _ _ _)
      | (with_reducible exact ih11 _ _ _ _ _)
      | (with_reducible exact ih12 _ _ _ _ _ _ _)
      | (with_reducible exact ih13 _ _ _ _ _ _)
      | (with_reducible exact ih14 _ _ _)
      | (with_reducible exact ih15 _ _ _ _ _ _ _ _ _)
      | (with_reducible exact ih16 _ _ _ _ _ _ _)
      | (with_reducible exact ih17 _ _ _ _ _ _ _ _ _ _)
      | (with_reducible exact ih18 _ _ _ _ _ _ _ _ _)
      | (with_reducible exact ih19 _ _ _ _ _ _ _ _)
      | (with_reducible exact ih20 _ _ _ _ _ _ _ _)
      | (with_reducible exact LeO.refl _)
      | (with_reducible exact LeO.none _)
      | (with_reducible refine LeO.ite ?_ ?_)
      | (with_reducible refine LeO.bind ?_ (fun _ => ?_))
      | exact ih0 _ _ _ _ _ _ _ _ _
      | exact ih1 _ _ _ _ _ _ _
      | exact ih2 _ _ _ _ _ _ _ _ _
      | exact ih3 _ _ _ _ _ _
      | exact ih4 _ _ _ _ _ _ _
      | exact ih5 _ _ _ _
      | exact ih6 _ _
      | exact ih7 _ _ _
      | exact ih8 _ _ _ _ _ _
      | exact ih9 _ _ _ _ _ _
      | exact ih10 _ _ _ _ _
      | exact ih11 _ _ _ _ _
      | exact ih12 _ _ _ _ _ _ _
      | exact ih13 _ _ _ _ _ _
      | exact ih14 _ _ _
      | exact ih15 _ _ _ _ _ _ _ _ _
      | exact ih16 _ _ _ _ _ _ _
      | exact ih17 _ _ _ _ _ _ _ _ _ _
      | exact ih18 _ _ _ _ _ _ _ _ _
      | exact ih19 _ _ _ _ _ _ _ _
      | exact ih20 _ _ _ _ _ _ _ _
      | exact LeO.none _
      | refine LeO.ite ?_ ?_
      | refine LeO.bind ?_ (fun _ => ?_)
    · intro y0 y1 y2 y3 y4 y5 y6 y7 y8
      unfold strconv_fmtEFG.j6
      repeat' first
      | (with_reducible exact ih0 _ _ _ _ _ _ _ _ _)
      | (with_reducible exact ih1 _ _ _ _ _ _ _)
      | (with_reducible exact ih2 _ _ _ _ _ _ _ _ _)
      | (with_reducible exact ih3 _ _ _ _ _ _)
      | (with_reducible exact ih4 _ _ _ _ _ _ _)
      | (with_reducible exact ih5 _ _ _ _)
      | (with_reducible exact ih6 _ _)
      | (with_reducible exact ih7 _ _ _)
      | (with_reducible exact ih8 _ _ _ _ _ _)
      | (with_reducible exact ih9 _ _ _ _ _ _)
      | (with_reducible exact ih10 _ _ _ _ _)
      | (with_reducible exact ih11 _ _ _ _ _)
      | (with_reducible exact ih12 _ _ _ _ _ _ _)
      | (with_reducible exact ih13 _ _ _ _ _ _)
      | (with_reducible exact ih14 _ _ _)
      | (with_reducible exact ih15 _ _ _ _ _ _ _ _ _)
      | (with_reducible exact ih16 _ _ _ _ _ _ _)
      | (with_reducible exact ih17 _ _ _ _ _ _ _ _ _ _)
      | (with_reducible exact ih18 _ _ _ _ _ _ _ _ _)
      | (with_reducible exact ih19 _ _ _ _ _ _ _ _)
      | (with_reducible exact ih20 _ _ _ _ _ _ _ _)
      | (with_reducible exact LeO.refl _)
      | (with_reducible exact LeO.none _)
      | (with_reducible refine LeO.ite ?_ ?_)
      | (with_reducible refine LeO.bind ?_ (fun _ => ?_))
      | exact ih0 _ _ _ _ _ _ _ _ _
      | exact ih1 _ _ _ _ _ _ _
      | exact ih2 _ _ _ _ _ _ _ _ _
      | exact ih3 _ _ _ _ _ _
      | exact ih4 _ _ _ _ _ _ _
      | exact ih5 _ _ _ _
      | exact ih6 _ _
      | exact ih7 _ _ _
      | exact ih8 _ _ _ _ _ _
      | exact ih9 _ _ _ _ _ _
      | exact ih10 _ _ _ _ _
      | exact ih11 _ _ _ _ _
      | exact ih12 _ _ _ _ _ _ _
      | exact ih13 _ _ _ _ _ _
      | exact ih14 _ _ _
      | exact ih15 _ _ _ _ _ _ _ _ _
      | exact ih16 _ _ _ _ _ _ _
      | exact ih17 _ _ _ _ _ _ _ _ _ _
      | exact ih18 _ _ _ _ _ _ _ _ _
      | exact ih19 _ _ _ _ _ _ _ _
      | exact ih20 _ _ _ _ _ _ _ _
      | exact LeO.none _
      | refine LeO.ite ?_ ?_
      | refine LeO.bind ?_ (fun _ => ?_)
    · intro y0 y1 y2 y3 y4 y5
      unfold strconv_fmtEFG.j7
      repeat' first
      | (with_reducible exact ih0 _ _ _ _ _ _ _ _ _)
      | (with_reducible exact ih1 _ _ _ _ _ _ _)
      | (with_reducible exact ih2 _ _ _ _ _ _ _ _ _)
      | (with_reducible exact ih3 _ _ _ _ _ _)
      | (with_reducible exact ih4 _ _ _ _ _ _ _)
      | (with_reducible exact ih5 _ _ _ _)
      | (with_reducible exact ih6 _ _)
      | (with_reducible exact ih7 _ _ _)
      | (with_reducible exact ih8 _ _ _ _ _ _)
      | (with_reducible exact ih9 _ _ _ _ _ _)
      | (with_reducible exact ih10 _ _ _ _ _)
      | (with_reducible exact ih11 _ _ _ _ _)
      | (with_reducible exact ih12 _ _ _ _ _ _ _)
      | (with_reducible exact ih13 _ _ _ _ _ _)
      | (with_reducible exact ih14 _ _ _)
      | (with_reducible exact ih15 _ _ _ _ _ _ _ _ _)
      | (with_reducible exact ih16 _ _ _ _ _ _ _)
      | (with_reducible exact ih17 _ _ _ _ _ _ _ _ _ _)
      | (with_reducible exact ih18 _ _ _ _ _ _ _ _ _)
      | (with_reducible exact ih19 _ _ _ _ _ _ _ _)
      | (with_reducible exact ih20 _ _ _ _ _ _ _ _)
      | (with_reducible exact LeO.refl _)
      | (with_reducible exact LeO.none _)
      | (with_reducible refine LeO.ite ?_ ?_)
      | (with_reducible refine LeO.bind ?_ (fun _ => ?_))
      | exact ih0 _ _ _ _ _ _ _ _ _
      | exact ih1 _ _ _ _ _ _ _
      | exact ih2 _ _ _ _ _ _ _ _ _
      | exact ih3 _ _ _ _ _ _
      | exact ih4 _ _ _ _ _ _ _
      | exact ih5 _ _ _ _
      | exact ih6 _ _
      | exact ih7 _ _ _
      | exact ih8 _ _ _ _ _ _
      | exact ih9 _ _ _ _ _ _
      | exact ih10 _ _ _ _ _
      | exact ih11 _ _ _ _ _
      | exact ih12 _ _ _ _ _ _ _
      | exact ih13 _ _ _ _ _ _
      | exact ih14 _ _ _
      | exact ih15 _ _ _ _ _ _ _ _ _
      | exact ih16 _ _ _ _ _ _ _
      | exact ih17 _ _ _ _ _ _ _ _ _ _
      | exact ih18 _ _ _ _ _ _ _ _ _
      | exact ih19 _ _ _ _ _ _ _ _
      | exact ih20 _ _ _ _ _ _ _ _
      | exact LeO.none _
      | refine LeO.ite ?_ ?_
      | refine LeO.bind ?_ (fun _ => ?_)
    · intro y0 y1 y2 y3 y4 y5 y6
      unfold strconv_fmtEFG.j8
      repeat' first
      | (with_reducible exact ih0 _ _ _ _ _ _ _ _ _)
      | (with_reducible exact ih1 _ _ _ _ _ _ _)
      | (with_reducible exact ih2 _ _ _ _ _ _ _ _ _)
      | (with_reducible exact ih3 _ _ _ _ _ _)
      | (with_reducible exact ih4 _ _ _ _ _ _ _)
      | (with_reducible exact ih5 _ _ _ _)
      | (with_reducible exact ih6 _ _)
      | (with_reducible exact ih7 _ _ _)
      | (with_reducible exact ih8 _ _ _ _ _ _)
      | (with_reducible exact ih9 _ _ _ _ _ _)
      | (with_reducible exact ih10 _ _ _ _ _)
      | (with_reducible exact ih11 _ _ _ _ _)
      | (with_reducible exact ih12 _ _ _ _ _ _ _)
      | (with_reducible exact ih13 _ _ _ _ _ _)
      | (with_reducible exact ih14 _ _ _)
      | (with_reducible exact ih15 _ _ _ _ _ _ _ _ _)
      | (with_reducible exact ih16 _ _ _ _ _ _ _)
      | (with_reducible exact ih17 _ _ _ _ _ _ _ _ _ _)
      | (with_reducible exact ih18 _ _ _ _ _ _ _ _ _)
      | (with_reducible exact ih19 _ _ _ _ _ _ _ _)
      | (with_reducible exact ih20 _ _ _ _ _ _ _ _)
      | (with_reducible exact LeO.refl _)
      | (with_reducible exact LeO.none _)
      | (with_reducible refine LeO.ite ?_ ?_)
      | (with_reducible refine LeO.bind ?_ (fun _ => ?_))
      | exact ih0 _ _ _ _ _ _ _ _ _
      | exact ih1 _ _ _ _ _ _ _
      | exact ih2 _ _ _ _ _ _ _ _ _
      | exact ih3 _ _ _ _ _ _
      | exact ih4 _ _ _ _ _ _ _
      | exact ih5 _ _ _ _
      | exact ih6 _ _
      | exact ih7 _ _ _
      | exact ih8 _ _ _ _ _ _
      | exact ih9 _ _ _ _ _ _
      | exact ih10 _ _ _ _ _
      | exact ih11 _ _ _ _ _
      | exact ih12 _ _ _ _ _ _ _
      | exact ih13 _ _ _ _ _ _
      | exact ih14 _ _ _
      | exact ih15 _ _ _ _ _ _ _ _ _
      | exact ih16 _ _ _ _ _ _ _
      | exact ih17 _ _ _ _ _ _ _ _ _ _
      | exact ih18 _ _ _ _ _ _ _ _ _
      | exact ih19 _ _ _ _ _ _ _ _
      | exact ih20 _ _ _ _ _ _ _ _
      | exact LeO.none _
      | refine LeO.ite ?_ ?_
      | refine LeO.bind ?_ (fun _ => ?_)
    · intro y0 y1 y2 y3
      unfold strconv_fmtEFG.j11
      repeat' first
      | (with_reducible exact ih0 _ _ _ _ _ _ _ _ _)
      | (with_reducible exact ih1 _ _ _ _ _ _ _)
      | (with_reducible exact ih2 _ _ _ _ _ _ _ _ _)
      | (with_reducible exact ih3 _ _ _ _ _ _)
      | (with_reducible exact ih4 _ _ _ _ _ _ _)
      | (with_reducible exact ih5 _ _ _ _)
      | (with_reducible exact ih6 _ _)
      | (with_reducible exact ih7 _ _ _)
      | (with_reducible exact ih8 _ _ _ _ _ _)
      | (with_reducible exact ih9 _ _ _ _ _ _)
      | (with_reducible exact ih10 _ _ _ _ _)
      | (with_reducible exact ih11 _ _ _ _ _)
      | (with_reducible exact ih12 _ _ _ _ _ _ _)
      | (with_reducible exact ih13 _ _ _ _ _ _)
      | (with_reducible exact ih14 _ _ _)
      | (with_reducible exact ih15 _ _ _ _ _ _ _ _ _)
      | (with_reducible exact ih16 _ _ _ _ _ _ _)
      | (with_reducible exact ih17 _ _ _ _ _ _ _ _ _ _)
      | (with_reducible exact ih18 _ _ _ _ _ _ _ _ _)
      | (with_reducible exact ih19 _ _ _ _ _ _ _ _)
      | (with_reducible exact ih20 _ _ _ _ _ _ _ _)
      | (with_reducible exact LeO.refl _)
      | (with_reducible exact LeO.none _)
      | (with_reducible refine LeO.ite ?_ ?_)
      | (with_reducible refine LeO.bind ?_ (fun _ => ?_))
      | exact ih0 _ _ _ _ _ _ _ _ _
      | exact ih1 _ _ _ _ _ _ _
      | exact ih2 _ _ _ _ _ _ _ _ _
      | exact ih3 _ _ _ _ _ _
      | exact ih4 _ _ _ _ _ _ _
      | exact ih5 _ _ _ _
      | exact ih6 _ _
      | exact ih7 _ _ _
      | exact ih8 _ _ _ _ _ _
      | exact ih9 _ _ _ _ _ _
      | exact ih10 _ _ _ _ _
      | exact ih11 _ _ _ _ _
      | exact ih12 _ _ _ _ _ _ _
      | exact ih13 _ _ _ _ _ _
      | exact ih14 _ _ _
      | exact ih15 _ _ _ _ _ _ _ _ _
      | exact ih16 _ _ _ _ _ _ _
      | exact ih17 _ _ _ _ _ _ _ _ _ _
      | exact ih18 _ _ _ _ _ _ _ _ _
      | exact ih19 _ _ _ _ _ _ _ _
      | exact ih20 _ _ _ _ _ _ _ _
      | exact LeO.none _
      | refine LeO.ite ?_ ?_
      | refine LeO.bind ?_ (fun _ => ?_)
    · intro y0 y1
      unfold strconv_fmtEFG.j12
      repeat' first
      | (with_reducible exact ih0 _ _ _ _ _ _ _ _ _)
      | (with_reducible exact ih1 _ _ _ _ _ _ _)
      | (with_reducible exact ih2 _ _ _ _ _ _ _ _ _)
      | (with_reducible exact ih3 _ _ _ _ _ _)
      | (with_reducible exact ih4 _ _ _ _ _ _ _)
      | (with_reducible exact ih5 _ _ _ _)
      | (with_reducible exact ih6 _ _)
      | (with_reducible exact ih7 _ _ _)
      | (with_reducible exact ih8 _ _ _ _ _ _)
      | (with_reducible exact ih9 _ _ _ _ _ _)
      | (with_reducible exact ih10 _ _ _ _ _)
      | (with_reducible exact ih11 _ _ _ _ _)
      | (with_reducible exact ih12 _ _ _ _ _ _ _)
      | (with_reducible exact ih13 _ _ _ _ _ _)
      | (with_reducible exact ih14 _ _ _)
      | (with_reducible exact ih15 _ _ _ _ _ _ _ _ _)
      | (with_reducible exact ih16 _ _ _ _ _ _ _)
      | (with_reducible exact ih17 _ _ _ _ _ _ _ _ _ _)
      | (with_reducible exact ih18 _ _ _ _ _ _ _ _ _)
      | (with_reducible exact ih19 _ _ _ _ _ _ _ _)
      | (with_reducible exact ih20 _ _ _ _ _ _ _ _)
      | (with_reducible exact LeO.refl _)
      | (with_reducible exact LeO.none _)
      | (with_reducible refine LeO.ite ?_ ?_)
      | (with_reducible refine LeO.bind ?_ (fun _ => ?_))
      | exact ih0 _ _ _ _ _ _ _ _ _
      | exact ih1 _ _ _ _ _ _ _
      | exact ih2 _ _ _ _ _ _ _ _ _
      | exact ih3 _ _ _ _ _ _
      | exact ih4 _ _ _ _ _ _ _
      | exact ih5 _ _ _ _
      | exact ih6 _ _
      | exact ih7 _ _ _
      | exact ih8 _ _ _ _ _ _
      | exact ih9 _ _ _ _ _ _
      | exact ih10 _ _ _ _ _
      | exact ih11 _ _ _ _ _
      | exact ih12 _ _ _ _ _ _ _
      | exact ih13 _ _ _ _ _ _
      | exact ih14 _ _ _
      | exact ih15 _ _ _ _ _ _ _ _ _
      | exact ih16 _ _ _ _ _ _ _
      | exact ih17 _ _ _ _ _ _ _ _ _ _
      | exact ih18 _ _ _ _ _ _ _ _ _
      | exact ih19 _ _ _ _ _ _ _ _
      | exact ih20 _ _ _ _ _ _ _ _
      | exact LeO.none _
      | refine LeO.ite ?_ ?_
      | refine LeO.bind ?_ (fun _ => ?_)
    · intro y0 y1 y2
      unfold strconv_fmtEFG.j13
      repeat' first
      | (with_reducible exact ih0 _ _ _ _ _ _ _ _ _)
      | (with_reducible exact ih1 _ _ _ _ _ _ _)
      | (with_reducible exact ih2 _ _ _ _ _ _ _ _ _)
      | (with_reducible exact ih3 _ _ _ _ _ _)
      | (with_reducible exact ih4 _ _ _ _ _ _ _)
      | (with_reducible exact ih5 _ _ _ _)
      | (with_reducible exact ih6 _ _)
      | (with_reducible exact ih7 _ _ _)
      | (with_reducible exact ih8 _ _ _ _ _ _)
      | (with_reducible exact ih9 _ _ _ _ _ _)
      | (with_reducible exact ih10 _ _ _ _ _)
      | (with_reducible exact ih11 _ _ _ _ _)
      | (with_reducible exact ih12 _ _ _ _ _ _ _)
      | (with_reducible exact ih13 _ _ _ _ _ _)
      | (with_reducible exact ih14 _ _ _)
      | (with_reducible exact ih15 _ _ _ _ _ _ _ _ _)
      | (with_reducible exact ih16 _ _ _ _ _ _ _)
      | (with_reducible exact ih17 _ _ _ _ _ _ _ _ _ _)
      | (with_reducible exact ih18 _ _ _ _ _ _ _ _ _)
      | (with_reducible exact ih19 _ _ _ _ _ _ _ _)
      | (with_reducible exact ih20 _ _ _ _ _ _ _ _)
      | (with_reducible exact LeO.refl _)
      | (with_reducible exact LeO.none _)
      | (with_reducible refine LeO.ite ?_ ?_)
      | (with_reducible refine LeO.bind ?_ (fun _ => ?_))
      | exact ih0 _ _ _ _ _ _ _ _ _
      | exact ih1 _ _ _ _ _ _ _
      | exact ih2 _ _ _ _ _ _ _ _ _
      | exact ih3 _ _ _ _ _ _
      | exact ih4 _ _ _ _ _ _ _
      | exact ih5 _ _ _ _
      | exact ih6 _ _
      | exact ih7 _ _ _
      | exact ih8 _ _ _ _ _ _
      | exact ih9 _ _ _ _ _ _
      | exact ih10 _ _ _ _ _
      | exact ih11 _ _ _ _ _
      | exact ih12 _ _ _ _ _ _ _
      | exact ih13 _ _ _ _ _ _
      | exact ih14 _ _ _
      | exact ih15 _ _ _ _ _ _ _ _ _
      | exact ih16 _ _ _ _ _ _ _
      | exact ih17 _ _ _ _ _ _ _ _ _ _
      | exact ih18 _ _ _ _ _ _ _ _ _
      | exact ih19 _ _ _ _ _ _ _ _
      | exact ih20 _ _ _ _ _ _ _ _
      | exact LeO.none _
      | refine LeO.ite ?_ ?_
      | refine LeO.bind ?_ (fun _ => ?_)
    · intro y0 y1 y2 y3 y4 y5
      unfold strconv_fmtEFG.j9
      repeat' first
      | (with_reducible exact ih0 _ _ _ _ _ _ _ _ _)
      | (with_reducible exact ih1 _ _ _ _ _ _ _)
      | (with_reducible exact ih2 _ _ _ _ _ _ _ _ _)
      | (with_reducible exact ih3 _ _ _ _ _ _)
      | (with_reducible exact ih4 _ _ _ _ _ _ _)
      | (with_reducible exact ih5 _ _ _ _)
      | (with_reducible exact ih6 _ _)
      | (with_reducible exact ih7 _ _ _)
      | (with_reducible exact ih8 _ _ _ _ _ _)
      | (with_reducible exact ih9 _ _ _ _ _ _)
      | (with_reducible exact ih10 _ _ _ _ _)
      | (with_reducible exact ih11 _ _ _ _ _)
      | (with_reducible exact ih12 _ _ _ _ _ _ _)
      | (with_reducible exact ih13 _ _ _ _ _ _)
      | (with_reducible exact ih14 _ _ _)
      | (with_reducible exact ih15 _ _ _ _ _ _ _ _ _)
      | (with_reducible exact ih16 _ _ _ _ _ _ _)
      | (with_reducible exact ih17 _ _ _ _ _ _ _ _ _ _)
      | (with_reducible exact ih18 _ _ _ _ _ _ _ _ _)
      | (with_reducible exact ih19 _ _ _ _ _ _ _ _)
      | (with_reducible exact ih20 _ _ _ _ _ _ _ _)
      | (with_reducible exact LeO.refl _)
      | (with_reducible exact LeO.none _)
      | (with_reducible refine LeO.ite ?_ ?_)
      | (with_reducible refine LeO.bind ?_ (fun _ => ?_))
      | exact ih0 _ _ _ _ _ _ _ _ _
      | exact ih1 _ _ _ _ _ _ _
      | exact ih2 _ _ _ _ _ _ _ _ _
      | exact ih3 _ _ _ _ _ _
      | exact ih4 _ _ _ _ _ _ _
      | exact ih5 _ _ _ _
      | exact ih6 _ _
      | exact ih7 _ _ _
      | exact ih8 _ _ _ _ _ _
      | exact ih9 _ _ _ _ _ _
      | exact ih10 _ _ _ _ _
      | exact ih11 _ _ _ _ _
      | exact ih12 _ _ _ _ _ _ _
      | exact ih13 _ _ _ _ _ _
      | exact ih14 _ _ _
      | exact ih15 _ _ _ _ _ _ _ _ _
      | exact ih16 _ _ _ _ _ _ _
      | exact ih17 _ _ _ _ _ _ _ _ _ _
      | exact ih18 _ _ _ _ _ _ _ _ _
      | exact ih19 _ _ _ _ _ _ _ _
      | exact ih20 _ _ _ _ _ _ _ _
      | exact LeO.none _
      | refine LeO.ite ?_ ?_
      | refine LeO.bind ?_ (fun _ => ?_)
    · intro y0 y1 y2 y3 y4 y5
      unfold strconv_fmtEFG.l0
      repeat' first
      | (with_reducible exact ih0 _ _ _ _ _ _ _ _ _)
      | (with_reducible exact ih1 _ _ _ _ _ _ _)
      | (with_reducible exact ih2 _ _ _ _ _ _ _ _ _)
      | (with_reducible exact ih3 _ _ _ _ _ _)
      | (with_reducible exact ih4 _ _ _ _ _ _ _)
      | (with_reducible exact ih5 _ _ _ _)
      | (with_reducible exact ih6 _ _)
      | (with_reducible exact ih7 _ _ _)
      | (with_reducible exact ih8 _ _ _ _ _ _)
      | (with_reducible exact ih9 _ _ _ _ _ _)
      | (with_reducible exact ih10 _ _ _ _ _)
      | (with_reducible exact ih11 _ _ _ _ _)
      | (with_reducible exact ih12 _ _ _ _ _ _ _)
      | (with_reducible exact ih13 _ _ _ _ _ _)
      | (with_reducible exact ih14 _ _ _)
      | (with_reducible exact ih15 _ _ _ _ _ _ _ _ _)
      | (with_reducible exact ih16 _ _ _ _ _ _ _)
      | (with_reducible exact ih17 _ _ _ _ _ _ _ _ _ _)
      | (with_reducible exact ih18 _ _ _ _ _ _ _ _ _)
      | (with_reducible exact ih19 _ _ _ _ _ _ _ _)
      | (with_reducible exact ih20 _ _ _ _ _ _ _ _)
      | (with_reducible exact LeO.refl _)
      | (with_reducible exact LeO.none _)
      | (with_reducible refine LeO.ite ?_ ?_)
      | (with_reducible refine LeO.bind ?_ (fun _ => ?_))
      | exact ih0 _ _ _ _ _ _ _ _ _
      | exact ih1 _ _ _ _ _ _ _
      | exact ih2 _ _ _ _ _ _ _ _ _
      | exact ih3 _ _ _ _ _ _
      | exact ih4 _ _ _ _ _ _ _
      | exact ih5 _ _ _ _
      | exact ih6 _ _
      | exact ih7 _ _ _
      | exact ih8 _ _ _ _ _ _
      | exact ih9 _ _ _ _ _ _
      | exact ih10 _ _ _ _ _
      | exact ih11 _ _ _ _ _
      | exact ih12 _ _ _ _ _ _ _
      | exact ih13 _ _ _ _ _ _
      | exact ih14 _ _ _
      | exact ih15 _ _ _ _ _ _ _ _ _
      | exact ih16 _ _ _ _ _ _ _
      | exact ih17 _ _ _ _ _ _ _ _ _ _
      | exact ih18 _ _ _ _ _ _ _ _ _
      | exact ih19 _ _ _ _ _ _ _ _
      | exact ih20 _ _ _ _ _ _ _ _
      | exact LeO.none _
      | refine LeO.ite ?_ ?_
      | refine LeO.bind ?_ (fun _ => ?_)
    · intro y0 y1 y2 y3 y4
      unfold strconv_fmtEFG.j14
      repeat' first
      | (with_reducible exact ih0 _ _ _ _ _ _ _ _ _)
      | (with_reducible exact ih1 _ _ _ _ _ _ _)
      | (with_reducible exact ih2 _ _ _ _ _ _ _ _ _)
      | (with_reducible exact ih3 _ _ _ _ _ _)
      | (with_reducible exact ih4 _ _ _ _ _ _ _)
      | (with_reducible exact ih5 _ _ _ _)
      | (with_reducible exact ih6 _ _)
      | (with_reducible exact ih7 _ _ _)
      | (with_reducible exact ih8 _ _ _ _ _ _)
      | (with_reducible exact ih9 _ _ _ _ _ _)
      | (with_reducible exact ih10 _ _ _ _ _)
      | (with_reducible exact ih11 _ _ _ _ _)
      | (with_reducible exact ih12 _ _ _ _ _ _ _)
      | (with_reducible exact ih13 _ _ _ _ _ _)
      | (with_reducible exact ih14 _ _ _)
      | (with_reducible exact ih15 _ _ _ _ _ _ _ _ _)
      | (with_reducible exact ih16 _ _ _ _ _ _ _)
      | (with_reducible exact ih17 _ _ _ _ _ _ _ _ _ _)
      | (with_reducible exact ih18 _ _ _ _ _ _ _ _ _)
      | (with_reducible exact ih19 _ _ _ _ _ _ _ _)
      | (with_reducible exact ih20 _ _ _ _ _ _ _ _)
      | (with_reducible exact LeO.refl _)
      | (with_reducible exact LeO.none _)
      | (with_reducible refine LeO.ite ?_ ?_)
      | (with_reducible refine LeO.bind ?_ (fun _ => ?_))
      | exact ih0 _ _ _ _ _ _ _ _ _
      | exact ih1 _ _ _ _ _ _ _
      | exact ih2 _ _ _ _ _ _ _ _ _
      | exact ih3 _ _ _ _ _ _
      | exact ih4 _ _ _ _ _ _ _
      | exact ih5 _ _ _ _
      | exact ih6 _ _
      | exact ih7 _ _ _
      | exact ih8 _ _ _ _ _ _
      | exact ih9 _ _ _ _ _ _
      | exact ih10 _ _ _ _ _
      | exact ih11 _ _ _ _ _
      | exact ih12 _ _ _ _ _ _ _
      | exact ih13 _ _ _ _ _ _
      | exact ih14 _ _ _
      | exact ih15 _ _ _ _ _ _ _ _ _
      | exact ih16 _ _ _ _ _ _ _
      | exact ih17 _ _ _ _ _ _ _ _ _ _
      | exact ih18 _ _ _ _ _ _ _ _ _
      | exact ih19 _ _ _ _ _ _ _ _
      | exact ih20 _ _ _ _ _ _ _ _
      | exact LeO.none _
      | refine LeO.ite ?_ ?_
      | refine LeO.bind ?_ (fun _ => ?_)
    · intro y0 y1 y2 y3 y4
      unfold strconv_fmtEFG.j17
      repeat' first
      | (with_reducible exact ih0 _ _ _ _ _ _ _ _ _)
      | (with_reducible exact ih1 _ _ _ _ _ _ _)
      | (with_reducible exact ih2 _ _ _ _ _ _ _ _ _)
      | (with_reducible exact ih3 _ _ _ _ _ _)
      | (with_reducible exact ih4 _ _ _ _ _ _ _)
      | (with_reducible exact ih5 _ _ _ _)
      | (with_reducible exact ih6 _ _)
      | (with_reducible exact ih7 _ _ _)
      | (with_reducible exact ih8 _ _ _ _ _ _)
      | (with_reducible exact ih9 _ _ _ _ _ _)
      | (with_reducible exact ih10 _ _ _ _ _)
      | (with_reducible exact ih11 _ _ _ _ _)
      | (with_reducible exact ih12 _ _ _ _ _ _ _)
      | (with_reducible exact ih13 _ _ _ _ _ _)
      | (with_reducible exact ih14 _ _ _)
      | (with_reducible exact ih15 _ _ _ _ _ _ _ _ _)
      | (with_reducible exact ih16 _ _ _ _ _ _ _)
      | (with_reducible exact ih17 _ _ _ _ _ _ _ _ _ _)
      | (with_reducible exact ih18 _ _ _ _ _ _ _ _ _)
      | (with_reducible exact ih19 _ _ _ _ _ _ _ _)
      | (with_reducible exact ih20 _ _ _ _ _ _ _ _)
      | (with_reducible exact LeO.refl _)
      | (with_reducible exact LeO.none _)
      | (with_reducible refine LeO.ite ?_ ?_)
      | (with_reducible refine LeO.bind ?_ (fun _ => ?_))
      | exact ih0 _ _ _ _ _ _ _ _ _
      | exact ih1 _ _ _ _ _ _ _
      | exact ih2 _ _ _ _ _ _ _ _ _
      | exact ih3 _ _ _ _ _ _
      | exact ih4 _ _ _ _ _ _ _
      | exact ih5 _ _ _ _
      | exact ih6 _ _
      | exact ih7 _ _ _
      | exact ih8 _ _ _ _ _ _
      | exact ih9 _ _ _ _ _ _
      | exact ih10 _ _ _ _ _
      | exact ih11 _ _ _ _ _
      | exact ih12 _ _ _ _ _ _ _
      | exact ih13 _ _ _ _ _ _
      | exact ih14 _ _ _
      | exact ih15 _ _ _ _ _ _ _ _ _
      | exact ih16 _ _ _ _ _ _ _
      | exact ih17 _ _ _ _ _ _ _ _ _ _
      | exact ih18 _ _ _ _ _ _ _ _ _
      | exact ih19 _ _ _ _ _ _ _ _
      | exact ih20 _ _ _ _ _ _ _ _
      | exact LeO.none _
      | refine LeO.ite ?_ ?_
      | refine LeO.bind ?_ (fun _ => ?_)
    · intro y0 y1 y2 y3 y4 y5 y6
      unfold strconv_fmtEFG.l3
      repeat' first
      | (with_reducible exact ih0 _ _ _ _ _ _ _ _ _)
      | (with_reducible exact ih1 _ _ _ _ _ _ _)
      | (with_reducible exact ih2 _ _ _ _ _ _ _ _ _)
      | (with_reducible exact ih3 _ _ _ _ _ _)
      | (with_reducible exact ih4 _ _ _ _ _ _ _)
      | (with_reducible exact ih5 _ _ _ _)
      | (with_reducible exact ih6 _ _)
      | (with_reducible exact ih7 _ _ _)
      | (with_reducible exact ih8 _ _ _ _ _ _)
      | (with_reducible exact ih9 _ _ _ _ _ _)
      | (with_reducible exact ih10 _ _ _ _ _)
      | (with_reducible exact ih11 _ _ _ _ _)
      | (with_reducible exact ih12 _ _ _ _ _ _ _)
      | (with_reducible exact ih13 _ _ _ _ _ _)
      | (with_reducible exact ih14 _ _ _)
      | (with_reducible exact ih15 _ _ _ _ _ _ _ _ _)
      | (with_reducible exact ih16 _ _ _ _ _ _ _)
      | (with_reducible exact ih17 _ _ _ _ _ _ _ _ _ _)
      | (with_reducible exact ih18 _ _ _ _ _ _ _ _ _)
      | (with_reducible exact ih19 _ _ _ _ _ _ _ _)
      | (with_reducible exact ih20 _ _ _ _ _ _ _ _)
      | (with_reducible exact LeO.refl _)
      | (with_reducible exact LeO.none _)
      | (with_reducible refine LeO.ite ?_ ?_)
      | (with_reducible refine LeO.bind ?_ (fun _ => ?_))
      | exact ih0 _ _ _ _ _ _ _ _ _
      | exact ih1 _ _ _ _ _ _ _
      | exact ih2 _ _ _ _ _ _ _ _ _
      | exact ih3 _ _ _ _ _ _
      | exact ih4 _ _ _ _ _ _ _
      | exact ih5 _ _ _ _
      | exact ih6 _ _
      | exact ih7 _ _ _
      | exact ih8 _ _ _ _ _ _
      | exact ih9 _ _ _ _ _ _
      | exact ih10 _ _ _ _ _
      | exact ih11 _ _ _ _ _
      | exact ih12 _ _ _ _ _ _ _
      | exact ih13 _ _ _ _ _ _
      | exact ih14 _ _ _
      | exact ih15 _ _ _ _ _ _ _ _ _
      | exact ih16 _ _ _ _ _ _ _
      | exact ih17 _ _ _ _ _ _ _ _ _ _
      | exact ih18 _ _ _ _ _ _ _ _ _
      | exact ih19 _ _ _ _ _ _ _ _
      | exact ih20 _ _ _ _ _ _ _ _
      | exact LeO.none _
      | refine LeO.ite ?_ ?_
      | refine LeO.bind ?_ (fun _ => ?_)
    · intro y0 y1 y2 y3 y4 y5
      unfold strconv_fmtEFG.l4
      repeat' first
      | (with_reducible exact ih0 _ _ _ _ _ _ _ _ _)
      | (with_reducible exact ih1 _ _ _ _ _ _ _)
      | (with_reducible exact ih2 _ _ _ _ _ _ _ _ _)
      | (with_reducible exact ih3 _ _ _ _ _ _)
      | (with_reducible exact ih4 _ _ _ _ _ _ _)
      | (with_reducible exact ih5 _ _ _ _)
      | (with_reducible exact ih6 _ _)
      | (with_reducible exact ih7 _ _ _)
      | (with_reducible exact ih8 _ _ _ _ _ _)
      | (with_reducible exact ih9 _ _ _ _ _ _)
      | (with_reducible exact ih10 _ _ _ _ _)
      | (with_reducible exact ih11 _ _ _ _ _)
      | (with_reducible exact ih12 _ _ _ _ _ _ _)
      | (with_reducible exact ih13 _ _ _ _ _ _)
      | (with_reducible exact ih14 _ _ _)
      | (with_reducible exact ih15 _ _ _ _ _ _ _ _ _)
      | (with_reducible exact ih16 _ _ _ _ _ _ _)
      | (with_reducible exact ih17 _ _ _ _ _ _ _ _ _ _)
      | (with_reducible exact ih18 _ _ _ _ _ _ _ _ _)
      | (with_reducible exact ih19 _ _ _ _ _ _ _ _)
      | (with_reducible exact ih20 _ _ _ _ _ _ _ _)
      | (with_reducible exact LeO.refl _)
      | (with_reducible exact LeO.none _)
      | (with_reducible refine LeO.ite ?_ ?_)
      | (with_reducible refine LeO.bind ?_ (fun _ => ?_))
      | exact ih0 _ _ _ _ _ _ _ _ _
      | exact ih1 _ _ _ _ _ _ _
      | exact ih2 _ _ _ _ _ _ _ _ _
      | exact ih3 _ _ _ _ _ _
      | exact ih4 _ _ _ _ _ _ _
      | exact ih5 _ _ _ _
      | exact ih6 _ _
      | exact ih7 _ _ _
      | exact ih8 _ _ _ _ _ _
      | exact ih9 _ _ _ _ _ _
      | exact ih10 _ _ _ _ _
      | exact ih11 _ _ _ _ _
      | exact ih12 _ _ _ _ _ _ _
      | exact ih13 _ _ _ _ _ _
      | exact ih14 _ _ _
      | exact ih15 _ _ _ _ _ _ _ _ _
      | exact ih16 _ _ _ _ _ _ _
      | exact ih17 _ _ _ _ _ _ _ _ _ _
      | exact ih18 _ _ _ _ _ _ _ _ _
      | exact ih19 _ _ _ _ _ _ _ _
      | exact ih20 _ _ _ _ _ _ _ _
      | exact LeO.none _
      | refine LeO.ite ?_ ?_
      | refine LeO.bind ?_ (fun _ => ?_)
    · intro y0 y1 y2
      unfold strconv_fmtEFG.l5
      repeat' first
      | (with_reducible exact ih0 _ _ _ _ _ _ _ _ _)
      | (with_reducible exact ih1 _ _ _ _ _ _ _)
      | (with_reducible exact ih2 _ _ _ _ _ _ _ _ _)
      | (with_reducible exact ih3 _ _ _ _ _ _)
      | (with_reducible exact ih4 _ _ _ _ _ _ _)
      | (with_reducible exact ih5 _ _ _ _)
      | (with_reducible exact ih6 _ _)
      | (with_reducible exact ih7 _ _ _)
      | (with_reducible exact ih8 _ _ _ _ _ _)
      | (with_reducible exact ih9 _ _ _ _ _ _)
      | (with_reducible exact ih10 _ _ _ _ _)
      | (with_reducible exact ih11 _ _ _ _ _)
      | (with_reducible exact ih12 _ _ _ _ _ _ _)
      | (with_reducible exact ih13 _ _ _ _ _ _)
      | (with_reducible exact ih14 _ _ _)
      | (with_reducible exact ih15 _ _ _ _ _ _ _ _ _)
      | (with_reducible exact ih16 _ _ _ _ _ _ _)
      | (with_reducible exact ih17 _ _ _ _ _ _ _ _ _ _)
      | (with_reducible exact ih18 _ _ _ _ _ _ _ _ _)
      | (with_reducible exact ih19 _ _ _ _ _ _ _ _)
      | (with_reducible exact ih20 _ _ _ _ _ _ _ _)
      | (with_reducible exact LeO.refl _)
      | (with_reducible exact LeO.none _)
      | (with_reducible refine LeO.ite ?_ ?_)
      | (with_reducible refine LeO.bind ?_ (fun _ => ?_))
      | exact ih0 _ _ _ _ _ _ _ _ _
      | exact ih1 _ _ _ _ _ _ _
      | exact ih2 _ _ _ _ _ _ _ _ _
      | exact ih3 _ _ _ _ _ _
      | exact ih4 _ _ _ _ _ _ _
      | exact ih5 _ _ _ _
      | exact ih6 _ _
      | exact ih7 _ _ _
      | exact ih8 _ _ _ _ _ _
      | exact ih9 _ _ _ _ _ _
      | exact ih10 _ _ _ _ _
      | exact ih11 _ _ _ _ _
      | exact ih12 _ _ _ _ _ _ _
      | exact ih13 _ _ _ _ _ _
      | exact ih14 _ _ _
      | exact ih15 _ _ _ _ _ _ _ _ _
      | exact ih16 _ _ _ _ _ _ _
      | exact ih17 _ _ _ _ _ _ _ _ _ _
      | exact ih18 _ _ _ _ _ _ _ _ _
      | exact ih19 _ _ _ _ _ _ _ _
      | exact ih20 _ _ _ _ _ _ _ _
      | exact LeO.none _
      | refine LeO.ite ?_ ?_
      | refine LeO.bind ?_ (fun _ => ?_)
    · intro y0 y1 y2 y3 y4 y5 y6 y7 y8
      unfold strconv_fmtEFG.l1
      repeat' first
      | (with_reducible exact ih0 _ _ _ _ _ _ _ _ _)
      | (with_reducible exact ih1 _ _ _ _ _ _ _)
      | (with_reducible exact ih2 _ _ _ _ _ _ _ _ _)
      | (with_reducible exact ih3 _ _ _ _ _ _)
      | (with_reducible exact ih4 _ _ _ _ _ _ _)
      | (with_reducible exact ih5 _ _ _ _)
      | (with_reducible exact ih6 _ _)
      | (with_reducible exact ih7 _ _ _)
      | (with_reducible exact ih8 _ _ _ _ _ _)
      | (with_reducible exact ih9 _ _ _ _ _ _)
      | (with_reducible exact ih10 _ _ _ _ _)
      | (with_reducible exact ih11 _ _ _ _ _)
      | (with_reducible exact ih12 _ _ _ _ _ _ _)
      | (with_reducible exact ih13 _ _ _ _ _ _)
      | (with_reducible exact ih14 _ _ _)
      | (with_reducible exact ih15 _ _ _ _ _ _ _ _ _)
      | (with_reducible exact ih16 _ _ _ _ _ _ _)
      | (with_reducible exact ih17 _ _ _ _ _ _ _ _ _ _)
      | (with_reducible exact ih18 _ _ _ _ _ _ _ _ _)
      | (with_reducible exact ih19 _ _ _ _ _ _ _ _)
      | (with_reducible exact ih20 _ _ _ _ _ _ _ _)
      | (with_reducible exact LeO.refl _)
      | (with_reducible exact LeO.none _)
      | (with_reducible refine LeO.ite ?_ ?_)
      | (with_reducible refine LeO.bind ?_ (fun _ => ?_))
      | exact ih0 _ _ _ _ _ _ _ _ _
      | exact ih1 _ _ _ _ _ _ _
      | exact ih2 _ _ _ _ _ _ _ _ _
      | exact ih3 _ _ _ _ _ _
      | exact ih4 _ _ _ _ _ _ _
      | exact ih5 _ _ _ _
      | exact ih6 _ _
      | exact ih7 _ _ _
      | exact ih8 _ _ _ _ _ _
      | exact ih9 _ _ _ _ _ _
      | exact ih10 _ _ _ _ _
      | exact ih11 _ _ _ _ _
      | exact ih12 _ _ _ _ _ _ _
      | exact ih13 _ _ _ _ _ _
      | exact ih14 _ _ _
      | exact ih15 _ _ _ _ _ _ _ _ _
      | exact ih16 _ _ _ _ _ _ _
      | exact ih17 _ _ _ _ _ _ _ _ _ _
      | exact ih18 _ _ _ _ _ _ _ _ _
      | exact ih19 _ _ _ _ _ _ _ _
      | exact ih20 _ _ _ _ _ _ _ _
      | exact LeO.none _
      | refine LeO.ite ?_ ?_
      | refine LeO.bind ?_ (fun _ => ?_)
    · intro y0 y1 y2 y3 y4 y5 y6
      unfold strconv_fmtEFG.l2
      repeat' first
      | (with_reducible exact ih0 _ _ _ _ _ _ _ _ _)
      | (with_reducible exact ih1 _ _ _ _ _ _ _)
      | (with_reducible exact ih2 _ _ _ _ _ _ _ _ _)
      | (with_reducible exact ih3 _ _ _ _ _ _)
      | (with_reducible exact ih4 _ _ _ _ _ _ _)
      | (with_reducible exact ih5 _ _ _ _)
      | (with_reducible exact ih6 _ _)
      | (with_reducible exact ih7 _ _ _)
      | (with_reducible exact ih8 _ _ _ _ _ _)
      | (with_reducible exact ih9 _ _ _ _ _ _)
      | (with_reducible exact ih10 _ _ _ _ _)
      | (with_reducible exact ih11 _ _ _ _ _)
      | (with_reducible exact ih12 _ _ _ _ _ _ _)
      | (with_reducible exact ih13 _ _ _ _ _ _)
      | (with_reducible exact ih14 _ _ _)
      | (with_reducible exact ih15 _ _ _ _ _ _ _ _ _)
      | (with_reducible exact ih16 _ _ _ _ _ _ _)
      | (with_reducible exact ih17 _ _ _ _ _ _ _ _ _ _)
      | (with_reducible exact ih18 _ _ _ _ _ _ _ _ _)
      | (with_reducible exact ih19 _ _ _ _ _ _ _ _)
      | (with_reducible exact ih20 _ _ _ _ _ _ _ _)
      | (with_reducible exact LeO.refl _)
      | (with_reducible exact LeO.none _)
      | (with_reducible refine LeO.ite ?_ ?_)
      | (with_reducible refine LeO.bind ?_ (fun _ => ?_))
      | exact ih0 _ _ _ _ _ _ _ _ _
      | exact ih1 _ _ _ _ _ _ _
      | exact ih2 _ _ _ _ _ _ _ _ _
      | exact ih3 _ _ _ _ _ _
      | exact ih4 _ _ _ _ _ _ _
      | exact ih5 _ _ _ _
      | exact ih6 _ _
      | exact ih7 _ _ _
      | exact ih8 _ _ _ _ _ _
      | exact ih9 _ _ _ _ _ _
      | exact ih10 _ _ _ _ _
      | exact ih11 _ _ _ _ _
      | exact ih12 _ _ _ _ _ _ _
      | exact ih13 _ _ _ _ _ _
      | exact ih14 _ _ _
      | exact ih15 _ _ _ _ _ _ _ _ _
      | exact ih16 _ _ _ _ _ _ _
      | exact ih17 _ _ _ _ _ _ _ _ _ _
      | exact ih18 _ _ _ _ _ _ _ _ _
      | exact ih19 _ _ _ _ _ _ _ _
      | exact ih20 _ _ _ _ _ _ _ _
      | exact LeO.none _
      | refine LeO.ite ?_ ?_
      | refine LeO.bind ?_ (fun _ => ?_)
    · intro y0 y1 y2 y3 y4 y5 y6 y7 y8 y9
      unfold strconv_fmtEFG.j1
      repeat' first
      | (with_reducible exact ih0 _ _ _ _ _ _ _ _ _)
      | (with_reducible exact ih1 _ _ _ _ _ _ _)
      | (with_reducible exact ih2 _ _ _ _ _ _ _ _ _)
      | (with_reducible exact ih3 _ _ _ _ _ _)
      | (with_reducible exact ih4 _ _ _ _ _ _ _)
      | (with_reducible exact ih5 _ _ _ _)
      | (with_reducible exact ih6 _ _)
      | (with_reducible exact ih7 _ _ _)
      | (with_reducible exact ih8 _ _ _ _ _ _)
      | (with_reducible exact ih9 _ _ _ _ _ _)
      | (with_reducible exact ih10 _ _ _ _ _)
      | (with_reducible exact ih11 _ _ _ _ _)
      | (with_reducible exact ih12 _ _ _ _ _ _ _)
      | (with_reducible exact ih13 _ _ _ _ _ _)
      | (with_reducible exact ih14 _ _ _)
      | (with_reducible exact ih15 _ _ _ _ _ _ _ _ _)
      | (with_reducible exact ih16 _ _ _ _ _ _ _)
      | (with_reducible exact ih17 _ _ _ _ _ _ _ _ _ _)
      | (with_reducible exact ih18 _ _ _ _ _ _ _ _ _)
      | (with_reducible exact ih19 _ _ _ _ _ _ _ _)
      | (with_reducible exact ih20 _ _ _ _ _ _ _ _)
      | (with_reducible exact LeO.refl _)
      | (with_reducible exact LeO.none _)
      | (with_reducible refine LeO.ite ?_ ?_)
      | (with_reducible refine LeO.bind ?_ (fun _ => ?_))
      | exact ih0 _ _ _ _ _ _ _ _ _
      | exact ih1 _ _ _ _ _ _ _
      | exact ih2 _ _ _ _ _ _ _ _ _
      | exact ih3 _ _ _ _ _ _
      | exact ih4 _ _ _ _ _ _ _
      | exact ih5 _ _ _ _
      | exact ih6 _ _
      | exact ih7 _ _ _
      | exact ih8 _ _ _ _ _ _
      | exact ih9 _ _ _ _ _ _
      | exact ih10 _ _ _ _ _
      | exact ih11 _ _ _ _ _
      | exact ih12 _ _ _ _ _ _ _
      | exact ih13 _ _ _ _ _ _
      | exact ih14 _ _ _
      | exact ih15 _ _ _ _ _ _ _ _ _
      | exact ih16 _ _ _ _ _ _ _
      | exact ih17 _ _ _ _ _ _ _ _ _ _
      | exact ih18 _ _ _ _ _ _ _ _ _
      | exact ih19 _ _ _ _ _ _ _ _
      | exact ih20 _ _ _ _ _ _ _ _
      | exact LeO.none _
      | refine LeO.ite ?_ ?_
      | refine LeO.bind ?_ (fun _ => ?_)
    · intro y0 y1 y2 y3 y4 y5 y6 y7 y8
      unfold strconv_fmtEFG.j2
      repeat' first
      | (with_reducible exact ih0 _ _ _ _ _ _ _ _ _)
      | (with_reducible exact ih1 _ _ _ _ _ _ _)
      | (with_reducible exact ih2 _ _ _ _ _ _ _ _ _)
      | (with_reducible exact ih3 _ _ _ _ _ _)
      | (with_reducible exact ih4 _ _ _ _ _ _ _)
      | (with_reducible exact ih5 _ _ _ _)
      | (with_reducible exact ih6 _ _)
      | (with_reducible exact ih7 _ _ _)
      | (with_reducible exact ih8 _ _ _ _ _ _)
      | (with_reducible exact ih9 _ _ _ _ _ _)
      | (with_reducible exact ih10 _ _ _ _ _)
      | (with_reducible exact ih11 _ _ _ _ _)
      | (with_reducible exact ih12 _ _ _ _ _ _ _)
      | (with_reducible exact ih13 _ _ _ _ _ _)
      | (with_reducible exact ih14 _ _ _)
      | (with_reducible exact ih15 _ _ _ _ _ _ _ _ _)
      | (with_reducible exact ih16 _ _ _ _ _ _ _)
      | (with_reducible exact ih17 _ _ _ _ _ _ _ _ _ _)
      | (with_reducible exact ih18 _ _ _ _ _ _ _ _ _)
      | (with_reducible exact ih19 _ _ _ _ _ _ _ _)
      | (with_reducible exact ih20 _ _ _ _ _ _ _ _)
      | (with_reducible exact LeO.refl _)
      | (with_reducible exact LeO.none _)
      | (with_reducible refine LeO.ite ?_ ?_)
      | (with_reducible refine LeO.bind ?_ (fun _ => ?_))
      | exact ih0 _ _ _ _ _ _ _ _ _
      | exact ih1 _ _ _ _ _ _ _
      | exact ih2 _ _ _ _ _ _ _ _ _
      | exact ih3 _ _ _ _ _ _
      | exact ih4 _ _ _ _ _ _ _
      | exact ih5 _ _ _ _
      | exact ih6 _ _
      | exact ih7 _ _ _
      | exact ih8 _ _ _ _ _ _
      | exact ih9 _ _ _ _ _ _
      | exact ih10 _ _ _ _ _
      | exact ih11 _ _ _ _ _
      | exact ih12 _ _ _ _ _ _ _
      | exact ih13 _ _ _ _ _ _
      | exact ih14 _ _ _
      | exact ih15 _ _ _ _ _ _ _ _ _
      | exact ih16 _ _ _ _ _ _ _
      | exact ih17 _ _ _ _ _ _ _ _ _ _
      | exact ih18 _ _ _ _ _ _ _ _ _
      | exact ih19 _ _ _ _ _ _ _ _
      | exact ih20 _ _ _ _ _ _ _ _
      | exact LeO.none _
      | refine LeO.ite ?_ ?_
      | refine LeO.bind ?_ (fun _ => ?_)
    · intro y0 y1 y2 y3 y4 y5 y6 y7
      unfold strconv_fmtEFG.j3
      repeat' first
      | (with_reducible exact ih0 _ _ _ _ _ _ _ _ _)
      | (with_reducible exact ih1 _ _ _ _ _ _ _)
      | (with_reducible exact ih2 _ _ _ _ _ _ _ _ _)
      | (with_reducible exact ih3 _ _ _ _ _ _)
      | (with_reducible exact ih4 _ _ _ _ _ _ _)
      | (with_reducible exact ih5 _ _ _ _)
      | (with_reducible exact ih6 _ _)
      | (with_reducible exact ih7 _ _ _)
      | (with_reducible exact ih8 _ _ _ _ _ _)
      | (with_reducible exact ih9 _ _ _ _ _ _)
      | (with_reducible exact ih10 _ _ _ _ _)
      | (with_reducible exact ih11 _ _ _ _ _)
      | (with_reducible exact ih12 _ _ _ _ _ _ _)
      | (with_reducible exact ih13 _ _ _ _ _ _)
      | (with_reducible exact ih14 _ _ _)
      | (with_reducible exact ih15 _ _ _ _ _ _ _ _ _)
      | (with_reducible exact ih16 _ _ _ _ _ _ _)
      | (with_reducible exact ih17 _ _ _ _ _ _ _ _ _ _)
      | (with_reducible exact ih18 _ _ _ _ _ _ _ _ _)
      | (with_reducible exact ih19 _ _ _ _ _ _ _ _)
      | (with_reducible exact ih20 _ _ _ _ _ _ _ _)
      | (with_reducible exact LeO.refl _)
      | (with_reducible exact LeO.none _)
      | (with_reducible refine LeO.ite ?_ ?_)
      | (with_reducible refine LeO.bind ?_ (fun _ => ?_))
      | exact ih0 _ _ _ _ _ _ _ _ _
      | exact ih1 _ _ _ _ _ _ _
      | exact ih2 _ _ _ _ _ _ _ _ _
      | exact ih3 _ _ _ _ _ _
      | exact ih4 _ _ _ _ _ _ _
      | exact ih5 _ _ _ _
      | exact ih6 _ _
      | exact ih7 _ _ _
      | exact ih8 _ _ _ _ _ _
      | exact ih9 _ _ _ _ _ _
      | exact ih10 _ _ _ _ _
      | exact ih11 _ _ _ _ _
      | exact ih12 _ _ _ _ _ _ _
      | exact ih13 _ _ _ _ _ _
      | exact ih14 _ _ _
      | exact ih15 _ _ _ _ _ _ _ _ _
      | exact ih16 _ _ _ _ _ _ _
      | exact ih17 _ _ _ _ _ _ _ _ _ _
      | exact ih18 _ _ _ _ _ _ _ _ _
      | exact ih19 _ _ _ _ _ _ _ _
      | exact ih20 _ _ _ _ _ _ _ _
      | exact LeO.none _
      | refine LeO.ite ?_ ?_
      | refine LeO.bind ?_ (fun _ => ?_)
    · intro y0 y1 y2 y3 y4 y5 y6 y7
      unfold strconv_fmtEFG.j4
      repeat' first
      | (with_reducible exact ih0 _ _ _ _ _ _ _ _ _)
      | (with_reducible exact ih1 _ _ _ _ _ _ _)
      | (with_reducible exact ih2 _ _ _ _ _ _ _ _ _)
      | (with_reducible exact ih3 _ _ _ _ _ _)
      | (with_reducible exact ih4 _ _ _ _ _ _ _)
      | (with_reducible exact ih5 _ _ _ _)
      | (with_reducible exact ih6 _ _)
      | (with_reducible exact ih7 _ _ _)
      | (with_reducible exact ih8 _ _ _ _ _ _)
      | (with_reducible exact ih9 _ _ _ _ _ _)
      | (with_reducible exact ih10 _ _ _ _ _)
      | (with_reducible exact ih11 _ _ _ _ _)
      | (with_reducible exact ih12 _ _ _ _ _ _ _)
      | (with_reducible exact ih13 _ _ _ _ _ _)
      | (with_reducible exact ih14 _ _ _)
      | (with_reducible exact ih15 _ _ _ _ _ _ _ _ _)
      | (with_reducible exact ih16 _ _ _ _ _ _ _)
      | (with_reducible exact ih17 _ _ _ _ _ _ _ _ _ _)
      | (with_reducible exact ih18 _ _ _ _ _ _ _ _ _)
      | (with_reducible exact ih19 _ _ _ _ _ _ _ _)
      | (with_reducible exact ih20 _ _ _ _ _ _ _ _)
      | (with_reducible exact LeO.refl _)
      | (with_reducible exact LeO.none _)
      | (with_reducible refine LeO.ite ?_ ?_)
      | (with_reducible refine LeO.bind ?_ (fun _ => ?_))
      | exact ih0 _ _ _ _ _ _ _ _ _
      | exact ih1 _ _ _ _ _ _ _
      | exact ih2 _ _ _ _ _ _ _ _ _
      | exact ih3 _ _ _ _ _ _
      | exact ih4 _ _ _ _ _ _ _
      | exact ih5 _ _ _ _
      | exact ih6 _ _
      | exact ih7 _ _ _
      | exact ih8 _ _ _ _ _ _
      | exact ih9 _ _ _ _ _ _
      | exact ih10 _ _ _ _ _
      | exact ih11 _ _ _ _ _
      | exact ih12 _ _ _ _ _ _ _
      | exact ih13 _ _ _ _ _ _
      | exact ih14 _ _ _
      | exact ih15 _ _ _ _ _ _ _ _ _
      | exact ih16 _ _ _ _ _ _ _
      | exact ih17 _ _ _ _ _ _ _ _ _ _
      | exact ih18 _ _ _ _ _ _ _ _ _
      | exact ih19 _ _ _ _ _ _ _ _
      | exact ih20 _ _ _ _ _ _ _ _
      | exact LeO.none _
      | refine LeO.ite ?_ ?_
      | refine LeO.bind ?_ (fun _ => ?_)
theorem strconv_fmtEFG.mono : ∀ a0 a1 a2 a3 a4 a5 a6 a7 k, LeO (strconv_fmtEFG.f k a0 a1 a2 a3 a4 a5 a6 a7) (strconv_fmtEFG.f (k + 1) a0 a1 a2 a3 a4 a5 a6 a7) := by
  intro a0 a1 a2 a3 a4 a5 a6 a7 k
  obtain ⟨ih0, ih1, ih2, ih3, ih4, ih5, ih6, ih7, ih8, ih9, ih10, ih11, ih12, ih13, ih14, ih15, ih16, ih17, ih18, ih19, ih20⟩ := strconv_fmtEFG.mono_l k
  unfold strconv_fmtEFG.f
  repeat' first
      | (with_reducible exact ih0 _ _ _ _ _ _ _ _ _)
      | (with_reducible exact ih1 _ _ _ _ _ _ _)
      | (with_reducible exact ih2 _ _ _ _ _ _ _ _ _)
      | (with_reducible exact ih3 _ _ _ _ _ _)
      | (with_reducible exact ih4 _ _ _ _ _ _ _)
      | (with_reducible exact ih5 _ _ _ _)
      | (with_reducible exact ih6 _ _)
      | (with_reducible exact ih7 _ _ _)
      | (with_reducible exact ih8 _ _ _ _ _ _)
      | (with_reducible exact ih9 _ _ _ _ _ _)
      | (with_reducible exact ih10 _ _ _ _ _)
      | (with_reducible exact ih11 _ _ _ _ _)
      | (with_reducible exact ih12 _ _ _ _ _ _ _)
      | (with_reducible exact ih13 _ _ _ _ _ _)
      | (with_reducible exact ih14 _ _ _)
      | (with_reducible exact ih15 _ _ _ _ _ _ _ _ _)
      | (with_reducible exact ih16 _ _ _ _ _ _ _)
      | (with_reducible exact ih17 _ _ _ _ _ _ _ _ _ _)
      | (with_reducible exact ih18 _ _ _ _ _ _ _ _ _)
      | (with_reducible exact ih19 _ _ _ _ _ _ _ _)
      | (with_reducible exact ih20 _ _ _ _ _ _ _ _)
      | (with_reducible exact LeO.refl _)
      | (with_reducible exact LeO.none _)
      | (with_reducible refine LeO.ite ?_ ?_)
      | (with_reducible refine LeO.bind ?_ (fun _ => ?_))
      | exact ih0 _ _ _ _ _ _ _ _ _
      | exact ih1 _ _ _ _ _ _ _
      | exact ih2 _ _ _ _ _ _ _ _ _
      | exact ih3 _ _ _ _ _ _
      | exact ih4 _ _ _ _ _ _ _
      | exact ih5 _ _ _ _
      | exact ih6 _ _
      | exact ih7 _ _ _
      | exact ih8 _ _ _ _ _ _
      | exact ih9 _ _ _ _ _ _
      | exact ih10 _ _ _ _ _
      | exact ih11 _ _ _ _ _
      | exact ih12 _ _ _ _ _ _ _
      | exact ih13 _ _ _ _ _ _
      | exact ih14 _ _ _
      | exact ih15 _ _ _ _ _ _ _ _ _
      | exact ih16 _ _ _ _ _ _ _
      | exact ih17 _ _ _ _ _ _ _ _ _ _
      | exact ih18 _ _ _ _ _ _ _ _ _
      | exact ih19 _ _ _ _ _ _ _ _
      | exact ih20 _ _ _ _ _ _ _ _
      | exact LeO.none _
      | refine LeO.ite ?_ ?_
      | refine LeO.bind ?_ (fun _ => ?_)
set_option maxHeartbeats 8000000 in
set_option maxRecDepth 100000 in
theorem strconv_fmtEFG.calls (k : Nat) (P0_ : Nat → Prop) (u9000_ : Value) (l0 : List Int) (a1 : Bool) (A2 : Option Addr) (c2 : Nat) (l2 : List Int) (a3 : Int) (a4 : Int) (a5 : Int) (a6 : Int) (a7 : Bool) (r : List Int) (w0 w : World) (hB : Below w0.heap.size w0 w) (ho0 : Kd.R (Kd.int .u8) 5 w w0.heap.size P0_ u9000_ l0) (hr2 : ∀ W_, Kept w W_ (fun k_ => P0_ k_) → Kd.C (Kd.int .u8) W_ A2 l2.length l2) (hc2 : l2.length ≤ c2) (h : strconv_fmtEFG.f k l0 a1 l2 a3 a4 a5 a6 a7 = some r) :
    Calls Tryz.prog 42 #[u9000_, .bool a1, .slice A2 l2.length c2, .int .i64 a3, .int .i64 a4, .int .i64 a5, .int .u8 a6, .bool a7] w fun e w' => ∃ v0_ : Value, e = .returned (v0_) ∧ Kd.R (Kd.int .u8) 5 w' w0.heap.size (fun k_ => (P0_ k_ ∨ w.heap.size ≤ k_)) v0_ r ∧ Below w0.heap.size w0 w' ∧ Kept w w' (fun k_ => P0_ k_) := by
 have HO0 := Aside0.mk (show Kd.R (Kd.int .u8) 5 w w0.heap.size (fun k_ => (P0_ k_ ∨ w.heap.size ≤ k_)) u9000_ l0 from Kd.R_mono ho0 (fun k_ hk => (.inl hk)))
 have HR2 := Aside0.mk hr2
 have HC2 := Aside0.mk hc2
 clear hr2 hc2
 have HK := Aside0.mk (Kept.refl w (fun k_ => P0_ k_))
 have HW0 := Aside0.mk hB.size
 have HB := Aside0.mk hB
 clear hB
 have H : (if a6 = 103 then (strconv_fmtEFG.j0 k l0 a1 l2 a3 a4 a5 a6 a7 true) else (strconv_fmtEFG.j0 k l0 a1 l2 a3 a4 a5 a6 a7 (a6 == 71))) = some r := h
 clear h
 have HC9 := Aside0.mk H
 clear H
 go_enter Tryz.func42, Tryz.ntmps42
 go_upto_region 1 with (fail)
 go_cut [36] (fun v36 wc => ∃ (kq : Nat) (x36_8 : Bool), v36 = .bool x36_8 ∧ Aside0 (strconv_fmtEFG.j0 kq l0 a1 l2 a3 a4 a5 a6 a7 x36_8 = some r) ∧ Aside0 (kq ≤ k) ∧ Aside0 (Kd.R (Kd.int .u8) 5 wc w0.heap.size (fun k_ => (P0_ k_ ∨ w.heap.size ≤ k_)) u9000_ l0) ∧ Aside0 (Kept w wc (fun k_ => P0_ k_)) ∧ Aside0 (Below w0.heap.size w0 wc))
 case first =>
  have H := HC9.out
  clear HC9
  by_cases c10 : a6 = 103
  ·
   rw [if_pos c10] at H
   have c10b0 : (a6 == 103) = true := beq_iff_eq.mpr c10
   have c10b1 : (a6 != 103) = false := bne_eq_false_iff_eq.mpr c10
   clear c10
   (first | rw [c10b0] | (simp only [i64_w, i32_w]; rw [c10b0]) | skip)
   have H' := Aside0.mk H
   clear H
   go_wp2
   go_meet
   case rel => exact ⟨_, (true), (by first | rfl | (simp; done) | (simp [*]; done)), H', ⟨by first | omega | exact Nat.le_refl _⟩, ⟨by (with_reducible repeat (first | apply Kd.R_alloc | apply Kd.R_drewN | apply Kd.R_drew)); exact HO0.out⟩, ⟨by repeat (first | (with_reducible first | exact HK.out | apply Kept.alloc | apply Kept.drewN | apply Kept.drew) | exact HK.out)⟩, ⟨by repeat (first | (with_reducible first | exact HB.out | apply below_alloc | apply pw_below_drewN | apply below_drew1) | exact HB.out)⟩⟩
  ·
   rw [if_neg c10] at H
   have c10b0 : (a6 == 103) = false := beq_eq_false_iff_ne.mpr c10
   have c10b1 : (a6 != 103) = true := bne_iff_ne.mpr c10
   (first | rw [c10b0] | (simp only [i64_w, i32_w]; rw [c10b0]) | skip)
   have H' := Aside0.mk H
   clear H
   go_wp2
   go_meet
   case rel => exact ⟨_, ((a6 == 71)), (by first | rfl | (simp; done) | (simp [*]; done)), H', ⟨by first | omega | exact Nat.le_refl _⟩, ⟨by (with_reducible repeat (first | apply Kd.R_alloc | apply Kd.R_drewN | apply Kd.R_drew)); exact HO0.out⟩, ⟨by repeat (first | (with_reducible first | exact HK.out | apply Kept.alloc | apply Kept.drewN | apply Kept.drew) | exact HK.out)⟩, ⟨by repeat (first | (with_reducible first | exact HB.out | apply below_alloc | apply pw_below_drewN | apply below_drew1) | exact HB.out)⟩⟩
 case rest => as_aux_lemma =>
  clear HC9
  try clear c1
  try clear c2
  try clear p2
  try clear c4
  try clear c10
  try clear c10b0
  try clear c10b1
  obtain ⟨kq, x36_8, rfl, HA, HJ8, HO_0, HK, HB⟩ := hcut
  cases kq with
  | zero => exact absurd HA.out (by simp [strconv_fmtEFG.j0])
  | succ kj8 =>
   have H := HA.out
   clear HA
   simp only [strconv_fmtEFG.j0] at H
   have HC11 := Aside0.mk H
   clear H
   go_upto_if 36 with (fail)
   go_cut [5, 6] (fun v5 v6 wc => ∃ (kq : Nat) (x5_10 : Int) (x6_10 : Int), v5 = .int .i64 x5_10 ∧ v6 = .int .u8 x6_10 ∧ Aside0 (strconv_fmtEFG.j5 kq l0 a1 l2 a3 a4 x5_10 x6_10 = some r) ∧ Aside0 (kq ≤ kj8) ∧ Aside0 (Kd.R (Kd.int .u8) 5 wc w0.heap.size (fun k_ => (P0_ k_ ∨ w.heap.size ≤ k_)) u9000_ l0) ∧ Aside0 (Kept w wc (fun k_ => P0_ k_)) ∧ Aside0 (Below w0.heap.size w0 wc))
   case first =>
    have H := HC11.out
    clear HC11
    by_cases c12 : x36_8 = true
    ·
     subst c12
     have H1 : (if a5 > a4 then (strconv_fmtEFG.j1 kj8 l0 a1 l2 a3 a4 a5 a6 a7 a5 (decide (a4 ≥ a3))) else (strconv_fmtEFG.j1 kj8 l0 a1 l2 a3 a4 a5 a6 a7 a5 false)) = some r := by rw [if_pos rfl] at H; exact H
     clear H
     have H := H1
     clear H1
     have HC13 := Aside0.mk H
     clear H
     go_upto_region 3 with (fail)
     go_cut [45] (fun v45 wc => ∃ (kq : Nat) (x45_12 : Bool), v45 = .bool x45_12 ∧ Aside0 (strconv_fmtEFG.j1 kq l0 a1 l2 a3 a4 a5 a6 a7 a5 x45_12 = some r) ∧ Aside0 (kq ≤ kj8) ∧ Aside0 (Kd.R (Kd.int .u8) 5 wc w0.heap.size (fun k_ => (P0_ k_ ∨ w.heap.size ≤ k_)) u9000_ l0) ∧ Aside0 (Kept w wc (fun k_ => P0_ k_)) ∧ Aside0 (Below w0.heap.size w0 wc))
     case first =>
      have H := HC13.out
      clear HC13
      by_cases c14 : a5 > a4
      ·
       rw [if_pos c14] at H
       have c14b0 : decide (a4 < a5) = true := decide_eq_true c14
       clear c14
       (first | rw [c14b0] | (simp only [i64_w, i32_w]; rw [c14b0]) | skip)
       have H' := Aside0.mk H
       clear H
       go_wp2
       go_meet
       case rel => exact ⟨_, (decide (a4 ≥ a3)), (by first | rfl | (simp; done) | (simp [*]; done)), H', ⟨by have := HJ8.out; first | omega | exact Nat.le_refl _⟩, ⟨by (with_reducible repeat (first | apply Kd.R_alloc | apply Kd.R_drewN | apply Kd.R_drew)); exact HO_0.out⟩, ⟨by repeat (first | (with_reducible first | exact HK.out | apply Kept.alloc | apply Kept.drewN | apply Kept.drew) | exact HK.out)⟩, ⟨by repeat (first | (with_reducible first | exact HB.out | apply below_alloc | apply pw_below_drewN | apply below_drew1) | exact HB.out)⟩⟩
      ·
       rw [if_neg c14] at H
       have c14b0 : decide (a4 < a5) = false := decide_eq_false c14
       clear c14
       (first | rw [c14b0] | (simp only [i64_w, i32_w]; rw [c14b0]) | skip)
       have H' := Aside0.mk H
       clear H
       go_wp2
       go_meet
       case rel => exact ⟨_, (false), (by first | rfl | (simp; done) | (simp [*]; done)), H', ⟨by have := HJ8.out; first | omega | exact Nat.le_refl _⟩, ⟨by (with_reducible repeat (first | apply Kd.R_alloc | apply Kd.R_drewN | apply Kd.R_drew)); exact HO_0.out⟩, ⟨by repeat (first | (with_reducible first | exact HK.out | apply Kept.alloc | apply Kept.drewN | apply Kept.drew) | exact HK.out)⟩, ⟨by repeat (first | (with_reducible first | exact HB.out | apply below_alloc | apply pw_below_drewN | apply below_drew1) | exact HB.out)⟩⟩
     case rest => as_aux_lemma =>
      clear HC13
      try clear c1
      try clear c2
      try clear p2
      try clear c4
      try clear c10
      try clear c10b0
      try clear c10b1
      try clear c12
      try clear c14
      try clear c14b0
      try clear p2
      obtain ⟨kq, x45_12, rfl, HA, HJ12, HO_0, HK, HB⟩ := hcut
      cases kq with
      | zero => exact absurd HA.out (by simp [strconv_fmtEFG.j1])
      | succ kj12 =>
       have H := HA.out
       clear HA
       simp only [strconv_fmtEFG.j1] at H
       have HC15 := Aside0.mk H
       clear H
       go_upto_if 45 with (fail)
       go_cut [17] (fun v17 wc => ∃ (kq : Nat) (x17_14 : Int), v17 = .int .i64 x17_14 ∧ Aside0 (strconv_fmtEFG.j2 kq l0 a1 l2 a3 a4 a5 a6 a7 x17_14 = some r) ∧ Aside0 (kq ≤ kj12) ∧ Aside0 (Kd.R (Kd.int .u8) 5 wc w0.heap.size (fun k_ => (P0_ k_ ∨ w.heap.size ≤ k_)) u9000_ l0) ∧ Aside0 (Kept w wc (fun k_ => P0_ k_)) ∧ Aside0 (Below w0.heap.size w0 wc))
       case first =>
        have H := HC15.out
        clear HC15
        by_cases c16 : x45_12 = true
        ·
         subst c16
         have H1 : (strconv_fmtEFG.j2 kj12 l0 a1 l2 a3 a4 a5 a6 a7 a4) = some r := by rw [if_pos rfl] at H; exact H
         clear H
         have H := H1
         clear H1
         have H' := Aside0.mk H
         clear H
         go_wp2
         go_meet
         case rel => exact ⟨_, (a4), (by first | rfl | (simp; done) | (simp [*]; done)), H', ⟨by have := HJ8.out; have := HJ12.out; first | omega | exact Nat.le_refl _⟩, ⟨by (with_reducible repeat (first | apply Kd.R_alloc | apply Kd.R_drewN | apply Kd.R_drew)); exact HO_0.out⟩, ⟨by repeat (first | (with_reducible first | exact HK.out | apply Kept.alloc | apply Kept.drewN | apply Kept.drew) | exact HK.out)⟩, ⟨by repeat (first | (with_reducible first | exact HB.out | apply below_alloc | apply pw_below_drewN | apply below_drew1) | exact HB.out)⟩⟩
        ·
         replace c16 := Bool.eq_false_iff.mpr c16
         subst c16
         have H1 : (strconv_fmtEFG.j2 kj12 l0 a1 l2 a3 a4 a5 a6 a7 a5) = some r := by rw [if_neg (show ¬ (false = true) by decide)] at H; exact H
         clear H
         have H := H1
         clear H1
         have H' := Aside0.mk H
         clear H
         go_wp2
         go_meet
         case rel => exact ⟨_, (a5), (by first | rfl | (simp; done) | (simp [*]; done)), H', ⟨by have := HJ8.out; have := HJ12.out; first | omega | exact Nat.le_refl _⟩, ⟨by (with_reducible repeat (first | apply Kd.R_alloc | apply Kd.R_drewN | apply Kd.R_drew)); exact HO_0.out⟩, ⟨by repeat (first | (with_reducible first | exact HK.out | apply Kept.alloc | apply Kept.drewN | apply Kept.drew) | exact HK.out)⟩, ⟨by repeat (first | (with_reducible first | exact HB.out | apply below_alloc | apply pw_below_drewN | apply below_drew1) | exact HB.out)⟩⟩
       case rest => as_aux_lemma =>
        clear HC15
        try clear c1
        try clear c2
        try clear p2
        try clear c4
        try clear c10
        try clear c10b0
        try clear c10b1
        try clear c12
        try clear c14
        try clear c14b0
        try clear c16
        try clear p2
        obtain ⟨kq, x17_14, rfl, HA, HJ14, HO_0, HK, HB⟩ := hcut
        cases kq with
        | zero => exact absurd HA.out (by simp [strconv_fmtEFG.j2])
        | succ kj14 =>
         have H := HA.out
         clear HA
         simp only [strconv_fmtEFG.j2] at H
         have HC17 := Aside0.mk H
         clear H
         go_upto_if 47 with (fail)
         go_cut [17] (fun v17 wc => ∃ (kq : Nat) (x17_16 : Int), v17 = .int .i64 x17_16 ∧ Aside0 (strconv_fmtEFG.j3 kq l0 a1 l2 a3 a4 a5 a6 x17_16 = some r) ∧ Aside0 (kq ≤ kj14) ∧ Aside0 (Kd.R (Kd.int .u8) 5 wc w0.heap.size (fun k_ => (P0_ k_ ∨ w.heap.size ≤ k_)) u9000_ l0) ∧ Aside0 (Kept w wc (fun k_ => P0_ k_)) ∧ Aside0 (Below w0.heap.size w0 wc))
         case first =>
          have H := HC17.out
          clear HC17
          by_cases c18 : a7 = true
          ·
           subst c18
           have H1 : (strconv_fmtEFG.j3 kj14 l0 a1 l2 a3 a4 a5 a6 6) = some r := by rw [if_pos rfl] at H; exact H
           clear H
           have H := H1
           clear H1
           have H' := Aside0.mk H
           clear H
           go_wp2
           go_meet
           case rel => exact ⟨_, (6), (by first | rfl | (simp; done) | (simp [*]; done)), H', ⟨by have := HJ8.out; have := HJ12.out; have := HJ14.out; first | omega | exact Nat.le_refl _⟩, ⟨by (with_reducible repeat (first | apply Kd.R_alloc | apply Kd.R_drewN | apply Kd.R_drew)); exact HO_0.out⟩, ⟨by repeat (first | (with_reducible first | exact HK.out | apply Kept.alloc | apply Kept.drewN | apply Kept.drew) | exact HK.out)⟩, ⟨by repeat (first | (with_reducible first | exact HB.out | apply below_alloc | apply pw_below_drewN | apply below_drew1) | exact HB.out)⟩⟩
          ·
           replace c18 := Bool.eq_false_iff.mpr c18
           subst c18
           have H1 : (strconv_fmtEFG.j3 kj14 l0 a1 l2 a3 a4 a5 a6 x17_14) = some r := by rw [if_neg (show ¬ (false = true) by decide)] at H; exact H
           clear H
           have H := H1
           clear H1
           have H' := Aside0.mk H
           clear H
           go_wp2
           go_meet
           case rel => exact ⟨_, (x17_14), (by first | rfl | (simp; done) | (simp [*]; done)), H', ⟨by have := HJ8.out; have := HJ12.out; have := HJ14.out; first | omega | exact Nat.le_refl _⟩, ⟨by (with_reducible repeat (first | apply Kd.R_alloc | apply Kd.R_drewN | apply Kd.R_drew)); exact HO_0.out⟩, ⟨by repeat (first | (with_reducible first | exact HK.out | apply Kept.alloc | apply Kept.drewN | apply Kept.drew) | exact HK.out)⟩, ⟨by repeat (first | (with_reducible first | exact HB.out | apply below_alloc | apply pw_below_drewN | apply below_drew1) | exact HB.out)⟩⟩
         case rest => as_aux_lemma =>
          clear HC17
          try clear c1
          try clear c2
          try clear p2
          try clear c4
          try clear c10
          try clear c10b0
          try clear c10b1
          try clear c12
          try clear c14
          try clear c14b0
          try clear c16
          try clear c18
          try clear p2
          obtain ⟨kq, x17_16, rfl, HA, HJ16, HO_0, HK, HB⟩ := hcut
          cases kq with
          | zero => exact absurd HA.out (by simp [strconv_fmtEFG.j3])
          | succ kj16 =>
           have H := HA.out
           clear HA
           simp only [strconv_fmtEFG.j3] at H
           have HC19 := Aside0.mk H
           clear H
           go_upto_region 8 with (fail)
           go_cut [56] (fun v56 wc => ∃ (kq : Nat) (x56_18 : Bool), v56 = .bool x56_18 ∧ Aside0 (strconv_fmtEFG.j4 kq l0 a1 l2 a3 a4 a5 a6 x56_18 = some r) ∧ Aside0 (kq ≤ kj16) ∧ Aside0 (Kd.R (Kd.int .u8) 5 wc w0.heap.size (fun k_ => (P0_ k_ ∨ w.heap.size ≤ k_)) u9000_ l0) ∧ Aside0 (Kept w wc (fun k_ => P0_ k_)) ∧ Aside0 (Below w0.heap.size w0 wc))
           case first =>
            have H := HC19.out
            clear HC19
            by_cases c20 : (wrap64 (a3 - 1)) < (-4)
            ·
             rw [if_pos c20] at H
             have c20b0 : decide ((wrap64 (a3 - 1)) < (-4)) = true := decide_eq_true c20
             clear c20
             (first | rw [c20b0] | (simp only [i64_w, i32_w]; rw [c20b0]) | skip)
             have H' := Aside0.mk H
             clear H
             go_wp2
             go_meet
             case rel => exact ⟨_, (true), (by first | rfl | (simp; done) | (simp [*]; done)), H', ⟨by have := HJ8.out; have := HJ12.out; have := HJ14.out; have := HJ16.out; first | omega | exact Nat.le_refl _⟩, ⟨by (with_reducible repeat (first | apply Kd.R_alloc | apply Kd.R_drewN | apply Kd.R_drew)); exact HO_0.out⟩, ⟨by repeat (first | (with_reducible first | exact HK.out | apply Kept.alloc | apply Kept.drewN | apply Kept.drew) | exact HK.out)⟩, ⟨by repeat (first | (with_reducible first | exact HB.out | apply below_alloc | apply pw_below_drewN | apply below_drew1) | exact HB.out)⟩⟩
            ·
             rw [if_neg c20] at H
             have c20b0 : decide ((wrap64 (a3 - 1)) < (-4)) = false := decide_eq_false c20
             clear c20
             (first | rw [c20b0] | (simp only [i64_w, i32_w]; rw [c20b0]) | skip)
             have H' := Aside0.mk H
             clear H
             go_wp2
             go_meet
             case rel => exact ⟨_, (decide ((wrap64 (a3 - 1)) ≥ x17_16)), (by first | rfl | (simp; done) | (simp [*]; done)), H', ⟨by have := HJ8.out; have := HJ12.out; have := HJ14.out; have := HJ16.out; first | omega | exact Nat.le_refl _⟩, ⟨by (with_reducible repeat (first | apply Kd.R_alloc | apply Kd.R_drewN | apply Kd.R_drew)); exact HO_0.out⟩, ⟨by repeat (first | (with_reducible first | exact HK.out | apply Kept.alloc | apply Kept.drewN | apply Kept.drew) | exact HK.out)⟩, ⟨by repeat (first | (with_reducible first | exact HB.out | apply below_alloc | apply pw_below_drewN | apply below_drew1) | exact HB.out)⟩⟩
           case rest => as_aux_lemma =>
            clear HC19
            try clear c1
            try clear c2
            try clear p2
            try clear c4
            try clear p6
            try clear c10
            try clear c10b0
            try clear c10b1
            try clear c12
            try clear c14
            try clear c14b0
            try clear c16
            try clear c18
            try clear c20
            try clear c20b0
            try clear p2
            obtain ⟨kq, x56_18, rfl, HA, HJ18, HO_0, HK, HB⟩ := hcut
            cases kq with
            | zero => exact absurd HA.out (by simp [strconv_fmtEFG.j4])
            | succ kj18 =>
             have H := HA.out
             clear HA
             simp only [strconv_fmtEFG.j4] at H
             by_cases c21 : x56_18 = true
             ·
              subst c21
              have H1 : (if a5 > a4 then (strconv_fmtEFG.j5 kj18 l0 a1 l2 a3 a4 (wrap64 (a4 - 1)) ((((a6 + 101) % 256) - 103) % 256)) else (strconv_fmtEFG.j5 kj18 l0 a1 l2 a3 a4 (wrap64 (a5 - 1)) ((((a6 + 101) % 256) - 103) % 256))) = some r := by rw [if_pos rfl] at H; exact H
              clear H
              have H := H1
              clear H1
              by_cases c22 : a5 > a4
              ·
               rw [if_pos c22] at H
               have c22b0 : decide (a4 < a5) = true := decide_eq_true c22
               clear c22
               have H' := Aside0.mk H
               clear H
               go_wp2
               go_meet
               case rel => exact ⟨_, (wrap64 (a4 - 1)), ((((a6 + 101) % 256) - 103) % 256), (by first | rfl | (simp; done) | (simp [*]; done)), (by first | rfl | (simp; done) | (simp [*]; done)), H', ⟨by have := HJ8.out; have := HJ12.out; have := HJ14.out; have := HJ16.out; have := HJ18.out; first | omega | exact Nat.le_refl _⟩, ⟨by (with_reducible repeat (first | apply Kd.R_alloc | apply Kd.R_drewN | apply Kd.R_drew)); exact HO_0.out⟩, ⟨by repeat (first | (with_reducible first | exact HK.out | apply Kept.alloc | apply Kept.drewN | apply Kept.drew) | exact HK.out)⟩, ⟨by repeat (first | (with_reducible first | exact HB.out | apply below_alloc | apply pw_below_drewN | apply below_drew1) | exact HB.out)⟩⟩
              ·
               rw [if_neg c22] at H
               have c22b0 : decide (a4 < a5) = false := decide_eq_false c22
               clear c22
               have H' := Aside0.mk H
               clear H
               go_wp2
               go_meet
               case rel => exact ⟨_, (wrap64 (a5 - 1)), ((((a6 + 101) % 256) - 103) % 256), (by first | rfl | (simp; done) | (simp [*]; done)), (by first | rfl | (simp; done) | (simp [*]; done)), H', ⟨by have := HJ8.out; have := HJ12.out; have := HJ14.out; have := HJ16.out; have := HJ18.out; first | omega | exact Nat.le_refl _⟩, ⟨by (with_reducible repeat (first | apply Kd.R_alloc | apply Kd.R_drewN | apply Kd.R_drew)); exact HO_0.out⟩, ⟨by repeat (first | (with_reducible first | exact HK.out | apply Kept.alloc | apply Kept.drewN | apply Kept.drew) | exact HK.out)⟩, ⟨by repeat (first | (with_reducible first | exact HB.out | apply below_alloc | apply pw_below_drewN | apply below_drew1) | exact HB.out)⟩⟩
             ·
              replace c21 := Bool.eq_false_iff.mpr c21
              subst c21
              have H1 : (if a5 > a3 then (strconv_fmtEFG.j5 kj18 l0 a1 l2 a3 a4 (mx (wrap64 (a4 - a3)) 0) 102) else (strconv_fmtEFG.j5 kj18 l0 a1 l2 a3 a4 (mx (wrap64 (a5 - a3)) 0) 102)) = some r := by rw [if_neg (show ¬ (false = true) by decide)] at H; exact H
              clear H
              have H := H1
              clear H1
              by_cases c23 : a5 > a3
              ·
               rw [if_pos c23] at H
               have c23b0 : decide (a3 < a5) = true := decide_eq_true c23
               clear c23
               obtain ⟨ji24, hji24⟩ : ∃ j_ : Int, (mx (wrap64 (a4 - a3)) 0) = j_ := ⟨_, rfl⟩
               replace H : (strconv_fmtEFG.j5 kj18 l0 a1 l2 a3 a4 ji24 102) = some r := by first | (rw [hji24] at H; exact H) | (simp only [hji24] at H ⊢; exact H)
               have hji24_ : (if (wrap64 (a4 - a3)) < 0 then 0 else (wrap64 (a4 - a3))) = ji24 := hji24
               have H' := Aside0.mk H
               clear H
               go_wp2
               go_meet
               case rel => exact ⟨_, (ji24), (102), (by first | rfl | (simp; done) | (simp only [← hji24] <;> (first | rfl | simp)) | (simp [*]; done)), (by first | rfl | (simp; done) | (simp [*]; done)), H', ⟨by have := HJ8.out; have := HJ12.out; have := HJ14.out; have := HJ16.out; have := HJ18.out; first | omega | exact Nat.le_refl _⟩, ⟨by (with_reducible repeat (first | apply Kd.R_alloc | apply Kd.R_drewN | apply Kd.R_drew)); exact HO_0.out⟩, ⟨by repeat (first | (with_reducible first | exact HK.out | apply Kept.alloc | apply Kept.drewN | apply Kept.drew) | exact HK.out)⟩, ⟨by repeat (first | (with_reducible first | exact HB.out | apply below_alloc | apply pw_below_drewN | apply below_drew1) | exact HB.out)⟩⟩
              ·
               rw [if_neg c23] at H
               have c23b0 : decide (a3 < a5) = false := decide_eq_false c23
               clear c23
               obtain ⟨ji25, hji25⟩ : ∃ j_ : Int, (mx (wrap64 (a5 - a3)) 0) = j_ := ⟨_, rfl⟩
               replace H : (strconv_fmtEFG.j5 kj18 l0 a1 l2 a3 a4 ji25 102) = some r := by first | (rw [hji25] at H; exact H) | (simp only [hji25] at H ⊢; exact H)
               have hji25_ : (if (wrap64 (a5 - a3)) < 0 then 0 else (wrap64 (a5 - a3))) = ji25 := hji25
               have H' := Aside0.mk H
               clear H
               go_wp2
               go_meet
               case rel => exact ⟨_, (ji25), (102), (by first | rfl | (simp; done) | (simp only [← hji25] <;> (first | rfl | simp)) | (simp [*]; done)), (by first | rfl | (simp; done) | (simp [*]; done)), H', ⟨by have := HJ8.out; have := HJ12.out; have := HJ14.out; have := HJ16.out; have := HJ18.out; first | omega | exact Nat.le_refl _⟩, ⟨by (with_reducible repeat (first | apply Kd.R_alloc | apply Kd.R_drewN | apply Kd.R_drew)); exact HO_0.out⟩, ⟨by repeat (first | (with_reducible first | exact HK.out | apply Kept.alloc | apply Kept.drewN | apply Kept.drew) | exact HK.out)⟩, ⟨by repeat (first | (with_reducible first | exact HB.out | apply below_alloc | apply pw_below_drewN | apply below_drew1) | exact HB.out)⟩⟩
    ·
     replace c12 := Bool.eq_false_iff.mpr c12
     subst c12
     have H1 : (strconv_fmtEFG.j5 kj8 l0 a1 l2 a3 a4 a5 a6) = some r := by rw [if_neg (show ¬ (false = true) by decide)] at H; exact H
     clear H
     have H := H1
     clear H1
     have H' := Aside0.mk H
     clear H
     go_wp2
     go_meet
     case rel => exact ⟨_, (a5), (a6), (by first | rfl | (simp; done) | (simp [*]; done)), (by first | rfl | (simp; done) | (simp [*]; done)), H', ⟨by have := HJ8.out; first | omega | exact Nat.le_refl _⟩, ⟨by (with_reducible repeat (first | apply Kd.R_alloc | apply Kd.R_drewN | apply Kd.R_drew)); exact HO_0.out⟩, ⟨by repeat (first | (with_reducible first | exact HK.out | apply Kept.alloc | apply Kept.drewN | apply Kept.drew) | exact HK.out)⟩, ⟨by repeat (first | (with_reducible first | exact HB.out | apply below_alloc | apply pw_below_drewN | apply below_drew1) | exact HB.out)⟩⟩
   case rest => as_aux_lemma =>
    clear HC11
    try clear c1
    try clear c2
    try clear p2
    try clear c4
    try clear p6
    try clear c10
    try clear c10b0
    try clear c10b1
    try clear c12
    try clear c14
    try clear c14b0
    try clear c16
    try clear c18
    try clear c20
    try clear c20b0
    try clear c21
    try clear c22
    try clear c22b0
    try clear c23
    try clear c23b0
    try clear p2
    try clear p6
    obtain ⟨kq, x5_10, x6_10, rfl, rfl, HA, HJ10, HO_0, HK, HB⟩ := hcut
    cases kq with
    | zero => exact absurd HA.out (by simp [strconv_fmtEFG.j5])
    | succ kj10 =>
     have H := HA.out
     clear HA
     simp only [strconv_fmtEFG.j5] at H
     have HC26 := Aside0.mk H
     clear H
     go_upto_if 75 with (fail)
     go_cut [75] (fun v75 wc => ∃ (kq : Nat) (x75_25 : Bool), v75 = .bool x75_25 ∧ Aside0 (strconv_fmtEFG.j6 kq l0 a1 l2 a3 a4 x5_10 x6_10 x6_10 x75_25 = some r) ∧ Aside0 (kq ≤ kj10) ∧ Aside0 (Kd.R (Kd.int .u8) 5 wc w0.heap.size (fun k_ => (P0_ k_ ∨ w.heap.size ≤ k_)) u9000_ l0) ∧ Aside0 (Kept w wc (fun k_ => P0_ k_)) ∧ Aside0 (Below w0.heap.size w0 wc))
     case first =>
      have H := HC26.out
      clear HC26
      by_cases c27 : x6_10 = 101
      ·
       rw [if_pos c27] at H
       have c27b0 : (x6_10 == 101) = true := beq_iff_eq.mpr c27
       have c27b1 : (x6_10 != 101) = false := bne_eq_false_iff_eq.mpr c27
       clear c27
       (first | rw [c27b0] | (simp only [i64_w, i32_w]; rw [c27b0]) | skip)
       have H' := Aside0.mk H
       clear H
       go_wp2
       go_meet
       case rel => exact ⟨_, ((x6_10 == 101)), (by first | rfl | (simp; done) | (simp [*]; done)), H', ⟨by have := HJ8.out; have := HJ10.out; first | omega | exact Nat.le_refl _⟩, ⟨by (with_reducible repeat (first | apply Kd.R_alloc | apply Kd.R_drewN | apply Kd.R_drew)); exact HO_0.out⟩, ⟨by repeat (first | (with_reducible first | exact HK.out | apply Kept.alloc | apply Kept.drewN | apply Kept.drew) | exact HK.out)⟩, ⟨by repeat (first | (with_reducible first | exact HB.out | apply below_alloc | apply pw_below_drewN | apply below_drew1) | exact HB.out)⟩⟩
      ·
       rw [if_neg c27] at H
       have c27b0 : (x6_10 == 101) = false := beq_eq_false_iff_ne.mpr c27
       have c27b1 : (x6_10 != 101) = true := bne_iff_ne.mpr c27
       (first | rw [c27b0] | (simp only [i64_w, i32_w]; rw [c27b0]) | skip)
       have H' := Aside0.mk H
       clear H
       go_wp2
       go_meet
       case rel => exact ⟨_, ((x6_10 == 69)), (by first | rfl | (simp; done) | (simp [*]; done)), H', ⟨by have := HJ8.out; have := HJ10.out; first | omega | exact Nat.le_refl _⟩, ⟨by (with_reducible repeat (first | apply Kd.R_alloc | apply Kd.R_drewN | apply Kd.R_drew)); exact HO_0.out⟩, ⟨by repeat (first | (with_reducible first | exact HK.out | apply Kept.alloc | apply Kept.drewN | apply Kept.drew) | exact HK.out)⟩, ⟨by repeat (first | (with_reducible first | exact HB.out | apply below_alloc | apply pw_below_drewN | apply below_drew1) | exact HB.out)⟩⟩
     case rest => as_aux_lemma =>
      clear HC26
      try clear c1
      try clear c2
      try clear p2
      try clear c4
      try clear p6
      try clear c10
      try clear c10b0
      try clear c10b1
      try clear c12
      try clear c14
      try clear c14b0
      try clear c16
      try clear c18
      try clear c20
      try clear c20b0
      try clear c21
      try clear c22
      try clear c22b0
      try clear c23
      try clear c23b0
      try clear c27
      try clear c27b0
      try clear c27b1
      try clear p2
      try clear p6
      obtain ⟨kq, x75_25, rfl, HA, HJ25, HO_0, HK, HB⟩ := hcut
      cases kq with
      | zero => exact absurd HA.out (by simp [strconv_fmtEFG.j6])
      | succ kj25 =>
       have H := HA.out
       clear HA
       simp only [strconv_fmtEFG.j6] at H
       by_cases c28 : x75_25 = true
       ·
        subst c28
        have H1 : (if a1 = true then (if l0.length < 140737488355328 then (strconv_fmtEFG.j7 kj25 (l0 ++ [45]) l2 a3 a4 x5_10 x6_10) else (none)) else (strconv_fmtEFG.j7 kj25 l0 l2 a3 a4 x5_10 x6_10)) = some r := by rw [if_pos rfl] at H; exact H
        clear H
        have H := H1
        clear H1
        have HC29 := Aside0.mk H
        clear H
        go_upto_if 78 with (fail)
        go_cut [0] (fun v0 wc => ∃ (kq : Nat) (x0_28 : List Int), Aside0 (strconv_fmtEFG.j7 kq x0_28 l2 a3 a4 x5_10 x6_10 = some r) ∧ Aside0 (kq ≤ kj25) ∧ Aside0 (Kd.R (Kd.int .u8) 5 wc w0.heap.size (fun k_ => (P0_ k_ ∨ w.heap.size ≤ k_)) v0 x0_28) ∧ Aside0 (Kept w wc (fun k_ => P0_ k_)) ∧ Aside0 (Below w0.heap.size w0 wc))
        case first =>
         have H := HC29.out
         clear HC29
         by_cases c30 : a1 = true
         ·
          subst c30
          have H1 : (if l0.length < 140737488355328 then (strconv_fmtEFG.j7 kj25 (l0 ++ [45]) l2 a3 a4 x5_10 x6_10) else (none)) = some r := by rw [if_pos rfl] at H; exact H
          clear H
          have H := H1
          clear H1
          by_cases c31 : l0.length < 140737488355328
          ·
           rw [if_pos c31] at H
           have LMc31 := Aside0.mk c31
           clear c31
           obtain ⟨y175, hy175⟩ : ∃ y_ : List Int, y_ = (l0 ++ [45]) := ⟨_, rfl⟩
           replace H : (strconv_fmtEFG.j7 kj25 y175 l2 a3 a4 x5_10 x6_10) = some r := by first | (rw [hy175]; with_reducible exact H) | (have H2_ := (Option.bind_some _ _).symm.trans H; rw [hy175]; with_reducible exact H2_) | (have H2_ := (Option.bind_some _ _).symm.trans H; with_reducible exact H2_) | with_reducible exact H | (rw [hy175]; exact H) | exact H
           have Ny175 := Aside0.mk hy175
           clear hy175
           have H' := Aside0.mk H
           clear H
           go_wp2_with (first | ((with_reducible refine gate_builtin (b := .append) (xs := #[.tmp 79, .tmp 80]) rfl ?_); at_builtin; refine Kd.R_append (Kd.int .u8) (w0 := w0) w0.heap.size rfl (.tmp 79) (.tmp 80) 27 5 (.int .u8 0) 1 rfl Tryz.underlying27 info5 rfl (by decide) (by omega) u9000_ l0 45 [.int .u8 45] (fun k_ => (P0_ k_ ∨ w.heap.size ≤ k_)) (fun _ => False) rfl rfl ?aP (fun _ hk => hk.elim) ?aF ?aO ?aB ?aS ?aL ?_; (case aP => exact rfl); (case aB => exact (by repeat (first | (with_reducible first | exact HB.out | apply below_alloc | apply pw_below_drewN | apply below_drew1) | exact HB.out))); (case aF => exact (fun k_ hk => (.inr (Nat.le_trans (by first | exact HK.out.1 | exact (show Kept w _ (fun k_ => P0_ k_) from by repeat (first | (with_reducible first | exact HK.out | apply Kept.alloc | apply Kept.drewN | apply Kept.drew) | exact HK.out)).1) hk)))); (case aO => exact (by (with_reducible repeat (first | apply Kd.R_alloc | apply Kd.R_drewN | apply Kd.R_drew)); exact HO_0.out)); (case aS => exact (below_size (by repeat (first | (with_reducible first | exact HB.out | apply below_alloc | apply pw_below_drewN | apply below_drew1) | exact HB.out)))); (case aL => have := LMc31.out; omega); intro v176 w32 ho hb hg hat; rw [← Ny175.out] at ho; have n0_ := Aside0.mk (hb); have n1_ := Aside0.mk (Kept.of_grown (S := (fun k_ => P0_ k_)) hg (by repeat (first | (with_reducible first | exact HK.out | apply Kept.alloc | apply Kept.drewN | apply Kept.drew) | exact HK.out)) (fun k_ e_ => (HO_0.out.1 k_ e_))); have n2_ := Aside0.mk (ho); clear HB; clear HK; clear HO_0; have HB := n0_; have HK := n1_; have HO177 := n2_; clear n0_ n1_ n2_; clear ho hb hg hat))
           go_meet
           case rel => exact ⟨_, (y175), H', ⟨by have := HJ8.out; have := HJ10.out; have := HJ25.out; first | omega | exact Nat.le_refl _⟩, ⟨by (with_reducible repeat (first | apply Kd.R_alloc | apply Kd.R_drewN | apply Kd.R_drew)); exact HO177.out⟩, ⟨by repeat (first | (with_reducible first | exact HK.out | apply Kept.alloc | apply Kept.drewN | apply Kept.drew) | exact HK.out)⟩, ⟨by repeat (first | (with_reducible first | exact HB.out | apply below_alloc | apply pw_below_drewN | apply below_drew1) | exact HB.out)⟩⟩
          ·
           rw [if_neg c31] at H
           exact absurd H (by simp)
         ·
          replace c30 := Bool.eq_false_iff.mpr c30
          subst c30
          have H1 : (strconv_fmtEFG.j7 kj25 l0 l2 a3 a4 x5_10 x6_10) = some r := by rw [if_neg (show ¬ (false = true) by decide)] at H; exact H
          clear H
          have H := H1
          clear H1
          have H' := Aside0.mk H
          clear H
          go_wp2
          go_meet
          case rel => exact ⟨_, (l0), H', ⟨by have := HJ8.out; have := HJ10.out; have := HJ25.out; first | omega | exact Nat.le_refl _⟩, ⟨by (with_reducible repeat (first | apply Kd.R_alloc | apply Kd.R_drewN | apply Kd.R_drew)); exact HO_0.out⟩, ⟨by repeat (first | (with_reducible first | exact HK.out | apply Kept.alloc | apply Kept.drewN | apply Kept.drew) | exact HK.out)⟩, ⟨by repeat (first | (with_reducible first | exact HB.out | apply below_alloc | apply pw_below_drewN | apply below_drew1) | exact HB.out)⟩⟩
        case rest => as_aux_lemma =>
         clear HC29
         try clear c1
         try clear c2
         try clear p2
         try clear c3
         try clear c4
         try clear p6
         try clear c10
         try clear c10b0
         try clear c10b1
         try clear c12
         try clear c14
         try clear c14b0
         try clear c16
         try clear c18
         try clear c20
         try clear c20b0
         try clear c21
         try clear c22
         try clear c22b0
         try clear c23
         try clear c23b0
         try clear c27
         try clear c27b0
         try clear c27b1
         try clear c28
         try clear c30
         try clear c31
         try clear p2
         try clear p6
         obtain ⟨kq, x0_28, HA, HJ28, HO_0, HK, HB⟩ := hcut
         cases kq with
         | zero => exact absurd HA.out (by simp [strconv_fmtEFG.j7])
         | succ kj28 =>
          have H := HA.out
          clear HA
          simp only [strconv_fmtEFG.j7] at H
          have HC33 := Aside0.mk H
          clear H
          go_upto_if 83 with (fail)
          go_cut [19] (fun v19 wc => ∃ (kq : Nat) (x19_32 : Int), v19 = .int .u8 x19_32 ∧ Aside0 (strconv_fmtEFG.j8 kq x0_28 l2 a3 a4 x5_10 x6_10 x19_32 = some r) ∧ Aside0 (kq ≤ kj28) ∧ Aside0 (Kd.R (Kd.int .u8) 5 wc w0.heap.size (fun k_ => (P0_ k_ ∨ w.heap.size ≤ k_)) u0 x0_28) ∧ Aside0 (Kept w wc (fun k_ => P0_ k_)) ∧ Aside0 (Below w0.heap.size w0 wc))
          case first =>
           have H := HC33.out
           clear HC33
           by_cases c34 : a4 = 0
           ·
            rw [if_pos c34] at H
            have c34b0 : (a4 == 0) = true := beq_iff_eq.mpr c34
            have c34b1 : (a4 != 0) = false := bne_eq_false_iff_eq.mpr c34
            clear c34
            (first | rw [c34b0] | (simp only [i64_w, i32_w]; rw [c34b0]) | skip)
            have H' := Aside0.mk H
            clear H
            go_wp2
            go_meet
            case rel => exact ⟨_, (48), (by first | rfl | (simp; done) | (simp [*]; done)), H', ⟨by have := HJ8.out; have := HJ10.out; have := HJ25.out; have := HJ28.out; first | omega | exact Nat.le_refl _⟩, ⟨by (with_reducible repeat (first | apply Kd.R_alloc | apply Kd.R_drewN | apply Kd.R_drew)); exact HO_0.out⟩, ⟨by repeat (first | (with_reducible first | exact HK.out | apply Kept.alloc | apply Kept.drewN | apply Kept.drew) | exact HK.out)⟩, ⟨by repeat (first | (with_reducible first | exact HB.out | apply below_alloc | apply pw_below_drewN | apply below_drew1) | exact HB.out)⟩⟩
           ·
            rw [if_neg c34] at H
            have c34b0 : (a4 == 0) = false := beq_eq_false_iff_ne.mpr c34
            have c34b1 : (a4 != 0) = true := bne_iff_ne.mpr c34
            (first | rw [c34b0] | (simp only [i64_w, i32_w]; rw [c34b0]) | skip)
            by_cases c35 : 0 < (l2.length : Int)
            ·
             rw [if_pos c35] at H
             have c35b0 : decide (0 < (l2.length : Int)) = true := decide_eq_true c35
             have c35b1 : decide (0 < l2.length) = true := decide_eq_true (by omega)
             clear c35
             have H' := Aside0.mk H
             clear H
             have p178 : 0 ≤ (0 : Int) := (by omega)
             have q178 : 0 < (l2.length : Int) := of_decide_eq_true (by first | (with_reducible assumption) | assumption)
             obtain ⟨ad178, e178, hx178_0⟩ := Kd.at_int (Kd.C_kept_now HR2.out HK.out) 0 p178 q178
             cases e178
             have qi178 : (0 < l2.length) = True := eq_true (by omega)
             (try rw [show ((0 : Int)).toNat = 0 from rfl] at hx178_0)
             (try rw [Addr.add_zero'] at hx178_0)
             replace p178 := eq_true p178
             replace q178 := eq_true q178
             go_wp2
             go_meet
             case rel => exact ⟨_, (rd l2 0), (by first | rfl | (simp; done) | (simp [*]; done)), H', ⟨by have := HJ8.out; have := HJ10.out; have := HJ25.out; have := HJ28.out; first | omega | exact Nat.le_refl _⟩, ⟨by (with_reducible repeat (first | apply Kd.R_alloc | apply Kd.R_drewN | apply Kd.R_drew)); exact HO_0.out⟩, ⟨by repeat (first | (with_reducible first | exact HK.out | apply Kept.alloc | apply Kept.drewN | apply Kept.drew) | exact HK.out)⟩, ⟨by repeat (first | (with_reducible first | exact HB.out | apply below_alloc | apply pw_below_drewN | apply below_drew1) | exact HB.out)⟩⟩
            ·
             rw [if_neg c35] at H
             exact absurd H (by simp)
          case rest => as_aux_lemma =>
           clear HC33
           try clear c1
           try clear p1
           try clear q1
           try clear hx1
           try clear qi1
           try clear c2
           try clear p2
           try clear c3
           try clear c4
           try clear p6
           try clear c10
           try clear c10b0
           try clear c10b1
           try clear c12
           try clear c14
           try clear c14b0
           try clear c16
           try clear p17
           try clear q17
           try clear hx17
           try clear qi17
           try clear c18
           try clear c20
           try clear c20b0
           try clear c21
           try clear c22
           try clear c22b0
           try clear c23
           try clear c23b0
           try clear c27
           try clear c27b0
           try clear c27b1
           try clear c28
           try clear c30
           try clear c31
           try clear c34
           try clear c34b0
           try clear c34b1
           try clear c35
           try clear c35b0
           try clear c35b1
           try clear hx178_0
           try clear p178
           try clear p2
           try clear p6
           try clear q178
           obtain ⟨kq, x19_32, rfl, HA, HJ32, HO_0, HK, HB⟩ := hcut
           cases kq with
           | zero => exact absurd HA.out (by simp [strconv_fmtEFG.j8])
           | succ kj32 =>
            have H := HA.out
            clear HA
            simp only [strconv_fmtEFG.j8] at H
            by_cases c36 : x0_28.length < 140737488355328
            ·
             rw [if_pos c36] at H
             have LMc36 := Aside0.mk c36
             clear c36
             obtain ⟨y179, hy179⟩ : ∃ y_ : List Int, y_ = (x0_28 ++ [x19_32]) := ⟨_, rfl⟩
             replace H : (if x5_10 > 0 then (if y179.length < 140737488355328 then ((some (y179 ++ [46] : List Int)).bind fun y182 => (if 1 < (mn a4 (wrap64 (x5_10 + 1))) then (if 1 ≤ (mn a4 (wrap64 (x5_10 + 1))) then (if (mn a4 (wrap64 (x5_10 + 1))) ≤ (l2.length : Int) then ((some ((l2.take ((mn a4 (wrap64 (x5_10 + 1))) : Int).toNat).drop 1 : List Int)).bind fun y185 => (if y182.length + y185.length < 140737488355328 then (strconv_fmtEFG.j9 kj32 (y182 ++ y185) a3 a4 x5_10 x6_10 (mn a4 (wrap64 (x5_10 + 1)))) else (none))) else (none)) else (none)) else (strconv_fmtEFG.j9 kj32 y182 a3 a4 x5_10 x6_10 1))) else (none)) else (strconv_fmtEFG.j11 kj32 y179 a3 a4 x6_10)) = some r := by first | (rw [hy179]; with_reducible exact H) | (have H2_ := (Option.bind_some _ _).symm.trans H; rw [hy179]; with_reducible exact H2_) | (have H2_ := (Option.bind_some _ _).symm.trans H; with_reducible exact H2_) | with_reducible exact H | (rw [hy179]; exact H) | exact H
             have Ny179 := Aside0.mk hy179
             clear hy179
             have HC37 := Aside0.mk H
             clear H
             go_upto_if 92 with (first | ((with_reducible refine gate_builtin (b := .append) (xs := #[.tmp 87, .tmp 89]) rfl ?_); at_builtin; refine Kd.R_append (Kd.int .u8) (w0 := w0) w0.heap.size rfl (.tmp 87) (.tmp 89) 27 5 (.int .u8 0) 1 rfl Tryz.underlying27 info5 rfl (by decide) (by omega) u0 x0_28 x19_32 [.int .u8 x19_32] (fun k_ => (P0_ k_ ∨ w.heap.size ≤ k_)) (fun _ => False) rfl rfl ?aP (fun _ hk => hk.elim) ?aF ?aO ?aB ?aS ?aL ?_; (case aP => exact rfl); (case aB => exact (by repeat (first | (with_reducible first | exact HB.out | apply below_alloc | apply pw_below_drewN | apply below_drew1) | exact HB.out))); (case aF => exact (fun k_ hk => (.inr (Nat.le_trans (by first | exact HK.out.1 | exact (show Kept w _ (fun k_ => P0_ k_) from by repeat (first | (with_reducible first | exact HK.out | apply Kept.alloc | apply Kept.drewN | apply Kept.drew) | exact HK.out)).1) hk)))); (case aO => exact (by (with_reducible repeat (first | apply Kd.R_alloc | apply Kd.R_drewN | apply Kd.R_drew)); exact HO_0.out)); (case aS => exact (below_size (by repeat (first | (with_reducible first | exact HB.out | apply below_alloc | apply pw_below_drewN | apply below_drew1) | exact HB.out)))); (case aL => have := LMc36.out; omega); intro v180 w38 ho hb hg hat; rw [← Ny179.out] at ho; have n0_ := Aside0.mk (hb); have n1_ := Aside0.mk (Kept.of_grown (S := (fun k_ => P0_ k_)) hg (by repeat (first | (with_reducible first | exact HK.out | apply Kept.alloc | apply Kept.drewN | apply Kept.drew) | exact HK.out)) (fun k_ e_ => (HO_0.out.1 k_ e_))); have n2_ := Aside0.mk (ho); clear HB; clear HK; clear HO_0; have HB := n0_; have HK := n1_; have HO181 := n2_; clear n0_ n1_ n2_; clear ho hb hg hat))
             (try simp only [Act.put, List.setIfInBounds_toArray, List.set_cons_zero, List.set_cons_succ])
             go_cut [0] (fun v0 wc => ∃ (kq : Nat) (x0_36 : List Int), Aside0 (strconv_fmtEFG.j11 kq x0_36 a3 a4 x6_10 = some r) ∧ Aside0 (kq ≤ kj32) ∧ Aside0 (Kd.R (Kd.int .u8) 5 wc w0.heap.size (fun k_ => (P0_ k_ ∨ w.heap.size ≤ k_)) v0 x0_36) ∧ Aside0 (Kept w wc (fun k_ => P0_ k_)) ∧ Aside0 (Below w0.heap.size w0 wc))
             case first =>
              have H := HC37.out
              clear HC37
              by_cases c39 : x5_10 > 0
              ·
               rw [if_pos c39] at H
               have c39b0 : decide (0 < x5_10) = true := decide_eq_true c39
               clear c39
               (first | rw [c39b0] | (simp only [i64_w, i32_w]; rw [c39b0]) | skip)
               by_cases c40 : y179.length < 140737488355328
               ·
                rw [if_pos c40] at H
                have LMc40 := Aside0.mk c40
                clear c40
                obtain ⟨y182, hy182⟩ : ∃ y_ : List Int, y_ = (y179 ++ [46]) := ⟨_, rfl⟩
                replace H : (if 1 < (mn a4 (wrap64 (x5_10 + 1))) then (if 1 ≤ (mn a4 (wrap64 (x5_10 + 1))) then (if (mn a4 (wrap64 (x5_10 + 1))) ≤ (l2.length : Int) then ((some ((l2.take ((mn a4 (wrap64 (x5_10 + 1))) : Int).toNat).drop 1 : List Int)).bind fun y185 => (if y182.length + y185.length < 140737488355328 then (strconv_fmtEFG.j9 kj32 (y182 ++ y185) a3 a4 x5_10 x6_10 (mn a4 (wrap64 (x5_10 + 1)))) else (none))) else (none)) else (none)) else (strconv_fmtEFG.j9 kj32 y182 a3 a4 x5_10 x6_10 1)) = some r := by first | (rw [hy182]; with_reducible exact H) | (have H2_ := (Option.bind_some _ _).symm.trans H; rw [hy182]; with_reducible exact H2_) | (have H2_ := (Option.bind_some _ _).symm.trans H; with_reducible exact H2_) | with_reducible exact H | (rw [hy182]; exact H) | exact H
                have Ny182 := Aside0.mk hy182
                clear hy182
                obtain ⟨ji41, hji41⟩ : ∃ j_ : Int, (mn a4 (wrap64 (x5_10 + 1))) = j_ := ⟨_, rfl⟩
                replace H : (if 1 < (ji41) then (if 1 ≤ (ji41) then (if (ji41) ≤ (l2.length : Int) then ((some ((l2.take ((ji41) : Int).toNat).drop 1 : List Int)).bind fun y185 => (if y182.length + y185.length < 140737488355328 then (strconv_fmtEFG.j9 kj32 (y182 ++ y185) a3 a4 x5_10 x6_10 ji41) else (none))) else (none)) else (none)) else (strconv_fmtEFG.j9 kj32 y182 a3 a4 x5_10 x6_10 1)) = some r := by first | (rw [hji41] at H; exact H) | (simp only [hji41] at H ⊢; exact H)
                have hji41_ : (if (wrap64 (x5_10 + 1)) < a4 then (wrap64 (x5_10 + 1)) else a4) = ji41 := hji41
                have HC42 := Aside0.mk H
                clear H
                go_upto_if 102 with (first | ((with_reducible refine gate_builtin (b := .append) (xs := #[.tmp 93, .tmp 94]) rfl ?_); at_builtin; refine Kd.R_append (Kd.int .u8) (w0 := w0) w0.heap.size rfl (.tmp 93) (.tmp 94) 27 5 (.int .u8 0) 1 rfl Tryz.underlying27 info5 rfl (by decide) (by omega) v180 y179 46 [.int .u8 46] (fun k_ => (P0_ k_ ∨ w.heap.size ≤ k_)) (fun _ => False) rfl rfl ?aP (fun _ hk => hk.elim) ?aF ?aO ?aB ?aS ?aL ?_; (case aP => exact rfl); (case aB => exact (by repeat (first | (with_reducible first | exact HB.out | apply below_alloc | apply pw_below_drewN | apply below_drew1) | exact HB.out))); (case aF => exact (fun k_ hk => (.inr (Nat.le_trans (by first | exact HK.out.1 | exact (show Kept w _ (fun k_ => P0_ k_) from by repeat (first | (with_reducible first | exact HK.out | apply Kept.alloc | apply Kept.drewN | apply Kept.drew) | exact HK.out)).1) hk)))); (case aO => exact (by (with_reducible repeat (first | apply Kd.R_alloc | apply Kd.R_drewN | apply Kd.R_drew)); exact HO181.out)); (case aS => exact (below_size (by repeat (first | (with_reducible first | exact HB.out | apply below_alloc | apply pw_below_drewN | apply below_drew1) | exact HB.out)))); (case aL => have := LMc40.out; omega); intro v183 w43 ho hb hg hat; rw [← Ny182.out] at ho; have n0_ := Aside0.mk (hb); have n1_ := Aside0.mk (Kept.of_grown (S := (fun k_ => P0_ k_)) hg (by repeat (first | (with_reducible first | exact HK.out | apply Kept.alloc | apply Kept.drewN | apply Kept.drew) | exact HK.out)) (fun k_ e_ => (HO181.out.1 k_ e_))); have n2_ := Aside0.mk (ho); clear HB; clear HK; clear HO181; have HB := n0_; have HK := n1_; have HO184 := n2_; clear n0_ n1_ n2_; clear ho hb hg hat))
                (try simp only [Act.put, List.setIfInBounds_toArray, List.set_cons_zero, List.set_cons_succ])
                go_cut [0, 20] (fun v0 v20 wc => ∃ (kq : Nat) (x0_41 : List Int) (x20_41 : Int), v20 = .int .i64 x20_41 ∧ Aside0 (strconv_fmtEFG.j9 kq x0_41 a3 a4 x5_10 x6_10 x20_41 = some r) ∧ Aside0 (kq ≤ kj32) ∧ Aside0 (Kd.R (Kd.int .u8) 5 wc w0.heap.size (fun k_ => (P0_ k_ ∨ w.heap.size ≤ k_)) v0 x0_41) ∧ Aside0 (Kept w wc (fun k_ => P0_ k_)) ∧ Aside0 (Below w0.heap.size w0 wc))
                case first =>
                 have H := HC42.out
                 clear HC42
                 by_cases c44 : 1 < (ji41)
                 ·
                  rw [if_pos c44] at H
                  have c44b0 : decide (1 < (ji41)) = true := decide_eq_true c44
                  clear c44
                  (first | rw [c44b0] | (simp only [i64_w, i32_w]; rw [c44b0]) | skip)
                  by_cases c45 : 1 ≤ (ji41)
                  ·
                   rw [if_pos c45] at H
                   have c45b0 := eq_true c45
                   have c45b1 : decide (1 ≤ (ji41)) = true := decide_eq_true c45
                   clear c45
                   by_cases c46 : (ji41) ≤ (l2.length : Int)
                   ·
                    rw [if_pos c46] at H
                    have c46b0 := eq_true c46
                    have c46b1 : decide ((ji41) ≤ (l2.length : Int)) = true := decide_eq_true c46
                    clear c46
                    obtain ⟨y185, hy185⟩ : ∃ y_ : List Int, y_ = ((l2.take ((ji41) : Int).toNat).drop 1) := ⟨_, rfl⟩
                    replace H : (if y182.length + y185.length < 140737488355328 then (strconv_fmtEFG.j9 kj32 (y182 ++ y185) a3 a4 x5_10 x6_10 ji41) else (none)) = some r := by first | (rw [hy185]; with_reducible exact H) | (have H2_ := (Option.bind_some _ _).symm.trans H; rw [hy185]; with_reducible exact H2_) | (have H2_ := (Option.bind_some _ _).symm.trans H; with_reducible exact H2_) | with_reducible exact H | (rw [hy185]; exact H) | exact H
                    have Ny185 := Aside0.mk hy185
                    clear hy185
                    by_cases c47 : y182.length + y185.length < 140737488355328
                    ·
                     rw [if_pos c47] at H
                     have LMc47 := Aside0.mk c47
                     clear c47
                     obtain ⟨y189, hy189⟩ : ∃ y_ : List Int, y_ = (y182 ++ y185) := ⟨_, rfl⟩
                     replace H : (strconv_fmtEFG.j9 kj32 y189 a3 a4 x5_10 x6_10 ji41) = some r := by first | (rw [hy189]; with_reducible exact H) | (have H2_ := (Option.bind_some _ _).symm.trans H; rw [hy189]; with_reducible exact H2_) | (have H2_ := (Option.bind_some _ _).symm.trans H; with_reducible exact H2_) | with_reducible exact H | (rw [hy189]; exact H) | exact H
                     have Ny189 := Aside0.mk hy189
                     clear hy189
                     have H' := Aside0.mk H
                     clear H
                     have q48 : ((ji41) : Int) ≤ ((l2.length : Int) : Int) := of_decide_eq_true (by first | (with_reducible assumption) | assumption)
                     obtain ⟨i048, hi048, _, hsz48, _⟩ := info_parts info5
                     have hroom48 : l2.length ≤ c2 := HC2.out
                     have hC48 : Kd.C (Kd.int .u8) _ A2 l2.length l2 := (Kd.C_kept_now HR2.out HK.out)
                     have ql48 : (1 : Int) ≤ ((ji41) : Int) := of_decide_eq_true (by first | (with_reducible assumption) | assumption)
                     have hcut48 := cut_mid (P := Tryz.prog) 27 5 .i64 .i64 Tryz.underlying27 hi048 1 hsz48 A2 l2.length c2 1 (ji41) (by omega) ql48 q48 hroom48
                     have hr48 := Kd.C_mid (lo := (1 : Int).toNat) (hi := ((ji41) : Int).toNat) (c := c2) hC48 (by omega) (by omega) hroom48
                     obtain ⟨A48, hA48⟩ : ∃ Aq_, Aq_ = (if c2 = (1 : Int).toNat then A2 else (A2 : Option Addr).map (·.add ((1 : Int).toNat * 1))) := ⟨_, rfl⟩
                     obtain ⟨c48, hc48⟩ : ∃ cq_, cq_ = c2 - (1 : Int).toNat := ⟨_, rfl⟩
                     have hy48 : y185.length = ((ji41) : Int).toNat - (1 : Int).toNat := (by rw [Ny185.out, List.length_drop, List.length_take] <;> omega)
                     rw [show ((l2).take ((ji41) : Int).toNat).drop (1 : Int).toNat = y185 from Ny185.out.symm] at hr48
                     replace hr48 : Kd.C (Kd.int .u8) _ A48 y185.length y185 := (by rw [hA48]; exact hr48)
                     rw [← hy48, ← hA48, ← hc48] at hcut48
                     have HR188 := Aside0.mk hr48
                     have HC188 := Aside0.mk (show y185.length ≤ c48 from by rw [hy48, hc48]; exact Nat.sub_le_sub_right (Nat.le_trans (by omega) hroom48) _)
                     clear hr48 hC48 hroom48 hi048 hsz48 hc48
                     have KY48 := Aside0.mk hy48
                     have KA48 := Aside0.mk hA48
                     clear hy48 hA48
                     have KL48 := Aside0.mk (show ((ji41) : Int).toNat ≤ l2.length from by omega)
                     have KM48 := Aside0.mk (show 1 ≤ ((ji41) : Int).toNat from by omega)
                     replace q48 := eq_true q48
                     go_wp2_with (first | ((with_reducible refine gate_builtin (b := .append) (xs := #[.tmp 103, .tmp 107]) rfl ?_); at_builtin; refine Kd.R_append_rows (Kd.int .u8) (w0 := w0) w0.heap.size rfl (.tmp 103) (.tmp 107) 27 5 (.int .u8 0) 1 rfl Tryz.underlying27 info5 rfl (by decide) (by omega) v183 y182 y185 _ _ _ (fun k_ => (P0_ k_ ∨ w.heap.size ≤ k_)) (fun _ => False) rfl rfl ?aO ?aR (fun _ _ h => h) (fun _ h => h.elim) ?aF ?aB ?aS ?aL ?_; (case aR => repeat (first | exact (by repeat (first | (with_reducible exact HR188.out) | (with_reducible refine Kd.C_alloc ?_ _) | (with_reducible refine Kd.C_drewN ?_ _) | (with_reducible refine Kd.C_drew ?_) | exact HR188.out)) | (with_reducible refine Kd.C_alloc ?_ _) | (with_reducible refine Kd.C_drewN ?_ _) | (with_reducible refine Kd.C_drew ?_))); (case aB => exact (by repeat (first | (with_reducible first | exact HB.out | apply below_alloc | apply pw_below_drewN | apply below_drew1) | exact HB.out))); (case aF => exact (fun k_ hk => (.inr (Nat.le_trans (by first | exact HK.out.1 | exact (show Kept w _ (fun k_ => P0_ k_) from by repeat (first | (with_reducible first | exact HK.out | apply Kept.alloc | apply Kept.drewN | apply Kept.drew) | exact HK.out)).1) hk)))); (case aO => exact (by (with_reducible repeat (first | apply Kd.R_alloc | apply Kd.R_drewN | apply Kd.R_drew)); exact HO184.out)); (case aS => exact (below_size (by repeat (first | (with_reducible first | exact HB.out | apply below_alloc | apply pw_below_drewN | apply below_drew1) | exact HB.out)))); (case aL => have := LMc47.out; omega); intro v190 w49 ho hb hg hat; rw [← Ny189.out] at ho; have n0_ := Aside0.mk (hb); have n1_ := Aside0.mk (Kept.of_grown (S := (fun k_ => P0_ k_)) hg (by repeat (first | (with_reducible first | exact HK.out | apply Kept.alloc | apply Kept.drewN | apply Kept.drew) | exact HK.out)) (fun k_ e_ => (HO184.out.1 k_ e_))); have n2_ := Aside0.mk ((show Kd.C (Kd.int .u8) w49 A48 y185.length y185 from by rw [Ny185.out, KA48.out]; exact Kd.C_mid (lo := 1) (hi := ((ji41) : Int).toNat) (c := c2) (Kd.C_kept_now HR2.out (show Kept w w49 (fun k_ => P0_ k_) from (Kept.of_grown (S := (fun k_ => P0_ k_)) hg (by repeat (first | (with_reducible first | exact HK.out | apply Kept.alloc | apply Kept.drewN | apply Kept.drew) | exact HK.out)) (fun k_ e_ => (HO184.out.1 k_ e_))))) KM48.out KL48.out HC2.out)); have n3_ := Aside0.mk (ho); clear HB; clear HK; clear HR188; clear HO184; have HB := n0_; have HK := n1_; have HR188 := n2_; have HO191 := n3_; clear n0_ n1_ n2_ n3_; clear ho hb hg hat))
                     go_meet
                     case rel => exact ⟨_, (y189), (ji41), (by first | rfl | (simp; done) | (simp only [← hji41] <;> (first | rfl | simp)) | (simp [*]; done)), H', ⟨by have := HJ8.out; have := HJ10.out; have := HJ25.out; have := HJ28.out; have := HJ32.out; first | omega | exact Nat.le_refl _⟩, ⟨by (with_reducible repeat (first | apply Kd.R_alloc | apply Kd.R_drewN | apply Kd.R_drew)); exact HO191.out⟩, ⟨by repeat (first | (with_reducible first | exact HK.out | apply Kept.alloc | apply Kept.drewN | apply Kept.drew) | exact HK.out)⟩, ⟨by repeat (first | (with_reducible first | exact HB.out | apply below_alloc | apply pw_below_drewN | apply below_drew1) | exact HB.out)⟩⟩
                    ·
                     rw [if_neg c47] at H
                     exact absurd H (by simp)
                   ·
                    rw [if_neg c46] at H
                    exact absurd H (by simp)
                  ·
                   rw [if_neg c45] at H
                   exact absurd H (by simp)
                 ·
                  rw [if_neg c44] at H
                  have c44b0 : decide (1 < (ji41)) = false := decide_eq_false c44
                  clear c44
                  (first | rw [c44b0] | (simp only [i64_w, i32_w]; rw [c44b0]) | skip)
                  have H' := Aside0.mk H
                  clear H
                  go_wp2
                  go_meet
                  case rel => exact ⟨_, (y182), (1), (by first | rfl | (simp; done) | (simp [*]; done)), H', ⟨by have := HJ8.out; have := HJ10.out; have := HJ25.out; have := HJ28.out; have := HJ32.out; first | omega | exact Nat.le_refl _⟩, ⟨by (with_reducible repeat (first | apply Kd.R_alloc | apply Kd.R_drewN | apply Kd.R_drew)); exact HO184.out⟩, ⟨by repeat (first | (with_reducible first | exact HK.out | apply Kept.alloc | apply Kept.drewN | apply Kept.drew) | exact HK.out)⟩, ⟨by repeat (first | (with_reducible first | exact HB.out | apply below_alloc | apply pw_below_drewN | apply below_drew1) | exact HB.out)⟩⟩
                case rest => as_aux_lemma =>
                 clear HC42
                 try clear c1
                 try clear p1
                 try clear q1
                 try clear hx1
                 try clear qi1
                 try clear c2
                 try clear p2
                 try clear c3
                 try clear c4
                 try clear q4
                 try clear p6
                 try clear c10
                 try clear c10b0
                 try clear c10b1
                 try clear c12
                 try clear c14
                 try clear c14b0
                 try clear c16
                 try clear p17
                 try clear q17
                 try clear hx17
                 try clear qi17
                 try clear c18
                 try clear c20
                 try clear c20b0
                 try clear c21
                 try clear c22
                 try clear c22b0
                 try clear c23
                 try clear c23b0
                 try clear c27
                 try clear c27b0
                 try clear c27b1
                 try clear c28
                 try clear c30
                 try clear c31
                 try clear c34
                 try clear c34b0
                 try clear c34b1
                 try clear c35
                 try clear c35b0
                 try clear c35b1
                 try clear c36
                 try clear c39
                 try clear c39b0
                 try clear c40
                 try clear c44
                 try clear c44b0
                 try clear c45
                 try clear c45b0
                 try clear c45b1
                 try clear c46
                 try clear c46b0
                 try clear c46b1
                 try clear c47
                 try clear c48
                 try clear q48
                 try clear hx178_0
                 try clear p1
                 try clear p17
                 try clear p178
                 try clear p2
                 try clear p6
                 try clear q1
                 try clear q17
                 try clear q178
                 try clear q48
                 obtain ⟨kq, x0_41, x20_41, rfl, HA, HJ41, HO_0, HK, HB⟩ := hcut
                 cases kq with
                 | zero => exact absurd HA.out (by simp [strconv_fmtEFG.j9])
                 | succ kj41 =>
                  have H := HA.out
                  clear HA
                  simp only [strconv_fmtEFG.j9] at H
                  have H' := Aside0.mk H
                  clear H
                  go_wp2
                  (try simp only [Act.put, List.setIfInBounds_toArray, List.set_cons_zero, List.set_cons_succ])
                  go_loopg [0, 114] kj41 (fun kq v0 v114 w' => ∃ (x0_7 : List Int) (x114_7 : Int), v114 = .int .i64 x114_7 ∧ Aside0 (strconv_fmtEFG.l0 kq x0_7 a3 a4 x6_10 (wrap64 ((wrap64 (x5_10 + 1)) - x20_41)) x114_7 = some r) ∧ Aside0 (kq ≤ kj41) ∧ Aside0 (Kd.R (Kd.int .u8) 5 w' w0.heap.size (fun k_ => (P0_ k_ ∨ w.heap.size ≤ k_)) v0 x0_7) ∧ Aside0 (Kept w w' (fun k_ => P0_ k_)) ∧ Aside0 (Below w0.heap.size w0 w'))
                  case atStart => exact ⟨(x0_41), (0), (by first | rfl | (simp; done) | (simp [*]; done)), H', ⟨Nat.le_refl _⟩, ⟨by (with_reducible repeat (first | apply Kd.R_alloc | apply Kd.R_drewN | apply Kd.R_drew)); exact HO_0.out⟩, ⟨by repeat (first | (with_reducible first | exact HK.out | apply Kept.alloc | apply Kept.drewN | apply Kept.drew) | exact HK.out)⟩, ⟨by repeat (first | (with_reducible first | exact HB.out | apply below_alloc | apply pw_below_drewN | apply below_drew1) | exact HB.out)⟩⟩
                  case round =>
                   clear H'
                   try clear c1
                   try clear p1
                   try clear q1
                   try clear hx1
                   try clear qi1
                   try clear c2
                   try clear p2
                   try clear c3
                   try clear c4
                   try clear q4
                   try clear p6
                   try clear c10
                   try clear c10b0
                   try clear c10b1
                   try clear c12
                   try clear c14
                   try clear c14b0
                   try clear c16
                   try clear p17
                   try clear q17
                   try clear hx17
                   try clear qi17
                   try clear c18
                   try clear c20
                   try clear c20b0
                   try clear c21
                   try clear c22
                   try clear c22b0
                   try clear c23
                   try clear c23b0
                   try clear c27
                   try clear c27b0
                   try clear c27b1
                   try clear c28
                   try clear c30
                   try clear c31
                   try clear c34
                   try clear c34b0
                   try clear c34b1
                   try clear c35
                   try clear c35b0
                   try clear c35b1
                   try clear c36
                   try clear c39
                   try clear c39b0
                   try clear c40
                   try clear c44
                   try clear c44b0
                   try clear c45
                   try clear c45b0
                   try clear c45b1
                   try clear c46
                   try clear c46b0
                   try clear c46b1
                   try clear c47
                   try clear c48
                   try clear q48
                   try clear hx178_0
                   try clear p1
                   try clear p17
                   try clear p178
                   try clear p2
                   try clear p6
                   try clear q1
                   try clear q17
                   try clear q178
                   try clear q4
                   try clear q48
                   obtain ⟨x0_7, x114_7, rfl, HA, HK7, HO_0, HK, HB⟩ := hrel
                   cases gk with
                   | zero => exact absurd HA.out (by simp [strconv_fmtEFG.l0])
                   | succ k7 =>
                    have H := HA.out
                    clear HA
                    simp only [strconv_fmtEFG.l0] at H
                    by_cases c50 : x114_7 < (wrap64 ((wrap64 (x5_10 + 1)) - x20_41))
                    ·
                     rw [if_pos c50] at H
                     have c50b0 : decide (x114_7 < (wrap64 ((wrap64 (x5_10 + 1)) - x20_41))) = true := decide_eq_true c50
                     clear c50
                     by_cases c51 : x0_7.length < 140737488355328
                     ·
                      rw [if_pos c51] at H
                      have LMc51 := Aside0.mk c51
                      clear c51
                      obtain ⟨y192, hy192⟩ : ∃ y_ : List Int, y_ = (x0_7 ++ [48]) := ⟨_, rfl⟩
                      replace H : (strconv_fmtEFG.l0 k7 y192 a3 a4 x6_10 (wrap64 ((wrap64 (x5_10 + 1)) - x20_41)) (wrap64 (x114_7 + 1))) = some r := by first | (rw [hy192]; with_reducible exact H) | (have H2_ := (Option.bind_some _ _).symm.trans H; rw [hy192]; with_reducible exact H2_) | (have H2_ := (Option.bind_some _ _).symm.trans H; with_reducible exact H2_) | with_reducible exact H | (rw [hy192]; exact H) | exact H
                      have Ny192 := Aside0.mk hy192
                      clear hy192
                      have H' := Aside0.mk H
                      clear H
                      go_wp2_with (first | ((with_reducible refine gate_builtin (b := .append) (xs := #[.tmp 116, .tmp 117]) rfl ?_); at_builtin; refine Kd.R_append (Kd.int .u8) (w0 := w0) w0.heap.size rfl (.tmp 116) (.tmp 117) 27 5 (.int .u8 0) 1 rfl Tryz.underlying27 info5 rfl (by decide) (by omega) u0 x0_7 48 [.int .u8 48] (fun k_ => (P0_ k_ ∨ w.heap.size ≤ k_)) (fun _ => False) rfl rfl ?aP (fun _ hk => hk.elim) ?aF ?aO ?aB ?aS ?aL ?_; (case aP => exact rfl); (case aB => exact (by repeat (first | (with_reducible first | exact HB.out | apply below_alloc | apply pw_below_drewN | apply below_drew1) | exact HB.out))); (case aF => exact (fun k_ hk => (.inr (Nat.le_trans (by first | exact HK.out.1 | exact (show Kept w _ (fun k_ => P0_ k_) from by repeat (first | (with_reducible first | exact HK.out | apply Kept.alloc | apply Kept.drewN | apply Kept.drew) | exact HK.out)).1) hk)))); (case aO => exact (by (with_reducible repeat (first | apply Kd.R_alloc | apply Kd.R_drewN | apply Kd.R_drew)); exact HO_0.out)); (case aS => exact (below_size (by repeat (first | (with_reducible first | exact HB.out | apply below_alloc | apply pw_below_drewN | apply below_drew1) | exact HB.out)))); (case aL => have := LMc51.out; omega); intro v193 w52 ho hb hg hat; rw [← Ny192.out] at ho; have n0_ := Aside0.mk (hb); have n1_ := Aside0.mk (Kept.of_grown (S := (fun k_ => P0_ k_)) hg (by repeat (first | (with_reducible first | exact HK.out | apply Kept.alloc | apply Kept.drewN | apply Kept.drew) | exact HK.out)) (fun k_ e_ => (HO_0.out.1 k_ e_))); have n2_ := Aside0.mk (ho); clear HB; clear HK; clear HO_0; have HB := n0_; have HK := n1_; have HO194 := n2_; clear n0_ n1_ n2_; clear ho hb hg hat))
                      go_roundg k7
                      case measure => have := HJ8.out; have := HJ10.out; have := HJ25.out; have := HJ28.out; have := HJ32.out; have := HJ41.out; have := HK7.out; omega
                      case rel => exact ⟨(y192), (wrap64 (x114_7 + 1)), (by first | rfl | (simp; done) | (simp [*]; done)), H', ⟨by have := HJ8.out; have := HJ10.out; have := HJ25.out; have := HJ28.out; have := HJ32.out; have := HJ41.out; have := HK7.out; omega⟩, ⟨by (with_reducible repeat (first | apply Kd.R_alloc | apply Kd.R_drewN | apply Kd.R_drew)); exact HO194.out⟩, ⟨by repeat (first | (with_reducible first | exact HK.out | apply Kept.alloc | apply Kept.drewN | apply Kept.drew) | exact HK.out)⟩, ⟨by repeat (first | (with_reducible first | exact HB.out | apply below_alloc | apply pw_below_drewN | apply below_drew1) | exact HB.out)⟩⟩
                     ·
                      rw [if_neg c51] at H
                      exact absurd H (by simp)
                    ·
                     rw [if_neg c50] at H
                     have c50b0 : decide (x114_7 < (wrap64 ((wrap64 (x5_10 + 1)) - x20_41))) = false := decide_eq_false c50
                     clear c50
                     have H' := Aside0.mk H
                     clear H
                     go_wp2
                     go_meet
                     case rel => exact ⟨_, (x0_7), H', ⟨by have := HJ8.out; have := HJ10.out; have := HJ25.out; have := HJ28.out; have := HJ32.out; have := HJ41.out; have := HK7.out; first | omega | exact Nat.le_refl _⟩, ⟨by (with_reducible repeat (first | apply Kd.R_alloc | apply Kd.R_drewN | apply Kd.R_drew)); exact HO_0.out⟩, ⟨by repeat (first | (with_reducible first | exact HK.out | apply Kept.alloc | apply Kept.drewN | apply Kept.drew) | exact HK.out)⟩, ⟨by repeat (first | (with_reducible first | exact HB.out | apply below_alloc | apply pw_below_drewN | apply below_drew1) | exact HB.out)⟩⟩
               ·
                rw [if_neg c40] at H
                exact absurd H (by simp)
              ·
               rw [if_neg c39] at H
               have c39b0 : decide (0 < x5_10) = false := decide_eq_false c39
               clear c39
               (first | rw [c39b0] | (simp only [i64_w, i32_w]; rw [c39b0]) | skip)
               have H' := Aside0.mk H
               clear H
               go_wp2
               go_meet
               case rel => exact ⟨_, (y179), H', ⟨by have := HJ8.out; have := HJ10.out; have := HJ25.out; have := HJ28.out; have := HJ32.out; first | omega | exact Nat.le_refl _⟩, ⟨by (with_reducible repeat (first | apply Kd.R_alloc | apply Kd.R_drewN | apply Kd.R_drew)); exact HO181.out⟩, ⟨by repeat (first | (with_reducible first | exact HK.out | apply Kept.alloc | apply Kept.drewN | apply Kept.drew) | exact HK.out)⟩, ⟨by repeat (first | (with_reducible first | exact HB.out | apply below_alloc | apply pw_below_drewN | apply below_drew1) | exact HB.out)⟩⟩
             case rest => as_aux_lemma =>
              clear HC37
              try clear c1
              try clear p1
              try clear q1
              try clear hx1
              try clear qi1
              try clear c2
              try clear p2
              try clear c3
              try clear c4
              try clear q4
              try clear c5
              try clear p6
              try clear c10
              try clear c10b0
              try clear c10b1
              try clear c12
              try clear c14
              try clear c14b0
              try clear c16
              try clear p17
              try clear q17
              try clear hx17
              try clear qi17
              try clear c18
              try clear c20
              try clear c20b0
              try clear c21
              try clear c22
              try clear c22b0
              try clear c23
              try clear c23b0
              try clear c27
              try clear c27b0
              try clear c27b1
              try clear c28
              try clear c30
              try clear c31
              try clear c34
              try clear c34b0
              try clear c34b1
              try clear c35
              try clear c35b0
              try clear c35b1
              try clear c36
              try clear c39
              try clear c39b0
              try clear c40
              try clear c44
              try clear c44b0
              try clear c45
              try clear c45b0
              try clear c45b1
              try clear c46
              try clear c46b0
              try clear c46b1
              try clear c47
              try clear c48
              try clear q48
              try clear c50
              try clear c50b0
              try clear c51
              try clear hx178_0
              try clear p1
              try clear p17
              try clear p178
              try clear p2
              try clear p6
              try clear q1
              try clear q17
              try clear q178
              try clear q4
              try clear q48
              obtain ⟨kq, x0_36, HA, HJ36, HO_0, HK, HB⟩ := hcut
              cases kq with
              | zero => exact absurd HA.out (by simp [strconv_fmtEFG.j11])
              | succ kj36 =>
               have H := HA.out
               clear HA
               simp only [strconv_fmtEFG.j11] at H
               by_cases c53 : x0_36.length < 140737488355328
               ·
                rw [if_pos c53] at H
                have LMc53 := Aside0.mk c53
                clear c53
                obtain ⟨y195, hy195⟩ : ∃ y_ : List Int, y_ = (x0_36 ++ [x6_10]) := ⟨_, rfl⟩
                replace H : (if a4 = 0 then (strconv_fmtEFG.j12 kj36 y195 0) else (strconv_fmtEFG.j12 kj36 y195 (wrap64 (a3 - 1)))) = some r := by first | (rw [hy195]; with_reducible exact H) | (have H2_ := (Option.bind_some _ _).symm.trans H; rw [hy195]; with_reducible exact H2_) | (have H2_ := (Option.bind_some _ _).symm.trans H; with_reducible exact H2_) | with_reducible exact H | (rw [hy195]; exact H) | exact H
                have Ny195 := Aside0.mk hy195
                clear hy195
                have HC54 := Aside0.mk H
                clear H
                go_upto_if 127 with (first | ((with_reducible refine gate_builtin (b := .append) (xs := #[.tmp 120, .tmp 122]) rfl ?_); at_builtin; refine Kd.R_append (Kd.int .u8) (w0 := w0) w0.heap.size rfl (.tmp 120) (.tmp 122) 27 5 (.int .u8 0) 1 rfl Tryz.underlying27 info5 rfl (by decide) (by omega) u0 x0_36 x6_10 [.int .u8 x6_10] (fun k_ => (P0_ k_ ∨ w.heap.size ≤ k_)) (fun _ => False) rfl rfl ?aP (fun _ hk => hk.elim) ?aF ?aO ?aB ?aS ?aL ?_; (case aP => exact rfl); (case aB => exact (by repeat (first | (with_reducible first | exact HB.out | apply below_alloc | apply pw_below_drewN | apply below_drew1) | exact HB.out))); (case aF => exact (fun k_ hk => (.inr (Nat.le_trans (by first | exact HK.out.1 | exact (show Kept w _ (fun k_ => P0_ k_) from by repeat (first | (with_reducible first | exact HK.out | apply Kept.alloc | apply Kept.drewN | apply Kept.drew) | exact HK.out)).1) hk)))); (case aO => exact (by (with_reducible repeat (first | apply Kd.R_alloc | apply Kd.R_drewN | apply Kd.R_drew)); exact HO_0.out)); (case aS => exact (below_size (by repeat (first | (with_reducible first | exact HB.out | apply below_alloc | apply pw_below_drewN | apply below_drew1) | exact HB.out)))); (case aL => have := LMc53.out; omega); intro v196 w55 ho hb hg hat; rw [← Ny195.out] at ho; have n0_ := Aside0.mk (hb); have n1_ := Aside0.mk (Kept.of_grown (S := (fun k_ => P0_ k_)) hg (by repeat (first | (with_reducible first | exact HK.out | apply Kept.alloc | apply Kept.drewN | apply Kept.drew) | exact HK.out)) (fun k_ e_ => (HO_0.out.1 k_ e_))); have n2_ := Aside0.mk (ho); clear HB; clear HK; clear HO_0; have HB := n0_; have HK := n1_; have HO197 := n2_; clear n0_ n1_ n2_; clear ho hb hg hat))
                (try simp only [Act.put, List.setIfInBounds_toArray, List.set_cons_zero, List.set_cons_succ])
                go_cut [22] (fun v22 wc => ∃ (kq : Nat) (x22_53 : Int), v22 = .int .i64 x22_53 ∧ Aside0 (strconv_fmtEFG.j12 kq y195 x22_53 = some r) ∧ Aside0 (kq ≤ kj36) ∧ Aside0 (Kd.R (Kd.int .u8) 5 wc w0.heap.size (fun k_ => (P0_ k_ ∨ w.heap.size ≤ k_)) v196 y195) ∧ Aside0 (Kept w wc (fun k_ => P0_ k_)) ∧ Aside0 (Below w0.heap.size w0 wc))
                case first =>
                 have H := HC54.out
                 clear HC54
                 by_cases c56 : a4 = 0
                 ·
                  rw [if_pos c56] at H
                  have c56b0 : (a4 == 0) = true := beq_iff_eq.mpr c56
                  have c56b1 : (a4 != 0) = false := bne_eq_false_iff_eq.mpr c56
                  clear c56
                  (first | rw [c56b0] | (simp only [i64_w, i32_w]; rw [c56b0]) | skip)
                  have H' := Aside0.mk H
                  clear H
                  go_wp2
                  go_meet
                  case rel => exact ⟨_, (0), (by first | rfl | (simp; done) | (simp [*]; done)), H', ⟨by have := HJ8.out; have := HJ10.out; have := HJ25.out; have := HJ28.out; have := HJ32.out; have := HJ36.out; first | omega | exact Nat.le_refl _⟩, ⟨by (with_reducible repeat (first | apply Kd.R_alloc | apply Kd.R_drewN | apply Kd.R_drew)); exact HO197.out⟩, ⟨by repeat (first | (with_reducible first | exact HK.out | apply Kept.alloc | apply Kept.drewN | apply Kept.drew) | exact HK.out)⟩, ⟨by repeat (first | (with_reducible first | exact HB.out | apply below_alloc | apply pw_below_drewN | apply below_drew1) | exact HB.out)⟩⟩
                 ·
                  rw [if_neg c56] at H
                  have c56b0 : (a4 == 0) = false := beq_eq_false_iff_ne.mpr c56
                  have c56b1 : (a4 != 0) = true := bne_iff_ne.mpr c56
                  (first | rw [c56b0] | (simp only [i64_w, i32_w]; rw [c56b0]) | skip)
                  have H' := Aside0.mk H
                  clear H
                  go_wp2
                  go_meet
                  case rel => exact ⟨_, (wrap64 (a3 - 1)), (by first | rfl | (simp; done) | (simp [*]; done)), H', ⟨by have := HJ8.out; have := HJ10.out; have := HJ25.out; have := HJ28.out; have := HJ32.out; have := HJ36.out; first | omega | exact Nat.le_refl _⟩, ⟨by (with_reducible repeat (first | apply Kd.R_alloc | apply Kd.R_drewN | apply Kd.R_drew)); exact HO197.out⟩, ⟨by repeat (first | (with_reducible first | exact HK.out | apply Kept.alloc | apply Kept.drewN | apply Kept.drew) | exact HK.out)⟩, ⟨by repeat (first | (with_reducible first | exact HB.out | apply below_alloc | apply pw_below_drewN | apply below_drew1) | exact HB.out)⟩⟩
                case rest => as_aux_lemma =>
                 clear HC54
                 try clear c1
                 try clear p1
                 try clear q1
                 try clear hx1
                 try clear qi1
                 try clear c2
                 try clear p2
                 try clear c3
                 try clear c4
                 try clear q4
                 try clear c5
                 try clear p6
                 try clear c10
                 try clear c10b0
                 try clear c10b1
                 try clear c12
                 try clear c14
                 try clear c14b0
                 try clear c16
                 try clear p17
                 try clear q17
                 try clear hx17
                 try clear qi17
                 try clear c18
                 try clear c20
                 try clear c20b0
                 try clear c21
                 try clear c22
                 try clear c22b0
                 try clear c23
                 try clear c23b0
                 try clear c27
                 try clear c27b0
                 try clear c27b1
                 try clear c28
                 try clear c30
                 try clear c31
                 try clear c34
                 try clear c34b0
                 try clear c34b1
                 try clear c35
                 try clear c35b0
                 try clear c35b1
                 try clear c36
                 try clear c39
                 try clear c39b0
                 try clear c40
                 try clear c44
                 try clear c44b0
                 try clear c45
                 try clear c45b0
                 try clear c45b1
                 try clear c46
                 try clear c46b0
                 try clear c46b1
                 try clear c47
                 try clear c48
                 try clear q48
                 try clear c50
                 try clear c50b0
                 try clear c51
                 try clear c53
                 try clear c56
                 try clear c56b0
                 try clear c56b1
                 try clear hx178_0
                 try clear p1
                 try clear p17
                 try clear p178
                 try clear p2
                 try clear p6
                 try clear q1
                 try clear q17
                 try clear q178
                 try clear q4
                 try clear q48
                 obtain ⟨kq, x22_53, rfl, HA, HJ53, HO_0, HK, HB⟩ := hcut
                 cases kq with
                 | zero => exact absurd HA.out (by simp [strconv_fmtEFG.j12])
                 | succ kj53 =>
                  have H := HA.out
                  clear HA
                  simp only [strconv_fmtEFG.j12] at H
                  have HC57 := Aside0.mk H
                  clear H
                  go_upto_if 129 with (fail)
                  go_cut [19, 22] (fun v19 v22 wc => ∃ (kq : Nat) (x19_56 : Int) (x22_56 : Int), v19 = .int .u8 x19_56 ∧ v22 = .int .i64 x22_56 ∧ Aside0 (strconv_fmtEFG.j13 kq y195 x19_56 x22_56 = some r) ∧ Aside0 (kq ≤ kj53) ∧ Aside0 (Kd.R (Kd.int .u8) 5 wc w0.heap.size (fun k_ => (P0_ k_ ∨ w.heap.size ≤ k_)) v196 y195) ∧ Aside0 (Kept w wc (fun k_ => P0_ k_)) ∧ Aside0 (Below w0.heap.size w0 wc))
                  case first =>
                   have H := HC57.out
                   clear HC57
                   by_cases c58 : x22_53 < 0
                   ·
                    rw [if_pos c58] at H
                    have c58b0 : decide (x22_53 < 0) = true := decide_eq_true c58
                    clear c58
                    (first | rw [c58b0] | (simp only [i64_w, i32_w]; rw [c58b0]) | skip)
                    have H' := Aside0.mk H
                    clear H
                    go_wp2
                    go_meet
                    case rel => exact ⟨_, (45), (wrap64 (-x22_53)), (by first | rfl | (simp; done) | (simp [*]; done)), (by first | rfl | (simp; done) | (simp [*]; done)), H', ⟨by have := HJ8.out; have := HJ10.out; have := HJ25.out; have := HJ28.out; have := HJ32.out; have := HJ36.out; have := HJ53.out; first | omega | exact Nat.le_refl _⟩, ⟨by (with_reducible repeat (first | apply Kd.R_alloc | apply Kd.R_drewN | apply Kd.R_drew)); exact HO_0.out⟩, ⟨by repeat (first | (with_reducible first | exact HK.out | apply Kept.alloc | apply Kept.drewN | apply Kept.drew) | exact HK.out)⟩, ⟨by repeat (first | (with_reducible first | exact HB.out | apply below_alloc | apply pw_below_drewN | apply below_drew1) | exact HB.out)⟩⟩
                   ·
                    rw [if_neg c58] at H
                    have c58b0 : decide (x22_53 < 0) = false := decide_eq_false c58
                    clear c58
                    (first | rw [c58b0] | (simp only [i64_w, i32_w]; rw [c58b0]) | skip)
                    have H' := Aside0.mk H
                    clear H
                    go_wp2
                    go_meet
                    case rel => exact ⟨_, (43), (x22_53), (by first | rfl | (simp; done) | (simp [*]; done)), (by first | rfl | (simp; done) | (simp [*]; done)), H', ⟨by have := HJ8.out; have := HJ10.out; have := HJ25.out; have := HJ28.out; have := HJ32.out; have := HJ36.out; have := HJ53.out; first | omega | exact Nat.le_refl _⟩, ⟨by (with_reducible repeat (first | apply Kd.R_alloc | apply Kd.R_drewN | apply Kd.R_drew)); exact HO_0.out⟩, ⟨by repeat (first | (with_reducible first | exact HK.out | apply Kept.alloc | apply Kept.drewN | apply Kept.drew) | exact HK.out)⟩, ⟨by repeat (first | (with_reducible first | exact HB.out | apply below_alloc | apply pw_below_drewN | apply below_drew1) | exact HB.out)⟩⟩
                  case rest => as_aux_lemma =>
                   clear HC57
                   try clear c1
                   try clear p1
                   try clear q1
                   try clear hx1
                   try clear qi1
                   try clear c2
                   try clear p2
                   try clear c3
                   try clear c4
                   try clear q4
                   try clear c5
                   try clear p6
                   try clear c10
                   try clear c10b0
                   try clear c10b1
                   try clear c12
                   try clear c14
                   try clear c14b0
                   try clear c16
                   try clear p17
                   try clear q17
                   try clear hx17
                   try clear qi17
                   try clear c18
                   try clear c20
                   try clear c20b0
                   try clear c21
                   try clear c22
                   try clear c22b0
                   try clear c23
                   try clear c23b0
                   try clear c27
                   try clear c27b0
                   try clear c27b1
                   try clear c28
                   try clear c30
                   try clear c31
                   try clear c34
                   try clear c34b0
                   try clear c34b1
                   try clear c35
                   try clear c35b0
                   try clear c35b1
                   try clear c36
                   try clear c39
                   try clear c39b0
                   try clear c40
                   try clear c44
                   try clear c44b0
                   try clear c45
                   try clear c45b0
                   try clear c45b1
                   try clear c46
                   try clear c46b0
                   try clear c46b1
                   try clear c47
                   try clear c48
                   try clear q48
                   try clear c50
                   try clear c50b0
                   try clear c51
                   try clear c53
                   try clear c56
                   try clear c56b0
                   try clear c56b1
                   try clear c58
                   try clear c58b0
                   try clear hx178_0
                   try clear p1
                   try clear p17
                   try clear p178
                   try clear p2
                   try clear p6
                   try clear q1
                   try clear q17
                   try clear q178
                   try clear q4
                   try clear q48
                   obtain ⟨kq, x19_56, x22_56, rfl, rfl, HA, HJ56, HO_0, HK, HB⟩ := hcut
                   cases kq with
                   | zero => exact absurd HA.out (by simp [strconv_fmtEFG.j13])
                   | succ kj56 =>
                    have H := HA.out
                    clear HA
                    simp only [strconv_fmtEFG.j13] at H
                    by_cases c59 : y195.length < 140737488355328
                    ·
                     rw [if_pos c59] at H
                     have LMc59 := Aside0.mk c59
                     clear c59
                     obtain ⟨y198, hy198⟩ : ∃ y_ : List Int, y_ = (y195 ++ [x19_56]) := ⟨_, rfl⟩
                     replace H : (if x22_56 < 10 then ((some (([48, (((x22_56) % 256) + 48) % 256] : List Int) : List Int)).bind fun y201 => (if y198.length + y201.length < 140737488355328 then (some (y198 ++ y201)) else (none))) else (if x22_56 < 100 then ((some (([(((wrap64 (Int.tdiv x22_56 10)) % 256) + 48) % 256, (((Int.tmod x22_56 10) % 256) + 48) % 256] : List Int) : List Int)).bind fun y207 => (if y198.length + y207.length < 140737488355328 then (some (y198 ++ y207)) else (none))) else ((some (([(((wrap64 (Int.tdiv x22_56 100)) % 256) + 48) % 256, (((wrap64 (Int.tdiv x22_56 10)) % 256) % 10) + 48, (((Int.tmod x22_56 10) % 256) + 48) % 256] : List Int) : List Int)).bind fun y213 => (if y198.length + y213.length < 140737488355328 then (some (y198 ++ y213)) else (none))))) = some r := by first | (rw [hy198]; with_reducible exact H) | (have H2_ := (Option.bind_some _ _).symm.trans H; rw [hy198]; with_reducible exact H2_) | (have H2_ := (Option.bind_some _ _).symm.trans H; with_reducible exact H2_) | with_reducible exact H | (rw [hy198]; exact H) | exact H
                     have Ny198 := Aside0.mk hy198
                     clear hy198
                     by_cases c60 : x22_56 < 10
                     ·
                      rw [if_pos c60] at H
                      have c60b0 : decide (x22_56 < 10) = true := decide_eq_true c60
                      clear c60
                      obtain ⟨y201, hy201⟩ : ∃ y_ : List Int, y_ = (([48, (((x22_56) % 256) + 48) % 256] : List Int)) := ⟨_, rfl⟩
                      replace H : (if y198.length + y201.length < 140737488355328 then (some (y198 ++ y201)) else (none)) = some r := by first | (rw [hy201]; with_reducible exact H) | (have H2_ := (Option.bind_some _ _).symm.trans H; rw [hy201]; with_reducible exact H2_) | (have H2_ := (Option.bind_some _ _).symm.trans H; with_reducible exact H2_) | with_reducible exact H | (rw [hy201]; exact H) | exact H
                      have Ny201 := Aside0.mk hy201
                      clear hy201
                      by_cases c61 : y198.length + y201.length < 140737488355328
                      ·
                       rw [if_pos c61] at H
                       have LMc61 := Aside0.mk c61
                       clear c61
                       obtain ⟨y204, hy204⟩ : ∃ y_ : List Int, y_ = (y198 ++ y201) := ⟨_, rfl⟩
                       replace H : (some y204) = some r := by first | (rw [hy204]; with_reducible exact H) | (have H2_ := (Option.bind_some _ _).symm.trans H; rw [hy204]; with_reducible exact H2_) | (have H2_ := (Option.bind_some _ _).symm.trans H; with_reducible exact H2_) | with_reducible exact H | (rw [hy204]; exact H) | exact H
                       have Ny204 := Aside0.mk hy204
                       clear hy204
                       obtain rfl := Option.some.inj H
                       go_wp2_with (first | ((with_reducible refine gate_builtin (b := .append) (xs := #[.tmp 132, .tmp 134]) rfl ?_); at_builtin; refine Kd.R_append (Kd.int .u8) (w0 := w0) w0.heap.size rfl (.tmp 132) (.tmp 134) 27 5 (.int .u8 0) 1 rfl Tryz.underlying27 info5 rfl (by decide) (by omega) v196 y195 x19_56 [.int .u8 x19_56] (fun k_ => (P0_ k_ ∨ w.heap.size ≤ k_)) (fun _ => False) rfl rfl ?aP (fun _ hk => hk.elim) ?aF ?aO ?aB ?aS ?aL ?_; (case aP => exact rfl); (case aB => exact (by repeat (first | (with_reducible first | exact HB.out | apply below_alloc | apply pw_below_drewN | apply below_drew1) | exact HB.out))); (case aF => exact (fun k_ hk => (.inr (Nat.le_trans (by first | exact HK.out.1 | exact (show Kept w _ (fun k_ => P0_ k_) from by repeat (first | (with_reducible first | exact HK.out | apply Kept.alloc | apply Kept.drewN | apply Kept.drew) | exact HK.out)).1) hk)))); (case aO => exact (by (with_reducible repeat (first | apply Kd.R_alloc | apply Kd.R_drewN | apply Kd.R_drew)); exact HO_0.out)); (case aS => exact (below_size (by repeat (first | (with_reducible first | exact HB.out | apply below_alloc | apply pw_below_drewN | apply below_drew1) | exact HB.out)))); (case aL => have := LMc59.out; omega); intro v199 w62 ho hb hg hat; rw [← Ny198.out] at ho; have n0_ := Aside0.mk (hb); have n1_ := Aside0.mk (Kept.of_grown (S := (fun k_ => P0_ k_)) hg (by repeat (first | (with_reducible first | exact HK.out | apply Kept.alloc | apply Kept.drewN | apply Kept.drew) | exact HK.out)) (fun k_ e_ => (HO_0.out.1 k_ e_))); have n2_ := Aside0.mk (ho); clear HB; clear HK; clear HO_0; have HB := n0_; have HK := n1_; have HO200 := n2_; clear n0_ n1_ n2_; clear ho hb hg hat) | ((with_reducible refine gate_dst (N := 159) rfl ?_); refine Kd.R_lit (Kd.int .u8) _ 5 ?hg (N := 159) ?hd (xs := ([48, (((x22_56) % 256) + 48) % 256] : List Int)) (inner := [.int .u8 48, .int .u8 ((((x22_56) % 256) + 48) % 256)]) (ok := fun _ => True) (okp := fun _ => True) ?hr ?hp (fun _ hk => hk) trivial (Below.refl _ _) (Nat.le_refl _) (by simp) ?_; (case hd => rfl); (case hg => rfl); (case hr => first | (go_simp; done) | (go_simp; rfl)); (case hp => exact (Reps.one (show Kd.M (Kd.int .u8) _ _ _ 48 [.int .u8 48] from rfl) (Reps.one (show Kd.M (Kd.int .u8) _ _ _ ((((x22_56) % 256) + 48) % 256) [.int .u8 ((((x22_56) % 256) + 48) % 256)] from rfl) (Reps.none _ _)))); intro v202 w63 ho64 hb hg_ hnew_; clear hg_ hnew_; (first | rw [← Ny201.out] at ho64 | (simp only [Int.reduceToNat] at ho64; rw [← Ny201.out] at ho64)); have n0_ := Aside0.mk (Kd.R_elder' (by (with_reducible repeat (first | apply Kd.R_alloc | apply Kd.R_drewN | apply Kd.R_drew)); exact HO200.out) (Kd.R_base ho64) hb); have n1_ := Aside0.mk (Kd.R_lower (Kd.R_new' (Kd.R_newM (M := fun k_ => (P0_ k_ ∨ w.heap.size ≤ k_)) ho64 (by first | exact HK.out.1 | exact (show Kept w _ (fun k_ => P0_ k_) from by repeat (first | (with_reducible first | exact HK.out | apply Kept.alloc | apply Kept.drewN | apply Kept.drew) | exact HK.out)).1) (fun k_ h_ => .inr h_)) (Kd.R_lt (by (with_reducible repeat (first | apply Kd.R_alloc | apply Kd.R_drewN | apply Kd.R_drew)); exact HO200.out))) (below_size (by repeat (first | (with_reducible first | exact HB.out | apply below_alloc | apply pw_below_drewN | apply below_drew1) | exact HB.out)))); have n2_ := Aside0.mk (Kept.below (S := (fun k_ => P0_ k_)) (by repeat (first | (with_reducible first | exact HK.out | apply Kept.alloc | apply Kept.drewN | apply Kept.drew) | exact HK.out)) hb); have n3_ := Aside0.mk (below_step (by repeat (first | (with_reducible first | exact HB.out | apply below_alloc | apply pw_below_drewN | apply below_drew1) | exact HB.out)) hb); clear HO200; clear HK; clear HB; have HO200 := n0_; have HO203 := n1_; have HK := n2_; have HB := n3_; clear n0_ n1_ n2_ n3_; clear hb ho64; obtain ⟨Ao66, co66, eo66⟩ := Kd.R_slice HO203.out; subst eo66) | ((with_reducible refine gate_builtin (b := .append) (xs := #[.tmp 155, .tmp 159]) rfl ?_); at_builtin; refine Kd.R_append_rows (Kd.int .u8) (w0 := w0) w0.heap.size rfl (.tmp 155) (.tmp 159) 27 5 (.int .u8 0) 1 rfl Tryz.underlying27 info5 rfl (by decide) (by omega) v199 y198 y201 _ _ _ (fun k_ => (P0_ k_ ∨ w.heap.size ≤ k_) ∧ some k_ ≠ (.slice Ao66 y201.length co66 : Value).ownBlock) (fun _ => False) rfl rfl ?aO ?aR (fun _ _ h => h) (fun _ h => h.elim) ?aF ?aB ?aS ?aL ?_; (case aR => repeat (first | exact (Kd.R_reads' HO203.out).2.2 | (with_reducible refine Kd.C_alloc ?_ _) | (with_reducible refine Kd.C_drewN ?_ _) | (with_reducible refine Kd.C_drew ?_))); (case aB => exact (by repeat (first | (with_reducible first | exact HB.out | apply below_alloc | apply pw_below_drewN | apply below_drew1) | exact HB.out))); (case aF => exact (fun k_ hk => ⟨(.inr (Nat.le_trans (by first | exact HK.out.1 | exact (show Kept w _ (fun k_ => P0_ k_) from by repeat (first | (with_reducible first | exact HK.out | apply Kept.alloc | apply Kept.drewN | apply Kept.drew) | exact HK.out)).1) hk)), Kd.fresh' (Kd.R_lt (by (with_reducible repeat (first | apply Kd.R_alloc | apply Kd.R_drewN | apply Kd.R_drew)); exact HO203.out)) k_ hk⟩)); (case aO => exact (by (with_reducible repeat (first | apply Kd.R_alloc | apply Kd.R_drewN | apply Kd.R_drew)); exact HO200.out)); (case aS => exact (below_size (by repeat (first | (with_reducible first | exact HB.out | apply below_alloc | apply pw_below_drewN | apply below_drew1) | exact HB.out)))); (case aL => have := LMc61.out; omega); intro v205 w65 ho hb hg hat; rw [← Ny204.out] at ho; have n0_ := Aside0.mk (Kd.R_after (ok := (fun k_ => (P0_ k_ ∨ w.heap.size ≤ k_))) (by (with_reducible repeat (first | apply Kd.R_alloc | apply Kd.R_drewN | apply Kd.R_drew)); exact Kd.R_mono HO203.out (fun _ hk => ⟨hk.1.1, hk.2⟩)) hg hat); have n1_ := Aside0.mk (hb); have n2_ := Aside0.mk (Kept.of_grown (S := (fun k_ => P0_ k_)) hg (by repeat (first | (with_reducible first | exact HK.out | apply Kept.alloc | apply Kept.drewN | apply Kept.drew) | exact HK.out)) (fun k_ e_ => (HO200.out.1 k_ e_).1)); have n3_ := Aside0.mk (ho); clear HO203; clear HB; clear HK; clear HO200; have HO203 := n0_; have HB := n1_; have HK := n2_; have HO206 := n3_; clear n0_ n1_ n2_ n3_; clear ho hb hg hat))
                       go_ret
                       exact ⟨_, by first | rfl | (simp [errW_none, errW_some] <;> rfl) | (simp [*, errW_none, errW_some] <;> rfl), by (with_reducible repeat (first | apply Kd.R_alloc | apply Kd.R_drewN | apply Kd.R_drew)); exact Kd.R_mono HO206.out (fun _ hk => hk.1), by repeat (first | (with_reducible first | exact HB.out | apply below_alloc | apply pw_below_drewN | apply below_drew1) | exact HB.out), by repeat (first | (with_reducible first | exact HK.out | apply Kept.alloc | apply Kept.drewN | apply Kept.drew) | exact HK.out)⟩
                      ·
                       rw [if_neg c61] at H
                       exact absurd H (by simp)
                     ·
                      rw [if_neg c60] at H
                      have c60b0 : decide (x22_56 < 10) = false := decide_eq_false c60
                      clear c60
                      by_cases c67 : x22_56 < 100
                      ·
                       rw [if_pos c67] at H
                       have c67b0 : decide (x22_56 < 100) = true := decide_eq_true c67
                       clear c67
                       obtain ⟨y207, hy207⟩ : ∃ y_ : List Int, y_ = (([(((wrap64 (Int.tdiv x22_56 10)) % 256) + 48) % 256, (((Int.tmod x22_56 10) % 256) + 48) % 256] : List Int)) := ⟨_, rfl⟩
                       replace H : (if y198.length + y207.length < 140737488355328 then (some (y198 ++ y207)) else (none)) = some r := by first | (rw [hy207]; with_reducible exact H) | (have H2_ := (Option.bind_some _ _).symm.trans H; rw [hy207]; with_reducible exact H2_) | (have H2_ := (Option.bind_some _ _).symm.trans H; with_reducible exact H2_) | with_reducible exact H | (rw [hy207]; exact H) | exact H
                       have Ny207 := Aside0.mk hy207
                       clear hy207
                       by_cases c68 : y198.length + y207.length < 140737488355328
                       ·
                        rw [if_pos c68] at H
                        have LMc68 := Aside0.mk c68
                        clear c68
                        obtain ⟨y210, hy210⟩ : ∃ y_ : List Int, y_ = (y198 ++ y207) := ⟨_, rfl⟩
                        replace H : (some y210) = some r := by first | (rw [hy210]; with_reducible exact H) | (have H2_ := (Option.bind_some _ _).symm.trans H; rw [hy210]; with_reducible exact H2_) | (have H2_ := (Option.bind_some _ _).symm.trans H; with_reducible exact H2_) | with_reducible exact H | (rw [hy210]; exact H) | exact H
                        have Ny210 := Aside0.mk hy210
                        clear hy210
                        obtain rfl := Option.some.inj H
                        go_wp2_with (first | ((with_reducible refine gate_builtin (b := .append) (xs := #[.tmp 132, .tmp 134]) rfl ?_); at_builtin; refine Kd.R_append (Kd.int .u8) (w0 := w0) w0.heap.size rfl (.tmp 132) (.tmp 134) 27 5 (.int .u8 0) 1 rfl Tryz.underlying27 info5 rfl (by decide) (by omega) v196 y195 x19_56 [.int .u8 x19_56] (fun k_ => (P0_ k_ ∨ w.heap.size ≤ k_)) (fun _ => False) rfl rfl ?aP (fun _ hk => hk.elim) ?aF ?aO ?aB ?aS ?aL ?_; (case aP => exact rfl); (case aB => exact (by repeat (first | (with_reducible first | exact HB.out | apply below_alloc | apply pw_below_drewN | apply below_drew1) | exact HB.out))); (case aF => exact (fun k_ hk => (.inr (Nat.le_trans (by first | exact HK.out.1 | exact (show Kept w _ (fun k_ => P0_ k_) from by repeat (first | (with_reducible first | exact HK.out | apply Kept.alloc | apply Kept.drewN | apply Kept.drew) | exact HK.out)).1) hk)))); (case aO => exact (by (with_reducible repeat (first | apply Kd.R_alloc | apply Kd.R_drewN | apply Kd.R_drew)); exact HO_0.out)); (case aS => exact (below_size (by repeat (first | (with_reducible first | exact HB.out | apply below_alloc | apply pw_below_drewN | apply below_drew1) | exact HB.out)))); (case aL => have := LMc59.out; omega); intro v199 w69 ho hb hg hat; rw [← Ny198.out] at ho; have n0_ := Aside0.mk (hb); have n1_ := Aside0.mk (Kept.of_grown (S := (fun k_ => P0_ k_)) hg (by repeat (first | (with_reducible first | exact HK.out | apply Kept.alloc | apply Kept.drewN | apply Kept.drew) | exact HK.out)) (fun k_ e_ => (HO_0.out.1 k_ e_))); have n2_ := Aside0.mk (ho); clear HB; clear HK; clear HO_0; have HB := n0_; have HK := n1_; have HO200 := n2_; clear n0_ n1_ n2_; clear ho hb hg hat) | ((with_reducible refine gate_dst (N := 173) rfl ?_); refine Kd.R_lit (Kd.int .u8) _ 5 ?hg (N := 173) ?hd (xs := ([(((wrap64 (Int.tdiv x22_56 10)) % 256) + 48) % 256, (((Int.tmod x22_56 10) % 256) + 48) % 256] : List Int)) (inner := [.int .u8 ((((wrap64 (Int.tdiv x22_56 10)) % 256) + 48) % 256), .int .u8 ((((Int.tmod x22_56 10) % 256) + 48) % 256)]) (ok := fun _ => True) (okp := fun _ => True) ?hr ?hp (fun _ hk => hk) trivial (Below.refl _ _) (Nat.le_refl _) (by simp) ?_; (case hd => rfl); (case hg => rfl); (case hr => first | (go_simp; done) | (go_simp; rfl)); (case hp => exact (Reps.one (show Kd.M (Kd.int .u8) _ _ _ ((((wrap64 (Int.tdiv x22_56 10)) % 256) + 48) % 256) [.int .u8 ((((wrap64 (Int.tdiv x22_56 10)) % 256) + 48) % 256)] from rfl) (Reps.one (show Kd.M (Kd.int .u8) _ _ _ ((((Int.tmod x22_56 10) % 256) + 48) % 256) [.int .u8 ((((Int.tmod x22_56 10) % 256) + 48) % 256)] from rfl) (Reps.none _ _)))); intro v208 w70 ho71 hb hg_ hnew_; clear hg_ hnew_; (first | rw [← Ny207.out] at ho71 | (simp only [Int.reduceToNat] at ho71; rw [← Ny207.out] at ho71)); have n0_ := Aside0.mk (Kd.R_elder' (by (with_reducible repeat (first | apply Kd.R_alloc | apply Kd.R_drewN | apply Kd.R_drew)); exact HO200.out) (Kd.R_base ho71) hb); have n1_ := Aside0.mk (Kd.R_lower (Kd.R_new' (Kd.R_newM (M := fun k_ => (P0_ k_ ∨ w.heap.size ≤ k_)) ho71 (by first | exact HK.out.1 | exact (show Kept w _ (fun k_ => P0_ k_) from by repeat (first | (with_reducible first | exact HK.out | apply Kept.alloc | apply Kept.drewN | apply Kept.drew) | exact HK.out)).1) (fun k_ h_ => .inr h_)) (Kd.R_lt (by (with_reducible repeat (first | apply Kd.R_alloc | apply Kd.R_drewN | apply Kd.R_drew)); exact HO200.out))) (below_size (by repeat (first | (with_reducible first | exact HB.out | apply below_alloc | apply pw_below_drewN | apply below_drew1) | exact HB.out)))); have n2_ := Aside0.mk (Kept.below (S := (fun k_ => P0_ k_)) (by repeat (first | (with_reducible first | exact HK.out | apply Kept.alloc | apply Kept.drewN | apply Kept.drew) | exact HK.out)) hb); have n3_ := Aside0.mk (below_step (by repeat (first | (with_reducible first | exact HB.out | apply below_alloc | apply pw_below_drewN | apply below_drew1) | exact HB.out)) hb); clear HO200; clear HK; clear HB; have HO200 := n0_; have HO209 := n1_; have HK := n2_; have HB := n3_; clear n0_ n1_ n2_ n3_; clear hb ho71; obtain ⟨Ao73, co73, eo73⟩ := Kd.R_slice HO209.out; subst eo73) | ((with_reducible refine gate_builtin (b := .append) (xs := #[.tmp 164, .tmp 173]) rfl ?_); at_builtin; refine Kd.R_append_rows (Kd.int .u8) (w0 := w0) w0.heap.size rfl (.tmp 164) (.tmp 173) 27 5 (.int .u8 0) 1 rfl Tryz.underlying27 info5 rfl (by decide) (by omega) v199 y198 y207 _ _ _ (fun k_ => (P0_ k_ ∨ w.heap.size ≤ k_) ∧ some k_ ≠ (.slice Ao73 y207.length co73 : Value).ownBlock) (fun _ => False) rfl rfl ?aO ?aR (fun _ _ h => h) (fun _ h => h.elim) ?aF ?aB ?aS ?aL ?_; (case aR => repeat (first | exact (Kd.R_reads' HO209.out).2.2 | (with_reducible refine Kd.C_alloc ?_ _) | (with_reducible refine Kd.C_drewN ?_ _) | (with_reducible refine Kd.C_drew ?_))); (case aB => exact (by repeat (first | (with_reducible first | exact HB.out | apply below_alloc | apply pw_below_drewN | apply below_drew1) | exact HB.out))); (case aF => exact (fun k_ hk => ⟨(.inr (Nat.le_trans (by first | exact HK.out.1 | exact (show Kept w _ (fun k_ => P0_ k_) from by repeat (first | (with_reducible first | exact HK.out | apply Kept.alloc | apply Kept.drewN | apply Kept.drew) | exact HK.out)).1) hk)), Kd.fresh' (Kd.R_lt (by (with_reducible repeat (first | apply Kd.R_alloc | apply Kd.R_drewN | apply Kd.R_drew)); exact HO209.out)) k_ hk⟩)); (case aO => exact (by (with_reducible repeat (first | apply Kd.R_alloc | apply Kd.R_drewN | apply Kd.R_drew)); exact HO200.out)); (case aS => exact (below_size (by repeat (first | (with_reducible first | exact HB.out | apply below_alloc | apply pw_below_drewN | apply below_drew1) | exact HB.out)))); (case aL => have := LMc68.out; omega); intro v211 w72 ho hb hg hat; rw [← Ny210.out] at ho; have n0_ := Aside0.mk (Kd.R_after (ok := (fun k_ => (P0_ k_ ∨ w.heap.size ≤ k_))) (by (with_reducible repeat (first | apply Kd.R_alloc | apply Kd.R_drewN | apply Kd.R_drew)); exact Kd.R_mono HO209.out (fun _ hk => ⟨hk.1.1, hk.2⟩)) hg hat); have n1_ := Aside0.mk (hb); have n2_ := Aside0.mk (Kept.of_grown (S := (fun k_ => P0_ k_)) hg (by repeat (first | (with_reducible first | exact HK.out | apply Kept.alloc | apply Kept.drewN | apply Kept.drew) | exact HK.out)) (fun k_ e_ => (HO200.out.1 k_ e_).1)); have n3_ := Aside0.mk (ho); clear HO209; clear HB; clear HK; clear HO200; have HO209 := n0_; have HB := n1_; have HK := n2_; have HO212 := n3_; clear n0_ n1_ n2_ n3_; clear ho hb hg hat))
                        go_ret
                        exact ⟨_, by first | rfl | (simp [errW_none, errW_some] <;> rfl) | (simp [*, errW_none, errW_some] <;> rfl), by (with_reducible repeat (first | apply Kd.R_alloc | apply Kd.R_drewN | apply Kd.R_drew)); exact Kd.R_mono HO212.out (fun _ hk => hk.1), by repeat (first | (with_reducible first | exact HB.out | apply below_alloc | apply pw_below_drewN | apply below_drew1) | exact HB.out), by repeat (first | (with_reducible first | exact HK.out | apply Kept.alloc | apply Kept.drewN | apply Kept.drew) | exact HK.out)⟩
                       ·
                        rw [if_neg c68] at H
                        exact absurd H (by simp)
                      ·
                       rw [if_neg c67] at H
                       have c67b0 : decide (x22_56 < 100) = false := decide_eq_false c67
                       clear c67
                       obtain ⟨y213, hy213⟩ : ∃ y_ : List Int, y_ = (([(((wrap64 (Int.tdiv x22_56 100)) % 256) + 48) % 256, (((wrap64 (Int.tdiv x22_56 10)) % 256) % 10) + 48, (((Int.tmod x22_56 10) % 256) + 48) % 256] : List Int)) := ⟨_, rfl⟩
                       replace H : (if y198.length + y213.length < 140737488355328 then (some (y198 ++ y213)) else (none)) = some r := by first | (rw [hy213]; with_reducible exact H) | (have H2_ := (Option.bind_some _ _).symm.trans H; rw [hy213]; with_reducible exact H2_) | (have H2_ := (Option.bind_some _ _).symm.trans H; with_reducible exact H2_) | with_reducible exact H | (rw [hy213]; exact H) | exact H
                       have Ny213 := Aside0.mk hy213
                       clear hy213
                       by_cases c74 : y198.length + y213.length < 140737488355328
                       ·
                        rw [if_pos c74] at H
                        have LMc74 := Aside0.mk c74
                        clear c74
                        obtain ⟨y216, hy216⟩ : ∃ y_ : List Int, y_ = (y198 ++ y213) := ⟨_, rfl⟩
                        replace H : (some y216) = some r := by first | (rw [hy216]; with_reducible exact H) | (have H2_ := (Option.bind_some _ _).symm.trans H; rw [hy216]; with_reducible exact H2_) | (have H2_ := (Option.bind_some _ _).symm.trans H; with_reducible exact H2_) | with_reducible exact H | (rw [hy216]; exact H) | exact H
                        have Ny216 := Aside0.mk hy216
                        clear hy216
                        obtain rfl := Option.some.inj H
                        go_wp2_with (first | ((with_reducible refine gate_builtin (b := .append) (xs := #[.tmp 132, .tmp 134]) rfl ?_); at_builtin; refine Kd.R_append (Kd.int .u8) (w0 := w0) w0.heap.size rfl (.tmp 132) (.tmp 134) 27 5 (.int .u8 0) 1 rfl Tryz.underlying27 info5 rfl (by decide) (by omega) v196 y195 x19_56 [.int .u8 x19_56] (fun k_ => (P0_ k_ ∨ w.heap.size ≤ k_)) (fun _ => False) rfl rfl ?aP (fun _ hk => hk.elim) ?aF ?aO ?aB ?aS ?aL ?_; (case aP => exact rfl); (case aB => exact (by repeat (first | (with_reducible first | exact HB.out | apply below_alloc | apply pw_below_drewN | apply below_drew1) | exact HB.out))); (case aF => exact (fun k_ hk => (.inr (Nat.le_trans (by first | exact HK.out.1 | exact (show Kept w _ (fun k_ => P0_ k_) from by repeat (first | (with_reducible first | exact HK.out | apply Kept.alloc | apply Kept.drewN | apply Kept.drew) | exact HK.out)).1) hk)))); (case aO => exact (by (with_reducible repeat (first | apply Kd.R_alloc | apply Kd.R_drewN | apply Kd.R_drew)); exact HO_0.out)); (case aS => exact (below_size (by repeat (first | (with_reducible first | exact HB.out | apply below_alloc | apply pw_below_drewN | apply below_drew1) | exact HB.out)))); (case aL => have := LMc59.out; omega); intro v199 w75 ho hb hg hat; rw [← Ny198.out] at ho; have n0_ := Aside0.mk (hb); have n1_ := Aside0.mk (Kept.of_grown (S := (fun k_ => P0_ k_)) hg (by repeat (first | (with_reducible first | exact HK.out | apply Kept.alloc | apply Kept.drewN | apply Kept.drew) | exact HK.out)) (fun k_ e_ => (HO_0.out.1 k_ e_))); have n2_ := Aside0.mk (ho); clear HB; clear HK; clear HO_0; have HB := n0_; have HK := n1_; have HO200 := n2_; clear n0_ n1_ n2_; clear ho hb hg hat) | ((with_reducible refine gate_dst (N := 150) rfl ?_); refine Kd.R_lit (Kd.int .u8) _ 5 ?hg (N := 150) ?hd (xs := ([(((wrap64 (Int.tdiv x22_56 100)) % 256) + 48) % 256, (((wrap64 (Int.tdiv x22_56 10)) % 256) % 10) + 48, (((Int.tmod x22_56 10) % 256) + 48) % 256] : List Int)) (inner := [.int .u8 ((((wrap64 (Int.tdiv x22_56 100)) % 256) + 48) % 256), .int .u8 ((((wrap64 (Int.tdiv x22_56 10)) % 256) % 10) + 48), .int .u8 ((((Int.tmod x22_56 10) % 256) + 48) % 256)]) (ok := fun _ => True) (okp := fun _ => True) ?hr ?hp (fun _ hk => hk) trivial (Below.refl _ _) (Nat.le_refl _) (by simp) ?_; (case hd => rfl); (case hg => rfl); (case hr => first | (go_simp; done) | (go_simp; rfl)); (case hp => exact (Reps.one (show Kd.M (Kd.int .u8) _ _ _ ((((wrap64 (Int.tdiv x22_56 100)) % 256) + 48) % 256) [.int .u8 ((((wrap64 (Int.tdiv x22_56 100)) % 256) + 48) % 256)] from rfl) (Reps.one (show Kd.M (Kd.int .u8) _ _ _ ((((wrap64 (Int.tdiv x22_56 10)) % 256) % 10) + 48) [.int .u8 ((((wrap64 (Int.tdiv x22_56 10)) % 256) % 10) + 48)] from rfl) (Reps.one (show Kd.M (Kd.int .u8) _ _ _ ((((Int.tmod x22_56 10) % 256) + 48) % 256) [.int .u8 ((((Int.tmod x22_56 10) % 256) + 48) % 256)] from rfl) (Reps.none _ _))))); intro v214 w76 ho77 hb hg_ hnew_; clear hg_ hnew_; (first | rw [← Ny213.out] at ho77 | (simp only [Int.reduceToNat] at ho77; rw [← Ny213.out] at ho77)); have n0_ := Aside0.mk (Kd.R_elder' (by (with_reducible repeat (first | apply Kd.R_alloc | apply Kd.R_drewN | apply Kd.R_drew)); exact HO200.out) (Kd.R_base ho77) hb); have n1_ := Aside0.mk (Kd.R_lower (Kd.R_new' (Kd.R_newM (M := fun k_ => (P0_ k_ ∨ w.heap.size ≤ k_)) ho77 (by first | exact HK.out.1 | exact (show Kept w _ (fun k_ => P0_ k_) from by repeat (first | (with_reducible first | exact HK.out | apply Kept.alloc | apply Kept.drewN | apply Kept.drew) | exact HK.out)).1) (fun k_ h_ => .inr h_)) (Kd.R_lt (by (with_reducible repeat (first | apply Kd.R_alloc | apply Kd.R_drewN | apply Kd.R_drew)); exact HO200.out))) (below_size (by repeat (first | (with_reducible first | exact HB.out | apply below_alloc | apply pw_below_drewN | apply below_drew1) | exact HB.out)))); have n2_ := Aside0.mk (Kept.below (S := (fun k_ => P0_ k_)) (by repeat (first | (with_reducible first | exact HK.out | apply Kept.alloc | apply Kept.drewN | apply Kept.drew) | exact HK.out)) hb); have n3_ := Aside0.mk (below_step (by repeat (first | (with_reducible first | exact HB.out | apply below_alloc | apply pw_below_drewN | apply below_drew1) | exact HB.out)) hb); clear HO200; clear HK; clear HB; have HO200 := n0_; have HO215 := n1_; have HK := n2_; have HB := n3_; clear n0_ n1_ n2_ n3_; clear hb ho77; obtain ⟨Ao79, co79, eo79⟩ := Kd.R_slice HO215.out; subst eo79) | ((with_reducible refine gate_builtin (b := .append) (xs := #[.tmp 136, .tmp 150]) rfl ?_); at_builtin; refine Kd.R_append_rows (Kd.int .u8) (w0 := w0) w0.heap.size rfl (.tmp 136) (.tmp 150) 27 5 (.int .u8 0) 1 rfl Tryz.underlying27 info5 rfl (by decide) (by omega) v199 y198 y213 _ _ _ (fun k_ => (P0_ k_ ∨ w.heap.size ≤ k_) ∧ some k_ ≠ (.slice Ao79 y213.length co79 : Value).ownBlock) (fun _ => False) rfl rfl ?aO ?aR (fun _ _ h => h) (fun _ h => h.elim) ?aF ?aB ?aS ?aL ?_; (case aR => repeat (first | exact (Kd.R_reads' HO215.out).2.2 | (with_reducible refine Kd.C_alloc ?_ _) | (with_reducible refine Kd.C_drewN ?_ _) | (with_reducible refine Kd.C_drew ?_))); (case aB => exact (by repeat (first | (with_reducible first | exact HB.out | apply below_alloc | apply pw_below_drewN | apply below_drew1) | exact HB.out))); (case aF => exact (fun k_ hk => ⟨(.inr (Nat.le_trans (by first | exact HK.out.1 | exact (show Kept w _ (fun k_ => P0_ k_) from by repeat (first | (with_reducible first | exact HK.out | apply Kept.alloc | apply Kept.drewN | apply Kept.drew) | exact HK.out)).1) hk)), Kd.fresh' (Kd.R_lt (by (with_reducible repeat (first | apply Kd.R_alloc | apply Kd.R_drewN | apply Kd.R_drew)); exact HO215.out)) k_ hk⟩)); (case aO => exact (by (with_reducible repeat (first | apply Kd.R_alloc | apply Kd.R_drewN | apply Kd.R_drew)); exact HO200.out)); (case aS => exact (below_size (by repeat (first | (with_reducible first | exact HB.out | apply below_alloc | apply pw_below_drewN | apply below_drew1) | exact HB.out)))); (case aL => have := LMc74.out; omega); intro v217 w78 ho hb hg hat; rw [← Ny216.out] at ho; have n0_ := Aside0.mk (Kd.R_after (ok := (fun k_ => (P0_ k_ ∨ w.heap.size ≤ k_))) (by (with_reducible repeat (first | apply Kd.R_alloc | apply Kd.R_drewN | apply Kd.R_drew)); exact Kd.R_mono HO215.out (fun _ hk => ⟨hk.1.1, hk.2⟩)) hg hat); have n1_ := Aside0.mk (hb); have n2_ := Aside0.mk (Kept.of_grown (S := (fun k_ => P0_ k_)) hg (by repeat (first | (with_reducible first | exact HK.out | apply Kept.alloc | apply Kept.drewN | apply Kept.drew) | exact HK.out)) (fun k_ e_ => (HO200.out.1 k_ e_).1)); have n3_ := Aside0.mk (ho); clear HO215; clear HB; clear HK; clear HO200; have HO215 := n0_; have HB := n1_; have HK := n2_; have HO218 := n3_; clear n0_ n1_ n2_ n3_; clear ho hb hg hat))
                        go_ret
                        exact ⟨_, by first | rfl | (simp [errW_none, errW_some] <;> rfl) | (simp [*, errW_none, errW_some] <;> rfl), by (with_reducible repeat (first | apply Kd.R_alloc | apply Kd.R_drewN | apply Kd.R_drew)); exact Kd.R_mono HO218.out (fun _ hk => hk.1), by repeat (first | (with_reducible first | exact HB.out | apply below_alloc | apply pw_below_drewN | apply below_drew1) | exact HB.out), by repeat (first | (with_reducible first | exact HK.out | apply Kept.alloc | apply Kept.drewN | apply Kept.drew) | exact HK.out)⟩
                       ·
                        rw [if_neg c74] at H
                        exact absurd H (by simp)
                    ·
                     rw [if_neg c59] at H
                     exact absurd H (by simp)
               ·
                rw [if_neg c53] at H
                exact absurd H (by simp)
            ·
             rw [if_neg c36] at H
             exact absurd H (by simp)
       ·
        replace c28 := Bool.eq_false_iff.mpr c28
        subst c28
        have H1 : (if x6_10 = 102 then (if a1 = true then (if l0.length < 140737488355328 then (strconv_fmtEFG.j14 kj25 (l0 ++ [45]) l2 a3 a4 x5_10) else (none)) else (strconv_fmtEFG.j14 kj25 l0 l2 a3 a4 x5_10)) else ((some (([37, x6_10] : List Int) : List Int)).bind fun y249 => (if l0.length + y249.length < 140737488355328 then (some (l0 ++ y249)) else (none)))) = some r := by rw [if_neg (show ¬ (false = true) by decide)] at H; exact H
        clear H
        have H := H1
        clear H1
        by_cases c80 : x6_10 = 102
        ·
         rw [if_pos c80] at H
         have c80b0 : (x6_10 == 102) = true := beq_iff_eq.mpr c80
         have c80b1 : (x6_10 != 102) = false := bne_eq_false_iff_eq.mpr c80
         clear c80
         have HC81 := Aside0.mk H
         clear H
         go_upto_if 178 with (fail)
         go_cut [0] (fun v0 wc => ∃ (kq : Nat) (x0_80 : List Int), Aside0 (strconv_fmtEFG.j14 kq x0_80 l2 a3 a4 x5_10 = some r) ∧ Aside0 (kq ≤ kj25) ∧ Aside0 (Kd.R (Kd.int .u8) 5 wc w0.heap.size (fun k_ => (P0_ k_ ∨ w.heap.size ≤ k_)) v0 x0_80) ∧ Aside0 (Kept w wc (fun k_ => P0_ k_)) ∧ Aside0 (Below w0.heap.size w0 wc))
         case first =>
          have H := HC81.out
          clear HC81
          by_cases c82 : a1 = true
          ·
           subst c82
           have H1 : (if l0.length < 140737488355328 then (strconv_fmtEFG.j14 kj25 (l0 ++ [45]) l2 a3 a4 x5_10) else (none)) = some r := by rw [if_pos rfl] at H; exact H
           clear H
           have H := H1
           clear H1
           by_cases c83 : l0.length < 140737488355328
           ·
            rw [if_pos c83] at H
            have LMc83 := Aside0.mk c83
            clear c83
            obtain ⟨y219, hy219⟩ : ∃ y_ : List Int, y_ = (l0 ++ [45]) := ⟨_, rfl⟩
            replace H : (strconv_fmtEFG.j14 kj25 y219 l2 a3 a4 x5_10) = some r := by first | (rw [hy219]; with_reducible exact H) | (have H2_ := (Option.bind_some _ _).symm.trans H; rw [hy219]; with_reducible exact H2_) | (have H2_ := (Option.bind_some _ _).symm.trans H; with_reducible exact H2_) | with_reducible exact H | (rw [hy219]; exact H) | exact H
            have Ny219 := Aside0.mk hy219
            clear hy219
            have H' := Aside0.mk H
            clear H
            go_wp2_with (first | ((with_reducible refine gate_builtin (b := .append) (xs := #[.tmp 179, .tmp 180]) rfl ?_); at_builtin; refine Kd.R_append (Kd.int .u8) (w0 := w0) w0.heap.size rfl (.tmp 179) (.tmp 180) 27 5 (.int .u8 0) 1 rfl Tryz.underlying27 info5 rfl (by decide) (by omega) u9000_ l0 45 [.int .u8 45] (fun k_ => (P0_ k_ ∨ w.heap.size ≤ k_)) (fun _ => False) rfl rfl ?aP (fun _ hk => hk.elim) ?aF ?aO ?aB ?aS ?aL ?_; (case aP => exact rfl); (case aB => exact (by repeat (first | (with_reducible first | exact HB.out | apply below_alloc | apply pw_below_drewN | apply below_drew1) | exact HB.out))); (case aF => exact (fun k_ hk => (.inr (Nat.le_trans (by first | exact HK.out.1 | exact (show Kept w _ (fun k_ => P0_ k_) from by repeat (first | (with_reducible first | exact HK.out | apply Kept.alloc | apply Kept.drewN | apply Kept.drew) | exact HK.out)).1) hk)))); (case aO => exact (by (with_reducible repeat (first | apply Kd.R_alloc | apply Kd.R_drewN | apply Kd.R_drew)); exact HO_0.out)); (case aS => exact (below_size (by repeat (first | (with_reducible first | exact HB.out | apply below_alloc | apply pw_below_drewN | apply below_drew1) | exact HB.out)))); (case aL => have := LMc83.out; omega); intro v220 w84 ho hb hg hat; rw [← Ny219.out] at ho; have n0_ := Aside0.mk (hb); have n1_ := Aside0.mk (Kept.of_grown (S := (fun k_ => P0_ k_)) hg (by repeat (first | (with_reducible first | exact HK.out | apply Kept.alloc | apply Kept.drewN | apply Kept.drew) | exact HK.out)) (fun k_ e_ => (HO_0.out.1 k_ e_))); have n2_ := Aside0.mk (ho); clear HB; clear HK; clear HO_0; have HB := n0_; have HK := n1_; have HO221 := n2_; clear n0_ n1_ n2_; clear ho hb hg hat))
            go_meet
            case rel => exact ⟨_, (y219), H', ⟨by have := HJ8.out; have := HJ10.out; have := HJ25.out; first | omega | exact Nat.le_refl _⟩, ⟨by (with_reducible repeat (first | apply Kd.R_alloc | apply Kd.R_drewN | apply Kd.R_drew)); exact HO221.out⟩, ⟨by repeat (first | (with_reducible first | exact HK.out | apply Kept.alloc | apply Kept.drewN | apply Kept.drew) | exact HK.out)⟩, ⟨by repeat (first | (with_reducible first | exact HB.out | apply below_alloc | apply pw_below_drewN | apply below_drew1) | exact HB.out)⟩⟩
           ·
            rw [if_neg c83] at H
            exact absurd H (by simp)
          ·
           replace c82 := Bool.eq_false_iff.mpr c82
           subst c82
           have H1 : (strconv_fmtEFG.j14 kj25 l0 l2 a3 a4 x5_10) = some r := by rw [if_neg (show ¬ (false = true) by decide)] at H; exact H
           clear H
           have H := H1
           clear H1
           have H' := Aside0.mk H
           clear H
           go_wp2
           go_meet
           case rel => exact ⟨_, (l0), H', ⟨by have := HJ8.out; have := HJ10.out; have := HJ25.out; first | omega | exact Nat.le_refl _⟩, ⟨by (with_reducible repeat (first | apply Kd.R_alloc | apply Kd.R_drewN | apply Kd.R_drew)); exact HO_0.out⟩, ⟨by repeat (first | (with_reducible first | exact HK.out | apply Kept.alloc | apply Kept.drewN | apply Kept.drew) | exact HK.out)⟩, ⟨by repeat (first | (with_reducible first | exact HB.out | apply below_alloc | apply pw_below_drewN | apply below_drew1) | exact HB.out)⟩⟩
         case rest => as_aux_lemma =>
          clear HC81
          try clear c1
          try clear p1
          try clear q1
          try clear hx1
          try clear qi1
          try clear c2
          try clear p2
          try clear c3
          try clear c4
          try clear q4
          try clear c5
          try clear c6
          try clear p6
          try clear c7
          try clear c8
          try clear c10
          try clear c10b0
          try clear c10b1
          try clear c12
          try clear c14
          try clear c14b0
          try clear c16
          try clear p17
          try clear q17
          try clear hx17
          try clear qi17
          try clear c18
          try clear c20
          try clear c20b0
          try clear c21
          try clear c22
          try clear c22b0
          try clear c23
          try clear c23b0
          try clear c27
          try clear c27b0
          try clear c27b1
          try clear c28
          try clear c30
          try clear c31
          try clear c34
          try clear c34b0
          try clear c34b1
          try clear c35
          try clear c35b0
          try clear c35b1
          try clear c36
          try clear c39
          try clear c39b0
          try clear c40
          try clear c44
          try clear c44b0
          try clear c45
          try clear c45b0
          try clear c45b1
          try clear c46
          try clear c46b0
          try clear c46b1
          try clear c47
          try clear c48
          try clear q48
          try clear c50
          try clear c50b0
          try clear c51
          try clear c53
          try clear c56
          try clear c56b0
          try clear c56b1
          try clear c58
          try clear c58b0
          try clear c59
          try clear c60
          try clear c60b0
          try clear c61
          try clear p64
          try clear c67
          try clear c67b0
          try clear c68
          try clear c74
          try clear c80
          try clear c80b0
          try clear c80b1
          try clear c82
          try clear c83
          try clear hx178_0
          try clear p1
          try clear p17
          try clear p178
          try clear p2
          try clear p6
          try clear q1
          try clear q17
          try clear q178
          try clear q4
          try clear q48
          obtain ⟨kq, x0_80, HA, HJ80, HO_0, HK, HB⟩ := hcut
          cases kq with
          | zero => exact absurd HA.out (by simp [strconv_fmtEFG.j14])
          | succ kj80 =>
           have H := HA.out
           clear HA
           simp only [strconv_fmtEFG.j14] at H
           have HC85 := Aside0.mk H
           clear H
           go_upto_if 183 with (fail)
           go_cut [0] (fun v0 wc => ∃ (kq : Nat) (x0_84 : List Int), Aside0 (strconv_fmtEFG.j17 kq x0_84 l2 a3 a4 x5_10 = some r) ∧ Aside0 (kq ≤ kj80) ∧ Aside0 (Kd.R (Kd.int .u8) 5 wc w0.heap.size (fun k_ => (P0_ k_ ∨ w.heap.size ≤ k_)) v0 x0_84) ∧ Aside0 (Kept w wc (fun k_ => P0_ k_)) ∧ Aside0 (Below w0.heap.size w0 wc))
           case first =>
            have H := HC85.out
            clear HC85
            by_cases c86 : a3 > 0
            ·
             rw [if_pos c86] at H
             have c86b0 : decide (0 < a3) = true := decide_eq_true c86
             clear c86
             (first | rw [c86b0] | (simp only [i64_w, i32_w]; rw [c86b0]) | skip)
             obtain ⟨ji87, hji87⟩ : ∃ j_ : Int, (mn a4 a3) = j_ := ⟨_, rfl⟩
             replace H : (if 0 ≤ (ji87) then (if (ji87) ≤ (l2.length : Int) then ((some (l2.take ((ji87) : Int).toNat : List Int)).bind fun y222 => (strconv_fmtEFG.l1 kj80 x0_80 l2 a3 a4 x5_10 ji87 y222 (y222.length : Int) 0)) else (none)) else (none)) = some r := by first | (rw [hji87] at H; exact H) | (simp only [hji87] at H ⊢; exact H)
             have hji87_ : (if a3 < a4 then a3 else a4) = ji87 := hji87
             by_cases c88 : 0 ≤ (ji87)
             ·
              rw [if_pos c88] at H
              have c88b0 := eq_true c88
              have c88b1 : decide (0 ≤ (ji87)) = true := decide_eq_true c88
              clear c88
              by_cases c89 : (ji87) ≤ (l2.length : Int)
              ·
               rw [if_pos c89] at H
               have c89b0 := eq_true c89
               have c89b1 : decide ((ji87) ≤ (l2.length : Int)) = true := decide_eq_true c89
               clear c89
               obtain ⟨y222, hy222⟩ : ∃ y_ : List Int, y_ = (l2.take ((ji87) : Int).toNat) := ⟨_, rfl⟩
               replace H : (strconv_fmtEFG.l1 kj80 x0_80 l2 a3 a4 x5_10 ji87 y222 (y222.length : Int) 0) = some r := by first | (rw [hy222]; with_reducible exact H) | (have H2_ := (Option.bind_some _ _).symm.trans H; rw [hy222]; with_reducible exact H2_) | (have H2_ := (Option.bind_some _ _).symm.trans H; with_reducible exact H2_) | with_reducible exact H | (rw [hy222]; exact H) | exact H
               have Ny222 := Aside0.mk hy222
               clear hy222
               have H' := Aside0.mk H
               clear H
               have q90 : ((ji87) : Int) ≤ ((l2.length : Int) : Int) := of_decide_eq_true (by first | (with_reducible assumption) | assumption)
               obtain ⟨i090, hi090, _, hsz90, _⟩ := info_parts info5
               have hroom90 : l2.length ≤ c2 := HC2.out
               have hC90 : Kd.C (Kd.int .u8) _ A2 l2.length l2 := (Kd.C_kept_now HR2.out HK.out)
               have hcut90 := cut_to (P := Tryz.prog) 27 5 .i64 Tryz.underlying27 hi090 A2 l2.length c2 (ji87) (of_decide_eq_true (by first | (with_reducible assumption) | assumption)) q90 hroom90
               have hr90 := Kd.C_take (m := ((ji87) : Int).toNat) hC90 (by omega)
               have hy90 : y222.length = ((ji87) : Int).toNat := (by rw [Ny222.out, List.length_take]; omega)
               rw [← Ny222.out] at hr90
               rw [← hy90] at hcut90
               have HR225 := Aside0.mk hr90
               have HC225 := Aside0.mk (show y222.length ≤ c2 from by omega)
               clear hr90 hC90 hroom90 hi090 hsz90
               have KY90 := Aside0.mk hy90
               clear hy90
               have KL90 := Aside0.mk (show ((ji87) : Int).toNat ≤ l2.length from by omega)
               replace q90 := eq_true q90
               go_wp2
               (try simp only [Act.put, List.setIfInBounds_toArray, List.set_cons_zero, List.set_cons_succ])
               go_loopg [0, 191] kj80 (fun kq v0 v191 w' => ∃ (x0_5 : List Int) (x191_5 : Int), v191 = .int .i64 x191_5 ∧ Aside0 (strconv_fmtEFG.l1 kq x0_5 l2 a3 a4 x5_10 ji87 y222 (y222.length : Int) x191_5 = some r) ∧ Aside0 (kq ≤ kj80) ∧ Aside0 (Kd.R (Kd.int .u8) 5 w' w0.heap.size (fun k_ => (P0_ k_ ∨ w.heap.size ≤ k_)) v0 x0_5) ∧ Aside0 (Kd.C (Kd.int .u8) w' A2 y222.length y222) ∧ Aside0 (Kept w w' (fun k_ => P0_ k_)) ∧ Aside0 (Below w0.heap.size w0 w'))
               case atStart => exact ⟨(x0_80), (0), (by first | rfl | (simp; done) | (simp [*]; done)), H', ⟨Nat.le_refl _⟩, ⟨by (with_reducible repeat (first | apply Kd.R_alloc | apply Kd.R_drewN | apply Kd.R_drew)); exact HO_0.out⟩, ⟨by repeat (first | (with_reducible exact HR225.out) | (with_reducible refine Kd.C_alloc ?_ _) | (with_reducible refine Kd.C_drewN ?_ _) | (with_reducible refine Kd.C_drew ?_) | exact HR225.out)⟩, ⟨by repeat (first | (with_reducible first | exact HK.out | apply Kept.alloc | apply Kept.drewN | apply Kept.drew) | exact HK.out)⟩, ⟨by repeat (first | (with_reducible first | exact HB.out | apply below_alloc | apply pw_below_drewN | apply below_drew1) | exact HB.out)⟩⟩
               case round =>
                clear H'
                try clear c1
                try clear p1
                try clear q1
                try clear hx1
                try clear qi1
                try clear c2
                try clear p2
                try clear c3
                try clear c4
                try clear q4
                try clear c5
                try clear c6
                try clear p6
                try clear c7
                try clear c8
                try clear q9
                try clear c10
                try clear c10b0
                try clear c10b1
                try clear c12
                try clear c14
                try clear c14b0
                try clear c16
                try clear p17
                try clear q17
                try clear hx17
                try clear qi17
                try clear c18
                try clear c20
                try clear c20b0
                try clear c21
                try clear c22
                try clear c22b0
                try clear c23
                try clear c23b0
                try clear c27
                try clear c27b0
                try clear c27b1
                try clear c28
                try clear c30
                try clear c31
                try clear c34
                try clear c34b0
                try clear c34b1
                try clear c35
                try clear c35b0
                try clear c35b1
                try clear c36
                try clear c39
                try clear c39b0
                try clear c40
                try clear c44
                try clear c44b0
                try clear c45
                try clear c45b0
                try clear c45b1
                try clear c46
                try clear c46b0
                try clear c46b1
                try clear c47
                try clear c48
                try clear q48
                try clear c50
                try clear c50b0
                try clear c51
                try clear c53
                try clear c56
                try clear c56b0
                try clear c56b1
                try clear c58
                try clear c58b0
                try clear c59
                try clear c60
                try clear c60b0
                try clear c61
                try clear p64
                try clear c67
                try clear c67b0
                try clear c68
                try clear c74
                try clear c80
                try clear c80b0
                try clear c80b1
                try clear c82
                try clear c83
                try clear c86
                try clear c86b0
                try clear c88
                try clear c88b0
                try clear c88b1
                try clear c89
                try clear c89b0
                try clear c89b1
                try clear q90
                try clear hx178_0
                try clear p1
                try clear p17
                try clear p178
                try clear p2
                try clear p6
                try clear p64
                try clear q1
                try clear q17
                try clear q178
                try clear q4
                try clear q48
                try clear q90
                obtain ⟨x0_5, x191_5, rfl, HA, HK5, HO_0, HR225, HK, HB⟩ := hrel
                cases gk with
                | zero => exact absurd HA.out (by simp [strconv_fmtEFG.l1])
                | succ k5 =>
                 have H := HA.out
                 clear HA
                 simp only [strconv_fmtEFG.l1] at H
                 by_cases c91 : x191_5 < (y222.length : Int)
                 ·
                  rw [if_pos c91] at H
                  have c91b0 : decide (x191_5 < (y222.length : Int)) = true := decide_eq_true c91
                  clear c91
                  by_cases c92 : 0 ≤ x191_5
                  ·
                   rw [if_pos c92] at H
                   have c92b0 : decide (0 ≤ x191_5) = true := decide_eq_true c92
                   clear c92
                   by_cases c93 : x191_5 < (y222.length : Int)
                   ·
                    rw [if_pos c93] at H
                    have c93b0 : decide (x191_5 < (y222.length : Int)) = true := decide_eq_true c93
                    clear c93
                    by_cases c94 : x0_5.length < 140737488355328
                    ·
                     rw [if_pos c94] at H
                     have LMc94 := Aside0.mk c94
                     clear c94
                     obtain ⟨y227, hy227⟩ : ∃ y_ : List Int, y_ = (x0_5 ++ [rd y222 x191_5]) := ⟨_, rfl⟩
                     replace H : (strconv_fmtEFG.l1 k5 y227 l2 a3 a4 x5_10 ji87 y222 (y222.length : Int) (wrap64 (x191_5 + 1))) = some r := by first | (rw [hy227]; with_reducible exact H) | (have H2_ := (Option.bind_some _ _).symm.trans H; rw [hy227]; with_reducible exact H2_) | (have H2_ := (Option.bind_some _ _).symm.trans H; with_reducible exact H2_) | with_reducible exact H | (rw [hy227]; exact H) | exact H
                     have Ny227 := Aside0.mk hy227
                     clear hy227
                     have H' := Aside0.mk H
                     clear H
                     have p226 : 0 ≤ (x191_5 : Int) := of_decide_eq_true (by first | (with_reducible assumption) | assumption)
                     have q226 : x191_5 < (y222.length : Int) := of_decide_eq_true (by first | (with_reducible assumption) | assumption)
                     obtain ⟨ad226, e226, hx226_0⟩ := Kd.at_int HR225.out x191_5 p226 q226
                     cases e226
                     replace p226 := eq_true p226
                     replace q226 := eq_true q226
                     go_wp2_with (first | ((with_reducible refine gate_builtin (b := .append) (xs := #[.tmp 195, .tmp 197]) rfl ?_); at_builtin; refine Kd.R_append (Kd.int .u8) (w0 := w0) w0.heap.size rfl (.tmp 195) (.tmp 197) 27 5 (.int .u8 0) 1 rfl Tryz.underlying27 info5 rfl (by decide) (by omega) u0 x0_5 (rd y222 x191_5) [.int .u8 (rd y222 x191_5)] (fun k_ => (P0_ k_ ∨ w.heap.size ≤ k_)) (fun _ => False) rfl rfl ?aP (fun _ hk => hk.elim) ?aF ?aO ?aB ?aS ?aL ?_; (case aP => exact rfl); (case aB => exact (by repeat (first | (with_reducible first | exact HB.out | apply below_alloc | apply pw_below_drewN | apply below_drew1) | exact HB.out))); (case aF => exact (fun k_ hk => (.inr (Nat.le_trans (by first | exact HK.out.1 | exact (show Kept w _ (fun k_ => P0_ k_) from by repeat (first | (with_reducible first | exact HK.out | apply Kept.alloc | apply Kept.drewN | apply Kept.drew) | exact HK.out)).1) hk)))); (case aO => exact (by (with_reducible repeat (first | apply Kd.R_alloc | apply Kd.R_drewN | apply Kd.R_drew)); exact HO_0.out)); (case aS => exact (below_size (by repeat (first | (with_reducible first | exact HB.out | apply below_alloc | apply pw_below_drewN | apply below_drew1) | exact HB.out)))); (case aL => have := LMc94.out; omega); intro v228 w95 ho hb hg hat; rw [← Ny227.out] at ho; have n0_ := Aside0.mk (hb); have n1_ := Aside0.mk (Kept.of_grown (S := (fun k_ => P0_ k_)) hg (by repeat (first | (with_reducible first | exact HK.out | apply Kept.alloc | apply Kept.drewN | apply Kept.drew) | exact HK.out)) (fun k_ e_ => (HO_0.out.1 k_ e_))); have n2_ := Aside0.mk ((show Kd.C (Kd.int .u8) w95 (some ad226) y222.length y222 from by rw [Ny222.out]; exact Kd.C_take (m := ((ji87) : Int).toNat) (Kd.C_kept_now HR2.out (show Kept w w95 (fun k_ => P0_ k_) from (Kept.of_grown (S := (fun k_ => P0_ k_)) hg (by repeat (first | (with_reducible first | exact HK.out | apply Kept.alloc | apply Kept.drewN | apply Kept.drew) | exact HK.out)) (fun k_ e_ => (HO_0.out.1 k_ e_))))) KL90.out)); have n3_ := Aside0.mk (ho); clear HB; clear HK; clear HR225; clear HO_0; have HB := n0_; have HK := n1_; have HR225 := n2_; have HO229 := n3_; clear n0_ n1_ n2_ n3_; clear ho hb hg hat))
                     go_roundg k5
                     case measure => have := HJ8.out; have := HJ10.out; have := HJ25.out; have := HJ80.out; have := HK5.out; omega
                     case rel => exact ⟨(y227), (wrap64 (x191_5 + 1)), (by first | rfl | (simp; done) | (simp [*]; done)), H', ⟨by have := HJ8.out; have := HJ10.out; have := HJ25.out; have := HJ80.out; have := HK5.out; omega⟩, ⟨by (with_reducible repeat (first | apply Kd.R_alloc | apply Kd.R_drewN | apply Kd.R_drew)); exact HO229.out⟩, ⟨by repeat (first | (with_reducible exact HR225.out) | (with_reducible refine Kd.C_alloc ?_ _) | (with_reducible refine Kd.C_drewN ?_ _) | (with_reducible refine Kd.C_drew ?_) | exact HR225.out)⟩, ⟨by repeat (first | (with_reducible first | exact HK.out | apply Kept.alloc | apply Kept.drewN | apply Kept.drew) | exact HK.out)⟩, ⟨by repeat (first | (with_reducible first | exact HB.out | apply below_alloc | apply pw_below_drewN | apply below_drew1) | exact HB.out)⟩⟩
                    ·
                     rw [if_neg c94] at H
                     exact absurd H (by simp)
                   ·
                    rw [if_neg c93] at H
                    exact absurd H (by simp)
                  ·
                   rw [if_neg c92] at H
                   exact absurd H (by simp)
                 ·
                  rw [if_neg c91] at H
                  have c91b0 : decide (x191_5 < (y222.length : Int)) = false := decide_eq_false c91
                  clear c91
                  have H' := Aside0.mk H
                  clear H
                  go_wp2
                  (try simp only [Act.put, List.setIfInBounds_toArray, List.set_cons_zero, List.set_cons_succ])
                  go_loopg [0, 203] k5 (fun kq v0 v203 w' => ∃ (x0_6 : List Int) (x203_6 : Int), v203 = .int .i64 x203_6 ∧ Aside0 (strconv_fmtEFG.l2 kq x0_6 l2 a3 a4 x5_10 (wrap64 (a3 - ji87)) x203_6 = some r) ∧ Aside0 (kq ≤ k5) ∧ Aside0 (Kd.R (Kd.int .u8) 5 w' w0.heap.size (fun k_ => (P0_ k_ ∨ w.heap.size ≤ k_)) v0 x0_6) ∧ Aside0 (Kd.C (Kd.int .u8) w' A2 y222.length y222) ∧ Aside0 (Kept w w' (fun k_ => P0_ k_)) ∧ Aside0 (Below w0.heap.size w0 w'))
                  case atStart => exact ⟨(x0_5), (0), (by first | rfl | (simp; done) | (simp [*]; done)), H', ⟨Nat.le_refl _⟩, ⟨by (with_reducible repeat (first | apply Kd.R_alloc | apply Kd.R_drewN | apply Kd.R_drew)); exact HO_0.out⟩, ⟨by repeat (first | (with_reducible exact HR225.out) | (with_reducible refine Kd.C_alloc ?_ _) | (with_reducible refine Kd.C_drewN ?_ _) | (with_reducible refine Kd.C_drew ?_) | exact HR225.out)⟩, ⟨by repeat (first | (with_reducible first | exact HK.out | apply Kept.alloc | apply Kept.drewN | apply Kept.drew) | exact HK.out)⟩, ⟨by repeat (first | (with_reducible first | exact HB.out | apply below_alloc | apply pw_below_drewN | apply below_drew1) | exact HB.out)⟩⟩
                  case round =>
                   clear H'
                   try clear c1
                   try clear p1
                   try clear q1
                   try clear hx1
                   try clear qi1
                   try clear c2
                   try clear p2
                   try clear q2
                   try clear hx2
                   try clear c3
                   try clear c4
                   try clear q4
                   try clear c5
                   try clear c6
                   try clear p6
                   try clear c7
                   try clear c8
                   try clear c9
                   try clear q9
                   try clear c10
                   try clear c10b0
                   try clear c10b1
                   try clear c12
                   try clear c14
                   try clear c14b0
                   try clear c16
                   try clear p17
                   try clear q17
                   try clear hx17
                   try clear qi17
                   try clear c18
                   try clear c20
                   try clear c20b0
                   try clear c21
                   try clear c22
                   try clear c22b0
                   try clear p22
                   try clear q22
                   try clear hx22
                   try clear c23
                   try clear c23b0
                   try clear c27
                   try clear c27b0
                   try clear c27b1
                   try clear c28
                   try clear c30
                   try clear c31
                   try clear c34
                   try clear c34b0
                   try clear c34b1
                   try clear c35
                   try clear c35b0
                   try clear c35b1
                   try clear c36
                   try clear c39
                   try clear c39b0
                   try clear c40
                   try clear c44
                   try clear c44b0
                   try clear c45
                   try clear c45b0
                   try clear c45b1
                   try clear c46
                   try clear c46b0
                   try clear c46b1
                   try clear c47
                   try clear c48
                   try clear q48
                   try clear c50
                   try clear c50b0
                   try clear c51
                   try clear c53
                   try clear c56
                   try clear c56b0
                   try clear c56b1
                   try clear c58
                   try clear c58b0
                   try clear c59
                   try clear c60
                   try clear c60b0
                   try clear c61
                   try clear p64
                   try clear c67
                   try clear c67b0
                   try clear c68
                   try clear c74
                   try clear c80
                   try clear c80b0
                   try clear c80b1
                   try clear c82
                   try clear c83
                   try clear c86
                   try clear c86b0
                   try clear c88
                   try clear c88b0
                   try clear c88b1
                   try clear c89
                   try clear c89b0
                   try clear c89b1
                   try clear q90
                   try clear c91
                   try clear c91b0
                   try clear c92
                   try clear c92b0
                   try clear c93
                   try clear c93b0
                   try clear c94
                   try clear hx178_0
                   try clear hx226_0
                   try clear p1
                   try clear p17
                   try clear p178
                   try clear p2
                   try clear p226
                   try clear p6
                   try clear p64
                   try clear q1
                   try clear q17
                   try clear q178
                   try clear q226
                   try clear q4
                   try clear q48
                   try clear q9
                   try clear q90
                   obtain ⟨x0_6, x203_6, rfl, HA, HK6, HO_0, HR225, HK, HB⟩ := hrel
                   cases gk with
                   | zero => exact absurd HA.out (by simp [strconv_fmtEFG.l2])
                   | succ k6 =>
                    have H := HA.out
                    clear HA
                    simp only [strconv_fmtEFG.l2] at H
                    by_cases c96 : x203_6 < (wrap64 (a3 - ji87))
                    ·
                     rw [if_pos c96] at H
                     have c96b0 : decide (x203_6 < (wrap64 (a3 - ji87))) = true := decide_eq_true c96
                     clear c96
                     by_cases c97 : x0_6.length < 140737488355328
                     ·
                      rw [if_pos c97] at H
                      have LMc97 := Aside0.mk c97
                      clear c97
                      obtain ⟨y230, hy230⟩ : ∃ y_ : List Int, y_ = (x0_6 ++ [48]) := ⟨_, rfl⟩
                      replace H : (strconv_fmtEFG.l2 k6 y230 l2 a3 a4 x5_10 (wrap64 (a3 - ji87)) (wrap64 (x203_6 + 1))) = some r := by first | (rw [hy230]; with_reducible exact H) | (have H2_ := (Option.bind_some _ _).symm.trans H; rw [hy230]; with_reducible exact H2_) | (have H2_ := (Option.bind_some _ _).symm.trans H; with_reducible exact H2_) | with_reducible exact H | (rw [hy230]; exact H) | exact H
                      have Ny230 := Aside0.mk hy230
                      clear hy230
                      have H' := Aside0.mk H
                      clear H
                      go_wp2_with (first | ((with_reducible refine gate_builtin (b := .append) (xs := #[.tmp 205, .tmp 206]) rfl ?_); at_builtin; refine Kd.R_append (Kd.int .u8) (w0 := w0) w0.heap.size rfl (.tmp 205) (.tmp 206) 27 5 (.int .u8 0) 1 rfl Tryz.underlying27 info5 rfl (by decide) (by omega) u0 x0_6 48 [.int .u8 48] (fun k_ => (P0_ k_ ∨ w.heap.size ≤ k_)) (fun _ => False) rfl rfl ?aP (fun _ hk => hk.elim) ?aF ?aO ?aB ?aS ?aL ?_; (case aP => exact rfl); (case aB => exact (by repeat (first | (with_reducible first | exact HB.out | apply below_alloc | apply pw_below_drewN | apply below_drew1) | exact HB.out))); (case aF => exact (fun k_ hk => (.inr (Nat.le_trans (by first | exact HK.out.1 | exact (show Kept w _ (fun k_ => P0_ k_) from by repeat (first | (with_reducible first | exact HK.out | apply Kept.alloc | apply Kept.drewN | apply Kept.drew) | exact HK.out)).1) hk)))); (case aO => exact (by (with_reducible repeat (first | apply Kd.R_alloc | apply Kd.R_drewN | apply Kd.R_drew)); exact HO_0.out)); (case aS => exact (below_size (by repeat (first | (with_reducible first | exact HB.out | apply below_alloc | apply pw_below_drewN | apply below_drew1) | exact HB.out)))); (case aL => have := LMc97.out; omega); intro v231 w98 ho hb hg hat; rw [← Ny230.out] at ho; have n0_ := Aside0.mk (hb); have n1_ := Aside0.mk (Kept.of_grown (S := (fun k_ => P0_ k_)) hg (by repeat (first | (with_reducible first | exact HK.out | apply Kept.alloc | apply Kept.drewN | apply Kept.drew) | exact HK.out)) (fun k_ e_ => (HO_0.out.1 k_ e_))); have n2_ := Aside0.mk ((show Kd.C (Kd.int .u8) w98 A2 y222.length y222 from by rw [Ny222.out]; exact Kd.C_take (m := ((ji87) : Int).toNat) (Kd.C_kept_now HR2.out (show Kept w w98 (fun k_ => P0_ k_) from (Kept.of_grown (S := (fun k_ => P0_ k_)) hg (by repeat (first | (with_reducible first | exact HK.out | apply Kept.alloc | apply Kept.drewN | apply Kept.drew) | exact HK.out)) (fun k_ e_ => (HO_0.out.1 k_ e_))))) KL90.out)); have n3_ := Aside0.mk (ho); clear HB; clear HK; clear HR225; clear HO_0; have HB := n0_; have HK := n1_; have HR225 := n2_; have HO232 := n3_; clear n0_ n1_ n2_ n3_; clear ho hb hg hat))
                      go_roundg k6
                      case measure => have := HJ8.out; have := HJ10.out; have := HJ25.out; have := HJ80.out; have := HK5.out; have := HK6.out; omega
                      case rel => exact ⟨(y230), (wrap64 (x203_6 + 1)), (by first | rfl | (simp; done) | (simp [*]; done)), H', ⟨by have := HJ8.out; have := HJ10.out; have := HJ25.out; have := HJ80.out; have := HK5.out; have := HK6.out; omega⟩, ⟨by (with_reducible repeat (first | apply Kd.R_alloc | apply Kd.R_drewN | apply Kd.R_drew)); exact HO232.out⟩, ⟨by repeat (first | (with_reducible exact HR225.out) | (with_reducible refine Kd.C_alloc ?_ _) | (with_reducible refine Kd.C_drewN ?_ _) | (with_reducible refine Kd.C_drew ?_) | exact HR225.out)⟩, ⟨by repeat (first | (with_reducible first | exact HK.out | apply Kept.alloc | apply Kept.drewN | apply Kept.drew) | exact HK.out)⟩, ⟨by repeat (first | (with_reducible first | exact HB.out | apply below_alloc | apply pw_below_drewN | apply below_drew1) | exact HB.out)⟩⟩
                     ·
                      rw [if_neg c97] at H
                      exact absurd H (by simp)
                    ·
                     rw [if_neg c96] at H
                     have c96b0 : decide (x203_6 < (wrap64 (a3 - ji87))) = false := decide_eq_false c96
                     clear c96
                     have H' := Aside0.mk H
                     clear H
                     go_wp2
                     go_meet
                     case rel => exact ⟨_, (x0_6), H', ⟨by have := HJ8.out; have := HJ10.out; have := HJ25.out; have := HJ80.out; have := HK5.out; have := HK6.out; first | omega | exact Nat.le_refl _⟩, ⟨by (with_reducible repeat (first | apply Kd.R_alloc | apply Kd.R_drewN | apply Kd.R_drew)); exact HO_0.out⟩, ⟨by repeat (first | (with_reducible first | exact HK.out | apply Kept.alloc | apply Kept.drewN | apply Kept.drew) | exact HK.out)⟩, ⟨by repeat (first | (with_reducible first | exact HB.out | apply below_alloc | apply pw_below_drewN | apply below_drew1) | exact HB.out)⟩⟩
              ·
               rw [if_neg c89] at H
               exact absurd H (by simp)
             ·
              rw [if_neg c88] at H
              exact absurd H (by simp)
            ·
             rw [if_neg c86] at H
             have c86b0 : decide (0 < a3) = false := decide_eq_false c86
             clear c86
             (first | rw [c86b0] | (simp only [i64_w, i32_w]; rw [c86b0]) | skip)
             by_cases c99 : x0_80.length < 140737488355328
             ·
              rw [if_pos c99] at H
              have LMc99 := Aside0.mk c99
              clear c99
              obtain ⟨y233, hy233⟩ : ∃ y_ : List Int, y_ = (x0_80 ++ [48]) := ⟨_, rfl⟩
              replace H : (strconv_fmtEFG.j17 kj80 y233 l2 a3 a4 x5_10) = some r := by first | (rw [hy233]; with_reducible exact H) | (have H2_ := (Option.bind_some _ _).symm.trans H; rw [hy233]; with_reducible exact H2_) | (have H2_ := (Option.bind_some _ _).symm.trans H; with_reducible exact H2_) | with_reducible exact H | (rw [hy233]; exact H) | exact H
              have Ny233 := Aside0.mk hy233
              clear hy233
              have H' := Aside0.mk H
              clear H
              go_wp2_with (first | ((with_reducible refine gate_builtin (b := .append) (xs := #[.tmp 209, .tmp 210]) rfl ?_); at_builtin; refine Kd.R_append (Kd.int .u8) (w0 := w0) w0.heap.size rfl (.tmp 209) (.tmp 210) 27 5 (.int .u8 0) 1 rfl Tryz.underlying27 info5 rfl (by decide) (by omega) u0 x0_80 48 [.int .u8 48] (fun k_ => (P0_ k_ ∨ w.heap.size ≤ k_)) (fun _ => False) rfl rfl ?aP (fun _ hk => hk.elim) ?aF ?aO ?aB ?aS ?aL ?_; (case aP => exact rfl); (case aB => exact (by repeat (first | (with_reducible first | exact HB.out | apply below_alloc | apply pw_below_drewN | apply below_drew1) | exact HB.out))); (case aF => exact (fun k_ hk => (.inr (Nat.le_trans (by first | exact HK.out.1 | exact (show Kept w _ (fun k_ => P0_ k_) from by repeat (first | (with_reducible first | exact HK.out | apply Kept.alloc | apply Kept.drewN | apply Kept.drew) | exact HK.out)).1) hk)))); (case aO => exact (by (with_reducible repeat (first | apply Kd.R_alloc | apply Kd.R_drewN | apply Kd.R_drew)); exact HO_0.out)); (case aS => exact (below_size (by repeat (first | (with_reducible first | exact HB.out | apply below_alloc | apply pw_below_drewN | apply below_drew1) | exact HB.out)))); (case aL => have := LMc99.out; omega); intro v234 w100 ho hb hg hat; rw [← Ny233.out] at ho; have n0_ := Aside0.mk (hb); have n1_ := Aside0.mk (Kept.of_grown (S := (fun k_ => P0_ k_)) hg (by repeat (first | (with_reducible first | exact HK.out | apply Kept.alloc | apply Kept.drewN | apply Kept.drew) | exact HK.out)) (fun k_ e_ => (HO_0.out.1 k_ e_))); have n2_ := Aside0.mk (ho); clear HB; clear HK; clear HO_0; have HB := n0_; have HK := n1_; have HO235 := n2_; clear n0_ n1_ n2_; clear ho hb hg hat))
              go_meet
              case rel => exact ⟨_, (y233), H', ⟨by have := HJ8.out; have := HJ10.out; have := HJ25.out; have := HJ80.out; first | omega | exact Nat.le_refl _⟩, ⟨by (with_reducible repeat (first | apply Kd.R_alloc | apply Kd.R_drewN | apply Kd.R_drew)); exact HO235.out⟩, ⟨by repeat (first | (with_reducible first | exact HK.out | apply Kept.alloc | apply Kept.drewN | apply Kept.drew) | exact HK.out)⟩, ⟨by repeat (first | (with_reducible first | exact HB.out | apply below_alloc | apply pw_below_drewN | apply below_drew1) | exact HB.out)⟩⟩
             ·
              rw [if_neg c99] at H
              exact absurd H (by simp)
           case rest => as_aux_lemma =>
            clear HC85
            try clear c1
            try clear p1
            try clear q1
            try clear hx1
            try clear qi1
            try clear c2
            try clear p2
            try clear q2
            try clear hx2
            try clear c3
            try clear c4
            try clear q4
            try clear c5
            try clear c6
            try clear p6
            try clear c7
            try clear c8
            try clear c9
            try clear q9
            try clear c10
            try clear c10b0
            try clear c10b1
            try clear c12
            try clear c14
            try clear c14b0
            try clear c16
            try clear p17
            try clear q17
            try clear hx17
            try clear qi17
            try clear c18
            try clear c20
            try clear c20b0
            try clear c21
            try clear c22
            try clear c22b0
            try clear p22
            try clear q22
            try clear hx22
            try clear c23
            try clear c23b0
            try clear c27
            try clear c27b0
            try clear c27b1
            try clear c28
            try clear c30
            try clear c31
            try clear c34
            try clear c34b0
            try clear c34b1
            try clear c35
            try clear c35b0
            try clear c35b1
            try clear c36
            try clear c39
            try clear c39b0
            try clear c40
            try clear c44
            try clear c44b0
            try clear c45
            try clear c45b0
            try clear c45b1
            try clear c46
            try clear c46b0
            try clear c46b1
            try clear c47
            try clear c48
            try clear q48
            try clear c50
            try clear c50b0
            try clear c51
            try clear c53
            try clear c56
            try clear c56b0
            try clear c56b1
            try clear c58
            try clear c58b0
            try clear c59
            try clear c60
            try clear c60b0
            try clear c61
            try clear p64
            try clear c67
            try clear c67b0
            try clear c68
            try clear c74
            try clear c80
            try clear c80b0
            try clear c80b1
            try clear c82
            try clear c83
            try clear c86
            try clear c86b0
            try clear c88
            try clear c88b0
            try clear c88b1
            try clear c89
            try clear c89b0
            try clear c89b1
            try clear q90
            try clear c91
            try clear c91b0
            try clear c92
            try clear c92b0
            try clear c93
            try clear c93b0
            try clear c94
            try clear c96
            try clear c96b0
            try clear c97
            try clear c99
            try clear hx178_0
            try clear hx226_0
            try clear p1
            try clear p17
            try clear p178
            try clear p2
            try clear p22
            try clear p226
            try clear p6
            try clear p64
            try clear q1
            try clear q17
            try clear q178
            try clear q2
            try clear q22
            try clear q226
            try clear q4
            try clear q48
            try clear q9
            try clear q90
            obtain ⟨kq, x0_84, HA, HJ84, HO_0, HK, HB⟩ := hcut
            cases kq with
            | zero => exact absurd HA.out (by simp [strconv_fmtEFG.j17])
            | succ kj84 =>
             have H := HA.out
             clear HA
             simp only [strconv_fmtEFG.j17] at H
             by_cases c101 : x5_10 > 0
             ·
              rw [if_pos c101] at H
              have c101b0 : decide (0 < x5_10) = true := decide_eq_true c101
              clear c101
              by_cases c102 : x0_84.length < 140737488355328
              ·
               rw [if_pos c102] at H
               have LMc102 := Aside0.mk c102
               clear c102
               obtain ⟨y236, hy236⟩ : ∃ y_ : List Int, y_ = (x0_84 ++ [46]) := ⟨_, rfl⟩
               replace H : (strconv_fmtEFG.l3 kj84 y236 l2 (wrap64 (a3 + (mn x5_10 (mx 0 (wrap64 (-a3)))))) (mn (wrap64 (x5_10 - (mn x5_10 (mx 0 (wrap64 (-a3)))))) (mx 0 (wrap64 (a4 - (wrap64 (a3 + (mn x5_10 (mx 0 (wrap64 (-a3)))))))))) (mx 0 (wrap64 ((wrap64 (x5_10 - (mn x5_10 (mx 0 (wrap64 (-a3)))))) - (mn (wrap64 (x5_10 - (mn x5_10 (mx 0 (wrap64 (-a3)))))) (mx 0 (wrap64 (a4 - (wrap64 (a3 + (mn x5_10 (mx 0 (wrap64 (-a3))))))))))))) (mn x5_10 (mx 0 (wrap64 (-a3)))) 0) = some r := by first | (rw [hy236]; with_reducible exact H) | (have H2_ := (Option.bind_some _ _).symm.trans H; rw [hy236]; with_reducible exact H2_) | (have H2_ := (Option.bind_some _ _).symm.trans H; with_reducible exact H2_) | with_reducible exact H | (rw [hy236]; exact H) | exact H
               have Ny236 := Aside0.mk hy236
               clear hy236
               obtain ⟨ji103, hji103⟩ : ∃ j_ : Int, (mx 0 (wrap64 (-a3))) = j_ := ⟨_, rfl⟩
               replace H : (strconv_fmtEFG.l3 kj84 y236 l2 (wrap64 (a3 + (mn x5_10 (ji103)))) (mn (wrap64 (x5_10 - (mn x5_10 (ji103)))) (mx 0 (wrap64 (a4 - (wrap64 (a3 + (mn x5_10 (ji103)))))))) (mx 0 (wrap64 ((wrap64 (x5_10 - (mn x5_10 (ji103)))) - (mn (wrap64 (x5_10 - (mn x5_10 (ji103)))) (mx 0 (wrap64 (a4 - (wrap64 (a3 + (mn x5_10 (ji103))))))))))) (mn x5_10 (ji103)) 0) = some r := by first | (rw [hji103] at H; exact H) | (simp only [hji103] at H ⊢; exact H)
               have hji103_ : (if 0 < (wrap64 (-a3)) then (wrap64 (-a3)) else 0) = ji103 := hji103
               obtain ⟨ji104, hji104⟩ : ∃ j_ : Int, (mn x5_10 (ji103)) = j_ := ⟨_, rfl⟩
               replace H : (strconv_fmtEFG.l3 kj84 y236 l2 (wrap64 (a3 + (ji104))) (mn (wrap64 (x5_10 - (ji104))) (mx 0 (wrap64 (a4 - (wrap64 (a3 + (ji104))))))) (mx 0 (wrap64 ((wrap64 (x5_10 - (ji104))) - (mn (wrap64 (x5_10 - (ji104))) (mx 0 (wrap64 (a4 - (wrap64 (a3 + (ji104)))))))))) ji104 0) = some r := by first | (rw [hji104] at H; exact H) | (simp only [hji104] at H ⊢; exact H)
               have hji104_ : (if (ji103) < x5_10 then (ji103) else x5_10) = ji104 := hji104
               obtain ⟨ji105, hji105⟩ : ∃ j_ : Int, (mx 0 (wrap64 (a4 - (wrap64 (a3 + (ji104)))))) = j_ := ⟨_, rfl⟩
               replace H : (strconv_fmtEFG.l3 kj84 y236 l2 (wrap64 (a3 + (ji104))) (mn (wrap64 (x5_10 - (ji104))) (ji105)) (mx 0 (wrap64 ((wrap64 (x5_10 - (ji104))) - (mn (wrap64 (x5_10 - (ji104))) (ji105))))) ji104 0) = some r := by first | (rw [hji105] at H; exact H) | (simp only [hji105] at H ⊢; exact H)
               have hji105_ : (if 0 < (wrap64 (a4 - (wrap64 (a3 + (ji104))))) then (wrap64 (a4 - (wrap64 (a3 + (ji104))))) else 0) = ji105 := hji105
               obtain ⟨ji106, hji106⟩ : ∃ j_ : Int, (mn (wrap64 (x5_10 - (ji104))) (ji105)) = j_ := ⟨_, rfl⟩
               replace H : (strconv_fmtEFG.l3 kj84 y236 l2 (wrap64 (a3 + (ji104))) ji106 (mx 0 (wrap64 ((wrap64 (x5_10 - (ji104))) - (ji106)))) ji104 0) = some r := by first | (rw [hji106] at H; exact H) | (simp only [hji106] at H ⊢; exact H)
               have hji106_ : (if (ji105) < (wrap64 (x5_10 - (ji104))) then (ji105) else (wrap64 (x5_10 - (ji104)))) = ji106 := hji106
               obtain ⟨ji107, hji107⟩ : ∃ j_ : Int, (mx 0 (wrap64 ((wrap64 (x5_10 - (ji104))) - (ji106)))) = j_ := ⟨_, rfl⟩
               replace H : (strconv_fmtEFG.l3 kj84 y236 l2 (wrap64 (a3 + (ji104))) ji106 ji107 ji104 0) = some r := by first | (rw [hji107] at H; exact H) | (simp only [hji107] at H ⊢; exact H)
               have hji107_ : (if 0 < (wrap64 ((wrap64 (x5_10 - (ji104))) - (ji106))) then (wrap64 ((wrap64 (x5_10 - (ji104))) - (ji106))) else 0) = ji107 := hji107
               have H' := Aside0.mk H
               clear H
               go_wp2_with (first | ((with_reducible refine gate_builtin (b := .append) (xs := #[.tmp 214, .tmp 215]) rfl ?_); at_builtin; refine Kd.R_append (Kd.int .u8) (w0 := w0) w0.heap.size rfl (.tmp 214) (.tmp 215) 27 5 (.int .u8 0) 1 rfl Tryz.underlying27 info5 rfl (by decide) (by omega) u0 x0_84 46 [.int .u8 46] (fun k_ => (P0_ k_ ∨ w.heap.size ≤ k_)) (fun _ => False) rfl rfl ?aP (fun _ hk => hk.elim) ?aF ?aO ?aB ?aS ?aL ?_; (case aP => exact rfl); (case aB => exact (by repeat (first | (with_reducible first | exact HB.out | apply below_alloc | apply pw_below_drewN | apply below_drew1) | exact HB.out))); (case aF => exact (fun k_ hk => (.inr (Nat.le_trans (by first | exact HK.out.1 | exact (show Kept w _ (fun k_ => P0_ k_) from by repeat (first | (with_reducible first | exact HK.out | apply Kept.alloc | apply Kept.drewN | apply Kept.drew) | exact HK.out)).1) hk)))); (case aO => exact (by (with_reducible repeat (first | apply Kd.R_alloc | apply Kd.R_drewN | apply Kd.R_drew)); exact HO_0.out)); (case aS => exact (below_size (by repeat (first | (with_reducible first | exact HB.out | apply below_alloc | apply pw_below_drewN | apply below_drew1) | exact HB.out)))); (case aL => have := LMc102.out; omega); intro v237 w108 ho hb hg hat; rw [← Ny236.out] at ho; have n0_ := Aside0.mk (hb); have n1_ := Aside0.mk (Kept.of_grown (S := (fun k_ => P0_ k_)) hg (by repeat (first | (with_reducible first | exact HK.out | apply Kept.alloc | apply Kept.drewN | apply Kept.drew) | exact HK.out)) (fun k_ e_ => (HO_0.out.1 k_ e_))); have n2_ := Aside0.mk (ho); clear HB; clear HK; clear HO_0; have HB := n0_; have HK := n1_; have HO238 := n2_; clear n0_ n1_ n2_; clear ho hb hg hat))
               (try simp only [Act.put, List.setIfInBounds_toArray, List.set_cons_zero, List.set_cons_succ])
               go_loopg [0, 240] kj84 (fun kq v0 v240 w' => ∃ (x0_6 : List Int) (x240_6 : Int), v240 = .int .i64 x240_6 ∧ Aside0 (strconv_fmtEFG.l3 kq x0_6 l2 (wrap64 (a3 + (ji104))) ji106 ji107 ji104 x240_6 = some r) ∧ Aside0 (kq ≤ kj84) ∧ Aside0 (Kd.R (Kd.int .u8) 5 w' w0.heap.size (fun k_ => (P0_ k_ ∨ w.heap.size ≤ k_)) v0 x0_6) ∧ Aside0 (Kept w w' (fun k_ => P0_ k_)) ∧ Aside0 (Below w0.heap.size w0 w'))
               case atStart => exact ⟨(y236), (0), (by first | rfl | (simp; done) | (simp [*]; done)), H', ⟨Nat.le_refl _⟩, ⟨by (with_reducible repeat (first | apply Kd.R_alloc | apply Kd.R_drewN | apply Kd.R_drew)); exact HO238.out⟩, ⟨by repeat (first | (with_reducible first | exact HK.out | apply Kept.alloc | apply Kept.drewN | apply Kept.drew) | exact HK.out)⟩, ⟨by repeat (first | (with_reducible first | exact HB.out | apply below_alloc | apply pw_below_drewN | apply below_drew1) | exact HB.out)⟩⟩
               case round =>
                clear H'
                try clear c1
                try clear p1
                try clear q1
                try clear hx1
                try clear qi1
                try clear c2
                try clear p2
                try clear q2
                try clear hx2
                try clear c3
                try clear c4
                try clear q4
                try clear c5
                try clear c6
                try clear p6
                try clear c7
                try clear c8
                try clear c9
                try clear q9
                try clear c10
                try clear c10b0
                try clear c10b1
                try clear c12
                try clear c14
                try clear c14b0
                try clear c16
                try clear p17
                try clear q17
                try clear hx17
                try clear qi17
                try clear c18
                try clear c20
                try clear c20b0
                try clear c21
                try clear c22
                try clear c22b0
                try clear p22
                try clear q22
                try clear hx22
                try clear c23
                try clear c23b0
                try clear c27
                try clear c27b0
                try clear c27b1
                try clear c28
                try clear c30
                try clear c31
                try clear c34
                try clear c34b0
                try clear c34b1
                try clear c35
                try clear c35b0
                try clear c35b1
                try clear c36
                try clear c39
                try clear c39b0
                try clear c40
                try clear c44
                try clear c44b0
                try clear c45
                try clear c45b0
                try clear c45b1
                try clear c46
                try clear c46b0
                try clear c46b1
                try clear c47
                try clear c48
                try clear q48
                try clear c50
                try clear c50b0
                try clear c51
                try clear c53
                try clear c56
                try clear c56b0
                try clear c56b1
                try clear c58
                try clear c58b0
                try clear c59
                try clear c60
                try clear c60b0
                try clear c61
                try clear p64
                try clear c67
                try clear c67b0
                try clear c68
                try clear c74
                try clear c80
                try clear c80b0
                try clear c80b1
                try clear c82
                try clear c83
                try clear c86
                try clear c86b0
                try clear c88
                try clear c88b0
                try clear c88b1
                try clear c89
                try clear c89b0
                try clear c89b1
                try clear q90
                try clear c91
                try clear c91b0
                try clear c92
                try clear c92b0
                try clear c93
                try clear c93b0
                try clear c94
                try clear c96
                try clear c96b0
                try clear c97
                try clear c99
                try clear c101
                try clear c101b0
                try clear c102
                try clear hx178_0
                try clear hx226_0
                try clear p1
                try clear p17
                try clear p178
                try clear p2
                try clear p22
                try clear p226
                try clear p6
                try clear p64
                try clear q1
                try clear q17
                try clear q178
                try clear q2
                try clear q22
                try clear q226
                try clear q4
                try clear q48
                try clear q9
                try clear q90
                obtain ⟨x0_6, x240_6, rfl, HA, HK6, HO_0, HK, HB⟩ := hrel
                cases gk with
                | zero => exact absurd HA.out (by simp [strconv_fmtEFG.l3])
                | succ k6 =>
                 have H := HA.out
                 clear HA
                 simp only [strconv_fmtEFG.l3] at H
                 by_cases c109 : x240_6 < ji104
                 ·
                  rw [if_pos c109] at H
                  have c109b0 : decide (x240_6 < ji104) = true := decide_eq_true c109
                  clear c109
                  by_cases c110 : x0_6.length < 140737488355328
                  ·
                   rw [if_pos c110] at H
                   have LMc110 := Aside0.mk c110
                   clear c110
                   obtain ⟨y239, hy239⟩ : ∃ y_ : List Int, y_ = (x0_6 ++ [48]) := ⟨_, rfl⟩
                   replace H : (strconv_fmtEFG.l3 k6 y239 l2 (wrap64 (a3 + (ji104))) ji106 ji107 ji104 (wrap64 (x240_6 + 1))) = some r := by first | (rw [hy239]; with_reducible exact H) | (have H2_ := (Option.bind_some _ _).symm.trans H; rw [hy239]; with_reducible exact H2_) | (have H2_ := (Option.bind_some _ _).symm.trans H; with_reducible exact H2_) | with_reducible exact H | (rw [hy239]; exact H) | exact H
                   have Ny239 := Aside0.mk hy239
                   clear hy239
                   have H' := Aside0.mk H
                   clear H
                   go_wp2_with (first | ((with_reducible refine gate_builtin (b := .append) (xs := #[.tmp 242, .tmp 243]) rfl ?_); at_builtin; refine Kd.R_append (Kd.int .u8) (w0 := w0) w0.heap.size rfl (.tmp 242) (.tmp 243) 27 5 (.int .u8 0) 1 rfl Tryz.underlying27 info5 rfl (by decide) (by omega) u0 x0_6 48 [.int .u8 48] (fun k_ => (P0_ k_ ∨ w.heap.size ≤ k_)) (fun _ => False) rfl rfl ?aP (fun _ hk => hk.elim) ?aF ?aO ?aB ?aS ?aL ?_; (case aP => exact rfl); (case aB => exact (by repeat (first | (with_reducible first | exact HB.out | apply below_alloc | apply pw_below_drewN | apply below_drew1) | exact HB.out))); (case aF => exact (fun k_ hk => (.inr (Nat.le_trans (by first | exact HK.out.1 | exact (show Kept w _ (fun k_ => P0_ k_) from by repeat (first | (with_reducible first | exact HK.out | apply Kept.alloc | apply Kept.drewN | apply Kept.drew) | exact HK.out)).1) hk)))); (case aO => exact (by (with_reducible repeat (first | apply Kd.R_alloc | apply Kd.R_drewN | apply Kd.R_drew)); exact HO_0.out)); (case aS => exact (below_size (by repeat (first | (with_reducible first | exact HB.out | apply below_alloc | apply pw_below_drewN | apply below_drew1) | exact HB.out)))); (case aL => have := LMc110.out; omega); intro v240 w111 ho hb hg hat; rw [← Ny239.out] at ho; have n0_ := Aside0.mk (hb); have n1_ := Aside0.mk (Kept.of_grown (S := (fun k_ => P0_ k_)) hg (by repeat (first | (with_reducible first | exact HK.out | apply Kept.alloc | apply Kept.drewN | apply Kept.drew) | exact HK.out)) (fun k_ e_ => (HO_0.out.1 k_ e_))); have n2_ := Aside0.mk (ho); clear HB; clear HK; clear HO_0; have HB := n0_; have HK := n1_; have HO241 := n2_; clear n0_ n1_ n2_; clear ho hb hg hat))
                   go_roundg k6
                   case measure => have := HJ8.out; have := HJ10.out; have := HJ25.out; have := HJ80.out; have := HJ84.out; have := HK6.out; omega
                   case rel => exact ⟨(y239), (wrap64 (x240_6 + 1)), (by first | rfl | (simp; done) | (simp [*]; done)), H', ⟨by have := HJ8.out; have := HJ10.out; have := HJ25.out; have := HJ80.out; have := HJ84.out; have := HK6.out; omega⟩, ⟨by (with_reducible repeat (first | apply Kd.R_alloc | apply Kd.R_drewN | apply Kd.R_drew)); exact HO241.out⟩, ⟨by repeat (first | (with_reducible first | exact HK.out | apply Kept.alloc | apply Kept.drewN | apply Kept.drew) | exact HK.out)⟩, ⟨by repeat (first | (with_reducible first | exact HB.out | apply below_alloc | apply pw_below_drewN | apply below_drew1) | exact HB.out)⟩⟩
                  ·
                   rw [if_neg c110] at H
                   exact absurd H (by simp)
                 ·
                  rw [if_neg c109] at H
                  have c109b0 : decide (x240_6 < ji104) = false := decide_eq_false c109
                  clear c109
                  have H' := Aside0.mk H
                  clear H
                  go_wp2
                  (try simp only [Act.put, List.setIfInBounds_toArray, List.set_cons_zero, List.set_cons_succ])
                  go_loopg [0, 247] k6 (fun kq v0 v247 w' => ∃ (x0_7 : List Int) (x247_7 : Int), v247 = .int .i64 x247_7 ∧ Aside0 (strconv_fmtEFG.l4 kq x0_7 l2 (wrap64 (a3 + (ji104))) ji107 ji106 x247_7 = some r) ∧ Aside0 (kq ≤ k6) ∧ Aside0 (Kd.R (Kd.int .u8) 5 w' w0.heap.size (fun k_ => (P0_ k_ ∨ w.heap.size ≤ k_)) v0 x0_7) ∧ Aside0 (Kept w w' (fun k_ => P0_ k_)) ∧ Aside0 (Below w0.heap.size w0 w'))
                  case atStart => exact ⟨(x0_6), (0), (by first | rfl | (simp; done) | (simp [*]; done)), H', ⟨Nat.le_refl _⟩, ⟨by (with_reducible repeat (first | apply Kd.R_alloc | apply Kd.R_drewN | apply Kd.R_drew)); exact HO_0.out⟩, ⟨by repeat (first | (with_reducible first | exact HK.out | apply Kept.alloc | apply Kept.drewN | apply Kept.drew) | exact HK.out)⟩, ⟨by repeat (first | (with_reducible first | exact HB.out | apply below_alloc | apply pw_below_drewN | apply below_drew1) | exact HB.out)⟩⟩
                  case round =>
                   clear H'
                   try clear c1
                   try clear p1
                   try clear q1
                   try clear hx1
                   try clear qi1
                   try clear c2
                   try clear p2
                   try clear q2
                   try clear hx2
                   try clear c3
                   try clear c4
                   try clear q4
                   try clear c5
                   try clear c6
                   try clear p6
                   try clear c7
                   try clear c8
                   try clear c9
                   try clear q9
                   try clear c10
                   try clear c10b0
                   try clear c10b1
                   try clear c11
                   try clear c12
                   try clear c14
                   try clear c14b0
                   try clear c16
                   try clear p17
                   try clear q17
                   try clear hx17
                   try clear qi17
                   try clear c18
                   try clear c20
                   try clear c20b0
                   try clear c21
                   try clear c22
                   try clear c22b0
                   try clear p22
                   try clear q22
                   try clear hx22
                   try clear c23
                   try clear c23b0
                   try clear c27
                   try clear c27b0
                   try clear c27b1
                   try clear c28
                   try clear c30
                   try clear c31
                   try clear c34
                   try clear c34b0
                   try clear c34b1
                   try clear c35
                   try clear c35b0
                   try clear c35b1
                   try clear c36
                   try clear c39
                   try clear c39b0
                   try clear c40
                   try clear c44
                   try clear c44b0
                   try clear c45
                   try clear c45b0
                   try clear c45b1
                   try clear c46
                   try clear c46b0
                   try clear c46b1
                   try clear c47
                   try clear c48
                   try clear q48
                   try clear c50
                   try clear c50b0
                   try clear c51
                   try clear c53
                   try clear c56
                   try clear c56b0
                   try clear c56b1
                   try clear c58
                   try clear c58b0
                   try clear c59
                   try clear c60
                   try clear c60b0
                   try clear c61
                   try clear p64
                   try clear c67
                   try clear c67b0
                   try clear c68
                   try clear c74
                   try clear c80
                   try clear c80b0
                   try clear c80b1
                   try clear c82
                   try clear c83
                   try clear c86
                   try clear c86b0
                   try clear c88
                   try clear c88b0
                   try clear c88b1
                   try clear c89
                   try clear c89b0
                   try clear c89b1
                   try clear q90
                   try clear c91
                   try clear c91b0
                   try clear c92
                   try clear c92b0
                   try clear c93
                   try clear c93b0
                   try clear c94
                   try clear c96
                   try clear c96b0
                   try clear c97
                   try clear c99
                   try clear c101
                   try clear c101b0
                   try clear c102
                   try clear c109
                   try clear c109b0
                   try clear c110
                   try clear hx178_0
                   try clear hx226_0
                   try clear p1
                   try clear p17
                   try clear p178
                   try clear p2
                   try clear p22
                   try clear p226
                   try clear p6
                   try clear p64
                   try clear q1
                   try clear q17
                   try clear q178
                   try clear q2
                   try clear q22
                   try clear q226
                   try clear q4
                   try clear q48
                   try clear q9
                   try clear q90
                   obtain ⟨x0_7, x247_7, rfl, HA, HK7, HO_0, HK, HB⟩ := hrel
                   cases gk with
                   | zero => exact absurd HA.out (by simp [strconv_fmtEFG.l4])
                   | succ k7 =>
                    have H := HA.out
                    clear HA
                    simp only [strconv_fmtEFG.l4] at H
                    by_cases c112 : x247_7 < ji106
                    ·
                     rw [if_pos c112] at H
                     have c112b0 : decide (x247_7 < ji106) = true := decide_eq_true c112
                     clear c112
                     obtain ⟨ji113, hji113⟩ : ∃ j_ : Int, (wrap64 ((wrap64 (a3 + (ji104))) + x247_7)) = j_ := ⟨_, rfl⟩
                     replace H : (if 0 ≤ (ji113) then (if (ji113) < (l2.length : Int) then (if x0_7.length < 140737488355328 then (strconv_fmtEFG.l4 k7 (x0_7 ++ [rd l2 (ji113)]) l2 (wrap64 (a3 + (ji104))) ji107 ji106 (wrap64 (x247_7 + 1))) else (none)) else (none)) else (none)) = some r := by first | (rw [hji113] at H; exact H) | (simp only [hji113] at H ⊢; exact H)
                     have hji113w : (IntKind.i64.wrap ((wrap64 (a3 + (ji104))) + x247_7)) = ji113 := (i64_w _).trans hji113
                     by_cases c114 : 0 ≤ (ji113)
                     ·
                      rw [if_pos c114] at H
                      have c114b0 : decide (0 ≤ (ji113)) = true := decide_eq_true c114
                      clear c114
                      by_cases c115 : (ji113) < (l2.length : Int)
                      ·
                       rw [if_pos c115] at H
                       have c115b0 : decide ((ji113) < (l2.length : Int)) = true := decide_eq_true c115
                       clear c115
                       by_cases c116 : x0_7.length < 140737488355328
                       ·
                        rw [if_pos c116] at H
                        have LMc116 := Aside0.mk c116
                        clear c116
                        obtain ⟨y243, hy243⟩ : ∃ y_ : List Int, y_ = (x0_7 ++ [rd l2 (ji113)]) := ⟨_, rfl⟩
                        replace H : (strconv_fmtEFG.l4 k7 y243 l2 (wrap64 (a3 + (ji104))) ji107 ji106 (wrap64 (x247_7 + 1))) = some r := by first | (rw [hy243]; with_reducible exact H) | (have H2_ := (Option.bind_some _ _).symm.trans H; rw [hy243]; with_reducible exact H2_) | (have H2_ := (Option.bind_some _ _).symm.trans H; with_reducible exact H2_) | with_reducible exact H | (rw [hy243]; exact H) | exact H
                        have Ny243 := Aside0.mk hy243
                        clear hy243
                        have H' := Aside0.mk H
                        clear H
                        have p242 : 0 ≤ ((ji113) : Int) := of_decide_eq_true (by first | (with_reducible assumption) | assumption)
                        have q242 : (ji113) < (l2.length : Int) := of_decide_eq_true (by first | (with_reducible assumption) | assumption)
                        obtain ⟨ad242, e242, hx242_0⟩ := Kd.at_int (Kd.C_kept_now HR2.out HK.out) (ji113) p242 q242
                        cases e242
                        replace p242 := eq_true p242
                        replace q242 := eq_true q242
                        go_wp2_with (first | ((with_reducible refine gate_builtin (b := .append) (xs := #[.tmp 250, .tmp 257]) rfl ?_); at_builtin; refine Kd.R_append (Kd.int .u8) (w0 := w0) w0.heap.size rfl (.tmp 250) (.tmp 257) 27 5 (.int .u8 0) 1 rfl Tryz.underlying27 info5 rfl (by decide) (by omega) u0 x0_7 (rd l2 (ji113)) [.int .u8 (rd l2 (ji113))] (fun k_ => (P0_ k_ ∨ w.heap.size ≤ k_)) (fun _ => False) rfl rfl ?aP (fun _ hk => hk.elim) ?aF ?aO ?aB ?aS ?aL ?_; (case aP => exact rfl); (case aB => exact (by repeat (first | (with_reducible first | exact HB.out | apply below_alloc | apply pw_below_drewN | apply below_drew1) | exact HB.out))); (case aF => exact (fun k_ hk => (.inr (Nat.le_trans (by first | exact HK.out.1 | exact (show Kept w _ (fun k_ => P0_ k_) from by repeat (first | (with_reducible first | exact HK.out | apply Kept.alloc | apply Kept.drewN | apply Kept.drew) | exact HK.out)).1) hk)))); (case aO => exact (by (with_reducible repeat (first | apply Kd.R_alloc | apply Kd.R_drewN | apply Kd.R_drew)); exact HO_0.out)); (case aS => exact (below_size (by repeat (first | (with_reducible first | exact HB.out | apply below_alloc | apply pw_below_drewN | apply below_drew1) | exact HB.out)))); (case aL => have := LMc116.out; omega); intro v244 w117 ho hb hg hat; rw [← Ny243.out] at ho; have n0_ := Aside0.mk (hb); have n1_ := Aside0.mk (Kept.of_grown (S := (fun k_ => P0_ k_)) hg (by repeat (first | (with_reducible first | exact HK.out | apply Kept.alloc | apply Kept.drewN | apply Kept.drew) | exact HK.out)) (fun k_ e_ => (HO_0.out.1 k_ e_))); have n2_ := Aside0.mk (ho); clear HB; clear HK; clear HO_0; have HB := n0_; have HK := n1_; have HO245 := n2_; clear n0_ n1_ n2_; clear ho hb hg hat))
                        go_roundg k7
                        case measure => have := HJ8.out; have := HJ10.out; have := HJ25.out; have := HJ80.out; have := HJ84.out; have := HK6.out; have := HK7.out; omega
                        case rel => exact ⟨(y243), (wrap64 (x247_7 + 1)), (by first | rfl | (simp; done) | (simp [*]; done)), H', ⟨by have := HJ8.out; have := HJ10.out; have := HJ25.out; have := HJ80.out; have := HJ84.out; have := HK6.out; have := HK7.out; omega⟩, ⟨by (with_reducible repeat (first | apply Kd.R_alloc | apply Kd.R_drewN | apply Kd.R_drew)); exact HO245.out⟩, ⟨by repeat (first | (with_reducible first | exact HK.out | apply Kept.alloc | apply Kept.drewN | apply Kept.drew) | exact HK.out)⟩, ⟨by repeat (first | (with_reducible first | exact HB.out | apply below_alloc | apply pw_below_drewN | apply below_drew1) | exact HB.out)⟩⟩
                       ·
                        rw [if_neg c116] at H
                        exact absurd H (by simp)
                      ·
                       rw [if_neg c115] at H
                       exact absurd H (by simp)
                     ·
                      rw [if_neg c114] at H
                      exact absurd H (by simp)
                    ·
                     rw [if_neg c112] at H
                     have c112b0 : decide (x247_7 < ji106) = false := decide_eq_false c112
                     clear c112
                     have H' := Aside0.mk H
                     clear H
                     go_wp2
                     (try simp only [Act.put, List.setIfInBounds_toArray, List.set_cons_zero, List.set_cons_succ])
                     go_loopg [0, 261] k7 (fun kq v0 v261 w' => ∃ (x0_8 : List Int) (x261_8 : Int), v261 = .int .i64 x261_8 ∧ Aside0 (strconv_fmtEFG.l5 kq x0_8 ji107 x261_8 = some r) ∧ Aside0 (kq ≤ k7) ∧ Aside0 (Kd.R (Kd.int .u8) 5 w' w0.heap.size (fun k_ => (P0_ k_ ∨ w.heap.size ≤ k_)) v0 x0_8) ∧ Aside0 (Kept w w' (fun k_ => P0_ k_)) ∧ Aside0 (Below w0.heap.size w0 w'))
                     case atStart => exact ⟨(x0_7), (0), (by first | rfl | (simp; done) | (simp [*]; done)), H', ⟨Nat.le_refl _⟩, ⟨by (with_reducible repeat (first | apply Kd.R_alloc | apply Kd.R_drewN | apply Kd.R_drew)); exact HO_0.out⟩, ⟨by repeat (first | (with_reducible first | exact HK.out | apply Kept.alloc | apply Kept.drewN | apply Kept.drew) | exact HK.out)⟩, ⟨by repeat (first | (with_reducible first | exact HB.out | apply below_alloc | apply pw_below_drewN | apply below_drew1) | exact HB.out)⟩⟩
                     case round =>
                      clear H'
                      try clear c1
                      try clear p1
                      try clear q1
                      try clear hx1
                      try clear qi1
                      try clear c2
                      try clear p2
                      try clear q2
                      try clear hx2
                      try clear c3
                      try clear c4
                      try clear q4
                      try clear c5
                      try clear c6
                      try clear p6
                      try clear c7
                      try clear c8
                      try clear c9
                      try clear q9
                      try clear c10
                      try clear c10b0
                      try clear c10b1
                      try clear c11
                      try clear c12
                      try clear c14
                      try clear c14b0
                      try clear c16
                      try clear p17
                      try clear q17
                      try clear hx17
                      try clear qi17
                      try clear c18
                      try clear c20
                      try clear c20b0
                      try clear c21
                      try clear c22
                      try clear c22b0
                      try clear p22
                      try clear q22
                      try clear hx22
                      try clear c23
                      try clear c23b0
                      try clear p24
                      try clear q24
                      try clear hx24
                      try clear c27
                      try clear c27b0
                      try clear c27b1
                      try clear c28
                      try clear c30
                      try clear c31
                      try clear c34
                      try clear c34b0
                      try clear c34b1
                      try clear c35
                      try clear c35b0
                      try clear c35b1
                      try clear c36
                      try clear c39
                      try clear c39b0
                      try clear c40
                      try clear c44
                      try clear c44b0
                      try clear c45
                      try clear c45b0
                      try clear c45b1
                      try clear c46
                      try clear c46b0
                      try clear c46b1
                      try clear c47
                      try clear c48
                      try clear q48
                      try clear c50
                      try clear c50b0
                      try clear c51
                      try clear c53
                      try clear c56
                      try clear c56b0
                      try clear c56b1
                      try clear c58
                      try clear c58b0
                      try clear c59
                      try clear c60
                      try clear c60b0
                      try clear c61
                      try clear p64
                      try clear c67
                      try clear c67b0
                      try clear c68
                      try clear c74
                      try clear c80
                      try clear c80b0
                      try clear c80b1
                      try clear c82
                      try clear c83
                      try clear c86
                      try clear c86b0
                      try clear c88
                      try clear c88b0
                      try clear c88b1
                      try clear c89
                      try clear c89b0
                      try clear c89b1
                      try clear q90
                      try clear c91
                      try clear c91b0
                      try clear c92
                      try clear c92b0
                      try clear c93
                      try clear c93b0
                      try clear c94
                      try clear c96
                      try clear c96b0
                      try clear c97
                      try clear c99
                      try clear c101
                      try clear c101b0
                      try clear c102
                      try clear c109
                      try clear c109b0
                      try clear c110
                      try clear c112
                      try clear c112b0
                      try clear c114
                      try clear c114b0
                      try clear c115
                      try clear c115b0
                      try clear c116
                      try clear hx178_0
                      try clear hx226_0
                      try clear hx242_0
                      try clear p1
                      try clear p17
                      try clear p178
                      try clear p2
                      try clear p22
                      try clear p226
                      try clear p242
                      try clear p6
                      try clear p64
                      try clear q1
                      try clear q17
                      try clear q178
                      try clear q2
                      try clear q22
                      try clear q226
                      try clear q242
                      try clear q4
                      try clear q48
                      try clear q9
                      try clear q90
                      obtain ⟨x0_8, x261_8, rfl, HA, HK8, HO_0, HK, HB⟩ := hrel
                      cases gk with
                      | zero => exact absurd HA.out (by simp [strconv_fmtEFG.l5])
                      | succ k8 =>
                       have H := HA.out
                       clear HA
                       simp only [strconv_fmtEFG.l5] at H
                       by_cases c118 : x261_8 < ji107
                       ·
                        rw [if_pos c118] at H
                        have c118b0 : decide (x261_8 < ji107) = true := decide_eq_true c118
                        clear c118
                        by_cases c119 : x0_8.length < 140737488355328
                        ·
                         rw [if_pos c119] at H
                         have LMc119 := Aside0.mk c119
                         clear c119
                         obtain ⟨y246, hy246⟩ : ∃ y_ : List Int, y_ = (x0_8 ++ [48]) := ⟨_, rfl⟩
                         replace H : (strconv_fmtEFG.l5 k8 y246 ji107 (wrap64 (x261_8 + 1))) = some r := by first | (rw [hy246]; with_reducible exact H) | (have H2_ := (Option.bind_some _ _).symm.trans H; rw [hy246]; with_reducible exact H2_) | (have H2_ := (Option.bind_some _ _).symm.trans H; with_reducible exact H2_) | with_reducible exact H | (rw [hy246]; exact H) | exact H
                         have Ny246 := Aside0.mk hy246
                         clear hy246
                         have H' := Aside0.mk H
                         clear H
                         go_wp2_with (first | ((with_reducible refine gate_builtin (b := .append) (xs := #[.tmp 263, .tmp 264]) rfl ?_); at_builtin; refine Kd.R_append (Kd.int .u8) (w0 := w0) w0.heap.size rfl (.tmp 263) (.tmp 264) 27 5 (.int .u8 0) 1 rfl Tryz.underlying27 info5 rfl (by decide) (by omega) u0 x0_8 48 [.int .u8 48] (fun k_ => (P0_ k_ ∨ w.heap.size ≤ k_)) (fun _ => False) rfl rfl ?aP (fun _ hk => hk.elim) ?aF ?aO ?aB ?aS ?aL ?_; (case aP => exact rfl); (case aB => exact (by repeat (first | (with_reducible first | exact HB.out | apply below_alloc | apply pw_below_drewN | apply below_drew1) | exact HB.out))); (case aF => exact (fun k_ hk => (.inr (Nat.le_trans (by first | exact HK.out.1 | exact (show Kept w _ (fun k_ => P0_ k_) from by repeat (first | (with_reducible first | exact HK.out | apply Kept.alloc | apply Kept.drewN | apply Kept.drew) | exact HK.out)).1) hk)))); (case aO => exact (by (with_reducible repeat (first | apply Kd.R_alloc | apply Kd.R_drewN | apply Kd.R_drew)); exact HO_0.out)); (case aS => exact (below_size (by repeat (first | (with_reducible first | exact HB.out | apply below_alloc | apply pw_below_drewN | apply below_drew1) | exact HB.out)))); (case aL => have := LMc119.out; omega); intro v247 w120 ho hb hg hat; rw [← Ny246.out] at ho; have n0_ := Aside0.mk (hb); have n1_ := Aside0.mk (Kept.of_grown (S := (fun k_ => P0_ k_)) hg (by repeat (first | (with_reducible first | exact HK.out | apply Kept.alloc | apply Kept.drewN | apply Kept.drew) | exact HK.out)) (fun k_ e_ => (HO_0.out.1 k_ e_))); have n2_ := Aside0.mk (ho); clear HB; clear HK; clear HO_0; have HB := n0_; have HK := n1_; have HO248 := n2_; clear n0_ n1_ n2_; clear ho hb hg hat))
                         go_roundg k8
                         case measure => have := HJ8.out; have := HJ10.out; have := HJ25.out; have := HJ80.out; have := HJ84.out; have := HK6.out; have := HK7.out; have := HK8.out; omega
                         case rel => exact ⟨(y246), (wrap64 (x261_8 + 1)), (by first | rfl | (simp; done) | (simp [*]; done)), H', ⟨by have := HJ8.out; have := HJ10.out; have := HJ25.out; have := HJ80.out; have := HJ84.out; have := HK6.out; have := HK7.out; have := HK8.out; omega⟩, ⟨by (with_reducible repeat (first | apply Kd.R_alloc | apply Kd.R_drewN | apply Kd.R_drew)); exact HO248.out⟩, ⟨by repeat (first | (with_reducible first | exact HK.out | apply Kept.alloc | apply Kept.drewN | apply Kept.drew) | exact HK.out)⟩, ⟨by repeat (first | (with_reducible first | exact HB.out | apply below_alloc | apply pw_below_drewN | apply below_drew1) | exact HB.out)⟩⟩
                        ·
                         rw [if_neg c119] at H
                         exact absurd H (by simp)
                       ·
                        rw [if_neg c118] at H
                        have c118b0 : decide (x261_8 < ji107) = false := decide_eq_false c118
                        clear c118
                        obtain rfl := Option.some.inj H
                        go_wp2
                        go_ret
                        exact ⟨_, by first | rfl | (simp [errW_none, errW_some] <;> rfl) | (simp only [← hji103, ← hji104, ← hji105, ← hji106, ← hji107]; first | rfl | (simp [errW_none, errW_some] <;> rfl)) | (simp [*, errW_none, errW_some] <;> rfl), by (with_reducible repeat (first | apply Kd.R_alloc | apply Kd.R_drewN | apply Kd.R_drew)); exact HO_0.out, by repeat (first | (with_reducible first | exact HB.out | apply below_alloc | apply pw_below_drewN | apply below_drew1) | exact HB.out), by repeat (first | (with_reducible first | exact HK.out | apply Kept.alloc | apply Kept.drewN | apply Kept.drew) | exact HK.out)⟩
              ·
               rw [if_neg c102] at H
               exact absurd H (by simp)
             ·
              rw [if_neg c101] at H
              have c101b0 : decide (0 < x5_10) = false := decide_eq_false c101
              clear c101
              obtain rfl := Option.some.inj H
              go_wp2
              go_ret
              exact ⟨_, by first | rfl | (simp [errW_none, errW_some] <;> rfl) | (simp [*, errW_none, errW_some] <;> rfl), by (with_reducible repeat (first | apply Kd.R_alloc | apply Kd.R_drewN | apply Kd.R_drew)); exact HO_0.out, by repeat (first | (with_reducible first | exact HB.out | apply below_alloc | apply pw_below_drewN | apply below_drew1) | exact HB.out), by repeat (first | (with_reducible first | exact HK.out | apply Kept.alloc | apply Kept.drewN | apply Kept.drew) | exact HK.out)⟩
        ·
         rw [if_neg c80] at H
         have c80b0 : (x6_10 == 102) = false := beq_eq_false_iff_ne.mpr c80
         have c80b1 : (x6_10 != 102) = true := bne_iff_ne.mpr c80
         obtain ⟨y249, hy249⟩ : ∃ y_ : List Int, y_ = (([37, x6_10] : List Int)) := ⟨_, rfl⟩
         replace H : (if l0.length + y249.length < 140737488355328 then (some (l0 ++ y249)) else (none)) = some r := by first | (rw [hy249]; with_reducible exact H) | (have H2_ := (Option.bind_some _ _).symm.trans H; rw [hy249]; with_reducible exact H2_) | (have H2_ := (Option.bind_some _ _).symm.trans H; with_reducible exact H2_) | with_reducible exact H | (rw [hy249]; exact H) | exact H
         have Ny249 := Aside0.mk hy249
         clear hy249
         by_cases c121 : l0.length + y249.length < 140737488355328
         ·
          rw [if_pos c121] at H
          have LMc121 := Aside0.mk c121
          clear c121
          obtain ⟨y252, hy252⟩ : ∃ y_ : List Int, y_ = (l0 ++ y249) := ⟨_, rfl⟩
          replace H : (some y252) = some r := by first | (rw [hy252]; with_reducible exact H) | (have H2_ := (Option.bind_some _ _).symm.trans H; rw [hy252]; with_reducible exact H2_) | (have H2_ := (Option.bind_some _ _).symm.trans H; with_reducible exact H2_) | with_reducible exact H | (rw [hy252]; exact H) | exact H
          have Ny252 := Aside0.mk hy252
          clear hy252
          obtain rfl := Option.some.inj H
          go_wp2_with (first | ((with_reducible refine gate_dst (N := 270) rfl ?_); refine Kd.R_lit (Kd.int .u8) _ 5 ?hg (N := 270) ?hd (xs := ([37, x6_10] : List Int)) (inner := [.int .u8 37, .int .u8 x6_10]) (ok := fun _ => True) (okp := fun _ => True) ?hr ?hp (fun _ hk => hk) trivial (Below.refl _ _) (Nat.le_refl _) (by simp) ?_; (case hd => rfl); (case hg => rfl); (case hr => first | (go_simp; done) | (go_simp; rfl)); (case hp => exact (Reps.one (show Kd.M (Kd.int .u8) _ _ _ 37 [.int .u8 37] from rfl) (Reps.one (show Kd.M (Kd.int .u8) _ _ _ x6_10 [.int .u8 x6_10] from rfl) (Reps.none _ _)))); intro v250 w122 ho123 hb hg_ hnew_; clear hg_ hnew_; (first | rw [← Ny249.out] at ho123 | (simp only [Int.reduceToNat] at ho123; rw [← Ny249.out] at ho123)); have n0_ := Aside0.mk (Kd.R_elder' (by (with_reducible repeat (first | apply Kd.R_alloc | apply Kd.R_drewN | apply Kd.R_drew)); exact HO_0.out) (Kd.R_base ho123) hb); have n1_ := Aside0.mk (Kd.R_lower (Kd.R_new' (Kd.R_newM (M := fun k_ => (P0_ k_ ∨ w.heap.size ≤ k_)) ho123 (by first | exact HK.out.1 | exact (show Kept w _ (fun k_ => P0_ k_) from by repeat (first | (with_reducible first | exact HK.out | apply Kept.alloc | apply Kept.drewN | apply Kept.drew) | exact HK.out)).1) (fun k_ h_ => .inr h_)) (Kd.R_lt (by (with_reducible repeat (first | apply Kd.R_alloc | apply Kd.R_drewN | apply Kd.R_drew)); exact HO_0.out))) (below_size (by repeat (first | (with_reducible first | exact HB.out | apply below_alloc | apply pw_below_drewN | apply below_drew1) | exact HB.out)))); have n2_ := Aside0.mk (Kept.below (S := (fun k_ => P0_ k_)) (by repeat (first | (with_reducible first | exact HK.out | apply Kept.alloc | apply Kept.drewN | apply Kept.drew) | exact HK.out)) hb); have n3_ := Aside0.mk (below_step (by repeat (first | (with_reducible first | exact HB.out | apply below_alloc | apply pw_below_drewN | apply below_drew1) | exact HB.out)) hb); clear HO_0; clear HK; clear HB; have HO_0 := n0_; have HO251 := n1_; have HK := n2_; have HB := n3_; clear n0_ n1_ n2_ n3_; clear hb ho123; obtain ⟨Ao125, co125, eo125⟩ := Kd.R_slice HO251.out; subst eo125) | ((with_reducible refine gate_builtin (b := .append) (xs := #[.tmp 268, .tmp 270]) rfl ?_); at_builtin; refine Kd.R_append_rows (Kd.int .u8) (w0 := w0) w0.heap.size rfl (.tmp 268) (.tmp 270) 27 5 (.int .u8 0) 1 rfl Tryz.underlying27 info5 rfl (by decide) (by omega) u9000_ l0 y249 _ _ _ (fun k_ => (P0_ k_ ∨ w.heap.size ≤ k_) ∧ some k_ ≠ (.slice Ao125 y249.length co125 : Value).ownBlock) (fun _ => False) rfl rfl ?aO ?aR (fun _ _ h => h) (fun _ h => h.elim) ?aF ?aB ?aS ?aL ?_; (case aR => repeat (first | exact (Kd.R_reads' HO251.out).2.2 | (with_reducible refine Kd.C_alloc ?_ _) | (with_reducible refine Kd.C_drewN ?_ _) | (with_reducible refine Kd.C_drew ?_))); (case aB => exact (by repeat (first | (with_reducible first | exact HB.out | apply below_alloc | apply pw_below_drewN | apply below_drew1) | exact HB.out))); (case aF => exact (fun k_ hk => ⟨(.inr (Nat.le_trans (by first | exact HK.out.1 | exact (show Kept w _ (fun k_ => P0_ k_) from by repeat (first | (with_reducible first | exact HK.out | apply Kept.alloc | apply Kept.drewN | apply Kept.drew) | exact HK.out)).1) hk)), Kd.fresh' (Kd.R_lt (by (with_reducible repeat (first | apply Kd.R_alloc | apply Kd.R_drewN | apply Kd.R_drew)); exact HO251.out)) k_ hk⟩)); (case aO => exact (by (with_reducible repeat (first | apply Kd.R_alloc | apply Kd.R_drewN | apply Kd.R_drew)); exact HO_0.out)); (case aS => exact (below_size (by repeat (first | (with_reducible first | exact HB.out | apply below_alloc | apply pw_below_drewN | apply below_drew1) | exact HB.out)))); (case aL => have := LMc121.out; omega); intro v253 w124 ho hb hg hat; rw [← Ny252.out] at ho; have n0_ := Aside0.mk (Kd.R_after (ok := (fun k_ => (P0_ k_ ∨ w.heap.size ≤ k_))) (by (with_reducible repeat (first | apply Kd.R_alloc | apply Kd.R_drewN | apply Kd.R_drew)); exact Kd.R_mono HO251.out (fun _ hk => ⟨hk.1.1, hk.2⟩)) hg hat); have n1_ := Aside0.mk (hb); have n2_ := Aside0.mk (Kept.of_grown (S := (fun k_ => P0_ k_)) hg (by repeat (first | (with_reducible first | exact HK.out | apply Kept.alloc | apply Kept.drewN | apply Kept.drew) | exact HK.out)) (fun k_ e_ => (HO_0.out.1 k_ e_).1)); have n3_ := Aside0.mk (ho); clear HO251; clear HB; clear HK; clear HO_0; have HO251 := n0_; have HB := n1_; have HK := n2_; have HO254 := n3_; clear n0_ n1_ n2_ n3_; clear ho hb hg hat))
          go_ret
          exact ⟨_, by first | rfl | (simp [errW_none, errW_some] <;> rfl) | (simp [*, errW_none, errW_some] <;> rfl), by (with_reducible repeat (first | apply Kd.R_alloc | apply Kd.R_drewN | apply Kd.R_drew)); exact Kd.R_mono HO254.out (fun _ hk => hk.1), by repeat (first | (with_reducible first | exact HB.out | apply below_alloc | apply pw_below_drewN | apply below_drew1) | exact HB.out), by repeat (first | (with_reducible first | exact HK.out | apply Kept.alloc | apply Kept.drewN | apply Kept.drew) | exact HK.out)⟩
         ·
          rw [if_neg c121] at H
          exact absurd H (by simp)

end Go.Proofs.YthbmfhkpkkgdnaaGreatDoor.Q

import Derived.Test.YthbmfhkpkkgdnaaGreatDoorT8
namespace Go.Proofs.YthbmfhkpkkgdnaaGreatDoor.Q
open Go.RowKit Go.Proofs.YthbmfhkpkkgdnaaGreatDoorW.PrintWords Go.Proofs.YthbmfhkpkkgdnaaGreatDoorW.PrintLast Go.Proofs.YthbmfhkpkkgdnaaGreatDoorW.PrintMore
attribute [local go_sem] max2_int min2_int max_two min_two max_three min_three max_four min_four
set_option linter.unusedVariables false
set_option linter.unusedSimpArgs false
open Go.Proofs.YthbmfhkpkkgdnaaGreatDoor.U
/-- What the text of a finite float comes to, as a premise: the shortest decimal's digits, put as 'g' puts them. -/
def Texts (k : Nat) (l0 : List Int) (b : Nat) (r : List Int) : Prop :=
  let c := b % 9223372036854775808
  (mB c = 0 ∧ strconv_fmtEFG.f k l0 (decide (9223372036854775808 ≤ b)) [] 0 0 (-1) 103 true = some r) ∨
  (mB c ≠ 0 ∧ ∃ (L D nd : Nat) (p : Int), bits_Len64.f k (mB c : Int) = some (L : Int) ∧ (1 ≤ L ∧ L ≤ 53) ∧ 9223372036854775808 ≤ mB c * 2 ^ (64 - L) ∧ mB c * 2 ^ (64 - L) < 18446744073709551616 ∧
    strconv_shortFloat.f ((mB c * 2 ^ (64 - L) : Nat) : Int) (eB c - ((64 - L : Nat) : Int)) = some ((D : Int), p) ∧ strconv_numDigits.f k (D : Int) = some (nd : Int) ∧ nd ≤ 20 ∧ D < 2 ^ 64 ∧ D < 10 ^ nd ∧ (-2000 ≤ p ∧ p ≤ 2000) ∧
    ∀ (l : List Int) (n : Nat), l.length = 32 → Put D nd 0 (List.replicate 32 0) l → n ≤ nd → (∀ i, n ≤ i → i < nd → l.getD i 0 = 48) → (n = 0 ∨ l.getD (n - 1) 0 ≠ 48) → strconv_fmtEFG.f k l0 (decide (9223372036854775808 ≤ b)) l (nd + p) n n 103 true = some r)
theorem strconv_ftoa64.text (k : Nat) (P0_ : Nat → Prop) (u9000_ : Value) (l0 : List Int) (b : Nat) (r : List Int) (w0 w : World) (hb64 : b < 18446744073709551616) (hfin : b % 9223372036854775808 < 9218868437227405312) (h : Texts k l0 b r)
    (hT : TabP w) (hU : TabU w) (h3 : 3 < w.heap.size) (hP0 : ∀ k_, P0_ k_ → k_ < w.heap.size)
    (hB : Below w0.heap.size w0 w) (ho0 : Kd.R (Kd.int .u8) 5 w w0.heap.size P0_ u9000_ l0) :
    Calls Tryz.prog 28 #[u9000_, .float .f64 b, .int .u8 103, .int .i64 (-1)] w fun e w' => ∃ v0_ : Value, e = .returned (v0_) ∧ Kd.R (Kd.int .u8) 5 w' w0.heap.size (fun k_ => (P0_ k_ ∨ w.heap.size ≤ k_)) v0_ r ∧ Below w0.heap.size w0 w' ∧ Kept w w' (fun k_ => P0_ k_) := by
  rcases h with ⟨h1, h2⟩ | ⟨h1, L, D, nd, p, a1, a2, a3, a4, a5, a6, a7, a8, a9, a10, a11⟩
  · exact strconv_ftoa64.zero k P0_ u9000_ l0 b r w0 w hb64 hfin h1 hB ho0 h2
  · exact strconv_ftoa64.calls k P0_ u9000_ l0 b L D nd p r w0 w hb64 hfin h1 a1 a2 a3 a4 a5 a6 a7 a8 a9 a10 hT hU h3 hP0 hB ho0 a11
set_option maxHeartbeats 8000000 in
set_option maxRecDepth 100000 in
theorem strconv_AppendFloat21.calls (k : Nat) (P0_ : Nat → Prop) (u9000_ : Value) (l0 : List Int) (b : Nat) (r : List Int) (w0 w : World) (hb64 : b < 18446744073709551616) (hfin : b % 9223372036854775808 < 9218868437227405312) (h : Texts k l0 b r)
    (hT : TabP w) (hU : TabU w) (h3 : 3 < w.heap.size) (hP0 : ∀ k_, P0_ k_ → k_ < w.heap.size)
    (hB : Below w0.heap.size w0 w) (ho0 : Kd.R (Kd.int .u8) 5 w w0.heap.size P0_ u9000_ l0) :
    Calls Tryz.prog 21 #[u9000_, .float .f64 b, .int .u8 103, .int .i64 (-1), .int .i64 64] w fun e w' => ∃ v0_ : Value, e = .returned (v0_) ∧ Kd.R (Kd.int .u8) 5 w' w0.heap.size (fun k_ => (P0_ k_ ∨ w.heap.size ≤ k_)) v0_ r ∧ Below w0.heap.size w0 w' ∧ Kept w w' (fun k_ => P0_ k_) := by
  have hcall := Aside0.mk (strconv_ftoa64.text k P0_ u9000_ l0 b r w0 w hb64 hfin h hT hU h3 hP0 hB ho0)
  clear h hT hU hP0 hB ho0
  go_enter Tryz.func21, Tryz.ntmps21
  go_wp2_with (first | (go_at_call 28; (refine hcall.out.mono ?_); rintro e w11 ⟨v0, rfl, ho, hb, hk⟩))
  go_ret
  exact ⟨_, rfl, ho, hb, hk⟩
set_option maxHeartbeats 8000000 in
set_option maxRecDepth 100000 in
theorem strconv_AppendFloat.calls (k : Nat) (P0_ : Nat → Prop) (u9000_ : Value) (l0 : List Int) (b : Nat) (r : List Int) (w0 w : World) (hb64 : b < 18446744073709551616) (hfin : b % 9223372036854775808 < 9218868437227405312) (h : Texts k l0 b r)
    (hT : TabP w) (hU : TabU w) (h3 : 3 < w.heap.size) (hP0 : ∀ k_, P0_ k_ → k_ < w.heap.size)
    (hB : Below w0.heap.size w0 w) (ho0 : Kd.R (Kd.int .u8) 5 w w0.heap.size P0_ u9000_ l0) :
    Calls Tryz.prog 11 #[u9000_, .float .f64 b, .int .u8 103, .int .i64 (-1), .int .i64 64] w fun e w' => ∃ v0_ : Value, e = .returned (v0_) ∧ Kd.R (Kd.int .u8) 5 w' w0.heap.size (fun k_ => (P0_ k_ ∨ w.heap.size ≤ k_)) v0_ r ∧ Below w0.heap.size w0 w' ∧ Kept w w' (fun k_ => P0_ k_) := by
  have hcall := Aside0.mk (strconv_AppendFloat21.calls k P0_ u9000_ l0 b r w0 w hb64 hfin h hT hU h3 hP0 hB ho0)
  clear h hT hU hP0 hB ho0
  go_enter Tryz.func11, Tryz.ntmps11
  go_wp2_with (first | (go_at_call 21; (refine hcall.out.mono ?_); rintro e w11 ⟨v0, rfl, ho, hb, hk⟩))
  go_ret
  exact ⟨_, rfl, ho, hb, hk⟩
end Go.Proofs.YthbmfhkpkkgdnaaGreatDoor.Q

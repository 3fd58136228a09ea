import Derived.Test.YthbmfhkpkkgdnaaGreatDoorT4
namespace Go.Proofs.YthbmfhkpkkgdnaaGreatDoor.Q
open Go.RowKit Go.Proofs.YthbmfhkpkkgdnaaGreatDoorW.PrintWords Go.Proofs.YthbmfhkpkkgdnaaGreatDoorW.PrintLast Go.Proofs.YthbmfhkpkkgdnaaGreatDoorW.PrintMore
attribute [local go_sem] max2_int min2_int max_two min_two max_three min_three max_four min_four
set_option linter.unusedVariables false
set_option linter.unusedSimpArgs false
set_option maxHeartbeats 8000000 in
set_option maxRecDepth 100000 in
theorem strconv_setDigits.calls (b g nd U : Nat) (p : Int) (l0 : List Int) (w : World) (hb : Buf b w g l0) (hn : nd ≤ 20) (hU : U < 2 ^ 64) (hU10 : U < 10 ^ nd) (hp : -2000 ≤ p ∧ p ≤ 2000) :
    Calls Tryz.prog 45 #[.slice (some ⟨g, 0, none⟩) 32 32, .int .u64 U, .int .i64 p, .int .i64 nd] w fun e w' => ∃ (l : List Int) (n : Nat), e = .returned (.tuple #[.int .i64 (nd + p), .int .i64 n]) ∧ Buf b w' g l ∧ Put U nd 0 l0 l ∧ n ≤ nd ∧ (∀ i, n ≤ i → i < nd → l.getD i 0 = 48) ∧ (n = 0 ∨ l.getD (n - 1) 0 ≠ 48) ∧ KB b g w w' := by
  have hb0 := hb.2.1
  have HB := Aside0.mk hb
  clear hb
  have HU10 := Aside0.mk hU10
  clear hU10
  have c0 : decide ((nd : Int) ≤ 32) = true := decide_eq_true (by omega)
  have hw : wrap64 ((nd : Int) + p) = (nd : Int) + p := by unfold wrap64; omega
  have pn : ((nd : Int) ≤ 32) = True := eq_true (by omega)
  go_enter Tryz.func45, Tryz.ntmps45
  go_wp2_with (first | ((with_reducible refine gate_callee (f := 69) rfl ?_); refine goesL_ (some 18) rfl rfl Tryz.func69 (by kernel_rfl) rfl #[.slice (some ⟨g, 0, none⟩) nd 32, .int .u64 U] rfl (by (try simp only [List.map_toArray, List.map_cons, List.map_nil]); first | done | rfl) ?_; (with_reducible refine (strconv_formatBase10.calls b g nd 32 U l0 _ HB.out hn (by omega) hU HU10.out).mono ?_); rintro e w6 ⟨rfl, l, hl1, hl2, hl3⟩; refine ⟨_, rfl, ?_⟩; have HB6 := Aside0.mk hl1; have HP6 := Aside0.mk hl2; have HK6 := Aside0.mk hl3; clear hl1 hl2 hl3))
  clear HB
  go_loopg [3] (nd + 1) (fun kq v3 w' => ∃ m : Nat, v3 = .int .i64 (m : Int) ∧ Aside0 (m < kq ∧ m ≤ nd ∧ ∀ i, m ≤ i → i < nd → l.getD i 0 = 48) ∧ Aside0 (Buf b w' g l) ∧ Aside0 (KB b g w w'))
  case atStart => exact ⟨nd, rfl, ⟨by omega, by omega, fun i h1 h2 => by omega⟩, HB6, HK6⟩
  case round =>
    clear HB6 HK6
    obtain ⟨m, rfl, HA, HB, HK⟩ := hrel
    obtain ⟨hm, hmn, h48⟩ := HA.out
    replace h48 := Aside0.mk h48
    clear HA
    cases gk with
    | zero => omega
    | succ k1 =>
      by_cases c : 0 < m
      · have c1 : decide ((0 : Int) < (m : Int)) = true := decide_eq_true (by omega)
        have wm1 : wrap64 ((m : Int) - 1) = (m : Int) - 1 := by unfold wrap64; omega
        have pm1 : ((1 : Int) ≤ (m : Int)) = True := eq_true (by omega)
        have qm1 : ((m : Int) - 1 < 32) = True := eq_true (by omega)
        have tm1 : ((m : Int) - 1).toNat = m - 1 := by omega
        have hc_ := Buf.cell HB.out (m - 1) (by omega)
        by_cases c4 : l.getD (m - 1) 0 = 48
        · rw [c4] at hc_
          replace c4 := Aside0.mk c4
          go_wp2
          go_roundg k1
          case measure => omega
          case rel => exact ⟨m - 1, (by congr 1; first | omega | (unfold wrap64; omega)), ⟨by omega, by omega, fun i h1 h2 => by { by_cases h : i = m - 1; · { rw [h]; exact c4.out }; · exact h48.out i (by omega) h2 }⟩, HB, HK⟩
        · obtain ⟨x, hx⟩ : ∃ x, l.getD (m - 1) 0 = x := ⟨_, rfl⟩
          rw [hx] at hc_ c4
          have c42 : (x == 48) = false := by simpa using c4
          replace hx := Aside0.mk hx
          replace c4 := Aside0.mk c4
          go_wp2
          go_ret2
          exact ⟨l, m, rfl, HB.out, HP6.out, hmn, h48.out, .inr (by rw [hx.out]; exact c4.out), HK.out⟩
      · have c1 : decide ((0 : Int) < (m : Int)) = false := decide_eq_false (by omega)
        obtain rfl : m = 0 := by omega
        go_wp2
        go_ret2
        exact ⟨l, 0, rfl, HB.out, HP6.out, hmn, h48.out, .inl rfl, HK.out⟩
end Go.Proofs.YthbmfhkpkkgdnaaGreatDoor.Q

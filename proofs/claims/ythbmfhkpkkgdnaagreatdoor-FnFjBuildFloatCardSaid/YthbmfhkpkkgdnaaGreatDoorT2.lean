import Derived.Test.YthbmfhkpkkgdnaaGreatDoorQ1
import Derived.Test.YthbmfhkpkkgdnaaGreatDoorX1
namespace Go.Proofs.YthbmfhkpkkgdnaaGreatDoor.Q
open Go.RowKit Go.Proofs.YthbmfhkpkkgdnaaGreatDoorW.PrintWords Go.Proofs.YthbmfhkpkkgdnaaGreatDoorW.PrintLast Go.Proofs.YthbmfhkpkkgdnaaGreatDoorW.PrintMore
attribute [local go_sem] max2_int min2_int max_two min_two max_three min_three max_four min_four
set_option linter.unusedVariables false
set_option linter.unusedSimpArgs false
/-- The table of powers of ten below 2^64, as it lies. -/
def TabU (w : World) : Prop := ∀ i : Nat, i < 20 → w.cell? ⟨2, i, none⟩ = some (.int .u64 ((10 : Int) ^ i))
def strconv_numDigits.f (k : Nat) (a0 : Int) : Option Int := (bits_Len64.f k a0).bind fun l => (strconv_log10Pow2.f l).bind fun n => if 0 ≤ n ∧ n < 20 then (strconv_bool2_int.f (decide (a0 ≥ (10 : Int) ^ n.toNat))).bind fun b => some (wrap64 (n + b)) else none
set_option maxHeartbeats 8000000 in
set_option maxRecDepth 100000 in
theorem strconv_numDigits.calls (k : Nat) (a0 r : Int) (w : World) (hT : TabU w) (h : strconv_numDigits.f k a0 = some r) :
    Calls Tryz.prog 46 #[.int .u64 a0] w fun e w' => e = .returned (.int .i64 r) ∧ Drawn0 w w' := by
  unfold strconv_numDigits.f at h
  obtain ⟨l, hl, h⟩ := Option.bind_eq_some_iff.mp h
  obtain ⟨n, hn, h⟩ := Option.bind_eq_some_iff.mp h
  by_cases hb : 0 ≤ n ∧ n < 20
  · rw [if_pos hb] at h
    obtain ⟨b, hbb, h⟩ := Option.bind_eq_some_iff.mp h
    obtain rfl := Option.some.inj h
    obtain ⟨p1, p2⟩ := hb
    have hc := hT n.toNat (by omega)
    have hl := Aside0.mk hl
    have hn := Aside0.mk hn
    have hbb := Aside0.mk hbb
    go_enter Tryz.func46, Tryz.ntmps46
    go_wp2_with (first | (go_at_call 43; (with_reducible refine (bits_Len64.calls k a0 l _ hl.out).mono ?_); rintro e w' ⟨rfl, ⟨nd, rfl⟩⟩; (try first | exact ⟨rfl, _, World.drewN_drewN _ _ _⟩)) | (go_at_call 47; (with_reducible refine (strconv_log10Pow2.calls l n _ hn.out).mono ?_); rintro e w' ⟨rfl, ⟨nd, rfl⟩⟩) | (go_at_call 70; (with_reducible refine (strconv_bool2_int.calls (decide (a0 ≥ (10 : Int) ^ n.toNat)) b _ hbb.out).mono ?_); rintro e w' ⟨rfl, ⟨nd, rfl⟩⟩))
    go_ret
    exact ⟨rfl, _, rfl⟩
  · rw [if_neg hb] at h; exact absurd h (by simp)
end Go.Proofs.YthbmfhkpkkgdnaaGreatDoor.Q

/- Words of our own beside the print's: a string's bytes appended to a row of the call's own, told with where the row then lies. -/
import Derived.Test.YtnejkimpkaopoaaGreatDoorKa
namespace Go.Proofs.YtnejkimpkaopoaaGreatDoorW.PrintWords
open RowKit
set_option linter.unusedVariables false
set_option linter.unusedSimpArgs false
namespace Kd
section
variable {P : Program}
variable {ops : Array Oper} {rest : List Oper} {o : Oper} {a : Act} {Q : Exit → Act → World → Prop} {Kc : Act → World → Prop}
end
end Kd
/-! What came in and stays readable whatever is written in S: its row is none of S, so an element's own slices stay readable, too. -/
namespace Kd
section
variable {α : Type} {d : Kd α} {w W W2 : World} {S : Nat → Prop} {A : Option Addr} {n : Nat} {xs : List α}
end
end Kd
/-! make([]T, 0, n): an empty row of one's own. -/
namespace Kd
section
variable {P : Program} {ops : Array Oper} {rest : List Oper} {o : Oper} {a : Act} {Q : Exit → Act → World → Prop} {Kc : Act → World → Prop} {α : Type}
theorem run_make0 (d : Kd α) {w0 W : World} (base e : Nat) (t : TypeId) (n : Int)
    (ht : P.underlying t = some (.slice e)) (z : Value) (bytes : Nat) (hinfo : (P.info? e).map (fun i => (i.zero, i.size, i.bytes)) = some (some z, d.sz, bytes)) (hz : z.cells.size = d.sz) (hs0 : 0 < d.sz) (hb0 : 0 < bytes)
    {ok : Nat → Prop} (hfresh : ok W.heap.size) (h0 : 0 ≤ n) (hl : n.toNat * bytes ≤ 281474976710656) (HB : Below base w0 W) (hbase : base ≤ W.heap.size) :
    ∃ v1 w1, (Instr.makeSlice t (.int .i64 0) (.int .i64 n)).run P W = .ok v1 w1 ∧ d.R e w1 base ok v1 ([] : List α) ∧ Below base w0 w1 ∧ W.grownBy w1 none ∧ (∃ b, v1.ownBlock = some b ∧ W.heap.size ≤ b) := by
  obtain ⟨m, rfl⟩ := Int.eq_ofNat_of_zero_le h0
  simp only [Int.toNat_natCast] at hl
  obtain ⟨i0, hi, hzz⟩ := Option.map_eq_some_iff.1 hinfo
  simp only [Prod.mk.injEq] at hzz
  obtain ⟨hz0, hz1, hz2⟩ := hzz
  have hm : m ≤ 281474976710656 := Nat.le_trans (Nat.le_mul_of_pos_right _ hb0) hl
  have hr := run_make (P := P) W t e i0 z ht hi hz0 .i64 .i64 (0 : Int) (m : Int) (by omega) (by omega)
    (by
      have h3 : ((i0.bytes * m : Nat) : Int) ≤ 281474976710656 := by rw [hz2, Nat.mul_comm]; omega
      rwa [Int.natCast_mul] at h3) (by omega)
  simp only [Int.toNat_natCast] at hr
  rw [hz1] at hr
  refine ⟨_, _, hr, ⟨fun k hk => ?_, [], ⟨by simp, .inr ⟨W.heap.size, m, madeCells z.cells (m * d.sz), rfl, hbase, heap_alloc_new W _, Nat.zero_le _, by simp only [maxLen]; omega, by rw [size_madeCells], by simp⟩⟩, Reps.none _ _⟩, ?_, World.grownBy_alloc W _ _, ⟨W.heap.size, rfl, Nat.le_refl _⟩⟩
  · have : W.heap.size = k := by simpa [Value.ownBlock] using hk
    rw [← this]; exact hfresh
  · exact HB.alloc hbase _
end
end Kd
end Go.Proofs.YtnejkimpkaopoaaGreatDoorW.PrintWords

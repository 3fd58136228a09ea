/- What the listed variables tell the walks: the table of powers of ten and the table below 2^64 lie as their text says. -/
import Derived.Test.YthbmfhkpkkgdnaaGreatDoorRows
import Derived.Test.YthbmfhkpkkgdnaaGreatDoorT18
import Derived.ProofKit
import Derived.LaidMore
import Derived.OpenShut
import Derived.Lib.LaidTab
namespace Go.Proofs.YthbmfhkpkkgdnaaGreatDoor.Laid
open Go.ChangeShapes Go.WideShapes Go.ChangeAt Go.RowKit Go.Lib Go.Proofs.YthbmfhkpkkgdnaaGreatDoor.Q
set_option linter.unusedVariables false
theorem gU : Tryz.prog.globalNamed "internal/strconv.uint64pow10" = some 2 := by kernel_rfl
theorem gP : Tryz.prog.globalNamed "internal/strconv.pow10Tab" = some 3 := by kernel_rfl
theorem tU : (Tryz.prog.globals[2]?).map (·.type) = some 130 := by kernel_rfl
theorem tP : (Tryz.prog.globals[3]?).map (·.type) = some 142 := by kernel_rfl
theorem c130 : Tryz.prog.cellsOf 130 = 20 := by kernel_rfl
theorem c142 : Tryz.prog.cellsOf 142 = 1392 := by kernel_rfl
theorem c141 : Tryz.prog.cellsOf 141 = 2 := by kernel_rfl
theorem c61 : Tryz.prog.cellsOf 61 = 1 := by kernel_rfl
def pows : List Int := [1, 10, 100, 1000, 10000, 100000, 1000000, 10000000, 100000000, 1000000000, 10000000000, 100000000000, 1000000000000, 10000000000000, 100000000000000, 1000000000000000, 10000000000000000, 100000000000000000, 1000000000000000000, 10000000000000000000]
theorem pows_eq {H : Type} : (Rows.laid_internal_strconv_uint64pow10 : DataW H) = tabData .u64 pows := rfl
theorem pows_at : ∀ i : Nat, i < 20 → pows.getD i 0 = (10 : Int) ^ i := by decide
/-- A table of pairs, cell for cell. -/
theorem cells_of_pairs {enc : TypeId × Value → Unit} {w : World} {base : Nat} {sp : Nat → Bool} {held : Bool} {fuel : Nat} {cs : List Value} {rows : List (Nat × Nat)} {p : List MemPlace}
    (hr : rows.length = 696) (h : DataW.trod enc Tryz.prog w base sp held fuel 142 cs = some (.agg (rows.map fun x => .agg [.lit (.int .u64 x.1), .lit (.int .u64 x.2)]), p)) :
    ∀ i : Nat, i < 696 → cs[i * 2]? = some (.int .u64 ((rows.getD i (0, 0)).1 : Nat)) ∧ cs[i * 2 + 1]? = some (.int .u64 ((rows.getD i (0, 0)).2 : Nat)) := by
  intro i hi
  cases fuel with
  | zero => simp [DataW.trod] at h
  | succ fuel =>
    simp only [DataW.trod, Tryz.underlying142, c141, c142] at h
    split at h
    · rename_i hl
      obtain ⟨xs, hm, hx⟩ := Option.map_eq_some_iff.1 h
      have hxs : xs.map (·.1) = rows.map fun x => (DataW.agg [.lit (.int .u64 x.1), .lit (.int .u64 x.2)] : DataW Unit) := by
        have := congrArg Prod.fst hx
        simpa using this
      obtain ⟨b, hb, hf⟩ := mapM_at hm i i (by simp [hi])
      have h2 : (xs.map (·.1))[i]? = some b.1 := by simp [hb]
      rw [hxs, List.getElem?_map, List.getElem?_eq_getElem (by omega)] at h2
      have hgd : rows.getD i (0, 0) = rows[i]'(by omega) := by simp [List.getD, hr, hi]
      obtain ⟨b1, b2⟩ := b
      have h2 : DataW.agg [.lit (.int .u64 ((rows[i]'(by omega)).1 : Nat)), .lit (.int .u64 ((rows[i]'(by omega)).2 : Nat))] = b1 := Option.some.inj h2
      subst h2
      cases fuel with
      | zero => simp [DataW.trod] at hf
      | succ fuel =>
        simp only [DataW.trod, Tryz.underlying141, c141] at hf
        split at hf
        · rename_i hl2
          obtain ⟨ys, hm2, hx2⟩ := Option.map_eq_some_iff.1 hf
          obtain ⟨y0, hy0, hf0⟩ := mapM_at hm2 0 _ rfl
          obtain ⟨y1, hy1, hf1⟩ := mapM_at hm2 1 _ rfl
          obtain ⟨k0, e0, e0', _⟩ := DataW.trod_int Tryz.underlying61 hf0
          obtain ⟨k1, e1, e1', _⟩ := DataW.trod_int Tryz.underlying61 hf1
          have hys := congrArg Prod.fst hx2
          simp only [DataW.agg.injEq] at hys
          have g0 := congrArg (·[0]?) hys
          have g1 := congrArg (·[1]?) hys
          simp [hy0, hy1] at g0 g1
          rw [hgd]
          have a0 : (((cs.drop (i * 2)).take 2).drop 0).take (Tryz.prog.cellsOf 61) = [Value.int IntKind.u64 k0] := e0
          have a1 : (((cs.drop (i * 2)).take 2).drop 1).take (Tryz.prog.cellsOf 61) = [Value.int IntKind.u64 k1] := e1
          rw [c61] at a0 a1
          rw [e0'] at g0
          rw [e1'] at g1
          injection g0 with g0
          injection g0 with _ g0
          injection g1 with g1
          injection g1 with _ g1
          have b0 := congrArg (·[0]?) a0
          have b1 := congrArg (·[0]?) a1
          simp only [List.getElem?_take, List.getElem?_drop] at b0 b1
          rw [← g0, ← g1]
          exact ⟨by simpa using b0, by simpa [Nat.add_comm] using b1⟩
        · cases hf
    · cases h
/-- The two tables, out of the row's condition. -/
theorem tabs {W : World} (h : laidMet Tryz.prog Rows.fnFjBuildFloatRow.laid W) : TabP W ∧ TabU W ∧ 3 < W.heap.size := by
  obtain ⟨ps, ⟨_, _, _, _, _, _, _, _, _, _, ⟨_, _, _, _, _, _, _, _, _, _, ⟨_, _, _, _, _, _, _, _, _, _, ⟨g3, t3, cs3, f3, p3, q3, hg3, ht3, hv3, hd3, ⟨_, _, _, _, _, _, _, _, _, _, ⟨_, _, _, _, _, _, _, _, _, _, ⟨g6, t6, cs6, f6, p6, q6, hg6, ht6, hv6, hd6, _, _⟩, _⟩, _⟩, _⟩, _⟩, _⟩, _⟩, _, _⟩ := h
  obtain rfl := Option.some.inj (gU.symm.trans hg3)
  obtain rfl := Option.some.inj (gP.symm.trans hg6)
  obtain rfl := Option.some.inj (tU.symm.trans ht3)
  obtain rfl := Option.some.inj (tP.symm.trans ht6)
  have hU := cells_of_tab (zs := pows) (k := .u64) Tryz.underlying130 Tryz.underlying61 c61 c130 hd3
  have hP := cells_of_pairs (rows := Go.Pinned.pow10Rows) (by decide +kernel) hd6
  have cP : ∀ j, W.cell? ⟨3, j, none⟩ = cs6.toList[j]? := fun j => by rw [Array.getElem?_toList]; exact World.var?_cell hg6 hv6 j
  have cU : ∀ j, W.cell? ⟨2, j, none⟩ = cs3.toList[j]? := fun j => by rw [Array.getElem?_toList]; exact World.var?_cell hg3 hv3 j
  refine ⟨fun i hi => ?_, fun i hi => ?_, ?_⟩
  · obtain ⟨a, b⟩ := hP i hi
    exact ⟨(cP _).trans a, (cP _).trans b⟩
  · rw [cU, hU, List.getElem?_map, ← pows_at i hi]
    have hl : pows.length = 20 := rfl
    rw [List.getElem?_eq_getElem (by omega)]
    simp [List.getD, hl, hi]
  · have := (hP 0 (by decide)).1
    exact World.block_lt_of_cell? W ⟨3, 0, none⟩ ((cP 0).trans this)
end Go.Proofs.YthbmfhkpkkgdnaaGreatDoor.Laid

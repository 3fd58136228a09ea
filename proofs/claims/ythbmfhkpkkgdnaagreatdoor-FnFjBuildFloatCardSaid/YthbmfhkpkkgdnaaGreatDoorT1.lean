import Derived.Test.YthbmfhkpkkgdnaaGreatDoorQ4
import Derived.Test.YthbmfhkpkkgdnaaGreatDoorX1
import GoSem.PinnedTables
namespace Go.Proofs.YthbmfhkpkkgdnaaGreatDoor.Q
open Go.RowKit Go.Proofs.YthbmfhkpkkgdnaaGreatDoorW.PrintWords Go.Proofs.YthbmfhkpkkgdnaaGreatDoorW.PrintLast Go.Proofs.YthbmfhkpkkgdnaaGreatDoorW.PrintMore
attribute [local go_sem] max2_int min2_int max_two min_two max_three min_three max_four min_four
set_option linter.unusedVariables false
set_option linter.unusedSimpArgs false
def pHi (i : Nat) : Int := ((Go.Pinned.pow10Rows.getD i (0, 0)).1 : Nat)
def pLo (i : Nat) : Int := ((Go.Pinned.pow10Rows.getD i (0, 0)).2 : Nat)
/-- The table of powers of ten, as it lies. -/
def TabP (w : World) : Prop := ∀ i : Nat, i < 696 → w.cell? ⟨3, i * 2, none⟩ = some (.int .u64 (pHi i)) ∧ w.cell? ⟨3, i * 2 + 1, none⟩ = some (.int .u64 (pLo i))
set_option maxHeartbeats 8000000 in
set_option maxRecDepth 100000 in
theorem strconv_prescale.calls (g : Nat) (f0 f1 f2 : Int) (ex p lp : Int) (w0 w : World) (hI : IsS121 w0 w g f0 f1 f2) (hB : Below w0.heap.size w0 w) (hp : -348 ≤ p ∧ p ≤ 347) (hT : TabP w) (h3 : 3 < w0.heap.size) :
    Calls Tryz.prog 62 #[.pointer (some ⟨g, 0, none⟩), .int .i64 ex, .int .i64 p, .int .i64 lp] w fun e w' => e = .returned (.tuple #[]) ∧ IsS121 w0 w' g (pHi (p + 348).toNat) (pLo (p + 348).toNat) (wrap64 (-wrap64 (wrap64 (ex + lp) + 3))) ∧ Below w0.heap.size w0 w' ∧ KeepBut w w' g none := by
  have hg : g ≠ 3 := by have := hI.2; omega
  have hi : (p + 348).toNat < 696 := by omega
  obtain ⟨t0, t1⟩ := hT _ hi
  obtain ⟨HGz, hgz⟩ := hI
  have hcz0 := cellS121_0 HGz
  have hcz1 := cellS121_1 HGz
  have hcz2 := cellS121_2 HGz
  have hfz0 := blk_frozen HGz 0
  have hfz1 := blk_frozen HGz 1
  have hfz2 := blk_frozen HGz 2
  have hw : wrap64 (p + 348) = p + 348 := by unfold wrap64; omega
  go_enter Tryz.func62, Tryz.ntmps62
  go_wp2
  refine bodyPost_end (v := .tuple #[]) ?_ rfl ⟨rfl, ?_, ?_, ?_⟩
  · exact results_none rfl _ _ _
  · exact ((IsS121.set_2 (IsS121.set_1 (IsS121.set_0 ⟨HGz, hgz⟩ _) _) _))
  · exact below_set (below_set (below_set hB hgz) hgz) hgz
  · exact ((((KeepBut.refl w g none).set_ 0 _).set_ 1 _).set_ 2 _)
end Go.Proofs.YthbmfhkpkkgdnaaGreatDoor.Q

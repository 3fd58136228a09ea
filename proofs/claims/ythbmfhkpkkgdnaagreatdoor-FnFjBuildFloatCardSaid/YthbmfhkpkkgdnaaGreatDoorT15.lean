import Derived.Test.YthbmfhkpkkgdnaaGreatDoorQ0
import Derived.Test.YthbmfhkpkkgdnaaGreatDoorX1
namespace Go.Proofs.YthbmfhkpkkgdnaaGreatDoor.Q
open Go.RowKit Go.Proofs.YthbmfhkpkkgdnaaGreatDoorW.PrintWords Go.Proofs.YthbmfhkpkkgdnaaGreatDoorW.PrintLast Go.Proofs.YthbmfhkpkkgdnaaGreatDoorW.PrintMore
attribute [local go_sem] max2_int min2_int max_two min_two max_three min_three max_four min_four
set_option linter.unusedVariables false
set_option linter.unusedSimpArgs false
def Z49 : Value := .agg #[.slice none 0 0, .bool false, .slice none 0 0, .string ⟨#[]⟩, .int .i64 0]
theorem info49 : (Tryz.prog.info? 49).map (fun i => (i.zero, i.size, i.bytes)) = some (some Z49, 5, 80) := by kernel_rfl
def V49 : List Value := [.slice none 0 0, .bool false, .slice none 0 0, .string ⟨#[]⟩, .int .i64 0]
set_option maxHeartbeats 8000000 in
set_option maxRecDepth 100000 in
theorem fastjson_cache_getValue.fresh (g : Nat) (w0 w : World) (hB : Below w0.heap.size w0 w) (hg : w0.heap.size ≤ g) (BK : w.heap[g]? = some (.cells #[.slice none 0 0, .slice none 0 0] 32 (0, 0))) :
    Calls Tryz.prog 10 #[.pointer (some ⟨g, 1, none⟩)] w fun e w' => ∃ (g2 : Nat) (cur : Array Value) (v : Value), e = .returned (.pointer (some ⟨g2, 0, none⟩)) ∧ w.heap.size ≤ g2 ∧ Below w0.heap.size w0 w' ∧
      w'.heap[g]? = some (.cells #[.slice none 0 0, v] 32 (0, 0)) ∧ w'.heap[g2]? = some (.cells cur 49 (0, 0)) ∧ cur.toList.take 5 = V49 := by
  obtain ⟨i0, hi, hz0, hz1, hz2⟩ := info_parts info49
  have h0 : w.cell? ⟨g, 1, none⟩ = some (.slice none 0 0) := (blk_cell BK 1).trans rfl
  have hf := blk_frozen BK 1
  have hgw := blk_lt BK
  have BK := Aside0.mk BK
  have hB := Aside0.mk hB
  go_enter Tryz.func10, Tryz.ntmps10
  go_wp2
  go_quiet (fail)
  go_wp2_with (first | ((with_reducible refine gate_builtin (b := .append) (xs := #[.tmp 32, .tmp 34]) rfl ?_); at_builtin; refine wpList_append_own _ rfl _ _ 28 rfl w.heap.size 49 i0 Z49 5 80 Tryz.underlying28 hi hz0 hz1 hz2 rfl (by decide) (.slice none 0 0) 0 [] rfl ⟨rfl, .inl ⟨rfl, rfl⟩⟩ ⟨w.heap.size, 0, none⟩ 1 1 V49 rfl rfl ?c1 ?c2 ?c3 ?c4 ?c5 ?_))
  case c1 =>
    intro j u hj
    have hb := heap_alloc_new (w.drewN nq) (.cells #[.slice none 0 0, .bool false, .slice none 0 0, .string ⟨#[]⟩, .int .i64 0] 49)
    rw [show (⟨w.heap.size, 0, none⟩ : Addr).add j = ⟨w.heap.size, j, none⟩ by simp only [Addr.add]; split <;> simp_all]
    refine (blk_cell hb j).trans ?_
    rw [← hj]; simp [V49]
  case c2 => intro u hu; simp only [V49, List.mem_cons, List.not_mem_nil, or_false] at hu; rcases hu with rfl | rfl | rfl | rfl | rfl <;> rfl
  case c3 => simp [maxLen]
  case c4 => decide
  case c5 => simp
  intro v' w' hown hgr hnil
  have BK := Aside0.mk (blk_grown (blk_alloc (blk_drewN BK.out nq) (.cells #[.slice none 0 0, .bool false, .slice none 0 0, .string ⟨#[]⟩, .int .i64 0] 49)) hgr (by simp [Value.ownBlock]))
  have hB := Aside0.mk (pw_below_grown (below_alloc (pw_below_drewN hB.out nq) (.cells #[.slice none 0 0, .bool false, .slice none 0 0, .string ⟨#[]⟩, .int .i64 0] 49)) _ (below_alloc (pw_below_drewN hB.out nq) _).size hgr (by intro k hk; cases hk))
  obtain ⟨_, ⟨rfl, h1⟩ | ⟨g2, cap, cur, rfl, hg2, hb2, hnc, hcm, hcs, htk⟩⟩ := hown
  · exact absurd h1 (by decide)
  have h0 : w'.cell? ⟨g, 1, none⟩ = some (.slice none 0 0) := (blk_cell BK.out 1).trans rfl
  have hf := blk_frozen BK.out 1
  have hne : g2 ≠ g := by omega
  have BKz := Aside0.mk (show (w'.setCell ⟨g, 1, none⟩ (.slice (some ⟨g2, 0, none⟩) 1 cap)).heap[g]? = some (.cells #[.slice none 0 0, .slice (some ⟨g2, 0, none⟩) 1 cap] 32 (0, 0)) from blk_set BK.out 1 _)
  have hBz := Aside0.mk (below_set (g := g) (j := 1) (v := .slice (some ⟨g2, 0, none⟩) 1 cap) hB.out hg)
  have BK2 := Aside0.mk (blk_far hb2 (p := ⟨g, 1, none⟩) hne (.slice (some ⟨g2, 0, none⟩) 1 cap))
  clear hgr hnil BK hB hb2 hcm hcs
  go_upto_region 4 with (fail)
  generalize World.setCell _ _ _ = wz at BKz hBz BK2 ⊢
  have h0 : wz.cell? ⟨g, 1, none⟩ = some (.slice (some ⟨g2, 0, none⟩) 1 cap) := (blk_cell BKz.out 1).trans rfl
  go_quiet (fail)
  go_wp2
  go_ret
  exact ⟨g2, cur, _, rfl, hg2, pw_below_drewN hBz.out _, blk_drewN BKz.out _, blk_drewN BK2.out _, by simpa using htk⟩
end Go.Proofs.YthbmfhkpkkgdnaaGreatDoor.Q

import Derived.Test.YthbmfhkpkkgdnaaGreatDoorT15
import Derived.Test.YthbmfhkpkkgdnaaGreatDoorT9
namespace Go.Proofs.YthbmfhkpkkgdnaaGreatDoor.Q
open Go.RowKit Go.Proofs.YthbmfhkpkkgdnaaGreatDoorW.PrintWords Go.Proofs.YthbmfhkpkkgdnaaGreatDoorW.PrintLast Go.Proofs.YthbmfhkpkkgdnaaGreatDoorW.PrintMore
attribute [local go_sem] max2_int min2_int max_two min_two max_three min_three max_four min_four
set_option linter.unusedVariables false
set_option linter.unusedSimpArgs false
theorem five_cells {cur : Array Value} (h : cur.toList.take 5 = V49) : 5 ≤ cur.size ∧ cur[3]? = some (.string ⟨#[]⟩) ∧ cur[4]? = some (.int .i64 0) := by
  obtain ⟨l⟩ := cur
  match l, h with
  | a :: b :: c :: d :: e :: r, h =>
    simp [V49] at h
    obtain ⟨rfl, rfl, rfl, rfl, rfl⟩ := h
    simp
theorem row_some {w : World} {base : Nat} {ok : Nat → Prop} {v : Value} {xs : List Int} (h : Kd.R (Kd.int .u8) 5 w base ok v xs) (hl : 0 < xs.length) :
    ∃ g c, v = .slice (some ⟨g, 0, none⟩) xs.length c ∧ xs.length ≤ c := by
  obtain ⟨inner, h1⟩ := Kd.R_own h
  obtain ⟨_, ⟨_, h2⟩ | ⟨g, cap, cur, h3, _, _, h4, _⟩⟩ := h1
  · omega
  · exact ⟨g, cap, h3, h4⟩
set_option maxHeartbeats 8000000 in
set_option maxRecDepth 100000 in
theorem fastjson_Arena_NewNumberFloat64.fresh (k g : Nat) (b : Nat) (r : List Int) (w0 w : World) (hb64 : b < 18446744073709551616) (hfin : b % 9223372036854775808 < 9218868437227405312) (h : Texts k [] b r) (hr : 0 < r.length)
    (hT : TabP w0) (hU : TabU w0) (h3 : 3 < w0.heap.size) (hB : Below w0.heap.size w0 w) (hg : w0.heap.size ≤ g) (BK : w.heap[g]? = some (.cells #[.slice none 0 0, .slice none 0 0] 32 (0, 0))) :
    Calls Tryz.prog 6 #[.pointer (some ⟨g, 0, none⟩), .float .f64 b] w fun e w' => ∃ g2 : Nat, e = .returned (.pointer (some ⟨g2, 0, none⟩)) ∧ Below w0.heap.size w0 w' ∧
      w'.cell? ⟨g2, 3, none⟩ = some (.string (strOfNums r)) ∧ w'.cell? ⟨g2, 4, none⟩ = some (.int .i64 4) := by
  have hgw := blk_lt BK
  have h3w : 3 < w.heap.size := Nat.lt_of_lt_of_le h3 hB.size
  have hcall := Aside0.mk (fastjson_cache_getValue.fresh g w0 w hB hg BK)
  have HH := Aside0.mk (And.intro h (And.intro hT hU))
  clear h hT hU BK hB
  go_enter Tryz.func6, Tryz.ntmps6
  go_upto_region 2 with (first | (go_at_call 10; (refine hcall.out.mono ?_); rintro e w1 ⟨g2, cur, v, rfl, hg2, hB, BK, BK2, hcur⟩))
  have hgg : g2 ≠ g := by omega
  obtain ⟨f5, f3, f4⟩ := five_cells hcur
  have hc4 : w1.cell? ⟨g2, 4, none⟩ = some (.int .i64 0) := (blk_cell BK2 4).trans f4
  have hf4 := blk_frozen BK2 4
  have BKz := Aside0.mk (blk_far BK (p := ⟨g2, 4, none⟩) (fun e => hgg e.symm) (.int .i64 4))
  have BK2z := Aside0.mk (blk_set BK2 4 (.int .i64 4))
  have hBz := Aside0.mk (below_set (g := g2) (j := 4) (v := .int .i64 4) hB (by omega))
  have f3z := Aside0.mk (show (cur.setIfInBounds 4 (.int .i64 4))[3]? = some (.string ⟨#[]⟩) by rw [Array.getElem?_setIfInBounds_ne (by decide)]; exact f3)
  have f4z := Aside0.mk (show (cur.setIfInBounds 4 (.int .i64 4))[4]? = some (.int .i64 4) by rw [Array.getElem?_setIfInBounds_self_of_lt (by omega)])
  clear BK BK2 hB hcur f3 f4
  go_upto_region 3 with (fail)
  clear hc4 hf4
  generalize World.setCell _ _ _ = wz at BKz BK2z hBz ⊢
  have h0 : wz.cell? ⟨g, 0, none⟩ = some (.slice none 0 0) := (blk_cell BKz.out 0).trans rfl
  have hcall2 := Aside0.mk (strconv_AppendFloat.calls k (fun _ => False) (.slice none 0 0) [] b r w0 wz hb64 hfin HH.out.1 (HH.out.2.1.below h3 hBz.out) (HH.out.2.2.below h3 hBz.out) (Nat.lt_of_lt_of_le h3 hBz.out.size) (fun _ h => h.elim) hBz.out (Kd.R_nil (Kd.int .u8) 5 _ _ _))
  go_upto_region 5 with (first | (go_at_call 11; (refine hcall2.out.mono ?_); rintro e w2 ⟨v0, rfl, hR, hB, hK⟩; have BKa := Aside0.mk (blk_kept BKz.out hK (fun h => h)); have BK2a := Aside0.mk (blk_kept BK2z.out hK (fun h => h)); have h00 : w2.cell? ⟨g, 0, none⟩ = some (.slice none 0 0) := (blk_cell BKa.out 0).trans rfl; have hf00 := blk_frozen BKa.out 0; have HR := Aside0.mk hR; have hBa := Aside0.mk hB; clear hR hB hK; obtain ⟨g3, cap, hv0, hl3⟩ := row_some HR.out hr; subst hv0))
  have hg3 : g3 ≠ g := by
    intro e
    have h1 := HR.out.1 g3 rfl
    have h2 := blk_lt BKz.out
    rcases h1 with h1 | h1
    · exact h1
    · omega
  have BKb := Aside0.mk (show (w2.setCell ⟨g, 0, none⟩ (.slice (some ⟨g3, 0, none⟩) r.length cap)).heap[g]? = some (.cells #[.slice (some ⟨g3, 0, none⟩) r.length cap, v] 32 (0, 0)) from blk_set BKa.out 0 _)
  have BK2b := Aside0.mk (blk_far BK2a.out (p := ⟨g, 0, none⟩) hgg (.slice (some ⟨g3, 0, none⟩) r.length cap))
  have hBb := Aside0.mk (below_set (g := g) (j := 0) (v := .slice (some ⟨g3, 0, none⟩) r.length cap) hBa.out hg)
  have HRb := Aside0.mk (Kd.R_far HR.out (p := ⟨g, 0, none⟩) (fun k_ hk => by
    have h2 := blk_lt BKz.out
    rcases hk with hk | hk
    · exact hk.elim
    · show k_ ≠ g; omega) (.slice (some ⟨g3, 0, none⟩) r.length cap))
  clear h00 hf00 BKa BK2a hBa HR
  generalize World.setCell _ _ _ = wy at BKb BK2b hBb HRb ⊢
  have h01 : wy.cell? ⟨g, 0, none⟩ = some (.slice (some ⟨g3, 0, none⟩) r.length cap) := (blk_cell BKb.out 0).trans rfl
  have hc3 : wy.cell? ⟨g2, 3, none⟩ = some (.string ⟨#[]⟩) := (blk_cell BK2b.out 3).trans f3z.out
  have hf3 := blk_frozen BK2b.out 3
  have hb2s := Aside0.mk (fastjson_b2s.calls (some ⟨g3, 0, none⟩) cap r (strOfNums r) wy (Kd.R_reads' HRb.out).2.2 hl3 rfl)
  go_wp2_with (first | (go_at_call 12; (refine hb2s.out.mono ?_); rintro e w3 ⟨rfl, ⟨nd3, hq3⟩⟩; have BK2c := Aside0.mk (blk_at hq3.symm BK2b.out); have hBc := Aside0.mk (below_at hq3.symm hBb.out); clear hq3; have hc3c : w3.cell? ⟨g2, 3, none⟩ = some (.string ⟨#[]⟩) := (blk_cell BK2c.out 3).trans f3z.out; have hf3c := blk_frozen BK2c.out 3))
  go_ret
  refine ⟨g2, rfl, below_set (g := g2) hBc.out (by omega), ?_, ?_⟩
  · refine (blk_cell (blk_set BK2c.out 3 _) 3).trans ?_
    rw [Array.getElem?_setIfInBounds_self_of_lt (by simp; omega)]
  · refine (blk_cell (blk_set BK2c.out 3 _) 4).trans ?_
    rw [Array.getElem?_setIfInBounds_ne (by decide)]
    exact f4z.out
end Go.Proofs.YthbmfhkpkkgdnaaGreatDoor.Q

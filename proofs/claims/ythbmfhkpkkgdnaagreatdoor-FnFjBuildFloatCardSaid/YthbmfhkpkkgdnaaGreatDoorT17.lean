import Derived.Test.YthbmfhkpkkgdnaaGreatDoorT16
import Derived.Test.YthbmfhkpkkgdnaaGreatDoorT14
namespace Go.Proofs.YthbmfhkpkkgdnaaGreatDoor.Q
open Go.RowKit Go.Proofs.YthbmfhkpkkgdnaaGreatDoorW.PrintWords Go.Proofs.YthbmfhkpkkgdnaaGreatDoorW.PrintLast Go.Proofs.YthbmfhkpkkgdnaaGreatDoorW.PrintMore
attribute [local go_sem] max2_int min2_int max_two min_two max_three min_three max_four min_four
set_option linter.unusedVariables false
set_option linter.unusedSimpArgs false
theorem str_bytes (P : ByteArray) : strOfNums (bytesOf P) = P := by
  apply ByteArray.ext
  apply Array.toList_inj.1
  rw [strOfNums_data, bytesOf, List.map_map]
  conv => rhs; rw [← List.map_id P.data.toList]
  apply List.map_congr_left
  intro c _
  simp
set_option maxHeartbeats 8000000 in
set_option maxRecDepth 100000 in
theorem impl_FjBuildFloat.calls (k : Nat) (b : Nat) (r : List Int) (w : World) (hb64 : b < 18446744073709551616) (hfin : b % 9223372036854775808 < 9218868437227405312) (h : Texts k [] b r) (hr : 0 < r.length) (hr2 : r.length < 1000000)
    (hT : TabP w) (hU : TabU w) (h3 : 3 < w.heap.size) :
    Calls Tryz.prog 4 #[.float .f64 b] w fun e w' => e = .returned (.string (strOfNums r)) ∧ Below w.heap.size w w' := by
  have hsz : (strOfNums r).size < 1000000 := by rw [strOfNums_size]; exact hr2
  have HH := Aside0.mk (And.intro h (And.intro hT hU))
  clear h hT hU
  have BK := Aside0.mk (heap_alloc_new w (.cells #[.slice none 0 0, .slice none 0 0] 32))
  have HB := Aside0.mk (below_alloc (Below.refl w.heap.size w) (.cells #[.slice none 0 0, .slice none 0 0] 32))
  have hcall := fun (wa : World) (hB : Below w.heap.size w wa) (BK : wa.heap[w.heap.size]? = some (.cells #[.slice none 0 0, .slice none 0 0] 32 (0, 0))) => fastjson_Arena_NewNumberFloat64.fresh k w.heap.size b r w wa hb64 hfin HH.out.1 hr HH.out.2.1 HH.out.2.2 h3 hB (Nat.le_refl _) BK
  have hcall := Aside0.mk (hcall _ HB.out BK.out)
  go_enter Tryz.func4, Tryz.ntmps4
  go_wp2_with (first | (go_at_call 6; (refine hcall.out.mono ?_); rintro e w1 ⟨g2, rfl, hB1, hc3, hc4⟩; have hm := Aside0.mk (fastjson_Value_MarshalTo.number g2 0 (strOfNums r) w1 hc3 hsz hc4); have hB1 := Aside0.mk hB1; clear hc3 hc4) | (go_at_call 7; (refine hm.out.mono ?_); rintro e w2 ⟨v, rfl, hR, hB2⟩; have hB3 := Aside0.mk (below_then hB1.out hB1.out.size hB2); clear hB2; obtain ⟨A, c, rfl, hlc, hC⟩ := Kd.R_reads hR; have hcv2 := Kd.C_string (P := Tryz.prog) (A := A) (c := c) Tryz.underlying27 Tryz.underlying5 Tryz.underlying9 hC; clear hR hC))
  go_ret
  exact ⟨congrArg (fun s => Ending.returned (.string s)) (str_bytes _), hB3.out⟩
end Go.Proofs.YthbmfhkpkkgdnaaGreatDoor.Q

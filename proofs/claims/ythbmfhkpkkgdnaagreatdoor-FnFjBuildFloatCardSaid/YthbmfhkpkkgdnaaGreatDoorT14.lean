import Derived.Test.YthbmfhkpkkgdnaaGreatDoorT13
namespace Go.Proofs.YthbmfhkpkkgdnaaGreatDoor.Q
open Go.RowKit Go.Proofs.YthbmfhkpkkgdnaaGreatDoorW.PrintWords Go.Proofs.YthbmfhkpkkgdnaaGreatDoorW.PrintLast Go.Proofs.YthbmfhkpkkgdnaaGreatDoorW.PrintMore
attribute [local go_sem] max2_int min2_int max_two min_two max_three min_three max_four min_four
set_option linter.unusedVariables false
set_option linter.unusedSimpArgs false
set_option maxHeartbeats 8000000 in
set_option maxRecDepth 100000 in
theorem fastjson_Value_MarshalTo.number (g o : Nat) (s : ByteArray) (w : World) (h3 : w.cell? ⟨g, o + 3, none⟩ = some (.string s)) (hs : s.size < 1000000) (h4 : w.cell? ⟨g, o + 4, none⟩ = some (.int .i64 4)) :
    Calls Tryz.prog 7 #[.pointer (some ⟨g, o, none⟩), .slice none 0 0] w fun e w' => ∃ v, e = .returned v ∧ Kd.R (Kd.int .u8) 5 w' w.heap.size (fun k_ => w.heap.size ≤ k_) v (bytesOf s) ∧ Below w.heap.size w w' := by
  go_enter Tryz.func7, Tryz.ntmps7
  go_upto_region 24 with (fail)
  go_wp2_with (first | ((with_reducible refine gate_builtin (b := .append) (xs := #[.tmp 78, .tmp 82]) rfl ?_); at_builtin; refine Kd.R_append_str (w0 := w) w.heap.size rfl (.tmp 78) (.tmp 82) 27 9 5 rfl Tryz.underlying27 Tryz.underlying9 info5 (.slice none 0 0) [] s (fun k_ => w.heap.size ≤ k_) rfl rfl ?aO ?aF ?aB ?aS ?aL ?_; (case aB => exact Below.refl _ _); (case aF => exact (fun k_ hk => hk)); (case aO => exact Kd.R_nil (Kd.int .u8) 5 _ _ _); (case aS => exact Nat.le_refl _); (case aL => simp; omega); intro v180 w38 ho hb hg hat; have n1 := Aside0.mk ho; have n2 := Aside0.mk hb; clear ho hb hg hat))
  go_ret
  exact ⟨_, rfl, by simpa using n1.out, n2.out⟩
end Go.Proofs.YthbmfhkpkkgdnaaGreatDoor.Q

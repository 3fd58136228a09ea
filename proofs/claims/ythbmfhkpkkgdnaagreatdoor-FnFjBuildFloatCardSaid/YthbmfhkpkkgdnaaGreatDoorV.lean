/- FnFjBuildFloat: a number built of a finite float64 is written as a number of RFC 8259 whose nearest float64 it is. Conditions: none beyond the given statement's own (every float64; Go's own tables lie as the card's tie says). -/
import Derived.Test.YthbmfhkpkkgdnaaGreatDoorCards
import Derived.Test.YthbmfhkpkkgdnaaGreatDoorTie
import Derived.Test.YthbmfhkpkkgdnaaGreatDoorV0
import Derived.Test.YthbmfhkpkkgdnaaGreatDoorUw
import Derived.WalkKit
import Derived.ProofKit
import Derived.Laws.Cover2
import Derived.Lay
import Derived.LaidOnce
import Derived.SevenTiedAt
namespace Go.Proofs.YthbmfhkpkkgdnaaGreatDoor.fnFjBuildFloat
open Go.ChangeShapes Go.WideShapes Go.ChangeAt Go.RowKit
set_option linter.unusedVariables false
theorem own : ownKnob Tryz.prog.godebug = none := by kernel_rfl
def laid : List (String × DataW Unit) := Rows.fnFjBuildFloatRow.laid
theorem plain : (laid.all fun x => x.2.handleName?.isNone) = true := by kernel_rfl
theorem zip (os : Os) : (World.laidAll Tryz.prog os laid).variablesZipB Tryz.prog = true := by kernel_rfl
theorem ahead (os : Os) : ((World.laidAll Tryz.prog os laid).heap.toList.drop Tryz.prog.globals.size).take ((begin Tryz.prog (fun _ _ => 0) default).world.heap.size - Tryz.prog.globals.size) =
      (begin Tryz.prog (fun _ _ => 0) default).world.heap.toList.drop Tryz.prog.globals.size := by kernel_rfl
theorem fits (os : Os) : (World.holding Tryz.prog os ⟨#[], #[], []⟩).layFits Tryz.prog laid [] = true := by kernel_rfl
theorem faces (os : Os) : (World.holding Tryz.prog os ⟨#[], #[], []⟩).layIfaces Tryz.prog laid (World.laidAll Tryz.prog os laid) = true := by kernel_rfl
/-- The walk, whatever the float64. -/
theorem walk (b : Nat) (w : World) (hb : b < 18446744073709551616) (hT : Q.TabP w) (hU : Q.TabU w) (h3 : 3 < w.heap.size) :
    Calls Tryz.prog 3 #[.float .f64 b] w fun e w' => e = .returned (.bool true) ∧ Below w.heap.size w w' := by
  by_cases hfin : b % 9223372036854775808 < 9218868437227405312
  · obtain ⟨k, k2, r, ng, dg, pw, h1, h2, h3', h4, h5⟩ := U.law_fin hb hfin
    exact Q.laws_FnFjBuildFloat.fin k k2 b r ng dg pw w hb hfin h1 h2 h3' hT hU h3 h4 h5
  · exact Q.laws_FnFjBuildFloat.inf b w hfin
theorem met (os : Os) : laidMetH Tryz.prog laid ((World.laidAll Tryz.prog os laid).forCall (fun _ _ => 0) ⟨#[], #[.float .f64 0], []⟩).memory := by
  rw [MakeChecks.laidMetH_plain _ _ _ plain]
  exact laidMet_laidAll _ (fits os) (faces os)
theorem shaped (os : Os) : (World.laidAll Tryz.prog os laid).Shaped Tryz.prog := World.shaped_of_ZipB (zip os) (ahead os)
set_option maxRecDepth 100000 in
set_option maxHeartbeats 4000000 in
theorem lifted (os : Os) (started : os.Started) (H : Type) (enc : TypeId × Value → H) :
    ReturnsInHanded {} Tryz.checked os 3 .any (fun w args => (Rows.fnFjBuildFloatSpec.pre enc Tryz.prog Tryz.f3 [] false w args ∧ laidMetH Tryz.prog laid w) ∧ sizedMet enc Tryz.prog Tryz.f3 (OpenSpec.ofChange Rows.fnFjBuildFloatSpec) false w args)
      (Rows.fnFjBuildFloatSpec.post enc Tryz.prog Tryz.f3 false true false false) := by
  refine returnsInHanded_of_change_and (C := Tryz.checked) (X := fun w _ => laidMetH Tryz.prog laid w) (fun _ _ _ hh h => h.of_heap hh) own started (by kernel_rfl) Tryz.func3
    (ChangeSpec.witness_shaped (enc := enc) (C := Tryz.checked) (os := os) (X := fun w _ => laidMetH Tryz.prog laid w) false (World.laidAll Tryz.prog os laid) #[.float .f64 0] 8 (World.laidAll_os _ _ _)
      (shaped os) (by kernel_rfl) (by kernel_rfl) (by kernel_rfl)
      (met os)) ?_
  intro W base args ds gs before hval0 hW _ _ hL _
  have hval : ∀ (j : Nat) t v, Tryz.f3.params[j]? = some t → args[j]? = some v → Value.okWide Tryz.prog W .any base t v := hval0
  have hW' := hW
  obtain ⟨p, q, hA0, hV, rfl, _, _⟩ := hW
  have hA : DataW.TrodAll enc Tryz.prog W 0 (fun _ => true) true Tryz.f3.params.toList args.toList ds p := hA0
  rw [Tryz.params3] at hA hval
  obtain ⟨v0, d0, rfl, rfl, h0⟩ := trodAll_one hA
  obtain ⟨rfl, rfl⟩ := trodVars_none hV
  obtain ⟨x, rfl, rfl, rfl, wx⟩ := open_float Tryz.underlying22 (hval 0 22 v0 rfl rfl) h0
  simp only [List.append_nil] at hW'
  have hx : x < 18446744073709551616 := by
    have h : decide (x < 2 ^ 64) = true := wx
    simpa using h
  rw [MakeChecks.laidMetH_plain _ _ _ plain] at hL
  obtain ⟨hT, hU, h3⟩ := Laid.tabs (W := W) hL
  refine (walk x W hx hT hU h3).mono fun e W' ⟨he, hb⟩ => ?_
  subst he
  exact ⟨_, rfl, _, _, _, [], [], [], hW', trodAll_mk1 (shut_bool Tryz.underlying4 _), trodAll_mk1 (shut_float Tryz.underlying22 wx), rfl, hb.frame _, fun h => by cases h⟩
theorem holds : Rows.FnFjBuildFloatSaid :=
  OpenClaim.holds_of_wide 3 Tryz.f3 rfl rfl rfl rfl rfl rfl rfl ⟨rfl, rfl, rfl, rfl, rfl⟩ rfl rfl rfl rfl rfl (by kernel_rfl) Tryz.func3 (by kernel_rfl)
    (of_decide_eq_true (by kernel_rfl)) (by unfold Func.isWrapper; first | (rw [if_pos (by decide +kernel)]; kernel_rfl) | (rw [if_neg (by decide +kernel)]; exact ⟨rfl, rfl⟩))
    (fun os started H enc _ => lifted os started H enc)
theorem card_holds : Rows.FnFjBuildFloatCardSaid :=
  Claim7.holds_tied_plain_at .later [] [.data, .data, .data, .data, .data, .pinned, .pinned, .pinned, .pinned, .pinned, .pinned, .pinned, .pinned] true (true, "84a86b3f5c4348dcf322e3c2e6f79e0267fb5184c7a19a800f5204bfae629bea") false
    holds (fun _ h => by cases h) (by kernel_rfl) (fun _ h => by cases h) fnFjBuildFloat_row_tie rfl ⟨rfl, rfl⟩ (by kernel_rfl) rfl
    (fun f fn hf hfn => by
      obtain rfl : f = 3 := Option.some.inj ((show Tryz.prog.funcNamed "pub-tetrapla/laws.FnFjBuildFloat" = some 3 by kernel_rfl).symm.trans hf) |>.symm
      obtain rfl : fn = Tryz.f3 := (Option.some.inj (Tryz.func3.symm.trans hfn)).symm
      exact ⟨by kernel_rfl, fun j t ht => by
        rw [Tryz.params3] at ht
        have hm : t ∈ [22] := by simpa using Array.mem_of_getElem? ht
        have hall : ([22].all fun u => !Tryz.prog.wantsStandIn u) = true := by kernel_rfl
        exact (show Tryz.prog.wantsStandIn t = false by simpa using List.all_eq_true.1 hall t hm)⟩)
    (by kernel_rfl)
end Go.Proofs.YthbmfhkpkkgdnaaGreatDoor.fnFjBuildFloat
namespace Go.Proofs.YthbmfhkpkkgdnaaGreatDoor
/-- The tied card, under a short name, for the claim. -/
theorem fnFjBuildFloat_holds : Rows.FnFjBuildFloatCardSaid := fnFjBuildFloat.card_holds
#print axioms fnFjBuildFloat_holds
end Go.Proofs.YthbmfhkpkkgdnaaGreatDoor

/- FnGjResultArrayOf: Array of a Result whose raw text is a JSON array is its elements: each with its kind, a text that reads as its value, a string's characters. Conditions: none beyond the given statement's own (every text: where its guards do not let the text in, the law answers true at once; Go's own tables lie as the card's tie says). -/
import Derived.Test.YtnejkimpkaopoaaGreatDoorCards
import Derived.Test.YtnejkimpkaopoaaGreatDoorTie
import Derived.Test.YtnejkimpkaopoaaGreatDoorV0
import Derived.Test.YtnejkimpkaopoaaGreatDoorHl
import Derived.WalkKit
import Derived.ProofKit
import Derived.Laws.Cover2
import Derived.Lay
import Derived.LaidOnce
import Derived.SevenTiedAt
namespace Go.Proofs.YtnejkimpkaopoaaGreatDoor.fnGjResultArrayOf
open Go.ChangeShapes Go.WideShapes Go.ChangeAt Go.RowKit
open Go.ChangeMaps (open_string shut_string)
set_option linter.unusedVariables false
theorem own : ownKnob Tryz.prog.godebug = none := by kernel_rfl
def laid : List (String × DataW Unit) := Rows.fnGjResultArrayOfRow.laid
theorem plain : (laid.all fun x => x.2.handleName?.isNone) = true := by kernel_rfl
theorem zip (os : Os) : (World.laidAll Tryz.prog os laid).variablesZipB Tryz.prog = true := by kernel_rfl
theorem ahead (os : Os) : ((World.laidAll Tryz.prog os laid).heap.toList.drop Tryz.prog.globals.size).take ((begin Tryz.prog (fun _ _ => 0) default).world.heap.size - Tryz.prog.globals.size) =
      (begin Tryz.prog (fun _ _ => 0) default).world.heap.toList.drop Tryz.prog.globals.size := by kernel_rfl
theorem fits (os : Os) : (World.holding Tryz.prog os ⟨#[], #[], []⟩).layFits Tryz.prog laid [] = true := by kernel_rfl
theorem faces (os : Os) : (World.holding Tryz.prog os ⟨#[], #[], []⟩).layIfaces Tryz.prog laid (World.laidAll Tryz.prog os laid) = true := by kernel_rfl
def on : Laid.On laid := ⟨3, 4, 5, 6, 9, 10, 11, 12, rfl, rfl, rfl, rfl, rfl, rfl, rfl, rfl⟩
theorem met (os : Os) : laidMetH Tryz.prog laid ((World.laidAll Tryz.prog os laid).forCall (fun _ _ => 0) ⟨#[], #[.string ByteArray.empty], []⟩).memory := by
  rw [MakeChecks.laidMetH_plain _ _ _ plain]
  exact laidMet_laidAll _ (fits os) (faces os)
theorem shaped (os : Os) : (World.laidAll Tryz.prog os laid).Shaped Tryz.prog := World.shaped_of_ZipB (zip os) (ahead os)
set_option maxRecDepth 100000 in
set_option maxHeartbeats 4000000 in
theorem lifted (os : Os) (started : os.Started) (H : Type) (enc : TypeId × Value → H) :
    ReturnsInHanded {} Tryz.checked os 3 .any (fun w args => (Rows.fnGjResultArrayOfSpec.pre enc Tryz.prog Tryz.f3 [] false w args ∧ laidMetH Tryz.prog laid w) ∧ sizedMet enc Tryz.prog Tryz.f3 (OpenSpec.ofChange Rows.fnGjResultArrayOfSpec) false w args)
      (Rows.fnGjResultArrayOfSpec.post enc Tryz.prog Tryz.f3 false true false false) := by
  refine returnsInHanded_of_change_and (C := Tryz.checked) (X := fun w _ => laidMetH Tryz.prog laid w) (fun _ _ _ hh h => h.of_heap hh) own started (by kernel_rfl) Tryz.func3
    (ChangeSpec.witness_shaped (enc := enc) (C := Tryz.checked) (os := os) (X := fun w _ => laidMetH Tryz.prog laid w) false (World.laidAll Tryz.prog os laid) #[.string ByteArray.empty] 8 (World.laidAll_os _ _ _)
      (shaped os) (by kernel_rfl) (by kernel_rfl) (by kernel_rfl)
      (met os)) ?_
  intro W base args ds gs before hval0 hW _ _ hL _
  have hval : ∀ (j : Nat) t v, Tryz.f3.params[j]? = some t → args[j]? = some v → Value.okWide Tryz.prog W .any base t v := hval0
  have hW' := hW
  obtain ⟨p, q, hA0, hV, rfl, _, _⟩ := hW
  have hA : DataW.TrodAll enc Tryz.prog W 0 (fun _ => true) true Tryz.f3.params.toList args.toList ds p := hA0
  rw [Tryz.params3] at hA hval
  obtain ⟨v0, d0, rfl, rfl, h0⟩ := trodAll_one hA
  obtain ⟨rfl, rfl⟩ := trodVars_none hV
  obtain ⟨s, rfl, rfl, rfl, y0⟩ := open_string Tryz.underlying9 (hval 0 9 v0 rfl rfl) h0
  simp only [List.append_nil] at hW'
  rw [MakeChecks.laidMetH_plain _ _ _ plain] at hL
  obtain ⟨hP, hE⟩ := Laid.pf (W := W) hL on
  refine (Q.laws_FnGjResultArrayOf.calls s W hP hE).mono fun e W' ⟨he, hb⟩ => ?_
  subst he
  exact ⟨_, rfl, _, _, _, [], [], [], hW', trodAll_mk1 (shut_bool Tryz.underlying4 _), trodAll_mk1 (shut_string Tryz.underlying9 y0), rfl, hb.frame _, fun h => by cases h⟩
theorem holds : Rows.FnGjResultArrayOfSaid :=
  OpenClaim.holds_of_wide 3 Tryz.f3 rfl rfl rfl rfl rfl rfl rfl ⟨rfl, rfl, rfl, rfl, rfl⟩ rfl rfl rfl rfl rfl (by kernel_rfl) Tryz.func3 (by kernel_rfl)
    (of_decide_eq_true (by kernel_rfl)) (by unfold Func.isWrapper; first | (rw [if_pos (by decide +kernel)]; kernel_rfl) | (rw [if_neg (by decide +kernel)]; exact ⟨rfl, rfl⟩))
    (fun os started H enc _ => lifted os started H enc)
theorem card_holds : Rows.FnGjResultArrayOfCardSaid :=
  Claim7.holds_tied_plain_at .later [] [.data, .data, .widerDeep, .widerDeep, .data, .data, .data, .data, .data, .sentinel, .sentinel, .pinned, .pinned] true (true, "c87cbb5bc907ebc52a0509e4a15aa24f209813182dec28966d29734cf5496d8d") true
    holds (fun _ h => by cases h) (by kernel_rfl) (fun _ h => by cases h) fnGjResultArrayOf_row_tie rfl ⟨rfl, rfl⟩ (by kernel_rfl) rfl
    (fun f fn hf hfn => by
      obtain rfl : f = 3 := Option.some.inj ((show Tryz.prog.funcNamed "pub-tetrapla/laws.FnGjResultArrayOf" = some 3 by kernel_rfl).symm.trans hf) |>.symm
      obtain rfl : fn = Tryz.f3 := (Option.some.inj (Tryz.func3.symm.trans hfn)).symm
      exact ⟨by kernel_rfl, fun j t ht => by
        rw [Tryz.params3] at ht
        have hm : t ∈ [9] := by simpa using Array.mem_of_getElem? ht
        have hall : ([9].all fun u => !Tryz.prog.wantsStandIn u) = true := by kernel_rfl
        exact (show Tryz.prog.wantsStandIn t = false by simpa using List.all_eq_true.1 hall t hm)⟩)
    (by kernel_rfl)
end Go.Proofs.YtnejkimpkaopoaaGreatDoor.fnGjResultArrayOf
namespace Go.Proofs.YtnejkimpkaopoaaGreatDoor
/-- The tied card, under a short name, for the claim. -/
theorem fnGjResultArrayOf_holds : Rows.FnGjResultArrayOfCardSaid := fnGjResultArrayOf.card_holds
#print axioms fnGjResultArrayOf_holds
end Go.Proofs.YtnejkimpkaopoaaGreatDoor

/- The reference's Unquote in the print's form: on a string whose inside has characters (half surrogate pairs left out). In the place of the printed text of this name. -/
import Derived.Test.YtnejkimpkaopoaaGreatDoorEg
namespace Go.Proofs.YtnejkimpkaopoaaGreatDoor.Q
open Go.RowKit Go.Proofs.YtnejkimpkaopoaaGreatDoorW.PrintWords Go.Proofs.YtnejkimpkaopoaaGreatDoorW.PrintLast Go.Proofs.YtnejkimpkaopoaaGreatDoorW.PrintMore
set_option linter.unusedVariables false
theorem Short.fn {x y z : Int} (h : Short x y) (k : Short x z) : y = z := by cases h <;> cases k <;> rfl
theorem Uq.fn {B O : List Int} (h : Uq B O) : ∀ {P : List Int}, Uq B P → O = P := by
  induction h with
  | nil => intro P k; cases k; rfl
  | plain h1 h2 h3 h4 h ih =>
    intro P k
    cases k with
    | plain _ _ _ _ k => rw [ih k]
    | esc _ _ => exact absurd rfl h4
    | uni _ _ _ _ _ _ _ => exact absurd rfl h4
    | pair _ _ _ _ _ _ _ _ _ _ _ _ _ => exact absurd rfl h4
  | esc hs h ih =>
    intro P k
    cases k with
    | plain _ _ _ h4 _ => exact absurd rfl h4
    | esc ks k => rw [hs.fn ks, ih k]
    | uni _ _ _ _ _ _ _ => cases hs
    | pair _ _ _ _ _ _ _ _ _ _ _ _ _ => cases hs
  | uni ha hb hc hd hn hnn h ih =>
    intro P k
    cases k with
    | plain _ _ _ h4 _ => exact absurd rfl h4
    | esc ks k => cases ks
    | uni _ _ _ _ kn _ k => rw [hn, kn, ih k]
    | pair _ _ _ _ _ _ _ _ kn _ k1 _ _ => omega
  | pair ha hb hc hd he hf hg hh hn hm h1 h2 h ih =>
    intro P k
    cases k with
    | plain _ _ _ h4 _ => exact absurd rfl h4
    | esc ks k => cases ks
    | uni _ _ _ _ kn knn k => omega
    | pair _ _ _ _ _ _ _ _ kn km _ _ k => rw [hn, kn, hm, km, ih k]
def UqAt (a0 : ByteArray) (r : ByteArray) : Prop := ∃ B O, bytesOf a0 = 34 :: (B ++ [34]) ∧ Uq B O ∧ a0.size ≤ 100000 ∧ r = strOfNums O
open Classical in
noncomputable def sU.f (k : Nat) (a0 : ByteArray) : Option ByteArray := if h : ∃ r, UqAt a0 r then some (Classical.choose h) else none
theorem sU.mono : ∀ a0 k, LeO (sU.f k a0) (sU.f (k + 1) a0) := fun _ _ => LeO.refl _
theorem UqAt.fn {a0 r r' : ByteArray} (h : UqAt a0 r) (k : UqAt a0 r') : r = r' := by
  obtain ⟨B, O, h1, h2, h3, rfl⟩ := h
  obtain ⟨C, P, k1, k2, k3, rfl⟩ := k
  have e : B = C := by
    rw [h1] at k1
    exact List.append_cancel_right (List.cons.inj k1).2
  subst e
  rw [h2.fn k2]
theorem unquote_f {a0 : ByteArray} {B O : List Int} (h : bytesOf a0 = 34 :: (B ++ [34])) (hU : Uq B O) (hs : a0.size ≤ 100000) (k : Nat) : sU.f k a0 = some (strOfNums O) := by
  have hx : ∃ r, UqAt a0 r := ⟨_, B, O, h, hU, hs, rfl⟩
  unfold sU.f
  rw [dif_pos hx]
  congr 1
  exact (Classical.choose_spec hx).fn ⟨B, O, h, hU, hs, rfl⟩
theorem sU.calls (k : Nat) (a0 : ByteArray) (r : ByteArray) (w : World) (h : sU.f k a0 = some r) :
    Calls Tryz.prog 105 #[.string a0] w fun e w' => e = .returned (.string r) ∧ Below w.heap.size w w' := by
  unfold sU.f at h
  split at h
  · rename_i hx
    obtain ⟨B, O, h1, h2, h3, h4⟩ := Classical.choose_spec hx
    rw [h4] at h
    obtain rfl := Option.some.inj h
    exact sU.uq a0 B O h1 h2 h3 w
  · cases h
end Go.Proofs.YtnejkimpkaopoaaGreatDoor.Q

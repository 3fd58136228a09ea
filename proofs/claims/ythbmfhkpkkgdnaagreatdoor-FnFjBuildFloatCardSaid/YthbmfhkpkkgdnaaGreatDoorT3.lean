import Derived.Test.YthbmfhkpkkgdnaaGreatDoorQ1
import Derived.Test.YthbmfhkpkkgdnaaGreatDoorX1
import Derived.BigRegion
namespace Go.Proofs.YthbmfhkpkkgdnaaGreatDoor.Q
open Go.RowKit Go.Proofs.YthbmfhkpkkgdnaaGreatDoorW.PrintWords Go.Proofs.YthbmfhkpkkgdnaaGreatDoorW.PrintLast Go.Proofs.YthbmfhkpkkgdnaaGreatDoorW.PrintMore
attribute [local go_sem] max2_int min2_int max_two min_two max_three min_three max_four min_four
set_option linter.unusedVariables false
set_option linter.unusedSimpArgs false
/-- A local row of bytes. -/
def Buf (b : Nat) (W : World) (g : Nat) (l : List Int) : Prop := W.heap[g]? = some (.cells (l.map (Value.int .u8)).toArray 98 (0, 0)) ∧ b ≤ g ∧ l.length = 32
theorem Buf.set_ {b g i : Nat} {W : World} {l : List Int} (h : Buf b W g l) (x : Int) : Buf b (W.setCell ⟨g, i, none⟩ (.int .u8 x)) g (l.set i x) := by
  obtain ⟨h1, h2, h3⟩ := h
  refine ⟨?_, h2, by simpa using h3⟩
  have := blk_set h1 i (.int .u8 x)
  rw [this]; simp [List.map_set]
theorem Buf.cell {b g : Nat} {W : World} {l : List Int} (h : Buf b W g l) (i : Nat) (hi : i < 32) : W.cell? ⟨g, i, none⟩ = some (.int .u8 (l.getD i 0)) := by
  obtain ⟨h1, h2, h3⟩ := h
  rw [blk_cell h1 i]
  simp [List.getD_eq_getElem?_getD, List.getElem?_map, List.getElem?_eq_getElem (show i < l.length by omega)]
theorem Buf.frozen {b g : Nat} {W : World} {l : List Int} (h : Buf b W g l) (i : Nat) : W.frozen? ⟨g, i, none⟩ = false := blk_frozen h.1 i
theorem Buf.drewN {b g : Nat} {W : World} {l : List Int} (h : Buf b W g l) (n : Nat) : Buf b (W.drewN n) g l := h
theorem Buf.drew {b g : Nat} {W : World} {l : List Int} (h : Buf b W g l) : Buf b W.drew g l := h
/-- Nothing but block g turns, which lies at b or above. -/
structure KB (b g : Nat) (w w' : World) : Prop where
  keep : KeepBut w w' g none
  below : Below b w w'
  ge : b ≤ g
theorem KB.refl {b g : Nat} (w : World) (h : b ≤ g) : KB b g w w := ⟨KeepBut.refl w g none, Below.refl b w, h⟩
theorem KB.set_ {b g : Nat} {w W : World} (h : KB b g w W) (i : Nat) (u : Value) : KB b g w (W.setCell ⟨g, i, none⟩ u) := ⟨h.keep.set_ i u, h.below.setCell h.ge u, h.ge⟩
theorem KB.drewN {b g : Nat} {w W : World} (h : KB b g w W) (n : Nat) : KB b g w (W.drewN n) := ⟨keep_drewN h.keep n, pw_below_drewN h.below n, h.ge⟩
theorem KB.drew {b g : Nat} {w W : World} (h : KB b g w W) : KB b g w W.drew := ⟨keep_drew h.keep, below_drew1 h.below, h.ge⟩
theorem KB.trans {b g : Nat} {w W V : World} (h : KB b g w W) (k : KB b g W V) : KB b g w V := ⟨h.keep.trans k.keep (.inl rfl), h.below.trans k.below, h.ge⟩
abbrev smalls : ByteArray := ⟨#[48, 48, 48, 49, 48, 50, 48, 51, 48, 52, 48, 53, 48, 54, 48, 55, 48, 56, 48, 57, 49, 48, 49, 49, 49, 50, 49, 51, 49, 52, 49, 53, 49, 54, 49, 55, 49, 56, 49, 57, 50, 48, 50, 49, 50, 50, 50, 51, 50, 52, 50, 53, 50, 54, 50, 55, 50, 56, 50, 57, 51, 48, 51, 49, 51, 50, 51, 51, 51, 52, 51, 53, 51, 54, 51, 55, 51, 56, 51, 57, 52, 48, 52, 49, 52, 50, 52, 51, 52, 52, 52, 53, 52, 54, 52, 55, 52, 56, 52, 57, 53, 48, 53, 49, 53, 50, 53, 51, 53, 52, 53, 53, 53, 54, 53, 55, 53, 56, 53, 57, 54, 48, 54, 49, 54, 50, 54, 51, 54, 52, 54, 53, 54, 54, 54, 55, 54, 56, 54, 57, 55, 48, 55, 49, 55, 50, 55, 51, 55, 52, 55, 53, 55, 54, 55, 55, 55, 56, 55, 57, 56, 48, 56, 49, 56, 50, 56, 51, 56, 52, 56, 53, 56, 54, 56, 55, 56, 56, 56, 57, 57, 48, 57, 49, 57, 50, 57, 51, 57, 52, 57, 53, 57, 54, 57, 55, 57, 56, 57, 57]⟩
theorem smalls_size : smalls.size = 200 := by decide +kernel
theorem smalls_bt : ∀ i : Nat, i < 100 → bt smalls ((i : Int) * 2) = 48 + ((i / 10 : Nat) : Int) ∧ bt smalls ((i : Int) * 2 + 1) = 48 + ((i % 10 : Nat) : Int) := by decide +kernel
end Go.Proofs.YthbmfhkpkkgdnaaGreatDoor.Q

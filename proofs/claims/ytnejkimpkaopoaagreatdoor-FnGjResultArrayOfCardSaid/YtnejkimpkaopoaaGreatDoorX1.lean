/- Words of our own beside the print's: a whole struct stored into a block of its own. -/
import Derived.Test.YtnejkimpkaopoaaGreatDoorX0
namespace Go.Proofs.YtnejkimpkaopoaaGreatDoorW.PrintWords
open RowKit
set_option linter.unusedVariables false
section
variable {P : Program} {ops : Array Oper} {rest : List Oper} {o : Oper} {a : Act} {Q : Exit → Act → World → Prop}
structure PutBox (W w1 : World) (g : Nat) (cs : Array Value) (t : TypeId) : Prop where
  blk : w1.heap[g]? = some (.cells cs t (0, 0))
  os : w1.os = W.os
  tape : w1.tape = W.tape
  output : w1.output = W.output
  size : w1.heap.size = W.heap.size
  far : ∀ k, k ≠ g → w1.heap[k]? = W.heap[k]?
theorem PutBox.below {w W w1 : World} {g : Nat} {cs : Array Value} {t : TypeId} (h : PutBox W w1 g cs t) (hB : Below w.heap.size w W) (hg : w.heap.size ≤ g) : Below w.heap.size w w1 :=
  ⟨h.os.trans hB.os, h.tape.trans hB.tape, h.output.trans hB.output, by rw [h.size]; exact hB.size, fun k hk => (h.far k (by omega)).trans (hB.block k hk)⟩
theorem box_put {W : World} (hgd : o.guard = none) {t : TypeId} {p : Tmp} {v : Operand} (ho : o.op = .store t (.tmp p) v) (hN : o.dst = none) {g : Nat} {u : Value} {cs cs' : Array Value}
    (hp : a.eval (.tmp p) = .pointer (some ⟨g, 0, none⟩)) (hv : a.eval v = u) (hu : u.cells = cs') (hb : W.heap[g]? = some (.cells cs t (0, 0))) (hs : cs'.size = cs.size)
    (ht : (P.info? t).map (·.size) = some cs'.size) (h1 : ∀ q ∈ cs'.toList, q.oneCell' = true) (h : ∀ w1, PutBox W w1 g cs' t → wpList P ops Q rest a w1) : wpList P ops Q (o :: rest) a W := by
  obtain ⟨cur', hc1, hc2, hc3⟩ := setCells_row (g := g) (e := t) cs'.toList 0 W cs hb (by rw [Array.length_toList, hs]; omega)
  have hce : cur' = cs' := by
    apply Array.ext'
    rw [hc3]
    simp [hs]
  rw [hce] at hc1
  obtain ⟨s1, s2, s3, s4⟩ := setCells_same g cs'.toList 0 W
  refine wpList_plain hgd fun K hK => ?_
  have hrun : (Instr.storeAt t (.pointer (some ⟨g, 0, none⟩)) u).run P W = .ok () (W.setCells g 0 cs'.toList) :=
    run_store_run t u cs'.toList hb (by rw [hu]) (by rw [ht, Array.length_toList]) (by rw [Array.length_toList, hs]; omega) h1
  unfold Oper.wp execOp
  simp only [ho, hp, hv, Sem.run_bind, Sem.run_pure, Result.andThen_ok, hrun]
  show K (a.put o.dst undef) _
  rw [hN]
  exact hK a _ (h _ ⟨hc1, s1, s2, s3, s4, fun k hk => setCells_far cs'.toList 0 k hk⟩)
end
end Go.Proofs.YtnejkimpkaopoaaGreatDoorW.PrintWords

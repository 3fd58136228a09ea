/- The program's package-level variables as they lie zeroed at the start: what a row's witness asks of them. The one great table (1392 cells) is shown by a lemma on rows of one value, the others by the kernel. -/
import Derived.Test.YtbkgoccnegjdhaaRows
import Derived.WalkKit
import Derived.ProofKit
import Derived.ChangeOld
namespace Go.Proofs.Ytbkgoccnegjdhaa.Zero
open Go.ChangeShapes Go.WideShapes Go.ChangeAt Go.RowKit
set_option maxRecDepth 100000
def inp:Input:=⟨#[], #[.string ByteArray.empty, .agg #[.int .i64 0, .string ByteArray.empty, .string ByteArray.empty, .bool false]],[]⟩
def varB1 (P:Program) (w:World) (g:Nat):Bool :=
  let w₀:=(begin P (fun _ _=>0) default).world
    match (w₀.heap[g]?).bind Obj.row? with
    | none=>true
    | some (zero,t) =>
      match w.heap[g]? with
      | some (.cells cs t' frozen)=>decide (t'=t) && decide (frozen=(0,0)) && cs.size == zero.size && (!P.buildable t || Row.okB P t cs)
      | _=>false
theorem varA (os:Os):(List.range 10).all (varB1 Try.checked.prog (World.plainHolding Try.checked.prog os inp))=true:=by kernel_rfl
theorem varB (os:Os):([11,12,13,14]:List Nat).all (varB1 Try.checked.prog (World.plainHolding Try.checked.prog os inp))=true:=by kernel_rfl
theorem h0:(begin Try.checked.prog (fun _ _=>0) default).world.heap[10]? = some (.cells (Array.replicate 1392 (.int .u64 0)) 198 (0,0)):=by kernel_rfl
theorem h1 (os:Os):(World.plainHolding Try.checked.prog os inp).heap[10]? = some (.cells (Array.replicate 1392 (.int .u64 0)) 198 (0,0)):=by kernel_rfl
theorem row0:Obj.row? (.cells (Array.replicate 1392 (.int .u64 0)) 198 (0,0))=some (Array.replicate 1392 (.int .u64 0),198):=rfl
theorem ts:Try.checked.prog.cellTypes Try.checked.prog.depth 198=some (List.replicate 1392 148):=by kernel_rfl
theorem cellOk:Cell.okB Try.checked.prog 148 (.int .u64 0)=true:=by kernel_rfl
theorem okB_replicate {P:Program} {t u:TypeId} {v:Value} {n:Nat} (ht:P.cellTypes P.depth t=some (List.replicate n u)) (hv:Cell.okB P u v=true):Row.okB P t (Array.replicate n v)=true:=by
  unfold Row.okB
  rw [ht]
  simp only [Array.size_replicate,List.length_replicate,Nat.mod_self,beq_self_eq_true,Bool.true_and,List.all_eq_true,List.mem_range]
  intro i hi
  rw [Nat.mod_eq_of_lt hi,Array.getElem?_replicate,if_pos hi,List.getElem?_replicate,if_pos hi]
  exact hv
theorem var10 (os:Os):varB1 Try.checked.prog (World.plainHolding Try.checked.prog os inp) 10=true:=by
  unfold varB1
  dsimp only
  rw [h0,h1]
  simp only [Option.bind_some,row0]
  rw [okB_replicate ts cellOk]
  simp only [Array.size_replicate,beq_self_eq_true,decide_true,Bool.and_self,Bool.or_true]
theorem size15:Try.checked.prog.globals.size=15:=by kernel_rfl
theorem vars (os:Os):World.variablesB Try.checked.prog (World.plainHolding Try.checked.prog os inp)=true:=by
  show (List.range Try.checked.prog.globals.size).all (varB1 Try.checked.prog (World.plainHolding Try.checked.prog os inp))=true
  rw [size15]
  have hA:=varA os
  have hB:=varB os
  have h10:=var10 os
  generalize varB1 Try.checked.prog (World.plainHolding Try.checked.prog os inp)=f at hA hB h10
  rw [List.all_eq_true] at hA hB ⊢
  intro x hx
  rw [List.mem_range] at hx
  by_cases h:x<10
  · exact hA x (List.mem_range.mpr h)
  · by_cases e:x=10
    · rw [e];exact h10
    · exact hB x (by have:x=11∨x=12∨x=13∨x=14:=by omega
                     simp only [List.mem_cons,List.not_mem_nil,or_false];exact this)
end Go.Proofs.Ytbkgoccnegjdhaa.Zero

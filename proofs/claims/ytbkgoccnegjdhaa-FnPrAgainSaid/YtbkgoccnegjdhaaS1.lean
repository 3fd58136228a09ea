/- Steps of a region whose order is drawn, with what is alike in all of them as default arguments. -/
import Derived.Test.YtbkgoccnegjdhaaX0
namespace Go.Proofs.Ytbkgoccnegjdhaa.Q
open Go.RowKit Go.Proofs.YtbkgoccnegjdhaaW.PrintWords Go.Proofs.YtbkgoccnegjdhaaW.PrintLast Go.Proofs.YtbkgoccnegjdhaaW.PrintMore
theorem Ak {p:Prop} (h:p):Aside0 p:=⟨h⟩
def mA (n m:Nat):Array Bool:=((List.range n).map (fun i=>m.testBit i)).toArray
section
variable {P:Program} {ops:Array Oper} {Q:Exit→Act→World→Prop} {md:Region.Mode} {S:World→Prop} {ds:List Nat} {oi:Oper} {v:Value} {fuel:Nat} {l:Array Bool} {a a':Act} {w:World}
theorem zP (i:Nat) (N:Option Tmp) (l':Array Bool) (h:wpAnyLast P md ops Q S ds fuel l' a' w) (hi:ops[i]? = some oi:=by rfl) (hN:oi.dst=N:=by rfl) (hc:anyB md ops l l' i=true:=by exact any_of HT_.out (by kernel_rfl))
    (hy:Yields P ops oi v a:=by exact (Or.inl ⟨by rfl,by (intro w';go_simp;with_reducible rfl)⟩)) (hQ : ∀ c a w,Q (.panic c) (a.put oi.dst v) w→Q (.panic c) a w:=by exact (fun _ _ _ h=>h))
    (ha:a.put N v=a':=by (simp only [Act.put,List.setIfInBounds_toArray,List.set_cons_zero,List.set_cons_succ,i64_w,i32_w];rfl)):wpAnyLast P md ops Q S ds (fuel+1) l a w:=pure_ l' hi hN hc hQ hy ha h
theorem zT (i:Nat) (N:Option Tmp) (l':Array Bool) (h:wpAnyLast P md ops Q S ds fuel l' a' w) (hi:ops[i]? = some oi:=by rfl) (hN:oi.dst=N:=by rfl) (hc:takeB md ops ds l l' i=true:=by exact take_ofW HT_.out HW_.out (by kernel_rfl))
    (hy:YieldsIf P ops S oi v a:=by exact (Or.inl ⟨by rfl,by (intro w' hs_;repeat (obtain ⟨h_,hs_⟩:=hs_);go_simp;with_reducible rfl)⟩)) (hS:S w:=by exact hHeld) (hQ : ∀ c a w,Q (.panic c) (a.put oi.dst v) w→Q (.panic c) a w:=by exact (fun _ _ _ h=>h))
    (ha:a.put N v=a':=by (simp only [Act.put,List.setIfInBounds_toArray,List.set_cons_zero,List.set_cons_succ,i64_w,i32_w];rfl)):wpAnyLast P md ops Q S ds (fuel+1) l a w:=take_ l' hi hN hc hQ hy hS ha h
theorem zO (i:Nat) (N:Option Tmp) (l':Array Bool) (h : ∀ K:Act→World→Prop,Shut (∀ a' w',S w'→(S w'→wpAnyLast P md ops Q S ds fuel l' a' w')→K a' w')→if Region.wanted oi (yielded ops a.tmps)=true then Oper.wp P oi a w K Q else K (a.put N undef) w)
    (hi:ops[i]? = some oi:=by rfl) (hN:oi.dst=N:=by rfl) (hc:readyB md ops l l' i=true:=by exact one_of HT_.out (by kernel_rfl)) (hd:i ∉ ds:=by decide):wpAnyLast P md ops Q S ds (fuel+1) l a w:=one_ l' hi hN hc hd h
end
end Go.Proofs.Ytbkgoccnegjdhaa.Q

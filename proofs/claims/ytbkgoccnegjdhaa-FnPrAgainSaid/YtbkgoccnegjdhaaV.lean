/- FnPrAgain: PrettyOptions of what it makes of a JSON text is that once more, whatever the width, sorted or not where no name stands twice in one object and no text has a backslash. Conditions: none beyond the given statement's own (every text, every options: where its guards do not let the input in, it answers true at once). -/
import Derived.Test.YtbkgoccnegjdhaaRows
import Derived.Test.YtbkgoccnegjdhaaH4
import Derived.Test.YtbkgoccnegjdhaaV0
import Derived.WalkKit
import Derived.ProofKit
import Derived.OpenShut
import Derived.ShutString
import Derived.ChangeOld
import Derived.Below
import Derived.SizedLaws
import Derived.Lib.SmallJoins
import Derived.Deep.Slices
namespace Go.Proofs.Ytbkgoccnegjdhaa.fnPrAgain
open Go.ChangeShapes Go.WideShapes Go.ChangeAt Go.RowKit Go.Joins
open Go.ChangeMaps (open_string shut_string)
set_option linter.unusedVariables false
theorem trod_b {H:Type} {enc:TypeId × Value→H} {P:Program} {w:World} {base:Nat} {spare:Nat→Bool} {held:Bool} {t:TypeId} (ht:P.underlying t=some .bool) (b:Bool) : ∃ n,DataW.trod enc P w base spare held n t [.bool b]=some (.lit (.bool b),[]):=⟨1,by simp [DataW.trod,ht]⟩
theorem own:ownKnob Try.prog.godebug=none:=by kernel_rfl
set_option maxRecDepth 100000 in
theorem lifted (os:Os) (started:os.Started) (H:Type) (enc:TypeId × Value→H) :
    ReturnsInHanded {} Try.checked os 4 .any (Rows.fnPrAgainSpec.pre6 enc Try.prog Try.f4 Rows.fnPrAgainRow.domain false) (Rows.fnPrAgainSpec.post enc Try.prog Try.f4 false true false false):=by
  refine returnsInHanded_of_change_sized (C:=Try.checked) own started (by kernel_rfl) Try.func4
    (ChangeSpec.witness6 (enc:=enc) (C:=Try.checked) false Zero.inp 8 (Zero.vars os) (by kernel_rfl) (by kernel_rfl) (by kernel_rfl)) ?_
  intro W base args ds gs before hval0 hW hcnd hsz0 _
  have hval : ∀ (j:Nat) t v,Try.f4.params[j]? = some t→args[j]? = some v→Value.okWide Try.prog W .any base t v:=hval0
  have hW':=hW
  obtain ⟨p,q,hA0,hV,rfl,hfz,hnd⟩:=hW
  have hA:DataW.TrodAll enc Try.prog W 0 (fun _=>true) true Try.f4.params.toList args.toList ds p:=hA0
  rw [Try.params4] at hA hval
  obtain ⟨v0,vs0,d0,ds0,p0,q0,hargs,rfl,rfl,h0,r0⟩:=trodAll_cons hA
  obtain ⟨v1,vs1,d1,ds1,p1,q1,rfl,rfl,rfl,h1,r1⟩:=trodAll_cons r0
  obtain ⟨rfl,rfl,rfl⟩:=trodAll_nil r1
  obtain rfl:args = #[v0,v1]:=by cases args;simp_all
  obtain ⟨rfl,rfl⟩:=trodVars_none hV
  obtain ⟨a0,rfl,rfl,rfl,y0⟩:=open_string Try.underlying9 (hval 0 9 v0 rfl rfl) h0
  obtain ⟨u0,u1,u2,u3,x0,x1,x2,x3,n,rfl,rfl,rfl,t0,t1,t2,t3⟩:=open_agg4 Try.underlying23 (by kernel_rfl) (by kernel_rfl) (hval 1 23 v1 rfl rfl) h1
  obtain ⟨W_,e0,rfl,w0⟩:=DataW.trod_int Try.underlying3 t0
  obtain ⟨P,e1,rfl,w1⟩:=DataW.trod_string Try.underlying9 t1
  obtain ⟨I,e2,rfl,w2⟩:=DataW.trod_string Try.underlying9 t2
  obtain ⟨sk,e3,rfl⟩:=DataW.trod_bool Try.underlying4 t3
  cases e0;cases e1;cases e2;cases e3
  clear hA0 hval0 hsz0
  have hWb : -9223372036854775808≤W_∧W_≤9223372036854775807:=by
    have h:(decide (-9223372036854775808≤W_) && decide (W_≤9223372036854775807))=true:=w0
    simpa using h
  refine (Q.laws_FnPrAgain.calls a0 W_ P I sk W hWb).mono fun e W' ⟨he,bel⟩=>?_
  subst he
  exact ⟨_,rfl,_,_,_,[],_,[],hW',trodAll_mk1 (shut_bool Try.underlying4 _),(trodAll_cons_mk (shut_string Try.underlying9 y0) (trodAll_cons_mk (shut_agg4 Try.underlying23 (by kernel_rfl) (by kernel_rfl) ⟨_,trod_int_mk 0 Try.underlying3 w0⟩ (Go.Deep.shut_string_cell Try.underlying9 w1) (Go.Deep.shut_string_cell Try.underlying9 w2) (trod_b Try.underlying4 sk)) trodAll_mk0)),rfl,bel.frame _,fun h=>by cases h⟩
theorem over:Rows.fnPrAgainRow.holds Try.pinned (OpenSpec.ofChange Rows.fnPrAgainSpec) :=
  OpenClaim.holds_of_wide 4 Try.f4 rfl rfl rfl rfl rfl rfl rfl ⟨rfl,rfl,rfl,rfl,rfl⟩ rfl rfl rfl rfl rfl (by kernel_rfl) Try.func4 (by kernel_rfl)
    (of_decide_eq_true (by kernel_rfl)) (by unfold Func.isWrapper;first|(rw [if_pos (by decide+kernel)];kernel_rfl)|(rw [if_neg (by decide+kernel)];exact ⟨rfl,rfl⟩))
    (fun os started H enc _=>lifted os started H enc)
theorem proved:Rows.FnPrAgainSaid:=over
end Go.Proofs.Ytbkgoccnegjdhaa.fnPrAgain
namespace Go.Proofs.Ytbkgoccnegjdhaa
/-- The row, under a short name, for the claim. -/
theorem fnPrAgain_holds:Rows.FnPrAgainSaid:=fnPrAgain.proved
#print axioms fnPrAgain_holds
end Go.Proofs.Ytbkgoccnegjdhaa

/- The sort's interface: a call of a method through it. -/
import Derived.Test.YtbkgoccnegjdhaaB0
import Derived.Test.YtbkgoccnegjdhaaM2
namespace Go.Proofs.Ytbkgoccnegjdhaa.Q
open Go.RowKit Go.Proofs.YtbkgoccnegjdhaaW.PrintWords Go.Proofs.YtbkgoccnegjdhaaW.PrintLast Go.Proofs.YtbkgoccnegjdhaaW.PrintMore Go.Proofs.Ytbkgoccnegjdhaa.M
set_option maxRecDepth 100000
theorem wq {i:Int} (h0 : -9223372036854775808≤i) (h:i≤9223372036854775807):wrap64 i=i:=by unfold wrap64;omega
theorem wsub {p q:Nat} (h:q≤p) (hp:p≤4000000000):wrap64 ((p:Int) - (q:Int))=((p - q:Nat):Int):=by rw [wq (i:=(p:Int) - (q:Int)) om om];omega
theorem wadd {p q:Nat} (hp:p+q≤4000000000):wrap64 ((p:Int)+(q:Int))=((p+q:Nat):Int):=by rw [wq (i:=(p:Int)+(q:Int)) om om];omega
theorem wsucc {p:Nat} (hp:p≤3999999999):wrap64 ((p:Int)+1)=((p+1:Nat):Int):=wadd (p:=p) (q:=1) om
theorem wpred {p:Nat} (h:1≤p) (hp:p≤4000000000):wrap64 ((p:Int) - 1)=((p - 1:Nat):Int):=wsub (p:=p) (q:=1) h hp
theorem wadds {p q r:Nat} (h:r≤p+q) (hp:p+q≤4000000000):wrap64 ((p:Int)+(q:Int) - (r:Int))=((p+q - r:Nat):Int):=by rw [show (p:Int)+(q:Int)=((p+q:Nat):Int) from (Int.natCast_add p q).symm];exact wsub h hp
theorem whalf {p q:Nat} (hp:p+q≤4000000000):wrap64 (IntKind.u64.wrap (wrap64 ((p:Int)+(q:Int))) / 2)=(((p+q) / 2:Nat):Int):=by
  rw [wadd hp]
  have e:IntKind.u64.wrap ((p+q:Nat):Int)=((p+q:Nat):Int):=by rw [show IntKind.u64.wrap ((p+q:Nat):Int)=((p+q:Nat):Int) % 18446744073709551616 by simp [IntKind.wrap,IntKind.bits,IntKind.signed]];omega
  rw [e,wq (i:=((p+q:Nat):Int) / 2) om om]
  omega
theorem wmul2 {p:Nat} (hp:p≤2000000000):wrap64 (2*(p:Int))=((2*p:Nat):Int):=by rw [wq (i:=2*(p:Int)) om om];omega
theorem methodLen (a : Option Addr) (W : World) : (method (Try.prog.types.size + Made.depth) 86 (.pointer a) "Len").run Try.prog W = .ok (70, .pointer a) W := by rfl
theorem methodLess (a : Option Addr) (W : World) : (method (Try.prog.types.size + Made.depth) 86 (.pointer a) "Less").run Try.prog W = .ok (71, .pointer a) W := by rfl
theorem methodSwap (a : Option Addr) (W : World) : (method (Try.prog.types.size + Made.depth) 86 (.pointer a) "Swap").run Try.prog W = .ok (72, .pointer a) W := by rfl
variable {ops:Array Oper} {Q:Exit→Act→World→Prop}
theorem goesI_ {rest:List Oper} {oi:Oper} {a:Act} {w:World} (N:Option Tmp) (hd:oi.dst=N) (hg:oi.guard=none) {f:FuncId} {fn:Func} {x:Operand} {m:String} {xs:Array Operand} {ts:Array TypeId} {t:TypeId} {v r:Value}
    (hop:oi.op = .call { callee := .invoke x m,args:=xs,argTypes:=ts }) (hx:a.eval x = .iface t v) (hm:(method (Try.prog.types.size+Made.depth) t v m).run Try.prog w = .ok (f,r) w)
    (hf : Try.prog.funcs[f]? = some fn) (hname : (fn.name == "runtime.NumGoroutine") = false) (hb : fn.body.isSome = true) (args : Array Value) (hargs : #[r] ++ xs.map a.eval = args)
    (h:Calls Try.prog f args w fun e w' => ∃ v,e = .returned v∧wpList Try.prog ops Q rest (a.put N v) w'):wpList Try.prog ops Q (oi :: rest) a w:=by
  refine wpList_plain hg fun K hK=>?_
  have he:=enters_ hf hname hb args w
  have hrun:(execOp a.eval oi).run Try.prog w = .ok (.enter f args) w:=by
    unfold execOp
    have e1:(#[Value.iface t v]++xs.map a.eval)[0]? = some (.iface t v):=by rw [Array.getElem?_append_left (by simp)];rfl
    have e2:(xs.map a.eval).extract 0 xs.size=xs.map a.eval:=by rw [show xs.size=(xs.map a.eval).size by simp,Array.extract_size]
    simp [hop,resolve,invoke,hx]
    rw [e1]
    simp only [callMethod]
    rw [e2]
    have hm':(method (220+Made.depth) t v m).run Try.prog w = .ok (f,r) w:=hm
    simp
    rw [hm']
    simp only [Result.andThen]
    rw [hargs]
    exact he
  unfold Oper.wp
  rw [hrun,Oper.upon_enter]
  refine h.mono fun e w'' hh=>?_
  obtain ⟨v,rfl,hk⟩:=hh
  subst hd
  exact hK _ _ hk
end Go.Proofs.Ytbkgoccnegjdhaa.Q

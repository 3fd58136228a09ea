/- atof64exact of internal/strconv: it returns. -/
import Derived.Test.YtnejkimpkaopoaaGreatDoorQ0
import Derived.Test.YtnejkimpkaopoaaGreatDoorDf
import Derived.Deep.DeepMust
import Derived.Laws.Cover2
import Derived.Laws.FloatArith
import Derived.BigGuard
import Derived.BigGuardPart
namespace Go.Proofs.YtnejkimpkaopoaaGreatDoor.Q
open RowKit YtnejkimpkaopoaaGreatDoorW.PrintWords YtnejkimpkaopoaaGreatDoorW.PrintLast YtnejkimpkaopoaaGreatDoorW.PrintMore
attribute [local go_sem] max2_int min2_int max_two min_two max_three min_three max_four min_four
set_option linter.unusedVariables false
set_option linter.unusedSimpArgs false
def TabF (w:World):Prop := ∃ (a:Addr) (cap:Nat),w.cell? ⟨16,0,none⟩=some (.slice (some a) 23 cap) ∧ ∀ i:Nat,i<23 → ∃ f:Nat,Num FloatKind.f64.format f∧w.cell? (a.add i)=some (.float .f64 f)
def ExP (e:Ending):Prop := ∃ (f:Nat) (b:Bool),e = .returned (.tuple #[.float .f64 f, .bool b])
theorem ExP.mk (f:Nat) (b:Bool):ExP (.returned (.tuple #[.float .f64 f, .bool b])):=⟨f,b,rfl⟩
set_option maxHeartbeats 8000000 in
set_option maxRecDepth 100000 in
theorem strconv_atof64exact.calls (n:Nat) (x:Int) (neg:Bool) (w:World) (hx : -345≤x∧x≤310) (h4:w.cell? ⟨11,0,none⟩=some (.int .u64 52)) (hT:TabF w) :
 Calls Tryz.prog 224 #[.int .u64 (n:Int), .int .i64 x, .bool neg] w fun e w'=>ExP e∧w=w':=by
 obtain ⟨a,cap,g1,g2⟩:=hT
 have g2:=Ak g2
 have hNF:=NN_int (n:Int)
 obtain ⟨F,hF⟩ : ∃ F,floatOfInt .f64 (n:Int)=F:=⟨_,rfl⟩
 rw [hF] at hNF
 have hNG:=NN_neg hNF
 have hneg:=run_neg F
 obtain ⟨G,hG⟩ : ∃ G,F ^^^ 2 ^ 63=G:=⟨_,rfl⟩
 rw [hG] at hNG
 rw [hG] at hneg
 clear hG
 have hNF:=Ak hNF
 have hNG:=Ak hNG
 go_enter Tryz.func224,Tryz.ntmps224
 by_cases c:(n:Int) / 4503599627370496=0
 rotate_left
 ·
  have ct:((n:Int) / 4503599627370496 != 0)=true:=by simp [c]
  go_wp2
  go_ret2
  exact ⟨ExP.mk _ _,rfl⟩
 cases neg with
 | true =>
  by_cases x0:x=0
  ·
   subst x0
   go_wp2
   all_goals (try go_ret2)
   all_goals exact ⟨ExP.mk _ _,rfl⟩
  by_cases x1:0<x
  rotate_left
  ·
   have x0t:(x == 0)=false:=beq_false_of_ne (by omega)
   by_cases x2 : -22≤x
   rotate_left
   ·
    go_wp2
    all_goals (try go_ret2)
    all_goals exact ⟨ExP.mk _ _,rfl⟩
   obtain ⟨j,hj⟩ : ∃ j:Nat, -x=(j:Int):=⟨(-x).toNat,by omega⟩
   obtain ⟨f1,u1,h1⟩:=g2.out j (by omega)
   obtain ⟨r1,v1,hs1⟩:=step_quo hNG.out u1
   clear u1 v1
   obtain rfl:x = -(j:Int):=by omega
   have hj:((j:Int)<23)=True:=eq_true (by omega)
   go_wp2
   all_goals (try go_ret2)
   all_goals exact ⟨ExP.mk _ _,rfl⟩
  by_cases x2:x≤37
  ·
   by_cases x3:22<x
   rotate_left
   ·
    obtain ⟨j,rfl⟩ : ∃ j:Nat,x=(j:Int):=⟨x.toNat,by omega⟩
    obtain ⟨f1,u1,h1⟩:=g2.out j (by omega)
    obtain ⟨r1,v1,hs1⟩:=step_mul hNG.out u1
    clear u1 v1
    have x0t:((j:Int) == 0)=false:=beq_false_of_ne (by omega)
    have hj:((j:Int)<23)=True:=eq_true (by omega)
    go_wp2
    all_goals (try go_ret2)
    all_goals exact ⟨ExP.mk _ _,rfl⟩
   obtain ⟨j,rfl⟩ : ∃ j:Nat,x=(j:Int)+22:=⟨(x - 22).toNat,by omega⟩
   obtain ⟨f1,u1,h1⟩:=g2.out j (by omega)
   obtain ⟨f2,u2,h2⟩:=g2.out 22 (by omega)
   obtain ⟨r1,v1,hs1⟩:=step_mul hNG.out u1
   obtain ⟨r2,v2,hs2⟩:=step_mul v1 u2
   clear u1 u2 v1 v2
   have h3:w.cell? { block:=a.block,off:=a.off+22 } = some (.float .f64 f2):=by have h:=h2;simpa [Addr.add] using h
   have x0t:((j:Int)+22 == 0)=false:=beq_false_of_ne (by omega)
   have hj:((j:Int)<23)=True:=eq_true (by omega)
   obtain ⟨b1,hb1⟩ : ∃ b,(FloatKind.f64.format.order r1 4831355200913801216 == some .gt)=b:=⟨_,rfl⟩
   obtain ⟨b2,hb2⟩ : ∃ b,(FloatKind.f64.format.order r1 14054727237768577024 == some .lt)=b:=⟨_,rfl⟩
   cases b1 with
   | true =>
    go_wp2
    all_goals (try go_ret2)
    all_goals exact ⟨ExP.mk _ _,rfl⟩
   | false =>
    cases b2 with
    | true =>
     go_wp2
     all_goals (try go_ret2)
     all_goals exact ⟨ExP.mk _ _,rfl⟩
    | false =>
     go_wp2
     all_goals (try go_ret2)
     all_goals exact ⟨ExP.mk _ _,rfl⟩
  have x0t:(x == 0)=false:=beq_false_of_ne (by omega)
  go_wp2
  all_goals (try go_ret2)
  all_goals exact ⟨ExP.mk _ _,rfl⟩
 | false =>
  by_cases x0:x=0
  ·
   subst x0
   go_wp2
   all_goals (try go_ret2)
   all_goals exact ⟨ExP.mk _ _,rfl⟩
  by_cases x1:0<x
  rotate_left
  ·
   have x0t:(x == 0)=false:=beq_false_of_ne (by omega)
   by_cases x2 : -22≤x
   rotate_left
   ·
    go_wp2
    all_goals (try go_ret2)
    all_goals exact ⟨ExP.mk _ _,rfl⟩
   obtain ⟨j,hj⟩ : ∃ j:Nat, -x=(j:Int):=⟨(-x).toNat,by omega⟩
   obtain ⟨f1,u1,h1⟩:=g2.out j (by omega)
   obtain ⟨r1,v1,hs1⟩:=step_quo hNF.out u1
   clear u1 v1
   obtain rfl:x = -(j:Int):=by omega
   have hj:((j:Int)<23)=True:=eq_true (by omega)
   go_wp2
   all_goals (try go_ret2)
   all_goals exact ⟨ExP.mk _ _,rfl⟩
  by_cases x2:x≤37
  ·
   by_cases x3:22<x
   rotate_left
   ·
    obtain ⟨j,rfl⟩ : ∃ j:Nat,x=(j:Int):=⟨x.toNat,by omega⟩
    obtain ⟨f1,u1,h1⟩:=g2.out j (by omega)
    obtain ⟨r1,v1,hs1⟩:=step_mul hNF.out u1
    clear u1 v1
    have x0t:((j:Int) == 0)=false:=beq_false_of_ne (by omega)
    have hj:((j:Int)<23)=True:=eq_true (by omega)
    go_wp2
    all_goals (try go_ret2)
    all_goals exact ⟨ExP.mk _ _,rfl⟩
   obtain ⟨j,rfl⟩ : ∃ j:Nat,x=(j:Int)+22:=⟨(x - 22).toNat,by omega⟩
   obtain ⟨f1,u1,h1⟩:=g2.out j (by omega)
   obtain ⟨f2,u2,h2⟩:=g2.out 22 (by omega)
   obtain ⟨r1,v1,hs1⟩:=step_mul hNF.out u1
   obtain ⟨r2,v2,hs2⟩:=step_mul v1 u2
   clear u1 u2 v1 v2
   have h3:w.cell? { block:=a.block,off:=a.off+22 } = some (.float .f64 f2):=by have h:=h2;simpa [Addr.add] using h
   have x0t:((j:Int)+22 == 0)=false:=beq_false_of_ne (by omega)
   have hj:((j:Int)<23)=True:=eq_true (by omega)
   obtain ⟨b1,hb1⟩ : ∃ b,(FloatKind.f64.format.order r1 4831355200913801216 == some .gt)=b:=⟨_,rfl⟩
   obtain ⟨b2,hb2⟩ : ∃ b,(FloatKind.f64.format.order r1 14054727237768577024 == some .lt)=b:=⟨_,rfl⟩
   cases b1 with
   | true =>
    go_wp2
    all_goals (try go_ret2)
    all_goals exact ⟨ExP.mk _ _,rfl⟩
   | false =>
    cases b2 with
    | true =>
     go_wp2
     all_goals (try go_ret2)
     all_goals exact ⟨ExP.mk _ _,rfl⟩
    | false =>
     go_wp2
     all_goals (try go_ret2)
     all_goals exact ⟨ExP.mk _ _,rfl⟩
  have x0t:(x == 0)=false:=beq_false_of_ne (by omega)
  go_wp2
  all_goals (try go_ret2)
  all_goals exact ⟨ExP.mk _ _,rfl⟩
end Go.Proofs.YtnejkimpkaopoaaGreatDoor.Q

/- Functions of the program as Lean functions, each with a proof that the call comes to what it gives. Written by prx.py (wip/pr). -/
import Derived.Test.YtnejkimpkaopoaaGreatDoorQ0
import Derived.Test.YtnejkimpkaopoaaGreatDoorQ5
namespace Go.Proofs.YtnejkimpkaopoaaGreatDoor.Q
open RowKit YtnejkimpkaopoaaGreatDoorW.PrintWords YtnejkimpkaopoaaGreatDoorW.PrintLast YtnejkimpkaopoaaGreatDoorW.PrintMore
set_option maxHeartbeats 8000000
set_option maxRecDepth 100000
attribute [local go_sem] max2_int min2_int max_two min_two max_three min_three max_four min_four
set_option linter.unusedVariables false
set_option linter.unusedSimpArgs false
-- NOT PRINTED: function 33 (spec_Read)
/-! ### sC: function 72 -/
mutual
def sC.j2:Nat→ByteArray→Int→Int→Int→Int→Option (Int × Int × Bool)
  | 0,_,_,_,_,_=>none
  | k+1,x0,x1,x7,x8,x9=>if (wrap64 ((x0.size:Int) - x1))≤x8 then (some (65533,1,false)) else (sC.l0 k x0 x1 x7 x8 x9 1)
def sC.l0:Nat→ByteArray→Int→Int→Int→Int→Int→Option (Int × Int × Bool)
  | 0,_,_,_,_,_,_=>none
  | k+1,x0,x1,x7,x8,x9,x10=>if x10≤x8 then (if 0≤(wrap64 (x1+x10)) then (if (wrap64 (x1+x10))<(x0.size:Int) then (if (wrap64 (bt x0 (wrap64 (x1+x10))))<128 then (some (65533,1,false)) else (if (wrap64 (bt x0 (wrap64 (x1+x10))))>191 then (some (65533,1,false)) else (sC.l0 k x0 x1 (wrap64 ((wrap64 ((wrap64 (x7*64))+(wrap64 (bt x0 (wrap64 (x1+x10)))))) - 128)) x8 x9 (wrap64 (x10+1))))) else (none)) else (none)) else (if x7<x9 then (some (65533,1,false)) else (if x7>1114111 then (some (65533,1,false)) else ((spec_high.f x7).bind fun tz0=>(if tz0=true then (some (65533,1,false)) else ((spec_low.f x7).bind fun tz1=>(if tz1=true then (some (65533,1,false)) else (some (x7,wrap64 (x8+1),true))))))))
def sC.j0:Nat→ByteArray→Int→Int→Bool→Option (Int × Int × Bool)
  | 0,_,_,_,_=>none
  | k+1,x0,x1,x7,x20=>if x20=true then (sC.j2 k x0 x1 (wrap64 (x7 - 192)) 1 128) else (if 224≤x7 then (sC.j1 k x0 x1 x7 (decide (x7≤239))) else (sC.j1 k x0 x1 x7 false))
def sC.j1:Nat→ByteArray→Int→Int→Bool→Option (Int × Int × Bool)
  | 0,_,_,_,_=>none
  | k+1,x0,x1,x7,x29=>if x29=true then (sC.j2 k x0 x1 (wrap64 (x7 - 224)) 2 2048) else (if 240≤x7 then (if x7≤244 then (sC.j2 k x0 x1 (wrap64 (x7 - 240)) 3 65536) else (some (65533,1,false))) else (some (65533,1,false)))
end
def sC.f (k:Nat) (a0:ByteArray) (a1:Int):Option (Int × Int × Bool):=if 0≤a1 then (if a1<(a0.size:Int) then (if (wrap64 (bt a0 a1))<128 then (some (wrap64 (bt a0 a1),1,true)) else (if 194≤(wrap64 (bt a0 a1)) then (sC.j0 k a0 a1 (wrap64 (bt a0 a1)) (decide ((wrap64 (bt a0 a1))≤223))) else (sC.j0 k a0 a1 (wrap64 (bt a0 a1)) false))) else (none)) else (none)
theorem sC.calls (k:Nat) (a0:ByteArray) (a1:Int) (r1:Int) (r2:Int) (r3:Bool) (w:World) (h:sC.f k a0 a1=some (r1,r2,r3)) :
 Calls Tryz.prog 72 #[.string a0, .int .i64 a1] w fun e w'=>e = .returned (.tuple #[.int .i64 r1, .int .i64 r2, .bool r3])∧Drawn0 w w':=by
 have H:(if 0≤a1 then (if a1<(a0.size:Int) then (if (wrap64 (bt a0 a1))<128 then (some (wrap64 (bt a0 a1),1,true)) else (if 194≤(wrap64 (bt a0 a1)) then (sC.j0 k a0 a1 (wrap64 (bt a0 a1)) (decide ((wrap64 (bt a0 a1))≤223))) else (sC.j0 k a0 a1 (wrap64 (bt a0 a1)) false))) else (none)) else (none))=some (r1,r2,r3):=h
 clear h
 by_cases c3:0≤a1
 rotate_left
 ·
  rw [if_neg c3] at H
  exact absurd H (by simp)
 rw [if_pos c3] at H
 have c3b0:decide (0≤a1)=true:=decide_eq_true c3
 clear c3
 by_cases c4:a1<(a0.size:Int)
 ·
  rw [if_pos c4] at H
  have c4b0:decide (a1<(a0.size:Int))=true:=decide_eq_true c4
  clear c4
  have HC6:=Ak H
  clear H
  have p5:0≤(a1:Int):=of_decide_eq_true oA
  have q5:a1<(a0.size:Int):=of_decide_eq_true oA
  have hx5:=bt_at a0 a1
  replace p5:=eq_true p5
  replace q5:=eq_true q5
  go_enter Tryz.func72,Tryz.ntmps72
  go_upto_block 0 with (fail)
  go_cut [7,8,9] (fun v7 v8 v9 wc => ∃ (kq:Nat) (x7_5:Int) (x8_5:Int) (x9_5:Int),v7 = .int .i64 x7_5∧v8 = .int .i64 x8_5∧v9 = .int .i64 x9_5∧Aside0 (sC.j2 kq a0 a1 x7_5 x8_5 x9_5=some (r1,r2,r3))∧Aside0 (kq≤k)∧Drawn0 w wc)
  case first =>
   have H:=HC6.out
   clear HC6
   by_cases c7:(wrap64 (bt a0 a1))<128
   ·
    rw [if_pos c7] at H
    have c7b0:decide ((wrap64 (bt a0 a1))<128)=true:=decide_eq_true c7
    clear c7
    (first|rw [c7b0]|(simp only [i64_w,i32_w];rw [c7b0])|skip)
    simp only [Option.some.injEq,Prod.mk.injEq] at H
    obtain ⟨rfl,rfl,rfl⟩:=H
    go_wp2
    go_ret3
    exact ⟨oS,by repeat (first|exact Drawn0.refl _|apply Drawn0.step)⟩
   rw [if_neg c7] at H
   have c7b0:decide ((wrap64 (bt a0 a1))<128)=false:=decide_eq_false c7
   clear c7
   (first|rw [c7b0]|(simp only [i64_w,i32_w];rw [c7b0])|skip)
   have HC8:=Ak H
   clear H
   go_upto_region 6 with (fail)
   go_cut [20] (fun v20 wc => ∃ (kq:Nat) (x20_7:Bool),v20 = .bool x20_7∧Aside0 (sC.j0 kq a0 a1 (wrap64 (bt a0 a1)) x20_7=some (r1,r2,r3))∧Aside0 (kq≤k)∧Drawn0 w wc)
   case first =>
    have H:=HC8.out
    clear HC8
    by_cases c9:194≤(wrap64 (bt a0 a1))
    ·
     rw [if_pos c9] at H
     have c9b0:decide (194≤(wrap64 (bt a0 a1)))=true:=decide_eq_true c9
     clear c9
     (first|rw [c9b0]|(simp only [i64_w,i32_w];rw [c9b0])|skip)
     have H':=Ak H
     clear H
     go_wp2
     go_meet
     case rel=>exact ⟨_,(decide ((wrap64 (bt a0 a1))≤223)),oS,H',⟨by first|omega|exact Nat.le_refl _⟩,by repeat (first|exact Drawn0.refl _|apply Drawn0.step)⟩
    rw [if_neg c9] at H
    have c9b0:decide (194≤(wrap64 (bt a0 a1)))=false:=decide_eq_false c9
    clear c9
    (first|rw [c9b0]|(simp only [i64_w,i32_w];rw [c9b0])|skip)
    have H':=Ak H
    clear H
    go_wp2
    go_meet
    case rel=>exact ⟨_,(false),oS,H',⟨by first|omega|exact Nat.le_refl _⟩,by repeat (first|exact Drawn0.refl _|apply Drawn0.step)⟩
   case rest =>
   clear HC8
   try clear p2
   try clear c3
   try clear c3b0
   try clear c4
   try clear c4b0
   try clear p5
   try clear q5
   try clear hx5
   try clear p6
   try clear c7
   try clear c7b0
   try clear c9
   try clear c9b0
   try clear p5
   try clear q5
   obtain ⟨kq,x20_7,rfl,HA,HJ7,⟨mc7,rfl⟩⟩:=hcut
   cases kq with
   | zero=>exact absurd HA.out (by simp [sC.j0])
   | succ kj7 =>
    have H:=HA.out
    clear HA
    simp only [sC.j0] at H
    by_cases c10:x20_7=true
    ·
     subst c10
     have H1:(sC.j2 kj7 a0 a1 (wrap64 ((wrap64 (bt a0 a1)) - 192)) 1 128)=some (r1,r2,r3):=by rw [if_pos rfl] at H;exact H
     clear H
     have H:=H1
     clear H1
     have H':=Ak H
     clear H
     go_wp2
     go_meet
     case rel=>exact ⟨_,(wrap64 ((wrap64 (bt a0 a1)) - 192)),(1),(128),oS,oS,oS,H',⟨by have:=HJ7.out;first|omega|exact Nat.le_refl _⟩,by repeat (first|exact Drawn0.refl _|apply Drawn0.step)⟩
    replace c10:=Bool.eq_false_iff.mpr c10
    subst c10
    have H1:(if 224≤(wrap64 (bt a0 a1)) then (sC.j1 kj7 a0 a1 (wrap64 (bt a0 a1)) (decide ((wrap64 (bt a0 a1))≤239))) else (sC.j1 kj7 a0 a1 (wrap64 (bt a0 a1)) false))=some (r1,r2,r3):=by rw [if_neg (show ¬ (false=true) by decide)] at H;exact H
    clear H
    have H:=H1
    clear H1
    have HC11:=Ak H
    clear H
    go_upto_region 8 with (fail)
    go_cut [29] (fun v29 wc => ∃ (kq:Nat) (x29_10:Bool),v29 = .bool x29_10∧Aside0 (sC.j1 kq a0 a1 (wrap64 (bt a0 a1)) x29_10=some (r1,r2,r3))∧Aside0 (kq≤kj7)∧Drawn0 w wc)
    case first =>
     have H:=HC11.out
     clear HC11
     by_cases c12:224≤(wrap64 (bt a0 a1))
     ·
      rw [if_pos c12] at H
      have c12b0:decide (224≤(wrap64 (bt a0 a1)))=true:=decide_eq_true c12
      clear c12
      (first|rw [c12b0]|(simp only [i64_w,i32_w];rw [c12b0])|skip)
      have H':=Ak H
      clear H
      go_wp2
      go_meet
      case rel=>exact ⟨_,(decide ((wrap64 (bt a0 a1))≤239)),oS,H',⟨by have:=HJ7.out;first|omega|exact Nat.le_refl _⟩,by repeat (first|exact Drawn0.refl _|apply Drawn0.step)⟩
     rw [if_neg c12] at H
     have c12b0:decide (224≤(wrap64 (bt a0 a1)))=false:=decide_eq_false c12
     clear c12
     (first|rw [c12b0]|(simp only [i64_w,i32_w];rw [c12b0])|skip)
     have H':=Ak H
     clear H
     go_wp2
     go_meet
     case rel=>exact ⟨_,(false),oS,H',⟨by have:=HJ7.out;first|omega|exact Nat.le_refl _⟩,by repeat (first|exact Drawn0.refl _|apply Drawn0.step)⟩
    case rest =>
    clear HC11
    try clear c1
    try clear p2
    try clear c3
    try clear c3b0
    try clear c4
    try clear c4b0
    try clear p5
    try clear q5
    try clear hx5
    try clear p6
    try clear c7
    try clear c7b0
    try clear c9
    try clear c9b0
    try clear c10
    try clear c12
    try clear c12b0
    try clear p2
    try clear p5
    try clear p6
    try clear q5
    obtain ⟨kq,x29_10,rfl,HA,HJ10,⟨mc10,rfl⟩⟩:=hcut
    cases kq with
    | zero=>exact absurd HA.out (by simp [sC.j1])
    | succ kj10 =>
     have H:=HA.out
     clear HA
     simp only [sC.j1] at H
     by_cases c13:x29_10=true
     ·
      subst c13
      have H1:(sC.j2 kj10 a0 a1 (wrap64 ((wrap64 (bt a0 a1)) - 224)) 2 2048)=some (r1,r2,r3):=by rw [if_pos rfl] at H;exact H
      clear H
      have H:=H1
      clear H1
      have H':=Ak H
      clear H
      go_wp2
      go_meet
      case rel=>exact ⟨_,(wrap64 ((wrap64 (bt a0 a1)) - 224)),(2),(2048),oS,oS,oS,H',⟨by have:=HJ7.out;have:=HJ10.out;first|omega|exact Nat.le_refl _⟩,by repeat (first|exact Drawn0.refl _|apply Drawn0.step)⟩
     replace c13:=Bool.eq_false_iff.mpr c13
     subst c13
     have H1:(if 240≤(wrap64 (bt a0 a1)) then (if (wrap64 (bt a0 a1))≤244 then (sC.j2 kj10 a0 a1 (wrap64 ((wrap64 (bt a0 a1)) - 240)) 3 65536) else (some (65533,1,false))) else (some (65533,1,false)))=some (r1,r2,r3):=by rw [if_neg (show ¬ (false=true) by decide)] at H;exact H
     clear H
     have H:=H1
     clear H1
     by_cases c14:240≤(wrap64 (bt a0 a1))
     ·
      rw [if_pos c14] at H
      have c14b0:decide (240≤(wrap64 (bt a0 a1)))=true:=decide_eq_true c14
      clear c14
      by_cases c15:(wrap64 (bt a0 a1))≤244
      ·
       rw [if_pos c15] at H
       have c15b0:decide ((wrap64 (bt a0 a1))≤244)=true:=decide_eq_true c15
       clear c15
       have H':=Ak H
       clear H
       go_wp2
       go_meet
       case rel=>exact ⟨_,(wrap64 ((wrap64 (bt a0 a1)) - 240)),(3),(65536),oS,oS,oS,H',⟨by have:=HJ7.out;have:=HJ10.out;first|omega|exact Nat.le_refl _⟩,by repeat (first|exact Drawn0.refl _|apply Drawn0.step)⟩
      rw [if_neg c15] at H
      have c15b0:decide ((wrap64 (bt a0 a1))≤244)=false:=decide_eq_false c15
      clear c15
      simp only [Option.some.injEq,Prod.mk.injEq] at H
      obtain ⟨rfl,rfl,rfl⟩:=H
      go_wp2
      go_ret3
      exact ⟨oS,by repeat (first|exact Drawn0.refl _|apply Drawn0.step)⟩
     rw [if_neg c14] at H
     have c14b0:decide (240≤(wrap64 (bt a0 a1)))=false:=decide_eq_false c14
     clear c14
     simp only [Option.some.injEq,Prod.mk.injEq] at H
     obtain ⟨rfl,rfl,rfl⟩:=H
     go_wp2
     go_ret3
     exact ⟨oS,by repeat (first|exact Drawn0.refl _|apply Drawn0.step)⟩
  case rest =>
  clear HC6
  try clear c1
  try clear p2
  try clear c3
  try clear c3b0
  try clear c4
  try clear c4b0
  try clear p5
  try clear q5
  try clear hx5
  try clear p6
  try clear c7
  try clear c7b0
  try clear c9
  try clear c9b0
  try clear c10
  try clear c12
  try clear c12b0
  try clear c13
  try clear c14
  try clear c14b0
  try clear c15
  try clear c15b0
  try clear p2
  try clear p5
  try clear p6
  try clear q5
  obtain ⟨kq,x7_5,x8_5,x9_5,rfl,rfl,rfl,HA,HJ5,⟨mc5,rfl⟩⟩:=hcut
  cases kq with
  | zero=>exact absurd HA.out (by simp [sC.j2])
  | succ kj5 =>
   have H:=HA.out
   clear HA
   simp only [sC.j2] at H
   by_cases c16:(wrap64 ((a0.size:Int) - a1))≤x8_5
   ·
    rw [if_pos c16] at H
    have c16b0:decide ((wrap64 ((a0.size:Int) - a1))≤x8_5)=true:=decide_eq_true c16
    clear c16
    simp only [Option.some.injEq,Prod.mk.injEq] at H
    obtain ⟨rfl,rfl,rfl⟩:=H
    go_wp2
    go_ret3
    exact ⟨oS,by repeat (first|exact Drawn0.refl _|apply Drawn0.step)⟩
   rw [if_neg c16] at H
   have c16b0:decide ((wrap64 ((a0.size:Int) - a1))≤x8_5)=false:=decide_eq_false c16
   clear c16
   have H':=Ak H
   clear H
   go_wp2
   (try simp only [Act.put,List.setIfInBounds_toArray,List.set_cons_zero,List.set_cons_succ])
   go_loopg [7,10] kj5 (fun kq v7 v10 w' => ∃ (x7_2:Int) (x10_2:Int),v7 = .int .i64 x7_2∧v10 = .int .i64 x10_2∧Aside0 (sC.l0 kq a0 a1 x7_2 x8_5 x9_5 x10_2=some (r1,r2,r3))∧Aside0 (kq≤kj5)∧Drawn0 w w')
   case atStart=>exact ⟨(x7_5),(1),oS,oS,H',⟨Nat.le_refl _⟩,by repeat (first|exact Drawn0.refl _|apply Drawn0.step)⟩
   case round =>
   clear H'
   try clear c1
   try clear p2
   try clear c3
   try clear c3b0
   try clear c4
   try clear c4b0
   try clear c5
   try clear p5
   try clear q5
   try clear hx5
   try clear p6
   try clear c7
   try clear c7b0
   try clear c9
   try clear c9b0
   try clear c10
   try clear c12
   try clear c12b0
   try clear c13
   try clear c14
   try clear c14b0
   try clear c15
   try clear c15b0
   try clear c16
   try clear c16b0
   try clear p2
   try clear p5
   try clear p6
   try clear q5
   obtain ⟨x7_2,x10_2,rfl,rfl,HA,HK2,⟨m2,rfl⟩⟩:=hrel
   cases gk with
   | zero=>exact absurd HA.out (by simp [sC.l0])
   | succ k2 =>
    have H:=HA.out
    clear HA
    simp only [sC.l0] at H
    by_cases c17:x10_2≤x8_5
    ·
     rw [if_pos c17] at H
     have c17b0:decide (x10_2≤x8_5)=true:=decide_eq_true c17
     clear c17
     obtain ⟨ji18,hji18⟩ : ∃ j_:Int,(wrap64 (a1+x10_2))=j_:=⟨_,rfl⟩
     replace H:(if 0≤(ji18) then (if (ji18)<(a0.size:Int) then (if (wrap64 (bt a0 (ji18)))<128 then (some (65533,1,false)) else (if (wrap64 (bt a0 (ji18)))>191 then (some (65533,1,false)) else (sC.l0 k2 a0 a1 (wrap64 ((wrap64 ((wrap64 (x7_2*64))+(wrap64 (bt a0 (ji18))))) - 128)) x8_5 x9_5 (wrap64 (x10_2+1))))) else (none)) else (none))=some (r1,r2,r3):=by first|(rw [hji18] at H;exact H)|(simp only [hji18] at H ⊢; exact H)
     have hji18w:(IntKind.i64.wrap (a1+x10_2))=ji18:=(i64_w _).trans hji18
     by_cases c19:0≤(ji18)
     rotate_left
     ·
      rw [if_neg c19] at H
      exact absurd H (by simp)
     rw [if_pos c19] at H
     have c19b0:decide (0≤(ji18))=true:=decide_eq_true c19
     clear c19
     by_cases c20:(ji18)<(a0.size:Int)
     ·
      rw [if_pos c20] at H
      have c20b0:decide ((ji18)<(a0.size:Int))=true:=decide_eq_true c20
      clear c20
      by_cases c22:(wrap64 (bt a0 (ji18)))<128
      ·
       rw [if_pos c22] at H
       have c22b0:decide ((wrap64 (bt a0 (ji18)))<128)=true:=decide_eq_true c22
       clear c22
       simp only [Option.some.injEq,Prod.mk.injEq] at H
       obtain ⟨rfl,rfl,rfl⟩:=H
       have p21:0≤((ji18):Int):=of_decide_eq_true oA
       have q21:(ji18)<(a0.size:Int):=of_decide_eq_true oA
       have hx21:=bt_at a0 (ji18)
       replace p21:=eq_true p21
       replace q21:=eq_true q21
       go_wp2
       go_ret3
       exact ⟨by first|rfl|(simp;done)|(simp only [← hji18] <;> (first|rfl|simp))|(simp [*];done),by repeat (first|exact Drawn0.refl _|apply Drawn0.step)⟩
      rw [if_neg c22] at H
      have c22b0:decide ((wrap64 (bt a0 (ji18)))<128)=false:=decide_eq_false c22
      clear c22
      by_cases c23:(wrap64 (bt a0 (ji18)))>191
      ·
       rw [if_pos c23] at H
       have c23b0:decide (191<(wrap64 (bt a0 (ji18))))=true:=decide_eq_true c23
       clear c23
       simp only [Option.some.injEq,Prod.mk.injEq] at H
       obtain ⟨rfl,rfl,rfl⟩:=H
       have p21:0≤((ji18):Int):=of_decide_eq_true oA
       have q21:(ji18)<(a0.size:Int):=of_decide_eq_true oA
       have hx21:=bt_at a0 (ji18)
       replace p21:=eq_true p21
       replace q21:=eq_true q21
       go_wp2
       go_ret3
       exact ⟨by first|rfl|(simp;done)|(simp only [← hji18] <;> (first|rfl|simp))|(simp [*];done),by repeat (first|exact Drawn0.refl _|apply Drawn0.step)⟩
      rw [if_neg c23] at H
      have c23b0:decide (191<(wrap64 (bt a0 (ji18))))=false:=decide_eq_false c23
      clear c23
      have H':=Ak H
      clear H
      have p21:0≤((ji18):Int):=of_decide_eq_true oA
      have q21:(ji18)<(a0.size:Int):=of_decide_eq_true oA
      have hx21:=bt_at a0 (ji18)
      replace p21:=eq_true p21
      replace q21:=eq_true q21
      go_wp2
      go_roundg k2
      case measure=>have:=HJ5.out;have:=HK2.out;omega
      case rel=>exact ⟨(wrap64 ((wrap64 ((wrap64 (x7_2*64))+(wrap64 (bt a0 (ji18))))) - 128)),(wrap64 (x10_2+1)),(by first|rfl|(simp;done)|(simp only [← hji18] <;> (first|rfl|simp))|(simp [*];done)),oS,H',⟨by have:=HJ5.out;have:=HK2.out;omega⟩,by repeat (first|exact Drawn0.refl _|apply Drawn0.step)⟩
     rw [if_neg c20] at H
     exact absurd H (by simp)
    rw [if_neg c17] at H
    have c17b0:decide (x10_2≤x8_5)=false:=decide_eq_false c17
    clear c17
    by_cases c24:x7_2<x9_5
    ·
     rw [if_pos c24] at H
     have c24b0:decide (x7_2<x9_5)=true:=decide_eq_true c24
     clear c24
     simp only [Option.some.injEq,Prod.mk.injEq] at H
     obtain ⟨rfl,rfl,rfl⟩:=H
     go_wp2
     go_ret3
     exact ⟨oS,by repeat (first|exact Drawn0.refl _|apply Drawn0.step)⟩
    rw [if_neg c24] at H
    have c24b0:decide (x7_2<x9_5)=false:=decide_eq_false c24
    clear c24
    by_cases c25:x7_2>1114111
    ·
     rw [if_pos c25] at H
     have c25b0:decide (1114111<x7_2)=true:=decide_eq_true c25
     clear c25
     simp only [Option.some.injEq,Prod.mk.injEq] at H
     obtain ⟨rfl,rfl,rfl⟩:=H
     go_wp2
     go_ret3
     exact ⟨oS,by repeat (first|exact Drawn0.refl _|apply Drawn0.step)⟩
    rw [if_neg c25] at H
    have c25b0:decide (1114111<x7_2)=false:=decide_eq_false c25
    clear c25
    replace H:=Option.bind_eq_some_iff.mp H
    obtain ⟨tz0,A260,H⟩:=H
    replace H:(if tz0=true then (some (65533,1,false)) else ((spec_low.f x7_2).bind fun tz1=>(if tz1=true then (some (65533,1,false)) else (some (x7_2,wrap64 (x8_5+1),true)))))=some (r1,r2,r3):=H
    have A26:=Ak A260
    clear A260
    by_cases c27:tz0=true
    ·
     subst c27
     have H1:(some (65533,1,false))=some (r1,r2,r3):=by rw [if_pos rfl] at H;exact H
     clear H
     have H:=H1
     clear H1
     simp only [Option.some.injEq,Prod.mk.injEq] at H
     obtain ⟨rfl,rfl,rfl⟩:=H
     go_wp2_with (first|(go_at_call 74;(with_reducible refine (spec_high.calls x7_2 true _ A26.out).mono ?_);rintro e w' ⟨rfl,⟨nd,rfl⟩⟩))
     go_ret3
     exact ⟨oS,by repeat (first|exact Drawn0.refl _|apply Drawn0.step)⟩
    replace c27:=Bool.eq_false_iff.mpr c27
    subst c27
    have H1:((spec_low.f x7_2).bind fun tz1=>(if tz1=true then (some (65533,1,false)) else (some (x7_2,wrap64 (x8_5+1),true))))=some (r1,r2,r3):=by rw [if_neg (show ¬ (false=true) by decide)] at H;exact H
    clear H
    have H:=H1
    clear H1
    replace H:=Option.bind_eq_some_iff.mp H
    obtain ⟨tz1,A280,H⟩:=H
    replace H:(if tz1=true then (some (65533,1,false)) else (some (x7_2,wrap64 (x8_5+1),true)))=some (r1,r2,r3):=H
    have A28:=Ak A280
    clear A280
    by_cases c29:tz1=true
    ·
     subst c29
     have H1:(some (65533,1,false))=some (r1,r2,r3):=by rw [if_pos rfl] at H;exact H
     clear H
     have H:=H1
     clear H1
     simp only [Option.some.injEq,Prod.mk.injEq] at H
     obtain ⟨rfl,rfl,rfl⟩:=H
     go_wp2_with (first|(go_at_call 74;(with_reducible refine (spec_high.calls x7_2 false _ A26.out).mono ?_);rintro e w' ⟨rfl,⟨nd,rfl⟩⟩)|(go_at_call 75;(with_reducible refine (spec_low.calls x7_2 true _ A28.out).mono ?_);rintro e w' ⟨rfl,⟨nd,rfl⟩⟩))
     go_ret3
     exact ⟨oS,by repeat (first|exact Drawn0.refl _|apply Drawn0.step)⟩
    replace c29:=Bool.eq_false_iff.mpr c29
    subst c29
    have H1:(some (x7_2,wrap64 (x8_5+1),true))=some (r1,r2,r3):=by rw [if_neg (show ¬ (false=true) by decide)] at H;exact H
    clear H
    have H:=H1
    clear H1
    simp only [Option.some.injEq,Prod.mk.injEq] at H
    obtain ⟨rfl,rfl,rfl⟩:=H
    go_wp2_with (first|(go_at_call 74;(with_reducible refine (spec_high.calls x7_2 false _ A26.out).mono ?_);rintro e w' ⟨rfl,⟨nd,rfl⟩⟩)|(go_at_call 75;(with_reducible refine (spec_low.calls x7_2 false _ A28.out).mono ?_);rintro e w' ⟨rfl,⟨nd,rfl⟩⟩))
    go_ret3
    exact ⟨oS,by repeat (first|exact Drawn0.refl _|apply Drawn0.step)⟩
 rw [if_neg c4] at H
 exact absurd H (by simp)
/-! ### spec_UTF8: function 35 -/
def spec_UTF8.l0:Nat→ByteArray→Int→Option (Bool)
  | 0,_,_=>none
  | k+1,x0,x3=>if x3<(x0.size:Int) then ((sC.f k x0 x3).bind fun btz0=>(if btz0.2.2=true then (spec_UTF8.l0 k x0 (wrap64 (x3+btz0.2.1))) else (some false))) else (some true)
def spec_UTF8.f (k:Nat) (a0:ByteArray):Option (Bool):=spec_UTF8.l0 k a0 0
theorem spec_UTF8.calls (k:Nat) (a0:ByteArray) (r:Bool) (w:World) (h:spec_UTF8.f k a0=some r) :
 Calls Tryz.prog 35 #[.string a0] w fun e w'=>e = .returned (.bool r)∧Drawn0 w w':=by
 have H:(spec_UTF8.l0 k a0 0)=some r:=h
 clear h
 have H':=Ak H
 clear H
 go_enter Tryz.func35,Tryz.ntmps35
 go_wp2
 (try simp only [Act.put,List.setIfInBounds_toArray,List.set_cons_zero,List.set_cons_succ])
 go_loopg [3] k (fun kq v3 w' => ∃ (x3_1:Int),v3 = .int .i64 x3_1∧Aside0 (spec_UTF8.l0 kq a0 x3_1=some r)∧Aside0 (kq≤k)∧Drawn0 w w')
 case atStart=>exact ⟨(0),oS,H',⟨Nat.le_refl _⟩,by repeat (first|exact Drawn0.refl _|apply Drawn0.step)⟩
 case round =>
 clear H'
 obtain ⟨x3_1,rfl,HA,HK1,⟨m1,rfl⟩⟩:=hrel
 cases gk with
 | zero=>exact absurd HA.out (by simp [spec_UTF8.l0])
 | succ k1 =>
  have H:=HA.out
  clear HA
  simp only [spec_UTF8.l0] at H
  by_cases c2:x3_1<(a0.size:Int)
  rotate_left
  ·
   rw [if_neg c2] at H
   have c2b0:decide (x3_1<(a0.size:Int))=false:=decide_eq_false c2
   clear c2
   obtain rfl:=Option.some.inj H
   go_wp2
   go_ret
   exact ⟨oS,by repeat (first|exact Drawn0.refl _|apply Drawn0.step)⟩
  rw [if_pos c2] at H
  have c2b0:decide (x3_1<(a0.size:Int))=true:=decide_eq_true c2
  clear c2
  replace H:=Option.bind_eq_some_iff.mp H
  obtain ⟨⟨tz0,tz1,tz2⟩,A30,H⟩:=H
  replace H:(if tz2=true then (spec_UTF8.l0 k1 a0 (wrap64 (x3_1+tz1))) else (some false))=some r:=H
  have A3:=Ak A30
  clear A30
  by_cases c4:tz2=true
  ·
   subst c4
   have H1:(spec_UTF8.l0 k1 a0 (wrap64 (x3_1+tz1)))=some r:=by rw [if_pos rfl] at H;exact H
   clear H
   have H:=H1
   clear H1
   have H':=Ak H
   clear H
   go_wp2_with (first|((with_reducible refine gate_callee (f:=72) rfl ?_);refine goesL_ (some 14) rfl rfl Tryz.func72 (by kernel_rfl) rfl #[.string a0, .int .i64 x3_1] rfl oM ?_;(with_reducible refine (sC.calls k1 a0 x3_1 tz0 tz1 true _ A3.out).mono ?_);rintro e w' ⟨rfl,⟨nd,rfl⟩⟩;refine ⟨_,rfl,?_⟩))
   go_roundg k1
   case measure=>have:=HK1.out;omega
   case rel=>exact ⟨(wrap64 (x3_1+tz1)),oS,H',⟨by have:=HK1.out;omega⟩,by repeat (first|exact Drawn0.refl _|apply Drawn0.step)⟩
  replace c4:=Bool.eq_false_iff.mpr c4
  subst c4
  have H1:(some false)=some r:=by rw [if_neg (show ¬ (false=true) by decide)] at H;exact H
  clear H
  have H:=H1
  clear H1
  obtain rfl:=Option.some.inj H
  go_wp2_with (first|((with_reducible refine gate_callee (f:=72) rfl ?_);refine goesL_ (some 14) rfl rfl Tryz.func72 (by kernel_rfl) rfl #[.string a0, .int .i64 x3_1] rfl oM ?_;(with_reducible refine (sC.calls k1 a0 x3_1 tz0 tz1 false _ A3.out).mono ?_);rintro e w' ⟨rfl,⟨nd,rfl⟩⟩;refine ⟨_,rfl,?_⟩))
  go_ret
  exact ⟨oS,by repeat (first|exact Drawn0.refl _|apply Drawn0.step)⟩
/-! ### sD: function 36 -/
def sD.l0:Nat→ByteArray→Int→Option (Bool)
  | 0,_,_=>none
  | k+1,x0,x3=>if x3<(x0.size:Int) then (if 0≤x3 then (if (bt x0 x3)=92 then ((sN.f k x0 x3).bind fun btz0=>(if btz0.2=true then ((spec_high.f btz0.1).bind fun tz1=>(if tz1=true then ((sN.f k x0 (wrap64 (x3+6))).bind fun btz2=>(if btz2.2=true then ((spec_low.f btz2.1).bind fun tz3=>(if tz3=true then (sD.l0 k x0 (wrap64 (x3+12))) else (some false))) else (some false))) else ((spec_low.f btz0.1).bind fun tz4=>(if tz4=true then (some false) else (sD.l0 k x0 (wrap64 (x3+6))))))) else (sD.l0 k x0 (wrap64 (x3+2))))) else (sD.l0 k x0 (wrap64 (x3+1)))) else (none)) else (some true)
def sD.f (k:Nat) (a0:ByteArray):Option (Bool):=sD.l0 k a0 0
theorem sD.calls (k:Nat) (a0:ByteArray) (r:Bool) (w:World) (h:sD.f k a0=some r) :
 Calls Tryz.prog 36 #[.string a0] w fun e w'=>e = .returned (.bool r)∧Drawn0 w w':=by
 have H:(sD.l0 k a0 0)=some r:=h
 clear h
 have H':=Ak H
 clear H
 go_enter Tryz.func36,Tryz.ntmps36
 go_wp2
 (try simp only [Act.put,List.setIfInBounds_toArray,List.set_cons_zero,List.set_cons_succ])
 go_loopg [3] k (fun kq v3 w' => ∃ (x3_1:Int),v3 = .int .i64 x3_1∧Aside0 (sD.l0 kq a0 x3_1=some r)∧Aside0 (kq≤k)∧Drawn0 w w')
 case atStart=>exact ⟨(0),oS,H',⟨Nat.le_refl _⟩,by repeat (first|exact Drawn0.refl _|apply Drawn0.step)⟩
 case round =>
 clear H'
 obtain ⟨x3_1,rfl,HA,HK1,⟨m1,rfl⟩⟩:=hrel
 cases gk with
 | zero=>exact absurd HA.out (by simp [sD.l0])
 | succ k1 =>
  have H:=HA.out
  clear HA
  simp only [sD.l0] at H
  by_cases c2:x3_1<(a0.size:Int)
  rotate_left
  ·
   rw [if_neg c2] at H
   have c2b0:decide (x3_1<(a0.size:Int))=false:=decide_eq_false c2
   clear c2
   obtain rfl:=Option.some.inj H
   go_wp2
   go_ret
   exact ⟨oS,by repeat (first|exact Drawn0.refl _|apply Drawn0.step)⟩
  rw [if_pos c2] at H
  have c2b0:decide (x3_1<(a0.size:Int))=true:=decide_eq_true c2
  clear c2
  by_cases c3:0≤x3_1
  ·
   rw [if_pos c3] at H
   have c3b0:decide (0≤x3_1)=true:=decide_eq_true c3
   clear c3
   by_cases c5:(bt a0 x3_1)=92
   rotate_left
   ·
    rw [if_neg c5] at H
    have c5b0:((bt a0 x3_1) == 92)=false:=beq_eq_false_iff_ne.mpr c5
    have c5b1:((bt a0 x3_1) != 92)=true:=bne_iff_ne.mpr c5
    have H':=Ak H
    clear H
    have p4:0≤(x3_1:Int):=of_decide_eq_true oA
    have q4:x3_1<(a0.size:Int):=of_decide_eq_true oA
    have hx4:=bt_at a0 x3_1
    replace p4:=eq_true p4
    replace q4:=eq_true q4
    go_wp2
    go_roundg k1
    case measure=>have:=HK1.out;omega
    case rel=>exact ⟨(wrap64 (x3_1+1)),oS,H',⟨by have:=HK1.out;omega⟩,by repeat (first|exact Drawn0.refl _|apply Drawn0.step)⟩
   rw [if_pos c5] at H
   have c5b0:((bt a0 x3_1) == 92)=true:=beq_iff_eq.mpr c5
   have c5b1:((bt a0 x3_1) != 92)=false:=bne_eq_false_iff_eq.mpr c5
   clear c5
   replace H:=Option.bind_eq_some_iff.mp H
   obtain ⟨⟨tz0,tz1⟩,A60,H⟩:=H
   replace H:(if tz1=true then ((spec_high.f tz0).bind fun tz2=>(if tz2=true then ((sN.f k1 a0 (wrap64 (x3_1+6))).bind fun btz3=>(if btz3.2=true then ((spec_low.f btz3.1).bind fun tz4=>(if tz4=true then (sD.l0 k1 a0 (wrap64 (x3_1+12))) else (some false))) else (some false))) else ((spec_low.f tz0).bind fun tz5=>(if tz5=true then (some false) else (sD.l0 k1 a0 (wrap64 (x3_1+6))))))) else (sD.l0 k1 a0 (wrap64 (x3_1+2))))=some r:=H
   have A6:=Ak A60
   clear A60
   by_cases c7:tz1=true
   ·
    subst c7
    have H1:((spec_high.f tz0).bind fun tz2=>(if tz2=true then ((sN.f k1 a0 (wrap64 (x3_1+6))).bind fun btz3=>(if btz3.2=true then ((spec_low.f btz3.1).bind fun tz4=>(if tz4=true then (sD.l0 k1 a0 (wrap64 (x3_1+12))) else (some false))) else (some false))) else ((spec_low.f tz0).bind fun tz5=>(if tz5=true then (some false) else (sD.l0 k1 a0 (wrap64 (x3_1+6)))))))=some r:=by rw [if_pos rfl] at H;exact H
    clear H
    have H:=H1
    clear H1
    replace H:=Option.bind_eq_some_iff.mp H
    obtain ⟨tz2,A80,H⟩:=H
    replace H:(if tz2=true then ((sN.f k1 a0 (wrap64 (x3_1+6))).bind fun btz3=>(if btz3.2=true then ((spec_low.f btz3.1).bind fun tz4=>(if tz4=true then (sD.l0 k1 a0 (wrap64 (x3_1+12))) else (some false))) else (some false))) else ((spec_low.f tz0).bind fun tz5=>(if tz5=true then (some false) else (sD.l0 k1 a0 (wrap64 (x3_1+6))))))=some r:=H
    have A8:=Ak A80
    clear A80
    by_cases c9:tz2=true
    rotate_left
    ·
     replace c9:=Bool.eq_false_iff.mpr c9
     subst c9
     have H1:((spec_low.f tz0).bind fun tz5=>(if tz5=true then (some false) else (sD.l0 k1 a0 (wrap64 (x3_1+6)))))=some r:=by rw [if_neg (show ¬ (false=true) by decide)] at H;exact H
     clear H
     have H:=H1
     clear H1
     replace H:=Option.bind_eq_some_iff.mp H
     obtain ⟨tz5,A140,H⟩:=H
     replace H:(if tz5=true then (some false) else (sD.l0 k1 a0 (wrap64 (x3_1+6))))=some r:=H
     have A14:=Ak A140
     clear A140
     by_cases c15:tz5=true
     ·
      subst c15
      have H1:(some false)=some r:=by rw [if_pos rfl] at H;exact H
      clear H
      have H:=H1
      clear H1
      obtain rfl:=Option.some.inj H
      have p4:0≤(x3_1:Int):=of_decide_eq_true oA
      have q4:x3_1<(a0.size:Int):=of_decide_eq_true oA
      have hx4:=bt_at a0 x3_1
      replace p4:=eq_true p4
      replace q4:=eq_true q4
      go_wp2_with (first|((with_reducible refine gate_callee (f:=73) rfl ?_);refine goesL_ (some 21) rfl rfl Tryz.func73 (by kernel_rfl) rfl #[.string a0, .int .i64 x3_1] rfl oM ?_;(with_reducible refine (sN.calls k1 a0 x3_1 tz0 true _ A6.out).mono ?_);rintro e w' ⟨rfl,⟨nd,rfl⟩⟩;refine ⟨_,rfl,?_⟩)|((with_reducible refine gate_callee (f:=74) rfl ?_);refine goesL_ (some 33) rfl rfl Tryz.func74 (by kernel_rfl) rfl #[.int .i64 tz0] rfl oM ?_;(with_reducible refine (spec_high.calls tz0 false _ A8.out).mono ?_);rintro e w' ⟨rfl,⟨nd,rfl⟩⟩;refine ⟨_,rfl,?_⟩)|((with_reducible refine gate_callee (f:=75) rfl ?_);refine goesL_ (some 52) rfl rfl Tryz.func75 (by kernel_rfl) rfl #[.int .i64 tz0] rfl oM ?_;(with_reducible refine (spec_low.calls tz0 true _ A14.out).mono ?_);rintro e w' ⟨rfl,⟨nd,rfl⟩⟩;refine ⟨_,rfl,?_⟩))
      go_ret
      exact ⟨oS,by repeat (first|exact Drawn0.refl _|apply Drawn0.step)⟩
     replace c15:=Bool.eq_false_iff.mpr c15
     subst c15
     have H1:(sD.l0 k1 a0 (wrap64 (x3_1+6)))=some r:=by rw [if_neg (show ¬ (false=true) by decide)] at H;exact H
     clear H
     have H:=H1
     clear H1
     have H':=Ak H
     clear H
     have p4:0≤(x3_1:Int):=of_decide_eq_true oA
     have q4:x3_1<(a0.size:Int):=of_decide_eq_true oA
     have hx4:=bt_at a0 x3_1
     replace p4:=eq_true p4
     replace q4:=eq_true q4
     go_wp2_with (first|((with_reducible refine gate_callee (f:=73) rfl ?_);refine goesL_ (some 21) rfl rfl Tryz.func73 (by kernel_rfl) rfl #[.string a0, .int .i64 x3_1] rfl oM ?_;(with_reducible refine (sN.calls k1 a0 x3_1 tz0 true _ A6.out).mono ?_);rintro e w' ⟨rfl,⟨nd,rfl⟩⟩;refine ⟨_,rfl,?_⟩)|((with_reducible refine gate_callee (f:=74) rfl ?_);refine goesL_ (some 33) rfl rfl Tryz.func74 (by kernel_rfl) rfl #[.int .i64 tz0] rfl oM ?_;(with_reducible refine (spec_high.calls tz0 false _ A8.out).mono ?_);rintro e w' ⟨rfl,⟨nd,rfl⟩⟩;refine ⟨_,rfl,?_⟩)|((with_reducible refine gate_callee (f:=75) rfl ?_);refine goesL_ (some 52) rfl rfl Tryz.func75 (by kernel_rfl) rfl #[.int .i64 tz0] rfl oM ?_;(with_reducible refine (spec_low.calls tz0 false _ A14.out).mono ?_);rintro e w' ⟨rfl,⟨nd,rfl⟩⟩;refine ⟨_,rfl,?_⟩))
     go_roundg k1
     case measure=>have:=HK1.out;omega
     case rel=>exact ⟨(wrap64 (x3_1+6)),oS,H',⟨by have:=HK1.out;omega⟩,by repeat (first|exact Drawn0.refl _|apply Drawn0.step)⟩
    subst c9
    have H1:((sN.f k1 a0 (wrap64 (x3_1+6))).bind fun btz3=>(if btz3.2=true then ((spec_low.f btz3.1).bind fun tz4=>(if tz4=true then (sD.l0 k1 a0 (wrap64 (x3_1+12))) else (some false))) else (some false)))=some r:=by rw [if_pos rfl] at H;exact H
    clear H
    have H:=H1
    clear H1
    replace H:=Option.bind_eq_some_iff.mp H
    obtain ⟨⟨tz3,tz6⟩,A100,H⟩:=H
    replace H:(if tz6=true then ((spec_low.f tz3).bind fun tz4=>(if tz4=true then (sD.l0 k1 a0 (wrap64 (x3_1+12))) else (some false))) else (some false))=some r:=H
    have A10:=Ak A100
    clear A100
    by_cases c11:tz6=true
    ·
     subst c11
     have H1:((spec_low.f tz3).bind fun tz4=>(if tz4=true then (sD.l0 k1 a0 (wrap64 (x3_1+12))) else (some false)))=some r:=by rw [if_pos rfl] at H;exact H
     clear H
     have H:=H1
     clear H1
     replace H:=Option.bind_eq_some_iff.mp H
     obtain ⟨tz4,A120,H⟩:=H
     replace H:(if tz4=true then (sD.l0 k1 a0 (wrap64 (x3_1+12))) else (some false))=some r:=H
     have A12:=Ak A120
     clear A120
     by_cases c13:tz4=true
     ·
      subst c13
      have H1:(sD.l0 k1 a0 (wrap64 (x3_1+12)))=some r:=by rw [if_pos rfl] at H;exact H
      clear H
      have H:=H1
      clear H1
      have H':=Ak H
      clear H
      have p4:0≤(x3_1:Int):=of_decide_eq_true oA
      have q4:x3_1<(a0.size:Int):=of_decide_eq_true oA
      have hx4:=bt_at a0 x3_1
      replace p4:=eq_true p4
      replace q4:=eq_true q4
      go_wp2_with (first|((with_reducible refine gate_callee (f:=73) rfl ?_);refine goesL_ (some 21) rfl rfl Tryz.func73 (by kernel_rfl) rfl #[.string a0, .int .i64 x3_1] rfl oM ?_;(with_reducible refine (sN.calls k1 a0 x3_1 tz0 true _ A6.out).mono ?_);rintro e w' ⟨rfl,⟨nd,rfl⟩⟩;refine ⟨_,rfl,?_⟩)|((with_reducible refine gate_callee (f:=74) rfl ?_);refine goesL_ (some 33) rfl rfl Tryz.func74 (by kernel_rfl) rfl #[.int .i64 tz0] rfl oM ?_;(with_reducible refine (spec_high.calls tz0 true _ A8.out).mono ?_);rintro e w' ⟨rfl,⟨nd,rfl⟩⟩;refine ⟨_,rfl,?_⟩)|((with_reducible refine gate_callee (f:=73) rfl ?_);refine goesL_ (some 38) rfl rfl Tryz.func73 (by kernel_rfl) rfl #[.string a0, .int .i64 (wrap64 (x3_1+6))] rfl oM ?_;(with_reducible refine (sN.calls k1 a0 (wrap64 (x3_1+6)) tz3 true _ A10.out).mono ?_);rintro e w' ⟨rfl,⟨nd,rfl⟩⟩;refine ⟨_,rfl,?_⟩)|(go_at_call 75;(with_reducible refine (spec_low.calls tz3 true _ A12.out).mono ?_);rintro e w' ⟨rfl,⟨nd,rfl⟩⟩))
      go_roundg k1
      case measure=>have:=HK1.out;omega
      case rel=>exact ⟨(wrap64 (x3_1+12)),oS,H',⟨by have:=HK1.out;omega⟩,by repeat (first|exact Drawn0.refl _|apply Drawn0.step)⟩
     replace c13:=Bool.eq_false_iff.mpr c13
     subst c13
     have H1:(some false)=some r:=by rw [if_neg (show ¬ (false=true) by decide)] at H;exact H
     clear H
     have H:=H1
     clear H1
     obtain rfl:=Option.some.inj H
     have p4:0≤(x3_1:Int):=of_decide_eq_true oA
     have q4:x3_1<(a0.size:Int):=of_decide_eq_true oA
     have hx4:=bt_at a0 x3_1
     replace p4:=eq_true p4
     replace q4:=eq_true q4
     go_wp2_with (first|((with_reducible refine gate_callee (f:=73) rfl ?_);refine goesL_ (some 21) rfl rfl Tryz.func73 (by kernel_rfl) rfl #[.string a0, .int .i64 x3_1] rfl oM ?_;(with_reducible refine (sN.calls k1 a0 x3_1 tz0 true _ A6.out).mono ?_);rintro e w' ⟨rfl,⟨nd,rfl⟩⟩;refine ⟨_,rfl,?_⟩)|((with_reducible refine gate_callee (f:=74) rfl ?_);refine goesL_ (some 33) rfl rfl Tryz.func74 (by kernel_rfl) rfl #[.int .i64 tz0] rfl oM ?_;(with_reducible refine (spec_high.calls tz0 true _ A8.out).mono ?_);rintro e w' ⟨rfl,⟨nd,rfl⟩⟩;refine ⟨_,rfl,?_⟩)|((with_reducible refine gate_callee (f:=73) rfl ?_);refine goesL_ (some 38) rfl rfl Tryz.func73 (by kernel_rfl) rfl #[.string a0, .int .i64 (wrap64 (x3_1+6))] rfl oM ?_;(with_reducible refine (sN.calls k1 a0 (wrap64 (x3_1+6)) tz3 true _ A10.out).mono ?_);rintro e w' ⟨rfl,⟨nd,rfl⟩⟩;refine ⟨_,rfl,?_⟩)|(go_at_call 75;(with_reducible refine (spec_low.calls tz3 false _ A12.out).mono ?_);rintro e w' ⟨rfl,⟨nd,rfl⟩⟩))
     go_ret
     exact ⟨oS,by repeat (first|exact Drawn0.refl _|apply Drawn0.step)⟩
    replace c11:=Bool.eq_false_iff.mpr c11
    subst c11
    have H1:(some false)=some r:=by rw [if_neg (show ¬ (false=true) by decide)] at H;exact H
    clear H
    have H:=H1
    clear H1
    obtain rfl:=Option.some.inj H
    have p4:0≤(x3_1:Int):=of_decide_eq_true oA
    have q4:x3_1<(a0.size:Int):=of_decide_eq_true oA
    have hx4:=bt_at a0 x3_1
    replace p4:=eq_true p4
    replace q4:=eq_true q4
    go_wp2_with (first|((with_reducible refine gate_callee (f:=73) rfl ?_);refine goesL_ (some 21) rfl rfl Tryz.func73 (by kernel_rfl) rfl #[.string a0, .int .i64 x3_1] rfl oM ?_;(with_reducible refine (sN.calls k1 a0 x3_1 tz0 true _ A6.out).mono ?_);rintro e w' ⟨rfl,⟨nd,rfl⟩⟩;refine ⟨_,rfl,?_⟩)|((with_reducible refine gate_callee (f:=74) rfl ?_);refine goesL_ (some 33) rfl rfl Tryz.func74 (by kernel_rfl) rfl #[.int .i64 tz0] rfl oM ?_;(with_reducible refine (spec_high.calls tz0 true _ A8.out).mono ?_);rintro e w' ⟨rfl,⟨nd,rfl⟩⟩;refine ⟨_,rfl,?_⟩)|((with_reducible refine gate_callee (f:=73) rfl ?_);refine goesL_ (some 38) rfl rfl Tryz.func73 (by kernel_rfl) rfl #[.string a0, .int .i64 (wrap64 (x3_1+6))] rfl oM ?_;(with_reducible refine (sN.calls k1 a0 (wrap64 (x3_1+6)) tz3 false _ A10.out).mono ?_);rintro e w' ⟨rfl,⟨nd,rfl⟩⟩;refine ⟨_,rfl,?_⟩))
    go_ret
    exact ⟨oS,by repeat (first|exact Drawn0.refl _|apply Drawn0.step)⟩
   replace c7:=Bool.eq_false_iff.mpr c7
   subst c7
   have H1:(sD.l0 k1 a0 (wrap64 (x3_1+2)))=some r:=by rw [if_neg (show ¬ (false=true) by decide)] at H;exact H
   clear H
   have H:=H1
   clear H1
   have H':=Ak H
   clear H
   have p4:0≤(x3_1:Int):=of_decide_eq_true oA
   have q4:x3_1<(a0.size:Int):=of_decide_eq_true oA
   have hx4:=bt_at a0 x3_1
   replace p4:=eq_true p4
   replace q4:=eq_true q4
   go_wp2_with (first|((with_reducible refine gate_callee (f:=73) rfl ?_);refine goesL_ (some 21) rfl rfl Tryz.func73 (by kernel_rfl) rfl #[.string a0, .int .i64 x3_1] rfl oM ?_;(with_reducible refine (sN.calls k1 a0 x3_1 tz0 false _ A6.out).mono ?_);rintro e w' ⟨rfl,⟨nd,rfl⟩⟩;refine ⟨_,rfl,?_⟩))
   go_roundg k1
   case measure=>have:=HK1.out;omega
   case rel=>exact ⟨(wrap64 (x3_1+2)),oS,H',⟨by have:=HK1.out;omega⟩,by repeat (first|exact Drawn0.refl _|apply Drawn0.step)⟩
  rw [if_neg c3] at H
  exact absurd H (by simp)
end Go.Proofs.YtnejkimpkaopoaaGreatDoor.Q

/- Functions of the program as Lean functions, each with a proof that the call comes to what it gives. Written by prx.py (wip/pr). -/
import Derived.Test.YtnejkimpkaopoaaGreatDoorQ0
namespace Go.Proofs.YtnejkimpkaopoaaGreatDoor.Q
open RowKit YtnejkimpkaopoaaGreatDoorW.PrintWords YtnejkimpkaopoaaGreatDoorW.PrintLast YtnejkimpkaopoaaGreatDoorW.PrintMore
attribute [local go_sem] max2_int min2_int max_two min_two max_three min_three max_four min_four
set_option linter.unusedVariables false
set_option linter.unusedSimpArgs false
/-! ### gS: function 107 -/
mutual
def gS.j0:Nat→ByteArray→Int→Int→Option (ByteArray)
  | 0,_,_,_=>none
  | k+1,x0,x3,x4=>gS.l0 k x0 x3 x4
def gS.l0:Nat→ByteArray→Int→Int→Option (ByteArray)
  | 0,_,_,_=>none
  | k+1,x0,x3,x4=>if x3<(x0.size:Int) then (if 0≤x3 then (if (bt x0 x3) ≥ 34 then (gS.j2 k x0 x3 x4 (decide ((bt x0 x3)≤125))) else (gS.j2 k x0 x3 x4 false)) else (none)) else (some x0)
def gS.j2:Nat→ByteArray→Int→Int→Bool→Option (ByteArray)
  | 0,_,_,_,_=>none
  | k+1,x0,x3,x4,x26=>if x26=true then (if 0≤x3 then (if x3<(x0.size:Int) then (if (bt x0 x3)=34 then (gS.l1 k x0 (wrap64 (x3+1)) x4 (wrap64 (x3+1))) else (if (bt x0 x3)=123 then (gS.j6 k x0 x3 x4 (bt x0 x3) ((bt x0 x3) == 123)) else (if (bt x0 x3)=91 then (gS.j6 k x0 x3 x4 (bt x0 x3) ((bt x0 x3) == 91)) else (gS.j6 k x0 x3 x4 (bt x0 x3) ((bt x0 x3) == 40))))) else (none)) else (none)) else (gS.l0 k x0 (wrap64 (x3+1)) x4)
def gS.j5:Nat→ByteArray→Int→Int→Option (ByteArray)
  | 0,_,_,_=>none
  | k+1,x0,x3,x4=>if x4=0 then (if x3 ≥ (x0.size:Int) then (some x0) else (if 0≤(wrap64 (x3+1)) then (if (wrap64 (x3+1))≤(x0.size:Int) then (some (x0.extract 0 ((wrap64 (x3+1)):Int).toNat)) else (none)) else (none))) else (gS.l0 k x0 (wrap64 (x3+1)) x4)
def gS.l1:Nat→ByteArray→Int→Int→Int→Option (ByteArray)
  | 0,_,_,_,_=>none
  | k+1,x0,x3,x4,x5=>if x3<(x0.size:Int) then (if 0≤x3 then (if (bt x0 x3)>92 then (gS.l1 k x0 (wrap64 (x3+1)) x4 x5) else (if (bt x0 x3)=34 then (if 0≤(wrap64 (x3 - 1)) then (if (wrap64 (x3 - 1))<(x0.size:Int) then (if (bt x0 (wrap64 (x3 - 1)))=92 then (gS.l2 k x0 x3 x4 x5 0 (wrap64 (x3 - 2))) else (gS.j5 k x0 x3 x4)) else (none)) else (none)) else (gS.l1 k x0 (wrap64 (x3+1)) x4 x5))) else (none)) else (gS.j5 k x0 x3 x4)
def gS.l2:Nat→ByteArray→Int→Int→Int→Int→Int→Option (ByteArray)
  | 0,_,_,_,_,_,_=>none
  | k+1,x0,x3,x4,x5,x6,x7=>if x7>(wrap64 (x5 - 1)) then (if 0≤x7 then (if x7<(x0.size:Int) then (if (bt x0 x7)=92 then (gS.l2 k x0 x3 x4 x5 (wrap64 (x6+1)) (wrap64 (x7 - 1))) else (if (Int.tmod x6 2)=0 then (gS.l1 k x0 (wrap64 (x3+1)) x4 x5) else (gS.j5 k x0 x3 x4))) else (none)) else (none)) else (if (Int.tmod x6 2)=0 then (gS.l1 k x0 (wrap64 (x3+1)) x4 x5) else (gS.j5 k x0 x3 x4))
def gS.j6:Nat→ByteArray→Int→Int→Int→Bool→Option (ByteArray)
  | 0,_,_,_,_,_=>none
  | k+1,x0,x3,x4,x29,x82=>if x82=true then (gS.l0 k x0 (wrap64 (x3+1)) (wrap64 (x4+1))) else (if x29=125 then (gS.j7 k x0 x3 x4 (x29 == 125)) else (if x29=93 then (gS.j7 k x0 x3 x4 (x29 == 93)) else (gS.j7 k x0 x3 x4 (x29 == 41))))
def gS.j7:Nat→ByteArray→Int→Int→Bool→Option (ByteArray)
  | 0,_,_,_,_=>none
  | k+1,x0,x3,x4,x88=>if x88=true then (if (wrap64 (x4 - 1))=0 then (if 0≤(wrap64 (x3+1)) then (if (wrap64 (x3+1))≤(x0.size:Int) then (some (x0.extract 0 ((wrap64 (x3+1)):Int).toNat)) else (none)) else (none)) else (gS.l0 k x0 (wrap64 (x3+1)) (wrap64 (x4 - 1)))) else (gS.l0 k x0 (wrap64 (x3+1)) x4)
end
def gS.f (k:Nat) (a0:ByteArray):Option (ByteArray):=if 0<(a0.size:Int) then (if (bt a0 0)=34 then (gS.j0 k a0 0 0) else (gS.j0 k a0 1 1)) else (none)
set_option maxHeartbeats 8000000 in
set_option maxRecDepth 100000 in
theorem gS.calls (k:Nat) (a0:ByteArray) (r:ByteArray) (w:World) (h:gS.f k a0=some r) :
 Calls Tryz.prog 107 #[.string a0] w fun e w'=>e = .returned (.string r)∧Drawn0 w w':=by
 have H:(if 0<(a0.size:Int) then (if (bt a0 0)=34 then (gS.j0 k a0 0 0) else (gS.j0 k a0 1 1)) else (none))=some r:=h
 clear h
 by_cases c2:0<(a0.size:Int)
 rotate_left
 ·
  rw [if_neg c2] at H
  exact absurd H (by simp)
 rw [if_pos c2] at H
 have c2b0:decide (0<(a0.size:Int))=true:=decide_eq_true c2
 have c2b1:decide (0<a0.size)=true:=decide_eq_true (by omega)
 clear c2
 have HC4:=Ak H
 clear H
 have p3:0≤(0:Int):=(by omega)
 have q3:0<a0.size:=(by have:(0:Int)<(a0.size:Int):=of_decide_eq_true oA;omega)
 have hx3 : ∀ h:0<a0.size,((a0[0]'h).toNat:Int)=bt a0 0:=bt_at a0 0
 clear p3
 have qi3:(0<(a0.size:Int))=True:=eq_true (of_decide_eq_true oA)
 replace q3:=eq_true q3
 go_enter Tryz.func107,Tryz.ntmps107
 go_upto_if 10 with (fail)
 go_cut [3,4] (fun v3 v4 wc => ∃ (kq:Nat) (x3_3:Int) (x4_3:Int),v3 = .int .i64 x3_3∧v4 = .int .i64 x4_3∧Aside0 (gS.j0 kq a0 x3_3 x4_3=some r)∧Aside0 (kq≤k)∧Drawn0 w wc)
 case first =>
  have H:=HC4.out
  clear HC4
  by_cases c5:(bt a0 0)=34
  ·
   rw [if_pos c5] at H
   have c5b0:((bt a0 0) == 34)=true:=beq_iff_eq.mpr c5
   have c5b1:((bt a0 0) != 34)=false:=bne_eq_false_iff_eq.mpr c5
   clear c5
   (first|rw [c5b0]|(simp only [i64_w,i32_w];rw [c5b0])|skip)
   have H':=Ak H
   clear H
   go_wp2
   go_meet
   case rel=>exact ⟨_,(0),(0),oS,oS,H',⟨by first|omega|exact Nat.le_refl _⟩,by repeat (first|exact Drawn0.refl _|apply Drawn0.step)⟩
  rw [if_neg c5] at H
  have c5b0:((bt a0 0) == 34)=false:=beq_eq_false_iff_ne.mpr c5
  have c5b1:((bt a0 0) != 34)=true:=bne_iff_ne.mpr c5
  (first|rw [c5b0]|(simp only [i64_w,i32_w];rw [c5b0])|skip)
  have H':=Ak H
  clear H
  go_wp2
  go_meet
  case rel=>exact ⟨_,(1),(1),oS,oS,H',⟨by first|omega|exact Nat.le_refl _⟩,by repeat (first|exact Drawn0.refl _|apply Drawn0.step)⟩
 case rest =>
 clear HC4
 try clear c1
 try clear c2
 try clear c2b0
 try clear c2b1
 try clear p2
 try clear p3
 try clear q3
 try clear hx3
 try clear qi3
 try clear c5
 try clear c5b0
 try clear c5b1
 try clear p3
 try clear q3
 obtain ⟨kq,x3_3,x4_3,rfl,rfl,HA,HJ3,⟨mc3,rfl⟩⟩:=hcut
 cases kq with
 | zero=>exact absurd HA.out (by simp [gS.j0])
 | succ kj3 =>
  have H:=HA.out
  clear HA
  simp only [gS.j0] at H
  have H':=Ak H
  clear H
  go_wp2
  (try simp only [Act.put,List.setIfInBounds_toArray,List.set_cons_zero,List.set_cons_succ])
  go_loopg [3,4] kj3 (fun kq v3 v4 w' => ∃ (x3_2:Int) (x4_2:Int),v3 = .int .i64 x3_2∧v4 = .int .i64 x4_2∧Aside0 (gS.l0 kq a0 x3_2 x4_2=some r)∧Aside0 (kq≤kj3)∧Drawn0 w w')
  case atStart=>exact ⟨(x3_3),(x4_3),oS,oS,H',⟨Nat.le_refl _⟩,by repeat (first|exact Drawn0.refl _|apply Drawn0.step)⟩
  case round =>
  clear H'
  try clear c1
  try clear c2
  try clear c2b0
  try clear c2b1
  try clear p2
  try clear c3
  try clear p3
  try clear q3
  try clear hx3
  try clear qi3
  try clear c5
  try clear c5b0
  try clear c5b1
  try clear p2
  try clear p3
  try clear q3
  obtain ⟨x3_2,x4_2,rfl,rfl,HA,HK2,⟨m2,rfl⟩⟩:=hrel
  cases gk with
  | zero=>exact absurd HA.out (by simp [gS.l0])
  | succ k2 =>
   have H:=HA.out
   clear HA
   simp only [gS.l0] at H
   by_cases c6:x3_2<(a0.size:Int)
   rotate_left
   ·
    rw [if_neg c6] at H
    have c6b0:decide (x3_2<(a0.size:Int))=false:=decide_eq_false c6
    clear c6
    obtain rfl:=Option.some.inj H
    go_wp2
    go_ret
    exact ⟨oS,by repeat (first|exact Drawn0.refl _|apply Drawn0.step)⟩
   rw [if_pos c6] at H
   have c6b0:decide (x3_2<(a0.size:Int))=true:=decide_eq_true c6
   clear c6
   have HC7:=Ak H
   clear H
   go_upto_region 6 with (fail)
   go_cut [26] (fun v26 wc => ∃ (kq:Nat) (x26_6:Bool),v26 = .bool x26_6∧Aside0 (gS.j2 kq a0 x3_2 x4_2 x26_6=some r)∧Aside0 (kq≤k2)∧Drawn0 w wc)
   case first =>
    have H:=HC7.out
    clear HC7
    by_cases c8:0≤x3_2
    rotate_left
    ·
     rw [if_neg c8] at H
     exact absurd H (by simp)
    rw [if_pos c8] at H
    have c8b0:decide (0≤x3_2)=true:=decide_eq_true c8
    clear c8
    (first|rw [c8b0]|(simp only [i64_w,i32_w];rw [c8b0])|skip)
    by_cases c10:(bt a0 x3_2) ≥ 34
    ·
     rw [if_pos c10] at H
     have c10b0:decide (34≤(bt a0 x3_2))=true:=decide_eq_true c10
     clear c10
     have H':=Ak H
     clear H
     have p9:0≤(x3_2:Int):=of_decide_eq_true oA
     have q9:x3_2<(a0.size:Int):=of_decide_eq_true oA
     have hx9:=bt_at a0 x3_2
     replace p9:=eq_true p9
     replace q9:=eq_true q9
     have p11:0≤(x3_2:Int):=of_decide_eq_true oA
     have q11:x3_2<(a0.size:Int):=of_decide_eq_true oA
     have hx11:=bt_at a0 x3_2
     replace p11:=eq_true p11
     replace q11:=eq_true q11
     go_wp2
     go_meet
     case rel=>exact ⟨_,(decide ((bt a0 x3_2)≤125)),oS,H',⟨by have:=HJ3.out;have:=HK2.out;first|omega|exact Nat.le_refl _⟩,by repeat (first|exact Drawn0.refl _|apply Drawn0.step)⟩
    rw [if_neg c10] at H
    have c10b0:decide (34≤(bt a0 x3_2))=false:=decide_eq_false c10
    clear c10
    have H':=Ak H
    clear H
    have p9:0≤(x3_2:Int):=of_decide_eq_true oA
    have q9:x3_2<(a0.size:Int):=of_decide_eq_true oA
    have hx9:=bt_at a0 x3_2
    replace p9:=eq_true p9
    replace q9:=eq_true q9
    go_wp2
    go_meet
    case rel=>exact ⟨_,(false),oS,H',⟨by have:=HJ3.out;have:=HK2.out;first|omega|exact Nat.le_refl _⟩,by repeat (first|exact Drawn0.refl _|apply Drawn0.step)⟩
   case rest =>
   clear HC7
   try clear c1
   try clear p1
   try clear q1
   try clear hx1
   try clear c2
   try clear c2b0
   try clear c2b1
   try clear p2
   try clear c3
   try clear p3
   try clear q3
   try clear hx3
   try clear qi3
   try clear c5
   try clear c5b0
   try clear c5b1
   try clear c6
   try clear c6b0
   try clear c8
   try clear c8b0
   try clear p9
   try clear q9
   try clear hx9
   try clear c10
   try clear c10b0
   try clear p11
   try clear q11
   try clear hx11
   try clear p11
   try clear p2
   try clear p3
   try clear p9
   try clear q11
   try clear q3
   try clear q9
   obtain ⟨kq,x26_6,rfl,HA,HJ6,⟨mc6,rfl⟩⟩:=hcut
   cases kq with
   | zero=>exact absurd HA.out (by simp [gS.j2])
   | succ kj6 =>
    have H:=HA.out
    clear HA
    simp only [gS.j2] at H
    by_cases c12:x26_6=true
    rotate_left
    ·
     replace c12:=Bool.eq_false_iff.mpr c12
     subst c12
     have H1:(gS.l0 kj6 a0 (wrap64 (x3_2+1)) x4_2)=some r:=by rw [if_neg (show ¬ (false=true) by decide)] at H;exact H
     clear H
     have H:=H1
     clear H1
     have H':=Ak H
     clear H
     go_wp2
     go_roundg kj6
     case measure=>have:=HJ3.out;have:=HK2.out;have:=HJ6.out;omega
     case rel=>exact ⟨(wrap64 (x3_2+1)),(x4_2),oS,oS,H',⟨by have:=HJ3.out;have:=HK2.out;have:=HJ6.out;omega⟩,by repeat (first|exact Drawn0.refl _|apply Drawn0.step)⟩
    subst c12
    have H1:(if 0≤x3_2 then (if x3_2<(a0.size:Int) then (if (bt a0 x3_2)=34 then (gS.l1 kj6 a0 (wrap64 (x3_2+1)) x4_2 (wrap64 (x3_2+1))) else (if (bt a0 x3_2)=123 then (gS.j6 kj6 a0 x3_2 x4_2 (bt a0 x3_2) ((bt a0 x3_2) == 123)) else (if (bt a0 x3_2)=91 then (gS.j6 kj6 a0 x3_2 x4_2 (bt a0 x3_2) ((bt a0 x3_2) == 91)) else (gS.j6 kj6 a0 x3_2 x4_2 (bt a0 x3_2) ((bt a0 x3_2) == 40))))) else (none)) else (none))=some r:=by rw [if_pos rfl] at H;exact H
    clear H
    have H:=H1
    clear H1
    by_cases c13:0≤x3_2
    ·
     rw [if_pos c13] at H
     have c13b0:decide (0≤x3_2)=true:=decide_eq_true c13
     clear c13
     by_cases c14:x3_2<(a0.size:Int)
     rotate_left
     ·
      rw [if_neg c14] at H
      exact absurd H (by simp)
     rw [if_pos c14] at H
     have c14b0:decide (x3_2<(a0.size:Int))=true:=decide_eq_true c14
     clear c14
     by_cases c16:(bt a0 x3_2)=34
     ·
      rw [if_pos c16] at H
      have c16b0:((bt a0 x3_2) == 34)=true:=beq_iff_eq.mpr c16
      have c16b1:((bt a0 x3_2) != 34)=false:=bne_eq_false_iff_eq.mpr c16
      clear c16
      have HC17:=Ak H
      clear H
      have p15:0≤(x3_2:Int):=of_decide_eq_true oA
      have q15:x3_2<(a0.size:Int):=of_decide_eq_true oA
      have hx15:=bt_at a0 x3_2
      replace p15:=eq_true p15
      replace q15:=eq_true q15
      go_upto_block 3 with (fail)
      go_cut [3] (fun v3 wc => ∃ (kq:Nat) (x3_16:Int),v3 = .int .i64 x3_16∧Aside0 (gS.j5 kq a0 x3_16 x4_2=some r)∧Aside0 (kq≤kj6)∧Drawn0 w wc)
      case first =>
       have H:=HC17.out
       clear HC17
       have H':=Ak H
       clear H
       go_wp2
       (try simp only [Act.put,List.setIfInBounds_toArray,List.set_cons_zero,List.set_cons_succ])
       go_loopg [3] kj6 (fun kq v3 w' => ∃ (x3_4:Int),v3 = .int .i64 x3_4∧Aside0 (gS.l1 kq a0 x3_4 x4_2 (wrap64 (x3_2+1))=some r)∧Aside0 (kq≤kj6)∧Drawn0 w w')
       case atStart=>exact ⟨(wrap64 (x3_2+1)),oS,H',⟨Nat.le_refl _⟩,by repeat (first|exact Drawn0.refl _|apply Drawn0.step)⟩
       case round =>
       clear H'
       try clear c1
       try clear p1
       try clear q1
       try clear hx1
       try clear c2
       try clear c2b0
       try clear c2b1
       try clear p2
       try clear c3
       try clear p3
       try clear q3
       try clear hx3
       try clear qi3
       try clear c5
       try clear c5b0
       try clear c5b1
       try clear c6
       try clear c6b0
       try clear p6
       try clear c8
       try clear c8b0
       try clear p9
       try clear q9
       try clear hx9
       try clear c10
       try clear c10b0
       try clear p11
       try clear q11
       try clear hx11
       try clear c12
       try clear c13
       try clear c13b0
       try clear c14
       try clear c14b0
       try clear p15
       try clear q15
       try clear hx15
       try clear c16
       try clear c16b0
       try clear c16b1
       try clear p1
       try clear p11
       try clear p15
       try clear p2
       try clear p3
       try clear p9
       try clear q1
       try clear q11
       try clear q15
       try clear q3
       try clear q9
       obtain ⟨x3_4,rfl,HA,HK4,⟨m4,rfl⟩⟩:=hrel
       cases gk with
       | zero=>exact absurd HA.out (by simp [gS.l1])
       | succ k4 =>
        have H:=HA.out
        clear HA
        simp only [gS.l1] at H
        by_cases c18:x3_4<(a0.size:Int)
        rotate_left
        ·
         rw [if_neg c18] at H
         have c18b0:decide (x3_4<(a0.size:Int))=false:=decide_eq_false c18
         clear c18
         (first|rw [c18b0]|(simp only [i64_w,i32_w];rw [c18b0])|skip)
         have H':=Ak H
         clear H
         go_wp2
         go_meet
         case rel=>exact ⟨_,(x3_4),oS,H',⟨by have:=HJ3.out;have:=HK2.out;have:=HJ6.out;have:=HK4.out;first|omega|exact Nat.le_refl _⟩,by repeat (first|exact Drawn0.refl _|apply Drawn0.step)⟩
        rw [if_pos c18] at H
        have c18b0:decide (x3_4<(a0.size:Int))=true:=decide_eq_true c18
        clear c18
        (first|rw [c18b0]|(simp only [i64_w,i32_w];rw [c18b0])|skip)
        by_cases c19:0≤x3_4
        ·
         rw [if_pos c19] at H
         have c19b0:decide (0≤x3_4)=true:=decide_eq_true c19
         clear c19
         by_cases c21:(bt a0 x3_4)>92
         ·
          rw [if_pos c21] at H
          have c21b0:decide (92<(bt a0 x3_4))=true:=decide_eq_true c21
          clear c21
          have H':=Ak H
          clear H
          have p20:0≤(x3_4:Int):=of_decide_eq_true oA
          have q20:x3_4<(a0.size:Int):=of_decide_eq_true oA
          have hx20:=bt_at a0 x3_4
          replace p20:=eq_true p20
          replace q20:=eq_true q20
          go_wp2
          go_roundg k4
          case measure=>have:=HJ3.out;have:=HK2.out;have:=HJ6.out;have:=HK4.out;omega
          case rel=>exact ⟨(wrap64 (x3_4+1)),oS,H',⟨by have:=HJ3.out;have:=HK2.out;have:=HJ6.out;have:=HK4.out;omega⟩,by repeat (first|exact Drawn0.refl _|apply Drawn0.step)⟩
         rw [if_neg c21] at H
         have c21b0:decide (92<(bt a0 x3_4))=false:=decide_eq_false c21
         clear c21
         by_cases c23:(bt a0 x3_4)=34
         ·
          rw [if_pos c23] at H
          have c23b0:((bt a0 x3_4) == 34)=true:=beq_iff_eq.mpr c23
          have c23b1:((bt a0 x3_4) != 34)=false:=bne_eq_false_iff_eq.mpr c23
          clear c23
          obtain ⟨ji24,hji24⟩ : ∃ j_:Int,(wrap64 (x3_4 - 1))=j_:=⟨_,rfl⟩
          replace H:(if 0≤(ji24) then (if (ji24)<(a0.size:Int) then (if (bt a0 (ji24))=92 then (gS.l2 k4 a0 x3_4 x4_2 (wrap64 (x3_2+1)) 0 (wrap64 (x3_4 - 2))) else (gS.j5 k4 a0 x3_4 x4_2)) else (none)) else (none))=some r:=by first|(rw [hji24] at H;exact H)|(simp only [hji24] at H ⊢; exact H)
          have hji24w:(IntKind.i64.wrap (x3_4 - 1))=ji24:=(i64_w _).trans hji24
          by_cases c25:0≤(ji24)
          rotate_left
          ·
           rw [if_neg c25] at H
           exact absurd H (by simp)
          rw [if_pos c25] at H
          have c25b0:decide (0≤(ji24))=true:=decide_eq_true c25
          clear c25
          by_cases c26:(ji24)<(a0.size:Int)
          ·
           rw [if_pos c26] at H
           have c26b0:decide ((ji24)<(a0.size:Int))=true:=decide_eq_true c26
           clear c26
           by_cases c28:(bt a0 (ji24))=92
           rotate_left
           ·
            rw [if_neg c28] at H
            have c28b0:((bt a0 (ji24)) == 92)=false:=beq_eq_false_iff_ne.mpr c28
            have c28b1:((bt a0 (ji24)) != 92)=true:=bne_iff_ne.mpr c28
            have H':=Ak H
            clear H
            have p20:0≤(x3_4:Int):=of_decide_eq_true oA
            have q20:x3_4<(a0.size:Int):=of_decide_eq_true oA
            have hx20:=bt_at a0 x3_4
            replace p20:=eq_true p20
            replace q20:=eq_true q20
            have p22:0≤(x3_4:Int):=of_decide_eq_true oA
            have q22:x3_4<(a0.size:Int):=of_decide_eq_true oA
            have hx22:=bt_at a0 x3_4
            replace p22:=eq_true p22
            replace q22:=eq_true q22
            have p27:0≤((ji24):Int):=of_decide_eq_true oA
            have q27:(ji24)<(a0.size:Int):=of_decide_eq_true oA
            have hx27:=bt_at a0 (ji24)
            replace p27:=eq_true p27
            replace q27:=eq_true q27
            go_wp2
            go_meet
            case rel=>exact ⟨_,(x3_4),oS,H',⟨by have:=HJ3.out;have:=HK2.out;have:=HJ6.out;have:=HK4.out;first|omega|exact Nat.le_refl _⟩,by repeat (first|exact Drawn0.refl _|apply Drawn0.step)⟩
           rw [if_pos c28] at H
           have c28b0:((bt a0 (ji24)) == 92)=true:=beq_iff_eq.mpr c28
           have c28b1:((bt a0 (ji24)) != 92)=false:=bne_eq_false_iff_eq.mpr c28
           clear c28
           have H':=Ak H
           clear H
           have p20:0≤(x3_4:Int):=of_decide_eq_true oA
           have q20:x3_4<(a0.size:Int):=of_decide_eq_true oA
           have hx20:=bt_at a0 x3_4
           replace p20:=eq_true p20
           replace q20:=eq_true q20
           have p22:0≤(x3_4:Int):=of_decide_eq_true oA
           have q22:x3_4<(a0.size:Int):=of_decide_eq_true oA
           have hx22:=bt_at a0 x3_4
           replace p22:=eq_true p22
           replace q22:=eq_true q22
           have p27:0≤((ji24):Int):=of_decide_eq_true oA
           have q27:(ji24)<(a0.size:Int):=of_decide_eq_true oA
           have hx27:=bt_at a0 (ji24)
           replace p27:=eq_true p27
           replace q27:=eq_true q27
           go_wp2
           (try simp only [Act.put,List.setIfInBounds_toArray,List.set_cons_zero,List.set_cons_succ])
           go_loopg [6,7] k4 (fun kq v6 v7 w' => ∃ (x6_5:Int) (x7_5:Int),v6 = .int .i64 x6_5∧v7 = .int .i64 x7_5∧Aside0 (gS.l2 kq a0 x3_4 x4_2 (wrap64 (x3_2+1)) x6_5 x7_5=some r)∧Aside0 (kq≤k4)∧Drawn0 w w')
           case atStart=>exact ⟨(0),(wrap64 (x3_4 - 2)),oS,oS,H',⟨Nat.le_refl _⟩,by repeat (first|exact Drawn0.refl _|apply Drawn0.step)⟩
           case round =>
           clear H'
           try clear c1
           try clear p1
           try clear q1
           try clear hx1
           try clear c2
           try clear c2b0
           try clear c2b1
           try clear p2
           try clear q2
           try clear hx2
           try clear c3
           try clear p3
           try clear q3
           try clear hx3
           try clear qi3
           try clear c5
           try clear c5b0
           try clear c5b1
           try clear c6
           try clear c6b0
           try clear p6
           try clear c8
           try clear c8b0
           try clear p9
           try clear q9
           try clear hx9
           try clear c10
           try clear c10b0
           try clear p11
           try clear q11
           try clear hx11
           try clear c12
           try clear c13
           try clear c13b0
           try clear c14
           try clear c14b0
           try clear p15
           try clear q15
           try clear hx15
           try clear c16
           try clear c16b0
           try clear c16b1
           try clear c18
           try clear c18b0
           try clear c19
           try clear c19b0
           try clear p20
           try clear q20
           try clear hx20
           try clear c21
           try clear c21b0
           try clear p22
           try clear q22
           try clear hx22
           try clear c23
           try clear c23b0
           try clear c23b1
           try clear c25
           try clear c25b0
           try clear c26
           try clear c26b0
           try clear p27
           try clear q27
           try clear hx27
           try clear c28
           try clear c28b0
           try clear c28b1
           try clear p1
           try clear p11
           try clear p15
           try clear p2
           try clear p20
           try clear p22
           try clear p27
           try clear p3
           try clear p6
           try clear p9
           try clear q1
           try clear q11
           try clear q15
           try clear q20
           try clear q22
           try clear q27
           try clear q3
           try clear q9
           obtain ⟨x6_5,x7_5,rfl,rfl,HA,HK5,⟨m5,rfl⟩⟩:=hrel
           cases gk with
           | zero=>exact absurd HA.out (by simp [gS.l2])
           | succ k5 =>
            have H:=HA.out
            clear HA
            simp only [gS.l2] at H
            by_cases c29:x7_5>(wrap64 ((wrap64 (x3_2+1)) - 1))
            rotate_left
            ·
             rw [if_neg c29] at H
             have c29b0:decide ((wrap64 ((wrap64 (x3_2+1)) - 1))<x7_5)=false:=decide_eq_false c29
             clear c29
             by_cases c35:(Int.tmod x6_5 2)=0
             ·
              rw [if_pos c35] at H
              have c35b0:((Int.tmod x6_5 2) == 0)=true:=beq_iff_eq.mpr c35
              have c35b1:((Int.tmod x6_5 2) != 0)=false:=bne_eq_false_iff_eq.mpr c35
              clear c35
              have H':=Ak H
              clear H
              go_wp2
              go_roundg k5
              case measure=>have:=HJ3.out;have:=HK2.out;have:=HJ6.out;have:=HK4.out;have:=HK5.out;omega
              case rel=>exact ⟨(wrap64 (x3_4+1)),oS,H',⟨by have:=HJ3.out;have:=HK2.out;have:=HJ6.out;have:=HK4.out;have:=HK5.out;omega⟩,by repeat (first|exact Drawn0.refl _|apply Drawn0.step)⟩
             rw [if_neg c35] at H
             have c35b0:((Int.tmod x6_5 2) == 0)=false:=beq_eq_false_iff_ne.mpr c35
             have c35b1:((Int.tmod x6_5 2) != 0)=true:=bne_iff_ne.mpr c35
             have H':=Ak H
             clear H
             go_wp2
             go_meet
             case rel=>exact ⟨_,(x3_4),oS,H',⟨by have:=HJ3.out;have:=HK2.out;have:=HJ6.out;have:=HK4.out;have:=HK5.out;first|omega|exact Nat.le_refl _⟩,by repeat (first|exact Drawn0.refl _|apply Drawn0.step)⟩
            rw [if_pos c29] at H
            have c29b0:decide ((wrap64 ((wrap64 (x3_2+1)) - 1))<x7_5)=true:=decide_eq_true c29
            clear c29
            by_cases c30:0≤x7_5
            ·
             rw [if_pos c30] at H
             have c30b0:decide (0≤x7_5)=true:=decide_eq_true c30
             clear c30
             by_cases c31:x7_5<(a0.size:Int)
             rotate_left
             ·
              rw [if_neg c31] at H
              exact absurd H (by simp)
             rw [if_pos c31] at H
             have c31b0:decide (x7_5<(a0.size:Int))=true:=decide_eq_true c31
             clear c31
             by_cases c33:(bt a0 x7_5)=92
             ·
              rw [if_pos c33] at H
              have c33b0:((bt a0 x7_5) == 92)=true:=beq_iff_eq.mpr c33
              have c33b1:((bt a0 x7_5) != 92)=false:=bne_eq_false_iff_eq.mpr c33
              clear c33
              have H':=Ak H
              clear H
              have p32:0≤(x7_5:Int):=of_decide_eq_true oA
              have q32:x7_5<(a0.size:Int):=of_decide_eq_true oA
              have hx32:=bt_at a0 x7_5
              replace p32:=eq_true p32
              replace q32:=eq_true q32
              go_wp2
              go_roundg k5
              case measure=>have:=HJ3.out;have:=HK2.out;have:=HJ6.out;have:=HK4.out;have:=HK5.out;omega
              case rel=>exact ⟨(wrap64 (x6_5+1)),(wrap64 (x7_5 - 1)),oS,oS,H',⟨by have:=HJ3.out;have:=HK2.out;have:=HJ6.out;have:=HK4.out;have:=HK5.out;omega⟩,by repeat (first|exact Drawn0.refl _|apply Drawn0.step)⟩
             rw [if_neg c33] at H
             have c33b0:((bt a0 x7_5) == 92)=false:=beq_eq_false_iff_ne.mpr c33
             have c33b1:((bt a0 x7_5) != 92)=true:=bne_iff_ne.mpr c33
             by_cases c34:(Int.tmod x6_5 2)=0
             ·
              rw [if_pos c34] at H
              have c34b0:((Int.tmod x6_5 2) == 0)=true:=beq_iff_eq.mpr c34
              have c34b1:((Int.tmod x6_5 2) != 0)=false:=bne_eq_false_iff_eq.mpr c34
              clear c34
              have H':=Ak H
              clear H
              have p32:0≤(x7_5:Int):=of_decide_eq_true oA
              have q32:x7_5<(a0.size:Int):=of_decide_eq_true oA
              have hx32:=bt_at a0 x7_5
              replace p32:=eq_true p32
              replace q32:=eq_true q32
              go_wp2
              go_roundg k5
              case measure=>have:=HJ3.out;have:=HK2.out;have:=HJ6.out;have:=HK4.out;have:=HK5.out;omega
              case rel=>exact ⟨(wrap64 (x3_4+1)),oS,H',⟨by have:=HJ3.out;have:=HK2.out;have:=HJ6.out;have:=HK4.out;have:=HK5.out;omega⟩,by repeat (first|exact Drawn0.refl _|apply Drawn0.step)⟩
             rw [if_neg c34] at H
             have c34b0:((Int.tmod x6_5 2) == 0)=false:=beq_eq_false_iff_ne.mpr c34
             have c34b1:((Int.tmod x6_5 2) != 0)=true:=bne_iff_ne.mpr c34
             have H':=Ak H
             clear H
             have p32:0≤(x7_5:Int):=of_decide_eq_true oA
             have q32:x7_5<(a0.size:Int):=of_decide_eq_true oA
             have hx32:=bt_at a0 x7_5
             replace p32:=eq_true p32
             replace q32:=eq_true q32
             go_wp2
             go_meet
             case rel=>exact ⟨_,(x3_4),oS,H',⟨by have:=HJ3.out;have:=HK2.out;have:=HJ6.out;have:=HK4.out;have:=HK5.out;first|omega|exact Nat.le_refl _⟩,by repeat (first|exact Drawn0.refl _|apply Drawn0.step)⟩
            rw [if_neg c30] at H
            exact absurd H (by simp)
          rw [if_neg c26] at H
          exact absurd H (by simp)
         rw [if_neg c23] at H
         have c23b0:((bt a0 x3_4) == 34)=false:=beq_eq_false_iff_ne.mpr c23
         have c23b1:((bt a0 x3_4) != 34)=true:=bne_iff_ne.mpr c23
         have H':=Ak H
         clear H
         have p20:0≤(x3_4:Int):=of_decide_eq_true oA
         have q20:x3_4<(a0.size:Int):=of_decide_eq_true oA
         have hx20:=bt_at a0 x3_4
         replace p20:=eq_true p20
         replace q20:=eq_true q20
         have p22:0≤(x3_4:Int):=of_decide_eq_true oA
         have q22:x3_4<(a0.size:Int):=of_decide_eq_true oA
         have hx22:=bt_at a0 x3_4
         replace p22:=eq_true p22
         replace q22:=eq_true q22
         go_wp2
         go_roundg k4
         case measure=>have:=HJ3.out;have:=HK2.out;have:=HJ6.out;have:=HK4.out;omega
         case rel=>exact ⟨(wrap64 (x3_4+1)),oS,H',⟨by have:=HJ3.out;have:=HK2.out;have:=HJ6.out;have:=HK4.out;omega⟩,by repeat (first|exact Drawn0.refl _|apply Drawn0.step)⟩
        rw [if_neg c19] at H
        exact absurd H (by simp)
      case rest =>
      clear HC17
      try clear c1
      try clear p1
      try clear q1
      try clear hx1
      try clear c2
      try clear c2b0
      try clear c2b1
      try clear p2
      try clear q2
      try clear hx2
      try clear c3
      try clear p3
      try clear q3
      try clear hx3
      try clear qi3
      try clear c5
      try clear c5b0
      try clear c5b1
      try clear c6
      try clear c6b0
      try clear p6
      try clear c8
      try clear c8b0
      try clear p9
      try clear q9
      try clear hx9
      try clear c10
      try clear c10b0
      try clear p11
      try clear q11
      try clear hx11
      try clear c12
      try clear c13
      try clear c13b0
      try clear c14
      try clear c14b0
      try clear p15
      try clear q15
      try clear hx15
      try clear c16
      try clear c16b0
      try clear c16b1
      try clear c18
      try clear c18b0
      try clear c19
      try clear c19b0
      try clear p20
      try clear q20
      try clear hx20
      try clear c21
      try clear c21b0
      try clear p22
      try clear q22
      try clear hx22
      try clear c23
      try clear c23b0
      try clear c23b1
      try clear c25
      try clear c25b0
      try clear c26
      try clear c26b0
      try clear p27
      try clear q27
      try clear hx27
      try clear c28
      try clear c28b0
      try clear c28b1
      try clear c29
      try clear c29b0
      try clear c30
      try clear c30b0
      try clear c31
      try clear c31b0
      try clear p32
      try clear q32
      try clear hx32
      try clear c33
      try clear c33b0
      try clear c33b1
      try clear c34
      try clear c34b0
      try clear c34b1
      try clear c35
      try clear c35b0
      try clear c35b1
      try clear p1
      try clear p11
      try clear p15
      try clear p2
      try clear p20
      try clear p22
      try clear p27
      try clear p3
      try clear p32
      try clear p6
      try clear p9
      try clear q1
      try clear q11
      try clear q15
      try clear q2
      try clear q20
      try clear q22
      try clear q27
      try clear q3
      try clear q32
      try clear q9
      obtain ⟨kq,x3_16,rfl,HA,HJ16,⟨mc16,rfl⟩⟩:=hcut
      cases kq with
      | zero=>exact absurd HA.out (by simp [gS.j5])
      | succ kj16 =>
       have H:=HA.out
       clear HA
       simp only [gS.j5] at H
       by_cases c36:x4_2=0
       rotate_left
       ·
        rw [if_neg c36] at H
        have c36b0:(x4_2 == 0)=false:=beq_eq_false_iff_ne.mpr c36
        have c36b1:(x4_2 != 0)=true:=bne_iff_ne.mpr c36
        have H':=Ak H
        clear H
        go_wp2
        go_roundg kj16
        case measure=>have:=HJ3.out;have:=HK2.out;have:=HJ6.out;have:=HJ16.out;omega
        case rel=>exact ⟨(wrap64 (x3_16+1)),(x4_2),oS,oS,H',⟨by have:=HJ3.out;have:=HK2.out;have:=HJ6.out;have:=HJ16.out;omega⟩,by repeat (first|exact Drawn0.refl _|apply Drawn0.step)⟩
       rw [if_pos c36] at H
       have c36b0:(x4_2 == 0)=true:=beq_iff_eq.mpr c36
       have c36b1:(x4_2 != 0)=false:=bne_eq_false_iff_eq.mpr c36
       clear c36
       by_cases c37:x3_16 ≥ (a0.size:Int)
       ·
        rw [if_pos c37] at H
        have c37b0:decide ((a0.size:Int)≤x3_16)=true:=decide_eq_true c37
        clear c37
        obtain rfl:=Option.some.inj H
        go_wp2
        go_ret
        exact ⟨oS,by repeat (first|exact Drawn0.refl _|apply Drawn0.step)⟩
       rw [if_neg c37] at H
       have c37b0:decide ((a0.size:Int)≤x3_16)=false:=decide_eq_false c37
       clear c37
       obtain ⟨ji38,hji38⟩ : ∃ j_:Int,(wrap64 (x3_16+1))=j_:=⟨_,rfl⟩
       replace H:(if 0≤(ji38) then (if (ji38)≤(a0.size:Int) then (some (a0.extract 0 ((ji38):Int).toNat)) else (none)) else (none))=some r:=by first|(rw [hji38] at H;exact H)|(simp only [hji38] at H ⊢; exact H)
       have hji38w:(IntKind.i64.wrap (x3_16+1))=ji38:=(i64_w _).trans hji38
       by_cases c39:0≤(ji38)
       ·
        rw [if_pos c39] at H
        have c39b0:=eq_true c39
        have c39b1:decide (0≤(ji38))=true:=decide_eq_true c39
        clear c39
        by_cases c40:(ji38)≤(a0.size:Int)
        rotate_left
        ·
         rw [if_neg c40] at H
         exact absurd H (by simp)
        rw [if_pos c40] at H
        have c40b0:=eq_true c40
        have c40b1:decide ((ji38)≤(a0.size:Int))=true:=decide_eq_true c40
        clear c40
        obtain rfl:=Option.some.inj H
        go_wp2
        go_ret
        exact ⟨by first|rfl|(simp;done)|(simp only [← hji38] <;> (first|rfl|simp))|(simp [*];done),by repeat (first|exact Drawn0.refl _|apply Drawn0.step)⟩
       rw [if_neg c39] at H
       exact absurd H (by simp)
     rw [if_neg c16] at H
     have c16b0:((bt a0 x3_2) == 34)=false:=beq_eq_false_iff_ne.mpr c16
     have c16b1:((bt a0 x3_2) != 34)=true:=bne_iff_ne.mpr c16
     have HC41:=Ak H
     clear H
     have p15:0≤(x3_2:Int):=of_decide_eq_true oA
     have q15:x3_2<(a0.size:Int):=of_decide_eq_true oA
     have hx15:=bt_at a0 x3_2
     replace p15:=eq_true p15
     replace q15:=eq_true q15
     go_upto_if 82 with (fail)
     go_cut [82] (fun v82 wc => ∃ (kq:Nat) (x82_40:Bool),v82 = .bool x82_40∧Aside0 (gS.j6 kq a0 x3_2 x4_2 (bt a0 x3_2) x82_40=some r)∧Aside0 (kq≤kj6)∧Drawn0 w wc)
     case first =>
      have H:=HC41.out
      clear HC41
      by_cases c42:(bt a0 x3_2)=123
      ·
       rw [if_pos c42] at H
       have c42b0:((bt a0 x3_2) == 123)=true:=beq_iff_eq.mpr c42
       have c42b1:((bt a0 x3_2) != 123)=false:=bne_eq_false_iff_eq.mpr c42
       clear c42
       (first|rw [c42b0]|(simp only [i64_w,i32_w];rw [c42b0])|skip)
       have H':=Ak H
       clear H
       go_wp2
       go_meet
       case rel=>exact ⟨_,(((bt a0 x3_2) == 123)),oS,H',⟨by have:=HJ3.out;have:=HK2.out;have:=HJ6.out;first|omega|exact Nat.le_refl _⟩,by repeat (first|exact Drawn0.refl _|apply Drawn0.step)⟩
      rw [if_neg c42] at H
      have c42b0:((bt a0 x3_2) == 123)=false:=beq_eq_false_iff_ne.mpr c42
      have c42b1:((bt a0 x3_2) != 123)=true:=bne_iff_ne.mpr c42
      (first|rw [c42b0]|(simp only [i64_w,i32_w];rw [c42b0])|skip)
      by_cases c43:(bt a0 x3_2)=91
      ·
       rw [if_pos c43] at H
       have c43b0:((bt a0 x3_2) == 91)=true:=beq_iff_eq.mpr c43
       have c43b1:((bt a0 x3_2) != 91)=false:=bne_eq_false_iff_eq.mpr c43
       clear c43
       have H':=Ak H
       clear H
       go_wp2
       go_meet
       case rel=>exact ⟨_,(((bt a0 x3_2) == 91)),oS,H',⟨by have:=HJ3.out;have:=HK2.out;have:=HJ6.out;first|omega|exact Nat.le_refl _⟩,by repeat (first|exact Drawn0.refl _|apply Drawn0.step)⟩
      rw [if_neg c43] at H
      have c43b0:((bt a0 x3_2) == 91)=false:=beq_eq_false_iff_ne.mpr c43
      have c43b1:((bt a0 x3_2) != 91)=true:=bne_iff_ne.mpr c43
      have H':=Ak H
      clear H
      go_wp2
      go_meet
      case rel=>exact ⟨_,(((bt a0 x3_2) == 40)),oS,H',⟨by have:=HJ3.out;have:=HK2.out;have:=HJ6.out;first|omega|exact Nat.le_refl _⟩,by repeat (first|exact Drawn0.refl _|apply Drawn0.step)⟩
     case rest =>
     clear HC41
     try clear c1
     try clear p1
     try clear q1
     try clear hx1
     try clear c2
     try clear c2b0
     try clear c2b1
     try clear p2
     try clear q2
     try clear hx2
     try clear c3
     try clear p3
     try clear q3
     try clear hx3
     try clear qi3
     try clear c4
     try clear c5
     try clear c5b0
     try clear c5b1
     try clear c6
     try clear c6b0
     try clear p6
     try clear c8
     try clear c8b0
     try clear p9
     try clear q9
     try clear hx9
     try clear c10
     try clear c10b0
     try clear p11
     try clear q11
     try clear hx11
     try clear c12
     try clear c13
     try clear c13b0
     try clear c14
     try clear c14b0
     try clear p15
     try clear q15
     try clear hx15
     try clear c16
     try clear c16b0
     try clear c16b1
     try clear c18
     try clear c18b0
     try clear c19
     try clear c19b0
     try clear p20
     try clear q20
     try clear hx20
     try clear c21
     try clear c21b0
     try clear p22
     try clear q22
     try clear hx22
     try clear c23
     try clear c23b0
     try clear c23b1
     try clear c25
     try clear c25b0
     try clear c26
     try clear c26b0
     try clear p27
     try clear q27
     try clear hx27
     try clear c28
     try clear c28b0
     try clear c28b1
     try clear c29
     try clear c29b0
     try clear c30
     try clear c30b0
     try clear c31
     try clear c31b0
     try clear p32
     try clear q32
     try clear hx32
     try clear c33
     try clear c33b0
     try clear c33b1
     try clear c34
     try clear c34b0
     try clear c34b1
     try clear c35
     try clear c35b0
     try clear c35b1
     try clear c36
     try clear c36b0
     try clear c36b1
     try clear c37
     try clear c37b0
     try clear c39
     try clear c39b0
     try clear c39b1
     try clear c40
     try clear c40b0
     try clear c40b1
     try clear c42
     try clear c42b0
     try clear c42b1
     try clear c43
     try clear c43b0
     try clear c43b1
     try clear p1
     try clear p11
     try clear p15
     try clear p2
     try clear p20
     try clear p22
     try clear p27
     try clear p3
     try clear p32
     try clear p6
     try clear p9
     try clear q1
     try clear q11
     try clear q15
     try clear q2
     try clear q20
     try clear q22
     try clear q27
     try clear q3
     try clear q32
     try clear q9
     obtain ⟨kq,x82_40,rfl,HA,HJ40,⟨mc40,rfl⟩⟩:=hcut
     cases kq with
     | zero=>exact absurd HA.out (by simp [gS.j6])
     | succ kj40 =>
      have H:=HA.out
      clear HA
      simp only [gS.j6] at H
      by_cases c44:x82_40=true
      ·
       subst c44
       have H1:(gS.l0 kj40 a0 (wrap64 (x3_2+1)) (wrap64 (x4_2+1)))=some r:=by rw [if_pos rfl] at H;exact H
       clear H
       have H:=H1
       clear H1
       have H':=Ak H
       clear H
       go_wp2
       go_roundg kj40
       case measure=>have:=HJ3.out;have:=HK2.out;have:=HJ6.out;have:=HJ40.out;omega
       case rel=>exact ⟨(wrap64 (x3_2+1)),(wrap64 (x4_2+1)),oS,oS,H',⟨by have:=HJ3.out;have:=HK2.out;have:=HJ6.out;have:=HJ40.out;omega⟩,by repeat (first|exact Drawn0.refl _|apply Drawn0.step)⟩
      replace c44:=Bool.eq_false_iff.mpr c44
      subst c44
      have H1:(if (bt a0 x3_2)=125 then (gS.j7 kj40 a0 x3_2 x4_2 ((bt a0 x3_2) == 125)) else (if (bt a0 x3_2)=93 then (gS.j7 kj40 a0 x3_2 x4_2 ((bt a0 x3_2) == 93)) else (gS.j7 kj40 a0 x3_2 x4_2 ((bt a0 x3_2) == 41))))=some r:=by rw [if_neg (show ¬ (false=true) by decide)] at H;exact H
      clear H
      have H:=H1
      clear H1
      have HC45:=Ak H
      clear H
      go_upto_if 88 with (fail)
      go_cut [88] (fun v88 wc => ∃ (kq:Nat) (x88_44:Bool),v88 = .bool x88_44∧Aside0 (gS.j7 kq a0 x3_2 x4_2 x88_44=some r)∧Aside0 (kq≤kj40)∧Drawn0 w wc)
      case first =>
       have H:=HC45.out
       clear HC45
       by_cases c46:(bt a0 x3_2)=125
       ·
        rw [if_pos c46] at H
        have c46b0:((bt a0 x3_2) == 125)=true:=beq_iff_eq.mpr c46
        have c46b1:((bt a0 x3_2) != 125)=false:=bne_eq_false_iff_eq.mpr c46
        clear c46
        (first|rw [c46b0]|(simp only [i64_w,i32_w];rw [c46b0])|skip)
        have H':=Ak H
        clear H
        go_wp2
        go_meet
        case rel=>exact ⟨_,(((bt a0 x3_2) == 125)),oS,H',⟨by have:=HJ3.out;have:=HK2.out;have:=HJ6.out;have:=HJ40.out;first|omega|exact Nat.le_refl _⟩,by repeat (first|exact Drawn0.refl _|apply Drawn0.step)⟩
       rw [if_neg c46] at H
       have c46b0:((bt a0 x3_2) == 125)=false:=beq_eq_false_iff_ne.mpr c46
       have c46b1:((bt a0 x3_2) != 125)=true:=bne_iff_ne.mpr c46
       (first|rw [c46b0]|(simp only [i64_w,i32_w];rw [c46b0])|skip)
       by_cases c47:(bt a0 x3_2)=93
       ·
        rw [if_pos c47] at H
        have c47b0:((bt a0 x3_2) == 93)=true:=beq_iff_eq.mpr c47
        have c47b1:((bt a0 x3_2) != 93)=false:=bne_eq_false_iff_eq.mpr c47
        clear c47
        have H':=Ak H
        clear H
        go_wp2
        go_meet
        case rel=>exact ⟨_,(((bt a0 x3_2) == 93)),oS,H',⟨by have:=HJ3.out;have:=HK2.out;have:=HJ6.out;have:=HJ40.out;first|omega|exact Nat.le_refl _⟩,by repeat (first|exact Drawn0.refl _|apply Drawn0.step)⟩
       rw [if_neg c47] at H
       have c47b0:((bt a0 x3_2) == 93)=false:=beq_eq_false_iff_ne.mpr c47
       have c47b1:((bt a0 x3_2) != 93)=true:=bne_iff_ne.mpr c47
       have H':=Ak H
       clear H
       go_wp2
       go_meet
       case rel=>exact ⟨_,(((bt a0 x3_2) == 41)),oS,H',⟨by have:=HJ3.out;have:=HK2.out;have:=HJ6.out;have:=HJ40.out;first|omega|exact Nat.le_refl _⟩,by repeat (first|exact Drawn0.refl _|apply Drawn0.step)⟩
      case rest =>
      clear HC45
      try clear c1
      try clear p1
      try clear q1
      try clear hx1
      try clear c2
      try clear c2b0
      try clear c2b1
      try clear p2
      try clear q2
      try clear hx2
      try clear c3
      try clear p3
      try clear q3
      try clear hx3
      try clear qi3
      try clear c4
      try clear c5
      try clear c5b0
      try clear c5b1
      try clear c6
      try clear c6b0
      try clear p6
      try clear c8
      try clear c8b0
      try clear p9
      try clear q9
      try clear hx9
      try clear c10
      try clear c10b0
      try clear p11
      try clear q11
      try clear hx11
      try clear c12
      try clear c13
      try clear c13b0
      try clear c14
      try clear c14b0
      try clear p15
      try clear q15
      try clear hx15
      try clear c16
      try clear c16b0
      try clear c16b1
      try clear c18
      try clear c18b0
      try clear c19
      try clear c19b0
      try clear p20
      try clear q20
      try clear hx20
      try clear c21
      try clear c21b0
      try clear p22
      try clear q22
      try clear hx22
      try clear c23
      try clear c23b0
      try clear c23b1
      try clear c25
      try clear c25b0
      try clear c26
      try clear c26b0
      try clear p27
      try clear q27
      try clear hx27
      try clear c28
      try clear c28b0
      try clear c28b1
      try clear c29
      try clear c29b0
      try clear c30
      try clear c30b0
      try clear c31
      try clear c31b0
      try clear p32
      try clear q32
      try clear hx32
      try clear c33
      try clear c33b0
      try clear c33b1
      try clear c34
      try clear c34b0
      try clear c34b1
      try clear c35
      try clear c35b0
      try clear c35b1
      try clear c36
      try clear c36b0
      try clear c36b1
      try clear c37
      try clear c37b0
      try clear c39
      try clear c39b0
      try clear c39b1
      try clear c40
      try clear c40b0
      try clear c40b1
      try clear c42
      try clear c42b0
      try clear c42b1
      try clear c43
      try clear c43b0
      try clear c43b1
      try clear c44
      try clear c46
      try clear c46b0
      try clear c46b1
      try clear c47
      try clear c47b0
      try clear c47b1
      try clear p1
      try clear p11
      try clear p15
      try clear p2
      try clear p20
      try clear p22
      try clear p27
      try clear p3
      try clear p32
      try clear p6
      try clear p9
      try clear q1
      try clear q11
      try clear q15
      try clear q2
      try clear q20
      try clear q22
      try clear q27
      try clear q3
      try clear q32
      try clear q9
      obtain ⟨kq,x88_44,rfl,HA,HJ44,⟨mc44,rfl⟩⟩:=hcut
      cases kq with
      | zero=>exact absurd HA.out (by simp [gS.j7])
      | succ kj44 =>
       have H:=HA.out
       clear HA
       simp only [gS.j7] at H
       by_cases c48:x88_44=true
       rotate_left
       ·
        replace c48:=Bool.eq_false_iff.mpr c48
        subst c48
        have H1:(gS.l0 kj44 a0 (wrap64 (x3_2+1)) x4_2)=some r:=by rw [if_neg (show ¬ (false=true) by decide)] at H;exact H
        clear H
        have H:=H1
        clear H1
        have H':=Ak H
        clear H
        go_wp2
        go_roundg kj44
        case measure=>have:=HJ3.out;have:=HK2.out;have:=HJ6.out;have:=HJ40.out;have:=HJ44.out;omega
        case rel=>exact ⟨(wrap64 (x3_2+1)),(x4_2),oS,oS,H',⟨by have:=HJ3.out;have:=HK2.out;have:=HJ6.out;have:=HJ40.out;have:=HJ44.out;omega⟩,by repeat (first|exact Drawn0.refl _|apply Drawn0.step)⟩
       subst c48
       have H1:(if (wrap64 (x4_2 - 1))=0 then (if 0≤(wrap64 (x3_2+1)) then (if (wrap64 (x3_2+1))≤(a0.size:Int) then (some (a0.extract 0 ((wrap64 (x3_2+1)):Int).toNat)) else (none)) else (none)) else (gS.l0 kj44 a0 (wrap64 (x3_2+1)) (wrap64 (x4_2 - 1))))=some r:=by rw [if_pos rfl] at H;exact H
       clear H
       have H:=H1
       clear H1
       by_cases c49:(wrap64 (x4_2 - 1))=0
       ·
        rw [if_pos c49] at H
        have c49b0:((wrap64 (x4_2 - 1)) == 0)=true:=beq_iff_eq.mpr c49
        have c49b1:((wrap64 (x4_2 - 1)) != 0)=false:=bne_eq_false_iff_eq.mpr c49
        clear c49
        obtain ⟨ji50,hji50⟩ : ∃ j_:Int,(wrap64 (x3_2+1))=j_:=⟨_,rfl⟩
        replace H:(if 0≤(ji50) then (if (ji50)≤(a0.size:Int) then (some (a0.extract 0 ((ji50):Int).toNat)) else (none)) else (none))=some r:=by first|(rw [hji50] at H;exact H)|(simp only [hji50] at H ⊢; exact H)
        have hji50w:(IntKind.i64.wrap (x3_2+1))=ji50:=(i64_w _).trans hji50
        by_cases c51:0≤(ji50)
        rotate_left
        ·
         rw [if_neg c51] at H
         exact absurd H (by simp)
        rw [if_pos c51] at H
        have c51b0:=eq_true c51
        have c51b1:decide (0≤(ji50))=true:=decide_eq_true c51
        clear c51
        by_cases c52:(ji50)≤(a0.size:Int)
        ·
         rw [if_pos c52] at H
         have c52b0:=eq_true c52
         have c52b1:decide ((ji50)≤(a0.size:Int))=true:=decide_eq_true c52
         clear c52
         obtain rfl:=Option.some.inj H
         go_wp2
         go_ret
         exact ⟨by first|rfl|(simp;done)|(simp only [← hji50] <;> (first|rfl|simp))|(simp [*];done),by repeat (first|exact Drawn0.refl _|apply Drawn0.step)⟩
        rw [if_neg c52] at H
        exact absurd H (by simp)
       rw [if_neg c49] at H
       have c49b0:((wrap64 (x4_2 - 1)) == 0)=false:=beq_eq_false_iff_ne.mpr c49
       have c49b1:((wrap64 (x4_2 - 1)) != 0)=true:=bne_iff_ne.mpr c49
       have H':=Ak H
       clear H
       go_wp2
       go_roundg kj44
       case measure=>have:=HJ3.out;have:=HK2.out;have:=HJ6.out;have:=HJ40.out;have:=HJ44.out;omega
       case rel=>exact ⟨(wrap64 (x3_2+1)),(wrap64 (x4_2 - 1)),oS,oS,H',⟨by have:=HJ3.out;have:=HK2.out;have:=HJ6.out;have:=HJ40.out;have:=HJ44.out;omega⟩,by repeat (first|exact Drawn0.refl _|apply Drawn0.step)⟩
    rw [if_neg c13] at H
    exact absurd H (by simp)
end Go.Proofs.YtnejkimpkaopoaaGreatDoor.Q

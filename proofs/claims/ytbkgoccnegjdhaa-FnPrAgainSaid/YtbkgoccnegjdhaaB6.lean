/- Functions of the program as Lean functions, each with a proof that the call comes to what it gives. Written by prx.py (wip/pr). -/
import Derived.Test.YtbkgoccnegjdhaaB0
namespace Go.Proofs.Ytbkgoccnegjdhaa.Q
open Go.RowKit Go.Proofs.YtbkgoccnegjdhaaW.PrintWords Go.Proofs.YtbkgoccnegjdhaaW.PrintLast Go.Proofs.YtbkgoccnegjdhaaW.PrintMore
attribute [local go_sem] max2_int min2_int max_two min_two max_three min_three max_four min_four   -- for this text's walks alone
set_option linter.unusedVariables false
set_option linter.unusedSimpArgs false
/-! ### pF: function 39 -/
def pF.f (l0:List Int):Option (Bool):=if 0<(l0.length:Int) then (if (rd l0 0)=105 then (some true) else (if (rd l0 0)=73 then (some true) else (if (rd l0 0)=43 then (some true) else (if (rd l0 0)=78 then (some true) else (if (rd l0 0)=110 then (if (l0.length:Int)>1 then (if 1<(l0.length:Int) then (some ((rd l0 1) != 117)) else (none)) else (some false)) else (some false)))))) else (none)
set_option maxHeartbeats 8000000 in
set_option maxRecDepth 100000 in
theorem pF.calls (A0:Option Addr) (c0:Nat) (l0:List Int) (r:Bool) (w:World) (hr0:Kd.C (Kd.int .u8) w A0 l0.length l0) (hc0:l0.length≤c0) (h:pF.f l0=some r) :
 Calls Try.prog 39 #[.slice A0 l0.length c0] w fun e w'=>e = .returned (.bool r)∧Drawn0 w w':=by
 have HR0:=Ak hr0
 have HC0:=Ak hc0
 clear hr0 hc0
 have H:(if 0<(l0.length:Int) then (if (rd l0 0)=105 then (some true) else (if (rd l0 0)=73 then (some true) else (if (rd l0 0)=43 then (some true) else (if (rd l0 0)=78 then (some true) else (if (rd l0 0)=110 then (if (l0.length:Int)>1 then (if 1<(l0.length:Int) then (some ((rd l0 1) != 117)) else (none)) else (some false)) else (some false)))))) else (none))=some r:=h
 clear h
 by_cases c2:0<(l0.length:Int)
 rotate_left
 ·
  rw [if_neg c2] at H
  exact absurd H (by simp)
 rw [if_pos c2] at H
 have c2b0:decide (0<(l0.length:Int))=true:=decide_eq_true c2
 have c2b1:decide (0<l0.length)=true:=decide_eq_true (by omega)
 clear c2
 by_cases c3:(rd l0 0)=105
 ·
  rw [if_pos c3] at H
  have c3b0:((rd l0 0) == 105)=true:=beq_iff_eq.mpr c3
  have c3b1:((rd l0 0) != 105)=false:=bne_eq_false_iff_eq.mpr c3
  clear c3
  obtain rfl:=Option.some.inj H
  have pz0:0≤(0:Int):=(by omega)
  have qz0:0<(l0.length:Int):=of_decide_eq_true oA
  obtain ⟨adz0,ez0,hxz0_0⟩:=Kd.at_int HR0.out 0 pz0 qz0
  cases ez0
  have qiz0:(0<l0.length)=True:=eq_true (by omega)
  (try rw [show ((0:Int)).toNat=0 from rfl] at hxz0_0)
  (try rw [Addr.add_zero'] at hxz0_0)
  replace pz0:=eq_true pz0
  replace qz0:=eq_true qz0
  go_enter Try.func39,Try.ntmps39
  go_wp2
  go_ret
  exact ⟨oS,by repeat (first|exact Drawn0.refl _|apply Drawn0.step)⟩
 rw [if_neg c3] at H
 have c3b0:((rd l0 0) == 105)=false:=beq_eq_false_iff_ne.mpr c3
 have c3b1:((rd l0 0) != 105)=true:=bne_iff_ne.mpr c3
 by_cases c4:(rd l0 0)=73
 ·
  rw [if_pos c4] at H
  have c4b0:((rd l0 0) == 73)=true:=beq_iff_eq.mpr c4
  have c4b1:((rd l0 0) != 73)=false:=bne_eq_false_iff_eq.mpr c4
  clear c4
  obtain rfl:=Option.some.inj H
  have pz0:0≤(0:Int):=(by omega)
  have qz0:0<(l0.length:Int):=of_decide_eq_true oA
  obtain ⟨adz0,ez0,hxz0_0⟩:=Kd.at_int HR0.out 0 pz0 qz0
  cases ez0
  have qiz0:(0<l0.length)=True:=eq_true (by omega)
  (try rw [show ((0:Int)).toNat=0 from rfl] at hxz0_0)
  (try rw [Addr.add_zero'] at hxz0_0)
  replace pz0:=eq_true pz0
  replace qz0:=eq_true qz0
  have pz1:0≤(0:Int):=(by omega)
  have qz1:0<(l0.length:Int):=of_decide_eq_true oA
  obtain ⟨adz1,ez1,hxz1_0⟩:=Kd.at_int HR0.out 0 pz1 qz1
  obtain rfl:adz0=adz1:=(by injection ez1)
  have qiz1:(0<l0.length)=True:=eq_true (by omega)
  (try rw [show ((0:Int)).toNat=0 from rfl] at hxz1_0)
  (try rw [Addr.add_zero'] at hxz1_0)
  replace pz1:=eq_true pz1
  replace qz1:=eq_true qz1
  go_enter Try.func39,Try.ntmps39
  go_wp2
  go_ret
  exact ⟨oS,by repeat (first|exact Drawn0.refl _|apply Drawn0.step)⟩
 rw [if_neg c4] at H
 have c4b0:((rd l0 0) == 73)=false:=beq_eq_false_iff_ne.mpr c4
 have c4b1:((rd l0 0) != 73)=true:=bne_iff_ne.mpr c4
 by_cases c5:(rd l0 0)=43
 ·
  rw [if_pos c5] at H
  have c5b0:((rd l0 0) == 43)=true:=beq_iff_eq.mpr c5
  have c5b1:((rd l0 0) != 43)=false:=bne_eq_false_iff_eq.mpr c5
  clear c5
  obtain rfl:=Option.some.inj H
  have pz0:0≤(0:Int):=(by omega)
  have qz0:0<(l0.length:Int):=of_decide_eq_true oA
  obtain ⟨adz0,ez0,hxz0_0⟩:=Kd.at_int HR0.out 0 pz0 qz0
  cases ez0
  have qiz0:(0<l0.length)=True:=eq_true (by omega)
  (try rw [show ((0:Int)).toNat=0 from rfl] at hxz0_0)
  (try rw [Addr.add_zero'] at hxz0_0)
  replace pz0:=eq_true pz0
  replace qz0:=eq_true qz0
  have pz1:0≤(0:Int):=(by omega)
  have qz1:0<(l0.length:Int):=of_decide_eq_true oA
  obtain ⟨adz1,ez1,hxz1_0⟩:=Kd.at_int HR0.out 0 pz1 qz1
  obtain rfl:adz0=adz1:=(by injection ez1)
  have qiz1:(0<l0.length)=True:=eq_true (by omega)
  (try rw [show ((0:Int)).toNat=0 from rfl] at hxz1_0)
  (try rw [Addr.add_zero'] at hxz1_0)
  replace pz1:=eq_true pz1
  replace qz1:=eq_true qz1
  have pz2:0≤(0:Int):=(by omega)
  have qz2:0<(l0.length:Int):=of_decide_eq_true oA
  obtain ⟨adz2,ez2,hxz2_0⟩:=Kd.at_int HR0.out 0 pz2 qz2
  obtain rfl:adz0=adz2:=(by injection ez2)
  have qiz2:(0<l0.length)=True:=eq_true (by omega)
  (try rw [show ((0:Int)).toNat=0 from rfl] at hxz2_0)
  (try rw [Addr.add_zero'] at hxz2_0)
  replace pz2:=eq_true pz2
  replace qz2:=eq_true qz2
  go_enter Try.func39,Try.ntmps39
  go_wp2
  go_ret
  exact ⟨oS,by repeat (first|exact Drawn0.refl _|apply Drawn0.step)⟩
 rw [if_neg c5] at H
 have c5b0:((rd l0 0) == 43)=false:=beq_eq_false_iff_ne.mpr c5
 have c5b1:((rd l0 0) != 43)=true:=bne_iff_ne.mpr c5
 by_cases c6:(rd l0 0)=78
 ·
  rw [if_pos c6] at H
  have c6b0:((rd l0 0) == 78)=true:=beq_iff_eq.mpr c6
  have c6b1:((rd l0 0) != 78)=false:=bne_eq_false_iff_eq.mpr c6
  clear c6
  obtain rfl:=Option.some.inj H
  have pz0:0≤(0:Int):=(by omega)
  have qz0:0<(l0.length:Int):=of_decide_eq_true oA
  obtain ⟨adz0,ez0,hxz0_0⟩:=Kd.at_int HR0.out 0 pz0 qz0
  cases ez0
  have qiz0:(0<l0.length)=True:=eq_true (by omega)
  (try rw [show ((0:Int)).toNat=0 from rfl] at hxz0_0)
  (try rw [Addr.add_zero'] at hxz0_0)
  replace pz0:=eq_true pz0
  replace qz0:=eq_true qz0
  have pz1:0≤(0:Int):=(by omega)
  have qz1:0<(l0.length:Int):=of_decide_eq_true oA
  obtain ⟨adz1,ez1,hxz1_0⟩:=Kd.at_int HR0.out 0 pz1 qz1
  obtain rfl:adz0=adz1:=(by injection ez1)
  have qiz1:(0<l0.length)=True:=eq_true (by omega)
  (try rw [show ((0:Int)).toNat=0 from rfl] at hxz1_0)
  (try rw [Addr.add_zero'] at hxz1_0)
  replace pz1:=eq_true pz1
  replace qz1:=eq_true qz1
  have pz2:0≤(0:Int):=(by omega)
  have qz2:0<(l0.length:Int):=of_decide_eq_true oA
  obtain ⟨adz2,ez2,hxz2_0⟩:=Kd.at_int HR0.out 0 pz2 qz2
  obtain rfl:adz0=adz2:=(by injection ez2)
  have qiz2:(0<l0.length)=True:=eq_true (by omega)
  (try rw [show ((0:Int)).toNat=0 from rfl] at hxz2_0)
  (try rw [Addr.add_zero'] at hxz2_0)
  replace pz2:=eq_true pz2
  replace qz2:=eq_true qz2
  have pz3:0≤(0:Int):=(by omega)
  have qz3:0<(l0.length:Int):=of_decide_eq_true oA
  obtain ⟨adz3,ez3,hxz3_0⟩:=Kd.at_int HR0.out 0 pz3 qz3
  obtain rfl:adz0=adz3:=(by injection ez3)
  have qiz3:(0<l0.length)=True:=eq_true (by omega)
  (try rw [show ((0:Int)).toNat=0 from rfl] at hxz3_0)
  (try rw [Addr.add_zero'] at hxz3_0)
  replace pz3:=eq_true pz3
  replace qz3:=eq_true qz3
  go_enter Try.func39,Try.ntmps39
  go_wp2
  go_ret
  exact ⟨oS,by repeat (first|exact Drawn0.refl _|apply Drawn0.step)⟩
 rw [if_neg c6] at H
 have c6b0:((rd l0 0) == 78)=false:=beq_eq_false_iff_ne.mpr c6
 have c6b1:((rd l0 0) != 78)=true:=bne_iff_ne.mpr c6
 by_cases c7:(rd l0 0)=110
 ·
  rw [if_pos c7] at H
  have c7b0:((rd l0 0) == 110)=true:=beq_iff_eq.mpr c7
  have c7b1:((rd l0 0) != 110)=false:=bne_eq_false_iff_eq.mpr c7
  clear c7
  by_cases c8:(l0.length:Int)>1
  rotate_left
  ·
   rw [if_neg c8] at H
   have c8b0:decide (1<(l0.length:Int))=false:=decide_eq_false c8
   have c8b1:decide (1<l0.length)=false:=decide_eq_false (by omega)
   clear c8
   obtain rfl:=Option.some.inj H
   have pz0:0≤(0:Int):=(by omega)
   have qz0:0<(l0.length:Int):=of_decide_eq_true oA
   obtain ⟨adz0,ez0,hxz0_0⟩:=Kd.at_int HR0.out 0 pz0 qz0
   cases ez0
   have qiz0:(0<l0.length)=True:=eq_true (by omega)
   (try rw [show ((0:Int)).toNat=0 from rfl] at hxz0_0)
   (try rw [Addr.add_zero'] at hxz0_0)
   replace pz0:=eq_true pz0
   replace qz0:=eq_true qz0
   have pz1:0≤(0:Int):=(by omega)
   have qz1:0<(l0.length:Int):=of_decide_eq_true oA
   obtain ⟨adz1,ez1,hxz1_0⟩:=Kd.at_int HR0.out 0 pz1 qz1
   obtain rfl:adz0=adz1:=(by injection ez1)
   have qiz1:(0<l0.length)=True:=eq_true (by omega)
   (try rw [show ((0:Int)).toNat=0 from rfl] at hxz1_0)
   (try rw [Addr.add_zero'] at hxz1_0)
   replace pz1:=eq_true pz1
   replace qz1:=eq_true qz1
   have pz2:0≤(0:Int):=(by omega)
   have qz2:0<(l0.length:Int):=of_decide_eq_true oA
   obtain ⟨adz2,ez2,hxz2_0⟩:=Kd.at_int HR0.out 0 pz2 qz2
   obtain rfl:adz0=adz2:=(by injection ez2)
   have qiz2:(0<l0.length)=True:=eq_true (by omega)
   (try rw [show ((0:Int)).toNat=0 from rfl] at hxz2_0)
   (try rw [Addr.add_zero'] at hxz2_0)
   replace pz2:=eq_true pz2
   replace qz2:=eq_true qz2
   have pz3:0≤(0:Int):=(by omega)
   have qz3:0<(l0.length:Int):=of_decide_eq_true oA
   obtain ⟨adz3,ez3,hxz3_0⟩:=Kd.at_int HR0.out 0 pz3 qz3
   obtain rfl:adz0=adz3:=(by injection ez3)
   have qiz3:(0<l0.length)=True:=eq_true (by omega)
   (try rw [show ((0:Int)).toNat=0 from rfl] at hxz3_0)
   (try rw [Addr.add_zero'] at hxz3_0)
   replace pz3:=eq_true pz3
   replace qz3:=eq_true qz3
   have pz4:0≤(0:Int):=(by omega)
   have qz4:0<(l0.length:Int):=of_decide_eq_true oA
   obtain ⟨adz4,ez4,hxz4_0⟩:=Kd.at_int HR0.out 0 pz4 qz4
   obtain rfl:adz0=adz4:=(by injection ez4)
   have qiz4:(0<l0.length)=True:=eq_true (by omega)
   (try rw [show ((0:Int)).toNat=0 from rfl] at hxz4_0)
   (try rw [Addr.add_zero'] at hxz4_0)
   replace pz4:=eq_true pz4
   replace qz4:=eq_true qz4
   go_enter Try.func39,Try.ntmps39
   go_wp2
   go_ret
   exact ⟨oS,by repeat (first|exact Drawn0.refl _|apply Drawn0.step)⟩
  rw [if_pos c8] at H
  have c8b0:decide (1<(l0.length:Int))=true:=decide_eq_true c8
  have c8b1:decide (1<l0.length)=true:=decide_eq_true (by omega)
  clear c8
  by_cases c9:1<(l0.length:Int)
  ·
   rw [if_pos c9] at H
   have c9b0:decide (1<(l0.length:Int))=true:=decide_eq_true c9
   have c9b1:decide (1<l0.length)=true:=decide_eq_true (by omega)
   clear c9
   obtain rfl:=Option.some.inj H
   have pz0:0≤(0:Int):=(by omega)
   have qz0:0<(l0.length:Int):=of_decide_eq_true oA
   obtain ⟨adz0,ez0,hxz0_0⟩:=Kd.at_int HR0.out 0 pz0 qz0
   cases ez0
   have qiz0:(0<l0.length)=True:=eq_true (by omega)
   (try rw [show ((0:Int)).toNat=0 from rfl] at hxz0_0)
   (try rw [Addr.add_zero'] at hxz0_0)
   replace pz0:=eq_true pz0
   replace qz0:=eq_true qz0
   have pz1:0≤(0:Int):=(by omega)
   have qz1:0<(l0.length:Int):=of_decide_eq_true oA
   obtain ⟨adz1,ez1,hxz1_0⟩:=Kd.at_int HR0.out 0 pz1 qz1
   obtain rfl:adz0=adz1:=(by injection ez1)
   have qiz1:(0<l0.length)=True:=eq_true (by omega)
   (try rw [show ((0:Int)).toNat=0 from rfl] at hxz1_0)
   (try rw [Addr.add_zero'] at hxz1_0)
   replace pz1:=eq_true pz1
   replace qz1:=eq_true qz1
   have pz2:0≤(0:Int):=(by omega)
   have qz2:0<(l0.length:Int):=of_decide_eq_true oA
   obtain ⟨adz2,ez2,hxz2_0⟩:=Kd.at_int HR0.out 0 pz2 qz2
   obtain rfl:adz0=adz2:=(by injection ez2)
   have qiz2:(0<l0.length)=True:=eq_true (by omega)
   (try rw [show ((0:Int)).toNat=0 from rfl] at hxz2_0)
   (try rw [Addr.add_zero'] at hxz2_0)
   replace pz2:=eq_true pz2
   replace qz2:=eq_true qz2
   have pz3:0≤(0:Int):=(by omega)
   have qz3:0<(l0.length:Int):=of_decide_eq_true oA
   obtain ⟨adz3,ez3,hxz3_0⟩:=Kd.at_int HR0.out 0 pz3 qz3
   obtain rfl:adz0=adz3:=(by injection ez3)
   have qiz3:(0<l0.length)=True:=eq_true (by omega)
   (try rw [show ((0:Int)).toNat=0 from rfl] at hxz3_0)
   (try rw [Addr.add_zero'] at hxz3_0)
   replace pz3:=eq_true pz3
   replace qz3:=eq_true qz3
   have pz4:0≤(0:Int):=(by omega)
   have qz4:0<(l0.length:Int):=of_decide_eq_true oA
   obtain ⟨adz4,ez4,hxz4_0⟩:=Kd.at_int HR0.out 0 pz4 qz4
   obtain rfl:adz0=adz4:=(by injection ez4)
   have qiz4:(0<l0.length)=True:=eq_true (by omega)
   (try rw [show ((0:Int)).toNat=0 from rfl] at hxz4_0)
   (try rw [Addr.add_zero'] at hxz4_0)
   replace pz4:=eq_true pz4
   replace qz4:=eq_true qz4
   have pz5:0≤(1:Int):=(by omega)
   have qz5:1<(l0.length:Int):=of_decide_eq_true oA
   obtain ⟨adz5,ez5,hxz5_0⟩:=Kd.at_int HR0.out 1 pz5 qz5
   obtain rfl:adz0=adz5:=(by injection ez5)
   (try simp only [show (1:Int).toNat=1 from rfl,Nat.reduceMul,Nat.reduceEqDiff,Go.Addr.add, ↓reduceIte] at hxz5_0)
   have qiz5:(1<l0.length)=True:=eq_true (by omega)
   (try rw [show ((1:Int)).toNat=1 from rfl] at hxz5_0)
   replace pz5:=eq_true pz5
   replace qz5:=eq_true qz5
   go_enter Try.func39,Try.ntmps39
   go_wp2
   go_ret
   exact ⟨oS,by repeat (first|exact Drawn0.refl _|apply Drawn0.step)⟩
  rw [if_neg c9] at H
  exact absurd H (by simp)
 rw [if_neg c7] at H
 have c7b0:((rd l0 0) == 110)=false:=beq_eq_false_iff_ne.mpr c7
 have c7b1:((rd l0 0) != 110)=true:=bne_iff_ne.mpr c7
 obtain rfl:=Option.some.inj H
 have pz0:0≤(0:Int):=(by omega)
 have qz0:0<(l0.length:Int):=of_decide_eq_true oA
 obtain ⟨adz0,ez0,hxz0_0⟩:=Kd.at_int HR0.out 0 pz0 qz0
 cases ez0
 have qiz0:(0<l0.length)=True:=eq_true (by omega)
 (try rw [show ((0:Int)).toNat=0 from rfl] at hxz0_0)
 (try rw [Addr.add_zero'] at hxz0_0)
 replace pz0:=eq_true pz0
 replace qz0:=eq_true qz0
 have pz1:0≤(0:Int):=(by omega)
 have qz1:0<(l0.length:Int):=of_decide_eq_true oA
 obtain ⟨adz1,ez1,hxz1_0⟩:=Kd.at_int HR0.out 0 pz1 qz1
 obtain rfl:adz0=adz1:=(by injection ez1)
 have qiz1:(0<l0.length)=True:=eq_true (by omega)
 (try rw [show ((0:Int)).toNat=0 from rfl] at hxz1_0)
 (try rw [Addr.add_zero'] at hxz1_0)
 replace pz1:=eq_true pz1
 replace qz1:=eq_true qz1
 have pz2:0≤(0:Int):=(by omega)
 have qz2:0<(l0.length:Int):=of_decide_eq_true oA
 obtain ⟨adz2,ez2,hxz2_0⟩:=Kd.at_int HR0.out 0 pz2 qz2
 obtain rfl:adz0=adz2:=(by injection ez2)
 have qiz2:(0<l0.length)=True:=eq_true (by omega)
 (try rw [show ((0:Int)).toNat=0 from rfl] at hxz2_0)
 (try rw [Addr.add_zero'] at hxz2_0)
 replace pz2:=eq_true pz2
 replace qz2:=eq_true qz2
 have pz3:0≤(0:Int):=(by omega)
 have qz3:0<(l0.length:Int):=of_decide_eq_true oA
 obtain ⟨adz3,ez3,hxz3_0⟩:=Kd.at_int HR0.out 0 pz3 qz3
 obtain rfl:adz0=adz3:=(by injection ez3)
 have qiz3:(0<l0.length)=True:=eq_true (by omega)
 (try rw [show ((0:Int)).toNat=0 from rfl] at hxz3_0)
 (try rw [Addr.add_zero'] at hxz3_0)
 replace pz3:=eq_true pz3
 replace qz3:=eq_true qz3
 have pz4:0≤(0:Int):=(by omega)
 have qz4:0<(l0.length:Int):=of_decide_eq_true oA
 obtain ⟨adz4,ez4,hxz4_0⟩:=Kd.at_int HR0.out 0 pz4 qz4
 obtain rfl:adz0=adz4:=(by injection ez4)
 have qiz4:(0<l0.length)=True:=eq_true (by omega)
 (try rw [show ((0:Int)).toNat=0 from rfl] at hxz4_0)
 (try rw [Addr.add_zero'] at hxz4_0)
 replace pz4:=eq_true pz4
 replace qz4:=eq_true qz4
 go_enter Try.func39,Try.ntmps39
 go_wp2
 go_ret
 exact ⟨oS,by repeat (first|exact Drawn0.refl _|apply Drawn0.step)⟩
/-! ### pN: function 40 -/
mutual
def pN.l0:Nat→List Int→List Int→Int→Int→Int→Option (List Int × Int × Int × Bool)
  | 0,_,_,_,_,_=>none
  | k+1,x0,x1,x2,x3,x12=>if x2<(x1.length:Int) then (if 0≤x2 then (if (rd x1 x2)≤32 then (pN.j1 k x0 x1 x2 x3 x12 true) else (if (rd x1 x2)=44 then (pN.j1 k x0 x1 x2 x3 x12 true) else (if (rd x1 x2)=58 then (pN.j1 k x0 x1 x2 x3 x12 true) else (if (rd x1 x2)=93 then (pN.j1 k x0 x1 x2 x3 x12 true) else (pN.j1 k x0 x1 x2 x3 x12 ((rd x1 x2) == 125)))))) else (none)) else (if 0≤x12 then (if x12≤x2 then (if x2≤(x1.length:Int) then ((some ((x1.take (x2:Int).toNat).drop (x12:Int).toNat:List Int)).bind fun yz0=>(if x0.length+yz0.length<140737488355328 then (some ((x0++yz0),x2,x3,true)) else (none))) else (none)) else (none)) else (none))
def pN.j1:Nat→List Int→List Int→Int→Int→Int→Bool→Option (List Int × Int × Int × Bool)
  | 0,_,_,_,_,_,_=>none
  | k+1,x0,x1,x2,x3,x12,x54=>if x54=true then (if 0≤x12 then (if x12≤x2 then (if x2≤(x1.length:Int) then ((some ((x1.take (x2:Int).toNat).drop (x12:Int).toNat:List Int)).bind fun yz0=>(if x0.length+yz0.length<140737488355328 then (some ((x0++yz0),x2,x3,true)) else (none))) else (none)) else (none)) else (none)) else (pN.l0 k x0 x1 (wrap64 (x2+1)) x3 x12)
end
def pN.f (k:Nat) (l0:List Int) (l1:List Int) (a2:Int) (a3:Int):Option (List Int × Int × Int × Bool):=pN.l0 k l0 l1 (wrap64 (a2+1)) a3 a2
theorem pN.mono_l : ∀ k,(∀ y0 y1 y2 y3 y4,LeO (pN.l0 k y0 y1 y2 y3 y4) (pN.l0 (k+1) y0 y1 y2 y3 y4))∧(∀ y0 y1 y2 y3 y4 y5,LeO (pN.j1 k y0 y1 y2 y3 y4 y5) (pN.j1 (k+1) y0 y1 y2 y3 y4 y5))
  | 0=>⟨fun _ _ _ _ _ r h=>by simp [pN.l0] at h,fun _ _ _ _ _ _ r h=>by simp [pN.j1] at h⟩
  | k+1=>by
    obtain ⟨ih0,ih1⟩:=pN.mono_l k
    refine ⟨?_,?_⟩
    · intro y0 y1 y2 y3 y4
      unfold pN.l0
      repeat' first|(with_reducible first|apply ih0|apply ih1|apply LeO.refl|apply LeO.none|refine LeO.ite ?_ ?_|refine LeO.bind ?_ (fun _=>?_))|apply ih0|apply ih1|apply LeO.none|refine LeO.ite ?_ ?_|refine LeO.bind ?_ (fun _=>?_)
    · intro y0 y1 y2 y3 y4 y5
      unfold pN.j1
      repeat' first|(with_reducible first|apply ih0|apply ih1|apply LeO.refl|apply LeO.none|refine LeO.ite ?_ ?_|refine LeO.bind ?_ (fun _=>?_))|apply ih0|apply ih1|apply LeO.none|refine LeO.ite ?_ ?_|refine LeO.bind ?_ (fun _=>?_)
theorem pN.mono : ∀ a0 a1 a2 a3 k,LeO (pN.f k a0 a1 a2 a3) (pN.f (k+1) a0 a1 a2 a3):=by
 intro a0 a1 a2 a3 k
 obtain ⟨ih0,ih1⟩:=pN.mono_l k
 unfold pN.f
 repeat' first|(with_reducible first|apply ih0|apply ih1|apply LeO.refl|apply LeO.none|refine LeO.ite ?_ ?_|refine LeO.bind ?_ (fun _=>?_))|apply ih0|apply ih1|apply LeO.none|refine LeO.ite ?_ ?_|refine LeO.bind ?_ (fun _=>?_)
set_option maxHeartbeats 8000000 in
set_option maxRecDepth 100000 in
theorem pN.calls (k:Nat) (P0_:Nat→Prop) (u9000_:Value) (l0:List Int) (A1:Option Addr) (c1:Nat) (l1:List Int) (a2:Int) (a3:Int) (r1:List Int) (r2:Int) (r3:Int) (r4:Bool) (w0 w:World) (hB:Below w0.heap.size w0 w) (ho0:Kd.R (Kd.int .u8) 5 w w0.heap.size P0_ u9000_ l0) (hr1 : ∀ W_,Kept w W_ (fun k_=>P0_ k_)→Kd.C (Kd.int .u8) W_ A1 l1.length l1) (hc1:l1.length≤c1) (h:pN.f k l0 l1 a2 a3=some (r1,r2,r3,r4)) :
 Calls Try.prog 40 #[u9000_, .slice A1 l1.length c1, .int .i64 a2, .int .i64 a3] w fun e w' => ∃ v0_:Value,e = .returned (.tuple #[v0_, .int .i64 r2, .int .i64 r3, .bool r4])∧Kd.R (Kd.int .u8) 5 w' w0.heap.size (fun k_=>(P0_ k_∨w.heap.size≤k_)) v0_ r1∧Below w0.heap.size w0 w'∧Kept w w' (fun k_=>P0_ k_):=by
 have HO0:=Ak (show Kd.R (Kd.int .u8) 5 w w0.heap.size (fun k_=>(P0_ k_∨w.heap.size≤k_)) u9000_ l0 from Kd.R_mono ho0 (fun k_ hk=>(.inl hk)))
 have HR1:=Ak hr1
 have HC1:=Ak hc1
 clear hr1 hc1
 have HK:=Ak (Kept.refl w (fun k_=>P0_ k_))
 have HW0:=Ak hB.size
 have HB:=Ak hB
 clear hB
 have H:(pN.l0 k l0 l1 (wrap64 (a2+1)) a3 a2)=some (r1,r2,r3,r4):=h
 clear h
 have H':=Ak H
 clear H
 go_enter Try.func40,Try.ntmps40
 go_wp2
 (try simp only [Act.put,List.setIfInBounds_toArray,List.set_cons_zero,List.set_cons_succ])
 go_loopg [2] k (fun kq v2 w' => ∃ (x2_1:Int),v2 = .int .i64 x2_1∧Aside0 (pN.l0 kq l0 l1 x2_1 a3 a2=some (r1,r2,r3,r4))∧Aside0 (kq≤k)∧Aside0 (Kd.R (Kd.int .u8) 5 w' w0.heap.size (fun k_=>(P0_ k_∨w.heap.size≤k_)) u9000_ l0)∧Aside0 (Kept w w' (fun k_=>P0_ k_))∧Aside0 (Below w0.heap.size w0 w'))
 case atStart=>exact ⟨(wrap64 (a2+1)),oS,H',⟨Nat.le_refl _⟩,⟨oR HO0.out⟩,⟨oP⟩,⟨oB⟩⟩
 case round =>
 clear H'
 obtain ⟨x2_1,rfl,HA,HK1,HO_0,HK,HB⟩:=hrel
 cases gk with
 | zero=>exact absurd HA.out (by simp [pN.l0])
 | succ k1 =>
  have H:=HA.out
  clear HA
  simp only [pN.l0] at H
  by_cases c5:x2_1<(l1.length:Int)
  rotate_left
  ·
   rw [if_neg c5] at H
   have c5b0:decide (x2_1<(l1.length:Int))=false:=decide_eq_false c5
   clear c5
   by_cases c19:0≤a2
   rotate_left
   ·
    rw [if_neg c19] at H
    exact absurd H (by simp)
   rw [if_pos c19] at H
   have c19b0:=eq_true c19
   have c19b1:decide (0≤a2)=true:=decide_eq_true c19
   clear c19
   by_cases c20:a2≤x2_1
   ·
    rw [if_pos c20] at H
    have c20b0:=eq_true c20
    have c20b1:decide (a2≤x2_1)=true:=decide_eq_true c20
    clear c20
    by_cases c21:x2_1≤(l1.length:Int)
    rotate_left
    ·
     rw [if_neg c21] at H
     exact absurd H (by simp)
    rw [if_pos c21] at H
    have c21b0:=eq_true c21
    have c21b1:decide (x2_1≤(l1.length:Int))=true:=decide_eq_true c21
    clear c21
    obtain ⟨yz10,hyz10⟩ : ∃ y_:List Int,y_=((l1.take (x2_1:Int).toNat).drop (a2:Int).toNat):=⟨_,rfl⟩
    replace H:(if l0.length+yz10.length<140737488355328 then (some ((l0++yz10),x2_1,a3,true)) else (none))=some (r1,r2,r3,r4):=by first|(rw [hyz10];with_reducible exact H)|(have H2_:=(Option.bind_some _ _).symm.trans H;rw [hyz10];with_reducible exact H2_)|(have H2_:=(Option.bind_some _ _).symm.trans H;with_reducible exact H2_)|with_reducible exact H|(rw [hyz10];exact H)|exact H
    have Nyz10:=Ak hyz10
    clear hyz10
    by_cases c22:l0.length+yz10.length<140737488355328
    ·
     rw [if_pos c22] at H
     have LMc22:=Ak c22
     clear c22
     obtain ⟨yz11,hyz11⟩ : ∃ y_:List Int,y_=(l0++yz10):=⟨_,rfl⟩
     replace H:(some (yz11,x2_1,a3,true))=some (r1,r2,r3,r4):=by first|(rw [hyz11];with_reducible exact H)|(have H2_:=(Option.bind_some _ _).symm.trans H;rw [hyz11];with_reducible exact H2_)|(have H2_:=(Option.bind_some _ _).symm.trans H;with_reducible exact H2_)|with_reducible exact H|(rw [hyz11];exact H)|exact H
     have Nyz11:=Ak hyz11
     clear hyz11
     simp only [Option.some.injEq,Prod.mk.injEq] at H
     obtain ⟨rfl,rfl,rfl,rfl⟩:=H
     have q23:(x2_1:Int)≤((l1.length:Int):Int):=of_decide_eq_true oA
     obtain ⟨i023,hi023,_,hsz23,_⟩:=info_parts info5
     have hroom23:l1.length≤c1:=HC1.out
     have hC23:Kd.C (Kd.int .u8) _ A1 l1.length l1:=(Kd.C_kept_now HR1.out HK.out)
     have ql23:(a2:Int)≤(x2_1:Int):=of_decide_eq_true oA
     have q023:(0:Int)≤(a2:Int):=of_decide_eq_true oA
     have hcut23:=cut_mid (P:=Try.prog) 44 5 .i64 .i64 Try.underlying44 hi023 1 hsz23 A1 l1.length c1 a2 x2_1 q023 ql23 q23 hroom23
     have hr23:=Kd.C_mid (lo:=(a2:Int).toNat) (hi:=(x2_1:Int).toNat) (c:=c1) hC23 (by omega) (by omega) hroom23
     obtain ⟨A23,hA23⟩ : ∃ Aq_,Aq_=(if c1=(a2:Int).toNat then A1 else (A1:Option Addr).map (·.add ((a2:Int).toNat*1))):=⟨_,rfl⟩
     obtain ⟨c23,hc23⟩ : ∃ cq_,cq_=c1 - (a2:Int).toNat:=⟨_,rfl⟩
     have hy23:yz10.length=(x2_1:Int).toNat - (a2:Int).toNat:=(by rw [Nyz10.out,List.length_drop,List.length_take] <;> omega)
     rw [show ((l1).take (x2_1:Int).toNat).drop (a2:Int).toNat=yz10 from Nyz10.out.symm] at hr23
     replace hr23:Kd.C (Kd.int .u8) _ A23 yz10.length yz10:=(by rw [hA23];exact hr23)
     rw [← hy23, ← hA23, ← hc23] at hcut23
     have HRz12:=Ak hr23
     have HCz12:=Ak (show yz10.length≤c23 from by rw [hy23,hc23];exact Nat.sub_le_sub_right (Nat.le_trans (by omega) hroom23) _)
     clear hr23 hC23 hroom23 hi023 hsz23 hc23
     have KY23:=Ak hy23
     have KA23:=Ak hA23
     clear hy23 hA23
     have KL23:=Ak (show (x2_1:Int).toNat≤l1.length from by omega)
     have KM23:=Ak (show (a2:Int).toNat≤(x2_1:Int).toNat from by omega)
     replace q23:=eq_true q23
     go_wp2_with (first|((with_reducible refine gate_builtin (b := .append) (xs := #[.tmp 55, .tmp 59]) rfl ?_);at_builtin;refine Kd.R_append_rows (Kd.int .u8) (w0:=w0) w0.heap.size rfl (.tmp 55) (.tmp 59) 44 5 (.int .u8 0) 1 rfl Try.underlying44 info5 rfl (by decide) (by omega) u9000_ l0 yz10 _ _ _ (fun k_=>(P0_ k_∨w.heap.size≤k_)) (fun _=>False) rfl rfl ?aO ?aR (fun _ _ h=>h) (fun _ h=>h.elim) ?aF ?aB ?aS ?aL ?_;(case aR=>repeat (first|exact (by repeat (first|(with_reducible exact HRz12.out)|(with_reducible refine Kd.C_alloc ?_ _)|(with_reducible refine Kd.C_drewN ?_ _)|(with_reducible refine Kd.C_drew ?_)|exact HRz12.out))|(with_reducible refine Kd.C_alloc ?_ _)|(with_reducible refine Kd.C_drewN ?_ _)|(with_reducible refine Kd.C_drew ?_)));(case aB=>exact oB);(case aF=>exact (fun k_ hk=>(.inr (Nat.le_trans (by first|exact HK.out.1|exact (show Kept w _ (fun k_=>P0_ k_) from oP).1) hk))));(case aO=>exact (oR HO_0.out));(case aS=>exact (below_size oB));(case aL=>have:=LMc22.out;omega);intro vz13 w24 ho hb hg hat;rw [← Nyz11.out] at ho;have _:=Ak (hb);have _:=Ak (Kept.of_grown (S:=(fun k_=>P0_ k_)) hg oP (fun k_ e_=>(HO_0.out.1 k_ e_)));have _:=Ak ((show Kd.C (Kd.int .u8) w24 A23 yz10.length yz10 from by rw [Nyz10.out,KA23.out];exact Kd.C_mid (lo:=(a2:Int).toNat) (hi:=(x2_1:Int).toNat) (c:=c1) (Kd.C_kept_now HR1.out (show Kept w w24 (fun k_=>P0_ k_) from (Kept.of_grown (S:=(fun k_=>P0_ k_)) hg oP (fun k_ e_=>(HO_0.out.1 k_ e_))))) KM23.out KL23.out HC1.out));have _:=Ak (ho);clear HB HK HRz12 HO_0;rename_i HB HK HRz12 HOz14;clear ho hb hg hat))
     refine bodyPost_ret (results_list (rs:=[.tmp 8, .tmp 9, .tmp 10, .tmp 11]) rfl (by simp) (.tmp (.tmp (.tmp (.tmp .nil))))) rfl ?_
     exact ⟨_,oE,oR HOz14.out,oB,oP⟩
    rw [if_neg c22] at H
    exact absurd H (by simp)
   rw [if_neg c20] at H
   exact absurd H (by simp)
  rw [if_pos c5] at H
  have c5b0:decide (x2_1<(l1.length:Int))=true:=decide_eq_true c5
  clear c5
  have HC6:=Ak H
  clear H
  go_upto_region 5 with (fail)
  go_cut [54] (fun v54 wc => ∃ (kq:Nat) (x54_5:Bool),v54 = .bool x54_5∧Aside0 (pN.j1 kq l0 l1 x2_1 a3 a2 x54_5=some (r1,r2,r3,r4))∧Aside0 (kq≤k1)∧Aside0 (Kd.R (Kd.int .u8) 5 wc w0.heap.size (fun k_=>(P0_ k_∨w.heap.size≤k_)) u9000_ l0)∧Aside0 (Kept w wc (fun k_=>P0_ k_))∧Aside0 (Below w0.heap.size w0 wc))
  case first =>
   have H:=HC6.out
   clear HC6
   by_cases c7:0≤x2_1
   rotate_left
   ·
    rw [if_neg c7] at H
    exact absurd H (by simp)
   rw [if_pos c7] at H
   have c7b0:decide (0≤x2_1)=true:=decide_eq_true c7
   clear c7
   (first|rw [c7b0]|(simp only [i64_w,i32_w];rw [c7b0])|skip)
   by_cases c8:(rd l1 x2_1)≤32
   ·
    rw [if_pos c8] at H
    have c8b0:decide ((rd l1 x2_1)≤32)=true:=decide_eq_true c8
    clear c8
    have H':=Ak H
    clear H
    have pz0:0≤(x2_1:Int):=of_decide_eq_true oA
    have qz0:x2_1<(l1.length:Int):=of_decide_eq_true oA
    obtain ⟨adz0,ez0,hxz0_0⟩:=Kd.at_int (Kd.C_kept_now HR1.out HK.out) x2_1 pz0 qz0
    cases ez0
    replace pz0:=eq_true pz0
    replace qz0:=eq_true qz0
    go_wp2
    go_meet
    case rel=>exact ⟨_,(true),oS,H',⟨by have:=HK1.out;first|omega|exact Nat.le_refl _⟩,⟨oR HO_0.out⟩,⟨oP⟩,⟨oB⟩⟩
   rw [if_neg c8] at H
   have c8b0:decide ((rd l1 x2_1)≤32)=false:=decide_eq_false c8
   clear c8
   by_cases c9:(rd l1 x2_1)=44
   ·
    rw [if_pos c9] at H
    have c9b0:((rd l1 x2_1) == 44)=true:=beq_iff_eq.mpr c9
    have c9b1:((rd l1 x2_1) != 44)=false:=bne_eq_false_iff_eq.mpr c9
    clear c9
    have H':=Ak H
    clear H
    have pz0:0≤(x2_1:Int):=of_decide_eq_true oA
    have qz0:x2_1<(l1.length:Int):=of_decide_eq_true oA
    obtain ⟨adz0,ez0,hxz0_0⟩:=Kd.at_int (Kd.C_kept_now HR1.out HK.out) x2_1 pz0 qz0
    cases ez0
    replace pz0:=eq_true pz0
    replace qz0:=eq_true qz0
    have pz1:0≤(x2_1:Int):=of_decide_eq_true oA
    have qz1:x2_1<(l1.length:Int):=of_decide_eq_true oA
    obtain ⟨adz1,ez1,hxz1_0⟩:=Kd.at_int (Kd.C_kept_now HR1.out HK.out) x2_1 pz1 qz1
    obtain rfl:adz0=adz1:=(by injection ez1)
    replace pz1:=eq_true pz1
    replace qz1:=eq_true qz1
    go_wp2
    go_meet
    case rel=>exact ⟨_,(true),oS,H',⟨by have:=HK1.out;first|omega|exact Nat.le_refl _⟩,⟨oR HO_0.out⟩,⟨oP⟩,⟨oB⟩⟩
   rw [if_neg c9] at H
   have c9b0:((rd l1 x2_1) == 44)=false:=beq_eq_false_iff_ne.mpr c9
   have c9b1:((rd l1 x2_1) != 44)=true:=bne_iff_ne.mpr c9
   by_cases c10:(rd l1 x2_1)=58
   ·
    rw [if_pos c10] at H
    have c10b0:((rd l1 x2_1) == 58)=true:=beq_iff_eq.mpr c10
    have c10b1:((rd l1 x2_1) != 58)=false:=bne_eq_false_iff_eq.mpr c10
    clear c10
    have H':=Ak H
    clear H
    have pz0:0≤(x2_1:Int):=of_decide_eq_true oA
    have qz0:x2_1<(l1.length:Int):=of_decide_eq_true oA
    obtain ⟨adz0,ez0,hxz0_0⟩:=Kd.at_int (Kd.C_kept_now HR1.out HK.out) x2_1 pz0 qz0
    cases ez0
    replace pz0:=eq_true pz0
    replace qz0:=eq_true qz0
    have pz1:0≤(x2_1:Int):=of_decide_eq_true oA
    have qz1:x2_1<(l1.length:Int):=of_decide_eq_true oA
    obtain ⟨adz1,ez1,hxz1_0⟩:=Kd.at_int (Kd.C_kept_now HR1.out HK.out) x2_1 pz1 qz1
    obtain rfl:adz0=adz1:=(by injection ez1)
    replace pz1:=eq_true pz1
    replace qz1:=eq_true qz1
    have pz2:0≤(x2_1:Int):=of_decide_eq_true oA
    have qz2:x2_1<(l1.length:Int):=of_decide_eq_true oA
    obtain ⟨adz2,ez2,hxz2_0⟩:=Kd.at_int (Kd.C_kept_now HR1.out HK.out) x2_1 pz2 qz2
    obtain rfl:adz0=adz2:=(by injection ez2)
    replace pz2:=eq_true pz2
    replace qz2:=eq_true qz2
    go_wp2
    go_meet
    case rel=>exact ⟨_,(true),oS,H',⟨by have:=HK1.out;first|omega|exact Nat.le_refl _⟩,⟨oR HO_0.out⟩,⟨oP⟩,⟨oB⟩⟩
   rw [if_neg c10] at H
   have c10b0:((rd l1 x2_1) == 58)=false:=beq_eq_false_iff_ne.mpr c10
   have c10b1:((rd l1 x2_1) != 58)=true:=bne_iff_ne.mpr c10
   by_cases c11:(rd l1 x2_1)=93
   ·
    rw [if_pos c11] at H
    have c11b0:((rd l1 x2_1) == 93)=true:=beq_iff_eq.mpr c11
    have c11b1:((rd l1 x2_1) != 93)=false:=bne_eq_false_iff_eq.mpr c11
    clear c11
    have H':=Ak H
    clear H
    have pz0:0≤(x2_1:Int):=of_decide_eq_true oA
    have qz0:x2_1<(l1.length:Int):=of_decide_eq_true oA
    obtain ⟨adz0,ez0,hxz0_0⟩:=Kd.at_int (Kd.C_kept_now HR1.out HK.out) x2_1 pz0 qz0
    cases ez0
    replace pz0:=eq_true pz0
    replace qz0:=eq_true qz0
    have pz1:0≤(x2_1:Int):=of_decide_eq_true oA
    have qz1:x2_1<(l1.length:Int):=of_decide_eq_true oA
    obtain ⟨adz1,ez1,hxz1_0⟩:=Kd.at_int (Kd.C_kept_now HR1.out HK.out) x2_1 pz1 qz1
    obtain rfl:adz0=adz1:=(by injection ez1)
    replace pz1:=eq_true pz1
    replace qz1:=eq_true qz1
    have pz2:0≤(x2_1:Int):=of_decide_eq_true oA
    have qz2:x2_1<(l1.length:Int):=of_decide_eq_true oA
    obtain ⟨adz2,ez2,hxz2_0⟩:=Kd.at_int (Kd.C_kept_now HR1.out HK.out) x2_1 pz2 qz2
    obtain rfl:adz0=adz2:=(by injection ez2)
    replace pz2:=eq_true pz2
    replace qz2:=eq_true qz2
    have pz3:0≤(x2_1:Int):=of_decide_eq_true oA
    have qz3:x2_1<(l1.length:Int):=of_decide_eq_true oA
    obtain ⟨adz3,ez3,hxz3_0⟩:=Kd.at_int (Kd.C_kept_now HR1.out HK.out) x2_1 pz3 qz3
    obtain rfl:adz0=adz3:=(by injection ez3)
    replace pz3:=eq_true pz3
    replace qz3:=eq_true qz3
    go_wp2
    go_meet
    case rel=>exact ⟨_,(true),oS,H',⟨by have:=HK1.out;first|omega|exact Nat.le_refl _⟩,⟨oR HO_0.out⟩,⟨oP⟩,⟨oB⟩⟩
   rw [if_neg c11] at H
   have c11b0:((rd l1 x2_1) == 93)=false:=beq_eq_false_iff_ne.mpr c11
   have c11b1:((rd l1 x2_1) != 93)=true:=bne_iff_ne.mpr c11
   have H':=Ak H
   clear H
   have pz0:0≤(x2_1:Int):=of_decide_eq_true oA
   have qz0:x2_1<(l1.length:Int):=of_decide_eq_true oA
   obtain ⟨adz0,ez0,hxz0_0⟩:=Kd.at_int (Kd.C_kept_now HR1.out HK.out) x2_1 pz0 qz0
   cases ez0
   replace pz0:=eq_true pz0
   replace qz0:=eq_true qz0
   have pz1:0≤(x2_1:Int):=of_decide_eq_true oA
   have qz1:x2_1<(l1.length:Int):=of_decide_eq_true oA
   obtain ⟨adz1,ez1,hxz1_0⟩:=Kd.at_int (Kd.C_kept_now HR1.out HK.out) x2_1 pz1 qz1
   obtain rfl:adz0=adz1:=(by injection ez1)
   replace pz1:=eq_true pz1
   replace qz1:=eq_true qz1
   have pz2:0≤(x2_1:Int):=of_decide_eq_true oA
   have qz2:x2_1<(l1.length:Int):=of_decide_eq_true oA
   obtain ⟨adz2,ez2,hxz2_0⟩:=Kd.at_int (Kd.C_kept_now HR1.out HK.out) x2_1 pz2 qz2
   obtain rfl:adz0=adz2:=(by injection ez2)
   replace pz2:=eq_true pz2
   replace qz2:=eq_true qz2
   have pz3:0≤(x2_1:Int):=of_decide_eq_true oA
   have qz3:x2_1<(l1.length:Int):=of_decide_eq_true oA
   obtain ⟨adz3,ez3,hxz3_0⟩:=Kd.at_int (Kd.C_kept_now HR1.out HK.out) x2_1 pz3 qz3
   obtain rfl:adz0=adz3:=(by injection ez3)
   replace pz3:=eq_true pz3
   replace qz3:=eq_true qz3
   have pz4:0≤(x2_1:Int):=of_decide_eq_true oA
   have qz4:x2_1<(l1.length:Int):=of_decide_eq_true oA
   obtain ⟨adz4,ez4,hxz4_0⟩:=Kd.at_int (Kd.C_kept_now HR1.out HK.out) x2_1 pz4 qz4
   obtain rfl:adz0=adz4:=(by injection ez4)
   replace pz4:=eq_true pz4
   replace qz4:=eq_true qz4
   go_wp2
   go_meet
   case rel=>exact ⟨_,(((rd l1 x2_1) == 125)),oS,H',⟨by have:=HK1.out;first|omega|exact Nat.le_refl _⟩,⟨oR HO_0.out⟩,⟨oP⟩,⟨oB⟩⟩
  case rest =>
  clear HC6
  clear c5b0
  obtain ⟨kq,x54_5,rfl,HA,HJ5,HO_0,HK,HB⟩:=hcut
  cases kq with
  | zero=>exact absurd HA.out (by simp [pN.j1])
  | succ kj5 =>
   have H:=HA.out
   clear HA
   simp only [pN.j1] at H
   by_cases c12:x54_5=true
   rotate_left
   ·
    replace c12:=Bool.eq_false_iff.mpr c12
    subst c12
    have H1:(pN.l0 kj5 l0 l1 (wrap64 (x2_1+1)) a3 a2)=some (r1,r2,r3,r4):=by rw [if_neg (show ¬ (false=true) by decide)] at H;exact H
    clear H
    have H:=H1
    clear H1
    have H':=Ak H
    clear H
    go_wp2
    go_roundg kj5
    case measure=>have:=HK1.out;have:=HJ5.out;omega
    case rel=>exact ⟨(wrap64 (x2_1+1)),oS,H',⟨by have:=HK1.out;have:=HJ5.out;omega⟩,⟨oR HO_0.out⟩,⟨oP⟩,⟨oB⟩⟩
   subst c12
   have H1:(if 0≤a2 then (if a2≤x2_1 then (if x2_1≤(l1.length:Int) then ((some ((l1.take (x2_1:Int).toNat).drop (a2:Int).toNat:List Int)).bind fun yz5=>(if l0.length+yz5.length<140737488355328 then (some ((l0++yz5),x2_1,a3,true)) else (none))) else (none)) else (none)) else (none))=some (r1,r2,r3,r4):=by rw [if_pos rfl] at H;exact H
   clear H
   have H:=H1
   clear H1
   by_cases c13:0≤a2
   ·
    rw [if_pos c13] at H
    have c13b0:=eq_true c13
    have c13b1:decide (0≤a2)=true:=decide_eq_true c13
    clear c13
    by_cases c14:a2≤x2_1
    rotate_left
    ·
     rw [if_neg c14] at H
     exact absurd H (by simp)
    rw [if_pos c14] at H
    have c14b0:=eq_true c14
    have c14b1:decide (a2≤x2_1)=true:=decide_eq_true c14
    clear c14
    by_cases c15:x2_1≤(l1.length:Int)
    ·
     rw [if_pos c15] at H
     have c15b0:=eq_true c15
     have c15b1:decide (x2_1≤(l1.length:Int))=true:=decide_eq_true c15
     clear c15
     obtain ⟨yz5,hyz5⟩ : ∃ y_:List Int,y_=((l1.take (x2_1:Int).toNat).drop (a2:Int).toNat):=⟨_,rfl⟩
     replace H:(if l0.length+yz5.length<140737488355328 then (some ((l0++yz5),x2_1,a3,true)) else (none))=some (r1,r2,r3,r4):=by first|(rw [hyz5];with_reducible exact H)|(have H2_:=(Option.bind_some _ _).symm.trans H;rw [hyz5];with_reducible exact H2_)|(have H2_:=(Option.bind_some _ _).symm.trans H;with_reducible exact H2_)|with_reducible exact H|(rw [hyz5];exact H)|exact H
     have Nyz5:=Ak hyz5
     clear hyz5
     by_cases c16:l0.length+yz5.length<140737488355328
     rotate_left
     ·
      rw [if_neg c16] at H
      exact absurd H (by simp)
     rw [if_pos c16] at H
     have LMc16:=Ak c16
     clear c16
     obtain ⟨yz6,hyz6⟩ : ∃ y_:List Int,y_=(l0++yz5):=⟨_,rfl⟩
     replace H:(some (yz6,x2_1,a3,true))=some (r1,r2,r3,r4):=by first|(rw [hyz6];with_reducible exact H)|(have H2_:=(Option.bind_some _ _).symm.trans H;rw [hyz6];with_reducible exact H2_)|(have H2_:=(Option.bind_some _ _).symm.trans H;with_reducible exact H2_)|with_reducible exact H|(rw [hyz6];exact H)|exact H
     have Nyz6:=Ak hyz6
     clear hyz6
     simp only [Option.some.injEq,Prod.mk.injEq] at H
     obtain ⟨rfl,rfl,rfl,rfl⟩:=H
     have q17:(x2_1:Int)≤((l1.length:Int):Int):=of_decide_eq_true oA
     obtain ⟨i017,hi017,_,hsz17,_⟩:=info_parts info5
     have hroom17:l1.length≤c1:=HC1.out
     have hC17:Kd.C (Kd.int .u8) _ A1 l1.length l1:=(Kd.C_kept_now HR1.out HK.out)
     have ql17:(a2:Int)≤(x2_1:Int):=of_decide_eq_true oA
     have q017:(0:Int)≤(a2:Int):=of_decide_eq_true oA
     have hcut17:=cut_mid (P:=Try.prog) 44 5 .i64 .i64 Try.underlying44 hi017 1 hsz17 A1 l1.length c1 a2 x2_1 q017 ql17 q17 hroom17
     have hr17:=Kd.C_mid (lo:=(a2:Int).toNat) (hi:=(x2_1:Int).toNat) (c:=c1) hC17 (by omega) (by omega) hroom17
     obtain ⟨A17,hA17⟩ : ∃ Aq_,Aq_=(if c1=(a2:Int).toNat then A1 else (A1:Option Addr).map (·.add ((a2:Int).toNat*1))):=⟨_,rfl⟩
     obtain ⟨c17,hc17⟩ : ∃ cq_,cq_=c1 - (a2:Int).toNat:=⟨_,rfl⟩
     have hy17:yz5.length=(x2_1:Int).toNat - (a2:Int).toNat:=(by rw [Nyz5.out,List.length_drop,List.length_take] <;> omega)
     rw [show ((l1).take (x2_1:Int).toNat).drop (a2:Int).toNat=yz5 from Nyz5.out.symm] at hr17
     replace hr17:Kd.C (Kd.int .u8) _ A17 yz5.length yz5:=(by rw [hA17];exact hr17)
     rw [← hy17, ← hA17, ← hc17] at hcut17
     have HRz7:=Ak hr17
     have HCz7:=Ak (show yz5.length≤c17 from by rw [hy17,hc17];exact Nat.sub_le_sub_right (Nat.le_trans (by omega) hroom17) _)
     clear hr17 hC17 hroom17 hi017 hsz17 hc17
     have KY17:=Ak hy17
     have KA17:=Ak hA17
     clear hy17 hA17
     have KL17:=Ak (show (x2_1:Int).toNat≤l1.length from by omega)
     have KM17:=Ak (show (a2:Int).toNat≤(x2_1:Int).toNat from by omega)
     replace q17:=eq_true q17
     go_wp2_with (first|((with_reducible refine gate_builtin (b := .append) (xs := #[.tmp 55, .tmp 59]) rfl ?_);at_builtin;refine Kd.R_append_rows (Kd.int .u8) (w0:=w0) w0.heap.size rfl (.tmp 55) (.tmp 59) 44 5 (.int .u8 0) 1 rfl Try.underlying44 info5 rfl (by decide) (by omega) u9000_ l0 yz5 _ _ _ (fun k_=>(P0_ k_∨w.heap.size≤k_)) (fun _=>False) rfl rfl ?aO ?aR (fun _ _ h=>h) (fun _ h=>h.elim) ?aF ?aB ?aS ?aL ?_;(case aR=>repeat (first|exact (by repeat (first|(with_reducible exact HRz7.out)|(with_reducible refine Kd.C_alloc ?_ _)|(with_reducible refine Kd.C_drewN ?_ _)|(with_reducible refine Kd.C_drew ?_)|exact HRz7.out))|(with_reducible refine Kd.C_alloc ?_ _)|(with_reducible refine Kd.C_drewN ?_ _)|(with_reducible refine Kd.C_drew ?_)));(case aB=>exact oB);(case aF=>exact (fun k_ hk=>(.inr (Nat.le_trans (by first|exact HK.out.1|exact (show Kept w _ (fun k_=>P0_ k_) from oP).1) hk))));(case aO=>exact (oR HO_0.out));(case aS=>exact (below_size oB));(case aL=>have:=LMc16.out;omega);intro vz8 w18 ho hb hg hat;rw [← Nyz6.out] at ho;have _:=Ak (hb);have _:=Ak (Kept.of_grown (S:=(fun k_=>P0_ k_)) hg oP (fun k_ e_=>(HO_0.out.1 k_ e_)));have _:=Ak ((show Kd.C (Kd.int .u8) w18 A17 yz5.length yz5 from by rw [Nyz5.out,KA17.out];exact Kd.C_mid (lo:=(a2:Int).toNat) (hi:=(x2_1:Int).toNat) (c:=c1) (Kd.C_kept_now HR1.out (show Kept w w18 (fun k_=>P0_ k_) from (Kept.of_grown (S:=(fun k_=>P0_ k_)) hg oP (fun k_ e_=>(HO_0.out.1 k_ e_))))) KM17.out KL17.out HC1.out));have _:=Ak (ho);clear HB HK HRz7 HO_0;rename_i HB HK HRz7 HOz9;clear ho hb hg hat))
     refine bodyPost_ret (results_list (rs:=[.tmp 8, .tmp 9, .tmp 10, .tmp 11]) rfl (by simp) (.tmp (.tmp (.tmp (.tmp .nil))))) rfl ?_
     exact ⟨_,oE,oR HOz9.out,oB,oP⟩
    rw [if_neg c15] at H
    exact absurd H (by simp)
   rw [if_neg c13] at H
   exact absurd H (by simp)
-- NOT PRINTED: function 50 (sort_insertionSort)
-- NOT PRINTED: function 53 (sort_swapRange)
-- NOT PRINTED: function 52 (sort_rotate)
-- NOT PRINTED: function 51 (sort_symMerge)
-- NOT PRINTED: function 49 (sort_stable)
-- NOT PRINTED: function 48 (sort_Stable)
-- NOT PRINTED: function 46 (pQ)
end Go.Proofs.Ytbkgoccnegjdhaa.Q

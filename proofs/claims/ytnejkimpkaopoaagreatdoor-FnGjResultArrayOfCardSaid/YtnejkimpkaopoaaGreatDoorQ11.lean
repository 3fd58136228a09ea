/- Functions of the program as Lean functions, each with a proof that the call comes to what it gives. Written by prx.py (wip/pr). -/
import Derived.Test.YtnejkimpkaopoaaGreatDoorQ0
import Derived.Test.YtnejkimpkaopoaaGreatDoorQ9
namespace Go.Proofs.YtnejkimpkaopoaaGreatDoor.Q
open RowKit YtnejkimpkaopoaaGreatDoorW.PrintWords YtnejkimpkaopoaaGreatDoorW.PrintLast YtnejkimpkaopoaaGreatDoorW.PrintMore
set_option maxHeartbeats 8000000
set_option maxRecDepth 100000
attribute [local go_sem] max2_int min2_int max_two min_two max_three min_three max_four min_four
set_option linter.unusedVariables false
set_option linter.unusedSimpArgs false
-- NOT PRINTED: function 214 (strconv_readFloat)
-- NOT PRINTED: function 217 (strconv_float32frombits)
-- NOT PRINTED: function 215 (strconv_atofHex)
/-! ### strconv_bool2_uint32: function 216 -/
-- NOT PRINTED: function 218 (strconv_atof32exact)
/-! ### strconv_log2Pow10: function 245 -/
def strconv_log2Pow10.f (a0:Int):Option (Int):=some ((wrap64 (a0*108853)) / 32768)
theorem strconv_log2Pow10.calls (a0:Int) (r:Int) (w:World) (h:strconv_log2Pow10.f a0=some r) :
 Calls Tryz.prog 245 #[.int .i64 a0] w fun e w'=>e = .returned (.int .i64 r)∧Drawn0 w w':=by
 have H:(some ((wrap64 (a0*108853)) / 32768))=some r:=h
 clear h
 obtain rfl:=Option.some.inj H
 go_enter Tryz.func245,Tryz.ntmps245
 go_wp2
 go_ret
 exact ⟨oS,by repeat (first|exact Drawn0.refl _|apply Drawn0.step)⟩
-- NOT PRINTED: function 246 (strconv_prescale)
/-! ### strconv_bool2_uint64: function 222 -/
def strconv_bool2_uint64.f (a0:Bool):Option (Int):=if a0=true then (some 1) else (some 0)
theorem strconv_bool2_uint64.calls (a0:Bool) (r:Int) (w:World) (h:strconv_bool2_uint64.f a0=some r) :
 Calls Tryz.prog 222 #[.bool a0] w fun e w'=>e = .returned (.int .u64 r)∧Drawn0 w w':=by
 have H:(if a0=true then (some 1) else (some 0))=some r:=h
 clear h
 by_cases c2:a0=true
 ·
  subst c2
  have H1:(some 1)=some r:=by rw [if_pos rfl] at H;exact H
  clear H
  have H:=H1
  clear H1
  obtain rfl:=Option.some.inj H
  go_enter Tryz.func222,Tryz.ntmps222
  go_wp2
  go_ret
  exact ⟨oS,by repeat (first|exact Drawn0.refl _|apply Drawn0.step)⟩
 replace c2:=Bool.eq_false_iff.mpr c2
 subst c2
 have H1:(some 0)=some r:=by rw [if_neg (show ¬ (false=true) by decide)] at H;exact H
 clear H
 have H:=H1
 clear H1
 obtain rfl:=Option.some.inj H
 go_enter Tryz.func222,Tryz.ntmps222
 go_wp2
 go_ret
 exact ⟨oS,by repeat (first|exact Drawn0.refl _|apply Drawn0.step)⟩
/-! ### bits_Mul64: function 270 -/
def bits_Mul64.f (a0:Int) (a1:Int):Option (Int × Int):=some (IntKind.u64.wrap ((IntKind.u64.wrap ((IntKind.u64.wrap ((a0 / 4294967296)*(a1 / 4294967296)))+((IntKind.u64.wrap ((IntKind.u64.wrap ((a0 / 4294967296)*(Go.bits .and .u64 a1 4294967295)))+((IntKind.u64.wrap ((Go.bits .and .u64 a0 4294967295)*(Go.bits .and .u64 a1 4294967295))) / 4294967296))) / 4294967296)))+((IntKind.u64.wrap ((Go.bits .and .u64 (IntKind.u64.wrap ((IntKind.u64.wrap ((a0 / 4294967296)*(Go.bits .and .u64 a1 4294967295)))+((IntKind.u64.wrap ((Go.bits .and .u64 a0 4294967295)*(Go.bits .and .u64 a1 4294967295))) / 4294967296))) 4294967295)+(IntKind.u64.wrap ((Go.bits .and .u64 a0 4294967295)*(a1 / 4294967296))))) / 4294967296)),IntKind.u64.wrap (a0*a1))
theorem bits_Mul64.calls (a0:Int) (a1:Int) (r1:Int) (r2:Int) (w:World) (h:bits_Mul64.f a0 a1=some (r1,r2)) :
 Calls Tryz.prog 270 #[.int .u64 a0, .int .u64 a1] w fun e w'=>e = .returned (.tuple #[.int .u64 r1, .int .u64 r2])∧Drawn0 w w':=by
 have H:(some (IntKind.u64.wrap ((IntKind.u64.wrap ((IntKind.u64.wrap ((a0 / 4294967296)*(a1 / 4294967296)))+((IntKind.u64.wrap ((IntKind.u64.wrap ((a0 / 4294967296)*(Go.bits .and .u64 a1 4294967295)))+((IntKind.u64.wrap ((Go.bits .and .u64 a0 4294967295)*(Go.bits .and .u64 a1 4294967295))) / 4294967296))) / 4294967296)))+((IntKind.u64.wrap ((Go.bits .and .u64 (IntKind.u64.wrap ((IntKind.u64.wrap ((a0 / 4294967296)*(Go.bits .and .u64 a1 4294967295)))+((IntKind.u64.wrap ((Go.bits .and .u64 a0 4294967295)*(Go.bits .and .u64 a1 4294967295))) / 4294967296))) 4294967295)+(IntKind.u64.wrap ((Go.bits .and .u64 a0 4294967295)*(a1 / 4294967296))))) / 4294967296)),IntKind.u64.wrap (a0*a1)))=some (r1,r2):=h
 clear h
 simp only [Option.some.injEq,Prod.mk.injEq] at H
 obtain ⟨rfl,rfl⟩:=H
 go_enter Tryz.func270,Tryz.ntmps270
 go_wp2
 go_ret2
 exact ⟨oS,by repeat (first|exact Drawn0.refl _|apply Drawn0.step)⟩
def IsS282 (w0 W:World) (g:Nat) (f0:Int) (f1:Int) (f2:Int):Prop:=W.heap[g]? = some (.cells #[.int .u64 f0, .int .u64 f1, .int .i64 f2] 282 (0,0))∧w0.heap.size≤g
theorem IsS282.drewN {w0 W:World} {g:Nat} {f0:Int} {f1:Int} {f2:Int} (h:IsS282 w0 W g f0 f1 f2) (m:Nat):IsS282 w0 (W.drewN m) g f0 f1 f2:=h
theorem cellS282_0 {W:World} {g:Nat} {f0:Int} {f1:Int} {f2:Int} (h:W.heap[g]? = some (.cells #[.int .u64 f0, .int .u64 f1, .int .i64 f2] 282 (0,0))):W.cell? ⟨g,0,none⟩=some (.int .u64 f0):=(blk_cell h 0).trans rfl
theorem IsS282.set_0 {w0 W:World} {g:Nat} {f0:Int} {f1:Int} {f2:Int} (h:IsS282 w0 W g f0 f1 f2) (x:Int):IsS282 w0 (W.setCell ⟨g,0,none⟩ (.int .u64 x)) g x f1 f2:=by
 obtain ⟨hb,hg⟩:=h
 exact ⟨by simpa using blk_set hb 0 (.int .u64 x),hg⟩
theorem cellS282_1 {W:World} {g:Nat} {f0:Int} {f1:Int} {f2:Int} (h:W.heap[g]? = some (.cells #[.int .u64 f0, .int .u64 f1, .int .i64 f2] 282 (0,0))):W.cell? ⟨g,1,none⟩=some (.int .u64 f1):=(blk_cell h 1).trans rfl
theorem IsS282.set_1 {w0 W:World} {g:Nat} {f0:Int} {f1:Int} {f2:Int} (h:IsS282 w0 W g f0 f1 f2) (x:Int):IsS282 w0 (W.setCell ⟨g,1,none⟩ (.int .u64 x)) g f0 x f2:=by
 obtain ⟨hb,hg⟩:=h
 exact ⟨by simpa using blk_set hb 1 (.int .u64 x),hg⟩
theorem cellS282_2 {W:World} {g:Nat} {f0:Int} {f1:Int} {f2:Int} (h:W.heap[g]? = some (.cells #[.int .u64 f0, .int .u64 f1, .int .i64 f2] 282 (0,0))):W.cell? ⟨g,2,none⟩=some (.int .i64 f2):=(blk_cell h 2).trans rfl
theorem IsS282.set_2 {w0 W:World} {g:Nat} {f0:Int} {f1:Int} {f2:Int} (h:IsS282 w0 W g f0 f1 f2) (x:Int):IsS282 w0 (W.setCell ⟨g,2,none⟩ (.int .i64 x)) g f0 f1 x:=by
 obtain ⟨hb,hg⟩:=h
 exact ⟨by simpa using blk_set hb 2 (.int .i64 x),hg⟩
/-! ### strconv_uscale: function 247 -/
def strconv_uscale.f (a0:Int) (s1_0:Int) (s1_1:Int) (s1_2:Int):Option (Int × Int × Int × Int):=(bits_Mul64.f a0 s1_0).bind fun btz0=>(if 0≤(Go.bits .and .i64 s1_2 63) then (if (shl .u64 (shr .u64 btz0.1 (Go.bits .and .i64 s1_2 63)) (Go.bits .and .i64 s1_2 63))=btz0.1 then ((bits_Mul64.f a0 s1_1).bind fun btz1=>((strconv_bool2_uint64.f (decide (btz0.2<btz1.1))).bind fun tz2=>((strconv_bool2_uint64.f (decide ((IntKind.u64.wrap (btz0.2 - btz1.1))>1))).bind fun tz3=>(some (Go.bits .or .u64 (shr .u64 (IntKind.u64.wrap (btz0.1 - tz2)) (Go.bits .and .i64 s1_2 63)) tz3,s1_0,s1_1,s1_2))))) else (some (Go.bits .or .u64 (shr .u64 btz0.1 (Go.bits .and .i64 s1_2 63)) 1,s1_0,s1_1,s1_2))) else (none))
theorem strconv_uscale.calls (a0:Int) (g:Nat) (s1_0:Int) (s1_1:Int) (s1_2:Int) (r1:Int) (r2:Int) (r3:Int) (r4:Int) (w0 w:World) (hI:IsS282 w0 w g s1_0 s1_1 s1_2) (hB:Below w0.heap.size w0 w) (h:strconv_uscale.f a0 s1_0 s1_1 s1_2=some (r1,r2,r3,r4)) :
 Calls Tryz.prog 247 #[.int .u64 a0, .pointer (some ⟨g,0,none⟩)] w fun e w'=>e = .returned (.int .u64 r1)∧IsS282 w0 w' g r2 r3 r4∧Below w0.heap.size w0 w'∧KeepBut w w' g none:=by
 have HI1:=Ak hI
 have HK:=Ak (KeepBut.refl w g none)
 have HL:=Ak hB.size
 clear hI
 have HW0:=Ak hB.size
 have HB:=Ak hB
 clear hB
 have H:((bits_Mul64.f a0 s1_0).bind fun btz0=>(if 0≤(Go.bits .and .i64 s1_2 63) then (if (shl .u64 (shr .u64 btz0.1 (Go.bits .and .i64 s1_2 63)) (Go.bits .and .i64 s1_2 63))=btz0.1 then ((bits_Mul64.f a0 s1_1).bind fun btz1=>((strconv_bool2_uint64.f (decide (btz0.2<btz1.1))).bind fun tz2=>((strconv_bool2_uint64.f (decide ((IntKind.u64.wrap (btz0.2 - btz1.1))>1))).bind fun tz3=>(some (Go.bits .or .u64 (shr .u64 (IntKind.u64.wrap (btz0.1 - tz2)) (Go.bits .and .i64 s1_2 63)) tz3,s1_0,s1_1,s1_2))))) else (some (Go.bits .or .u64 (shr .u64 btz0.1 (Go.bits .and .i64 s1_2 63)) 1,s1_0,s1_1,s1_2))) else (none)))=some (r1,r2,r3,r4):=h
 clear h
 replace H:=Option.bind_eq_some_iff.mp H
 obtain ⟨⟨tz0,tz4⟩,A30,H⟩:=H
 replace H:(if 0≤(Go.bits .and .i64 s1_2 63) then (if (shl .u64 (shr .u64 tz0 (Go.bits .and .i64 s1_2 63)) (Go.bits .and .i64 s1_2 63))=tz0 then ((bits_Mul64.f a0 s1_1).bind fun btz1=>((strconv_bool2_uint64.f (decide (tz4<btz1.1))).bind fun tz2=>((strconv_bool2_uint64.f (decide ((IntKind.u64.wrap (tz4 - btz1.1))>1))).bind fun tz3=>(some (Go.bits .or .u64 (shr .u64 (IntKind.u64.wrap (tz0 - tz2)) (Go.bits .and .i64 s1_2 63)) tz3,s1_0,s1_1,s1_2))))) else (some (Go.bits .or .u64 (shr .u64 tz0 (Go.bits .and .i64 s1_2 63)) 1,s1_0,s1_1,s1_2))) else (none))=some (r1,r2,r3,r4):=H
 have A3:=Ak A30
 clear A30
 by_cases c4:0≤(Go.bits .and .i64 s1_2 63)
 rotate_left
 ·
  rw [if_neg c4] at H
  exact absurd H (by simp)
 rw [if_pos c4] at H
 have c4b0:=eq_true c4
 have c4b1:decide (0≤(Go.bits .and .i64 s1_2 63))=true:=decide_eq_true c4
 clear c4
 obtain ⟨ji5,hji5⟩ : ∃ j_:Int,(shr .u64 tz0 (Go.bits .and .i64 s1_2 63))=j_:=⟨_,rfl⟩
 replace H:(if (shl .u64 (ji5) (Go.bits .and .i64 s1_2 63))=tz0 then ((bits_Mul64.f a0 s1_1).bind fun btz1=>((strconv_bool2_uint64.f (decide (tz4<btz1.1))).bind fun tz2=>((strconv_bool2_uint64.f (decide ((IntKind.u64.wrap (tz4 - btz1.1))>1))).bind fun tz3=>(some (Go.bits .or .u64 (shr .u64 (IntKind.u64.wrap (tz0 - tz2)) (Go.bits .and .i64 s1_2 63)) tz3,s1_0,s1_1,s1_2))))) else (some (Go.bits .or .u64 (ji5) 1,s1_0,s1_1,s1_2)))=some (r1,r2,r3,r4):=by first|(rw [hji5] at H;exact H)|(simp only [hji5] at H ⊢; exact H)
 (try rw [hji5] at A3)
 have hji5_:(tz0 / 2 ^ min (Go.bits .and .i64 s1_2 63).toNat 64)=ji5:=hji5
 have hji5z:(Go.bits .and .i64 s1_2 63)≤64→(tz0 / 2 ^ (Go.bits .and .i64 s1_2 63).toNat)=ji5:=shr_small hji5
 have c6b0:=eq_true (of_decide_eq_true oA:0≤(Go.bits .and .i64 s1_2 63))
 obtain ⟨ji7,hji7⟩ : ∃ j_:Int,(shl .u64 (ji5) (Go.bits .and .i64 s1_2 63))=j_:=⟨_,rfl⟩
 replace H:(if (ji7)=tz0 then ((bits_Mul64.f a0 s1_1).bind fun btz1=>((strconv_bool2_uint64.f (decide (tz4<btz1.1))).bind fun tz2=>((strconv_bool2_uint64.f (decide ((IntKind.u64.wrap (tz4 - btz1.1))>1))).bind fun tz3=>(some (Go.bits .or .u64 (shr .u64 (IntKind.u64.wrap (tz0 - tz2)) (Go.bits .and .i64 s1_2 63)) tz3,s1_0,s1_1,s1_2))))) else (some (Go.bits .or .u64 (ji5) 1,s1_0,s1_1,s1_2)))=some (r1,r2,r3,r4):=by first|(rw [hji7] at H;exact H)|(simp only [hji7] at H ⊢; exact H)
 (try rw [hji7] at A3)
 have hji7_:(IntKind.u64.wrap ((ji5)*2 ^ min (Go.bits .and .i64 s1_2 63).toNat 64))=ji7:=hji7
 have hji7z:(Go.bits .and .i64 s1_2 63)≤64→(IntKind.u64.wrap ((ji5)*2 ^ (Go.bits .and .i64 s1_2 63).toNat))=ji7:=shl_small hji7
 by_cases c8:(ji7)=tz0
 ·
  rw [if_pos c8] at H
  have c8b0:((ji7) == tz0)=true:=beq_iff_eq.mpr c8
  have c8b1:((ji7) != tz0)=false:=bne_eq_false_iff_eq.mpr c8
  clear c8
  replace H:=Option.bind_eq_some_iff.mp H
  obtain ⟨⟨tz1,tz5⟩,A90,H⟩:=H
  replace H:((strconv_bool2_uint64.f (decide (tz4<tz1))).bind fun tz2=>((strconv_bool2_uint64.f (decide ((IntKind.u64.wrap (tz4 - tz1))>1))).bind fun tz3=>(some (Go.bits .or .u64 (shr .u64 (IntKind.u64.wrap (tz0 - tz2)) (Go.bits .and .i64 s1_2 63)) tz3,s1_0,s1_1,s1_2))))=some (r1,r2,r3,r4):=H
  have A9:=Ak A90
  clear A90
  replace H:=Option.bind_eq_some_iff.mp H
  obtain ⟨tz2,A100,H⟩:=H
  replace H:((strconv_bool2_uint64.f (decide ((IntKind.u64.wrap (tz4 - tz1))>1))).bind fun tz3=>(some (Go.bits .or .u64 (shr .u64 (IntKind.u64.wrap (tz0 - tz2)) (Go.bits .and .i64 s1_2 63)) tz3,s1_0,s1_1,s1_2)))=some (r1,r2,r3,r4):=H
  have A10:=Ak A100
  clear A100
  have c11b0:=eq_true (of_decide_eq_true oA:0≤(Go.bits .and .i64 s1_2 63))
  obtain ⟨ji12,hji12⟩ : ∃ j_:Int,(shr .u64 (IntKind.u64.wrap (tz0 - tz2)) (Go.bits .and .i64 s1_2 63))=j_:=⟨_,rfl⟩
  replace H:((strconv_bool2_uint64.f (decide ((IntKind.u64.wrap (tz4 - tz1))>1))).bind fun tz3=>(some (Go.bits .or .u64 (ji12) tz3,s1_0,s1_1,s1_2)))=some (r1,r2,r3,r4):=by first|(rw [hji12] at H;exact H)|(simp only [hji12] at H ⊢; exact H)
  (try rw [hji12] at A3)
  (try rw [hji12] at A9)
  (try rw [hji12] at A10)
  have hji12_:((IntKind.u64.wrap (tz0 - tz2)) / 2 ^ min (Go.bits .and .i64 s1_2 63).toNat 64)=ji12:=hji12
  have hji12z:(Go.bits .and .i64 s1_2 63)≤64→((IntKind.u64.wrap (tz0 - tz2)) / 2 ^ (Go.bits .and .i64 s1_2 63).toNat)=ji12:=shr_small hji12
  replace H:=Option.bind_eq_some_iff.mp H
  obtain ⟨tz3,A130,H⟩:=H
  replace H:(some (Go.bits .or .u64 (ji12) tz3,s1_0,s1_1,s1_2))=some (r1,r2,r3,r4):=H
  have A13:=Ak A130
  clear A130
  simp only [Option.some.injEq,Prod.mk.injEq] at H
  obtain ⟨rfl,rfl,rfl,rfl⟩:=H
  obtain ⟨HGz14,hgz14⟩:=HI1.out
  have hcz14_0:=cellS282_0 HGz14
  have hcz14_1:=cellS282_1 HGz14
  have hcz14_2:=cellS282_2 HGz14
  have hfz14_0:=blk_frozen HGz14 0
  have hfz14_1:=blk_frozen HGz14 1
  have hfz14_2:=blk_frozen HGz14 2
  clear HGz14 hgz14
  go_enter Tryz.func247,Tryz.ntmps247
  go_wp2_with (first|(go_at_call 270;(with_reducible refine (bits_Mul64.calls a0 s1_0 tz0 tz4 _ A3.out).mono ?_);rintro e w' ⟨rfl,⟨nd,rfl⟩⟩;(try first|exact ⟨rfl,_,World.drewN_drewN _ _ _⟩|exact ⟨rfl,_,Eq.trans (World.drewN_drewN _ _ _) (congrArg (World.drewN _) (Nat.add_assoc _ _ _))⟩))|(go_at_call 270;(with_reducible refine (bits_Mul64.calls a0 s1_1 tz1 tz5 _ A9.out).mono ?_);rintro e w' ⟨rfl,⟨nd,rfl⟩⟩;(try first|exact ⟨rfl,_,World.drewN_drewN _ _ _⟩|exact ⟨rfl,_,Eq.trans (World.drewN_drewN _ _ _) (congrArg (World.drewN _) (Nat.add_assoc _ _ _))⟩))|(go_at_call 222;(with_reducible refine (strconv_bool2_uint64.calls (decide (tz4<tz1)) tz2 _ A10.out).mono ?_);rintro e w' ⟨rfl,⟨nd,rfl⟩⟩;(try first|exact ⟨rfl,_,World.drewN_drewN _ _ _⟩|exact ⟨rfl,_,Eq.trans (World.drewN_drewN _ _ _) (congrArg (World.drewN _) (Nat.add_assoc _ _ _))⟩))|(go_at_call 222;(with_reducible refine (strconv_bool2_uint64.calls (decide ((IntKind.u64.wrap (tz4 - tz1))>1)) tz3 _ A13.out).mono ?_);rintro e w' ⟨rfl,⟨nd,rfl⟩⟩;(try first|exact ⟨rfl,_,World.drewN_drewN _ _ _⟩|exact ⟨rfl,_,Eq.trans (World.drewN_drewN _ _ _) (congrArg (World.drewN _) (Nat.add_assoc _ _ _))⟩)))
  repeat (go_quiet (first|(go_at_call 270;(with_reducible refine (bits_Mul64.calls a0 s1_0 tz0 tz4 _ A3.out).mono ?_);rintro e w' ⟨rfl,⟨nd,rfl⟩⟩;(try first|exact ⟨rfl,_,World.drewN_drewN _ _ _⟩|exact ⟨rfl,_,Eq.trans (World.drewN_drewN _ _ _) (congrArg (World.drewN _) (Nat.add_assoc _ _ _))⟩))|(go_at_call 270;(with_reducible refine (bits_Mul64.calls a0 s1_1 tz1 tz5 _ A9.out).mono ?_);rintro e w' ⟨rfl,⟨nd,rfl⟩⟩;(try first|exact ⟨rfl,_,World.drewN_drewN _ _ _⟩|exact ⟨rfl,_,Eq.trans (World.drewN_drewN _ _ _) (congrArg (World.drewN _) (Nat.add_assoc _ _ _))⟩))|(go_at_call 222;(with_reducible refine (strconv_bool2_uint64.calls (decide (tz4<tz1)) tz2 _ A10.out).mono ?_);rintro e w' ⟨rfl,⟨nd,rfl⟩⟩;(try first|exact ⟨rfl,_,World.drewN_drewN _ _ _⟩|exact ⟨rfl,_,Eq.trans (World.drewN_drewN _ _ _) (congrArg (World.drewN _) (Nat.add_assoc _ _ _))⟩))|(go_at_call 222;(with_reducible refine (strconv_bool2_uint64.calls (decide ((IntKind.u64.wrap (tz4 - tz1))>1)) tz3 _ A13.out).mono ?_);rintro e w' ⟨rfl,⟨nd,rfl⟩⟩;(try first|exact ⟨rfl,_,World.drewN_drewN _ _ _⟩|exact ⟨rfl,_,Eq.trans (World.drewN_drewN _ _ _) (congrArg (World.drewN _) (Nat.add_assoc _ _ _))⟩)));try go_wp2_with (first|(go_at_call 270;(with_reducible refine (bits_Mul64.calls a0 s1_0 tz0 tz4 _ A3.out).mono ?_);rintro e w' ⟨rfl,⟨nd,rfl⟩⟩;(try first|exact ⟨rfl,_,World.drewN_drewN _ _ _⟩|exact ⟨rfl,_,Eq.trans (World.drewN_drewN _ _ _) (congrArg (World.drewN _) (Nat.add_assoc _ _ _))⟩))|(go_at_call 270;(with_reducible refine (bits_Mul64.calls a0 s1_1 tz1 tz5 _ A9.out).mono ?_);rintro e w' ⟨rfl,⟨nd,rfl⟩⟩;(try first|exact ⟨rfl,_,World.drewN_drewN _ _ _⟩|exact ⟨rfl,_,Eq.trans (World.drewN_drewN _ _ _) (congrArg (World.drewN _) (Nat.add_assoc _ _ _))⟩))|(go_at_call 222;(with_reducible refine (strconv_bool2_uint64.calls (decide (tz4<tz1)) tz2 _ A10.out).mono ?_);rintro e w' ⟨rfl,⟨nd,rfl⟩⟩;(try first|exact ⟨rfl,_,World.drewN_drewN _ _ _⟩|exact ⟨rfl,_,Eq.trans (World.drewN_drewN _ _ _) (congrArg (World.drewN _) (Nat.add_assoc _ _ _))⟩))|(go_at_call 222;(with_reducible refine (strconv_bool2_uint64.calls (decide ((IntKind.u64.wrap (tz4 - tz1))>1)) tz3 _ A13.out).mono ?_);rintro e w' ⟨rfl,⟨nd,rfl⟩⟩;(try first|exact ⟨rfl,_,World.drewN_drewN _ _ _⟩|exact ⟨rfl,_,Eq.trans (World.drewN_drewN _ _ _) (congrArg (World.drewN _) (Nat.add_assoc _ _ _))⟩))))
  go_ret
  exact ⟨by first|rfl|(simp [errW_none,errW_some] <;> rfl)|(simp only [← hji5, ← hji7, ← hji12];first|rfl|(simp [errW_none,errW_some] <;> rfl))|(simp [*, errW_none,errW_some] <;> rfl),by repeat (first|(with_reducible first|exact HI1.out|apply IsS282.alloc|apply IsS282.drewN|apply IsS282.drew|apply IsS282.set_0|apply IsS282.set_1|apply IsS282.set_2)|exact HI1.out),by repeat (first|(with_reducible first|exact HB.out|apply below_alloc|apply pw_below_drewN|apply below_drew1|refine below_set ?_ (IsS282.ge HI1.out))|exact HB.out),oK⟩
 rw [if_neg c8] at H
 have c8b0:((ji7) == tz0)=false:=beq_eq_false_iff_ne.mpr c8
 have c8b1:((ji7) != tz0)=true:=bne_iff_ne.mpr c8
 have c15b0:=eq_true (of_decide_eq_true oA:0≤(Go.bits .and .i64 s1_2 63))
 simp only [Option.some.injEq,Prod.mk.injEq] at H
 obtain ⟨rfl,rfl,rfl,rfl⟩:=H
 obtain ⟨HGz17,hgz17⟩:=HI1.out
 have hcz17_0:=cellS282_0 HGz17
 have hcz17_1:=cellS282_1 HGz17
 have hcz17_2:=cellS282_2 HGz17
 have hfz17_0:=blk_frozen HGz17 0
 have hfz17_1:=blk_frozen HGz17 1
 have hfz17_2:=blk_frozen HGz17 2
 clear HGz17 hgz17
 go_enter Tryz.func247,Tryz.ntmps247
 go_wp2_with (first|(go_at_call 270;(with_reducible refine (bits_Mul64.calls a0 s1_0 tz0 tz4 _ A3.out).mono ?_);rintro e w' ⟨rfl,⟨nd,rfl⟩⟩;(try first|exact ⟨rfl,_,World.drewN_drewN _ _ _⟩|exact ⟨rfl,_,Eq.trans (World.drewN_drewN _ _ _) (congrArg (World.drewN _) (Nat.add_assoc _ _ _))⟩)))
 repeat (go_quiet (first|(go_at_call 270;(with_reducible refine (bits_Mul64.calls a0 s1_0 tz0 tz4 _ A3.out).mono ?_);rintro e w' ⟨rfl,⟨nd,rfl⟩⟩;(try first|exact ⟨rfl,_,World.drewN_drewN _ _ _⟩|exact ⟨rfl,_,Eq.trans (World.drewN_drewN _ _ _) (congrArg (World.drewN _) (Nat.add_assoc _ _ _))⟩)));try go_wp2_with (first|(go_at_call 270;(with_reducible refine (bits_Mul64.calls a0 s1_0 tz0 tz4 _ A3.out).mono ?_);rintro e w' ⟨rfl,⟨nd,rfl⟩⟩;(try first|exact ⟨rfl,_,World.drewN_drewN _ _ _⟩|exact ⟨rfl,_,Eq.trans (World.drewN_drewN _ _ _) (congrArg (World.drewN _) (Nat.add_assoc _ _ _))⟩))))
 go_ret
 exact ⟨by first|rfl|(simp [errW_none,errW_some] <;> rfl)|(simp only [← hji5, ← hji7];first|rfl|(simp [errW_none,errW_some] <;> rfl))|(simp [*, errW_none,errW_some] <;> rfl),by repeat (first|(with_reducible first|exact HI1.out|apply IsS282.alloc|apply IsS282.drewN|apply IsS282.drew|apply IsS282.set_0|apply IsS282.set_1|apply IsS282.set_2)|exact HI1.out),by repeat (first|(with_reducible first|exact HB.out|apply below_alloc|apply pw_below_drewN|apply below_drew1|refine below_set ?_ (IsS282.ge HI1.out))|exact HB.out),oK⟩
/-! ### strconv_unmin: function 249 -/
def strconv_unmin.f (a0:Int):Option (Int):=some (IntKind.u64.wrap ((IntKind.u64.wrap (a0*4)) - 2))
theorem strconv_unmin.calls (a0:Int) (r:Int) (w:World) (h:strconv_unmin.f a0=some r) :
 Calls Tryz.prog 249 #[.int .u64 a0] w fun e w'=>e = .returned (.int .u64 r)∧Drawn0 w w':=by
 have H:(some (IntKind.u64.wrap ((IntKind.u64.wrap (a0*4)) - 2)))=some r:=h
 clear h
 obtain rfl:=Option.some.inj H
 go_enter Tryz.func249,Tryz.ntmps249
 go_wp2
 go_ret
 exact ⟨oS,by repeat (first|exact Drawn0.refl _|apply Drawn0.step)⟩
-- NOT PRINTED: function 250 (strconv_pack32)
/-! ### strconv_unrounded_round: function 251 -/
def strconv_unrounded_round.f (a0:Int):Option (Int):=some ((IntKind.u64.wrap ((IntKind.u64.wrap (a0+1))+(Go.bits .and .u64 (a0 / 4) 1))) / 4)
theorem strconv_unrounded_round.calls (a0:Int) (r:Int) (w:World) (h:strconv_unrounded_round.f a0=some r) :
 Calls Tryz.prog 251 #[.int .u64 a0] w fun e w'=>e = .returned (.int .u64 r)∧Drawn0 w w':=by
 have H:(some ((IntKind.u64.wrap ((IntKind.u64.wrap (a0+1))+(Go.bits .and .u64 (a0 / 4) 1))) / 4))=some r:=h
 clear h
 obtain rfl:=Option.some.inj H
 go_enter Tryz.func251,Tryz.ntmps251
 go_wp2
 go_ret
 exact ⟨oS,by repeat (first|exact Drawn0.refl _|apply Drawn0.step)⟩
-- NOT PRINTED: function 219 (strconv_parseFloat32)
-- NOT PRINTED: function 220 (strconv_decimal_set)
-- NOT PRINTED: function 262 (strconv_trim)
/-! ### strconv_prefixIsLessThan: function 272 -/
def strconv_prefixIsLessThan.l0:Nat→List Int→ByteArray→Int→Option (Bool)
  | 0,_,_,_=>none
  | k+1,x0,x1,x5=>if x5<(x1.size:Int) then (if x5 ≥ (x0.length:Int) then (some true) else (if 0≤x5 then (if x5<(x0.length:Int) then (if (rd x0 x5)=(bt x1 x5) then (strconv_prefixIsLessThan.l0 k x0 x1 (wrap64 (x5+1))) else (some (decide ((rd x0 x5)<(bt x1 x5))))) else (none)) else (none))) else (some false)
def strconv_prefixIsLessThan.f (k:Nat) (l0:List Int) (a1:ByteArray):Option (Bool):=strconv_prefixIsLessThan.l0 k l0 a1 0
theorem strconv_prefixIsLessThan.calls (k:Nat) (A0:Option Addr) (c0:Nat) (l0:List Int) (a1:ByteArray) (r:Bool) (w:World) (hr0:Kd.C (Kd.int .u8) w A0 l0.length l0) (hc0:l0.length≤c0) (h:strconv_prefixIsLessThan.f k l0 a1=some r) :
 Calls Tryz.prog 272 #[.slice A0 l0.length c0, .string a1] w fun e w'=>e = .returned (.bool r)∧Drawn0 w w':=by
 have HR0:=Ak hr0
 have HC0:=Ak hc0
 clear hr0 hc0
 have H:(strconv_prefixIsLessThan.l0 k l0 a1 0)=some r:=h
 clear h
 have H':=Ak H
 clear H
 go_enter Tryz.func272,Tryz.ntmps272
 go_wp2
 repeat (go_quiet (fail);try go_wp2)
 (try simp only [Act.put,List.setIfInBounds_toArray,List.set_cons_zero,List.set_cons_succ])
 go_loopg [5] k (fun kq v5 w' => ∃ (x5_1:Int),v5 = .int .i64 x5_1∧Aside0 (strconv_prefixIsLessThan.l0 kq l0 a1 x5_1=some r)∧Aside0 (kq≤k)∧Drawn0 w w')
 case atStart=>exact ⟨(0),oS,H',⟨Nat.le_refl _⟩,by repeat (first|exact Drawn0.refl _|apply Drawn0.step)⟩
 case round =>
 clear H'
 try clear c2
 try clear p2
 obtain ⟨x5_1,rfl,HA,HK1,⟨m1,rfl⟩⟩:=hrel
 cases gk with
 | zero=>exact absurd HA.out (by simp [strconv_prefixIsLessThan.l0])
 | succ k1 =>
  have H:=HA.out
  clear HA
  simp only [strconv_prefixIsLessThan.l0] at H
  by_cases c3:x5_1<(a1.size:Int)
  rotate_left
  ·
   rw [if_neg c3] at H
   have c3b0:decide (x5_1<(a1.size:Int))=false:=decide_eq_false c3
   clear c3
   obtain rfl:=Option.some.inj H
   go_wp2
   repeat (go_quiet (fail);try go_wp2)
   go_ret
   exact ⟨oS,by repeat (first|exact Drawn0.refl _|apply Drawn0.step)⟩
  rw [if_pos c3] at H
  have c3b0:decide (x5_1<(a1.size:Int))=true:=decide_eq_true c3
  clear c3
  by_cases c4:x5_1 ≥ (l0.length:Int)
  ·
   rw [if_pos c4] at H
   have c4b0:decide ((l0.length:Int)≤x5_1)=true:=decide_eq_true c4
   clear c4
   obtain rfl:=Option.some.inj H
   go_wp2
   repeat (go_quiet (fail);try go_wp2)
   go_ret
   exact ⟨oS,by repeat (first|exact Drawn0.refl _|apply Drawn0.step)⟩
  rw [if_neg c4] at H
  have c4b0:decide ((l0.length:Int)≤x5_1)=false:=decide_eq_false c4
  clear c4
  by_cases c5:0≤x5_1
  ·
   rw [if_pos c5] at H
   have c5b0:decide (0≤x5_1)=true:=decide_eq_true c5
   clear c5
   by_cases c6:x5_1<(l0.length:Int)
   rotate_left
   ·
    rw [if_neg c6] at H
    exact absurd H (by simp)
   rw [if_pos c6] at H
   have c6b0:decide (x5_1<(l0.length:Int))=true:=decide_eq_true c6
   clear c6
   by_cases c8:(rd l0 x5_1)=(bt a1 x5_1)
   ·
    rw [if_pos c8] at H
    have c8b0:((rd l0 x5_1) == (bt a1 x5_1))=true:=beq_iff_eq.mpr c8
    have c8b1:((rd l0 x5_1) != (bt a1 x5_1))=false:=bne_eq_false_iff_eq.mpr c8
    clear c8
    have H':=Ak H
    clear H
    have pz0:0≤(x5_1:Int):=of_decide_eq_true oA
    have qz0:x5_1<(l0.length:Int):=of_decide_eq_true oA
    obtain ⟨adz0,ez0,hxz0_0⟩:=Kd.at_int HR0.out x5_1 pz0 qz0
    cases ez0
    replace pz0:=eq_true pz0
    replace qz0:=eq_true qz0
    have p7:0≤(x5_1:Int):=of_decide_eq_true oA
    have q7:x5_1<(a1.size:Int):=of_decide_eq_true oA
    have hx7:=bt_at a1 x5_1
    replace p7:=eq_true p7
    replace q7:=eq_true q7
    go_wp2
    repeat (go_quiet (fail);try go_wp2)
    go_roundg k1
    case measure=>have:=HK1.out;omega
    case rel=>exact ⟨(wrap64 (x5_1+1)),oS,H',⟨by have:=HK1.out;omega⟩,by repeat (first|exact Drawn0.refl _|apply Drawn0.step)⟩
   rw [if_neg c8] at H
   have c8b0:((rd l0 x5_1) == (bt a1 x5_1))=false:=beq_eq_false_iff_ne.mpr c8
   have c8b1:((rd l0 x5_1) != (bt a1 x5_1))=true:=bne_iff_ne.mpr c8
   obtain rfl:=Option.some.inj H
   have pz0:0≤(x5_1:Int):=of_decide_eq_true oA
   have qz0:x5_1<(l0.length:Int):=of_decide_eq_true oA
   obtain ⟨adz0,ez0,hxz0_0⟩:=Kd.at_int HR0.out x5_1 pz0 qz0
   cases ez0
   replace pz0:=eq_true pz0
   replace qz0:=eq_true qz0
   have p7:0≤(x5_1:Int):=of_decide_eq_true oA
   have q7:x5_1<(a1.size:Int):=of_decide_eq_true oA
   have hx7:=bt_at a1 x5_1
   replace p7:=eq_true p7
   replace q7:=eq_true q7
   have pz1:0≤(x5_1:Int):=of_decide_eq_true oA
   have qz1:x5_1<(l0.length:Int):=of_decide_eq_true oA
   obtain ⟨adz1,ez1,hxz1_0⟩:=Kd.at_int HR0.out x5_1 pz1 qz1
   obtain rfl:adz0=adz1:=(by injection ez1)
   replace pz1:=eq_true pz1
   replace qz1:=eq_true qz1
   have p9:0≤(x5_1:Int):=of_decide_eq_true oA
   have q9:x5_1<(a1.size:Int):=of_decide_eq_true oA
   have hx9:=bt_at a1 x5_1
   replace p9:=eq_true p9
   replace q9:=eq_true q9
   go_wp2
   repeat (go_quiet (fail);try go_wp2)
   go_ret
   exact ⟨oS,by repeat (first|exact Drawn0.refl _|apply Drawn0.step)⟩
  rw [if_neg c5] at H
  exact absurd H (by simp)
-- NOT PRINTED: function 263 (strconv_leftShift)
-- NOT PRINTED: function 264 (strconv_rightShift)
-- NOT PRINTED: function 238 (strconv_decimal_Shift)
-- NOT PRINTED: function 265 (strconv_shouldRoundUp)
-- NOT PRINTED: function 252 (strconv_decimal_RoundedInteger)
-- NOT PRINTED: function 221 (strconv_decimal_floatBits)
-- NOT PRINTED: function 207 (strconv_atof32)
-- NOT PRINTED: function 224 (strconv_atof64exact)
-- NOT PRINTED: function 253 (strconv_pack64)
-- NOT PRINTED: function 225 (strconv_parseFloat64)
-- NOT PRINTED: function 208 (strconv_atof64)
-- NOT PRINTED: function 194 (strconv_parseFloatPrefix)
-- NOT PRINTED: function 166 (strconv_ParseFloat_166)
-- NOT PRINTED: function 120 (strconv_ParseFloat_120)
-- NOT PRINTED: function 93 (gjson_tonum)
/-! ### gjson_tolit: function 94 -/
def gjson_tolit.l0:Nat→ByteArray→Int→Option (ByteArray)
  | 0,_,_=>none
  | k+1,x0,x3=>if x3<(x0.size:Int) then (if 0≤x3 then (if (bt x0 x3)<97 then (if x3≤(x0.size:Int) then (some (x0.extract 0 (x3:Int).toNat)) else (none)) else (if (bt x0 x3)>122 then (if x3≤(x0.size:Int) then (some (x0.extract 0 (x3:Int).toNat)) else (none)) else (gjson_tolit.l0 k x0 (wrap64 (x3+1))))) else (none)) else (some x0)
def gjson_tolit.f (k:Nat) (a0:ByteArray):Option (ByteArray):=gjson_tolit.l0 k a0 1
theorem gjson_tolit.calls (k:Nat) (a0:ByteArray) (r:ByteArray) (w:World) (h:gjson_tolit.f k a0=some r) :
 Calls Tryz.prog 94 #[.string a0] w fun e w'=>e = .returned (.string r)∧Drawn0 w w':=by
 have H:(gjson_tolit.l0 k a0 1)=some r:=h
 clear h
 have H':=Ak H
 clear H
 go_enter Tryz.func94,Tryz.ntmps94
 go_wp2
 (try simp only [Act.put,List.setIfInBounds_toArray,List.set_cons_zero,List.set_cons_succ])
 go_loopg [3] k (fun kq v3 w' => ∃ (x3_1:Int),v3 = .int .i64 x3_1∧Aside0 (gjson_tolit.l0 kq a0 x3_1=some r)∧Aside0 (kq≤k)∧Drawn0 w w')
 case atStart=>exact ⟨(1),oS,H',⟨Nat.le_refl _⟩,by repeat (first|exact Drawn0.refl _|apply Drawn0.step)⟩
 case round =>
 clear H'
 obtain ⟨x3_1,rfl,HA,HK1,⟨m1,rfl⟩⟩:=hrel
 cases gk with
 | zero=>exact absurd HA.out (by simp [gjson_tolit.l0])
 | succ k1 =>
  have H:=HA.out
  clear HA
  simp only [gjson_tolit.l0] at H
  by_cases c2:x3_1<(a0.size:Int)
  rotate_left
  ·
   rw [if_neg c2] at H
   have c2b0:decide (x3_1<(a0.size:Int))=false:=decide_eq_false c2
   clear c2
   obtain rfl:=Option.some.inj H
   go_wp2
   go_ret
   exact ⟨oS,by repeat (first|exact Drawn0.refl _|apply Drawn0.step)⟩
  rw [if_pos c2] at H
  have c2b0:decide (x3_1<(a0.size:Int))=true:=decide_eq_true c2
  clear c2
  by_cases c3:0≤x3_1
  ·
   rw [if_pos c3] at H
   have c3b0:decide (0≤x3_1)=true:=decide_eq_true c3
   clear c3
   by_cases c5:(bt a0 x3_1)<97
   ·
    rw [if_pos c5] at H
    have c5b0:decide ((bt a0 x3_1)<97)=true:=decide_eq_true c5
    clear c5
    have c6b0:=eq_true (of_decide_eq_true oA:0≤x3_1)
    by_cases c7:x3_1≤(a0.size:Int)
    rotate_left
    ·
     rw [if_neg c7] at H
     exact absurd H (by simp)
    rw [if_pos c7] at H
    have c7b0:=eq_true c7
    have c7b1:decide (x3_1≤(a0.size:Int))=true:=decide_eq_true c7
    clear c7
    obtain rfl:=Option.some.inj H
    have p4:0≤(x3_1:Int):=of_decide_eq_true oA
    have q4:x3_1<(a0.size:Int):=of_decide_eq_true oA
    have hx4:=bt_at a0 x3_1
    replace p4:=eq_true p4
    replace q4:=eq_true q4
    go_wp2
    go_ret
    exact ⟨oS,by repeat (first|exact Drawn0.refl _|apply Drawn0.step)⟩
   rw [if_neg c5] at H
   have c5b0:decide ((bt a0 x3_1)<97)=false:=decide_eq_false c5
   clear c5
   by_cases c9:(bt a0 x3_1)>122
   ·
    rw [if_pos c9] at H
    have c9b0:decide (122<(bt a0 x3_1))=true:=decide_eq_true c9
    clear c9
    have c10b0:=eq_true (of_decide_eq_true oA:0≤x3_1)
    by_cases c11:x3_1≤(a0.size:Int)
    rotate_left
    ·
     rw [if_neg c11] at H
     exact absurd H (by simp)
    rw [if_pos c11] at H
    have c11b0:=eq_true c11
    have c11b1:decide (x3_1≤(a0.size:Int))=true:=decide_eq_true c11
    clear c11
    obtain rfl:=Option.some.inj H
    have p4:0≤(x3_1:Int):=of_decide_eq_true oA
    have q4:x3_1<(a0.size:Int):=of_decide_eq_true oA
    have hx4:=bt_at a0 x3_1
    replace p4:=eq_true p4
    replace q4:=eq_true q4
    have p8:0≤(x3_1:Int):=of_decide_eq_true oA
    have q8:x3_1<(a0.size:Int):=of_decide_eq_true oA
    have hx8:=bt_at a0 x3_1
    replace p8:=eq_true p8
    replace q8:=eq_true q8
    go_wp2
    go_ret
    exact ⟨oS,by repeat (first|exact Drawn0.refl _|apply Drawn0.step)⟩
   rw [if_neg c9] at H
   have c9b0:decide (122<(bt a0 x3_1))=false:=decide_eq_false c9
   clear c9
   have H':=Ak H
   clear H
   have p4:0≤(x3_1:Int):=of_decide_eq_true oA
   have q4:x3_1<(a0.size:Int):=of_decide_eq_true oA
   have hx4:=bt_at a0 x3_1
   replace p4:=eq_true p4
   replace q4:=eq_true q4
   have p8:0≤(x3_1:Int):=of_decide_eq_true oA
   have q8:x3_1<(a0.size:Int):=of_decide_eq_true oA
   have hx8:=bt_at a0 x3_1
   replace p8:=eq_true p8
   replace q8:=eq_true q8
   go_wp2
   go_roundg k1
   case measure=>have:=HK1.out;omega
   case rel=>exact ⟨(wrap64 (x3_1+1)),oS,H',⟨by have:=HK1.out;omega⟩,by repeat (first|exact Drawn0.refl _|apply Drawn0.step)⟩
  rw [if_neg c3] at H
  exact absurd H (by simp)
-- NOT PRINTED: function 193 (strconv_ParseUint_193)
-- NOT PRINTED: function 165 (strconv_ParseUint_165)
-- NOT PRINTED: function 133 (gjson_runeit)
/-! ### utf16_IsSurrogate: function 134 -/
def utf16_IsSurrogate.f (a0:Int):Option (Bool):=if 55296≤a0 then (some (decide (a0<57344))) else (some false)
theorem utf16_IsSurrogate.calls (a0:Int) (r:Bool) (w:World) (h:utf16_IsSurrogate.f a0=some r) :
 Calls Tryz.prog 134 #[.int .i32 a0] w fun e w'=>e = .returned (.bool r)∧Drawn0 w w':=by
 have H:(if 55296≤a0 then (some (decide (a0<57344))) else (some false))=some r:=h
 clear h
 by_cases c2:55296≤a0
 ·
  rw [if_pos c2] at H
  have c2b0:decide (55296≤a0)=true:=decide_eq_true c2
  clear c2
  obtain rfl:=Option.some.inj H
  go_enter Tryz.func134,Tryz.ntmps134
  go_wp2
  go_ret
  exact ⟨oS,by repeat (first|exact Drawn0.refl _|apply Drawn0.step)⟩
 rw [if_neg c2] at H
 have c2b0:decide (55296≤a0)=false:=decide_eq_false c2
 clear c2
 obtain rfl:=Option.some.inj H
 go_enter Tryz.func134,Tryz.ntmps134
 go_wp2
 go_ret
 exact ⟨oS,by repeat (first|exact Drawn0.refl _|apply Drawn0.step)⟩
/-! ### utf16_DecodeRune: function 135 -/
def utf16_DecodeRune.f (a0:Int) (a1:Int):Option (Int):=if 55296≤a0 then (if a0<56320 then (if 56320≤a1 then (if a1<57344 then (some (wrap32 ((Go.bits .or .i32 (wrap32 ((wrap32 (a0 - 55296))*1024)) (wrap32 (a1 - 56320)))+65536))) else (some 65533)) else (some 65533)) else (some 65533)) else (some 65533)
theorem utf16_DecodeRune.calls (a0:Int) (a1:Int) (r:Int) (w:World) (h:utf16_DecodeRune.f a0 a1=some r) :
 Calls Tryz.prog 135 #[.int .i32 a0, .int .i32 a1] w fun e w'=>e = .returned (.int .i32 r)∧Drawn0 w w':=by
 have H:(if 55296≤a0 then (if a0<56320 then (if 56320≤a1 then (if a1<57344 then (some (wrap32 ((Go.bits .or .i32 (wrap32 ((wrap32 (a0 - 55296))*1024)) (wrap32 (a1 - 56320)))+65536))) else (some 65533)) else (some 65533)) else (some 65533)) else (some 65533))=some r:=h
 clear h
 by_cases c3:55296≤a0
 rotate_left
 ·
  rw [if_neg c3] at H
  have c3b0:decide (55296≤a0)=false:=decide_eq_false c3
  clear c3
  obtain rfl:=Option.some.inj H
  go_enter Tryz.func135,Tryz.ntmps135
  go_wp2
  go_ret
  exact ⟨oS,by repeat (first|exact Drawn0.refl _|apply Drawn0.step)⟩
 rw [if_pos c3] at H
 have c3b0:decide (55296≤a0)=true:=decide_eq_true c3
 clear c3
 by_cases c4:a0<56320
 ·
  rw [if_pos c4] at H
  have c4b0:decide (a0<56320)=true:=decide_eq_true c4
  clear c4
  by_cases c5:56320≤a1
  rotate_left
  ·
   rw [if_neg c5] at H
   have c5b0:decide (56320≤a1)=false:=decide_eq_false c5
   clear c5
   obtain rfl:=Option.some.inj H
   go_enter Tryz.func135,Tryz.ntmps135
   go_wp2
   go_ret
   exact ⟨oS,by repeat (first|exact Drawn0.refl _|apply Drawn0.step)⟩
  rw [if_pos c5] at H
  have c5b0:decide (56320≤a1)=true:=decide_eq_true c5
  clear c5
  by_cases c6:a1<57344
  ·
   rw [if_pos c6] at H
   have c6b0:decide (a1<57344)=true:=decide_eq_true c6
   clear c6
   obtain rfl:=Option.some.inj H
   go_enter Tryz.func135,Tryz.ntmps135
   go_wp2
   go_ret
   exact ⟨oS,by repeat (first|exact Drawn0.refl _|apply Drawn0.step)⟩
  rw [if_neg c6] at H
  have c6b0:decide (a1<57344)=false:=decide_eq_false c6
  clear c6
  obtain rfl:=Option.some.inj H
  go_enter Tryz.func135,Tryz.ntmps135
  go_wp2
  go_ret
  exact ⟨oS,by repeat (first|exact Drawn0.refl _|apply Drawn0.step)⟩
 rw [if_neg c4] at H
 have c4b0:decide (a0<56320)=false:=decide_eq_false c4
 clear c4
 obtain rfl:=Option.some.inj H
 go_enter Tryz.func135,Tryz.ntmps135
 go_wp2
 go_ret
 exact ⟨oS,by repeat (first|exact Drawn0.refl _|apply Drawn0.step)⟩
end Go.Proofs.YtnejkimpkaopoaaGreatDoor.Q

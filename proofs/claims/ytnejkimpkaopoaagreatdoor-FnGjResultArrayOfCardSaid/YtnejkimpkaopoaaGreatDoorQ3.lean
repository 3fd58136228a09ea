/- Functions of the program as Lean functions, each with a proof that the call comes to what it gives. Written by prx.py (wip/pr). -/
import Derived.Test.YtnejkimpkaopoaaGreatDoorQ0
import Derived.Test.YtnejkimpkaopoaaGreatDoorQ1
import Derived.Test.YtnejkimpkaopoaaGreatDoorQ2
namespace Go.Proofs.YtnejkimpkaopoaaGreatDoor.Q
open RowKit YtnejkimpkaopoaaGreatDoorW.PrintWords YtnejkimpkaopoaaGreatDoorW.PrintLast YtnejkimpkaopoaaGreatDoorW.PrintMore
set_option maxHeartbeats 8000000
set_option maxRecDepth 100000
attribute [local go_sem] max2_int min2_int max_two min_two max_three min_three max_four min_four
set_option linter.unusedVariables false
set_option linter.unusedSimpArgs false
/-! ### rW: function 155 -/
def rW.f (s0_0:ByteArray) (s0_1:Int) (a1:ByteArray):Option (Bool × ByteArray × Int):=if (wrap64 ((s0_0.size:Int) - s0_1))<(a1.size:Int) then (some (false,s0_0,s0_1)) else (if 0≤s0_1 then (if s0_1≤(wrap64 (s0_1+(a1.size:Int))) then (if (wrap64 (s0_1+(a1.size:Int)))≤(s0_0.size:Int) then (if (s0_0.extract (s0_1:Int).toNat ((wrap64 (s0_1+(a1.size:Int))):Int).toNat).toList=a1.toList then (some (true,s0_0,wrap64 (s0_1+(a1.size:Int)))) else (some (false,s0_0,s0_1))) else (none)) else (none)) else (none))
theorem rW.calls (g:Nat) (s0_0:ByteArray) (s0_1:Int) (a1:ByteArray) (r1:Bool) (r2:ByteArray) (r3:Int) (w0 w:World) (hI:IsS152 w0 w g s0_0 s0_1) (hB:Below w0.heap.size w0 w) (h:rW.f s0_0 s0_1 a1=some (r1,r2,r3)) :
 Calls Tryz.prog 155 #[.pointer (some ⟨g,0,none⟩), .string a1] w fun e w'=>e = .returned (.bool r1)∧IsS152 w0 w' g r2 r3∧Below w0.heap.size w0 w'∧KeepBut w w' g none:=by
 have HI0:=Ak hI
 have HK:=Ak (KeepBut.refl w g none)
 have HL:=Ak hB.size
 clear hI
 have HW0:=Ak hB.size
 have HB:=Ak hB
 clear hB
 have H:(if (wrap64 ((s0_0.size:Int) - s0_1))<(a1.size:Int) then (some (false,s0_0,s0_1)) else (if 0≤s0_1 then (if s0_1≤(wrap64 (s0_1+(a1.size:Int))) then (if (wrap64 (s0_1+(a1.size:Int)))≤(s0_0.size:Int) then (if (s0_0.extract (s0_1:Int).toNat ((wrap64 (s0_1+(a1.size:Int))):Int).toNat).toList=a1.toList then (some (true,s0_0,wrap64 (s0_1+(a1.size:Int)))) else (some (false,s0_0,s0_1))) else (none)) else (none)) else (none)))=some (r1,r2,r3):=h
 clear h
 by_cases c3:(wrap64 ((s0_0.size:Int) - s0_1))<(a1.size:Int)
 ·
  rw [if_pos c3] at H
  have c3b0:decide ((wrap64 ((s0_0.size:Int) - s0_1))<(a1.size:Int))=true:=decide_eq_true c3
  clear c3
  simp only [Option.some.injEq,Prod.mk.injEq] at H
  obtain ⟨rfl,rfl,rfl⟩:=H
  obtain ⟨HGz4,hgz4⟩:=HI0.out
  have hcz4_0:=cellS152_0 HGz4
  have hcz4_1:=cellS152_1 HGz4
  have hfz4_0:=blk_frozen HGz4 0
  have hfz4_1:=blk_frozen HGz4 1
  clear HGz4 hgz4
  go_enter Tryz.func155,Tryz.ntmps155
  go_wp2
  repeat (go_quiet (fail);try go_wp2)
  go_ret
  exact ⟨oE,oI,oG,oK⟩
 rw [if_neg c3] at H
 have c3b0:decide ((wrap64 ((s0_0.size:Int) - s0_1))<(a1.size:Int))=false:=decide_eq_false c3
 clear c3
 by_cases c5:0≤s0_1
 ·
  rw [if_pos c5] at H
  have c5b0:=eq_true c5
  have c5b1:decide (0≤s0_1)=true:=decide_eq_true c5
  clear c5
  by_cases c6:s0_1≤(wrap64 (s0_1+(a1.size:Int)))
  rotate_left
  ·
   rw [if_neg c6] at H
   exact absurd H (by simp)
  rw [if_pos c6] at H
  have c6b0:=eq_true c6
  have c6b1:decide (s0_1≤(wrap64 (s0_1+(a1.size:Int))))=true:=decide_eq_true c6
  by_cases c7:(wrap64 (s0_1+(a1.size:Int)))≤(s0_0.size:Int)
  ·
   rw [if_pos c7] at H
   have c7b0:=eq_true c7
   have c7b1:decide ((wrap64 (s0_1+(a1.size:Int)))≤(s0_0.size:Int))=true:=decide_eq_true c7
   by_cases c8:(s0_0.extract (s0_1:Int).toNat ((wrap64 (s0_1+(a1.size:Int))):Int).toNat).toList=a1.toList
   ·
    rw [if_pos c8] at H
    have c8b0:((s0_0.extract (s0_1:Int).toNat ((wrap64 (s0_1+(a1.size:Int))):Int).toNat).toList == a1.toList)=true:=beq_iff_eq.mpr c8
    have c8b1:((s0_0.extract (s0_1:Int).toNat ((wrap64 (s0_1+(a1.size:Int))):Int).toNat).toList != a1.toList)=false:=bne_eq_false_iff_eq.mpr c8
    clear c8
    simp only [Option.some.injEq,Prod.mk.injEq] at H
    obtain ⟨rfl,rfl,rfl⟩:=H
    obtain ⟨HGz9,hgz9⟩:=HI0.out
    have hcz9_0:=cellS152_0 HGz9
    have hcz9_1:=cellS152_1 HGz9
    have hfz9_0:=blk_frozen HGz9 0
    have hfz9_1:=blk_frozen HGz9 1
    clear HGz9 hgz9
    go_enter Tryz.func155,Tryz.ntmps155
    go_wp2
    repeat (go_quiet (fail);try go_wp2)
    go_ret
    exact ⟨oE,oI,oG,oK⟩
   rw [if_neg c8] at H
   have c8b0:((s0_0.extract (s0_1:Int).toNat ((wrap64 (s0_1+(a1.size:Int))):Int).toNat).toList == a1.toList)=false:=beq_eq_false_iff_ne.mpr c8
   have c8b1:((s0_0.extract (s0_1:Int).toNat ((wrap64 (s0_1+(a1.size:Int))):Int).toNat).toList != a1.toList)=true:=bne_iff_ne.mpr c8
   simp only [Option.some.injEq,Prod.mk.injEq] at H
   obtain ⟨rfl,rfl,rfl⟩:=H
   obtain ⟨HGz10,hgz10⟩:=HI0.out
   have hcz10_0:=cellS152_0 HGz10
   have hcz10_1:=cellS152_1 HGz10
   have hfz10_0:=blk_frozen HGz10 0
   have hfz10_1:=blk_frozen HGz10 1
   clear HGz10 hgz10
   go_enter Tryz.func155,Tryz.ntmps155
   go_wp2
   repeat (go_quiet (fail);try go_wp2)
   go_ret
   exact ⟨oE,oI,oG,oK⟩
  rw [if_neg c7] at H
  exact absurd H (by simp)
 rw [if_neg c5] at H
 exact absurd H (by simp)
/-! ### rV: function 104 -/
/-! ### rM: function 151 -/
/-! ### rE: function 152 -/
mutual
def rV.j0:Nat→Bool→Bool→ByteArray→Int→Int→Int→Int→Option (Int × Int × Int × (List (S155)) × (List (S102)) × Bool × ByteArray × Int)
  | 0,_,_,_,_,_,_,_=>none
  | k+1,x5,x42,x1000,x1001,xz0000,xz0001,xz0002=>if x42=true then ((rN.f k x1000 x1001).bind fun btz1=>(some (3,xz0001,btz1.2.2,([]:List (S155)),([]:List (S102)),btz1.1,btz1.2.1,btz1.2.2))) else ((rW.f x1000 x1001 (⟨#[110,117,108,108]⟩:ByteArray)).bind fun btz2=>(if btz2.1=true then (some (0,xz0001,btz2.2.2,([]:List (S155)),([]:List (S102)),x5,btz2.2.1,btz2.2.2)) else ((rW.f btz2.2.1 btz2.2.2 (⟨#[102,97,108,115,101]⟩:ByteArray)).bind fun btz3=>(if btz3.1=true then (some (1,xz0001,btz3.2.2,([]:List (S155)),([]:List (S102)),x5,btz3.2.1,btz3.2.2)) else ((rW.f btz3.2.1 btz3.2.2 (⟨#[116,114,117,101]⟩:ByteArray)).bind fun btz4=>(if btz4.1=true then (some (2,xz0001,btz4.2.2,([]:List (S155)),([]:List (S102)),x5,btz4.2.1,btz4.2.2)) else (some (xz0000,xz0001,btz4.2.2,([]:List (S155)),([]:List (S102)),false,btz4.2.1,btz4.2.2))))))))
def rV.f:Nat→ByteArray→Int→Option (Int × Int × Int × (List (S155)) × (List (S102)) × Bool × ByteArray × Int)
  | 0,_,_=>none
  | k+1,s0_0,s0_1=>(rH.f s0_0 s0_1).bind fun btz0=>(if btz0.1=123 then ((rM.f k btz0.2.1 btz0.2.2).bind fun btz1=>(some (6,s0_1,btz1.2.2.2.2,btz1.1,btz1.2.1,btz1.2.2.1,btz1.2.2.2.1,btz1.2.2.2.2))) else (if btz0.1=91 then ((rE.f k btz0.2.1 btz0.2.2).bind fun btz2=>(some (5,s0_1,btz2.2.2.2,([]:List (S155)),btz2.1,btz2.2.1,btz2.2.2.1,btz2.2.2.2))) else (if btz0.1=34 then ((rQ.f k btz0.2.1 btz0.2.2).bind fun btz3=>(some (4,s0_1,btz3.2.2,([]:List (S155)),([]:List (S102)),btz3.1,btz3.2.1,btz3.2.2))) else (if btz0.1=45 then (rV.j0 k true true btz0.2.1 btz0.2.2 0 s0_1 0) else (if 48≤btz0.1 then (rV.j0 k true (decide (btz0.1≤57)) btz0.2.1 btz0.2.2 0 s0_1 0) else (rV.j0 k true false btz0.2.1 btz0.2.2 0 s0_1 0))))))
def rM.l0:Nat→List (S155)→List (S102)→ByteArray→Int→Option ((List (S155)) × (List (S102)) × Bool × ByteArray × Int)
  | 0,_,_,_,_=>none
  | k+1,x5,x6,x1000,x1001=>(rH.f x1000 x1001).bind fun btz0=>(if btz0.1=34 then ((rQ.f k btz0.2.1 btz0.2.2).bind fun btz1=>(rM.j1 k x5 x6 x1001 (!btz1.1) btz1.2.1 btz1.2.2)) else (rM.j1 k x5 x6 x1001 true btz0.2.1 btz0.2.2))
def rM.j1:Nat→List (S155)→List (S102)→Int→Bool→ByteArray→Int→Option ((List (S155)) × (List (S102)) × Bool × ByteArray × Int)
  | 0,_,_,_,_,_,_=>none
  | k+1,x5,x6,x7,x32,x1000,x1001=>if x32=true then (some (([]:List (S155)),([]:List (S102)),false,x1000,x1001)) else (if x5.length<8796093022208 then ((some (x5++[(⟨x7,x1001⟩:S155)]:List (S155))).bind fun yz0=>((rB.f k x1000 x1001).bind fun btz1=>((rT.f btz1.1 btz1.2 58).bind fun btz2=>(if btz2.1=true then ((rB.f k btz2.2.1 btz2.2.2).bind fun btz3=>((rV.f k btz3.1 btz3.2).bind fun btz4=>(if btz4.2.2.2.2.2.1=true then (if x6.length<1954687338268 then ((some (x6++[(⟨btz4.1,btz4.2.1,btz4.2.2.1,btz4.2.2.2.1,btz4.2.2.2.2.1⟩:S102)]:List (S102))).bind fun yz5=>((rB.f k btz4.2.2.2.2.2.2.1 btz4.2.2.2.2.2.2.2).bind fun btz6=>((rT.f btz6.1 btz6.2 125).bind fun btz7=>(if btz7.1=true then (some (yz0,yz5,true,btz7.2.1,btz7.2.2)) else ((rT.f btz7.2.1 btz7.2.2 44).bind fun btz8=>(if btz8.1=true then ((rB.f k btz8.2.1 btz8.2.2).bind fun btz9=>(rM.l0 k yz0 yz5 btz9.1 btz9.2)) else (some (([]:List (S155)),([]:List (S102)),false,btz8.2.1,btz8.2.2)))))))) else (none)) else (some (([]:List (S155)),([]:List (S102)),false,btz4.2.2.2.2.2.2.1,btz4.2.2.2.2.2.2.2))))) else (some (([]:List (S155)),([]:List (S102)),false,btz2.2.1,btz2.2.2)))))) else (none))
def rM.f:Nat→ByteArray→Int→Option ((List (S155)) × (List (S102)) × Bool × ByteArray × Int)
  | 0,_,_=>none
  | k+1,s0_0,s0_1=>(rB.f k s0_0 (wrap64 (s0_1+1))).bind fun btz0=>((rT.f btz0.1 btz0.2 125).bind fun btz1=>(if btz1.1=true then (some (([]:List (S155)),([]:List (S102)),true,btz1.2.1,btz1.2.2)) else (rM.l0 k ([]:List (S155)) ([]:List (S102)) btz1.2.1 btz1.2.2)))
def rE.l0:Nat→List (S102)→ByteArray→Int→Option ((List (S102)) × Bool × ByteArray × Int)
  | 0,_,_,_=>none
  | k+1,x4,x1000,x1001=>(rV.f k x1000 x1001).bind fun btz0=>(if btz0.2.2.2.2.2.1=true then (if x4.length<1954687338268 then ((some (x4++[(⟨btz0.1,btz0.2.1,btz0.2.2.1,btz0.2.2.2.1,btz0.2.2.2.2.1⟩:S102)]:List (S102))).bind fun yz1=>((rB.f k btz0.2.2.2.2.2.2.1 btz0.2.2.2.2.2.2.2).bind fun btz2=>((rT.f btz2.1 btz2.2 93).bind fun btz3=>(if btz3.1=true then (some (yz1,true,btz3.2.1,btz3.2.2)) else ((rT.f btz3.2.1 btz3.2.2 44).bind fun btz4=>(if btz4.1=true then ((rB.f k btz4.2.1 btz4.2.2).bind fun btz5=>(rE.l0 k yz1 btz5.1 btz5.2)) else (some (([]:List (S102)),false,btz4.2.1,btz4.2.2)))))))) else (none)) else (some (([]:List (S102)),false,btz0.2.2.2.2.2.2.1,btz0.2.2.2.2.2.2.2)))
def rE.f:Nat→ByteArray→Int→Option ((List (S102)) × Bool × ByteArray × Int)
  | 0,_,_=>none
  | k+1,s0_0,s0_1=>(rB.f k s0_0 (wrap64 (s0_1+1))).bind fun btz0=>((rT.f btz0.1 btz0.2 93).bind fun btz1=>(if btz1.1=true then (some (([]:List (S102)),true,btz1.2.1,btz1.2.2)) else (rE.l0 k ([]:List (S102)) btz1.2.1 btz1.2.2)))
end
theorem rV.step (k:Nat) (ih_104 : ∀ m_:Nat,m_<k→(∀ (g:Nat) (s0_0:ByteArray) (s0_1:Int) (r1:Int) (r2:Int) (r3:Int) (r4:List (S155)) (r5:List (S102)) (r6:Bool) (r7:ByteArray) (r8:Int) (w0 w:World) (hI:IsS152 w0 w g s0_0 s0_1) (hB:Below w0.heap.size w0 w) (h:rV.f m_ s0_0 s0_1=some (r1,r2,r3,r4,r5,r6,r7,r8)),
 Calls Tryz.prog 104 #[.pointer (some ⟨g,0,none⟩)] w fun e w' => ∃ v3_ v4_:Value,e = .returned (.tuple #[.agg #[.int .i64 r1, .int .i64 r2, .int .i64 r3,v3_,v4_], .bool r6])∧Kd.R k155 155 w' w.heap.size (fun _=>True) v3_ r4∧Kd.R k102 102 w' w.heap.size (fun k_=>some k_≠(v3_:Value).ownBlock) v4_ r5∧IsS152 w0 w' g r7 r8∧Below w0.heap.size w0 w'∧KeepBut w w' g none)) (ih_151 : ∀ m_:Nat,m_<k→(∀ (g:Nat) (s0_0:ByteArray) (s0_1:Int) (r1:List (S155)) (r2:List (S102)) (r3:Bool) (r4:ByteArray) (r5:Int) (w0 w:World) (hI:IsS152 w0 w g s0_0 s0_1) (hB:Below w0.heap.size w0 w) (h:rM.f m_ s0_0 s0_1=some (r1,r2,r3,r4,r5)),
 Calls Tryz.prog 151 #[.pointer (some ⟨g,0,none⟩)] w fun e w' => ∃ v0_ v1_:Value,e = .returned (.tuple #[v0_,v1_, .bool r3])∧Kd.R k155 155 w' w.heap.size (fun _=>True) v0_ r1∧Kd.R k102 102 w' w.heap.size (fun k_=>some k_≠(v0_:Value).ownBlock) v1_ r2∧IsS152 w0 w' g r4 r5∧Below w0.heap.size w0 w'∧KeepBut w w' g none)) (ih_152 : ∀ m_:Nat,m_<k→(∀ (g:Nat) (s0_0:ByteArray) (s0_1:Int) (r1:List (S102)) (r2:Bool) (r3:ByteArray) (r4:Int) (w0 w:World) (hI:IsS152 w0 w g s0_0 s0_1) (hB:Below w0.heap.size w0 w) (h:rE.f m_ s0_0 s0_1=some (r1,r2,r3,r4)),
 Calls Tryz.prog 152 #[.pointer (some ⟨g,0,none⟩)] w fun e w' => ∃ v0_:Value,e = .returned (.tuple #[v0_, .bool r2])∧Kd.R k102 102 w' w.heap.size (fun _=>True) v0_ r1∧IsS152 w0 w' g r3 r4∧Below w0.heap.size w0 w'∧KeepBut w w' g none)) : ∀ (g:Nat) (s0_0:ByteArray) (s0_1:Int) (r1:Int) (r2:Int) (r3:Int) (r4:List (S155)) (r5:List (S102)) (r6:Bool) (r7:ByteArray) (r8:Int) (w0 w:World) (hI:IsS152 w0 w g s0_0 s0_1) (hB:Below w0.heap.size w0 w) (h:rV.f k s0_0 s0_1=some (r1,r2,r3,r4,r5,r6,r7,r8)),
 Calls Tryz.prog 104 #[.pointer (some ⟨g,0,none⟩)] w fun e w' => ∃ v3_ v4_:Value,e = .returned (.tuple #[.agg #[.int .i64 r1, .int .i64 r2, .int .i64 r3,v3_,v4_], .bool r6])∧Kd.R k155 155 w' w.heap.size (fun _=>True) v3_ r4∧Kd.R k102 102 w' w.heap.size (fun k_=>some k_≠(v3_:Value).ownBlock) v4_ r5∧IsS152 w0 w' g r7 r8∧Below w0.heap.size w0 w'∧KeepBut w w' g none:=by
 intro g s0_0 s0_1 r1 r2 r3 r4 r5 r6 r7 r8 w0 w hI hB h
 cases k with
 | zero=>exact absurd h (by simp [rV.f])
 | succ k =>
 simp only [rV.f] at h
 have hu102:=Tryz.underlying102
 have HI0:=Ak hI
 have HK:=Ak (KeepBut.refl w g none)
 have HL:=Ak hB.size
 clear hI
 have HW0:=Ak hB.size
 have HB:=Ak hB
 clear hB
 have H:((rH.f s0_0 s0_1).bind fun btz0=>(if btz0.1=123 then ((rM.f k btz0.2.1 btz0.2.2).bind fun btz1=>(some (6,s0_1,btz1.2.2.2.2,btz1.1,btz1.2.1,btz1.2.2.1,btz1.2.2.2.1,btz1.2.2.2.2))) else (if btz0.1=91 then ((rE.f k btz0.2.1 btz0.2.2).bind fun btz2=>(some (5,s0_1,btz2.2.2.2,([]:List (S155)),btz2.1,btz2.2.1,btz2.2.2.1,btz2.2.2.2))) else (if btz0.1=34 then ((rQ.f k btz0.2.1 btz0.2.2).bind fun btz3=>(some (4,s0_1,btz3.2.2,([]:List (S155)),([]:List (S102)),btz3.1,btz3.2.1,btz3.2.2))) else (if btz0.1=45 then (rV.j0 k true true btz0.2.1 btz0.2.2 0 s0_1 0) else (if 48≤btz0.1 then (rV.j0 k true (decide (btz0.1≤57)) btz0.2.1 btz0.2.2 0 s0_1 0) else (rV.j0 k true false btz0.2.1 btz0.2.2 0 s0_1 0)))))))=some (r1,r2,r3,r4,r5,r6,r7,r8):=h
 clear h
 replace H:=Option.bind_eq_some_iff.mp H
 obtain ⟨⟨tz0,tz4,tz5⟩,A20,H⟩:=H
 replace H:(if tz0=123 then ((rM.f k tz4 tz5).bind fun btz1=>(some (6,s0_1,btz1.2.2.2.2,btz1.1,btz1.2.1,btz1.2.2.1,btz1.2.2.2.1,btz1.2.2.2.2))) else (if tz0=91 then ((rE.f k tz4 tz5).bind fun btz2=>(some (5,s0_1,btz2.2.2.2,([]:List (S155)),btz2.1,btz2.2.1,btz2.2.2.1,btz2.2.2.2))) else (if tz0=34 then ((rQ.f k tz4 tz5).bind fun btz3=>(some (4,s0_1,btz3.2.2,([]:List (S155)),([]:List (S102)),btz3.1,btz3.2.1,btz3.2.2))) else (if tz0=45 then (rV.j0 k true true tz4 tz5 0 s0_1 0) else (if 48≤tz0 then (rV.j0 k true (decide (tz0≤57)) tz4 tz5 0 s0_1 0) else (rV.j0 k true false tz4 tz5 0 s0_1 0))))))=some (r1,r2,r3,r4,r5,r6,r7,r8):=H
 have A2:=Ak A20
 clear A20
 by_cases c3:tz0=123
 ·
  rw [if_pos c3] at H
  have c3b0:(tz0 == 123)=true:=beq_iff_eq.mpr c3
  have c3b1:(tz0 != 123)=false:=bne_eq_false_iff_eq.mpr c3
  clear c3
  replace H:=Option.bind_eq_some_iff.mp H
  obtain ⟨⟨tz1,tz6,tz7,tz8,tz9⟩,A40,H⟩:=H
  replace H:(some (6,s0_1,tz9,tz1,tz6,tz7,tz8,tz9))=some (r1,r2,r3,r4,r5,r6,r7,r8):=H
  have A4:=Ak A40
  clear A40
  simp only [Option.some.injEq,Prod.mk.injEq] at H
  obtain ⟨rfl,rfl,rfl,rfl,rfl,rfl,rfl,rfl⟩:=H
  go_enter Tryz.func104,Tryz.ntmps104
  go_wp2_with (first|((with_reducible refine gate_dst (N:=2) rfl ?_);refine box_event ?hg (N:=2) ?hd (cs := #[.int .i64 0, .int .i64 0, .int .i64 0, .slice none 0 0, .slice none 0 0]) (t:=102) ?hr ?_;(case hd=>rfl);(case hg=>rfl);(case hr=>first|(go_simp;done)|(go_simp;rfl));intro gbz10 hg w5 hbox hb;have _:=Ak (IsS152.below oI hb);have _:=Ak (KeepBut.trans oK (KeepBut.of_below hb g none) (.inl rfl));have _:=Ak (below_step oG hb);have _:=Ak (hbox);have _:=Ak ((by rw [hg];exact (keep_size (w:=w) (g:=g) (row:=none) oK):w.heap.size≤gbz10));have _:=Ak ((Nat.le_trans HW0.out (by rw [hg];exact (keep_size (w:=w) (g:=g) (row:=none) oK):w.heap.size≤gbz10):w0.heap.size≤gbz10));have _:=Ak ((by rw [hg];exact Nat.ne_of_lt (IsS152.lt (show IsS152 w0 _ g s0_0 s0_1 from oI)):g≠gbz10));have _:=Ak ((by rw [hg];exact Nat.ne_of_gt (IsS152.lt (show IsS152 w0 _ g s0_0 s0_1 from oI)):gbz10≠g));clear HI0 HK HB;rename_i HI0 HK HB BKz10 GWz10 GEz10 NB0_z10 NBz10_0;clear hb hbox hg;obtain ⟨HGz6,hgz6⟩:=HI0.out;have hcz6_0:=cellS152_0 HGz6;have hcz6_1:=cellS152_1 HGz6;have hfz6_0:=blk_frozen HGz6 0;have hfz6_1:=blk_frozen HGz6 1;clear HGz6 hgz6)|((with_reducible refine gate_dst (N:=4) rfl ?_);refine box_event ?hg (N:=4) ?hd (cs := #[.int .i64 0, .int .i64 0, .int .i64 0, .slice none 0 0, .slice none 0 0]) (t:=102) ?hr ?_;(case hd=>rfl);(case hg=>rfl);(case hr=>first|(go_simp;done)|(go_simp;rfl));intro gbz11 hg w7 hbox hb;have _:=Ak (IsS152.below (oI1 NB0_z10.out) hb);have _:=Ak (blk_below (g:=gbz10) (o := .cells #[.int .i64 0, .int .i64 0, .int .i64 0, .slice none 0 0, .slice none 0 0] 102 (0,0)) (oL BKz10.out) hb);have _:=Ak (KeepBut.trans (oK1 GWz10.out) (KeepBut.of_below hb g none) (.inl rfl));have _:=Ak (below_step (oG1 GEz10.out) hb);have _:=Ak (hbox);have _:=Ak ((by rw [hg];exact (keep_size (w:=w) (g:=g) (row:=none) (oK1 GWz10.out)):w.heap.size≤gbz11));have _:=Ak ((Nat.le_trans HW0.out (by rw [hg];exact (keep_size (w:=w) (g:=g) (row:=none) (oK1 GWz10.out)):w.heap.size≤gbz11):w0.heap.size≤gbz11));have _:=Ak ((by rw [hg];exact Nat.ne_of_lt (blk_lt (g:=gbz10) (o := .cells #[.int .i64 0, .int .i64 0, .int .i64 0, .slice none 0 0, .slice none 0 0] 102 (0,0)) (oL BKz10.out)):gbz10≠gbz11));have _:=Ak ((by rw [hg];exact Nat.ne_of_gt (blk_lt (g:=gbz10) (o := .cells #[.int .i64 0, .int .i64 0, .int .i64 0, .slice none 0 0, .slice none 0 0] 102 (0,0)) (oL BKz10.out)):gbz11≠gbz10));have _:=Ak ((by rw [hg];exact Nat.ne_of_lt (IsS152.lt (show IsS152 w0 _ g s0_0 s0_1 from oI1 NB0_z10.out)):g≠gbz11));have _:=Ak ((by rw [hg];exact Nat.ne_of_gt (IsS152.lt (show IsS152 w0 _ g s0_0 s0_1 from oI1 NB0_z10.out)):gbz11≠g));clear HI0 BKz10 HK HB;rename_i HI0 BKz10 HK HB BKz11 GWz11 GEz11 NBz10_412002 NBz11_412001 NB0_z11 NBz11_0;clear hb hbox hg;have hnb8:=NBz11_412001.out;have hnc8:=NBz10_412002.out;have hnb9:=NBz11_0.out;have hnc9:=NB0_z11.out;have hcz10_0:w7.cell? ⟨gbz11,0,none⟩=some (.int .i64 0):=(blk_cell BKz11.out 0).trans rfl;have hcz10_1:w7.cell? ⟨gbz11,1,none⟩=some (.int .i64 0):=(blk_cell BKz11.out 1).trans rfl;have hcz10_2:w7.cell? ⟨gbz11,2,none⟩=some (.int .i64 0):=(blk_cell BKz11.out 2).trans rfl;have hcz10_3:w7.cell? ⟨gbz11,3,none⟩=some (.slice none 0 0):=(blk_cell BKz11.out 3).trans rfl;have hcz10_4:w7.cell? ⟨gbz11,4,none⟩=some (.slice none 0 0):=(blk_cell BKz11.out 4).trans rfl;have hfz10_0:=blk_frozen BKz11.out 0;have hfz10_1:=blk_frozen BKz11.out 1;have hfz10_2:=blk_frozen BKz11.out 2;have hfz10_3:=blk_frozen BKz11.out 3;have hfz10_4:=blk_frozen BKz11.out 4)|((with_reducible refine gate_callee (f:=150) rfl ?_);refine goesL_ (some 13) rfl rfl Tryz.func150 (by kernel_rfl) rfl #[.pointer (some ⟨g,0,none⟩)] rfl oM ?_;(with_reducible refine (rH.calls g s0_0 s0_1 tz0 tz4 tz5 w0 _ ?side1 ?side2 A2.out).mono ?_);(case side1=>exact oI2 NB0_z10.out NB0_z11.out);(case side2=>exact oG2 GEz10.out GEz11.out);rintro e w11 ⟨rfl,hi,hb,hk⟩;refine ⟨_,rfl,?_⟩;have _:=Ak (KeepBut.blk hk (g':=gbz10) (o := .cells #[.int .i64 0, .int .i64 0, .int .i64 0, .slice none 0 0, .slice none 0 0] 102 (0,0)) (by (with_reducible repeat (first|apply blk_drewN|apply blk_drew|apply blk_alloc));refine blk_far ?_ NBz10_412002.out _;(with_reducible repeat (first|apply blk_drewN|apply blk_drew|apply blk_alloc));refine blk_far ?_ NBz10_412002.out _;(with_reducible repeat (first|apply blk_drewN|apply blk_drew|apply blk_alloc));refine blk_far ?_ NBz10_412002.out _;(with_reducible repeat (first|apply blk_drewN|apply blk_drew|apply blk_alloc));refine blk_far ?_ NBz10_412002.out _;(with_reducible repeat (first|apply blk_drewN|apply blk_drew|apply blk_alloc));refine blk_far ?_ NBz10_412002.out _;(with_reducible repeat (first|apply blk_drewN|apply blk_drew|apply blk_alloc));exact BKz10.out) NBz10_0.out (by simp));have _:=Ak (KeepBut.blk hk (g':=gbz11) (o := .cells #[.int .i64 0, .int .i64 s0_1, .int .i64 0, .slice none 0 0, .slice none 0 0] 102 (0,0)) (by (with_reducible repeat (first|apply blk_drewN|apply blk_drew|apply blk_alloc));refine blk_put (cs := #[.int .i64 0, .int .i64 s0_1, .int .i64 0, .slice none 0 0, .slice none 0 0]) ?_ 4 _ rfl;(with_reducible repeat (first|apply blk_drewN|apply blk_drew|apply blk_alloc));refine blk_put (cs := #[.int .i64 0, .int .i64 s0_1, .int .i64 0, .slice none 0 0, .slice none 0 0]) ?_ 3 _ rfl;(with_reducible repeat (first|apply blk_drewN|apply blk_drew|apply blk_alloc));refine blk_put (cs := #[.int .i64 0, .int .i64 s0_1, .int .i64 0, .slice none 0 0, .slice none 0 0]) ?_ 2 _ rfl;(with_reducible repeat (first|apply blk_drewN|apply blk_drew|apply blk_alloc));refine blk_put (cs := #[.int .i64 0, .int .i64 0, .int .i64 0, .slice none 0 0, .slice none 0 0]) ?_ 1 _ rfl;(with_reducible repeat (first|apply blk_drewN|apply blk_drew|apply blk_alloc));refine blk_put (cs := #[.int .i64 0, .int .i64 0, .int .i64 0, .slice none 0 0, .slice none 0 0]) ?_ 0 _ rfl;(with_reducible repeat (first|apply blk_drewN|apply blk_drew|apply blk_alloc));exact BKz11.out) NBz11_0.out (by simp));have _:=Ak (KeepBut.trans (oK2 GWz10.out GWz11.out) hk (.inl rfl));have _:=Ak (hb);have _:=Ak (hi);clear BKz10 BKz11 HK HB HI0;rename_i BKz10 BKz11 HK HB HI0;clear hb hk hi;have hcz12_0:w11.cell? ⟨gbz11,0,none⟩=some (.int .i64 0):=(blk_cell BKz11.out 0).trans rfl;have hcz12_1:w11.cell? ⟨gbz11,1,none⟩=some (.int .i64 s0_1):=(blk_cell BKz11.out 1).trans rfl;have hcz12_2:w11.cell? ⟨gbz11,2,none⟩=some (.int .i64 0):=(blk_cell BKz11.out 2).trans rfl;have hcz12_3:w11.cell? ⟨gbz11,3,none⟩=some (.slice none 0 0):=(blk_cell BKz11.out 3).trans rfl;have hcz12_4:w11.cell? ⟨gbz11,4,none⟩=some (.slice none 0 0):=(blk_cell BKz11.out 4).trans rfl;have hfz12_0:=blk_frozen BKz11.out 0;have hfz12_1:=blk_frozen BKz11.out 1;have hfz12_2:=blk_frozen BKz11.out 2;have hfz12_3:=blk_frozen BKz11.out 3;have hfz12_4:=blk_frozen BKz11.out 4)|((with_reducible refine gate_callee (f:=151) rfl ?_);refine goesL_ (some 20) rfl rfl Tryz.func151 (by kernel_rfl) rfl #[.pointer (some ⟨g,0,none⟩)] rfl oM ?_;(with_reducible refine (ih_151 k (by omega) g tz4 tz5 tz1 tz6 tz7 tz8 tz9 w0 _ ?side1 ?side2 A4.out).mono ?_);(case side1=>exact oI2 NB0_z10.out NB0_z11.out);(case side2=>exact oG2 GEz10.out GEz11.out);rintro e w13 ⟨vz12,vz13,rfl,ho0,ho1,hi,hb,hk⟩;refine ⟨_,rfl,?_⟩;have _:=Ak (KeepBut.blk hk (g':=gbz10) (o := .cells #[.int .i64 0, .int .i64 0, .int .i64 0, .slice none 0 0, .slice none 0 0] 102 (0,0)) (by (with_reducible repeat (first|apply blk_drewN|apply blk_drew|apply blk_alloc));refine blk_far ?_ NBz10_412002.out _;(with_reducible repeat (first|apply blk_drewN|apply blk_drew|apply blk_alloc));exact BKz10.out) NBz10_0.out (by simp));have _:=Ak (KeepBut.blk hk (g':=gbz11) (o := .cells #[.int .i64 6, .int .i64 s0_1, .int .i64 0, .slice none 0 0, .slice none 0 0] 102 (0,0)) (by (with_reducible repeat (first|apply blk_drewN|apply blk_drew|apply blk_alloc));refine blk_put (cs := #[.int .i64 0, .int .i64 s0_1, .int .i64 0, .slice none 0 0, .slice none 0 0]) ?_ 0 _ rfl;(with_reducible repeat (first|apply blk_drewN|apply blk_drew|apply blk_alloc));exact BKz11.out) NBz11_0.out (by simp));have _:=Ak (Kd.R_lower ho0 (keep_size (w:=w) (g:=g) (row:=none) (oK2 GWz10.out GWz11.out)));have _:=Ak (Kd.R_lower (Kd.R_newB (Kd.R_newB ho1 (g:=gbz10) (o := .cells #[.int .i64 0, .int .i64 0, .int .i64 0, .slice none 0 0, .slice none 0 0] 102 (0,0)) (by (with_reducible repeat (first|apply blk_drewN|apply blk_drew|apply blk_alloc));refine blk_far ?_ NBz10_412002.out _;(with_reducible repeat (first|apply blk_drewN|apply blk_drew|apply blk_alloc));exact BKz10.out)) (g:=gbz11) (o := .cells #[.int .i64 6, .int .i64 s0_1, .int .i64 0, .slice none 0 0, .slice none 0 0] 102 (0,0)) (by (with_reducible repeat (first|apply blk_drewN|apply blk_drew|apply blk_alloc));refine blk_put (cs := #[.int .i64 0, .int .i64 s0_1, .int .i64 0, .slice none 0 0, .slice none 0 0]) ?_ 0 _ rfl;(with_reducible repeat (first|apply blk_drewN|apply blk_drew|apply blk_alloc));exact BKz11.out)) (keep_size (w:=w) (g:=g) (row:=none) (oK2 GWz10.out GWz11.out)));have _:=Ak (KeepBut.trans (oK2 GWz10.out GWz11.out) hk (.inl rfl));have _:=Ak (hb);have _:=Ak (hi);clear BKz10 BKz11 HK HB HI0;rename_i BKz10 BKz11 HOz14 HOz15 HK HB HI0;clear hb hk hi;(try clear ho0);(try clear ho1);obtain ⟨Ao14,co14,eo14⟩:=Kd.R_slice HOz14.out;subst eo14;have hcz15_0:w13.cell? ⟨gbz11,0,none⟩=some (.int .i64 6):=(blk_cell BKz11.out 0).trans rfl;have hcz15_1:w13.cell? ⟨gbz11,1,none⟩=some (.int .i64 s0_1):=(blk_cell BKz11.out 1).trans rfl;have hcz15_2:w13.cell? ⟨gbz11,2,none⟩=some (.int .i64 0):=(blk_cell BKz11.out 2).trans rfl;have hcz15_3:w13.cell? ⟨gbz11,3,none⟩=some (.slice none 0 0):=(blk_cell BKz11.out 3).trans rfl;have hcz15_4:w13.cell? ⟨gbz11,4,none⟩=some (.slice none 0 0):=(blk_cell BKz11.out 4).trans rfl;have hfz15_0:=blk_frozen BKz11.out 0;have hfz15_1:=blk_frozen BKz11.out 1;have hfz15_2:=blk_frozen BKz11.out 2;have hfz15_3:=blk_frozen BKz11.out 3;have hfz15_4:=blk_frozen BKz11.out 4;obtain ⟨Ao16,co16,eo16⟩:=Kd.R_slice HOz15.out;subst eo16;obtain ⟨HGz17,hgz17⟩:=HI0.out;have hcz17_0:=cellS152_0 HGz17;have hcz17_1:=cellS152_1 HGz17;have hfz17_0:=blk_frozen HGz17 0;have hfz17_1:=blk_frozen HGz17 1;clear HGz17 hgz17;have hnb18:=NBz10_0.out;have hnc18:=NB0_z10.out;have hcz19_0:w13.cell? ⟨gbz10,0,none⟩=some (.int .i64 0):=(blk_cell BKz10.out 0).trans rfl;have hcz19_1:w13.cell? ⟨gbz10,1,none⟩=some (.int .i64 0):=(blk_cell BKz10.out 1).trans rfl;have hcz19_2:w13.cell? ⟨gbz10,2,none⟩=some (.int .i64 0):=(blk_cell BKz10.out 2).trans rfl;have hcz19_3:w13.cell? ⟨gbz10,3,none⟩=some (.slice none 0 0):=(blk_cell BKz10.out 3).trans rfl;have hcz19_4:w13.cell? ⟨gbz10,4,none⟩=some (.slice none 0 0):=(blk_cell BKz10.out 4).trans rfl;have hfz19_0:=blk_frozen BKz10.out 0;have hfz19_1:=blk_frozen BKz10.out 1;have hfz19_2:=blk_frozen BKz10.out 2;have hfz19_3:=blk_frozen BKz10.out 3;have hfz19_4:=blk_frozen BKz10.out 4))
  refine bodyPost_ret (results_ct rfl _ _ gbz10 102 #[.int .i64 6, .int .i64 s0_1, .int .i64 tz9, .slice Ao14 tz1.length co14, .slice Ao16 tz6.length co16] (0,0) _ rfl (by (with_reducible repeat (first|apply blk_drewN|apply blk_drew|apply blk_alloc));refine blk_put (cs := #[.int .i64 6, .int .i64 s0_1, .int .i64 tz9, .slice Ao14 tz1.length co14, .slice none 0 0]) ?_ 4 _ rfl;(with_reducible repeat (first|apply blk_drewN|apply blk_drew|apply blk_alloc));refine blk_put (cs := #[.int .i64 6, .int .i64 s0_1, .int .i64 tz9, .slice none 0 0, .slice none 0 0]) ?_ 3 _ rfl;(with_reducible repeat (first|apply blk_drewN|apply blk_drew|apply blk_alloc));refine blk_put (cs := #[.int .i64 6, .int .i64 s0_1, .int .i64 0, .slice none 0 0, .slice none 0 0]) ?_ 2 _ rfl;(with_reducible repeat (first|apply blk_drewN|apply blk_drew|apply blk_alloc));refine blk_put (cs := #[.int .i64 6, .int .i64 0, .int .i64 0, .slice none 0 0, .slice none 0 0]) ?_ 1 _ rfl;(with_reducible repeat (first|apply blk_drewN|apply blk_drew|apply blk_alloc));refine blk_put (cs := #[.int .i64 0, .int .i64 0, .int .i64 0, .slice none 0 0, .slice none 0 0]) ?_ 0 _ rfl;(with_reducible repeat (first|apply blk_drewN|apply blk_drew|apply blk_alloc));refine blk_far ?_ NBz10_412002.out _;(with_reducible repeat (first|apply blk_drewN|apply blk_drew|apply blk_alloc));refine blk_far ?_ NBz10_412002.out _;(with_reducible repeat (first|apply blk_drewN|apply blk_drew|apply blk_alloc));refine blk_far ?_ NBz10_412002.out _;(with_reducible repeat (first|apply blk_drewN|apply blk_drew|apply blk_alloc));exact BKz10.out) Tryz.underlying102 rfl (by kernel_rfl)) rfl ?_
  exact ⟨_,_,oE,by (with_reducible repeat (first|apply Kd.R_alloc|apply Kd.R_drewN|apply Kd.R_drew));exact Kd.R_mono (Kd.R_far (p:=⟨gbz10,4,none⟩) (Kd.R_far (p:=⟨gbz10,3,none⟩) (Kd.R_far (p:=⟨gbz10,2,none⟩) (Kd.R_far (p:=⟨gbz10,1,none⟩) (Kd.R_far (p:=⟨gbz10,0,none⟩) (Kd.R_far (p:=⟨gbz11,2,none⟩) (Kd.R_far (p:=⟨gbz11,4,none⟩) (Kd.R_far (p:=⟨gbz11,3,none⟩) (Kd.R_types (Kd.R_types HOz14.out BKz11.out (by decide)) BKz10.out (by decide)) (fun _ hk=>hk.1.2) (.slice Ao14 tz1.length co14)) (fun _ hk=>hk.1.2) (.slice Ao16 tz6.length co16)) (fun _ hk=>hk.1.2) (.int .i64 tz9)) (fun _ hk=>hk.2) (.int .i64 6)) (fun _ hk=>hk.2) (.int .i64 s0_1)) (fun _ hk=>hk.2) (.int .i64 tz9)) (fun _ hk=>hk.2) (.slice Ao14 tz1.length co14)) (fun _ hk=>hk.2) (.slice Ao16 tz6.length co16)) (fun _ hk=>trivial),by (with_reducible repeat (first|apply Kd.R_alloc|apply Kd.R_drewN|apply Kd.R_drew));exact Kd.R_mono (Kd.R_far (p:=⟨gbz10,4,none⟩) (Kd.R_far (p:=⟨gbz10,3,none⟩) (Kd.R_far (p:=⟨gbz10,2,none⟩) (Kd.R_far (p:=⟨gbz10,1,none⟩) (Kd.R_far (p:=⟨gbz10,0,none⟩) (Kd.R_far (p:=⟨gbz11,2,none⟩) (Kd.R_far (p:=⟨gbz11,4,none⟩) (Kd.R_far (p:=⟨gbz11,3,none⟩) (Kd.R_mono (Kd.R_mono HOz15.out (fun k_ hk=>(⟨hk,hk.2⟩:_∧k_≠gbz11))) (fun k_ hk=>(⟨hk,hk.1.1.2⟩:_∧k_≠gbz10))) (fun _ hk=>hk.1.2) (.slice Ao14 tz1.length co14)) (fun _ hk=>hk.1.2) (.slice Ao16 tz6.length co16)) (fun _ hk=>hk.1.2) (.int .i64 tz9)) (fun _ hk=>hk.2) (.int .i64 6)) (fun _ hk=>hk.2) (.int .i64 s0_1)) (fun _ hk=>hk.2) (.int .i64 tz9)) (fun _ hk=>hk.2) (.slice Ao14 tz1.length co14)) (fun _ hk=>hk.2) (.slice Ao16 tz6.length co16)) (fun _ hk=>hk.1.1.1.1),oI2 NB0_z10.out NB0_z11.out,oG2 GEz10.out GEz11.out,oK2 GWz10.out GWz11.out⟩
 rw [if_neg c3] at H
 have c3b0:(tz0 == 123)=false:=beq_eq_false_iff_ne.mpr c3
 have c3b1:(tz0 != 123)=true:=bne_iff_ne.mpr c3
 by_cases c20:tz0=91
 ·
  rw [if_pos c20] at H
  have c20b0:(tz0 == 91)=true:=beq_iff_eq.mpr c20
  have c20b1:(tz0 != 91)=false:=bne_eq_false_iff_eq.mpr c20
  clear c20
  replace H:=Option.bind_eq_some_iff.mp H
  obtain ⟨⟨tz2,tz16,tz17,tz18⟩,A210,H⟩:=H
  replace H:(some (5,s0_1,tz18,([]:List (S155)),tz2,tz16,tz17,tz18))=some (r1,r2,r3,r4,r5,r6,r7,r8):=H
  have A21:=Ak A210
  clear A210
  simp only [Option.some.injEq,Prod.mk.injEq] at H
  obtain ⟨rfl,rfl,rfl,rfl,rfl,rfl,rfl,rfl⟩:=H
  go_enter Tryz.func104,Tryz.ntmps104
  go_wp2_with (first|((with_reducible refine gate_dst (N:=2) rfl ?_);refine box_event ?hg (N:=2) ?hd (cs := #[.int .i64 0, .int .i64 0, .int .i64 0, .slice none 0 0, .slice none 0 0]) (t:=102) ?hr ?_;(case hd=>rfl);(case hg=>rfl);(case hr=>first|(go_simp;done)|(go_simp;rfl));intro gbz10 hg w22 hbox hb;have _:=Ak (IsS152.below oI hb);have _:=Ak (KeepBut.trans oK (KeepBut.of_below hb g none) (.inl rfl));have _:=Ak (below_step oG hb);have _:=Ak (hbox);have _:=Ak ((by rw [hg];exact (keep_size (w:=w) (g:=g) (row:=none) oK):w.heap.size≤gbz10));have _:=Ak ((Nat.le_trans HW0.out (by rw [hg];exact (keep_size (w:=w) (g:=g) (row:=none) oK):w.heap.size≤gbz10):w0.heap.size≤gbz10));have _:=Ak ((by rw [hg];exact Nat.ne_of_lt (IsS152.lt (show IsS152 w0 _ g s0_0 s0_1 from oI)):g≠gbz10));have _:=Ak ((by rw [hg];exact Nat.ne_of_gt (IsS152.lt (show IsS152 w0 _ g s0_0 s0_1 from oI)):gbz10≠g));clear HI0 HK HB;rename_i HI0 HK HB BKz10 GWz10 GEz10 NB0_z10 NBz10_0;clear hb hbox hg;obtain ⟨HGz23,hgz23⟩:=HI0.out;have hcz23_0:=cellS152_0 HGz23;have hcz23_1:=cellS152_1 HGz23;have hfz23_0:=blk_frozen HGz23 0;have hfz23_1:=blk_frozen HGz23 1;clear HGz23 hgz23)|((with_reducible refine gate_dst (N:=4) rfl ?_);refine box_event ?hg (N:=4) ?hd (cs := #[.int .i64 0, .int .i64 0, .int .i64 0, .slice none 0 0, .slice none 0 0]) (t:=102) ?hr ?_;(case hd=>rfl);(case hg=>rfl);(case hr=>first|(go_simp;done)|(go_simp;rfl));intro gbz11 hg w24 hbox hb;have _:=Ak (IsS152.below (oI1 NB0_z10.out) hb);have _:=Ak (blk_below (g:=gbz10) (o := .cells #[.int .i64 0, .int .i64 0, .int .i64 0, .slice none 0 0, .slice none 0 0] 102 (0,0)) (oL BKz10.out) hb);have _:=Ak (KeepBut.trans (oK1 GWz10.out) (KeepBut.of_below hb g none) (.inl rfl));have _:=Ak (below_step (oG1 GEz10.out) hb);have _:=Ak (hbox);have _:=Ak ((by rw [hg];exact (keep_size (w:=w) (g:=g) (row:=none) (oK1 GWz10.out)):w.heap.size≤gbz11));have _:=Ak ((Nat.le_trans HW0.out (by rw [hg];exact (keep_size (w:=w) (g:=g) (row:=none) (oK1 GWz10.out)):w.heap.size≤gbz11):w0.heap.size≤gbz11));have _:=Ak ((by rw [hg];exact Nat.ne_of_lt (blk_lt (g:=gbz10) (o := .cells #[.int .i64 0, .int .i64 0, .int .i64 0, .slice none 0 0, .slice none 0 0] 102 (0,0)) (oL BKz10.out)):gbz10≠gbz11));have _:=Ak ((by rw [hg];exact Nat.ne_of_gt (blk_lt (g:=gbz10) (o := .cells #[.int .i64 0, .int .i64 0, .int .i64 0, .slice none 0 0, .slice none 0 0] 102 (0,0)) (oL BKz10.out)):gbz11≠gbz10));have _:=Ak ((by rw [hg];exact Nat.ne_of_lt (IsS152.lt (show IsS152 w0 _ g s0_0 s0_1 from oI1 NB0_z10.out)):g≠gbz11));have _:=Ak ((by rw [hg];exact Nat.ne_of_gt (IsS152.lt (show IsS152 w0 _ g s0_0 s0_1 from oI1 NB0_z10.out)):gbz11≠g));clear HI0 BKz10 HK HB;rename_i HI0 BKz10 HK HB BKz11 GWz11 GEz11 NBz10_412002 NBz11_412001 NB0_z11 NBz11_0;clear hb hbox hg;have hnb25:=NBz11_412001.out;have hnc25:=NBz10_412002.out;have hnb26:=NBz11_0.out;have hnc26:=NB0_z11.out;have hcz27_0:w24.cell? ⟨gbz11,0,none⟩=some (.int .i64 0):=(blk_cell BKz11.out 0).trans rfl;have hcz27_1:w24.cell? ⟨gbz11,1,none⟩=some (.int .i64 0):=(blk_cell BKz11.out 1).trans rfl;have hcz27_2:w24.cell? ⟨gbz11,2,none⟩=some (.int .i64 0):=(blk_cell BKz11.out 2).trans rfl;have hcz27_3:w24.cell? ⟨gbz11,3,none⟩=some (.slice none 0 0):=(blk_cell BKz11.out 3).trans rfl;have hcz27_4:w24.cell? ⟨gbz11,4,none⟩=some (.slice none 0 0):=(blk_cell BKz11.out 4).trans rfl;have hfz27_0:=blk_frozen BKz11.out 0;have hfz27_1:=blk_frozen BKz11.out 1;have hfz27_2:=blk_frozen BKz11.out 2;have hfz27_3:=blk_frozen BKz11.out 3;have hfz27_4:=blk_frozen BKz11.out 4)|((with_reducible refine gate_callee (f:=150) rfl ?_);refine goesL_ (some 13) rfl rfl Tryz.func150 (by kernel_rfl) rfl #[.pointer (some ⟨g,0,none⟩)] rfl oM ?_;(with_reducible refine (rH.calls g s0_0 s0_1 tz0 tz4 tz5 w0 _ ?side1 ?side2 A2.out).mono ?_);(case side1=>exact oI2 NB0_z10.out NB0_z11.out);(case side2=>exact oG2 GEz10.out GEz11.out);rintro e w28 ⟨rfl,hi,hb,hk⟩;refine ⟨_,rfl,?_⟩;have _:=Ak (KeepBut.blk hk (g':=gbz10) (o := .cells #[.int .i64 0, .int .i64 0, .int .i64 0, .slice none 0 0, .slice none 0 0] 102 (0,0)) (by (with_reducible repeat (first|apply blk_drewN|apply blk_drew|apply blk_alloc));refine blk_far ?_ NBz10_412002.out _;(with_reducible repeat (first|apply blk_drewN|apply blk_drew|apply blk_alloc));refine blk_far ?_ NBz10_412002.out _;(with_reducible repeat (first|apply blk_drewN|apply blk_drew|apply blk_alloc));refine blk_far ?_ NBz10_412002.out _;(with_reducible repeat (first|apply blk_drewN|apply blk_drew|apply blk_alloc));refine blk_far ?_ NBz10_412002.out _;(with_reducible repeat (first|apply blk_drewN|apply blk_drew|apply blk_alloc));refine blk_far ?_ NBz10_412002.out _;(with_reducible repeat (first|apply blk_drewN|apply blk_drew|apply blk_alloc));exact BKz10.out) NBz10_0.out (by simp));have _:=Ak (KeepBut.blk hk (g':=gbz11) (o := .cells #[.int .i64 0, .int .i64 s0_1, .int .i64 0, .slice none 0 0, .slice none 0 0] 102 (0,0)) (by (with_reducible repeat (first|apply blk_drewN|apply blk_drew|apply blk_alloc));refine blk_put (cs := #[.int .i64 0, .int .i64 s0_1, .int .i64 0, .slice none 0 0, .slice none 0 0]) ?_ 4 _ rfl;(with_reducible repeat (first|apply blk_drewN|apply blk_drew|apply blk_alloc));refine blk_put (cs := #[.int .i64 0, .int .i64 s0_1, .int .i64 0, .slice none 0 0, .slice none 0 0]) ?_ 3 _ rfl;(with_reducible repeat (first|apply blk_drewN|apply blk_drew|apply blk_alloc));refine blk_put (cs := #[.int .i64 0, .int .i64 s0_1, .int .i64 0, .slice none 0 0, .slice none 0 0]) ?_ 2 _ rfl;(with_reducible repeat (first|apply blk_drewN|apply blk_drew|apply blk_alloc));refine blk_put (cs := #[.int .i64 0, .int .i64 0, .int .i64 0, .slice none 0 0, .slice none 0 0]) ?_ 1 _ rfl;(with_reducible repeat (first|apply blk_drewN|apply blk_drew|apply blk_alloc));refine blk_put (cs := #[.int .i64 0, .int .i64 0, .int .i64 0, .slice none 0 0, .slice none 0 0]) ?_ 0 _ rfl;(with_reducible repeat (first|apply blk_drewN|apply blk_drew|apply blk_alloc));exact BKz11.out) NBz11_0.out (by simp));have _:=Ak (KeepBut.trans (oK2 GWz10.out GWz11.out) hk (.inl rfl));have _:=Ak (hb);have _:=Ak (hi);clear BKz10 BKz11 HK HB HI0;rename_i BKz10 BKz11 HK HB HI0;clear hb hk hi;have hcz29_0:w28.cell? ⟨gbz11,0,none⟩=some (.int .i64 0):=(blk_cell BKz11.out 0).trans rfl;have hcz29_1:w28.cell? ⟨gbz11,1,none⟩=some (.int .i64 s0_1):=(blk_cell BKz11.out 1).trans rfl;have hcz29_2:w28.cell? ⟨gbz11,2,none⟩=some (.int .i64 0):=(blk_cell BKz11.out 2).trans rfl;have hcz29_3:w28.cell? ⟨gbz11,3,none⟩=some (.slice none 0 0):=(blk_cell BKz11.out 3).trans rfl;have hcz29_4:w28.cell? ⟨gbz11,4,none⟩=some (.slice none 0 0):=(blk_cell BKz11.out 4).trans rfl;have hfz29_0:=blk_frozen BKz11.out 0;have hfz29_1:=blk_frozen BKz11.out 1;have hfz29_2:=blk_frozen BKz11.out 2;have hfz29_3:=blk_frozen BKz11.out 3;have hfz29_4:=blk_frozen BKz11.out 4)|((with_reducible refine gate_callee (f:=152) rfl ?_);refine goesL_ (some 32) rfl rfl Tryz.func152 (by kernel_rfl) rfl #[.pointer (some ⟨g,0,none⟩)] rfl oM ?_;(with_reducible refine (ih_152 k (by omega) g tz4 tz5 tz2 tz16 tz17 tz18 w0 _ ?side1 ?side2 A21.out).mono ?_);(case side1=>exact oI2 NB0_z10.out NB0_z11.out);(case side2=>exact oG2 GEz10.out GEz11.out);rintro e w30 ⟨vz19,rfl,ho0,hi,hb,hk⟩;refine ⟨_,rfl,?_⟩;have _:=Ak (KeepBut.blk hk (g':=gbz10) (o := .cells #[.int .i64 0, .int .i64 0, .int .i64 0, .slice none 0 0, .slice none 0 0] 102 (0,0)) (by (with_reducible repeat (first|apply blk_drewN|apply blk_drew|apply blk_alloc));refine blk_far ?_ NBz10_412002.out _;(with_reducible repeat (first|apply blk_drewN|apply blk_drew|apply blk_alloc));exact BKz10.out) NBz10_0.out (by simp));have _:=Ak (KeepBut.blk hk (g':=gbz11) (o := .cells #[.int .i64 5, .int .i64 s0_1, .int .i64 0, .slice none 0 0, .slice none 0 0] 102 (0,0)) (by (with_reducible repeat (first|apply blk_drewN|apply blk_drew|apply blk_alloc));refine blk_put (cs := #[.int .i64 0, .int .i64 s0_1, .int .i64 0, .slice none 0 0, .slice none 0 0]) ?_ 0 _ rfl;(with_reducible repeat (first|apply blk_drewN|apply blk_drew|apply blk_alloc));exact BKz11.out) NBz11_0.out (by simp));have _:=Ak (Kd.R_lower (Kd.R_newB (Kd.R_newB ho0 (g:=gbz10) (o := .cells #[.int .i64 0, .int .i64 0, .int .i64 0, .slice none 0 0, .slice none 0 0] 102 (0,0)) (by (with_reducible repeat (first|apply blk_drewN|apply blk_drew|apply blk_alloc));refine blk_far ?_ NBz10_412002.out _;(with_reducible repeat (first|apply blk_drewN|apply blk_drew|apply blk_alloc));exact BKz10.out)) (g:=gbz11) (o := .cells #[.int .i64 5, .int .i64 s0_1, .int .i64 0, .slice none 0 0, .slice none 0 0] 102 (0,0)) (by (with_reducible repeat (first|apply blk_drewN|apply blk_drew|apply blk_alloc));refine blk_put (cs := #[.int .i64 0, .int .i64 s0_1, .int .i64 0, .slice none 0 0, .slice none 0 0]) ?_ 0 _ rfl;(with_reducible repeat (first|apply blk_drewN|apply blk_drew|apply blk_alloc));exact BKz11.out)) (keep_size (w:=w) (g:=g) (row:=none) (oK2 GWz10.out GWz11.out)));have _:=Ak (KeepBut.trans (oK2 GWz10.out GWz11.out) hk (.inl rfl));have _:=Ak (hb);have _:=Ak (hi);clear BKz10 BKz11 HK HB HI0;rename_i BKz10 BKz11 HOz20 HK HB HI0;clear hb hk hi;(try clear ho0);obtain ⟨Ao31,co31,eo31⟩:=Kd.R_slice HOz20.out;subst eo31;have hcz32_0:w30.cell? ⟨gbz11,0,none⟩=some (.int .i64 5):=(blk_cell BKz11.out 0).trans rfl;have hcz32_1:w30.cell? ⟨gbz11,1,none⟩=some (.int .i64 s0_1):=(blk_cell BKz11.out 1).trans rfl;have hcz32_2:w30.cell? ⟨gbz11,2,none⟩=some (.int .i64 0):=(blk_cell BKz11.out 2).trans rfl;have hcz32_3:w30.cell? ⟨gbz11,3,none⟩=some (.slice none 0 0):=(blk_cell BKz11.out 3).trans rfl;have hcz32_4:w30.cell? ⟨gbz11,4,none⟩=some (.slice none 0 0):=(blk_cell BKz11.out 4).trans rfl;have hfz32_0:=blk_frozen BKz11.out 0;have hfz32_1:=blk_frozen BKz11.out 1;have hfz32_2:=blk_frozen BKz11.out 2;have hfz32_3:=blk_frozen BKz11.out 3;have hfz32_4:=blk_frozen BKz11.out 4;obtain ⟨HGz33,hgz33⟩:=HI0.out;have hcz33_0:=cellS152_0 HGz33;have hcz33_1:=cellS152_1 HGz33;have hfz33_0:=blk_frozen HGz33 0;have hfz33_1:=blk_frozen HGz33 1;clear HGz33 hgz33;have hnb34:=NBz10_0.out;have hnc34:=NB0_z10.out;have hcz35_0:w30.cell? ⟨gbz10,0,none⟩=some (.int .i64 0):=(blk_cell BKz10.out 0).trans rfl;have hcz35_1:w30.cell? ⟨gbz10,1,none⟩=some (.int .i64 0):=(blk_cell BKz10.out 1).trans rfl;have hcz35_2:w30.cell? ⟨gbz10,2,none⟩=some (.int .i64 0):=(blk_cell BKz10.out 2).trans rfl;have hcz35_3:w30.cell? ⟨gbz10,3,none⟩=some (.slice none 0 0):=(blk_cell BKz10.out 3).trans rfl;have hcz35_4:w30.cell? ⟨gbz10,4,none⟩=some (.slice none 0 0):=(blk_cell BKz10.out 4).trans rfl;have hfz35_0:=blk_frozen BKz10.out 0;have hfz35_1:=blk_frozen BKz10.out 1;have hfz35_2:=blk_frozen BKz10.out 2;have hfz35_3:=blk_frozen BKz10.out 3;have hfz35_4:=blk_frozen BKz10.out 4))
  refine bodyPost_ret (results_ct rfl _ _ gbz10 102 #[.int .i64 5, .int .i64 s0_1, .int .i64 tz18, .slice none 0 0, .slice Ao31 tz2.length co31] (0,0) _ rfl (by (with_reducible repeat (first|apply blk_drewN|apply blk_drew|apply blk_alloc));refine blk_put (cs := #[.int .i64 5, .int .i64 s0_1, .int .i64 tz18, .slice none 0 0, .slice none 0 0]) ?_ 4 _ rfl;(with_reducible repeat (first|apply blk_drewN|apply blk_drew|apply blk_alloc));refine blk_put (cs := #[.int .i64 5, .int .i64 s0_1, .int .i64 tz18, .slice none 0 0, .slice none 0 0]) ?_ 3 _ rfl;(with_reducible repeat (first|apply blk_drewN|apply blk_drew|apply blk_alloc));refine blk_put (cs := #[.int .i64 5, .int .i64 s0_1, .int .i64 0, .slice none 0 0, .slice none 0 0]) ?_ 2 _ rfl;(with_reducible repeat (first|apply blk_drewN|apply blk_drew|apply blk_alloc));refine blk_put (cs := #[.int .i64 5, .int .i64 0, .int .i64 0, .slice none 0 0, .slice none 0 0]) ?_ 1 _ rfl;(with_reducible repeat (first|apply blk_drewN|apply blk_drew|apply blk_alloc));refine blk_put (cs := #[.int .i64 0, .int .i64 0, .int .i64 0, .slice none 0 0, .slice none 0 0]) ?_ 0 _ rfl;(with_reducible repeat (first|apply blk_drewN|apply blk_drew|apply blk_alloc));refine blk_far ?_ NBz10_412002.out _;(with_reducible repeat (first|apply blk_drewN|apply blk_drew|apply blk_alloc));refine blk_far ?_ NBz10_412002.out _;(with_reducible repeat (first|apply blk_drewN|apply blk_drew|apply blk_alloc));exact BKz10.out) Tryz.underlying102 rfl (by kernel_rfl)) rfl ?_
  exact ⟨_,_,oE,by first|exact Kd.R_nil _ _ _ _ _|exact Kd.N_nil _ _ _ _ _|exact Kd.V_nil _ _ _ _ _|exact Kd.Q_nil _ _ _ _ _|exact Kd.S_nil _ _ _ _ _,by (with_reducible repeat (first|apply Kd.R_alloc|apply Kd.R_drewN|apply Kd.R_drew));exact Kd.R_mono (Kd.R_far (p:=⟨gbz10,4,none⟩) (Kd.R_far (p:=⟨gbz10,3,none⟩) (Kd.R_far (p:=⟨gbz10,2,none⟩) (Kd.R_far (p:=⟨gbz10,1,none⟩) (Kd.R_far (p:=⟨gbz10,0,none⟩) (Kd.R_far (p:=⟨gbz11,2,none⟩) (Kd.R_far (p:=⟨gbz11,4,none⟩) (Kd.R_mono (Kd.R_mono HOz20.out (fun k_ hk=>(⟨hk,hk.2⟩:_∧k_≠gbz11))) (fun k_ hk=>(⟨hk,hk.1.1.2⟩:_∧k_≠gbz10))) (fun _ hk=>hk.1.2) (.slice Ao31 tz2.length co31)) (fun _ hk=>hk.1.2) (.int .i64 tz18)) (fun _ hk=>hk.2) (.int .i64 5)) (fun _ hk=>hk.2) (.int .i64 s0_1)) (fun _ hk=>hk.2) (.int .i64 tz18)) (fun _ hk=>hk.2) (.slice none 0 0)) (fun _ hk=>hk.2) (.slice Ao31 tz2.length co31)) (fun _ hk=>(by simp [Value.ownBlock])),oI2 NB0_z10.out NB0_z11.out,oG2 GEz10.out GEz11.out,oK2 GWz10.out GWz11.out⟩
 rw [if_neg c20] at H
 have c20b0:(tz0 == 91)=false:=beq_eq_false_iff_ne.mpr c20
 have c20b1:(tz0 != 91)=true:=bne_iff_ne.mpr c20
 by_cases c36:tz0=34
 ·
  rw [if_pos c36] at H
  have c36b0:(tz0 == 34)=true:=beq_iff_eq.mpr c36
  have c36b1:(tz0 != 34)=false:=bne_eq_false_iff_eq.mpr c36
  clear c36
  replace H:=Option.bind_eq_some_iff.mp H
  obtain ⟨⟨tz3,tz21,tz22⟩,A370,H⟩:=H
  replace H:(some (4,s0_1,tz22,([]:List (S155)),([]:List (S102)),tz3,tz21,tz22))=some (r1,r2,r3,r4,r5,r6,r7,r8):=H
  have A37:=Ak A370
  clear A370
  simp only [Option.some.injEq,Prod.mk.injEq] at H
  obtain ⟨rfl,rfl,rfl,rfl,rfl,rfl,rfl,rfl⟩:=H
  go_enter Tryz.func104,Tryz.ntmps104
  go_wp2_with (first|((with_reducible refine gate_dst (N:=2) rfl ?_);refine box_event ?hg (N:=2) ?hd (cs := #[.int .i64 0, .int .i64 0, .int .i64 0, .slice none 0 0, .slice none 0 0]) (t:=102) ?hr ?_;(case hd=>rfl);(case hg=>rfl);(case hr=>first|(go_simp;done)|(go_simp;rfl));intro gbz10 hg w38 hbox hb;have _:=Ak (IsS152.below oI hb);have _:=Ak (KeepBut.trans oK (KeepBut.of_below hb g none) (.inl rfl));have _:=Ak (below_step oG hb);have _:=Ak (hbox);have _:=Ak ((by rw [hg];exact (keep_size (w:=w) (g:=g) (row:=none) oK):w.heap.size≤gbz10));have _:=Ak ((Nat.le_trans HW0.out (by rw [hg];exact (keep_size (w:=w) (g:=g) (row:=none) oK):w.heap.size≤gbz10):w0.heap.size≤gbz10));have _:=Ak ((by rw [hg];exact Nat.ne_of_lt (IsS152.lt (show IsS152 w0 _ g s0_0 s0_1 from oI)):g≠gbz10));have _:=Ak ((by rw [hg];exact Nat.ne_of_gt (IsS152.lt (show IsS152 w0 _ g s0_0 s0_1 from oI)):gbz10≠g));clear HI0 HK HB;rename_i HI0 HK HB BKz10 GWz10 GEz10 NB0_z10 NBz10_0;clear hb hbox hg;obtain ⟨HGz39,hgz39⟩:=HI0.out;have hcz39_0:=cellS152_0 HGz39;have hcz39_1:=cellS152_1 HGz39;have hfz39_0:=blk_frozen HGz39 0;have hfz39_1:=blk_frozen HGz39 1;clear HGz39 hgz39)|((with_reducible refine gate_dst (N:=4) rfl ?_);refine box_event ?hg (N:=4) ?hd (cs := #[.int .i64 0, .int .i64 0, .int .i64 0, .slice none 0 0, .slice none 0 0]) (t:=102) ?hr ?_;(case hd=>rfl);(case hg=>rfl);(case hr=>first|(go_simp;done)|(go_simp;rfl));intro gbz11 hg w40 hbox hb;have _:=Ak (IsS152.below (oI1 NB0_z10.out) hb);have _:=Ak (blk_below (g:=gbz10) (o := .cells #[.int .i64 0, .int .i64 0, .int .i64 0, .slice none 0 0, .slice none 0 0] 102 (0,0)) (oL BKz10.out) hb);have _:=Ak (KeepBut.trans (oK1 GWz10.out) (KeepBut.of_below hb g none) (.inl rfl));have _:=Ak (below_step (oG1 GEz10.out) hb);have _:=Ak (hbox);have _:=Ak ((by rw [hg];exact (keep_size (w:=w) (g:=g) (row:=none) (oK1 GWz10.out)):w.heap.size≤gbz11));have _:=Ak ((Nat.le_trans HW0.out (by rw [hg];exact (keep_size (w:=w) (g:=g) (row:=none) (oK1 GWz10.out)):w.heap.size≤gbz11):w0.heap.size≤gbz11));have _:=Ak ((by rw [hg];exact Nat.ne_of_lt (blk_lt (g:=gbz10) (o := .cells #[.int .i64 0, .int .i64 0, .int .i64 0, .slice none 0 0, .slice none 0 0] 102 (0,0)) (oL BKz10.out)):gbz10≠gbz11));have _:=Ak ((by rw [hg];exact Nat.ne_of_gt (blk_lt (g:=gbz10) (o := .cells #[.int .i64 0, .int .i64 0, .int .i64 0, .slice none 0 0, .slice none 0 0] 102 (0,0)) (oL BKz10.out)):gbz11≠gbz10));have _:=Ak ((by rw [hg];exact Nat.ne_of_lt (IsS152.lt (show IsS152 w0 _ g s0_0 s0_1 from oI1 NB0_z10.out)):g≠gbz11));have _:=Ak ((by rw [hg];exact Nat.ne_of_gt (IsS152.lt (show IsS152 w0 _ g s0_0 s0_1 from oI1 NB0_z10.out)):gbz11≠g));clear HI0 BKz10 HK HB;rename_i HI0 BKz10 HK HB BKz11 GWz11 GEz11 NBz10_412002 NBz11_412001 NB0_z11 NBz11_0;clear hb hbox hg;have hnb41:=NBz11_412001.out;have hnc41:=NBz10_412002.out;have hnb42:=NBz11_0.out;have hnc42:=NB0_z11.out;have hcz43_0:w40.cell? ⟨gbz11,0,none⟩=some (.int .i64 0):=(blk_cell BKz11.out 0).trans rfl;have hcz43_1:w40.cell? ⟨gbz11,1,none⟩=some (.int .i64 0):=(blk_cell BKz11.out 1).trans rfl;have hcz43_2:w40.cell? ⟨gbz11,2,none⟩=some (.int .i64 0):=(blk_cell BKz11.out 2).trans rfl;have hcz43_3:w40.cell? ⟨gbz11,3,none⟩=some (.slice none 0 0):=(blk_cell BKz11.out 3).trans rfl;have hcz43_4:w40.cell? ⟨gbz11,4,none⟩=some (.slice none 0 0):=(blk_cell BKz11.out 4).trans rfl;have hfz43_0:=blk_frozen BKz11.out 0;have hfz43_1:=blk_frozen BKz11.out 1;have hfz43_2:=blk_frozen BKz11.out 2;have hfz43_3:=blk_frozen BKz11.out 3;have hfz43_4:=blk_frozen BKz11.out 4)|((with_reducible refine gate_callee (f:=150) rfl ?_);refine goesL_ (some 13) rfl rfl Tryz.func150 (by kernel_rfl) rfl #[.pointer (some ⟨g,0,none⟩)] rfl oM ?_;(with_reducible refine (rH.calls g s0_0 s0_1 tz0 tz4 tz5 w0 _ ?side1 ?side2 A2.out).mono ?_);(case side1=>exact oI2 NB0_z10.out NB0_z11.out);(case side2=>exact oG2 GEz10.out GEz11.out);rintro e w44 ⟨rfl,hi,hb,hk⟩;refine ⟨_,rfl,?_⟩;have _:=Ak (KeepBut.blk hk (g':=gbz10) (o := .cells #[.int .i64 0, .int .i64 0, .int .i64 0, .slice none 0 0, .slice none 0 0] 102 (0,0)) (by (with_reducible repeat (first|apply blk_drewN|apply blk_drew|apply blk_alloc));refine blk_far ?_ NBz10_412002.out _;(with_reducible repeat (first|apply blk_drewN|apply blk_drew|apply blk_alloc));refine blk_far ?_ NBz10_412002.out _;(with_reducible repeat (first|apply blk_drewN|apply blk_drew|apply blk_alloc));refine blk_far ?_ NBz10_412002.out _;(with_reducible repeat (first|apply blk_drewN|apply blk_drew|apply blk_alloc));refine blk_far ?_ NBz10_412002.out _;(with_reducible repeat (first|apply blk_drewN|apply blk_drew|apply blk_alloc));refine blk_far ?_ NBz10_412002.out _;(with_reducible repeat (first|apply blk_drewN|apply blk_drew|apply blk_alloc));exact BKz10.out) NBz10_0.out (by simp));have _:=Ak (KeepBut.blk hk (g':=gbz11) (o := .cells #[.int .i64 0, .int .i64 s0_1, .int .i64 0, .slice none 0 0, .slice none 0 0] 102 (0,0)) (by (with_reducible repeat (first|apply blk_drewN|apply blk_drew|apply blk_alloc));refine blk_put (cs := #[.int .i64 0, .int .i64 s0_1, .int .i64 0, .slice none 0 0, .slice none 0 0]) ?_ 4 _ rfl;(with_reducible repeat (first|apply blk_drewN|apply blk_drew|apply blk_alloc));refine blk_put (cs := #[.int .i64 0, .int .i64 s0_1, .int .i64 0, .slice none 0 0, .slice none 0 0]) ?_ 3 _ rfl;(with_reducible repeat (first|apply blk_drewN|apply blk_drew|apply blk_alloc));refine blk_put (cs := #[.int .i64 0, .int .i64 s0_1, .int .i64 0, .slice none 0 0, .slice none 0 0]) ?_ 2 _ rfl;(with_reducible repeat (first|apply blk_drewN|apply blk_drew|apply blk_alloc));refine blk_put (cs := #[.int .i64 0, .int .i64 0, .int .i64 0, .slice none 0 0, .slice none 0 0]) ?_ 1 _ rfl;(with_reducible repeat (first|apply blk_drewN|apply blk_drew|apply blk_alloc));refine blk_put (cs := #[.int .i64 0, .int .i64 0, .int .i64 0, .slice none 0 0, .slice none 0 0]) ?_ 0 _ rfl;(with_reducible repeat (first|apply blk_drewN|apply blk_drew|apply blk_alloc));exact BKz11.out) NBz11_0.out (by simp));have _:=Ak (KeepBut.trans (oK2 GWz10.out GWz11.out) hk (.inl rfl));have _:=Ak (hb);have _:=Ak (hi);clear BKz10 BKz11 HK HB HI0;rename_i BKz10 BKz11 HK HB HI0;clear hb hk hi;have hcz45_0:w44.cell? ⟨gbz11,0,none⟩=some (.int .i64 0):=(blk_cell BKz11.out 0).trans rfl;have hcz45_1:w44.cell? ⟨gbz11,1,none⟩=some (.int .i64 s0_1):=(blk_cell BKz11.out 1).trans rfl;have hcz45_2:w44.cell? ⟨gbz11,2,none⟩=some (.int .i64 0):=(blk_cell BKz11.out 2).trans rfl;have hcz45_3:w44.cell? ⟨gbz11,3,none⟩=some (.slice none 0 0):=(blk_cell BKz11.out 3).trans rfl;have hcz45_4:w44.cell? ⟨gbz11,4,none⟩=some (.slice none 0 0):=(blk_cell BKz11.out 4).trans rfl;have hfz45_0:=blk_frozen BKz11.out 0;have hfz45_1:=blk_frozen BKz11.out 1;have hfz45_2:=blk_frozen BKz11.out 2;have hfz45_3:=blk_frozen BKz11.out 3;have hfz45_4:=blk_frozen BKz11.out 4)|((with_reducible refine gate_callee (f:=153) rfl ?_);refine goesL_ (some 41) rfl rfl Tryz.func153 (by kernel_rfl) rfl #[.pointer (some ⟨g,0,none⟩)] rfl oM ?_;(with_reducible refine (rQ.calls k g tz4 tz5 tz3 tz21 tz22 w0 _ ?side1 ?side2 A37.out).mono ?_);(case side1=>exact oI2 NB0_z10.out NB0_z11.out);(case side2=>exact oG2 GEz10.out GEz11.out);rintro e w46 ⟨rfl,hi,hb,hk⟩;refine ⟨_,rfl,?_⟩;have _:=Ak (KeepBut.blk hk (g':=gbz10) (o := .cells #[.int .i64 0, .int .i64 0, .int .i64 0, .slice none 0 0, .slice none 0 0] 102 (0,0)) (by (with_reducible repeat (first|apply blk_drewN|apply blk_drew|apply blk_alloc));refine blk_far ?_ NBz10_412002.out _;(with_reducible repeat (first|apply blk_drewN|apply blk_drew|apply blk_alloc));exact BKz10.out) NBz10_0.out (by simp));have _:=Ak (KeepBut.blk hk (g':=gbz11) (o := .cells #[.int .i64 4, .int .i64 s0_1, .int .i64 0, .slice none 0 0, .slice none 0 0] 102 (0,0)) (by (with_reducible repeat (first|apply blk_drewN|apply blk_drew|apply blk_alloc));refine blk_put (cs := #[.int .i64 0, .int .i64 s0_1, .int .i64 0, .slice none 0 0, .slice none 0 0]) ?_ 0 _ rfl;(with_reducible repeat (first|apply blk_drewN|apply blk_drew|apply blk_alloc));exact BKz11.out) NBz11_0.out (by simp));have _:=Ak (KeepBut.trans (oK2 GWz10.out GWz11.out) hk (.inl rfl));have _:=Ak (hb);have _:=Ak (hi);clear BKz10 BKz11 HK HB HI0;rename_i BKz10 BKz11 HK HB HI0;clear hb hk hi;obtain ⟨HGz47,hgz47⟩:=HI0.out;have hcz47_0:=cellS152_0 HGz47;have hcz47_1:=cellS152_1 HGz47;have hfz47_0:=blk_frozen HGz47 0;have hfz47_1:=blk_frozen HGz47 1;clear HGz47 hgz47;have hcz48_0:w46.cell? ⟨gbz11,0,none⟩=some (.int .i64 4):=(blk_cell BKz11.out 0).trans rfl;have hcz48_1:w46.cell? ⟨gbz11,1,none⟩=some (.int .i64 s0_1):=(blk_cell BKz11.out 1).trans rfl;have hcz48_2:w46.cell? ⟨gbz11,2,none⟩=some (.int .i64 0):=(blk_cell BKz11.out 2).trans rfl;have hcz48_3:w46.cell? ⟨gbz11,3,none⟩=some (.slice none 0 0):=(blk_cell BKz11.out 3).trans rfl;have hcz48_4:w46.cell? ⟨gbz11,4,none⟩=some (.slice none 0 0):=(blk_cell BKz11.out 4).trans rfl;have hfz48_0:=blk_frozen BKz11.out 0;have hfz48_1:=blk_frozen BKz11.out 1;have hfz48_2:=blk_frozen BKz11.out 2;have hfz48_3:=blk_frozen BKz11.out 3;have hfz48_4:=blk_frozen BKz11.out 4;have hnb49:=NBz10_0.out;have hnc49:=NB0_z10.out;have hcz50_0:w46.cell? ⟨gbz10,0,none⟩=some (.int .i64 0):=(blk_cell BKz10.out 0).trans rfl;have hcz50_1:w46.cell? ⟨gbz10,1,none⟩=some (.int .i64 0):=(blk_cell BKz10.out 1).trans rfl;have hcz50_2:w46.cell? ⟨gbz10,2,none⟩=some (.int .i64 0):=(blk_cell BKz10.out 2).trans rfl;have hcz50_3:w46.cell? ⟨gbz10,3,none⟩=some (.slice none 0 0):=(blk_cell BKz10.out 3).trans rfl;have hcz50_4:w46.cell? ⟨gbz10,4,none⟩=some (.slice none 0 0):=(blk_cell BKz10.out 4).trans rfl;have hfz50_0:=blk_frozen BKz10.out 0;have hfz50_1:=blk_frozen BKz10.out 1;have hfz50_2:=blk_frozen BKz10.out 2;have hfz50_3:=blk_frozen BKz10.out 3;have hfz50_4:=blk_frozen BKz10.out 4))
  refine bodyPost_ret (results_ct rfl _ _ gbz10 102 #[.int .i64 4, .int .i64 s0_1, .int .i64 tz22, .slice none 0 0, .slice none 0 0] (0,0) _ rfl (by (with_reducible repeat (first|apply blk_drewN|apply blk_drew|apply blk_alloc));refine blk_put (cs := #[.int .i64 4, .int .i64 s0_1, .int .i64 tz22, .slice none 0 0, .slice none 0 0]) ?_ 4 _ rfl;(with_reducible repeat (first|apply blk_drewN|apply blk_drew|apply blk_alloc));refine blk_put (cs := #[.int .i64 4, .int .i64 s0_1, .int .i64 tz22, .slice none 0 0, .slice none 0 0]) ?_ 3 _ rfl;(with_reducible repeat (first|apply blk_drewN|apply blk_drew|apply blk_alloc));refine blk_put (cs := #[.int .i64 4, .int .i64 s0_1, .int .i64 0, .slice none 0 0, .slice none 0 0]) ?_ 2 _ rfl;(with_reducible repeat (first|apply blk_drewN|apply blk_drew|apply blk_alloc));refine blk_put (cs := #[.int .i64 4, .int .i64 0, .int .i64 0, .slice none 0 0, .slice none 0 0]) ?_ 1 _ rfl;(with_reducible repeat (first|apply blk_drewN|apply blk_drew|apply blk_alloc));refine blk_put (cs := #[.int .i64 0, .int .i64 0, .int .i64 0, .slice none 0 0, .slice none 0 0]) ?_ 0 _ rfl;(with_reducible repeat (first|apply blk_drewN|apply blk_drew|apply blk_alloc));refine blk_far ?_ NBz10_412002.out _;(with_reducible repeat (first|apply blk_drewN|apply blk_drew|apply blk_alloc));exact BKz10.out) Tryz.underlying102 rfl (by kernel_rfl)) rfl ?_
  exact ⟨_,_,oE,by first|exact Kd.R_nil _ _ _ _ _|exact Kd.N_nil _ _ _ _ _|exact Kd.V_nil _ _ _ _ _|exact Kd.Q_nil _ _ _ _ _|exact Kd.S_nil _ _ _ _ _,by first|exact Kd.R_nil _ _ _ _ _|exact Kd.N_nil _ _ _ _ _|exact Kd.V_nil _ _ _ _ _|exact Kd.Q_nil _ _ _ _ _|exact Kd.S_nil _ _ _ _ _,oI2 NB0_z10.out NB0_z11.out,oG2 GEz10.out GEz11.out,oK2 GWz10.out GWz11.out⟩
 rw [if_neg c36] at H
 have c36b0:(tz0 == 34)=false:=beq_eq_false_iff_ne.mpr c36
 have c36b1:(tz0 != 34)=true:=bne_iff_ne.mpr c36
 have HC51:=Ak H
 clear H
 go_enter Tryz.func104,Tryz.ntmps104
 go_upto_region 14 with (first|((with_reducible refine gate_dst (N:=2) rfl ?_);refine box_event ?hg (N:=2) ?hd (cs := #[.int .i64 0, .int .i64 0, .int .i64 0, .slice none 0 0, .slice none 0 0]) (t:=102) ?hr ?_;(case hd=>rfl);(case hg=>rfl);(case hr=>first|(go_simp;done)|(go_simp;rfl));intro gbz10 hg w52 hbox hb;have _:=Ak (IsS152.below oI hb);have _:=Ak (KeepBut.trans oK (KeepBut.of_below hb g none) (.inl rfl));have _:=Ak (below_step oG hb);have _:=Ak (hbox);have _:=Ak ((by rw [hg];exact (keep_size (w:=w) (g:=g) (row:=none) oK):w.heap.size≤gbz10));have _:=Ak ((Nat.le_trans HW0.out (by rw [hg];exact (keep_size (w:=w) (g:=g) (row:=none) oK):w.heap.size≤gbz10):w0.heap.size≤gbz10));have _:=Ak ((by rw [hg];exact Nat.ne_of_lt (IsS152.lt (show IsS152 w0 _ g s0_0 s0_1 from oI)):g≠gbz10));have _:=Ak ((by rw [hg];exact Nat.ne_of_gt (IsS152.lt (show IsS152 w0 _ g s0_0 s0_1 from oI)):gbz10≠g));clear HI0 HK HB;rename_i HI0 HK HB BKz10 GWz10 GEz10 NB0_z10 NBz10_0;clear hb hbox hg;obtain ⟨HGz53,hgz53⟩:=HI0.out;have hcz53_0:=cellS152_0 HGz53;have hcz53_1:=cellS152_1 HGz53;have hfz53_0:=blk_frozen HGz53 0;have hfz53_1:=blk_frozen HGz53 1;clear HGz53 hgz53)|((with_reducible refine gate_dst (N:=4) rfl ?_);refine box_event ?hg (N:=4) ?hd (cs := #[.int .i64 0, .int .i64 0, .int .i64 0, .slice none 0 0, .slice none 0 0]) (t:=102) ?hr ?_;(case hd=>rfl);(case hg=>rfl);(case hr=>first|(go_simp;done)|(go_simp;rfl));intro gbz11 hg w54 hbox hb;have _:=Ak (IsS152.below (oI1 NB0_z10.out) hb);have _:=Ak (blk_below (g:=gbz10) (o := .cells #[.int .i64 0, .int .i64 0, .int .i64 0, .slice none 0 0, .slice none 0 0] 102 (0,0)) (oL BKz10.out) hb);have _:=Ak (KeepBut.trans (oK1 GWz10.out) (KeepBut.of_below hb g none) (.inl rfl));have _:=Ak (below_step (oG1 GEz10.out) hb);have _:=Ak (hbox);have _:=Ak ((by rw [hg];exact (keep_size (w:=w) (g:=g) (row:=none) (oK1 GWz10.out)):w.heap.size≤gbz11));have _:=Ak ((Nat.le_trans HW0.out (by rw [hg];exact (keep_size (w:=w) (g:=g) (row:=none) (oK1 GWz10.out)):w.heap.size≤gbz11):w0.heap.size≤gbz11));have _:=Ak ((by rw [hg];exact Nat.ne_of_lt (blk_lt (g:=gbz10) (o := .cells #[.int .i64 0, .int .i64 0, .int .i64 0, .slice none 0 0, .slice none 0 0] 102 (0,0)) (oL BKz10.out)):gbz10≠gbz11));have _:=Ak ((by rw [hg];exact Nat.ne_of_gt (blk_lt (g:=gbz10) (o := .cells #[.int .i64 0, .int .i64 0, .int .i64 0, .slice none 0 0, .slice none 0 0] 102 (0,0)) (oL BKz10.out)):gbz11≠gbz10));have _:=Ak ((by rw [hg];exact Nat.ne_of_lt (IsS152.lt (show IsS152 w0 _ g s0_0 s0_1 from oI1 NB0_z10.out)):g≠gbz11));have _:=Ak ((by rw [hg];exact Nat.ne_of_gt (IsS152.lt (show IsS152 w0 _ g s0_0 s0_1 from oI1 NB0_z10.out)):gbz11≠g));clear HI0 BKz10 HK HB;rename_i HI0 BKz10 HK HB BKz11 GWz11 GEz11 NBz10_412002 NBz11_412001 NB0_z11 NBz11_0;clear hb hbox hg;have hnb55:=NBz11_412001.out;have hnc55:=NBz10_412002.out;have hnb56:=NBz11_0.out;have hnc56:=NB0_z11.out;have hcz57_0:w54.cell? ⟨gbz11,0,none⟩=some (.int .i64 0):=(blk_cell BKz11.out 0).trans rfl;have hcz57_1:w54.cell? ⟨gbz11,1,none⟩=some (.int .i64 0):=(blk_cell BKz11.out 1).trans rfl;have hcz57_2:w54.cell? ⟨gbz11,2,none⟩=some (.int .i64 0):=(blk_cell BKz11.out 2).trans rfl;have hcz57_3:w54.cell? ⟨gbz11,3,none⟩=some (.slice none 0 0):=(blk_cell BKz11.out 3).trans rfl;have hcz57_4:w54.cell? ⟨gbz11,4,none⟩=some (.slice none 0 0):=(blk_cell BKz11.out 4).trans rfl;have hfz57_0:=blk_frozen BKz11.out 0;have hfz57_1:=blk_frozen BKz11.out 1;have hfz57_2:=blk_frozen BKz11.out 2;have hfz57_3:=blk_frozen BKz11.out 3;have hfz57_4:=blk_frozen BKz11.out 4)|((with_reducible refine gate_callee (f:=150) rfl ?_);refine goesL_ (some 13) rfl rfl Tryz.func150 (by kernel_rfl) rfl #[.pointer (some ⟨g,0,none⟩)] rfl oM ?_;(with_reducible refine (rH.calls g s0_0 s0_1 tz0 tz4 tz5 w0 _ ?side1 ?side2 A2.out).mono ?_);(case side1=>exact oI2 NB0_z10.out NB0_z11.out);(case side2=>exact oG2 GEz10.out GEz11.out);rintro e w58 ⟨rfl,hi,hb,hk⟩;refine ⟨_,rfl,?_⟩;have _:=Ak (KeepBut.blk hk (g':=gbz10) (o := .cells #[.int .i64 0, .int .i64 0, .int .i64 0, .slice none 0 0, .slice none 0 0] 102 (0,0)) (by (with_reducible repeat (first|apply blk_drewN|apply blk_drew|apply blk_alloc));refine blk_far ?_ NBz10_412002.out _;(with_reducible repeat (first|apply blk_drewN|apply blk_drew|apply blk_alloc));refine blk_far ?_ NBz10_412002.out _;(with_reducible repeat (first|apply blk_drewN|apply blk_drew|apply blk_alloc));refine blk_far ?_ NBz10_412002.out _;(with_reducible repeat (first|apply blk_drewN|apply blk_drew|apply blk_alloc));refine blk_far ?_ NBz10_412002.out _;(with_reducible repeat (first|apply blk_drewN|apply blk_drew|apply blk_alloc));refine blk_far ?_ NBz10_412002.out _;(with_reducible repeat (first|apply blk_drewN|apply blk_drew|apply blk_alloc));exact BKz10.out) NBz10_0.out (by simp));have _:=Ak (KeepBut.blk hk (g':=gbz11) (o := .cells #[.int .i64 0, .int .i64 s0_1, .int .i64 0, .slice none 0 0, .slice none 0 0] 102 (0,0)) (by (with_reducible repeat (first|apply blk_drewN|apply blk_drew|apply blk_alloc));refine blk_put (cs := #[.int .i64 0, .int .i64 s0_1, .int .i64 0, .slice none 0 0, .slice none 0 0]) ?_ 4 _ rfl;(with_reducible repeat (first|apply blk_drewN|apply blk_drew|apply blk_alloc));refine blk_put (cs := #[.int .i64 0, .int .i64 s0_1, .int .i64 0, .slice none 0 0, .slice none 0 0]) ?_ 3 _ rfl;(with_reducible repeat (first|apply blk_drewN|apply blk_drew|apply blk_alloc));refine blk_put (cs := #[.int .i64 0, .int .i64 s0_1, .int .i64 0, .slice none 0 0, .slice none 0 0]) ?_ 2 _ rfl;(with_reducible repeat (first|apply blk_drewN|apply blk_drew|apply blk_alloc));refine blk_put (cs := #[.int .i64 0, .int .i64 0, .int .i64 0, .slice none 0 0, .slice none 0 0]) ?_ 1 _ rfl;(with_reducible repeat (first|apply blk_drewN|apply blk_drew|apply blk_alloc));refine blk_put (cs := #[.int .i64 0, .int .i64 0, .int .i64 0, .slice none 0 0, .slice none 0 0]) ?_ 0 _ rfl;(with_reducible repeat (first|apply blk_drewN|apply blk_drew|apply blk_alloc));exact BKz11.out) NBz11_0.out (by simp));have _:=Ak (KeepBut.trans (oK2 GWz10.out GWz11.out) hk (.inl rfl));have _:=Ak (hb);have _:=Ak (hi);clear BKz10 BKz11 HK HB HI0;rename_i BKz10 BKz11 HK HB HI0;clear hb hk hi))
 (try simp only [Act.put,List.setIfInBounds_toArray,List.set_cons_zero,List.set_cons_succ])
 go_cut [42] (fun v42 wc => ∃ (kq:Nat) (x42_50:Bool),v42 = .bool x42_50∧Aside0 (rV.j0 kq true x42_50 tz4 tz5 0 s0_1 0=some (r1,r2,r3,r4,r5,r6,r7,r8))∧Aside0 (kq≤k)∧Aside0 (wc.heap[gbz10]? = some (.cells #[.int .i64 0, .int .i64 0, .int .i64 0,(.slice none 0 0),(.slice none 0 0)] 102 (0,0)))∧Aside0 (wc.heap[gbz11]? = some (.cells #[.int .i64 0, .int .i64 s0_1, .int .i64 0,(.slice none 0 0),(.slice none 0 0)] 102 (0,0)))∧Aside0 (IsS152 w0 wc g tz4 tz5)∧Aside0 (KeepBut w wc g none)∧Aside0 (Below w0.heap.size w0 wc))
 case first =>
  have H:=HC51.out
  clear HC51
  by_cases c59:tz0=45
  ·
   rw [if_pos c59] at H
   have c59b0:(tz0 == 45)=true:=beq_iff_eq.mpr c59
   have c59b1:(tz0 != 45)=false:=bne_eq_false_iff_eq.mpr c59
   clear c59
   (first|rw [c59b0]|(simp only [i64_w,i32_w];rw [c59b0])|skip)
   have H':=Ak H
   clear H
   go_wp2
   go_meet
   case rel=>exact ⟨_,(true),oS,H',⟨by first|omega|exact Nat.le_refl _⟩,⟨oL BKz10.out⟩,⟨oL BKz11.out⟩,⟨oI2 NB0_z10.out NB0_z11.out⟩,⟨oK2 GWz10.out GWz11.out⟩,⟨oG2 GEz10.out GEz11.out⟩⟩
  rw [if_neg c59] at H
  have c59b0:(tz0 == 45)=false:=beq_eq_false_iff_ne.mpr c59
  have c59b1:(tz0 != 45)=true:=bne_iff_ne.mpr c59
  (first|rw [c59b0]|(simp only [i64_w,i32_w];rw [c59b0])|skip)
  by_cases c60:48≤tz0
  ·
   rw [if_pos c60] at H
   have c60b0:decide (48≤tz0)=true:=decide_eq_true c60
   clear c60
   have H':=Ak H
   clear H
   go_wp2
   go_meet
   case rel=>exact ⟨_,(decide (tz0≤57)),oS,H',⟨by first|omega|exact Nat.le_refl _⟩,⟨oL BKz10.out⟩,⟨oL BKz11.out⟩,⟨oI2 NB0_z10.out NB0_z11.out⟩,⟨oK2 GWz10.out GWz11.out⟩,⟨oG2 GEz10.out GEz11.out⟩⟩
  rw [if_neg c60] at H
  have c60b0:decide (48≤tz0)=false:=decide_eq_false c60
  clear c60
  have H':=Ak H
  clear H
  go_wp2
  go_meet
  case rel=>exact ⟨_,(false),oS,H',⟨by first|omega|exact Nat.le_refl _⟩,⟨oL BKz10.out⟩,⟨oL BKz11.out⟩,⟨oI2 NB0_z10.out NB0_z11.out⟩,⟨oK2 GWz10.out GWz11.out⟩,⟨oG2 GEz10.out GEz11.out⟩⟩
 case rest =>
 clear HC51
 try clear c1
 try clear c2
 try clear p2
 try clear c3
 try clear c3b0
 try clear c3b1
 try clear c4
 try clear c5
 try clear c6
 try clear c8
 try clear c9
 try clear c10
 try clear c15
 try clear c18
 try clear c20
 try clear c20b0
 try clear c20b1
 try clear c25
 try clear c26
 try clear c34
 try clear c36
 try clear c36b0
 try clear c36b1
 try clear c41
 try clear c42
 try clear c49
 try clear c55
 try clear c56
 try clear c59
 try clear c59b0
 try clear c59b1
 try clear c60
 try clear c60b0
 try clear hcz10_0
 try clear hcz10_1
 try clear hcz10_2
 try clear hcz10_3
 try clear hcz10_4
 try clear hcz12_0
 try clear hcz12_1
 try clear hcz12_2
 try clear hcz12_3
 try clear hcz12_4
 try clear hcz15_0
 try clear hcz15_1
 try clear hcz15_2
 try clear hcz15_3
 try clear hcz15_4
 try clear hcz17_0
 try clear hcz17_1
 try clear hcz19_0
 try clear hcz19_1
 try clear hcz19_2
 try clear hcz19_3
 try clear hcz19_4
 try clear hcz23_0
 try clear hcz23_1
 try clear hcz27_0
 try clear hcz27_1
 try clear hcz27_2
 try clear hcz27_3
 try clear hcz27_4
 try clear hcz29_0
 try clear hcz29_1
 try clear hcz29_2
 try clear hcz29_3
 try clear hcz29_4
 try clear hcz32_0
 try clear hcz32_1
 try clear hcz32_2
 try clear hcz32_3
 try clear hcz32_4
 try clear hcz33_0
 try clear hcz33_1
 try clear hcz35_0
 try clear hcz35_1
 try clear hcz35_2
 try clear hcz35_3
 try clear hcz35_4
 try clear hcz39_0
 try clear hcz39_1
 try clear hcz43_0
 try clear hcz43_1
 try clear hcz43_2
 try clear hcz43_3
 try clear hcz43_4
 try clear hcz45_0
 try clear hcz45_1
 try clear hcz45_2
 try clear hcz45_3
 try clear hcz45_4
 try clear hcz47_0
 try clear hcz47_1
 try clear hcz48_0
 try clear hcz48_1
 try clear hcz48_2
 try clear hcz48_3
 try clear hcz48_4
 try clear hcz50_0
 try clear hcz50_1
 try clear hcz50_2
 try clear hcz50_3
 try clear hcz50_4
 try clear hcz53_0
 try clear hcz53_1
 try clear hcz57_0
 try clear hcz57_1
 try clear hcz57_2
 try clear hcz57_3
 try clear hcz57_4
 try clear hcz6_0
 try clear hcz6_1
 try clear hfz10_0
 try clear hfz10_1
 try clear hfz10_2
 try clear hfz10_3
 try clear hfz10_4
 try clear hfz12_0
 try clear hfz12_1
 try clear hfz12_2
 try clear hfz12_3
 try clear hfz12_4
 try clear hfz15_0
 try clear hfz15_1
 try clear hfz15_2
 try clear hfz15_3
 try clear hfz15_4
 try clear hfz17_0
 try clear hfz17_1
 try clear hfz19_0
 try clear hfz19_1
 try clear hfz19_2
 try clear hfz19_3
 try clear hfz19_4
 try clear hfz23_0
 try clear hfz23_1
 try clear hfz27_0
 try clear hfz27_1
 try clear hfz27_2
 try clear hfz27_3
 try clear hfz27_4
 try clear hfz29_0
 try clear hfz29_1
 try clear hfz29_2
 try clear hfz29_3
 try clear hfz29_4
 try clear hfz32_0
 try clear hfz32_1
 try clear hfz32_2
 try clear hfz32_3
 try clear hfz32_4
 try clear hfz33_0
 try clear hfz33_1
 try clear hfz35_0
 try clear hfz35_1
 try clear hfz35_2
 try clear hfz35_3
 try clear hfz35_4
 try clear hfz39_0
 try clear hfz39_1
 try clear hfz43_0
 try clear hfz43_1
 try clear hfz43_2
 try clear hfz43_3
 try clear hfz43_4
 try clear hfz45_0
 try clear hfz45_1
 try clear hfz45_2
 try clear hfz45_3
 try clear hfz45_4
 try clear hfz47_0
 try clear hfz47_1
 try clear hfz48_0
 try clear hfz48_1
 try clear hfz48_2
 try clear hfz48_3
 try clear hfz48_4
 try clear hfz50_0
 try clear hfz50_1
 try clear hfz50_2
 try clear hfz50_3
 try clear hfz50_4
 try clear hfz53_0
 try clear hfz53_1
 try clear hfz57_0
 try clear hfz57_1
 try clear hfz57_2
 try clear hfz57_3
 try clear hfz57_4
 try clear hfz6_0
 try clear hfz6_1
 obtain ⟨kq,x42_50,rfl,HA,HJ50,BKz10,BKz11,HI0,HK,HB⟩:=hcut
 cases kq with
 | zero=>exact absurd HA.out (by simp [rV.j0])
 | succ kj50 =>
  have H:=HA.out
  clear HA
  simp only [rV.j0] at H
  by_cases c61:x42_50=true
  ·
   subst c61
   have H1:((rN.f kj50 tz4 tz5).bind fun btz23=>(some (3,s0_1,btz23.2.2,([]:List (S155)),([]:List (S102)),btz23.1,btz23.2.1,btz23.2.2)))=some (r1,r2,r3,r4,r5,r6,r7,r8):=by rw [if_pos rfl] at H;exact H
   clear H
   have H:=H1
   clear H1
   replace H:=Option.bind_eq_some_iff.mp H
   obtain ⟨⟨tz23,tz24,tz25⟩,A620,H⟩:=H
   replace H:(some (3,s0_1,tz25,([]:List (S155)),([]:List (S102)),tz23,tz24,tz25))=some (r1,r2,r3,r4,r5,r6,r7,r8):=H
   have A62:=Ak A620
   clear A620
   simp only [Option.some.injEq,Prod.mk.injEq] at H
   obtain ⟨rfl,rfl,rfl,rfl,rfl,rfl,rfl,rfl⟩:=H
   have hnb63:=NBz11_412001.out
   have hnc63:=NBz10_412002.out
   have hnb64:=NBz11_0.out
   have hnc64:=NB0_z11.out
   have hcz65_0:wc.cell? ⟨gbz11,0,none⟩=some (.int .i64 0):=(blk_cell BKz11.out 0).trans rfl
   have hcz65_1:wc.cell? ⟨gbz11,1,none⟩=some (.int .i64 s0_1):=(blk_cell BKz11.out 1).trans rfl
   have hcz65_2:wc.cell? ⟨gbz11,2,none⟩=some (.int .i64 0):=(blk_cell BKz11.out 2).trans rfl
   have hcz65_3:wc.cell? ⟨gbz11,3,none⟩=some (.slice none 0 0):=(blk_cell BKz11.out 3).trans rfl
   have hcz65_4:wc.cell? ⟨gbz11,4,none⟩=some (.slice none 0 0):=(blk_cell BKz11.out 4).trans rfl
   have hfz65_0:=blk_frozen BKz11.out 0
   have hfz65_1:=blk_frozen BKz11.out 1
   have hfz65_2:=blk_frozen BKz11.out 2
   have hfz65_3:=blk_frozen BKz11.out 3
   have hfz65_4:=blk_frozen BKz11.out 4
   go_wp2_with (first|((with_reducible refine gate_callee (f:=154) rfl ?_);refine goesL_ (some 55) rfl rfl Tryz.func154 (by kernel_rfl) rfl #[.pointer (some ⟨g,0,none⟩)] rfl oM ?_;(with_reducible refine (rN.calls kj50 g tz4 tz5 tz23 tz24 tz25 w0 _ ?side1 ?side2 A62.out).mono ?_);(case side1=>exact oI2 NB0_z10.out NB0_z11.out);(case side2=>exact oG2 GEz10.out GEz11.out);rintro e w66 ⟨rfl,hi,hb,hk⟩;refine ⟨_,rfl,?_⟩;have _:=Ak (KeepBut.blk hk (g':=gbz10) (o := .cells #[.int .i64 0, .int .i64 0, .int .i64 0, .slice none 0 0, .slice none 0 0] 102 (0,0)) (by (with_reducible repeat (first|apply blk_drewN|apply blk_drew|apply blk_alloc));refine blk_far ?_ NBz10_412002.out _;(with_reducible repeat (first|apply blk_drewN|apply blk_drew|apply blk_alloc));exact BKz10.out) NBz10_0.out (by simp));have _:=Ak (KeepBut.blk hk (g':=gbz11) (o := .cells #[.int .i64 3, .int .i64 s0_1, .int .i64 0, .slice none 0 0, .slice none 0 0] 102 (0,0)) (by (with_reducible repeat (first|apply blk_drewN|apply blk_drew|apply blk_alloc));refine blk_put (cs := #[.int .i64 0, .int .i64 s0_1, .int .i64 0, .slice none 0 0, .slice none 0 0]) ?_ 0 _ rfl;(with_reducible repeat (first|apply blk_drewN|apply blk_drew|apply blk_alloc));exact BKz11.out) NBz11_0.out (by simp));have _:=Ak (KeepBut.trans (oK2 GWz10.out GWz11.out) hk (.inl rfl));have _:=Ak (hb);have _:=Ak (hi);clear BKz10 BKz11 HK HB HI0;rename_i BKz10 BKz11 HK HB HI0;clear hb hk hi;obtain ⟨HGz67,hgz67⟩:=HI0.out;have hcz67_0:=cellS152_0 HGz67;have hcz67_1:=cellS152_1 HGz67;have hfz67_0:=blk_frozen HGz67 0;have hfz67_1:=blk_frozen HGz67 1;clear HGz67 hgz67;have hcz68_0:w66.cell? ⟨gbz11,0,none⟩=some (.int .i64 3):=(blk_cell BKz11.out 0).trans rfl;have hcz68_1:w66.cell? ⟨gbz11,1,none⟩=some (.int .i64 s0_1):=(blk_cell BKz11.out 1).trans rfl;have hcz68_2:w66.cell? ⟨gbz11,2,none⟩=some (.int .i64 0):=(blk_cell BKz11.out 2).trans rfl;have hcz68_3:w66.cell? ⟨gbz11,3,none⟩=some (.slice none 0 0):=(blk_cell BKz11.out 3).trans rfl;have hcz68_4:w66.cell? ⟨gbz11,4,none⟩=some (.slice none 0 0):=(blk_cell BKz11.out 4).trans rfl;have hfz68_0:=blk_frozen BKz11.out 0;have hfz68_1:=blk_frozen BKz11.out 1;have hfz68_2:=blk_frozen BKz11.out 2;have hfz68_3:=blk_frozen BKz11.out 3;have hfz68_4:=blk_frozen BKz11.out 4;have hnb69:=NBz10_0.out;have hnc69:=NB0_z10.out;have hcz70_0:w66.cell? ⟨gbz10,0,none⟩=some (.int .i64 0):=(blk_cell BKz10.out 0).trans rfl;have hcz70_1:w66.cell? ⟨gbz10,1,none⟩=some (.int .i64 0):=(blk_cell BKz10.out 1).trans rfl;have hcz70_2:w66.cell? ⟨gbz10,2,none⟩=some (.int .i64 0):=(blk_cell BKz10.out 2).trans rfl;have hcz70_3:w66.cell? ⟨gbz10,3,none⟩=some (.slice none 0 0):=(blk_cell BKz10.out 3).trans rfl;have hcz70_4:w66.cell? ⟨gbz10,4,none⟩=some (.slice none 0 0):=(blk_cell BKz10.out 4).trans rfl;have hfz70_0:=blk_frozen BKz10.out 0;have hfz70_1:=blk_frozen BKz10.out 1;have hfz70_2:=blk_frozen BKz10.out 2;have hfz70_3:=blk_frozen BKz10.out 3;have hfz70_4:=blk_frozen BKz10.out 4))
   refine bodyPost_ret (results_ct rfl _ _ gbz10 102 #[.int .i64 3, .int .i64 s0_1, .int .i64 tz25, .slice none 0 0, .slice none 0 0] (0,0) _ rfl (by (with_reducible repeat (first|apply blk_drewN|apply blk_drew|apply blk_alloc));refine blk_put (cs := #[.int .i64 3, .int .i64 s0_1, .int .i64 tz25, .slice none 0 0, .slice none 0 0]) ?_ 4 _ rfl;(with_reducible repeat (first|apply blk_drewN|apply blk_drew|apply blk_alloc));refine blk_put (cs := #[.int .i64 3, .int .i64 s0_1, .int .i64 tz25, .slice none 0 0, .slice none 0 0]) ?_ 3 _ rfl;(with_reducible repeat (first|apply blk_drewN|apply blk_drew|apply blk_alloc));refine blk_put (cs := #[.int .i64 3, .int .i64 s0_1, .int .i64 0, .slice none 0 0, .slice none 0 0]) ?_ 2 _ rfl;(with_reducible repeat (first|apply blk_drewN|apply blk_drew|apply blk_alloc));refine blk_put (cs := #[.int .i64 3, .int .i64 0, .int .i64 0, .slice none 0 0, .slice none 0 0]) ?_ 1 _ rfl;(with_reducible repeat (first|apply blk_drewN|apply blk_drew|apply blk_alloc));refine blk_put (cs := #[.int .i64 0, .int .i64 0, .int .i64 0, .slice none 0 0, .slice none 0 0]) ?_ 0 _ rfl;(with_reducible repeat (first|apply blk_drewN|apply blk_drew|apply blk_alloc));refine blk_far ?_ NBz10_412002.out _;(with_reducible repeat (first|apply blk_drewN|apply blk_drew|apply blk_alloc));exact BKz10.out) Tryz.underlying102 rfl (by kernel_rfl)) rfl ?_
   exact ⟨_,_,oE,by first|exact Kd.R_nil _ _ _ _ _|exact Kd.N_nil _ _ _ _ _|exact Kd.V_nil _ _ _ _ _|exact Kd.Q_nil _ _ _ _ _|exact Kd.S_nil _ _ _ _ _,by first|exact Kd.R_nil _ _ _ _ _|exact Kd.N_nil _ _ _ _ _|exact Kd.V_nil _ _ _ _ _|exact Kd.Q_nil _ _ _ _ _|exact Kd.S_nil _ _ _ _ _,oI2 NB0_z10.out NB0_z11.out,oG2 GEz10.out GEz11.out,oK2 GWz10.out GWz11.out⟩
  replace c61:=Bool.eq_false_iff.mpr c61
  subst c61
  have H1:((rW.f tz4 tz5 (⟨#[110,117,108,108]⟩:ByteArray)).bind fun btz26=>(if btz26.1=true then (some (0,s0_1,btz26.2.2,([]:List (S155)),([]:List (S102)),true,btz26.2.1,btz26.2.2)) else ((rW.f btz26.2.1 btz26.2.2 (⟨#[102,97,108,115,101]⟩:ByteArray)).bind fun btz27=>(if btz27.1=true then (some (1,s0_1,btz27.2.2,([]:List (S155)),([]:List (S102)),true,btz27.2.1,btz27.2.2)) else ((rW.f btz27.2.1 btz27.2.2 (⟨#[116,114,117,101]⟩:ByteArray)).bind fun btz28=>(if btz28.1=true then (some (2,s0_1,btz28.2.2,([]:List (S155)),([]:List (S102)),true,btz28.2.1,btz28.2.2)) else (some (0,s0_1,btz28.2.2,([]:List (S155)),([]:List (S102)),false,btz28.2.1,btz28.2.2))))))))=some (r1,r2,r3,r4,r5,r6,r7,r8):=by rw [if_neg (show ¬ (false=true) by decide)] at H;exact H
  clear H
  have H:=H1
  clear H1
  replace H:=Option.bind_eq_some_iff.mp H
  obtain ⟨⟨tz26,tz29,tz30⟩,A710,H⟩:=H
  replace H:(if tz26=true then (some (0,s0_1,tz30,([]:List (S155)),([]:List (S102)),true,tz29,tz30)) else ((rW.f tz29 tz30 (⟨#[102,97,108,115,101]⟩:ByteArray)).bind fun btz27=>(if btz27.1=true then (some (1,s0_1,btz27.2.2,([]:List (S155)),([]:List (S102)),true,btz27.2.1,btz27.2.2)) else ((rW.f btz27.2.1 btz27.2.2 (⟨#[116,114,117,101]⟩:ByteArray)).bind fun btz28=>(if btz28.1=true then (some (2,s0_1,btz28.2.2,([]:List (S155)),([]:List (S102)),true,btz28.2.1,btz28.2.2)) else (some (0,s0_1,btz28.2.2,([]:List (S155)),([]:List (S102)),false,btz28.2.1,btz28.2.2)))))))=some (r1,r2,r3,r4,r5,r6,r7,r8):=H
  have A71:=Ak A710
  clear A710
  by_cases c72:tz26=true
  ·
   subst c72
   have H1:(some (0,s0_1,tz30,([]:List (S155)),([]:List (S102)),true,tz29,tz30))=some (r1,r2,r3,r4,r5,r6,r7,r8):=by rw [if_pos rfl] at H;exact H
   clear H
   have H:=H1
   clear H1
   simp only [Option.some.injEq,Prod.mk.injEq] at H
   obtain ⟨rfl,rfl,rfl,rfl,rfl,rfl,rfl,rfl⟩:=H
   go_wp2_with (first|((with_reducible refine gate_callee (f:=155) rfl ?_);refine goesL_ (some 58) rfl rfl Tryz.func155 (by kernel_rfl) rfl #[.pointer (some ⟨g,0,none⟩), .string (⟨#[110,117,108,108]⟩:ByteArray)] rfl oM ?_;(with_reducible refine (rW.calls g tz4 tz5 (⟨#[110,117,108,108]⟩:ByteArray) true tz29 tz30 w0 _ ?side1 ?side2 A71.out).mono ?_);(case side1=>exact oI2 NB0_z10.out NB0_z11.out);(case side2=>exact oG2 GEz10.out GEz11.out);rintro e w73 ⟨rfl,hi,hb,hk⟩;refine ⟨_,rfl,?_⟩;have _:=Ak (KeepBut.blk hk (g':=gbz10) (o := .cells #[.int .i64 0, .int .i64 0, .int .i64 0, .slice none 0 0, .slice none 0 0] 102 (0,0)) (oL BKz10.out) NBz10_0.out (by simp));have _:=Ak (KeepBut.blk hk (g':=gbz11) (o := .cells #[.int .i64 0, .int .i64 s0_1, .int .i64 0, .slice none 0 0, .slice none 0 0] 102 (0,0)) (oL BKz11.out) NBz11_0.out (by simp));have _:=Ak (KeepBut.trans (oK2 GWz10.out GWz11.out) hk (.inl rfl));have _:=Ak (hb);have _:=Ak (hi);clear BKz10 BKz11 HK HB HI0;rename_i BKz10 BKz11 HK HB HI0;clear hb hk hi;have hnb74:=NBz11_412001.out;have hnc74:=NBz10_412002.out;have hnb75:=NBz11_0.out;have hnc75:=NB0_z11.out;have hcz76_0:w73.cell? ⟨gbz11,0,none⟩=some (.int .i64 0):=(blk_cell BKz11.out 0).trans rfl;have hcz76_1:w73.cell? ⟨gbz11,1,none⟩=some (.int .i64 s0_1):=(blk_cell BKz11.out 1).trans rfl;have hcz76_2:w73.cell? ⟨gbz11,2,none⟩=some (.int .i64 0):=(blk_cell BKz11.out 2).trans rfl;have hcz76_3:w73.cell? ⟨gbz11,3,none⟩=some (.slice none 0 0):=(blk_cell BKz11.out 3).trans rfl;have hcz76_4:w73.cell? ⟨gbz11,4,none⟩=some (.slice none 0 0):=(blk_cell BKz11.out 4).trans rfl;have hfz76_0:=blk_frozen BKz11.out 0;have hfz76_1:=blk_frozen BKz11.out 1;have hfz76_2:=blk_frozen BKz11.out 2;have hfz76_3:=blk_frozen BKz11.out 3;have hfz76_4:=blk_frozen BKz11.out 4;obtain ⟨HGz77,hgz77⟩:=HI0.out;have hcz77_0:=cellS152_0 HGz77;have hcz77_1:=cellS152_1 HGz77;have hfz77_0:=blk_frozen HGz77 0;have hfz77_1:=blk_frozen HGz77 1;clear HGz77 hgz77;have hnb78:=NBz10_0.out;have hnc78:=NB0_z10.out;have hcz79_0:w73.cell? ⟨gbz10,0,none⟩=some (.int .i64 0):=(blk_cell BKz10.out 0).trans rfl;have hcz79_1:w73.cell? ⟨gbz10,1,none⟩=some (.int .i64 0):=(blk_cell BKz10.out 1).trans rfl;have hcz79_2:w73.cell? ⟨gbz10,2,none⟩=some (.int .i64 0):=(blk_cell BKz10.out 2).trans rfl;have hcz79_3:w73.cell? ⟨gbz10,3,none⟩=some (.slice none 0 0):=(blk_cell BKz10.out 3).trans rfl;have hcz79_4:w73.cell? ⟨gbz10,4,none⟩=some (.slice none 0 0):=(blk_cell BKz10.out 4).trans rfl;have hfz79_0:=blk_frozen BKz10.out 0;have hfz79_1:=blk_frozen BKz10.out 1;have hfz79_2:=blk_frozen BKz10.out 2;have hfz79_3:=blk_frozen BKz10.out 3;have hfz79_4:=blk_frozen BKz10.out 4))
   refine bodyPost_ret (results_ct rfl _ _ gbz10 102 #[.int .i64 0, .int .i64 s0_1, .int .i64 tz30, .slice none 0 0, .slice none 0 0] (0,0) _ rfl (by (with_reducible repeat (first|apply blk_drewN|apply blk_drew|apply blk_alloc));refine blk_put (cs := #[.int .i64 0, .int .i64 s0_1, .int .i64 tz30, .slice none 0 0, .slice none 0 0]) ?_ 4 _ rfl;(with_reducible repeat (first|apply blk_drewN|apply blk_drew|apply blk_alloc));refine blk_put (cs := #[.int .i64 0, .int .i64 s0_1, .int .i64 tz30, .slice none 0 0, .slice none 0 0]) ?_ 3 _ rfl;(with_reducible repeat (first|apply blk_drewN|apply blk_drew|apply blk_alloc));refine blk_put (cs := #[.int .i64 0, .int .i64 s0_1, .int .i64 0, .slice none 0 0, .slice none 0 0]) ?_ 2 _ rfl;(with_reducible repeat (first|apply blk_drewN|apply blk_drew|apply blk_alloc));refine blk_put (cs := #[.int .i64 0, .int .i64 0, .int .i64 0, .slice none 0 0, .slice none 0 0]) ?_ 1 _ rfl;(with_reducible repeat (first|apply blk_drewN|apply blk_drew|apply blk_alloc));refine blk_put (cs := #[.int .i64 0, .int .i64 0, .int .i64 0, .slice none 0 0, .slice none 0 0]) ?_ 0 _ rfl;(with_reducible repeat (first|apply blk_drewN|apply blk_drew|apply blk_alloc));refine blk_far ?_ NBz10_412002.out _;(with_reducible repeat (first|apply blk_drewN|apply blk_drew|apply blk_alloc));refine blk_far ?_ NBz10_412002.out _;(with_reducible repeat (first|apply blk_drewN|apply blk_drew|apply blk_alloc));exact BKz10.out) Tryz.underlying102 rfl (by kernel_rfl)) rfl ?_
   exact ⟨_,_,oE,by first|exact Kd.R_nil _ _ _ _ _|exact Kd.N_nil _ _ _ _ _|exact Kd.V_nil _ _ _ _ _|exact Kd.Q_nil _ _ _ _ _|exact Kd.S_nil _ _ _ _ _,by first|exact Kd.R_nil _ _ _ _ _|exact Kd.N_nil _ _ _ _ _|exact Kd.V_nil _ _ _ _ _|exact Kd.Q_nil _ _ _ _ _|exact Kd.S_nil _ _ _ _ _,oI2 NB0_z10.out NB0_z11.out,oG2 GEz10.out GEz11.out,oK2 GWz10.out GWz11.out⟩
  replace c72:=Bool.eq_false_iff.mpr c72
  subst c72
  have H1:((rW.f tz29 tz30 (⟨#[102,97,108,115,101]⟩:ByteArray)).bind fun btz27=>(if btz27.1=true then (some (1,s0_1,btz27.2.2,([]:List (S155)),([]:List (S102)),true,btz27.2.1,btz27.2.2)) else ((rW.f btz27.2.1 btz27.2.2 (⟨#[116,114,117,101]⟩:ByteArray)).bind fun btz28=>(if btz28.1=true then (some (2,s0_1,btz28.2.2,([]:List (S155)),([]:List (S102)),true,btz28.2.1,btz28.2.2)) else (some (0,s0_1,btz28.2.2,([]:List (S155)),([]:List (S102)),false,btz28.2.1,btz28.2.2))))))=some (r1,r2,r3,r4,r5,r6,r7,r8):=by rw [if_neg (show ¬ (false=true) by decide)] at H;exact H
  clear H
  have H:=H1
  clear H1
  replace H:=Option.bind_eq_some_iff.mp H
  obtain ⟨⟨tz27,tz31,tz32⟩,A800,H⟩:=H
  replace H:(if tz27=true then (some (1,s0_1,tz32,([]:List (S155)),([]:List (S102)),true,tz31,tz32)) else ((rW.f tz31 tz32 (⟨#[116,114,117,101]⟩:ByteArray)).bind fun btz28=>(if btz28.1=true then (some (2,s0_1,btz28.2.2,([]:List (S155)),([]:List (S102)),true,btz28.2.1,btz28.2.2)) else (some (0,s0_1,btz28.2.2,([]:List (S155)),([]:List (S102)),false,btz28.2.1,btz28.2.2)))))=some (r1,r2,r3,r4,r5,r6,r7,r8):=H
  have A80:=Ak A800
  clear A800
  by_cases c81:tz27=true
  ·
   subst c81
   have H1:(some (1,s0_1,tz32,([]:List (S155)),([]:List (S102)),true,tz31,tz32))=some (r1,r2,r3,r4,r5,r6,r7,r8):=by rw [if_pos rfl] at H;exact H
   clear H
   have H:=H1
   clear H1
   simp only [Option.some.injEq,Prod.mk.injEq] at H
   obtain ⟨rfl,rfl,rfl,rfl,rfl,rfl,rfl,rfl⟩:=H
   go_wp2_with (first|((with_reducible refine gate_callee (f:=155) rfl ?_);refine goesL_ (some 58) rfl rfl Tryz.func155 (by kernel_rfl) rfl #[.pointer (some ⟨g,0,none⟩), .string (⟨#[110,117,108,108]⟩:ByteArray)] rfl oM ?_;(with_reducible refine (rW.calls g tz4 tz5 (⟨#[110,117,108,108]⟩:ByteArray) false tz29 tz30 w0 _ ?side1 ?side2 A71.out).mono ?_);(case side1=>exact oI2 NB0_z10.out NB0_z11.out);(case side2=>exact oG2 GEz10.out GEz11.out);rintro e w82 ⟨rfl,hi,hb,hk⟩;refine ⟨_,rfl,?_⟩;have _:=Ak (KeepBut.blk hk (g':=gbz10) (o := .cells #[.int .i64 0, .int .i64 0, .int .i64 0, .slice none 0 0, .slice none 0 0] 102 (0,0)) (oL BKz10.out) NBz10_0.out (by simp));have _:=Ak (KeepBut.blk hk (g':=gbz11) (o := .cells #[.int .i64 0, .int .i64 s0_1, .int .i64 0, .slice none 0 0, .slice none 0 0] 102 (0,0)) (oL BKz11.out) NBz11_0.out (by simp));have _:=Ak (KeepBut.trans (oK2 GWz10.out GWz11.out) hk (.inl rfl));have _:=Ak (hb);have _:=Ak (hi);clear BKz10 BKz11 HK HB HI0;rename_i BKz10 BKz11 HK HB HI0;clear hb hk hi)|((with_reducible refine gate_callee (f:=155) rfl ?_);refine goesL_ (some 62) rfl rfl Tryz.func155 (by kernel_rfl) rfl #[.pointer (some ⟨g,0,none⟩), .string (⟨#[102,97,108,115,101]⟩:ByteArray)] rfl oM ?_;(with_reducible refine (rW.calls g tz29 tz30 (⟨#[102,97,108,115,101]⟩:ByteArray) true tz31 tz32 w0 _ ?side1 ?side2 A80.out).mono ?_);(case side1=>exact oI2 NB0_z10.out NB0_z11.out);(case side2=>exact oG2 GEz10.out GEz11.out);rintro e w83 ⟨rfl,hi,hb,hk⟩;refine ⟨_,rfl,?_⟩;have _:=Ak (KeepBut.blk hk (g':=gbz10) (o := .cells #[.int .i64 0, .int .i64 0, .int .i64 0, .slice none 0 0, .slice none 0 0] 102 (0,0)) (oL BKz10.out) NBz10_0.out (by simp));have _:=Ak (KeepBut.blk hk (g':=gbz11) (o := .cells #[.int .i64 0, .int .i64 s0_1, .int .i64 0, .slice none 0 0, .slice none 0 0] 102 (0,0)) (oL BKz11.out) NBz11_0.out (by simp));have _:=Ak (KeepBut.trans (oK2 GWz10.out GWz11.out) hk (.inl rfl));have _:=Ak (hb);have _:=Ak (hi);clear BKz10 BKz11 HK HB HI0;rename_i BKz10 BKz11 HK HB HI0;clear hb hk hi;have hnb84:=NBz11_412001.out;have hnc84:=NBz10_412002.out;have hnb85:=NBz11_0.out;have hnc85:=NB0_z11.out;have hcz86_0:w83.cell? ⟨gbz11,0,none⟩=some (.int .i64 0):=(blk_cell BKz11.out 0).trans rfl;have hcz86_1:w83.cell? ⟨gbz11,1,none⟩=some (.int .i64 s0_1):=(blk_cell BKz11.out 1).trans rfl;have hcz86_2:w83.cell? ⟨gbz11,2,none⟩=some (.int .i64 0):=(blk_cell BKz11.out 2).trans rfl;have hcz86_3:w83.cell? ⟨gbz11,3,none⟩=some (.slice none 0 0):=(blk_cell BKz11.out 3).trans rfl;have hcz86_4:w83.cell? ⟨gbz11,4,none⟩=some (.slice none 0 0):=(blk_cell BKz11.out 4).trans rfl;have hfz86_0:=blk_frozen BKz11.out 0;have hfz86_1:=blk_frozen BKz11.out 1;have hfz86_2:=blk_frozen BKz11.out 2;have hfz86_3:=blk_frozen BKz11.out 3;have hfz86_4:=blk_frozen BKz11.out 4;obtain ⟨HGz87,hgz87⟩:=HI0.out;have hcz87_0:=cellS152_0 HGz87;have hcz87_1:=cellS152_1 HGz87;have hfz87_0:=blk_frozen HGz87 0;have hfz87_1:=blk_frozen HGz87 1;clear HGz87 hgz87;have hnb88:=NBz10_0.out;have hnc88:=NB0_z10.out;have hcz89_0:w83.cell? ⟨gbz10,0,none⟩=some (.int .i64 0):=(blk_cell BKz10.out 0).trans rfl;have hcz89_1:w83.cell? ⟨gbz10,1,none⟩=some (.int .i64 0):=(blk_cell BKz10.out 1).trans rfl;have hcz89_2:w83.cell? ⟨gbz10,2,none⟩=some (.int .i64 0):=(blk_cell BKz10.out 2).trans rfl;have hcz89_3:w83.cell? ⟨gbz10,3,none⟩=some (.slice none 0 0):=(blk_cell BKz10.out 3).trans rfl;have hcz89_4:w83.cell? ⟨gbz10,4,none⟩=some (.slice none 0 0):=(blk_cell BKz10.out 4).trans rfl;have hfz89_0:=blk_frozen BKz10.out 0;have hfz89_1:=blk_frozen BKz10.out 1;have hfz89_2:=blk_frozen BKz10.out 2;have hfz89_3:=blk_frozen BKz10.out 3;have hfz89_4:=blk_frozen BKz10.out 4))
   refine bodyPost_ret (results_ct rfl _ _ gbz10 102 #[.int .i64 1, .int .i64 s0_1, .int .i64 tz32, .slice none 0 0, .slice none 0 0] (0,0) _ rfl (by (with_reducible repeat (first|apply blk_drewN|apply blk_drew|apply blk_alloc));refine blk_put (cs := #[.int .i64 1, .int .i64 s0_1, .int .i64 tz32, .slice none 0 0, .slice none 0 0]) ?_ 4 _ rfl;(with_reducible repeat (first|apply blk_drewN|apply blk_drew|apply blk_alloc));refine blk_put (cs := #[.int .i64 1, .int .i64 s0_1, .int .i64 tz32, .slice none 0 0, .slice none 0 0]) ?_ 3 _ rfl;(with_reducible repeat (first|apply blk_drewN|apply blk_drew|apply blk_alloc));refine blk_put (cs := #[.int .i64 1, .int .i64 s0_1, .int .i64 0, .slice none 0 0, .slice none 0 0]) ?_ 2 _ rfl;(with_reducible repeat (first|apply blk_drewN|apply blk_drew|apply blk_alloc));refine blk_put (cs := #[.int .i64 1, .int .i64 0, .int .i64 0, .slice none 0 0, .slice none 0 0]) ?_ 1 _ rfl;(with_reducible repeat (first|apply blk_drewN|apply blk_drew|apply blk_alloc));refine blk_put (cs := #[.int .i64 0, .int .i64 0, .int .i64 0, .slice none 0 0, .slice none 0 0]) ?_ 0 _ rfl;(with_reducible repeat (first|apply blk_drewN|apply blk_drew|apply blk_alloc));refine blk_far ?_ NBz10_412002.out _;(with_reducible repeat (first|apply blk_drewN|apply blk_drew|apply blk_alloc));refine blk_far ?_ NBz10_412002.out _;(with_reducible repeat (first|apply blk_drewN|apply blk_drew|apply blk_alloc));exact BKz10.out) Tryz.underlying102 rfl (by kernel_rfl)) rfl ?_
   exact ⟨_,_,oE,by first|exact Kd.R_nil _ _ _ _ _|exact Kd.N_nil _ _ _ _ _|exact Kd.V_nil _ _ _ _ _|exact Kd.Q_nil _ _ _ _ _|exact Kd.S_nil _ _ _ _ _,by first|exact Kd.R_nil _ _ _ _ _|exact Kd.N_nil _ _ _ _ _|exact Kd.V_nil _ _ _ _ _|exact Kd.Q_nil _ _ _ _ _|exact Kd.S_nil _ _ _ _ _,oI2 NB0_z10.out NB0_z11.out,oG2 GEz10.out GEz11.out,oK2 GWz10.out GWz11.out⟩
  replace c81:=Bool.eq_false_iff.mpr c81
  subst c81
  have H1:((rW.f tz31 tz32 (⟨#[116,114,117,101]⟩:ByteArray)).bind fun btz28=>(if btz28.1=true then (some (2,s0_1,btz28.2.2,([]:List (S155)),([]:List (S102)),true,btz28.2.1,btz28.2.2)) else (some (0,s0_1,btz28.2.2,([]:List (S155)),([]:List (S102)),false,btz28.2.1,btz28.2.2))))=some (r1,r2,r3,r4,r5,r6,r7,r8):=by rw [if_neg (show ¬ (false=true) by decide)] at H;exact H
  clear H
  have H:=H1
  clear H1
  replace H:=Option.bind_eq_some_iff.mp H
  obtain ⟨⟨tz28,tz33,tz34⟩,A900,H⟩:=H
  replace H:(if tz28=true then (some (2,s0_1,tz34,([]:List (S155)),([]:List (S102)),true,tz33,tz34)) else (some (0,s0_1,tz34,([]:List (S155)),([]:List (S102)),false,tz33,tz34)))=some (r1,r2,r3,r4,r5,r6,r7,r8):=H
  have A90:=Ak A900
  clear A900
  by_cases c91:tz28=true
  ·
   subst c91
   have H1:(some (2,s0_1,tz34,([]:List (S155)),([]:List (S102)),true,tz33,tz34))=some (r1,r2,r3,r4,r5,r6,r7,r8):=by rw [if_pos rfl] at H;exact H
   clear H
   have H:=H1
   clear H1
   simp only [Option.some.injEq,Prod.mk.injEq] at H
   obtain ⟨rfl,rfl,rfl,rfl,rfl,rfl,rfl,rfl⟩:=H
   go_wp2_with (first|((with_reducible refine gate_callee (f:=155) rfl ?_);refine goesL_ (some 58) rfl rfl Tryz.func155 (by kernel_rfl) rfl #[.pointer (some ⟨g,0,none⟩), .string (⟨#[110,117,108,108]⟩:ByteArray)] rfl oM ?_;(with_reducible refine (rW.calls g tz4 tz5 (⟨#[110,117,108,108]⟩:ByteArray) false tz29 tz30 w0 _ ?side1 ?side2 A71.out).mono ?_);(case side1=>exact oI2 NB0_z10.out NB0_z11.out);(case side2=>exact oG2 GEz10.out GEz11.out);rintro e w92 ⟨rfl,hi,hb,hk⟩;refine ⟨_,rfl,?_⟩;have _:=Ak (KeepBut.blk hk (g':=gbz10) (o := .cells #[.int .i64 0, .int .i64 0, .int .i64 0, .slice none 0 0, .slice none 0 0] 102 (0,0)) (oL BKz10.out) NBz10_0.out (by simp));have _:=Ak (KeepBut.blk hk (g':=gbz11) (o := .cells #[.int .i64 0, .int .i64 s0_1, .int .i64 0, .slice none 0 0, .slice none 0 0] 102 (0,0)) (oL BKz11.out) NBz11_0.out (by simp));have _:=Ak (KeepBut.trans (oK2 GWz10.out GWz11.out) hk (.inl rfl));have _:=Ak (hb);have _:=Ak (hi);clear BKz10 BKz11 HK HB HI0;rename_i BKz10 BKz11 HK HB HI0;clear hb hk hi)|((with_reducible refine gate_callee (f:=155) rfl ?_);refine goesL_ (some 62) rfl rfl Tryz.func155 (by kernel_rfl) rfl #[.pointer (some ⟨g,0,none⟩), .string (⟨#[102,97,108,115,101]⟩:ByteArray)] rfl oM ?_;(with_reducible refine (rW.calls g tz29 tz30 (⟨#[102,97,108,115,101]⟩:ByteArray) false tz31 tz32 w0 _ ?side1 ?side2 A80.out).mono ?_);(case side1=>exact oI2 NB0_z10.out NB0_z11.out);(case side2=>exact oG2 GEz10.out GEz11.out);rintro e w93 ⟨rfl,hi,hb,hk⟩;refine ⟨_,rfl,?_⟩;have _:=Ak (KeepBut.blk hk (g':=gbz10) (o := .cells #[.int .i64 0, .int .i64 0, .int .i64 0, .slice none 0 0, .slice none 0 0] 102 (0,0)) (oL BKz10.out) NBz10_0.out (by simp));have _:=Ak (KeepBut.blk hk (g':=gbz11) (o := .cells #[.int .i64 0, .int .i64 s0_1, .int .i64 0, .slice none 0 0, .slice none 0 0] 102 (0,0)) (oL BKz11.out) NBz11_0.out (by simp));have _:=Ak (KeepBut.trans (oK2 GWz10.out GWz11.out) hk (.inl rfl));have _:=Ak (hb);have _:=Ak (hi);clear BKz10 BKz11 HK HB HI0;rename_i BKz10 BKz11 HK HB HI0;clear hb hk hi)|((with_reducible refine gate_callee (f:=155) rfl ?_);refine goesL_ (some 66) rfl rfl Tryz.func155 (by kernel_rfl) rfl #[.pointer (some ⟨g,0,none⟩), .string (⟨#[116,114,117,101]⟩:ByteArray)] rfl oM ?_;(with_reducible refine (rW.calls g tz31 tz32 (⟨#[116,114,117,101]⟩:ByteArray) true tz33 tz34 w0 _ ?side1 ?side2 A90.out).mono ?_);(case side1=>exact oI2 NB0_z10.out NB0_z11.out);(case side2=>exact oG2 GEz10.out GEz11.out);rintro e w94 ⟨rfl,hi,hb,hk⟩;refine ⟨_,rfl,?_⟩;have _:=Ak (KeepBut.blk hk (g':=gbz10) (o := .cells #[.int .i64 0, .int .i64 0, .int .i64 0, .slice none 0 0, .slice none 0 0] 102 (0,0)) (oL BKz10.out) NBz10_0.out (by simp));have _:=Ak (KeepBut.blk hk (g':=gbz11) (o := .cells #[.int .i64 0, .int .i64 s0_1, .int .i64 0, .slice none 0 0, .slice none 0 0] 102 (0,0)) (oL BKz11.out) NBz11_0.out (by simp));have _:=Ak (KeepBut.trans (oK2 GWz10.out GWz11.out) hk (.inl rfl));have _:=Ak (hb);have _:=Ak (hi);clear BKz10 BKz11 HK HB HI0;rename_i BKz10 BKz11 HK HB HI0;clear hb hk hi;have hnb95:=NBz11_412001.out;have hnc95:=NBz10_412002.out;have hnb96:=NBz11_0.out;have hnc96:=NB0_z11.out;have hcz97_0:w94.cell? ⟨gbz11,0,none⟩=some (.int .i64 0):=(blk_cell BKz11.out 0).trans rfl;have hcz97_1:w94.cell? ⟨gbz11,1,none⟩=some (.int .i64 s0_1):=(blk_cell BKz11.out 1).trans rfl;have hcz97_2:w94.cell? ⟨gbz11,2,none⟩=some (.int .i64 0):=(blk_cell BKz11.out 2).trans rfl;have hcz97_3:w94.cell? ⟨gbz11,3,none⟩=some (.slice none 0 0):=(blk_cell BKz11.out 3).trans rfl;have hcz97_4:w94.cell? ⟨gbz11,4,none⟩=some (.slice none 0 0):=(blk_cell BKz11.out 4).trans rfl;have hfz97_0:=blk_frozen BKz11.out 0;have hfz97_1:=blk_frozen BKz11.out 1;have hfz97_2:=blk_frozen BKz11.out 2;have hfz97_3:=blk_frozen BKz11.out 3;have hfz97_4:=blk_frozen BKz11.out 4;obtain ⟨HGz98,hgz98⟩:=HI0.out;have hcz98_0:=cellS152_0 HGz98;have hcz98_1:=cellS152_1 HGz98;have hfz98_0:=blk_frozen HGz98 0;have hfz98_1:=blk_frozen HGz98 1;clear HGz98 hgz98;have hnb99:=NBz10_0.out;have hnc99:=NB0_z10.out;have hcz100_0:w94.cell? ⟨gbz10,0,none⟩=some (.int .i64 0):=(blk_cell BKz10.out 0).trans rfl;have hcz100_1:w94.cell? ⟨gbz10,1,none⟩=some (.int .i64 0):=(blk_cell BKz10.out 1).trans rfl;have hcz100_2:w94.cell? ⟨gbz10,2,none⟩=some (.int .i64 0):=(blk_cell BKz10.out 2).trans rfl;have hcz100_3:w94.cell? ⟨gbz10,3,none⟩=some (.slice none 0 0):=(blk_cell BKz10.out 3).trans rfl;have hcz100_4:w94.cell? ⟨gbz10,4,none⟩=some (.slice none 0 0):=(blk_cell BKz10.out 4).trans rfl;have hfz100_0:=blk_frozen BKz10.out 0;have hfz100_1:=blk_frozen BKz10.out 1;have hfz100_2:=blk_frozen BKz10.out 2;have hfz100_3:=blk_frozen BKz10.out 3;have hfz100_4:=blk_frozen BKz10.out 4))
   refine bodyPost_ret (results_ct rfl _ _ gbz10 102 #[.int .i64 2, .int .i64 s0_1, .int .i64 tz34, .slice none 0 0, .slice none 0 0] (0,0) _ rfl (by (with_reducible repeat (first|apply blk_drewN|apply blk_drew|apply blk_alloc));refine blk_put (cs := #[.int .i64 2, .int .i64 s0_1, .int .i64 tz34, .slice none 0 0, .slice none 0 0]) ?_ 4 _ rfl;(with_reducible repeat (first|apply blk_drewN|apply blk_drew|apply blk_alloc));refine blk_put (cs := #[.int .i64 2, .int .i64 s0_1, .int .i64 tz34, .slice none 0 0, .slice none 0 0]) ?_ 3 _ rfl;(with_reducible repeat (first|apply blk_drewN|apply blk_drew|apply blk_alloc));refine blk_put (cs := #[.int .i64 2, .int .i64 s0_1, .int .i64 0, .slice none 0 0, .slice none 0 0]) ?_ 2 _ rfl;(with_reducible repeat (first|apply blk_drewN|apply blk_drew|apply blk_alloc));refine blk_put (cs := #[.int .i64 2, .int .i64 0, .int .i64 0, .slice none 0 0, .slice none 0 0]) ?_ 1 _ rfl;(with_reducible repeat (first|apply blk_drewN|apply blk_drew|apply blk_alloc));refine blk_put (cs := #[.int .i64 0, .int .i64 0, .int .i64 0, .slice none 0 0, .slice none 0 0]) ?_ 0 _ rfl;(with_reducible repeat (first|apply blk_drewN|apply blk_drew|apply blk_alloc));refine blk_far ?_ NBz10_412002.out _;(with_reducible repeat (first|apply blk_drewN|apply blk_drew|apply blk_alloc));refine blk_far ?_ NBz10_412002.out _;(with_reducible repeat (first|apply blk_drewN|apply blk_drew|apply blk_alloc));exact BKz10.out) Tryz.underlying102 rfl (by kernel_rfl)) rfl ?_
   exact ⟨_,_,oE,by first|exact Kd.R_nil _ _ _ _ _|exact Kd.N_nil _ _ _ _ _|exact Kd.V_nil _ _ _ _ _|exact Kd.Q_nil _ _ _ _ _|exact Kd.S_nil _ _ _ _ _,by first|exact Kd.R_nil _ _ _ _ _|exact Kd.N_nil _ _ _ _ _|exact Kd.V_nil _ _ _ _ _|exact Kd.Q_nil _ _ _ _ _|exact Kd.S_nil _ _ _ _ _,oI2 NB0_z10.out NB0_z11.out,oG2 GEz10.out GEz11.out,oK2 GWz10.out GWz11.out⟩
  replace c91:=Bool.eq_false_iff.mpr c91
  subst c91
  have H1:(some (0,s0_1,tz34,([]:List (S155)),([]:List (S102)),false,tz33,tz34))=some (r1,r2,r3,r4,r5,r6,r7,r8):=by rw [if_neg (show ¬ (false=true) by decide)] at H;exact H
  clear H
  have H:=H1
  clear H1
  simp only [Option.some.injEq,Prod.mk.injEq] at H
  obtain ⟨rfl,rfl,rfl,rfl,rfl,rfl,rfl,rfl⟩:=H
  go_wp2_with (first|((with_reducible refine gate_callee (f:=155) rfl ?_);refine goesL_ (some 58) rfl rfl Tryz.func155 (by kernel_rfl) rfl #[.pointer (some ⟨g,0,none⟩), .string (⟨#[110,117,108,108]⟩:ByteArray)] rfl oM ?_;(with_reducible refine (rW.calls g tz4 tz5 (⟨#[110,117,108,108]⟩:ByteArray) false tz29 tz30 w0 _ ?side1 ?side2 A71.out).mono ?_);(case side1=>exact oI2 NB0_z10.out NB0_z11.out);(case side2=>exact oG2 GEz10.out GEz11.out);rintro e w101 ⟨rfl,hi,hb,hk⟩;refine ⟨_,rfl,?_⟩;have _:=Ak (KeepBut.blk hk (g':=gbz10) (o := .cells #[.int .i64 0, .int .i64 0, .int .i64 0, .slice none 0 0, .slice none 0 0] 102 (0,0)) (oL BKz10.out) NBz10_0.out (by simp));have _:=Ak (KeepBut.blk hk (g':=gbz11) (o := .cells #[.int .i64 0, .int .i64 s0_1, .int .i64 0, .slice none 0 0, .slice none 0 0] 102 (0,0)) (oL BKz11.out) NBz11_0.out (by simp));have _:=Ak (KeepBut.trans (oK2 GWz10.out GWz11.out) hk (.inl rfl));have _:=Ak (hb);have _:=Ak (hi);clear BKz10 BKz11 HK HB HI0;rename_i BKz10 BKz11 HK HB HI0;clear hb hk hi)|((with_reducible refine gate_callee (f:=155) rfl ?_);refine goesL_ (some 62) rfl rfl Tryz.func155 (by kernel_rfl) rfl #[.pointer (some ⟨g,0,none⟩), .string (⟨#[102,97,108,115,101]⟩:ByteArray)] rfl oM ?_;(with_reducible refine (rW.calls g tz29 tz30 (⟨#[102,97,108,115,101]⟩:ByteArray) false tz31 tz32 w0 _ ?side1 ?side2 A80.out).mono ?_);(case side1=>exact oI2 NB0_z10.out NB0_z11.out);(case side2=>exact oG2 GEz10.out GEz11.out);rintro e w102 ⟨rfl,hi,hb,hk⟩;refine ⟨_,rfl,?_⟩;have _:=Ak (KeepBut.blk hk (g':=gbz10) (o := .cells #[.int .i64 0, .int .i64 0, .int .i64 0, .slice none 0 0, .slice none 0 0] 102 (0,0)) (oL BKz10.out) NBz10_0.out (by simp));have _:=Ak (KeepBut.blk hk (g':=gbz11) (o := .cells #[.int .i64 0, .int .i64 s0_1, .int .i64 0, .slice none 0 0, .slice none 0 0] 102 (0,0)) (oL BKz11.out) NBz11_0.out (by simp));have _:=Ak (KeepBut.trans (oK2 GWz10.out GWz11.out) hk (.inl rfl));have _:=Ak (hb);have _:=Ak (hi);clear BKz10 BKz11 HK HB HI0;rename_i BKz10 BKz11 HK HB HI0;clear hb hk hi)|((with_reducible refine gate_callee (f:=155) rfl ?_);refine goesL_ (some 66) rfl rfl Tryz.func155 (by kernel_rfl) rfl #[.pointer (some ⟨g,0,none⟩), .string (⟨#[116,114,117,101]⟩:ByteArray)] rfl oM ?_;(with_reducible refine (rW.calls g tz31 tz32 (⟨#[116,114,117,101]⟩:ByteArray) false tz33 tz34 w0 _ ?side1 ?side2 A90.out).mono ?_);(case side1=>exact oI2 NB0_z10.out NB0_z11.out);(case side2=>exact oG2 GEz10.out GEz11.out);rintro e w103 ⟨rfl,hi,hb,hk⟩;refine ⟨_,rfl,?_⟩;have _:=Ak (KeepBut.blk hk (g':=gbz10) (o := .cells #[.int .i64 0, .int .i64 0, .int .i64 0, .slice none 0 0, .slice none 0 0] 102 (0,0)) (oL BKz10.out) NBz10_0.out (by simp));have _:=Ak (KeepBut.blk hk (g':=gbz11) (o := .cells #[.int .i64 0, .int .i64 s0_1, .int .i64 0, .slice none 0 0, .slice none 0 0] 102 (0,0)) (oL BKz11.out) NBz11_0.out (by simp));have _:=Ak (KeepBut.trans (oK2 GWz10.out GWz11.out) hk (.inl rfl));have _:=Ak (hb);have _:=Ak (hi);clear BKz10 BKz11 HK HB HI0;rename_i BKz10 BKz11 HK HB HI0;clear hb hk hi;obtain ⟨HGz104,hgz104⟩:=HI0.out;have hcz104_0:=cellS152_0 HGz104;have hcz104_1:=cellS152_1 HGz104;have hfz104_0:=blk_frozen HGz104 0;have hfz104_1:=blk_frozen HGz104 1;clear HGz104 hgz104;have hnb105:=NBz11_412001.out;have hnc105:=NBz10_412002.out;have hnb106:=NBz11_0.out;have hnc106:=NB0_z11.out;have hcz107_0:w103.cell? ⟨gbz11,0,none⟩=some (.int .i64 0):=(blk_cell BKz11.out 0).trans rfl;have hcz107_1:w103.cell? ⟨gbz11,1,none⟩=some (.int .i64 s0_1):=(blk_cell BKz11.out 1).trans rfl;have hcz107_2:w103.cell? ⟨gbz11,2,none⟩=some (.int .i64 0):=(blk_cell BKz11.out 2).trans rfl;have hcz107_3:w103.cell? ⟨gbz11,3,none⟩=some (.slice none 0 0):=(blk_cell BKz11.out 3).trans rfl;have hcz107_4:w103.cell? ⟨gbz11,4,none⟩=some (.slice none 0 0):=(blk_cell BKz11.out 4).trans rfl;have hfz107_0:=blk_frozen BKz11.out 0;have hfz107_1:=blk_frozen BKz11.out 1;have hfz107_2:=blk_frozen BKz11.out 2;have hfz107_3:=blk_frozen BKz11.out 3;have hfz107_4:=blk_frozen BKz11.out 4;have hnb108:=NBz10_0.out;have hnc108:=NB0_z10.out;have hcz109_0:w103.cell? ⟨gbz10,0,none⟩=some (.int .i64 0):=(blk_cell BKz10.out 0).trans rfl;have hcz109_1:w103.cell? ⟨gbz10,1,none⟩=some (.int .i64 0):=(blk_cell BKz10.out 1).trans rfl;have hcz109_2:w103.cell? ⟨gbz10,2,none⟩=some (.int .i64 0):=(blk_cell BKz10.out 2).trans rfl;have hcz109_3:w103.cell? ⟨gbz10,3,none⟩=some (.slice none 0 0):=(blk_cell BKz10.out 3).trans rfl;have hcz109_4:w103.cell? ⟨gbz10,4,none⟩=some (.slice none 0 0):=(blk_cell BKz10.out 4).trans rfl;have hfz109_0:=blk_frozen BKz10.out 0;have hfz109_1:=blk_frozen BKz10.out 1;have hfz109_2:=blk_frozen BKz10.out 2;have hfz109_3:=blk_frozen BKz10.out 3;have hfz109_4:=blk_frozen BKz10.out 4))
  refine bodyPost_ret (results_ct rfl _ _ gbz10 102 #[.int .i64 0, .int .i64 s0_1, .int .i64 tz34, .slice none 0 0, .slice none 0 0] (0,0) _ rfl (by (with_reducible repeat (first|apply blk_drewN|apply blk_drew|apply blk_alloc));refine blk_put (cs := #[.int .i64 0, .int .i64 s0_1, .int .i64 tz34, .slice none 0 0, .slice none 0 0]) ?_ 4 _ rfl;(with_reducible repeat (first|apply blk_drewN|apply blk_drew|apply blk_alloc));refine blk_put (cs := #[.int .i64 0, .int .i64 s0_1, .int .i64 tz34, .slice none 0 0, .slice none 0 0]) ?_ 3 _ rfl;(with_reducible repeat (first|apply blk_drewN|apply blk_drew|apply blk_alloc));refine blk_put (cs := #[.int .i64 0, .int .i64 s0_1, .int .i64 0, .slice none 0 0, .slice none 0 0]) ?_ 2 _ rfl;(with_reducible repeat (first|apply blk_drewN|apply blk_drew|apply blk_alloc));refine blk_put (cs := #[.int .i64 0, .int .i64 0, .int .i64 0, .slice none 0 0, .slice none 0 0]) ?_ 1 _ rfl;(with_reducible repeat (first|apply blk_drewN|apply blk_drew|apply blk_alloc));refine blk_put (cs := #[.int .i64 0, .int .i64 0, .int .i64 0, .slice none 0 0, .slice none 0 0]) ?_ 0 _ rfl;(with_reducible repeat (first|apply blk_drewN|apply blk_drew|apply blk_alloc));refine blk_far ?_ NBz10_412002.out _;(with_reducible repeat (first|apply blk_drewN|apply blk_drew|apply blk_alloc));exact BKz10.out) Tryz.underlying102 rfl (by kernel_rfl)) rfl ?_
  exact ⟨_,_,oE,by first|exact Kd.R_nil _ _ _ _ _|exact Kd.N_nil _ _ _ _ _|exact Kd.V_nil _ _ _ _ _|exact Kd.Q_nil _ _ _ _ _|exact Kd.S_nil _ _ _ _ _,by first|exact Kd.R_nil _ _ _ _ _|exact Kd.N_nil _ _ _ _ _|exact Kd.V_nil _ _ _ _ _|exact Kd.Q_nil _ _ _ _ _|exact Kd.S_nil _ _ _ _ _,oI2 NB0_z10.out NB0_z11.out,oG2 GEz10.out GEz11.out,oK2 GWz10.out GWz11.out⟩
end Go.Proofs.YtnejkimpkaopoaaGreatDoor.Q

/- Functions of the program as Lean functions, each with a proof that the call comes to what it gives. Written by prx.py (wip/pr). -/
import Derived.Test.YtnejkimpkaopoaaGreatDoorQ0
import Derived.Test.YtnejkimpkaopoaaGreatDoorQ1
import Derived.Test.YtnejkimpkaopoaaGreatDoorQ2
import Derived.Test.YtnejkimpkaopoaaGreatDoorQ3
import Derived.Test.YtnejkimpkaopoaaGreatDoorQ4
namespace Go.Proofs.YtnejkimpkaopoaaGreatDoor.Q
open RowKit YtnejkimpkaopoaaGreatDoorW.PrintWords YtnejkimpkaopoaaGreatDoorW.PrintLast YtnejkimpkaopoaaGreatDoorW.PrintMore
set_option maxHeartbeats 8000000
set_option maxRecDepth 100000
attribute [local go_sem] max2_int min2_int max_two min_two max_three min_three max_four min_four
set_option linter.unusedVariables false
set_option linter.unusedSimpArgs false
theorem rE.step (k:Nat) (ih_104 : ∀ m_:Nat,m_<k→(∀ (g:Nat) (s0_0:ByteArray) (s0_1:Int) (r1:Int) (r2:Int) (r3:Int) (r4:List (S155)) (r5:List (S102)) (r6:Bool) (r7:ByteArray) (r8:Int) (w0 w:World) (hI:IsS152 w0 w g s0_0 s0_1) (hB:Below w0.heap.size w0 w) (h:rV.f m_ s0_0 s0_1=some (r1,r2,r3,r4,r5,r6,r7,r8)),
 Calls Tryz.prog 104 #[.pointer (some ⟨g,0,none⟩)] w fun e w' => ∃ v3_ v4_:Value,e = .returned (.tuple #[.agg #[.int .i64 r1, .int .i64 r2, .int .i64 r3,v3_,v4_], .bool r6])∧Kd.R k155 155 w' w.heap.size (fun _=>True) v3_ r4∧Kd.R k102 102 w' w.heap.size (fun k_=>some k_≠(v3_:Value).ownBlock) v4_ r5∧IsS152 w0 w' g r7 r8∧Below w0.heap.size w0 w'∧KeepBut w w' g none)) (ih_151 : ∀ m_:Nat,m_<k→(∀ (g:Nat) (s0_0:ByteArray) (s0_1:Int) (r1:List (S155)) (r2:List (S102)) (r3:Bool) (r4:ByteArray) (r5:Int) (w0 w:World) (hI:IsS152 w0 w g s0_0 s0_1) (hB:Below w0.heap.size w0 w) (h:rM.f m_ s0_0 s0_1=some (r1,r2,r3,r4,r5)),
 Calls Tryz.prog 151 #[.pointer (some ⟨g,0,none⟩)] w fun e w' => ∃ v0_ v1_:Value,e = .returned (.tuple #[v0_,v1_, .bool r3])∧Kd.R k155 155 w' w.heap.size (fun _=>True) v0_ r1∧Kd.R k102 102 w' w.heap.size (fun k_=>some k_≠(v0_:Value).ownBlock) v1_ r2∧IsS152 w0 w' g r4 r5∧Below w0.heap.size w0 w'∧KeepBut w w' g none)) (ih_152 : ∀ m_:Nat,m_<k→(∀ (g:Nat) (s0_0:ByteArray) (s0_1:Int) (r1:List (S102)) (r2:Bool) (r3:ByteArray) (r4:Int) (w0 w:World) (hI:IsS152 w0 w g s0_0 s0_1) (hB:Below w0.heap.size w0 w) (h:rE.f m_ s0_0 s0_1=some (r1,r2,r3,r4)),
 Calls Tryz.prog 152 #[.pointer (some ⟨g,0,none⟩)] w fun e w' => ∃ v0_:Value,e = .returned (.tuple #[v0_, .bool r2])∧Kd.R k102 102 w' w.heap.size (fun _=>True) v0_ r1∧IsS152 w0 w' g r3 r4∧Below w0.heap.size w0 w'∧KeepBut w w' g none)) : ∀ (g:Nat) (s0_0:ByteArray) (s0_1:Int) (r1:List (S102)) (r2:Bool) (r3:ByteArray) (r4:Int) (w0 w:World) (hI:IsS152 w0 w g s0_0 s0_1) (hB:Below w0.heap.size w0 w) (h:rE.f k s0_0 s0_1=some (r1,r2,r3,r4)),
 Calls Tryz.prog 152 #[.pointer (some ⟨g,0,none⟩)] w fun e w' => ∃ v0_:Value,e = .returned (.tuple #[v0_, .bool r2])∧Kd.R k102 102 w' w.heap.size (fun _=>True) v0_ r1∧IsS152 w0 w' g r3 r4∧Below w0.heap.size w0 w'∧KeepBut w w' g none:=by
 intro g s0_0 s0_1 r1 r2 r3 r4 w0 w hI hB h
 cases k with
 | zero=>exact absurd h (by simp [rE.f])
 | succ k =>
 simp only [rE.f] at h
 have hu102:=Tryz.underlying102
 have HI0:=Ak hI
 have HK:=Ak (KeepBut.refl w g none)
 have HL:=Ak hB.size
 clear hI
 have HW0:=Ak hB.size
 have HB:=Ak hB
 clear hB
 have H:((rB.f k s0_0 (wrap64 (s0_1+1))).bind fun btz0=>((rT.f btz0.1 btz0.2 93).bind fun btz1=>(if btz1.1=true then (some (([]:List (S102)),true,btz1.2.1,btz1.2.2)) else (rE.l0 k ([]:List (S102)) btz1.2.1 btz1.2.2))))=some (r1,r2,r3,r4):=h
 clear h
 replace H:=Option.bind_eq_some_iff.mp H
 obtain ⟨⟨tz0,tz2⟩,A20,H⟩:=H
 replace H:((rT.f tz0 tz2 93).bind fun btz1=>(if btz1.1=true then (some (([]:List (S102)),true,btz1.2.1,btz1.2.2)) else (rE.l0 k ([]:List (S102)) btz1.2.1 btz1.2.2)))=some (r1,r2,r3,r4):=H
 have A2:=Ak A20
 clear A20
 replace H:=Option.bind_eq_some_iff.mp H
 obtain ⟨⟨tz1,tz3,tz4⟩,A30,H⟩:=H
 replace H:(if tz1=true then (some (([]:List (S102)),true,tz3,tz4)) else (rE.l0 k ([]:List (S102)) tz3 tz4))=some (r1,r2,r3,r4):=H
 have A3:=Ak A30
 clear A30
 by_cases c4:tz1=true
 ·
  subst c4
  have H1:(some (([]:List (S102)),true,tz3,tz4))=some (r1,r2,r3,r4):=by rw [if_pos rfl] at H;exact H
  clear H
  have H:=H1
  clear H1
  simp only [Option.some.injEq,Prod.mk.injEq] at H
  obtain ⟨rfl,rfl,rfl,rfl⟩:=H
  obtain ⟨HGz5,hgz5⟩:=HI0.out
  have hcz5_0:=cellS152_0 HGz5
  have hcz5_1:=cellS152_1 HGz5
  have hfz5_0:=blk_frozen HGz5 0
  have hfz5_1:=blk_frozen HGz5 1
  clear HGz5 hgz5
  go_enter Tryz.func152,Tryz.ntmps152
  go_wp2_with (first|((with_reducible refine gate_callee (f:=103) rfl ?_);refine goesL_ (some 15) rfl rfl Tryz.func103 (by kernel_rfl) rfl #[.pointer (some ⟨g,0,none⟩)] rfl oM ?_;(with_reducible refine (rB.calls k g s0_0 (wrap64 (s0_1+1)) tz0 tz2 w0 _ ?side1 ?side2 A2.out).mono ?_);(case side1=>exact oI);(case side2=>exact oG);rintro e w6 ⟨rfl,hi,hb,hk⟩;refine ⟨_,rfl,?_⟩;have _:=Ak (KeepBut.trans oK hk (.inl rfl));have _:=Ak (hb);have _:=Ak (hi);clear HK HB HI0;rename_i HK HB HI0;clear hb hk hi)|((with_reducible refine gate_callee (f:=185) rfl ?_);refine goesL_ (some 17) rfl rfl Tryz.func185 (by kernel_rfl) rfl #[.pointer (some ⟨g,0,none⟩), .int .u8 93] rfl oM ?_;(with_reducible refine (rT.calls g tz0 tz2 93 true tz3 tz4 w0 _ ?side1 ?side2 A3.out).mono ?_);(case side1=>exact oI);(case side2=>exact oG);rintro e w7 ⟨rfl,hi,hb,hk⟩;refine ⟨_,rfl,?_⟩;have _:=Ak (KeepBut.trans oK hk (.inl rfl));have _:=Ak (hb);have _:=Ak (hi);clear HK HB HI0;rename_i HK HB HI0;clear hb hk hi))
  go_ret2
  exact ⟨_,oE,by first|exact Kd.R_nil _ _ _ _ _|exact Kd.N_nil _ _ _ _ _|exact Kd.V_nil _ _ _ _ _|exact Kd.Q_nil _ _ _ _ _|exact Kd.S_nil _ _ _ _ _,oI,oG,oK⟩
 replace c4:=Bool.eq_false_iff.mpr c4
 subst c4
 have H1:(rE.l0 k ([]:List (S102)) tz3 tz4)=some (r1,r2,r3,r4):=by rw [if_neg (show ¬ (false=true) by decide)] at H;exact H
 clear H
 have H:=H1
 clear H1
 have H':=Ak H
 clear H
 obtain ⟨HGz8,hgz8⟩:=HI0.out
 have hcz8_0:=cellS152_0 HGz8
 have hcz8_1:=cellS152_1 HGz8
 have hfz8_0:=blk_frozen HGz8 0
 have hfz8_1:=blk_frozen HGz8 1
 clear HGz8 hgz8
 go_enter Tryz.func152,Tryz.ntmps152
 go_wp2_with (first|((with_reducible refine gate_callee (f:=103) rfl ?_);refine goesL_ (some 15) rfl rfl Tryz.func103 (by kernel_rfl) rfl #[.pointer (some ⟨g,0,none⟩)] rfl oM ?_;(with_reducible refine (rB.calls k g s0_0 (wrap64 (s0_1+1)) tz0 tz2 w0 _ ?side1 ?side2 A2.out).mono ?_);(case side1=>exact oI);(case side2=>exact oG);rintro e w9 ⟨rfl,hi,hb,hk⟩;refine ⟨_,rfl,?_⟩;have _:=Ak (KeepBut.trans oK hk (.inl rfl));have _:=Ak (hb);have _:=Ak (hi);clear HK HB HI0;rename_i HK HB HI0;clear hb hk hi)|((with_reducible refine gate_callee (f:=185) rfl ?_);refine goesL_ (some 17) rfl rfl Tryz.func185 (by kernel_rfl) rfl #[.pointer (some ⟨g,0,none⟩), .int .u8 93] rfl oM ?_;(with_reducible refine (rT.calls g tz0 tz2 93 false tz3 tz4 w0 _ ?side1 ?side2 A3.out).mono ?_);(case side1=>exact oI);(case side2=>exact oG);rintro e w10 ⟨rfl,hi,hb,hk⟩;refine ⟨_,rfl,?_⟩;have _:=Ak (KeepBut.trans oK hk (.inl rfl));have _:=Ak (hb);have _:=Ak (hi);clear HK HB HI0;rename_i HK HB HI0;clear hb hk hi))
 (try simp only [Act.put,List.setIfInBounds_toArray,List.set_cons_zero,List.set_cons_succ])
 go_loopg [4] k (fun kq v4 w' => ∃ (x4_1:List (S102)) (x1000_1:ByteArray) (x1001_1:Int),Aside0 (rE.l0 kq x4_1 x1000_1 x1001_1=some (r1,r2,r3,r4))∧Aside0 (kq≤k)∧Aside0 (Kd.R k102 102 w' w.heap.size (fun _=>True) v4 x4_1)∧Aside0 (IsS152 w0 w' g x1000_1 x1001_1)∧Aside0 (KeepBut w w' g none)∧Aside0 (Below w0.heap.size w0 w'))
 case atStart=>exact ⟨(([]:List (S102))),(tz3),(tz4),H',⟨Nat.le_refl _⟩,⟨by first|exact Kd.R_nil _ _ _ _ _|exact Kd.N_nil _ _ _ _ _|exact Kd.V_nil _ _ _ _ _|exact Kd.Q_nil _ _ _ _ _|exact Kd.S_nil _ _ _ _ _⟩,⟨oI⟩,⟨oK⟩,⟨oG⟩⟩
 case round =>
 clear H'
 try clear c1
 try clear p2
 try clear c4
 try clear p6
 try clear c10
 try clear hcz5_0
 try clear hcz5_1
 try clear hcz8_0
 try clear hcz8_1
 try clear hfz5_0
 try clear hfz5_1
 try clear hfz8_0
 try clear hfz8_1
 obtain ⟨x4_1,x1000_1,x1001_1,HA,HK1,HO_4,HI0,HK,HB⟩:=hrel
 cases gk with
 | zero=>exact absurd HA.out (by simp [rE.l0])
 | succ k1 =>
  have H:=HA.out
  clear HA
  simp only [rE.l0] at H
  replace H:=Option.bind_eq_some_iff.mp H
  obtain ⟨⟨tz5,tz6,tz7,tz8,tz9,tz10,tz11,tz12⟩,A110,H⟩:=H
  replace H:(if tz10=true then (if x4_1.length<1954687338268 then ((some (x4_1++[(⟨tz5,tz6,tz7,tz8,tz9⟩:S102)]:List (S102))).bind fun yz13=>((rB.f k1 tz11 tz12).bind fun btz14=>((rT.f btz14.1 btz14.2 93).bind fun btz15=>(if btz15.1=true then (some (yz13,true,btz15.2.1,btz15.2.2)) else ((rT.f btz15.2.1 btz15.2.2 44).bind fun btz16=>(if btz16.1=true then ((rB.f k1 btz16.2.1 btz16.2.2).bind fun btz17=>(rE.l0 k1 yz13 btz17.1 btz17.2)) else (some (([]:List (S102)),false,btz16.2.1,btz16.2.2)))))))) else (none)) else (some (([]:List (S102)),false,tz11,tz12)))=some (r1,r2,r3,r4):=H
  have A11:=Ak A110
  clear A110
  by_cases c12:tz10=true
  rotate_left
  ·
   replace c12:=Bool.eq_false_iff.mpr c12
   subst c12
   have H1:(some (([]:List (S102)),false,tz11,tz12))=some (r1,r2,r3,r4):=by rw [if_neg (show ¬ (false=true) by decide)] at H;exact H
   clear H
   have H:=H1
   clear H1
   simp only [Option.some.injEq,Prod.mk.injEq] at H
   obtain ⟨rfl,rfl,rfl,rfl⟩:=H
   go_wp2_with (first|((with_reducible refine gate_callee (f:=104) rfl ?_);refine goesL_ (some 20) rfl rfl Tryz.func104 (by kernel_rfl) rfl #[.pointer (some ⟨g,0,none⟩)] rfl oM ?_;(with_reducible refine (ih_104 k1 (by have:=HK1.out;omega) g x1000_1 x1001_1 tz5 tz6 tz7 tz8 tz9 false tz11 tz12 w0 _ ?side1 ?side2 A11.out).mono ?_);(case side1=>exact oI);(case side2=>exact oG);rintro e w56 ⟨vz21,vz22,rfl,ho0,ho1,hi,hb,hk⟩;refine ⟨_,rfl,?_⟩;have _:=Ak (Kd.R_mono (Kd.R_told (Kd.R_told (Kd.R_oldK (IsS152.apart (show IsS152 w0 _ g x1000_1 x1001_1 from oI) (oR HO_4.out) (by decide)) hk) (Kd.R_base ho0)) (Kd.R_base ho1)) (fun _ h_=>h_.1));have _:=Ak (Kd.R_lower ho0 (keep_size (w:=w) (g:=g) (row:=none) oK));have _:=Ak (Kd.R_lower (Kd.R_new' ho1 (Kd.R_lt (oR HO_4.out))) (keep_size (w:=w) (g:=g) (row:=none) oK));have _:=Ak (KeepBut.trans oK hk (.inl rfl));have _:=Ak (hb);have _:=Ak (hi);clear HO_4 HK HB HI0;rename_i HO_4 HOz23 HOz24 HK HB HI0;clear hb hk hi;(try clear ho0);(try clear ho1))|((with_reducible refine gate_dst (N:=5) rfl ?_);refine box_event ?hg (N:=5) ?hd (cs := #[.int .i64 0, .int .i64 0, .int .i64 0, .slice none 0 0, .slice none 0 0]) (t:=102) ?hr ?_;(case hd=>rfl);(case hg=>rfl);(case hr=>first|(go_simp;done)|(go_simp;rfl));intro gbz25 hg w57 hbox hb;have _:=Ak (Kd.R_below (Kd.R_elderB (oR HO_4.out) gbz25 (Nat.le_of_eq hg.symm)) hb);have _:=Ak (Kd.R_below (oR HOz23.out) hb);have _:=Ak (Kd.R_below (Kd.R_elderB (oR HOz24.out) gbz25 (Nat.le_of_eq hg.symm)) hb);have _:=Ak (IsS152.below oI hb);have _:=Ak (KeepBut.trans oK (KeepBut.of_below hb g none) (.inl rfl));have _:=Ak (below_step oG hb);have _:=Ak (hbox);have _:=Ak ((by rw [hg];exact (keep_size (w:=w) (g:=g) (row:=none) oK):w.heap.size≤gbz25));have _:=Ak ((Nat.le_trans HW0.out (by rw [hg];exact (keep_size (w:=w) (g:=g) (row:=none) oK):w.heap.size≤gbz25):w0.heap.size≤gbz25));have _:=Ak ((by rw [hg];exact Nat.ne_of_lt (IsS152.lt (show IsS152 w0 _ g tz11 tz12 from oI)):g≠gbz25));have _:=Ak ((by rw [hg];exact Nat.ne_of_gt (IsS152.lt (show IsS152 w0 _ g tz11 tz12 from oI)):gbz25≠g));clear HO_4 HOz23 HOz24 HI0 HK HB;rename_i HO_4 HOz23 HOz24 HI0 HK HB BKz25 GWz25 GEz25 NB0_z25 NBz25_0;clear hb hbox hg;have hnb58:=NBz25_0.out;have hnc58:=NB0_z25.out;have hcz59_0:w57.cell? ⟨gbz25,0,none⟩=some (.int .i64 0):=(blk_cell BKz25.out 0).trans rfl;have hcz59_1:w57.cell? ⟨gbz25,1,none⟩=some (.int .i64 0):=(blk_cell BKz25.out 1).trans rfl;have hcz59_2:w57.cell? ⟨gbz25,2,none⟩=some (.int .i64 0):=(blk_cell BKz25.out 2).trans rfl;have hcz59_3:w57.cell? ⟨gbz25,3,none⟩=some (.slice none 0 0):=(blk_cell BKz25.out 3).trans rfl;have hcz59_4:w57.cell? ⟨gbz25,4,none⟩=some (.slice none 0 0):=(blk_cell BKz25.out 4).trans rfl;have hfz59_0:=blk_frozen BKz25.out 0;have hfz59_1:=blk_frozen BKz25.out 1;have hfz59_2:=blk_frozen BKz25.out 2;have hfz59_3:=blk_frozen BKz25.out 3;have hfz59_4:=blk_frozen BKz25.out 4;obtain ⟨Ao60,co60,eo60⟩:=Kd.R_slice HOz23.out;subst eo60;obtain ⟨Ao61,co61,eo61⟩:=Kd.R_slice HOz24.out;subst eo61))
   go_ret2
   exact ⟨_,oE,by first|exact Kd.R_nil _ _ _ _ _|exact Kd.N_nil _ _ _ _ _|exact Kd.V_nil _ _ _ _ _|exact Kd.Q_nil _ _ _ _ _|exact Kd.S_nil _ _ _ _ _,oI1 NB0_z25.out,oG1 GEz25.out,oK1 GWz25.out⟩
  subst c12
  have H1:(if x4_1.length<1954687338268 then ((some (x4_1++[(⟨tz5,tz6,tz7,tz8,tz9⟩:S102)]:List (S102))).bind fun yz13=>((rB.f k1 tz11 tz12).bind fun btz14=>((rT.f btz14.1 btz14.2 93).bind fun btz15=>(if btz15.1=true then (some (yz13,true,btz15.2.1,btz15.2.2)) else ((rT.f btz15.2.1 btz15.2.2 44).bind fun btz16=>(if btz16.1=true then ((rB.f k1 btz16.2.1 btz16.2.2).bind fun btz17=>(rE.l0 k1 yz13 btz17.1 btz17.2)) else (some (([]:List (S102)),false,btz16.2.1,btz16.2.2)))))))) else (none))=some (r1,r2,r3,r4):=by rw [if_pos rfl] at H;exact H
  clear H
  have H:=H1
  clear H1
  by_cases c13:x4_1.length<1954687338268
  ·
   rw [if_pos c13] at H
   have LMc13:=Ak c13
   clear c13
   obtain ⟨yz13,hyz13⟩ : ∃ y_:List (S102),y_=(x4_1++[(⟨tz5,tz6,tz7,tz8,tz9⟩:S102)]):=⟨_,rfl⟩
   replace H:((rB.f k1 tz11 tz12).bind fun btz14=>((rT.f btz14.1 btz14.2 93).bind fun btz15=>(if btz15.1=true then (some (yz13,true,btz15.2.1,btz15.2.2)) else ((rT.f btz15.2.1 btz15.2.2 44).bind fun btz16=>(if btz16.1=true then ((rB.f k1 btz16.2.1 btz16.2.2).bind fun btz17=>(rE.l0 k1 yz13 btz17.1 btz17.2)) else (some (([]:List (S102)),false,btz16.2.1,btz16.2.2)))))))=some (r1,r2,r3,r4):=by first|(rw [hyz13];with_reducible exact H)|(have H2_:=(Option.bind_some _ _).symm.trans H;rw [hyz13];with_reducible exact H2_)|(have H2_:=(Option.bind_some _ _).symm.trans H;with_reducible exact H2_)|with_reducible exact H|(rw [hyz13];exact H)|exact H
   have Nyz13:=Ak hyz13
   clear hyz13
   replace H:=Option.bind_eq_some_iff.mp H
   obtain ⟨⟨tz14,tz18⟩,A140,H⟩:=H
   replace H:((rT.f tz14 tz18 93).bind fun btz15=>(if btz15.1=true then (some (yz13,true,btz15.2.1,btz15.2.2)) else ((rT.f btz15.2.1 btz15.2.2 44).bind fun btz16=>(if btz16.1=true then ((rB.f k1 btz16.2.1 btz16.2.2).bind fun btz17=>(rE.l0 k1 yz13 btz17.1 btz17.2)) else (some (([]:List (S102)),false,btz16.2.1,btz16.2.2))))))=some (r1,r2,r3,r4):=H
   have A14:=Ak A140
   clear A140
   replace H:=Option.bind_eq_some_iff.mp H
   obtain ⟨⟨tz15,tz19,tz20⟩,A150,H⟩:=H
   replace H:(if tz15=true then (some (yz13,true,tz19,tz20)) else ((rT.f tz19 tz20 44).bind fun btz16=>(if btz16.1=true then ((rB.f k1 btz16.2.1 btz16.2.2).bind fun btz17=>(rE.l0 k1 yz13 btz17.1 btz17.2)) else (some (([]:List (S102)),false,btz16.2.1,btz16.2.2)))))=some (r1,r2,r3,r4):=H
   have A15:=Ak A150
   clear A150
   by_cases c16:tz15=true
   ·
    subst c16
    have H1:(some (yz13,true,tz19,tz20))=some (r1,r2,r3,r4):=by rw [if_pos rfl] at H;exact H
    clear H
    have H:=H1
    clear H1
    simp only [Option.some.injEq,Prod.mk.injEq] at H
    obtain ⟨rfl,rfl,rfl,rfl⟩:=H
    go_wp2_with (first|((with_reducible refine gate_callee (f:=104) rfl ?_);refine goesL_ (some 20) rfl rfl Tryz.func104 (by kernel_rfl) rfl #[.pointer (some ⟨g,0,none⟩)] rfl oM ?_;(with_reducible refine (ih_104 k1 (by have:=HK1.out;omega) g x1000_1 x1001_1 tz5 tz6 tz7 tz8 tz9 true tz11 tz12 w0 _ ?side1 ?side2 A11.out).mono ?_);(case side1=>exact oI);(case side2=>exact oG);rintro e w17 ⟨vz21,vz22,rfl,ho0,ho1,hi,hb,hk⟩;refine ⟨_,rfl,?_⟩;have _:=Ak (Kd.R_mono (Kd.R_told (Kd.R_told (Kd.R_oldK (IsS152.apart (show IsS152 w0 _ g x1000_1 x1001_1 from oI) (oR HO_4.out) (by decide)) hk) (Kd.R_base ho0)) (Kd.R_base ho1)) (fun _ h_=>h_.1));have _:=Ak (Kd.R_lower ho0 (keep_size (w:=w) (g:=g) (row:=none) oK));have _:=Ak (Kd.R_lower (Kd.R_new' ho1 (Kd.R_lt (oR HO_4.out))) (keep_size (w:=w) (g:=g) (row:=none) oK));have _:=Ak (KeepBut.trans oK hk (.inl rfl));have _:=Ak (hb);have _:=Ak (hi);clear HO_4 HK HB HI0;rename_i HO_4 HOz23 HOz24 HK HB HI0;clear hb hk hi;(try clear ho0);(try clear ho1))|((with_reducible refine gate_dst (N:=5) rfl ?_);refine box_event ?hg (N:=5) ?hd (cs := #[.int .i64 0, .int .i64 0, .int .i64 0, .slice none 0 0, .slice none 0 0]) (t:=102) ?hr ?_;(case hd=>rfl);(case hg=>rfl);(case hr=>first|(go_simp;done)|(go_simp;rfl));intro gbz25 hg w18 hbox hb;have _:=Ak (Kd.R_below (Kd.R_elderB (oR HO_4.out) gbz25 (Nat.le_of_eq hg.symm)) hb);have _:=Ak (Kd.R_below (oR HOz23.out) hb);have _:=Ak (Kd.R_below (Kd.R_elderB (oR HOz24.out) gbz25 (Nat.le_of_eq hg.symm)) hb);have _:=Ak (IsS152.below oI hb);have _:=Ak (KeepBut.trans oK (KeepBut.of_below hb g none) (.inl rfl));have _:=Ak (below_step oG hb);have _:=Ak (hbox);have _:=Ak ((by rw [hg];exact (keep_size (w:=w) (g:=g) (row:=none) oK):w.heap.size≤gbz25));have _:=Ak ((Nat.le_trans HW0.out (by rw [hg];exact (keep_size (w:=w) (g:=g) (row:=none) oK):w.heap.size≤gbz25):w0.heap.size≤gbz25));have _:=Ak ((by rw [hg];exact Nat.ne_of_lt (IsS152.lt (show IsS152 w0 _ g tz11 tz12 from oI)):g≠gbz25));have _:=Ak ((by rw [hg];exact Nat.ne_of_gt (IsS152.lt (show IsS152 w0 _ g tz11 tz12 from oI)):gbz25≠g));clear HO_4 HOz23 HOz24 HI0 HK HB;rename_i HO_4 HOz23 HOz24 HI0 HK HB BKz25 GWz25 GEz25 NB0_z25 NBz25_0;clear hb hbox hg;have hnb19:=NBz25_0.out;have hnc19:=NB0_z25.out;have hcz20_0:w18.cell? ⟨gbz25,0,none⟩=some (.int .i64 0):=(blk_cell BKz25.out 0).trans rfl;have hcz20_1:w18.cell? ⟨gbz25,1,none⟩=some (.int .i64 0):=(blk_cell BKz25.out 1).trans rfl;have hcz20_2:w18.cell? ⟨gbz25,2,none⟩=some (.int .i64 0):=(blk_cell BKz25.out 2).trans rfl;have hcz20_3:w18.cell? ⟨gbz25,3,none⟩=some (.slice none 0 0):=(blk_cell BKz25.out 3).trans rfl;have hcz20_4:w18.cell? ⟨gbz25,4,none⟩=some (.slice none 0 0):=(blk_cell BKz25.out 4).trans rfl;have hfz20_0:=blk_frozen BKz25.out 0;have hfz20_1:=blk_frozen BKz25.out 1;have hfz20_2:=blk_frozen BKz25.out 2;have hfz20_3:=blk_frozen BKz25.out 3;have hfz20_4:=blk_frozen BKz25.out 4;obtain ⟨Ao21,co21,eo21⟩:=Kd.R_slice HOz23.out;subst eo21;obtain ⟨Ao22,co22,eo22⟩:=Kd.R_slice HOz24.out;subst eo22)|((with_reducible refine gate_store (t:=102) (p:=5) rfl ?_);refine store_event (t:=102) (p:=5) (v:=?vo_w23) (w1:=(((((w18.setCell ⟨gbz25,0,none⟩ (.int .i64 tz5)).setCell ⟨gbz25,1,none⟩ (.int .i64 tz6)).setCell ⟨gbz25,2,none⟩ (.int .i64 tz7)).setCell ⟨gbz25,3,none⟩ (.slice Ao21 tz8.length co21)).setCell ⟨gbz25,4,none⟩ (.slice Ao22 tz9.length co22))) ?hg ?ho ?hn ?hr ?_;(case ho=>rfl);(case hg=>rfl);(case hn=>rfl);(case hr=>first|(go_simp;done)|(go_simp;rfl));intro w23 hw;have n0_:Aside0 (Kd.R k102 102 w23 w.heap.size (fun k_=>some k_≠(.slice Ao21 tz8.length co21:Value).ownBlock∧some k_≠(.slice Ao22 tz9.length co22:Value).ownBlock∧k_≠gbz25) u4 x4_1):=⟨(by rw [hw];exact (by (with_reducible repeat (first|apply Kd.R_alloc|apply Kd.R_drewN|apply Kd.R_drew));exact Kd.R_mono (Kd.R_far (p:=⟨gbz25,4,none⟩) (Kd.R_far (p:=⟨gbz25,3,none⟩) (Kd.R_far (p:=⟨gbz25,2,none⟩) (Kd.R_far (p:=⟨gbz25,1,none⟩) (Kd.R_far (p:=⟨gbz25,0,none⟩) (Kd.R_mono HO_4.out (fun k_ hk=>(⟨hk,hk.2⟩:_∧k_≠gbz25))) (fun _ hk=>hk.2) (.int .i64 tz5)) (fun _ hk=>hk.2) (.int .i64 tz6)) (fun _ hk=>hk.2) (.int .i64 tz7)) (fun _ hk=>hk.2) (.slice Ao21 tz8.length co21)) (fun _ hk=>hk.2) (.slice Ao22 tz9.length co22)) (fun _ hk=>⟨hk.1.1.1.2,⟨hk.1.1.2,hk.1.2⟩⟩)))⟩;have n1_:Aside0 (Kd.R k155 155 w23 w.heap.size (fun _=>True) (.slice Ao21 tz8.length co21) tz8):=⟨(by rw [hw];exact (by (with_reducible repeat (first|apply Kd.R_alloc|apply Kd.R_drewN|apply Kd.R_drew));exact Kd.R_mono (Kd.R_far (p:=⟨gbz25,4,none⟩) (Kd.R_far (p:=⟨gbz25,3,none⟩) (Kd.R_far (p:=⟨gbz25,2,none⟩) (Kd.R_far (p:=⟨gbz25,1,none⟩) (Kd.R_far (p:=⟨gbz25,0,none⟩) (Kd.R_types HOz23.out BKz25.out (by decide)) (fun _ hk=>hk.2) (.int .i64 tz5)) (fun _ hk=>hk.2) (.int .i64 tz6)) (fun _ hk=>hk.2) (.int .i64 tz7)) (fun _ hk=>hk.2) (.slice Ao21 tz8.length co21)) (fun _ hk=>hk.2) (.slice Ao22 tz9.length co22)) (fun _ hk=>trivial)))⟩;have n2_:Aside0 (Kd.R k102 102 w23 w.heap.size (fun k_=>some k_≠(u4:Value).ownBlock∧some k_≠(.slice Ao21 tz8.length co21:Value).ownBlock∧k_≠gbz25) (.slice Ao22 tz9.length co22) tz9):=⟨(by rw [hw];exact (by (with_reducible repeat (first|apply Kd.R_alloc|apply Kd.R_drewN|apply Kd.R_drew));exact Kd.R_mono (Kd.R_far (p:=⟨gbz25,4,none⟩) (Kd.R_far (p:=⟨gbz25,3,none⟩) (Kd.R_far (p:=⟨gbz25,2,none⟩) (Kd.R_far (p:=⟨gbz25,1,none⟩) (Kd.R_far (p:=⟨gbz25,0,none⟩) (Kd.R_mono HOz24.out (fun k_ hk=>(⟨hk,hk.2⟩:_∧k_≠gbz25))) (fun _ hk=>hk.2) (.int .i64 tz5)) (fun _ hk=>hk.2) (.int .i64 tz6)) (fun _ hk=>hk.2) (.int .i64 tz7)) (fun _ hk=>hk.2) (.slice Ao21 tz8.length co21)) (fun _ hk=>hk.2) (.slice Ao22 tz9.length co22)) (fun _ hk=>⟨hk.1.1.2,⟨hk.1.1.1,hk.1.2⟩⟩)))⟩;have n3_:Aside0 (w23.heap[gbz25]? = some (.cells #[.int .i64 tz5, .int .i64 tz6, .int .i64 tz7, .slice Ao21 tz8.length co21, .slice Ao22 tz9.length co22] 102 (0,0))):=⟨(by rw [hw];exact (by (with_reducible repeat (first|apply blk_drewN|apply blk_drew|apply blk_alloc));refine blk_put (cs := #[.int .i64 tz5, .int .i64 tz6, .int .i64 tz7, .slice Ao21 tz8.length co21, .slice none 0 0]) ?_ 4 _ rfl;(with_reducible repeat (first|apply blk_drewN|apply blk_drew|apply blk_alloc));refine blk_put (cs := #[.int .i64 tz5, .int .i64 tz6, .int .i64 tz7, .slice none 0 0, .slice none 0 0]) ?_ 3 _ rfl;(with_reducible repeat (first|apply blk_drewN|apply blk_drew|apply blk_alloc));refine blk_put (cs := #[.int .i64 tz5, .int .i64 tz6, .int .i64 0, .slice none 0 0, .slice none 0 0]) ?_ 2 _ rfl;(with_reducible repeat (first|apply blk_drewN|apply blk_drew|apply blk_alloc));refine blk_put (cs := #[.int .i64 tz5, .int .i64 0, .int .i64 0, .slice none 0 0, .slice none 0 0]) ?_ 1 _ rfl;(with_reducible repeat (first|apply blk_drewN|apply blk_drew|apply blk_alloc));refine blk_put (cs := #[.int .i64 0, .int .i64 0, .int .i64 0, .slice none 0 0, .slice none 0 0]) ?_ 0 _ rfl;(with_reducible repeat (first|apply blk_drewN|apply blk_drew|apply blk_alloc));exact BKz25.out))⟩;have n4_:Aside0 (IsS152 w0 w23 g tz11 tz12):=⟨(by rw [hw];exact (oI1 NB0_z25.out))⟩;have n5_:Aside0 (KeepBut w w23 g none):=⟨(by rw [hw];exact (oK1 GWz25.out))⟩;have n6_:Aside0 (Below w0.heap.size w0 w23):=⟨(by rw [hw];exact (oG1 GEz25.out))⟩;clear hw HO_4 HOz23 HOz24 BKz25 HI0 HK HB;have HO_4:=n0_;have HOz23:=n1_;have HOz24:=n2_;have BKz25:=n3_;have HI0:=n4_;have HK:=n5_;have HB:=n6_;clear n0_ n1_ n2_ n3_ n4_ n5_ n6_;have hcz24_0:w23.cell? ⟨gbz25,0,none⟩=some (.int .i64 tz5):=(blk_cell BKz25.out 0).trans rfl;have hcz24_1:w23.cell? ⟨gbz25,1,none⟩=some (.int .i64 tz6):=(blk_cell BKz25.out 1).trans rfl;have hcz24_2:w23.cell? ⟨gbz25,2,none⟩=some (.int .i64 tz7):=(blk_cell BKz25.out 2).trans rfl;have hcz24_3:w23.cell? ⟨gbz25,3,none⟩=some (.slice Ao21 tz8.length co21):=(blk_cell BKz25.out 3).trans rfl;have hcz24_4:w23.cell? ⟨gbz25,4,none⟩=some (.slice Ao22 tz9.length co22):=(blk_cell BKz25.out 4).trans rfl;have hfz24_0:=blk_frozen BKz25.out 0;have hfz24_1:=blk_frozen BKz25.out 1;have hfz24_2:=blk_frozen BKz25.out 2;have hfz24_3:=blk_frozen BKz25.out 3;have hfz24_4:=blk_frozen BKz25.out 4)|((with_reducible refine gate_builtin (b := .append) (xs := #[.tmp 25, .tmp 27]) rfl ?_);at_builtin;refine Kd.R_append k102 w.heap.size rfl (.tmp 25) (.tmp 27) 100 102 (.agg #[(.int .i64 0),(.int .i64 0),(.int .i64 0),(.slice none 0 0),(.slice none 0 0)]) 72 rfl Tryz.underlying100 info102 rfl (by decide) (by omega) u4 x4_1 (⟨tz5,tz6,tz7,tz8,tz9⟩:S102) [.int .i64 tz5, .int .i64 tz6, .int .i64 tz7, .slice Ao21 tz8.length co21, .slice Ao22 tz9.length co22] (fun k_=>k_≠gbz25) (fun k_=>((fun k_=>k_≠gbz25)) k_∧some k_≠(u4:Value).ownBlock) rfl rfl ?aP (fun _ hk=>hk) ?aF ?aO (Below.refl _ _) ?aS ?aL ?_;(case aP=>exact k102_mkM _ _ _ (⟨tz5,tz6,tz7,tz8,tz9⟩:S102) (Kd.R_mono (Kd.R_types (Kd.R_apart' (HOz23.out) (Kd.R_typed HO_4.out) (by decide)) BKz25.out (by decide)) (fun k_ hk=>⟨hk.2,hk.1.2⟩)) (Kd.R_mono (HOz24.out) (fun k_ hk=>⟨hk.2.2,hk.1⟩)));(case aF=>exact (fun k_ hk=>Kd.freshB (g:=gbz25) (o := .cells #[.int .i64 tz5, .int .i64 tz6, .int .i64 tz7, .slice Ao21 tz8.length co21, .slice Ao22 tz9.length co22] 102 (0,0)) (oL BKz25.out) k_ hk));(case aO=>exact (by (with_reducible repeat (first|apply Kd.R_alloc|apply Kd.R_drewN|apply Kd.R_drew));exact Kd.R_mono HO_4.out (fun _ hk=>hk.2.2)));(case aS=>exact (keep_size (w:=w) (g:=g) (row:=none) (oK1 GWz25.out)));(case aL=>have:=LMc13.out;omega);intro vz26 w25 ho hb hg hat;rw [← Nyz13.out] at ho;have _:=Ak (IsS152.grown (oI1 NB0_z25.out) hg (IsS152.own_ne HI0.out HO_4.out (by decide)));have _:=Ak (blk_grown (g:=gbz25) (o := .cells #[.int .i64 tz5, .int .i64 tz6, .int .i64 tz7, .slice Ao21 tz8.length co21, .slice Ao22 tz9.length co22] 102 (0,0)) (oL BKz25.out) hg (Kd.R_away HO_4.out (fun _ hk=>hk.2.2)));have _:=Ak (below_weaken (oG1 GEz25.out) HL.out hb);have _:=Ak (KeepBut.trans (oK1 GWz25.out) (KeepBut.of_grown hg g) (Kd.R_base2 HO_4.out));have _:=Ak (ho);clear HI0 BKz25 HB HK HO_4 HOz23 HOz24;rename_i HI0 BKz25 HB HK HOz27;clear ho hb hg hat)|((with_reducible refine gate_callee (f:=103) rfl ?_);refine goesL_ (some 30) rfl rfl Tryz.func103 (by kernel_rfl) rfl #[.pointer (some ⟨g,0,none⟩)] rfl oM ?_;(with_reducible refine (rB.calls k1 g tz11 tz12 tz14 tz18 w0 _ ?side1 ?side2 A14.out).mono ?_);(case side1=>exact oI1 NB0_z25.out);(case side2=>exact oG1 GEz25.out);rintro e w26 ⟨rfl,hi,hb,hk⟩;refine ⟨_,rfl,?_⟩;have _:=Ak (KeepBut.blk hk (g':=gbz25) (o := .cells #[.int .i64 tz5, .int .i64 tz6, .int .i64 tz7, .slice Ao21 tz8.length co21, .slice Ao22 tz9.length co22] 102 (0,0)) (oL BKz25.out) NBz25_0.out (by simp));have _:=Ak (Kd.R_mono (Kd.R_keep (IsS152.apart (show IsS152 w0 _ g tz11 tz12 from oI1 NB0_z25.out) (oR HOz27.out) (by decide)) hk (fun _ h=>h.2)) (fun _ h=>h.1));have _:=Ak (KeepBut.trans (oK1 GWz25.out) hk (.inl rfl));have _:=Ak (hb);have _:=Ak (hi);clear BKz25 HOz27 HK HB HI0;rename_i BKz25 HOz27 HK HB HI0;clear hb hk hi)|((with_reducible refine gate_callee (f:=185) rfl ?_);refine goesL_ (some 32) rfl rfl Tryz.func185 (by kernel_rfl) rfl #[.pointer (some ⟨g,0,none⟩), .int .u8 93] rfl oM ?_;(with_reducible refine (rT.calls g tz14 tz18 93 true tz19 tz20 w0 _ ?side1 ?side2 A15.out).mono ?_);(case side1=>exact oI1 NB0_z25.out);(case side2=>exact oG1 GEz25.out);rintro e w27 ⟨rfl,hi,hb,hk⟩;refine ⟨_,rfl,?_⟩;have _:=Ak (KeepBut.blk hk (g':=gbz25) (o := .cells #[.int .i64 tz5, .int .i64 tz6, .int .i64 tz7, .slice Ao21 tz8.length co21, .slice Ao22 tz9.length co22] 102 (0,0)) (oL BKz25.out) NBz25_0.out (by simp));have _:=Ak (Kd.R_mono (Kd.R_keep (IsS152.apart (show IsS152 w0 _ g tz14 tz18 from oI1 NB0_z25.out) (oR HOz27.out) (by decide)) hk (fun _ h=>h.2)) (fun _ h=>h.1));have _:=Ak (KeepBut.trans (oK1 GWz25.out) hk (.inl rfl));have _:=Ak (hb);have _:=Ak (hi);clear BKz25 HOz27 HK HB HI0;rename_i BKz25 HOz27 HK HB HI0;clear hb hk hi))
    go_ret2
    exact ⟨_,oE,by (with_reducible repeat (first|apply Kd.R_alloc|apply Kd.R_drewN|apply Kd.R_drew));exact Kd.R_mono HOz27.out (fun _ hk=>trivial),oI1 NB0_z25.out,oG1 GEz25.out,oK1 GWz25.out⟩
   replace c16:=Bool.eq_false_iff.mpr c16
   subst c16
   have H1:((rT.f tz19 tz20 44).bind fun btz16=>(if btz16.1=true then ((rB.f k1 btz16.2.1 btz16.2.2).bind fun btz17=>(rE.l0 k1 yz13 btz17.1 btz17.2)) else (some (([]:List (S102)),false,btz16.2.1,btz16.2.2))))=some (r1,r2,r3,r4):=by rw [if_neg (show ¬ (false=true) by decide)] at H;exact H
   clear H
   have H:=H1
   clear H1
   replace H:=Option.bind_eq_some_iff.mp H
   obtain ⟨⟨tz16,tz28,tz29⟩,A280,H⟩:=H
   replace H:(if tz16=true then ((rB.f k1 tz28 tz29).bind fun btz17=>(rE.l0 k1 yz13 btz17.1 btz17.2)) else (some (([]:List (S102)),false,tz28,tz29)))=some (r1,r2,r3,r4):=H
   have A28:=Ak A280
   clear A280
   by_cases c29:tz16=true
   ·
    subst c29
    have H1:((rB.f k1 tz28 tz29).bind fun btz17=>(rE.l0 k1 yz13 btz17.1 btz17.2))=some (r1,r2,r3,r4):=by rw [if_pos rfl] at H;exact H
    clear H
    have H:=H1
    clear H1
    replace H:=Option.bind_eq_some_iff.mp H
    obtain ⟨⟨tz17,tz30⟩,A300,H⟩:=H
    replace H:(rE.l0 k1 yz13 tz17 tz30)=some (r1,r2,r3,r4):=H
    have A30:=Ak A300
    clear A300
    have H':=Ak H
    clear H
    go_wp2_with (first|((with_reducible refine gate_callee (f:=104) rfl ?_);refine goesL_ (some 20) rfl rfl Tryz.func104 (by kernel_rfl) rfl #[.pointer (some ⟨g,0,none⟩)] rfl oM ?_;(with_reducible refine (ih_104 k1 (by have:=HK1.out;omega) g x1000_1 x1001_1 tz5 tz6 tz7 tz8 tz9 true tz11 tz12 w0 _ ?side1 ?side2 A11.out).mono ?_);(case side1=>exact oI);(case side2=>exact oG);rintro e w31 ⟨vz21,vz22,rfl,ho0,ho1,hi,hb,hk⟩;refine ⟨_,rfl,?_⟩;have _:=Ak (Kd.R_mono (Kd.R_told (Kd.R_told (Kd.R_oldK (IsS152.apart (show IsS152 w0 _ g x1000_1 x1001_1 from oI) (oR HO_4.out) (by decide)) hk) (Kd.R_base ho0)) (Kd.R_base ho1)) (fun _ h_=>h_.1));have _:=Ak (Kd.R_lower ho0 (keep_size (w:=w) (g:=g) (row:=none) oK));have _:=Ak (Kd.R_lower (Kd.R_new' ho1 (Kd.R_lt (oR HO_4.out))) (keep_size (w:=w) (g:=g) (row:=none) oK));have _:=Ak (KeepBut.trans oK hk (.inl rfl));have _:=Ak (hb);have _:=Ak (hi);clear HO_4 HK HB HI0;rename_i HO_4 HOz23 HOz24 HK HB HI0;clear hb hk hi;(try clear ho0);(try clear ho1))|((with_reducible refine gate_dst (N:=5) rfl ?_);refine box_event ?hg (N:=5) ?hd (cs := #[.int .i64 0, .int .i64 0, .int .i64 0, .slice none 0 0, .slice none 0 0]) (t:=102) ?hr ?_;(case hd=>rfl);(case hg=>rfl);(case hr=>first|(go_simp;done)|(go_simp;rfl));intro gbz25 hg w32 hbox hb;have _:=Ak (Kd.R_below (Kd.R_elderB (oR HO_4.out) gbz25 (Nat.le_of_eq hg.symm)) hb);have _:=Ak (Kd.R_below (oR HOz23.out) hb);have _:=Ak (Kd.R_below (Kd.R_elderB (oR HOz24.out) gbz25 (Nat.le_of_eq hg.symm)) hb);have _:=Ak (IsS152.below oI hb);have _:=Ak (KeepBut.trans oK (KeepBut.of_below hb g none) (.inl rfl));have _:=Ak (below_step oG hb);have _:=Ak (hbox);have _:=Ak ((by rw [hg];exact (keep_size (w:=w) (g:=g) (row:=none) oK):w.heap.size≤gbz25));have _:=Ak ((Nat.le_trans HW0.out (by rw [hg];exact (keep_size (w:=w) (g:=g) (row:=none) oK):w.heap.size≤gbz25):w0.heap.size≤gbz25));have _:=Ak ((by rw [hg];exact Nat.ne_of_lt (IsS152.lt (show IsS152 w0 _ g tz11 tz12 from oI)):g≠gbz25));have _:=Ak ((by rw [hg];exact Nat.ne_of_gt (IsS152.lt (show IsS152 w0 _ g tz11 tz12 from oI)):gbz25≠g));clear HO_4 HOz23 HOz24 HI0 HK HB;rename_i HO_4 HOz23 HOz24 HI0 HK HB BKz25 GWz25 GEz25 NB0_z25 NBz25_0;clear hb hbox hg;have hnb33:=NBz25_0.out;have hnc33:=NB0_z25.out;have hcz34_0:w32.cell? ⟨gbz25,0,none⟩=some (.int .i64 0):=(blk_cell BKz25.out 0).trans rfl;have hcz34_1:w32.cell? ⟨gbz25,1,none⟩=some (.int .i64 0):=(blk_cell BKz25.out 1).trans rfl;have hcz34_2:w32.cell? ⟨gbz25,2,none⟩=some (.int .i64 0):=(blk_cell BKz25.out 2).trans rfl;have hcz34_3:w32.cell? ⟨gbz25,3,none⟩=some (.slice none 0 0):=(blk_cell BKz25.out 3).trans rfl;have hcz34_4:w32.cell? ⟨gbz25,4,none⟩=some (.slice none 0 0):=(blk_cell BKz25.out 4).trans rfl;have hfz34_0:=blk_frozen BKz25.out 0;have hfz34_1:=blk_frozen BKz25.out 1;have hfz34_2:=blk_frozen BKz25.out 2;have hfz34_3:=blk_frozen BKz25.out 3;have hfz34_4:=blk_frozen BKz25.out 4;obtain ⟨Ao35,co35,eo35⟩:=Kd.R_slice HOz23.out;subst eo35;obtain ⟨Ao36,co36,eo36⟩:=Kd.R_slice HOz24.out;subst eo36)|((with_reducible refine gate_store (t:=102) (p:=5) rfl ?_);refine store_event (t:=102) (p:=5) (v:=?vo_w37) (w1:=(((((w32.setCell ⟨gbz25,0,none⟩ (.int .i64 tz5)).setCell ⟨gbz25,1,none⟩ (.int .i64 tz6)).setCell ⟨gbz25,2,none⟩ (.int .i64 tz7)).setCell ⟨gbz25,3,none⟩ (.slice Ao35 tz8.length co35)).setCell ⟨gbz25,4,none⟩ (.slice Ao36 tz9.length co36))) ?hg ?ho ?hn ?hr ?_;(case ho=>rfl);(case hg=>rfl);(case hn=>rfl);(case hr=>first|(go_simp;done)|(go_simp;rfl));intro w37 hw;have n0_:Aside0 (Kd.R k102 102 w37 w.heap.size (fun k_=>some k_≠(.slice Ao35 tz8.length co35:Value).ownBlock∧some k_≠(.slice Ao36 tz9.length co36:Value).ownBlock∧k_≠gbz25) u4 x4_1):=⟨(by rw [hw];exact (by (with_reducible repeat (first|apply Kd.R_alloc|apply Kd.R_drewN|apply Kd.R_drew));exact Kd.R_mono (Kd.R_far (p:=⟨gbz25,4,none⟩) (Kd.R_far (p:=⟨gbz25,3,none⟩) (Kd.R_far (p:=⟨gbz25,2,none⟩) (Kd.R_far (p:=⟨gbz25,1,none⟩) (Kd.R_far (p:=⟨gbz25,0,none⟩) (Kd.R_mono HO_4.out (fun k_ hk=>(⟨hk,hk.2⟩:_∧k_≠gbz25))) (fun _ hk=>hk.2) (.int .i64 tz5)) (fun _ hk=>hk.2) (.int .i64 tz6)) (fun _ hk=>hk.2) (.int .i64 tz7)) (fun _ hk=>hk.2) (.slice Ao35 tz8.length co35)) (fun _ hk=>hk.2) (.slice Ao36 tz9.length co36)) (fun _ hk=>⟨hk.1.1.1.2,⟨hk.1.1.2,hk.1.2⟩⟩)))⟩;have n1_:Aside0 (Kd.R k155 155 w37 w.heap.size (fun _=>True) (.slice Ao35 tz8.length co35) tz8):=⟨(by rw [hw];exact (by (with_reducible repeat (first|apply Kd.R_alloc|apply Kd.R_drewN|apply Kd.R_drew));exact Kd.R_mono (Kd.R_far (p:=⟨gbz25,4,none⟩) (Kd.R_far (p:=⟨gbz25,3,none⟩) (Kd.R_far (p:=⟨gbz25,2,none⟩) (Kd.R_far (p:=⟨gbz25,1,none⟩) (Kd.R_far (p:=⟨gbz25,0,none⟩) (Kd.R_types HOz23.out BKz25.out (by decide)) (fun _ hk=>hk.2) (.int .i64 tz5)) (fun _ hk=>hk.2) (.int .i64 tz6)) (fun _ hk=>hk.2) (.int .i64 tz7)) (fun _ hk=>hk.2) (.slice Ao35 tz8.length co35)) (fun _ hk=>hk.2) (.slice Ao36 tz9.length co36)) (fun _ hk=>trivial)))⟩;have n2_:Aside0 (Kd.R k102 102 w37 w.heap.size (fun k_=>some k_≠(u4:Value).ownBlock∧some k_≠(.slice Ao35 tz8.length co35:Value).ownBlock∧k_≠gbz25) (.slice Ao36 tz9.length co36) tz9):=⟨(by rw [hw];exact (by (with_reducible repeat (first|apply Kd.R_alloc|apply Kd.R_drewN|apply Kd.R_drew));exact Kd.R_mono (Kd.R_far (p:=⟨gbz25,4,none⟩) (Kd.R_far (p:=⟨gbz25,3,none⟩) (Kd.R_far (p:=⟨gbz25,2,none⟩) (Kd.R_far (p:=⟨gbz25,1,none⟩) (Kd.R_far (p:=⟨gbz25,0,none⟩) (Kd.R_mono HOz24.out (fun k_ hk=>(⟨hk,hk.2⟩:_∧k_≠gbz25))) (fun _ hk=>hk.2) (.int .i64 tz5)) (fun _ hk=>hk.2) (.int .i64 tz6)) (fun _ hk=>hk.2) (.int .i64 tz7)) (fun _ hk=>hk.2) (.slice Ao35 tz8.length co35)) (fun _ hk=>hk.2) (.slice Ao36 tz9.length co36)) (fun _ hk=>⟨hk.1.1.2,⟨hk.1.1.1,hk.1.2⟩⟩)))⟩;have n3_:Aside0 (w37.heap[gbz25]? = some (.cells #[.int .i64 tz5, .int .i64 tz6, .int .i64 tz7, .slice Ao35 tz8.length co35, .slice Ao36 tz9.length co36] 102 (0,0))):=⟨(by rw [hw];exact (by (with_reducible repeat (first|apply blk_drewN|apply blk_drew|apply blk_alloc));refine blk_put (cs := #[.int .i64 tz5, .int .i64 tz6, .int .i64 tz7, .slice Ao35 tz8.length co35, .slice none 0 0]) ?_ 4 _ rfl;(with_reducible repeat (first|apply blk_drewN|apply blk_drew|apply blk_alloc));refine blk_put (cs := #[.int .i64 tz5, .int .i64 tz6, .int .i64 tz7, .slice none 0 0, .slice none 0 0]) ?_ 3 _ rfl;(with_reducible repeat (first|apply blk_drewN|apply blk_drew|apply blk_alloc));refine blk_put (cs := #[.int .i64 tz5, .int .i64 tz6, .int .i64 0, .slice none 0 0, .slice none 0 0]) ?_ 2 _ rfl;(with_reducible repeat (first|apply blk_drewN|apply blk_drew|apply blk_alloc));refine blk_put (cs := #[.int .i64 tz5, .int .i64 0, .int .i64 0, .slice none 0 0, .slice none 0 0]) ?_ 1 _ rfl;(with_reducible repeat (first|apply blk_drewN|apply blk_drew|apply blk_alloc));refine blk_put (cs := #[.int .i64 0, .int .i64 0, .int .i64 0, .slice none 0 0, .slice none 0 0]) ?_ 0 _ rfl;(with_reducible repeat (first|apply blk_drewN|apply blk_drew|apply blk_alloc));exact BKz25.out))⟩;have n4_:Aside0 (IsS152 w0 w37 g tz11 tz12):=⟨(by rw [hw];exact (oI1 NB0_z25.out))⟩;have n5_:Aside0 (KeepBut w w37 g none):=⟨(by rw [hw];exact (oK1 GWz25.out))⟩;have n6_:Aside0 (Below w0.heap.size w0 w37):=⟨(by rw [hw];exact (oG1 GEz25.out))⟩;clear hw HO_4 HOz23 HOz24 BKz25 HI0 HK HB;have HO_4:=n0_;have HOz23:=n1_;have HOz24:=n2_;have BKz25:=n3_;have HI0:=n4_;have HK:=n5_;have HB:=n6_;clear n0_ n1_ n2_ n3_ n4_ n5_ n6_;have hcz38_0:w37.cell? ⟨gbz25,0,none⟩=some (.int .i64 tz5):=(blk_cell BKz25.out 0).trans rfl;have hcz38_1:w37.cell? ⟨gbz25,1,none⟩=some (.int .i64 tz6):=(blk_cell BKz25.out 1).trans rfl;have hcz38_2:w37.cell? ⟨gbz25,2,none⟩=some (.int .i64 tz7):=(blk_cell BKz25.out 2).trans rfl;have hcz38_3:w37.cell? ⟨gbz25,3,none⟩=some (.slice Ao35 tz8.length co35):=(blk_cell BKz25.out 3).trans rfl;have hcz38_4:w37.cell? ⟨gbz25,4,none⟩=some (.slice Ao36 tz9.length co36):=(blk_cell BKz25.out 4).trans rfl;have hfz38_0:=blk_frozen BKz25.out 0;have hfz38_1:=blk_frozen BKz25.out 1;have hfz38_2:=blk_frozen BKz25.out 2;have hfz38_3:=blk_frozen BKz25.out 3;have hfz38_4:=blk_frozen BKz25.out 4)|((with_reducible refine gate_builtin (b := .append) (xs := #[.tmp 25, .tmp 27]) rfl ?_);at_builtin;refine Kd.R_append k102 w.heap.size rfl (.tmp 25) (.tmp 27) 100 102 (.agg #[(.int .i64 0),(.int .i64 0),(.int .i64 0),(.slice none 0 0),(.slice none 0 0)]) 72 rfl Tryz.underlying100 info102 rfl (by decide) (by omega) u4 x4_1 (⟨tz5,tz6,tz7,tz8,tz9⟩:S102) [.int .i64 tz5, .int .i64 tz6, .int .i64 tz7, .slice Ao35 tz8.length co35, .slice Ao36 tz9.length co36] (fun k_=>k_≠gbz25) (fun k_=>((fun k_=>k_≠gbz25)) k_∧some k_≠(u4:Value).ownBlock) rfl rfl ?aP (fun _ hk=>hk) ?aF ?aO (Below.refl _ _) ?aS ?aL ?_;(case aP=>exact k102_mkM _ _ _ (⟨tz5,tz6,tz7,tz8,tz9⟩:S102) (Kd.R_mono (Kd.R_types (Kd.R_apart' (HOz23.out) (Kd.R_typed HO_4.out) (by decide)) BKz25.out (by decide)) (fun k_ hk=>⟨hk.2,hk.1.2⟩)) (Kd.R_mono (HOz24.out) (fun k_ hk=>⟨hk.2.2,hk.1⟩)));(case aF=>exact (fun k_ hk=>Kd.freshB (g:=gbz25) (o := .cells #[.int .i64 tz5, .int .i64 tz6, .int .i64 tz7, .slice Ao35 tz8.length co35, .slice Ao36 tz9.length co36] 102 (0,0)) (oL BKz25.out) k_ hk));(case aO=>exact (by (with_reducible repeat (first|apply Kd.R_alloc|apply Kd.R_drewN|apply Kd.R_drew));exact Kd.R_mono HO_4.out (fun _ hk=>hk.2.2)));(case aS=>exact (keep_size (w:=w) (g:=g) (row:=none) (oK1 GWz25.out)));(case aL=>have:=LMc13.out;omega);intro vz26 w39 ho hb hg hat;rw [← Nyz13.out] at ho;have _:=Ak (IsS152.grown (oI1 NB0_z25.out) hg (IsS152.own_ne HI0.out HO_4.out (by decide)));have _:=Ak (blk_grown (g:=gbz25) (o := .cells #[.int .i64 tz5, .int .i64 tz6, .int .i64 tz7, .slice Ao35 tz8.length co35, .slice Ao36 tz9.length co36] 102 (0,0)) (oL BKz25.out) hg (Kd.R_away HO_4.out (fun _ hk=>hk.2.2)));have _:=Ak (below_weaken (oG1 GEz25.out) HL.out hb);have _:=Ak (KeepBut.trans (oK1 GWz25.out) (KeepBut.of_grown hg g) (Kd.R_base2 HO_4.out));have _:=Ak (ho);clear HI0 BKz25 HB HK HO_4 HOz23 HOz24;rename_i HI0 BKz25 HB HK HOz27;clear ho hb hg hat)|((with_reducible refine gate_callee (f:=103) rfl ?_);refine goesL_ (some 30) rfl rfl Tryz.func103 (by kernel_rfl) rfl #[.pointer (some ⟨g,0,none⟩)] rfl oM ?_;(with_reducible refine (rB.calls k1 g tz11 tz12 tz14 tz18 w0 _ ?side1 ?side2 A14.out).mono ?_);(case side1=>exact oI1 NB0_z25.out);(case side2=>exact oG1 GEz25.out);rintro e w40 ⟨rfl,hi,hb,hk⟩;refine ⟨_,rfl,?_⟩;have _:=Ak (KeepBut.blk hk (g':=gbz25) (o := .cells #[.int .i64 tz5, .int .i64 tz6, .int .i64 tz7, .slice Ao35 tz8.length co35, .slice Ao36 tz9.length co36] 102 (0,0)) (oL BKz25.out) NBz25_0.out (by simp));have _:=Ak (Kd.R_mono (Kd.R_keep (IsS152.apart (show IsS152 w0 _ g tz11 tz12 from oI1 NB0_z25.out) (oR HOz27.out) (by decide)) hk (fun _ h=>h.2)) (fun _ h=>h.1));have _:=Ak (KeepBut.trans (oK1 GWz25.out) hk (.inl rfl));have _:=Ak (hb);have _:=Ak (hi);clear BKz25 HOz27 HK HB HI0;rename_i BKz25 HOz27 HK HB HI0;clear hb hk hi)|((with_reducible refine gate_callee (f:=185) rfl ?_);refine goesL_ (some 32) rfl rfl Tryz.func185 (by kernel_rfl) rfl #[.pointer (some ⟨g,0,none⟩), .int .u8 93] rfl oM ?_;(with_reducible refine (rT.calls g tz14 tz18 93 false tz19 tz20 w0 _ ?side1 ?side2 A15.out).mono ?_);(case side1=>exact oI1 NB0_z25.out);(case side2=>exact oG1 GEz25.out);rintro e w41 ⟨rfl,hi,hb,hk⟩;refine ⟨_,rfl,?_⟩;have _:=Ak (KeepBut.blk hk (g':=gbz25) (o := .cells #[.int .i64 tz5, .int .i64 tz6, .int .i64 tz7, .slice Ao35 tz8.length co35, .slice Ao36 tz9.length co36] 102 (0,0)) (oL BKz25.out) NBz25_0.out (by simp));have _:=Ak (Kd.R_mono (Kd.R_keep (IsS152.apart (show IsS152 w0 _ g tz14 tz18 from oI1 NB0_z25.out) (oR HOz27.out) (by decide)) hk (fun _ h=>h.2)) (fun _ h=>h.1));have _:=Ak (KeepBut.trans (oK1 GWz25.out) hk (.inl rfl));have _:=Ak (hb);have _:=Ak (hi);clear BKz25 HOz27 HK HB HI0;rename_i BKz25 HOz27 HK HB HI0;clear hb hk hi)|((with_reducible refine gate_callee (f:=185) rfl ?_);refine goesL_ (some 35) rfl rfl Tryz.func185 (by kernel_rfl) rfl #[.pointer (some ⟨g,0,none⟩), .int .u8 44] rfl oM ?_;(with_reducible refine (rT.calls g tz19 tz20 44 true tz28 tz29 w0 _ ?side1 ?side2 A28.out).mono ?_);(case side1=>exact oI1 NB0_z25.out);(case side2=>exact oG1 GEz25.out);rintro e w42 ⟨rfl,hi,hb,hk⟩;refine ⟨_,rfl,?_⟩;have _:=Ak (KeepBut.blk hk (g':=gbz25) (o := .cells #[.int .i64 tz5, .int .i64 tz6, .int .i64 tz7, .slice Ao35 tz8.length co35, .slice Ao36 tz9.length co36] 102 (0,0)) (oL BKz25.out) NBz25_0.out (by simp));have _:=Ak (Kd.R_mono (Kd.R_keep (IsS152.apart (show IsS152 w0 _ g tz19 tz20 from oI1 NB0_z25.out) (oR HOz27.out) (by decide)) hk (fun _ h=>h.2)) (fun _ h=>h.1));have _:=Ak (KeepBut.trans (oK1 GWz25.out) hk (.inl rfl));have _:=Ak (hb);have _:=Ak (hi);clear BKz25 HOz27 HK HB HI0;rename_i BKz25 HOz27 HK HB HI0;clear hb hk hi)|((with_reducible refine gate_callee (f:=103) rfl ?_);refine goesL_ (some 38) rfl rfl Tryz.func103 (by kernel_rfl) rfl #[.pointer (some ⟨g,0,none⟩)] rfl oM ?_;(with_reducible refine (rB.calls k1 g tz28 tz29 tz17 tz30 w0 _ ?side1 ?side2 A30.out).mono ?_);(case side1=>exact oI1 NB0_z25.out);(case side2=>exact oG1 GEz25.out);rintro e w43 ⟨rfl,hi,hb,hk⟩;refine ⟨_,rfl,?_⟩;have _:=Ak (KeepBut.blk hk (g':=gbz25) (o := .cells #[.int .i64 tz5, .int .i64 tz6, .int .i64 tz7, .slice Ao35 tz8.length co35, .slice Ao36 tz9.length co36] 102 (0,0)) (oL BKz25.out) NBz25_0.out (by simp));have _:=Ak (Kd.R_mono (Kd.R_keep (IsS152.apart (show IsS152 w0 _ g tz28 tz29 from oI1 NB0_z25.out) (oR HOz27.out) (by decide)) hk (fun _ h=>h.2)) (fun _ h=>h.1));have _:=Ak (KeepBut.trans (oK1 GWz25.out) hk (.inl rfl));have _:=Ak (hb);have _:=Ak (hi);clear BKz25 HOz27 HK HB HI0;rename_i BKz25 HOz27 HK HB HI0;clear hb hk hi))
    go_roundg k1
    case measure=>have:=HK1.out;omega
    case rel=>exact ⟨(yz13),(tz17),(tz30),H',⟨by have:=HK1.out;omega⟩,⟨by (with_reducible repeat (first|apply Kd.R_alloc|apply Kd.R_drewN|apply Kd.R_drew));exact Kd.R_mono HOz27.out (fun _ hk=>trivial)⟩,⟨oI1 NB0_z25.out⟩,⟨oK1 GWz25.out⟩,⟨oG1 GEz25.out⟩⟩
   replace c29:=Bool.eq_false_iff.mpr c29
   subst c29
   have H1:(some (([]:List (S102)),false,tz28,tz29))=some (r1,r2,r3,r4):=by rw [if_neg (show ¬ (false=true) by decide)] at H;exact H
   clear H
   have H:=H1
   clear H1
   simp only [Option.some.injEq,Prod.mk.injEq] at H
   obtain ⟨rfl,rfl,rfl,rfl⟩:=H
   go_wp2_with (first|((with_reducible refine gate_callee (f:=104) rfl ?_);refine goesL_ (some 20) rfl rfl Tryz.func104 (by kernel_rfl) rfl #[.pointer (some ⟨g,0,none⟩)] rfl oM ?_;(with_reducible refine (ih_104 k1 (by have:=HK1.out;omega) g x1000_1 x1001_1 tz5 tz6 tz7 tz8 tz9 true tz11 tz12 w0 _ ?side1 ?side2 A11.out).mono ?_);(case side1=>exact oI);(case side2=>exact oG);rintro e w44 ⟨vz21,vz22,rfl,ho0,ho1,hi,hb,hk⟩;refine ⟨_,rfl,?_⟩;have _:=Ak (Kd.R_mono (Kd.R_told (Kd.R_told (Kd.R_oldK (IsS152.apart (show IsS152 w0 _ g x1000_1 x1001_1 from oI) (oR HO_4.out) (by decide)) hk) (Kd.R_base ho0)) (Kd.R_base ho1)) (fun _ h_=>h_.1));have _:=Ak (Kd.R_lower ho0 (keep_size (w:=w) (g:=g) (row:=none) oK));have _:=Ak (Kd.R_lower (Kd.R_new' ho1 (Kd.R_lt (oR HO_4.out))) (keep_size (w:=w) (g:=g) (row:=none) oK));have _:=Ak (KeepBut.trans oK hk (.inl rfl));have _:=Ak (hb);have _:=Ak (hi);clear HO_4 HK HB HI0;rename_i HO_4 HOz23 HOz24 HK HB HI0;clear hb hk hi;(try clear ho0);(try clear ho1))|((with_reducible refine gate_dst (N:=5) rfl ?_);refine box_event ?hg (N:=5) ?hd (cs := #[.int .i64 0, .int .i64 0, .int .i64 0, .slice none 0 0, .slice none 0 0]) (t:=102) ?hr ?_;(case hd=>rfl);(case hg=>rfl);(case hr=>first|(go_simp;done)|(go_simp;rfl));intro gbz25 hg w45 hbox hb;have _:=Ak (Kd.R_below (Kd.R_elderB (oR HO_4.out) gbz25 (Nat.le_of_eq hg.symm)) hb);have _:=Ak (Kd.R_below (oR HOz23.out) hb);have _:=Ak (Kd.R_below (Kd.R_elderB (oR HOz24.out) gbz25 (Nat.le_of_eq hg.symm)) hb);have _:=Ak (IsS152.below oI hb);have _:=Ak (KeepBut.trans oK (KeepBut.of_below hb g none) (.inl rfl));have _:=Ak (below_step oG hb);have _:=Ak (hbox);have _:=Ak ((by rw [hg];exact (keep_size (w:=w) (g:=g) (row:=none) oK):w.heap.size≤gbz25));have _:=Ak ((Nat.le_trans HW0.out (by rw [hg];exact (keep_size (w:=w) (g:=g) (row:=none) oK):w.heap.size≤gbz25):w0.heap.size≤gbz25));have _:=Ak ((by rw [hg];exact Nat.ne_of_lt (IsS152.lt (show IsS152 w0 _ g tz11 tz12 from oI)):g≠gbz25));have _:=Ak ((by rw [hg];exact Nat.ne_of_gt (IsS152.lt (show IsS152 w0 _ g tz11 tz12 from oI)):gbz25≠g));clear HO_4 HOz23 HOz24 HI0 HK HB;rename_i HO_4 HOz23 HOz24 HI0 HK HB BKz25 GWz25 GEz25 NB0_z25 NBz25_0;clear hb hbox hg;have hnb46:=NBz25_0.out;have hnc46:=NB0_z25.out;have hcz47_0:w45.cell? ⟨gbz25,0,none⟩=some (.int .i64 0):=(blk_cell BKz25.out 0).trans rfl;have hcz47_1:w45.cell? ⟨gbz25,1,none⟩=some (.int .i64 0):=(blk_cell BKz25.out 1).trans rfl;have hcz47_2:w45.cell? ⟨gbz25,2,none⟩=some (.int .i64 0):=(blk_cell BKz25.out 2).trans rfl;have hcz47_3:w45.cell? ⟨gbz25,3,none⟩=some (.slice none 0 0):=(blk_cell BKz25.out 3).trans rfl;have hcz47_4:w45.cell? ⟨gbz25,4,none⟩=some (.slice none 0 0):=(blk_cell BKz25.out 4).trans rfl;have hfz47_0:=blk_frozen BKz25.out 0;have hfz47_1:=blk_frozen BKz25.out 1;have hfz47_2:=blk_frozen BKz25.out 2;have hfz47_3:=blk_frozen BKz25.out 3;have hfz47_4:=blk_frozen BKz25.out 4;obtain ⟨Ao48,co48,eo48⟩:=Kd.R_slice HOz23.out;subst eo48;obtain ⟨Ao49,co49,eo49⟩:=Kd.R_slice HOz24.out;subst eo49)|((with_reducible refine gate_store (t:=102) (p:=5) rfl ?_);refine store_event (t:=102) (p:=5) (v:=?vo_w50) (w1:=(((((w45.setCell ⟨gbz25,0,none⟩ (.int .i64 tz5)).setCell ⟨gbz25,1,none⟩ (.int .i64 tz6)).setCell ⟨gbz25,2,none⟩ (.int .i64 tz7)).setCell ⟨gbz25,3,none⟩ (.slice Ao48 tz8.length co48)).setCell ⟨gbz25,4,none⟩ (.slice Ao49 tz9.length co49))) ?hg ?ho ?hn ?hr ?_;(case ho=>rfl);(case hg=>rfl);(case hn=>rfl);(case hr=>first|(go_simp;done)|(go_simp;rfl));intro w50 hw;have n0_:Aside0 (Kd.R k102 102 w50 w.heap.size (fun k_=>some k_≠(.slice Ao48 tz8.length co48:Value).ownBlock∧some k_≠(.slice Ao49 tz9.length co49:Value).ownBlock∧k_≠gbz25) u4 x4_1):=⟨(by rw [hw];exact (by (with_reducible repeat (first|apply Kd.R_alloc|apply Kd.R_drewN|apply Kd.R_drew));exact Kd.R_mono (Kd.R_far (p:=⟨gbz25,4,none⟩) (Kd.R_far (p:=⟨gbz25,3,none⟩) (Kd.R_far (p:=⟨gbz25,2,none⟩) (Kd.R_far (p:=⟨gbz25,1,none⟩) (Kd.R_far (p:=⟨gbz25,0,none⟩) (Kd.R_mono HO_4.out (fun k_ hk=>(⟨hk,hk.2⟩:_∧k_≠gbz25))) (fun _ hk=>hk.2) (.int .i64 tz5)) (fun _ hk=>hk.2) (.int .i64 tz6)) (fun _ hk=>hk.2) (.int .i64 tz7)) (fun _ hk=>hk.2) (.slice Ao48 tz8.length co48)) (fun _ hk=>hk.2) (.slice Ao49 tz9.length co49)) (fun _ hk=>⟨hk.1.1.1.2,⟨hk.1.1.2,hk.1.2⟩⟩)))⟩;have n1_:Aside0 (Kd.R k155 155 w50 w.heap.size (fun _=>True) (.slice Ao48 tz8.length co48) tz8):=⟨(by rw [hw];exact (by (with_reducible repeat (first|apply Kd.R_alloc|apply Kd.R_drewN|apply Kd.R_drew));exact Kd.R_mono (Kd.R_far (p:=⟨gbz25,4,none⟩) (Kd.R_far (p:=⟨gbz25,3,none⟩) (Kd.R_far (p:=⟨gbz25,2,none⟩) (Kd.R_far (p:=⟨gbz25,1,none⟩) (Kd.R_far (p:=⟨gbz25,0,none⟩) (Kd.R_types HOz23.out BKz25.out (by decide)) (fun _ hk=>hk.2) (.int .i64 tz5)) (fun _ hk=>hk.2) (.int .i64 tz6)) (fun _ hk=>hk.2) (.int .i64 tz7)) (fun _ hk=>hk.2) (.slice Ao48 tz8.length co48)) (fun _ hk=>hk.2) (.slice Ao49 tz9.length co49)) (fun _ hk=>trivial)))⟩;have n2_:Aside0 (Kd.R k102 102 w50 w.heap.size (fun k_=>some k_≠(u4:Value).ownBlock∧some k_≠(.slice Ao48 tz8.length co48:Value).ownBlock∧k_≠gbz25) (.slice Ao49 tz9.length co49) tz9):=⟨(by rw [hw];exact (by (with_reducible repeat (first|apply Kd.R_alloc|apply Kd.R_drewN|apply Kd.R_drew));exact Kd.R_mono (Kd.R_far (p:=⟨gbz25,4,none⟩) (Kd.R_far (p:=⟨gbz25,3,none⟩) (Kd.R_far (p:=⟨gbz25,2,none⟩) (Kd.R_far (p:=⟨gbz25,1,none⟩) (Kd.R_far (p:=⟨gbz25,0,none⟩) (Kd.R_mono HOz24.out (fun k_ hk=>(⟨hk,hk.2⟩:_∧k_≠gbz25))) (fun _ hk=>hk.2) (.int .i64 tz5)) (fun _ hk=>hk.2) (.int .i64 tz6)) (fun _ hk=>hk.2) (.int .i64 tz7)) (fun _ hk=>hk.2) (.slice Ao48 tz8.length co48)) (fun _ hk=>hk.2) (.slice Ao49 tz9.length co49)) (fun _ hk=>⟨hk.1.1.2,⟨hk.1.1.1,hk.1.2⟩⟩)))⟩;have n3_:Aside0 (w50.heap[gbz25]? = some (.cells #[.int .i64 tz5, .int .i64 tz6, .int .i64 tz7, .slice Ao48 tz8.length co48, .slice Ao49 tz9.length co49] 102 (0,0))):=⟨(by rw [hw];exact (by (with_reducible repeat (first|apply blk_drewN|apply blk_drew|apply blk_alloc));refine blk_put (cs := #[.int .i64 tz5, .int .i64 tz6, .int .i64 tz7, .slice Ao48 tz8.length co48, .slice none 0 0]) ?_ 4 _ rfl;(with_reducible repeat (first|apply blk_drewN|apply blk_drew|apply blk_alloc));refine blk_put (cs := #[.int .i64 tz5, .int .i64 tz6, .int .i64 tz7, .slice none 0 0, .slice none 0 0]) ?_ 3 _ rfl;(with_reducible repeat (first|apply blk_drewN|apply blk_drew|apply blk_alloc));refine blk_put (cs := #[.int .i64 tz5, .int .i64 tz6, .int .i64 0, .slice none 0 0, .slice none 0 0]) ?_ 2 _ rfl;(with_reducible repeat (first|apply blk_drewN|apply blk_drew|apply blk_alloc));refine blk_put (cs := #[.int .i64 tz5, .int .i64 0, .int .i64 0, .slice none 0 0, .slice none 0 0]) ?_ 1 _ rfl;(with_reducible repeat (first|apply blk_drewN|apply blk_drew|apply blk_alloc));refine blk_put (cs := #[.int .i64 0, .int .i64 0, .int .i64 0, .slice none 0 0, .slice none 0 0]) ?_ 0 _ rfl;(with_reducible repeat (first|apply blk_drewN|apply blk_drew|apply blk_alloc));exact BKz25.out))⟩;have n4_:Aside0 (IsS152 w0 w50 g tz11 tz12):=⟨(by rw [hw];exact (oI1 NB0_z25.out))⟩;have n5_:Aside0 (KeepBut w w50 g none):=⟨(by rw [hw];exact (oK1 GWz25.out))⟩;have n6_:Aside0 (Below w0.heap.size w0 w50):=⟨(by rw [hw];exact (oG1 GEz25.out))⟩;clear hw HO_4 HOz23 HOz24 BKz25 HI0 HK HB;have HO_4:=n0_;have HOz23:=n1_;have HOz24:=n2_;have BKz25:=n3_;have HI0:=n4_;have HK:=n5_;have HB:=n6_;clear n0_ n1_ n2_ n3_ n4_ n5_ n6_;have hcz51_0:w50.cell? ⟨gbz25,0,none⟩=some (.int .i64 tz5):=(blk_cell BKz25.out 0).trans rfl;have hcz51_1:w50.cell? ⟨gbz25,1,none⟩=some (.int .i64 tz6):=(blk_cell BKz25.out 1).trans rfl;have hcz51_2:w50.cell? ⟨gbz25,2,none⟩=some (.int .i64 tz7):=(blk_cell BKz25.out 2).trans rfl;have hcz51_3:w50.cell? ⟨gbz25,3,none⟩=some (.slice Ao48 tz8.length co48):=(blk_cell BKz25.out 3).trans rfl;have hcz51_4:w50.cell? ⟨gbz25,4,none⟩=some (.slice Ao49 tz9.length co49):=(blk_cell BKz25.out 4).trans rfl;have hfz51_0:=blk_frozen BKz25.out 0;have hfz51_1:=blk_frozen BKz25.out 1;have hfz51_2:=blk_frozen BKz25.out 2;have hfz51_3:=blk_frozen BKz25.out 3;have hfz51_4:=blk_frozen BKz25.out 4)|((with_reducible refine gate_builtin (b := .append) (xs := #[.tmp 25, .tmp 27]) rfl ?_);at_builtin;refine Kd.R_append k102 w.heap.size rfl (.tmp 25) (.tmp 27) 100 102 (.agg #[(.int .i64 0),(.int .i64 0),(.int .i64 0),(.slice none 0 0),(.slice none 0 0)]) 72 rfl Tryz.underlying100 info102 rfl (by decide) (by omega) u4 x4_1 (⟨tz5,tz6,tz7,tz8,tz9⟩:S102) [.int .i64 tz5, .int .i64 tz6, .int .i64 tz7, .slice Ao48 tz8.length co48, .slice Ao49 tz9.length co49] (fun k_=>k_≠gbz25) (fun k_=>((fun k_=>k_≠gbz25)) k_∧some k_≠(u4:Value).ownBlock) rfl rfl ?aP (fun _ hk=>hk) ?aF ?aO (Below.refl _ _) ?aS ?aL ?_;(case aP=>exact k102_mkM _ _ _ (⟨tz5,tz6,tz7,tz8,tz9⟩:S102) (Kd.R_mono (Kd.R_types (Kd.R_apart' (HOz23.out) (Kd.R_typed HO_4.out) (by decide)) BKz25.out (by decide)) (fun k_ hk=>⟨hk.2,hk.1.2⟩)) (Kd.R_mono (HOz24.out) (fun k_ hk=>⟨hk.2.2,hk.1⟩)));(case aF=>exact (fun k_ hk=>Kd.freshB (g:=gbz25) (o := .cells #[.int .i64 tz5, .int .i64 tz6, .int .i64 tz7, .slice Ao48 tz8.length co48, .slice Ao49 tz9.length co49] 102 (0,0)) (oL BKz25.out) k_ hk));(case aO=>exact (by (with_reducible repeat (first|apply Kd.R_alloc|apply Kd.R_drewN|apply Kd.R_drew));exact Kd.R_mono HO_4.out (fun _ hk=>hk.2.2)));(case aS=>exact (keep_size (w:=w) (g:=g) (row:=none) (oK1 GWz25.out)));(case aL=>have:=LMc13.out;omega);intro vz26 w52 ho hb hg hat;rw [← Nyz13.out] at ho;have _:=Ak (IsS152.grown (oI1 NB0_z25.out) hg (IsS152.own_ne HI0.out HO_4.out (by decide)));have _:=Ak (blk_grown (g:=gbz25) (o := .cells #[.int .i64 tz5, .int .i64 tz6, .int .i64 tz7, .slice Ao48 tz8.length co48, .slice Ao49 tz9.length co49] 102 (0,0)) (oL BKz25.out) hg (Kd.R_away HO_4.out (fun _ hk=>hk.2.2)));have _:=Ak (below_weaken (oG1 GEz25.out) HL.out hb);have _:=Ak (KeepBut.trans (oK1 GWz25.out) (KeepBut.of_grown hg g) (Kd.R_base2 HO_4.out));have _:=Ak (ho);clear HI0 BKz25 HB HK HO_4 HOz23 HOz24;rename_i HI0 BKz25 HB HK HOz27;clear ho hb hg hat)|((with_reducible refine gate_callee (f:=103) rfl ?_);refine goesL_ (some 30) rfl rfl Tryz.func103 (by kernel_rfl) rfl #[.pointer (some ⟨g,0,none⟩)] rfl oM ?_;(with_reducible refine (rB.calls k1 g tz11 tz12 tz14 tz18 w0 _ ?side1 ?side2 A14.out).mono ?_);(case side1=>exact oI1 NB0_z25.out);(case side2=>exact oG1 GEz25.out);rintro e w53 ⟨rfl,hi,hb,hk⟩;refine ⟨_,rfl,?_⟩;have _:=Ak (KeepBut.blk hk (g':=gbz25) (o := .cells #[.int .i64 tz5, .int .i64 tz6, .int .i64 tz7, .slice Ao48 tz8.length co48, .slice Ao49 tz9.length co49] 102 (0,0)) (oL BKz25.out) NBz25_0.out (by simp));have _:=Ak (Kd.R_mono (Kd.R_keep (IsS152.apart (show IsS152 w0 _ g tz11 tz12 from oI1 NB0_z25.out) (oR HOz27.out) (by decide)) hk (fun _ h=>h.2)) (fun _ h=>h.1));have _:=Ak (KeepBut.trans (oK1 GWz25.out) hk (.inl rfl));have _:=Ak (hb);have _:=Ak (hi);clear BKz25 HOz27 HK HB HI0;rename_i BKz25 HOz27 HK HB HI0;clear hb hk hi)|((with_reducible refine gate_callee (f:=185) rfl ?_);refine goesL_ (some 32) rfl rfl Tryz.func185 (by kernel_rfl) rfl #[.pointer (some ⟨g,0,none⟩), .int .u8 93] rfl oM ?_;(with_reducible refine (rT.calls g tz14 tz18 93 false tz19 tz20 w0 _ ?side1 ?side2 A15.out).mono ?_);(case side1=>exact oI1 NB0_z25.out);(case side2=>exact oG1 GEz25.out);rintro e w54 ⟨rfl,hi,hb,hk⟩;refine ⟨_,rfl,?_⟩;have _:=Ak (KeepBut.blk hk (g':=gbz25) (o := .cells #[.int .i64 tz5, .int .i64 tz6, .int .i64 tz7, .slice Ao48 tz8.length co48, .slice Ao49 tz9.length co49] 102 (0,0)) (oL BKz25.out) NBz25_0.out (by simp));have _:=Ak (Kd.R_mono (Kd.R_keep (IsS152.apart (show IsS152 w0 _ g tz14 tz18 from oI1 NB0_z25.out) (oR HOz27.out) (by decide)) hk (fun _ h=>h.2)) (fun _ h=>h.1));have _:=Ak (KeepBut.trans (oK1 GWz25.out) hk (.inl rfl));have _:=Ak (hb);have _:=Ak (hi);clear BKz25 HOz27 HK HB HI0;rename_i BKz25 HOz27 HK HB HI0;clear hb hk hi)|((with_reducible refine gate_callee (f:=185) rfl ?_);refine goesL_ (some 35) rfl rfl Tryz.func185 (by kernel_rfl) rfl #[.pointer (some ⟨g,0,none⟩), .int .u8 44] rfl oM ?_;(with_reducible refine (rT.calls g tz19 tz20 44 false tz28 tz29 w0 _ ?side1 ?side2 A28.out).mono ?_);(case side1=>exact oI1 NB0_z25.out);(case side2=>exact oG1 GEz25.out);rintro e w55 ⟨rfl,hi,hb,hk⟩;refine ⟨_,rfl,?_⟩;have _:=Ak (KeepBut.blk hk (g':=gbz25) (o := .cells #[.int .i64 tz5, .int .i64 tz6, .int .i64 tz7, .slice Ao48 tz8.length co48, .slice Ao49 tz9.length co49] 102 (0,0)) (oL BKz25.out) NBz25_0.out (by simp));have _:=Ak (Kd.R_mono (Kd.R_keep (IsS152.apart (show IsS152 w0 _ g tz19 tz20 from oI1 NB0_z25.out) (oR HOz27.out) (by decide)) hk (fun _ h=>h.2)) (fun _ h=>h.1));have _:=Ak (KeepBut.trans (oK1 GWz25.out) hk (.inl rfl));have _:=Ak (hb);have _:=Ak (hi);clear BKz25 HOz27 HK HB HI0;rename_i BKz25 HOz27 HK HB HI0;clear hb hk hi))
   go_ret2
   exact ⟨_,oE,by first|exact Kd.R_nil _ _ _ _ _|exact Kd.N_nil _ _ _ _ _|exact Kd.V_nil _ _ _ _ _|exact Kd.Q_nil _ _ _ _ _|exact Kd.S_nil _ _ _ _ _,oI1 NB0_z25.out,oG1 GEz25.out,oK1 GWz25.out⟩
  rw [if_neg c13] at H
  exact absurd H (by simp)
theorem grp_rV.all (k:Nat):(∀ (g:Nat) (s0_0:ByteArray) (s0_1:Int) (r1:Int) (r2:Int) (r3:Int) (r4:List (S155)) (r5:List (S102)) (r6:Bool) (r7:ByteArray) (r8:Int) (w0 w:World) (hI:IsS152 w0 w g s0_0 s0_1) (hB:Below w0.heap.size w0 w) (h:rV.f k s0_0 s0_1=some (r1,r2,r3,r4,r5,r6,r7,r8)),
 Calls Tryz.prog 104 #[.pointer (some ⟨g,0,none⟩)] w fun e w' => ∃ v3_ v4_:Value,e = .returned (.tuple #[.agg #[.int .i64 r1, .int .i64 r2, .int .i64 r3,v3_,v4_], .bool r6])∧Kd.R k155 155 w' w.heap.size (fun _=>True) v3_ r4∧Kd.R k102 102 w' w.heap.size (fun k_=>some k_≠(v3_:Value).ownBlock) v4_ r5∧IsS152 w0 w' g r7 r8∧Below w0.heap.size w0 w'∧KeepBut w w' g none)∧(∀ (g:Nat) (s0_0:ByteArray) (s0_1:Int) (r1:List (S155)) (r2:List (S102)) (r3:Bool) (r4:ByteArray) (r5:Int) (w0 w:World) (hI:IsS152 w0 w g s0_0 s0_1) (hB:Below w0.heap.size w0 w) (h:rM.f k s0_0 s0_1=some (r1,r2,r3,r4,r5)),
 Calls Tryz.prog 151 #[.pointer (some ⟨g,0,none⟩)] w fun e w' => ∃ v0_ v1_:Value,e = .returned (.tuple #[v0_,v1_, .bool r3])∧Kd.R k155 155 w' w.heap.size (fun _=>True) v0_ r1∧Kd.R k102 102 w' w.heap.size (fun k_=>some k_≠(v0_:Value).ownBlock) v1_ r2∧IsS152 w0 w' g r4 r5∧Below w0.heap.size w0 w'∧KeepBut w w' g none)∧(∀ (g:Nat) (s0_0:ByteArray) (s0_1:Int) (r1:List (S102)) (r2:Bool) (r3:ByteArray) (r4:Int) (w0 w:World) (hI:IsS152 w0 w g s0_0 s0_1) (hB:Below w0.heap.size w0 w) (h:rE.f k s0_0 s0_1=some (r1,r2,r3,r4)),
 Calls Tryz.prog 152 #[.pointer (some ⟨g,0,none⟩)] w fun e w' => ∃ v0_:Value,e = .returned (.tuple #[v0_, .bool r2])∧Kd.R k102 102 w' w.heap.size (fun _=>True) v0_ r1∧IsS152 w0 w' g r3 r4∧Below w0.heap.size w0 w'∧KeepBut w w' g none):=by
 induction k using Nat.strongRecOn with
 | _ k ih =>
 exact ⟨rV.step k (fun m_ h_=>(ih m_ h_).1) (fun m_ h_=>(ih m_ h_).2.1) (fun m_ h_=>(ih m_ h_).2.2),rM.step k (fun m_ h_=>(ih m_ h_).1) (fun m_ h_=>(ih m_ h_).2.1) (fun m_ h_=>(ih m_ h_).2.2),rE.step k (fun m_ h_=>(ih m_ h_).1) (fun m_ h_=>(ih m_ h_).2.1) (fun m_ h_=>(ih m_ h_).2.2)⟩
theorem rV.calls (k:Nat) : ∀ (g:Nat) (s0_0:ByteArray) (s0_1:Int) (r1:Int) (r2:Int) (r3:Int) (r4:List (S155)) (r5:List (S102)) (r6:Bool) (r7:ByteArray) (r8:Int) (w0 w:World) (hI:IsS152 w0 w g s0_0 s0_1) (hB:Below w0.heap.size w0 w) (h:rV.f k s0_0 s0_1=some (r1,r2,r3,r4,r5,r6,r7,r8)),
    Calls Tryz.prog 104 #[.pointer (some ⟨g,0,none⟩)] w fun e w' => ∃ v3_ v4_:Value,e = .returned (.tuple #[.agg #[.int .i64 r1, .int .i64 r2, .int .i64 r3,v3_,v4_], .bool r6])∧Kd.R k155 155 w' w.heap.size (fun _=>True) v3_ r4∧Kd.R k102 102 w' w.heap.size (fun k_=>some k_≠(v3_:Value).ownBlock) v4_ r5∧IsS152 w0 w' g r7 r8∧Below w0.heap.size w0 w'∧KeepBut w w' g none:=(grp_rV.all k).1
-- NOT PRINTED: function 70 (sP)
/-! ### sN: function 73 -/
mutual
def sN.j0:Nat→ByteArray→Int→Bool→Option (Int × Bool)
  | 0,_,_,_=>none
  | k+1,x0,x1,x27=>if x27=true then (some (0,false)) else (sN.l0 k x0 x1 0 (wrap64 (x1+2)))
def sN.l0:Nat→ByteArray→Int→Int→Int→Option (Int × Bool)
  | 0,_,_,_,_=>none
  | k+1,x0,x1,x6,x7=>if x7<(wrap64 (x1+6)) then (if 0≤x7 then (if x7<(x0.size:Int) then ((sH.f k (bt x0 x7)).bind fun btz0=>(if btz0.2=true then (sN.l0 k x0 x1 (wrap64 ((wrap64 (x6*16))+btz0.1)) (wrap64 (x7+1))) else (some (0,false)))) else (none)) else (none)) else (some (x6,true))
end
def sN.f (k:Nat) (a0:ByteArray) (a1:Int):Option (Int × Bool):=if (wrap64 ((a0.size:Int) - a1))<6 then (sN.j0 k a0 a1 true) else (if 0≤a1 then (if a1<(a0.size:Int) then (if (bt a0 a1)=92 then (if 0≤(wrap64 (a1+1)) then (if (wrap64 (a1+1))<(a0.size:Int) then (sN.j0 k a0 a1 ((bt a0 (wrap64 (a1+1))) != 117)) else (none)) else (none)) else (sN.j0 k a0 a1 true)) else (none)) else (none))
theorem sN.mono_l : ∀ k,(∀ y0 y1 y2,LeO (sN.j0 k y0 y1 y2) (sN.j0 (k+1) y0 y1 y2))∧(∀ y0 y1 y2 y3,LeO (sN.l0 k y0 y1 y2 y3) (sN.l0 (k+1) y0 y1 y2 y3))
  | 0=>⟨fun _ _ _ r h=>by simp [sN.j0] at h,fun _ _ _ _ r h=>by simp [sN.l0] at h⟩
  | k+1=>by
    obtain ⟨ih0,ih1⟩:=sN.mono_l k
    refine ⟨?_,?_⟩
    · intro y0 y1 y2
      unfold sN.j0
      repeat' first|(with_reducible first|apply ih0|apply ih1|apply sH.mono|apply LeO.refl|apply LeO.none|refine LeO.ite ?_ ?_|refine LeO.bind ?_ (fun _=>?_))|apply ih0|apply ih1|apply sH.mono|apply LeO.none|refine LeO.ite ?_ ?_|refine LeO.bind ?_ (fun _=>?_)
    · intro y0 y1 y2 y3
      unfold sN.l0
      repeat' first|(with_reducible first|apply ih0|apply ih1|apply sH.mono|apply LeO.refl|apply LeO.none|refine LeO.ite ?_ ?_|refine LeO.bind ?_ (fun _=>?_))|apply ih0|apply ih1|apply sH.mono|apply LeO.none|refine LeO.ite ?_ ?_|refine LeO.bind ?_ (fun _=>?_)
theorem sN.mono : ∀ a0 a1 k,LeO (sN.f k a0 a1) (sN.f (k+1) a0 a1):=by
 intro a0 a1 k
 obtain ⟨ih0,ih1⟩:=sN.mono_l k
 unfold sN.f
 repeat' first|(with_reducible first|apply ih0|apply ih1|apply sH.mono|apply LeO.refl|apply LeO.none|refine LeO.ite ?_ ?_|refine LeO.bind ?_ (fun _=>?_))|apply ih0|apply ih1|apply sH.mono|apply LeO.none|refine LeO.ite ?_ ?_|refine LeO.bind ?_ (fun _=>?_)
theorem sN.calls (k:Nat) (a0:ByteArray) (a1:Int) (r1:Int) (r2:Bool) (w:World) (h:sN.f k a0 a1=some (r1,r2)) :
 Calls Tryz.prog 73 #[.string a0, .int .i64 a1] w fun e w'=>e = .returned (.tuple #[.int .i64 r1, .bool r2])∧Drawn0 w w':=by
 have H:(if (wrap64 ((a0.size:Int) - a1))<6 then (sN.j0 k a0 a1 true) else (if 0≤a1 then (if a1<(a0.size:Int) then (if (bt a0 a1)=92 then (if 0≤(wrap64 (a1+1)) then (if (wrap64 (a1+1))<(a0.size:Int) then (sN.j0 k a0 a1 ((bt a0 (wrap64 (a1+1))) != 117)) else (none)) else (none)) else (sN.j0 k a0 a1 true)) else (none)) else (none)))=some (r1,r2):=h
 clear h
 have HC3:=Ak H
 clear H
 go_enter Tryz.func73,Tryz.ntmps73
 go_upto_region 1 with (fail)
 go_cut [27] (fun v27 wc => ∃ (kq:Nat) (x27_2:Bool),v27 = .bool x27_2∧Aside0 (sN.j0 kq a0 a1 x27_2=some (r1,r2))∧Aside0 (kq≤k)∧Drawn0 w wc)
 case first =>
  have H:=HC3.out
  clear HC3
  by_cases c4:(wrap64 ((a0.size:Int) - a1))<6
  ·
   rw [if_pos c4] at H
   have c4b0:decide ((wrap64 ((a0.size:Int) - a1))<6)=true:=decide_eq_true c4
   clear c4
   (first|rw [c4b0]|(simp only [i64_w,i32_w];rw [c4b0])|skip)
   have H':=Ak H
   clear H
   go_wp2
   go_meet
   case rel=>exact ⟨_,(true),oS,H',⟨by first|omega|exact Nat.le_refl _⟩,by repeat (first|exact Drawn0.refl _|apply Drawn0.step)⟩
  rw [if_neg c4] at H
  have c4b0:decide ((wrap64 ((a0.size:Int) - a1))<6)=false:=decide_eq_false c4
  clear c4
  (first|rw [c4b0]|(simp only [i64_w,i32_w];rw [c4b0])|skip)
  by_cases c5:0≤a1
  ·
   rw [if_pos c5] at H
   have c5b0:decide (0≤a1)=true:=decide_eq_true c5
   clear c5
   by_cases c6:a1<(a0.size:Int)
   rotate_left
   ·
    rw [if_neg c6] at H
    exact absurd H (by simp)
   rw [if_pos c6] at H
   have c6b0:decide (a1<(a0.size:Int))=true:=decide_eq_true c6
   clear c6
   by_cases c8:(bt a0 a1)=92
   ·
    rw [if_pos c8] at H
    have c8b0:((bt a0 a1) == 92)=true:=beq_iff_eq.mpr c8
    have c8b1:((bt a0 a1) != 92)=false:=bne_eq_false_iff_eq.mpr c8
    clear c8
    obtain ⟨ji9,hji9⟩ : ∃ j_:Int,(wrap64 (a1+1))=j_:=⟨_,rfl⟩
    replace H:(if 0≤(ji9) then (if (ji9)<(a0.size:Int) then (sN.j0 k a0 a1 ((bt a0 (ji9)) != 117)) else (none)) else (none))=some (r1,r2):=by first|(rw [hji9] at H;exact H)|(simp only [hji9] at H ⊢; exact H)
    have hji9w:(IntKind.i64.wrap (a1+1))=ji9:=(i64_w _).trans hji9
    by_cases c10:0≤(ji9)
    rotate_left
    ·
     rw [if_neg c10] at H
     exact absurd H (by simp)
    rw [if_pos c10] at H
    have c10b0:decide (0≤(ji9))=true:=decide_eq_true c10
    clear c10
    by_cases c11:(ji9)<(a0.size:Int)
    ·
     rw [if_pos c11] at H
     have c11b0:decide ((ji9)<(a0.size:Int))=true:=decide_eq_true c11
     clear c11
     have H':=Ak H
     clear H
     have p7:0≤(a1:Int):=of_decide_eq_true oA
     have q7:a1<(a0.size:Int):=of_decide_eq_true oA
     have hx7:=bt_at a0 a1
     replace p7:=eq_true p7
     replace q7:=eq_true q7
     have p12:0≤((ji9):Int):=of_decide_eq_true oA
     have q12:(ji9)<(a0.size:Int):=of_decide_eq_true oA
     have hx12:=bt_at a0 (ji9)
     replace p12:=eq_true p12
     replace q12:=eq_true q12
     go_wp2
     go_meet
     case rel=>exact ⟨_,(((bt a0 (ji9)) != 117)),(by first|rfl|(simp;done)|(simp only [← hji9] <;> (first|rfl|simp))|(simp [*];done)),H',⟨by first|omega|exact Nat.le_refl _⟩,by repeat (first|exact Drawn0.refl _|apply Drawn0.step)⟩
    rw [if_neg c11] at H
    exact absurd H (by simp)
   rw [if_neg c8] at H
   have c8b0:((bt a0 a1) == 92)=false:=beq_eq_false_iff_ne.mpr c8
   have c8b1:((bt a0 a1) != 92)=true:=bne_iff_ne.mpr c8
   have H':=Ak H
   clear H
   have p7:0≤(a1:Int):=of_decide_eq_true oA
   have q7:a1<(a0.size:Int):=of_decide_eq_true oA
   have hx7:=bt_at a0 a1
   replace p7:=eq_true p7
   replace q7:=eq_true q7
   go_wp2
   go_meet
   case rel=>exact ⟨_,(true),oS,H',⟨by first|omega|exact Nat.le_refl _⟩,by repeat (first|exact Drawn0.refl _|apply Drawn0.step)⟩
  rw [if_neg c5] at H
  exact absurd H (by simp)
 case rest =>
 clear HC3
 try clear c1
 try clear p1
 try clear q1
 try clear hx1
 try clear p2
 try clear c4
 try clear c4b0
 try clear c5
 try clear c5b0
 try clear c6
 try clear c6b0
 try clear p6
 try clear c7
 try clear p7
 try clear q7
 try clear hx7
 try clear c8
 try clear c8b0
 try clear c8b1
 try clear c10
 try clear c10b0
 try clear c11
 try clear c11b0
 try clear p12
 try clear q12
 try clear hx12
 try clear p12
 try clear p7
 try clear q12
 try clear q7
 obtain ⟨kq,x27_2,rfl,HA,HJ2,⟨mc2,rfl⟩⟩:=hcut
 cases kq with
 | zero=>exact absurd HA.out (by simp [sN.j0])
 | succ kj2 =>
  have H:=HA.out
  clear HA
  simp only [sN.j0] at H
  by_cases c13:x27_2=true
  ·
   subst c13
   have H1:(some (0,false))=some (r1,r2):=by rw [if_pos rfl] at H;exact H
   clear H
   have H:=H1
   clear H1
   simp only [Option.some.injEq,Prod.mk.injEq] at H
   obtain ⟨rfl,rfl⟩:=H
   go_wp2
   go_ret2
   exact ⟨oS,by repeat (first|exact Drawn0.refl _|apply Drawn0.step)⟩
  replace c13:=Bool.eq_false_iff.mpr c13
  subst c13
  have H1:(sN.l0 kj2 a0 a1 0 (wrap64 (a1+2)))=some (r1,r2):=by rw [if_neg (show ¬ (false=true) by decide)] at H;exact H
  clear H
  have H:=H1
  clear H1
  have H':=Ak H
  clear H
  go_wp2
  (try simp only [Act.put,List.setIfInBounds_toArray,List.set_cons_zero,List.set_cons_succ])
  go_loopg [6,7] kj2 (fun kq v6 v7 w' => ∃ (x6_2:Int) (x7_2:Int),v6 = .int .i64 x6_2∧v7 = .int .i64 x7_2∧Aside0 (sN.l0 kq a0 a1 x6_2 x7_2=some (r1,r2))∧Aside0 (kq≤kj2)∧Drawn0 w w')
  case atStart=>exact ⟨(0),(wrap64 (a1+2)),oS,oS,H',⟨Nat.le_refl _⟩,by repeat (first|exact Drawn0.refl _|apply Drawn0.step)⟩
  case round =>
  clear H'
  try clear c1
  try clear p1
  try clear q1
  try clear hx1
  try clear c2
  try clear p2
  try clear c4
  try clear c4b0
  try clear c5
  try clear c5b0
  try clear c6
  try clear c6b0
  try clear p6
  try clear c7
  try clear p7
  try clear q7
  try clear hx7
  try clear c8
  try clear c8b0
  try clear c8b1
  try clear c10
  try clear c10b0
  try clear c11
  try clear c11b0
  try clear p12
  try clear q12
  try clear hx12
  try clear c13
  try clear p1
  try clear p12
  try clear p2
  try clear p6
  try clear p7
  try clear q1
  try clear q12
  try clear q7
  obtain ⟨x6_2,x7_2,rfl,rfl,HA,HK2,⟨m2,rfl⟩⟩:=hrel
  cases gk with
  | zero=>exact absurd HA.out (by simp [sN.l0])
  | succ k2 =>
   have H:=HA.out
   clear HA
   simp only [sN.l0] at H
   by_cases c14:x7_2<(wrap64 (a1+6))
   rotate_left
   ·
    rw [if_neg c14] at H
    have c14b0:decide (x7_2<(wrap64 (a1+6)))=false:=decide_eq_false c14
    clear c14
    simp only [Option.some.injEq,Prod.mk.injEq] at H
    obtain ⟨rfl,rfl⟩:=H
    go_wp2
    go_ret2
    exact ⟨oS,by repeat (first|exact Drawn0.refl _|apply Drawn0.step)⟩
   rw [if_pos c14] at H
   have c14b0:decide (x7_2<(wrap64 (a1+6)))=true:=decide_eq_true c14
   clear c14
   by_cases c15:0≤x7_2
   ·
    rw [if_pos c15] at H
    have c15b0:decide (0≤x7_2)=true:=decide_eq_true c15
    clear c15
    by_cases c16:x7_2<(a0.size:Int)
    rotate_left
    ·
     rw [if_neg c16] at H
     exact absurd H (by simp)
    rw [if_pos c16] at H
    have c16b0:decide (x7_2<(a0.size:Int))=true:=decide_eq_true c16
    clear c16
    replace H:=Option.bind_eq_some_iff.mp H
    obtain ⟨⟨tz0,tz1⟩,A180,H⟩:=H
    replace H:(if tz1=true then (sN.l0 k2 a0 a1 (wrap64 ((wrap64 (x6_2*16))+tz0)) (wrap64 (x7_2+1))) else (some (0,false)))=some (r1,r2):=H
    have A18:=Ak A180
    clear A180
    by_cases c19:tz1=true
    ·
     subst c19
     have H1:(sN.l0 k2 a0 a1 (wrap64 ((wrap64 (x6_2*16))+tz0)) (wrap64 (x7_2+1)))=some (r1,r2):=by rw [if_pos rfl] at H;exact H
     clear H
     have H:=H1
     clear H1
     have H':=Ak H
     clear H
     have p17:0≤(x7_2:Int):=of_decide_eq_true oA
     have q17:x7_2<(a0.size:Int):=of_decide_eq_true oA
     have hx17:=bt_at a0 x7_2
     replace p17:=eq_true p17
     replace q17:=eq_true q17
     go_wp2_with (first|((with_reducible refine gate_callee (f:=106) rfl ?_);refine goesL_ (some 40) rfl rfl Tryz.func106 (by kernel_rfl) rfl #[.int .u8 (bt a0 x7_2)] rfl oM ?_;(with_reducible refine (sH.calls k2 (bt a0 x7_2) tz0 true _ A18.out).mono ?_);rintro e w' ⟨rfl,⟨nd,rfl⟩⟩;refine ⟨_,rfl,?_⟩))
     go_roundg k2
     case measure=>have:=HJ2.out;have:=HK2.out;omega
     case rel=>exact ⟨(wrap64 ((wrap64 (x6_2*16))+tz0)),(wrap64 (x7_2+1)),oS,oS,H',⟨by have:=HJ2.out;have:=HK2.out;omega⟩,by repeat (first|exact Drawn0.refl _|apply Drawn0.step)⟩
    replace c19:=Bool.eq_false_iff.mpr c19
    subst c19
    have H1:(some (0,false))=some (r1,r2):=by rw [if_neg (show ¬ (false=true) by decide)] at H;exact H
    clear H
    have H:=H1
    clear H1
    simp only [Option.some.injEq,Prod.mk.injEq] at H
    obtain ⟨rfl,rfl⟩:=H
    have p17:0≤(x7_2:Int):=of_decide_eq_true oA
    have q17:x7_2<(a0.size:Int):=of_decide_eq_true oA
    have hx17:=bt_at a0 x7_2
    replace p17:=eq_true p17
    replace q17:=eq_true q17
    go_wp2_with (first|((with_reducible refine gate_callee (f:=106) rfl ?_);refine goesL_ (some 40) rfl rfl Tryz.func106 (by kernel_rfl) rfl #[.int .u8 (bt a0 x7_2)] rfl oM ?_;(with_reducible refine (sH.calls k2 (bt a0 x7_2) tz0 false _ A18.out).mono ?_);rintro e w' ⟨rfl,⟨nd,rfl⟩⟩;refine ⟨_,rfl,?_⟩))
    go_ret2
    exact ⟨oS,by repeat (first|exact Drawn0.refl _|apply Drawn0.step)⟩
   rw [if_neg c15] at H
   exact absurd H (by simp)
/-! ### spec_high: function 74 -/
def spec_high.f (a0:Int):Option (Bool):=if 55296≤a0 then (some (decide (a0≤56319))) else (some false)
theorem spec_high.calls (a0:Int) (r:Bool) (w:World) (h:spec_high.f a0=some r) :
 Calls Tryz.prog 74 #[.int .i64 a0] w fun e w'=>e = .returned (.bool r)∧Drawn0 w w':=by
 have H:(if 55296≤a0 then (some (decide (a0≤56319))) else (some false))=some r:=h
 clear h
 by_cases c2:55296≤a0
 ·
  rw [if_pos c2] at H
  have c2b0:decide (55296≤a0)=true:=decide_eq_true c2
  clear c2
  obtain rfl:=Option.some.inj H
  go_enter Tryz.func74,Tryz.ntmps74
  go_wp2
  go_ret
  exact ⟨oS,by repeat (first|exact Drawn0.refl _|apply Drawn0.step)⟩
 rw [if_neg c2] at H
 have c2b0:decide (55296≤a0)=false:=decide_eq_false c2
 clear c2
 obtain rfl:=Option.some.inj H
 go_enter Tryz.func74,Tryz.ntmps74
 go_wp2
 go_ret
 exact ⟨oS,by repeat (first|exact Drawn0.refl _|apply Drawn0.step)⟩
/-! ### spec_low: function 75 -/
def spec_low.f (a0:Int):Option (Bool):=if 56320≤a0 then (some (decide (a0≤57343))) else (some false)
theorem spec_low.calls (a0:Int) (r:Bool) (w:World) (h:spec_low.f a0=some r) :
 Calls Tryz.prog 75 #[.int .i64 a0] w fun e w'=>e = .returned (.bool r)∧Drawn0 w w':=by
 have H:(if 56320≤a0 then (some (decide (a0≤57343))) else (some false))=some r:=h
 clear h
 by_cases c2:56320≤a0
 ·
  rw [if_pos c2] at H
  have c2b0:decide (56320≤a0)=true:=decide_eq_true c2
  clear c2
  obtain rfl:=Option.some.inj H
  go_enter Tryz.func75,Tryz.ntmps75
  go_wp2
  go_ret
  exact ⟨oS,by repeat (first|exact Drawn0.refl _|apply Drawn0.step)⟩
 rw [if_neg c2] at H
 have c2b0:decide (56320≤a0)=false:=decide_eq_false c2
 clear c2
 obtain rfl:=Option.some.inj H
 go_enter Tryz.func75,Tryz.ntmps75
 go_wp2
 go_ret
 exact ⟨oS,by repeat (first|exact Drawn0.refl _|apply Drawn0.step)⟩
/-! ### spec_short: function 156 -/
def spec_short.f (a0:Int):Option (Int):=if a0=98 then (some 8) else (if a0=102 then (some 12) else (if a0=110 then (some 10) else (if a0=114 then (some 13) else (if a0=116 then (some 9) else (some a0)))))
theorem spec_short.calls (a0:Int) (r:Int) (w:World) (h:spec_short.f a0=some r) :
 Calls Tryz.prog 156 #[.int .u8 a0] w fun e w'=>e = .returned (.int .u8 r)∧Drawn0 w w':=by
 have H:(if a0=98 then (some 8) else (if a0=102 then (some 12) else (if a0=110 then (some 10) else (if a0=114 then (some 13) else (if a0=116 then (some 9) else (some a0))))))=some r:=h
 clear h
 by_cases c2:a0=98
 ·
  rw [if_pos c2] at H
  have c2b0:(a0 == 98)=true:=beq_iff_eq.mpr c2
  have c2b1:(a0 != 98)=false:=bne_eq_false_iff_eq.mpr c2
  clear c2
  obtain rfl:=Option.some.inj H
  go_enter Tryz.func156,Tryz.ntmps156
  go_wp2
  go_ret
  exact ⟨oS,by repeat (first|exact Drawn0.refl _|apply Drawn0.step)⟩
 rw [if_neg c2] at H
 have c2b0:(a0 == 98)=false:=beq_eq_false_iff_ne.mpr c2
 have c2b1:(a0 != 98)=true:=bne_iff_ne.mpr c2
 by_cases c3:a0=102
 ·
  rw [if_pos c3] at H
  have c3b0:(a0 == 102)=true:=beq_iff_eq.mpr c3
  have c3b1:(a0 != 102)=false:=bne_eq_false_iff_eq.mpr c3
  clear c3
  obtain rfl:=Option.some.inj H
  go_enter Tryz.func156,Tryz.ntmps156
  go_wp2
  go_ret
  exact ⟨oS,by repeat (first|exact Drawn0.refl _|apply Drawn0.step)⟩
 rw [if_neg c3] at H
 have c3b0:(a0 == 102)=false:=beq_eq_false_iff_ne.mpr c3
 have c3b1:(a0 != 102)=true:=bne_iff_ne.mpr c3
 by_cases c4:a0=110
 ·
  rw [if_pos c4] at H
  have c4b0:(a0 == 110)=true:=beq_iff_eq.mpr c4
  have c4b1:(a0 != 110)=false:=bne_eq_false_iff_eq.mpr c4
  clear c4
  obtain rfl:=Option.some.inj H
  go_enter Tryz.func156,Tryz.ntmps156
  go_wp2
  go_ret
  exact ⟨oS,by repeat (first|exact Drawn0.refl _|apply Drawn0.step)⟩
 rw [if_neg c4] at H
 have c4b0:(a0 == 110)=false:=beq_eq_false_iff_ne.mpr c4
 have c4b1:(a0 != 110)=true:=bne_iff_ne.mpr c4
 by_cases c5:a0=114
 ·
  rw [if_pos c5] at H
  have c5b0:(a0 == 114)=true:=beq_iff_eq.mpr c5
  have c5b1:(a0 != 114)=false:=bne_eq_false_iff_eq.mpr c5
  clear c5
  obtain rfl:=Option.some.inj H
  go_enter Tryz.func156,Tryz.ntmps156
  go_wp2
  go_ret
  exact ⟨oS,by repeat (first|exact Drawn0.refl _|apply Drawn0.step)⟩
 rw [if_neg c5] at H
 have c5b0:(a0 == 114)=false:=beq_eq_false_iff_ne.mpr c5
 have c5b1:(a0 != 114)=true:=bne_iff_ne.mpr c5
 by_cases c6:a0=116
 ·
  rw [if_pos c6] at H
  have c6b0:(a0 == 116)=true:=beq_iff_eq.mpr c6
  have c6b1:(a0 != 116)=false:=bne_eq_false_iff_eq.mpr c6
  clear c6
  obtain rfl:=Option.some.inj H
  go_enter Tryz.func156,Tryz.ntmps156
  go_wp2
  go_ret
  exact ⟨oS,by repeat (first|exact Drawn0.refl _|apply Drawn0.step)⟩
 rw [if_neg c6] at H
 have c6b0:(a0 == 116)=false:=beq_eq_false_iff_ne.mpr c6
 have c6b1:(a0 != 116)=true:=bne_iff_ne.mpr c6
 obtain rfl:=Option.some.inj H
 go_enter Tryz.func156,Tryz.ntmps156
 go_wp2
 go_ret
 exact ⟨oS,by repeat (first|exact Drawn0.refl _|apply Drawn0.step)⟩
/-! ### spec_appendUTF8: function 157 -/
def spec_appendUTF8.j0:Nat→List Int→Int→Bool→Option (List Int)
  | 0,_,_,_=>none
  | k+1,x0,x1,x27=>if x27=true then ((some (([239,191,189]:List Int):List Int)).bind fun yz0=>(if x0.length+yz0.length<140737488355328 then (some (x0++yz0)) else (none))) else (if x1<65536 then ((some (([(wrap64 (224+(wrap64 (Int.tdiv x1 4096)))) % 256,(wrap64 (128+(Int.tmod (wrap64 (Int.tdiv x1 64)) 64))) % 256,(wrap64 (128+(Int.tmod x1 64))) % 256]:List Int):List Int)).bind fun yz1=>(if x0.length+yz1.length<140737488355328 then (some (x0++yz1)) else (none))) else ((some (([(wrap64 (240+(wrap64 (Int.tdiv x1 262144)))) % 256,(wrap64 (128+(Int.tmod (wrap64 (Int.tdiv x1 4096)) 64))) % 256,(wrap64 (128+(Int.tmod (wrap64 (Int.tdiv x1 64)) 64))) % 256,(wrap64 (128+(Int.tmod x1 64))) % 256]:List Int):List Int)).bind fun yz2=>(if x0.length+yz2.length<140737488355328 then (some (x0++yz2)) else (none))))
def spec_appendUTF8.f (k:Nat) (l0:List Int) (a1:Int):Option (List Int):=if a1<128 then (if l0.length<140737488355328 then (some (l0++[(a1) % 256])) else (none)) else (if a1<2048 then ((some (([(wrap64 (192+(wrap64 (Int.tdiv a1 64)))) % 256,(wrap64 (128+(Int.tmod a1 64))) % 256]:List Int):List Int)).bind fun yz0=>(if l0.length+yz0.length<140737488355328 then (some (l0++yz0)) else (none))) else ((spec_high.f a1).bind fun tz1=>(if tz1=true then (spec_appendUTF8.j0 k l0 a1 true) else ((spec_low.f a1).bind fun tz2=>(spec_appendUTF8.j0 k l0 a1 tz2)))))
theorem spec_appendUTF8.calls (k:Nat) (P0_:Nat→Prop) (u9000_:Value) (l0:List Int) (a1:Int) (r:List Int) (w0 w:World) (hB:Below w0.heap.size w0 w) (ho0:Kd.R (Kd.int .u8) 5 w w0.heap.size P0_ u9000_ l0) (h:spec_appendUTF8.f k l0 a1=some r) :
 Calls Tryz.prog 157 #[u9000_, .int .i64 a1] w fun e w' => ∃ v0_:Value,e = .returned (v0_)∧Kd.R (Kd.int .u8) 5 w' w0.heap.size (fun k_=>(P0_ k_∨w.heap.size≤k_)) v0_ r∧Below w0.heap.size w0 w'∧Kept w w' (fun k_=>P0_ k_):=by
 have HO0:=Ak (show Kd.R (Kd.int .u8) 5 w w0.heap.size (fun k_=>(P0_ k_∨w.heap.size≤k_)) u9000_ l0 from Kd.R_mono ho0 (fun k_ hk=>(.inl hk)))
 have HK:=Ak (Kept.refl w (fun k_=>P0_ k_))
 have HW0:=Ak hB.size
 have HB:=Ak hB
 clear hB
 have H:(if a1<128 then (if l0.length<140737488355328 then (some (l0++[(a1) % 256])) else (none)) else (if a1<2048 then ((some (([(wrap64 (192+(wrap64 (Int.tdiv a1 64)))) % 256,(wrap64 (128+(Int.tmod a1 64))) % 256]:List Int):List Int)).bind fun yz0=>(if l0.length+yz0.length<140737488355328 then (some (l0++yz0)) else (none))) else ((spec_high.f a1).bind fun tz1=>(if tz1=true then (spec_appendUTF8.j0 k l0 a1 true) else ((spec_low.f a1).bind fun tz2=>(spec_appendUTF8.j0 k l0 a1 tz2))))))=some r:=h
 clear h
 by_cases c3:a1<128
 ·
  rw [if_pos c3] at H
  have c3b0:decide (a1<128)=true:=decide_eq_true c3
  clear c3
  by_cases c4:l0.length<140737488355328
  rotate_left
  ·
   rw [if_neg c4] at H
   exact absurd H (by simp)
  rw [if_pos c4] at H
  have LMc4:=Ak c4
  clear c4
  obtain ⟨yz3,hyz3⟩ : ∃ y_:List Int,y_=(l0++[(a1) % 256]):=⟨_,rfl⟩
  replace H:(some yz3)=some r:=by first|(rw [hyz3];with_reducible exact H)|(have H2_:=(Option.bind_some _ _).symm.trans H;rw [hyz3];with_reducible exact H2_)|(have H2_:=(Option.bind_some _ _).symm.trans H;with_reducible exact H2_)|with_reducible exact H|(rw [hyz3];exact H)|exact H
  have Nyz3:=Ak hyz3
  clear hyz3
  obtain rfl:=Option.some.inj H
  go_enter Tryz.func157,Tryz.ntmps157
  go_wp2_with (first|((with_reducible refine gate_builtin (b := .append) (xs := #[.tmp 8, .tmp 11]) rfl ?_);at_builtin;refine Kd.R_append (Kd.int .u8) (w0:=w0) w0.heap.size rfl (.tmp 8) (.tmp 11) 67 5 (.int .u8 0) 1 rfl Tryz.underlying67 info5 rfl (by decide) (by omega) u9000_ l0 ((a1) % 256) [.int .u8 ((a1) % 256)] (fun k_=>(P0_ k_∨w.heap.size≤k_)) (fun _=>False) rfl rfl ?aP (fun _ hk=>hk.elim) ?aF ?aO ?aB ?aS ?aL ?_;(case aP=>exact rfl);(case aB=>exact oB);(case aF=>exact (fun k_ hk=>(.inr (Nat.le_trans (by first|exact HK.out.1|exact (show Kept w _ (fun k_=>P0_ k_) from oP).1) hk))));(case aO=>exact (oR HO0.out));(case aS=>exact (below_size oB));(case aL=>have:=LMc4.out;omega);intro vz4 w5 ho hb hg hat;rw [← Nyz3.out] at ho;have _:=Ak (hb);have _:=Ak (Kept.of_grown (S:=(fun k_=>P0_ k_)) hg oP (fun k_ e_=>(HO0.out.1 k_ e_)));have _:=Ak (ho);clear HB HK HO0;rename_i HB HK HOz5;clear ho hb hg hat))
  go_ret
  exact ⟨_,oE,oR HOz5.out,oB,oP⟩
 rw [if_neg c3] at H
 have c3b0:decide (a1<128)=false:=decide_eq_false c3
 clear c3
 by_cases c6:a1<2048
 ·
  rw [if_pos c6] at H
  have c6b0:decide (a1<2048)=true:=decide_eq_true c6
  clear c6
  obtain ⟨yz0,hyz0⟩ : ∃ y_:List Int,y_=(([(wrap64 (192+(wrap64 (Int.tdiv a1 64)))) % 256,(wrap64 (128+(Int.tmod a1 64))) % 256]:List Int)):=⟨_,rfl⟩
  replace H:(if l0.length+yz0.length<140737488355328 then (some (l0++yz0)) else (none))=some r:=by first|(rw [hyz0];with_reducible exact H)|(have H2_:=(Option.bind_some _ _).symm.trans H;rw [hyz0];with_reducible exact H2_)|(have H2_:=(Option.bind_some _ _).symm.trans H;with_reducible exact H2_)|with_reducible exact H|(rw [hyz0];exact H)|exact H
  have Nyz0:=Ak hyz0
  clear hyz0
  by_cases c7:l0.length+yz0.length<140737488355328
  rotate_left
  ·
   rw [if_neg c7] at H
   exact absurd H (by simp)
  rw [if_pos c7] at H
  have LMc7:=Ak c7
  clear c7
  obtain ⟨yz6,hyz6⟩ : ∃ y_:List Int,y_=(l0++yz0):=⟨_,rfl⟩
  replace H:(some yz6)=some r:=by first|(rw [hyz6];with_reducible exact H)|(have H2_:=(Option.bind_some _ _).symm.trans H;rw [hyz6];with_reducible exact H2_)|(have H2_:=(Option.bind_some _ _).symm.trans H;with_reducible exact H2_)|with_reducible exact H|(rw [hyz6];exact H)|exact H
  have Nyz6:=Ak hyz6
  clear hyz6
  obtain rfl:=Option.some.inj H
  go_enter Tryz.func157,Tryz.ntmps157
  go_wp2_with (first|((with_reducible refine gate_dst (N:=25) rfl ?_);refine Kd.R_lit (Kd.int .u8) _ 5 ?hg (N:=25) ?hd (xs:=([(wrap64 (192+(wrap64 (Int.tdiv a1 64)))) % 256,(wrap64 (128+(Int.tmod a1 64))) % 256]:List Int)) (inner:=[.int .u8 ((wrap64 (192+(wrap64 (Int.tdiv a1 64)))) % 256), .int .u8 ((wrap64 (128+(Int.tmod a1 64))) % 256)]) (ok:=fun _=>True) (okp:=fun _=>True) ?hr ?hp (fun _ hk=>hk) trivial (Below.refl _ _) (Nat.le_refl _) (by simp) ?_;(case hd=>rfl);(case hg=>rfl);(case hr=>first|(go_simp;done)|(go_simp;rfl));(case hp=>exact (Reps.one (show Kd.M (Kd.int .u8) _ _ _ ((wrap64 (192+(wrap64 (Int.tdiv a1 64)))) % 256) [.int .u8 ((wrap64 (192+(wrap64 (Int.tdiv a1 64)))) % 256)] from rfl) (Reps.one (show Kd.M (Kd.int .u8) _ _ _ ((wrap64 (128+(Int.tmod a1 64))) % 256) [.int .u8 ((wrap64 (128+(Int.tmod a1 64))) % 256)] from rfl) (Reps.none _ _))));intro vz7 w8 ho9 hb hg_ hnew_;clear hg_ hnew_;(first|rw [← Nyz0.out] at ho9|(simp only [Int.reduceToNat] at ho9;rw [← Nyz0.out] at ho9));have _:=Ak (Kd.R_elder' (oR HO0.out) (Kd.R_base ho9) hb);have _:=Ak (Kd.R_lower (Kd.R_new' (Kd.R_newM (M:=fun k_=>(P0_ k_∨w.heap.size≤k_)) ho9 (by first|exact HK.out.1|exact (show Kept w _ (fun k_=>P0_ k_) from oP).1) (fun k_ h_ => .inr h_)) (Kd.R_lt (oR HO0.out))) (below_size oB));have _:=Ak (Kept.below (S:=(fun k_=>P0_ k_)) oP hb);have _:=Ak (below_step oB hb);clear HO0 HK HB;rename_i HO0 HOz8 HK HB;clear hb ho9;obtain ⟨Ao11,co11,eo11⟩:=Kd.R_slice HOz8.out;subst eo11)|((with_reducible refine gate_builtin (b := .append) (xs := #[.tmp 16, .tmp 25]) rfl ?_);at_builtin;refine Kd.R_append_rows (Kd.int .u8) (w0:=w0) w0.heap.size rfl (.tmp 16) (.tmp 25) 67 5 (.int .u8 0) 1 rfl Tryz.underlying67 info5 rfl (by decide) (by omega) u9000_ l0 yz0 _ _ _ (fun k_=>(P0_ k_∨w.heap.size≤k_)∧some k_≠(.slice Ao11 yz0.length co11:Value).ownBlock) (fun _=>False) rfl rfl ?aO ?aR (fun _ _ h=>h) (fun _ h=>h.elim) ?aF ?aB ?aS ?aL ?_;(case aR=>repeat (first|exact (Kd.R_reads' HOz8.out).2.2|(with_reducible refine Kd.C_alloc ?_ _)|(with_reducible refine Kd.C_drewN ?_ _)|(with_reducible refine Kd.C_drew ?_)));(case aB=>exact oB);(case aF=>exact (fun k_ hk=>⟨(.inr (Nat.le_trans (by first|exact HK.out.1|exact (show Kept w _ (fun k_=>P0_ k_) from oP).1) hk)),Kd.fresh' (Kd.R_lt (oR HOz8.out)) k_ hk⟩));(case aO=>exact (oR HO0.out));(case aS=>exact (below_size oB));(case aL=>have:=LMc7.out;omega);intro vz9 w10 ho hb hg hat;rw [← Nyz6.out] at ho;have _:=Ak (Kd.R_after (ok:=(fun k_=>(P0_ k_∨w.heap.size≤k_))) (by (with_reducible repeat (first|apply Kd.R_alloc|apply Kd.R_drewN|apply Kd.R_drew));exact Kd.R_mono HOz8.out (fun _ hk=>⟨hk.1.1,hk.2⟩)) hg hat);have _:=Ak (hb);have _:=Ak (Kept.of_grown (S:=(fun k_=>P0_ k_)) hg oP (fun k_ e_=>(HO0.out.1 k_ e_).1));have _:=Ak (ho);clear HOz8 HB HK HO0;rename_i HOz8 HB HK HOz10;clear ho hb hg hat))
  go_ret
  exact ⟨_,oE,by (with_reducible repeat (first|apply Kd.R_alloc|apply Kd.R_drewN|apply Kd.R_drew));exact Kd.R_mono HOz10.out (fun _ hk=>hk.1),oB,oP⟩
 rw [if_neg c6] at H
 have c6b0:decide (a1<2048)=false:=decide_eq_false c6
 clear c6
 have HC12:=Ak H
 clear H
 go_enter Tryz.func157,Tryz.ntmps157
 go_upto_region 5 with (fail)
 go_cut [27] (fun v27 wc => ∃ (kq:Nat) (x27_11:Bool),v27 = .bool x27_11∧Aside0 (spec_appendUTF8.j0 kq l0 a1 x27_11=some r)∧Aside0 (kq≤k)∧Aside0 (Kd.R (Kd.int .u8) 5 wc w0.heap.size (fun k_=>(P0_ k_∨w.heap.size≤k_)) u9000_ l0)∧Aside0 (Kept w wc (fun k_=>P0_ k_))∧Aside0 (Below w0.heap.size w0 wc))
 case first =>
  have H:=HC12.out
  clear HC12
  replace H:=Option.bind_eq_some_iff.mp H
  obtain ⟨tz1,A130,H⟩:=H
  replace H:(if tz1=true then (spec_appendUTF8.j0 k l0 a1 true) else ((spec_low.f a1).bind fun tz2=>(spec_appendUTF8.j0 k l0 a1 tz2)))=some r:=H
  have A13:=Ak A130
  clear A130
  by_cases c14:tz1=true
  ·
   subst c14
   have H1:(spec_appendUTF8.j0 k l0 a1 true)=some r:=by rw [if_pos rfl] at H;exact H
   clear H
   have H:=H1
   clear H1
   have H':=Ak H
   clear H
   go_wp2_with (first|((with_reducible refine gate_callee (f:=74) rfl ?_);refine goesL_ (some 29) rfl rfl Tryz.func74 (by kernel_rfl) rfl #[.int .i64 a1] rfl oM ?_;(with_reducible refine (spec_high.calls a1 true _ A13.out).mono ?_);rintro e w' ⟨rfl,⟨nd,rfl⟩⟩;refine ⟨_,rfl,?_⟩))
   go_meet
   case rel=>exact ⟨_,(true),oS,H',⟨by first|omega|exact Nat.le_refl _⟩,⟨oR HO0.out⟩,⟨oP⟩,⟨oB⟩⟩
  replace c14:=Bool.eq_false_iff.mpr c14
  subst c14
  have H1:((spec_low.f a1).bind fun tz2=>(spec_appendUTF8.j0 k l0 a1 tz2))=some r:=by rw [if_neg (show ¬ (false=true) by decide)] at H;exact H
  clear H
  have H:=H1
  clear H1
  replace H:=Option.bind_eq_some_iff.mp H
  obtain ⟨tz2,A150,H⟩:=H
  replace H:(spec_appendUTF8.j0 k l0 a1 tz2)=some r:=H
  have A15:=Ak A150
  clear A150
  have H':=Ak H
  clear H
  go_wp2_with (first|((with_reducible refine gate_callee (f:=74) rfl ?_);refine goesL_ (some 29) rfl rfl Tryz.func74 (by kernel_rfl) rfl #[.int .i64 a1] rfl oM ?_;(with_reducible refine (spec_high.calls a1 false _ A13.out).mono ?_);rintro e w' ⟨rfl,⟨nd,rfl⟩⟩;refine ⟨_,rfl,?_⟩)|(go_at_call 75;(with_reducible refine (spec_low.calls a1 tz2 _ A15.out).mono ?_);rintro e w' ⟨rfl,⟨nd,rfl⟩⟩))
  go_meet
  case rel=>exact ⟨_,(tz2),oS,H',⟨by first|omega|exact Nat.le_refl _⟩,⟨oR HO0.out⟩,⟨oP⟩,⟨oB⟩⟩
 case rest =>
 clear HC12
 try clear c1
 try clear p2
 try clear c3
 try clear c3b0
 try clear c4
 try clear c6
 try clear c6b0
 try clear p6
 try clear c7
 try clear c14
 try clear c15
 obtain ⟨kq,x27_11,rfl,HA,HJ11,HO_0,HK,HB⟩:=hcut
 cases kq with
 | zero=>exact absurd HA.out (by simp [spec_appendUTF8.j0])
 | succ kj11 =>
  have H:=HA.out
  clear HA
  simp only [spec_appendUTF8.j0] at H
  by_cases c16:x27_11=true
  ·
   subst c16
   have H1:((some (([239,191,189]:List Int):List Int)).bind fun yz11=>(if l0.length+yz11.length<140737488355328 then (some (l0++yz11)) else (none)))=some r:=by rw [if_pos rfl] at H;exact H
   clear H
   have H:=H1
   clear H1
   obtain ⟨yz11,hyz11⟩ : ∃ y_:List Int,y_=(([239,191,189]:List Int)):=⟨_,rfl⟩
   replace H:(if l0.length+yz11.length<140737488355328 then (some (l0++yz11)) else (none))=some r:=by first|(rw [hyz11];with_reducible exact H)|(have H2_:=(Option.bind_some _ _).symm.trans H;rw [hyz11];with_reducible exact H2_)|(have H2_:=(Option.bind_some _ _).symm.trans H;with_reducible exact H2_)|with_reducible exact H|(rw [hyz11];exact H)|exact H
   have Nyz11:=Ak hyz11
   clear hyz11
   by_cases c17:l0.length+yz11.length<140737488355328
   rotate_left
   ·
    rw [if_neg c17] at H
    exact absurd H (by simp)
   rw [if_pos c17] at H
   have LMc17:=Ak c17
   clear c17
   obtain ⟨yz12,hyz12⟩ : ∃ y_:List Int,y_=(l0++yz11):=⟨_,rfl⟩
   replace H:(some yz12)=some r:=by first|(rw [hyz12];with_reducible exact H)|(have H2_:=(Option.bind_some _ _).symm.trans H;rw [hyz12];with_reducible exact H2_)|(have H2_:=(Option.bind_some _ _).symm.trans H;with_reducible exact H2_)|with_reducible exact H|(rw [hyz12];exact H)|exact H
   have Nyz12:=Ak hyz12
   clear hyz12
   obtain rfl:=Option.some.inj H
   go_wp2_with (first|((with_reducible refine gate_dst (N:=35) rfl ?_);refine Kd.R_lit (Kd.int .u8) _ 5 ?hg (N:=35) ?hd (xs:=([239,191,189]:List Int)) (inner:=[.int .u8 239, .int .u8 191, .int .u8 189]) (ok:=fun _=>True) (okp:=fun _=>True) ?hr ?hp (fun _ hk=>hk) trivial (Below.refl _ _) (Nat.le_refl _) (by simp) ?_;(case hd=>rfl);(case hg=>rfl);(case hr=>first|(go_simp;done)|(go_simp;rfl));(case hp=>exact (Reps.one (show Kd.M (Kd.int .u8) _ _ _ 239 [.int .u8 239] from rfl) (Reps.one (show Kd.M (Kd.int .u8) _ _ _ 191 [.int .u8 191] from rfl) (Reps.one (show Kd.M (Kd.int .u8) _ _ _ 189 [.int .u8 189] from rfl) (Reps.none _ _)))));intro vz13 w18 ho19 hb hg_ hnew_;clear hg_ hnew_;(first|rw [← Nyz11.out] at ho19|(simp only [Int.reduceToNat] at ho19;rw [← Nyz11.out] at ho19));have _:=Ak (Kd.R_elder' (oR HO_0.out) (Kd.R_base ho19) hb);have _:=Ak (Kd.R_lower (Kd.R_new' (Kd.R_newM (M:=fun k_=>(P0_ k_∨w.heap.size≤k_)) ho19 (by first|exact HK.out.1|exact (show Kept w _ (fun k_=>P0_ k_) from oP).1) (fun k_ h_ => .inr h_)) (Kd.R_lt (oR HO_0.out))) (below_size oB));have _:=Ak (Kept.below (S:=(fun k_=>P0_ k_)) oP hb);have _:=Ak (below_step oB hb);clear HO_0 HK HB;rename_i HO_0 HOz14 HK HB;clear hb ho19;obtain ⟨Ao21,co21,eo21⟩:=Kd.R_slice HOz14.out;subst eo21)|((with_reducible refine gate_builtin (b := .append) (xs := #[.tmp 34, .tmp 35]) rfl ?_);at_builtin;refine Kd.R_append_rows (Kd.int .u8) (w0:=w0) w0.heap.size rfl (.tmp 34) (.tmp 35) 67 5 (.int .u8 0) 1 rfl Tryz.underlying67 info5 rfl (by decide) (by omega) u9000_ l0 yz11 _ _ _ (fun k_=>(P0_ k_∨w.heap.size≤k_)∧some k_≠(.slice Ao21 yz11.length co21:Value).ownBlock) (fun _=>False) rfl rfl ?aO ?aR (fun _ _ h=>h) (fun _ h=>h.elim) ?aF ?aB ?aS ?aL ?_;(case aR=>repeat (first|exact (Kd.R_reads' HOz14.out).2.2|(with_reducible refine Kd.C_alloc ?_ _)|(with_reducible refine Kd.C_drewN ?_ _)|(with_reducible refine Kd.C_drew ?_)));(case aB=>exact oB);(case aF=>exact (fun k_ hk=>⟨(.inr (Nat.le_trans (by first|exact HK.out.1|exact (show Kept w _ (fun k_=>P0_ k_) from oP).1) hk)),Kd.fresh' (Kd.R_lt (oR HOz14.out)) k_ hk⟩));(case aO=>exact (oR HO_0.out));(case aS=>exact (below_size oB));(case aL=>have:=LMc17.out;omega);intro vz15 w20 ho hb hg hat;rw [← Nyz12.out] at ho;have _:=Ak (Kd.R_after (ok:=(fun k_=>(P0_ k_∨w.heap.size≤k_))) (by (with_reducible repeat (first|apply Kd.R_alloc|apply Kd.R_drewN|apply Kd.R_drew));exact Kd.R_mono HOz14.out (fun _ hk=>⟨hk.1.1,hk.2⟩)) hg hat);have _:=Ak (hb);have _:=Ak (Kept.of_grown (S:=(fun k_=>P0_ k_)) hg oP (fun k_ e_=>(HO_0.out.1 k_ e_).1));have _:=Ak (ho);clear HOz14 HB HK HO_0;rename_i HOz14 HB HK HOz16;clear ho hb hg hat))
   go_ret
   exact ⟨_,oE,by (with_reducible repeat (first|apply Kd.R_alloc|apply Kd.R_drewN|apply Kd.R_drew));exact Kd.R_mono HOz16.out (fun _ hk=>hk.1),oB,oP⟩
  replace c16:=Bool.eq_false_iff.mpr c16
  subst c16
  have H1:(if a1<65536 then ((some (([(wrap64 (224+(wrap64 (Int.tdiv a1 4096)))) % 256,(wrap64 (128+(Int.tmod (wrap64 (Int.tdiv a1 64)) 64))) % 256,(wrap64 (128+(Int.tmod a1 64))) % 256]:List Int):List Int)).bind fun yz17=>(if l0.length+yz17.length<140737488355328 then (some (l0++yz17)) else (none))) else ((some (([(wrap64 (240+(wrap64 (Int.tdiv a1 262144)))) % 256,(wrap64 (128+(Int.tmod (wrap64 (Int.tdiv a1 4096)) 64))) % 256,(wrap64 (128+(Int.tmod (wrap64 (Int.tdiv a1 64)) 64))) % 256,(wrap64 (128+(Int.tmod a1 64))) % 256]:List Int):List Int)).bind fun yz18=>(if l0.length+yz18.length<140737488355328 then (some (l0++yz18)) else (none))))=some r:=by rw [if_neg (show ¬ (false=true) by decide)] at H;exact H
  clear H
  have H:=H1
  clear H1
  by_cases c22:a1<65536
  ·
   rw [if_pos c22] at H
   have c22b0:decide (a1<65536)=true:=decide_eq_true c22
   clear c22
   obtain ⟨yz17,hyz17⟩ : ∃ y_:List Int,y_=(([(wrap64 (224+(wrap64 (Int.tdiv a1 4096)))) % 256,(wrap64 (128+(Int.tmod (wrap64 (Int.tdiv a1 64)) 64))) % 256,(wrap64 (128+(Int.tmod a1 64))) % 256]:List Int)):=⟨_,rfl⟩
   replace H:(if l0.length+yz17.length<140737488355328 then (some (l0++yz17)) else (none))=some r:=by first|(rw [hyz17];with_reducible exact H)|(have H2_:=(Option.bind_some _ _).symm.trans H;rw [hyz17];with_reducible exact H2_)|(have H2_:=(Option.bind_some _ _).symm.trans H;with_reducible exact H2_)|with_reducible exact H|(rw [hyz17];exact H)|exact H
   have Nyz17:=Ak hyz17
   clear hyz17
   by_cases c23:l0.length+yz17.length<140737488355328
   rotate_left
   ·
    rw [if_neg c23] at H
    exact absurd H (by simp)
   rw [if_pos c23] at H
   have LMc23:=Ak c23
   clear c23
   obtain ⟨yz19,hyz19⟩ : ∃ y_:List Int,y_=(l0++yz17):=⟨_,rfl⟩
   replace H:(some yz19)=some r:=by first|(rw [hyz19];with_reducible exact H)|(have H2_:=(Option.bind_some _ _).symm.trans H;rw [hyz19];with_reducible exact H2_)|(have H2_:=(Option.bind_some _ _).symm.trans H;with_reducible exact H2_)|with_reducible exact H|(rw [hyz19];exact H)|exact H
   have Nyz19:=Ak hyz19
   clear hyz19
   obtain rfl:=Option.some.inj H
   go_wp2_with (first|((with_reducible refine gate_dst (N:=54) rfl ?_);refine Kd.R_lit (Kd.int .u8) _ 5 ?hg (N:=54) ?hd (xs:=([(wrap64 (224+(wrap64 (Int.tdiv a1 4096)))) % 256,(wrap64 (128+(Int.tmod (wrap64 (Int.tdiv a1 64)) 64))) % 256,(wrap64 (128+(Int.tmod a1 64))) % 256]:List Int)) (inner:=[.int .u8 ((wrap64 (224+(wrap64 (Int.tdiv a1 4096)))) % 256), .int .u8 ((wrap64 (128+(Int.tmod (wrap64 (Int.tdiv a1 64)) 64))) % 256), .int .u8 ((wrap64 (128+(Int.tmod a1 64))) % 256)]) (ok:=fun _=>True) (okp:=fun _=>True) ?hr ?hp (fun _ hk=>hk) trivial (Below.refl _ _) (Nat.le_refl _) (by simp) ?_;(case hd=>rfl);(case hg=>rfl);(case hr=>first|(go_simp;done)|(go_simp;rfl));(case hp=>exact (Reps.one (show Kd.M (Kd.int .u8) _ _ _ ((wrap64 (224+(wrap64 (Int.tdiv a1 4096)))) % 256) [.int .u8 ((wrap64 (224+(wrap64 (Int.tdiv a1 4096)))) % 256)] from rfl) (Reps.one (show Kd.M (Kd.int .u8) _ _ _ ((wrap64 (128+(Int.tmod (wrap64 (Int.tdiv a1 64)) 64))) % 256) [.int .u8 ((wrap64 (128+(Int.tmod (wrap64 (Int.tdiv a1 64)) 64))) % 256)] from rfl) (Reps.one (show Kd.M (Kd.int .u8) _ _ _ ((wrap64 (128+(Int.tmod a1 64))) % 256) [.int .u8 ((wrap64 (128+(Int.tmod a1 64))) % 256)] from rfl) (Reps.none _ _)))));intro vz20 w24 ho25 hb hg_ hnew_;clear hg_ hnew_;(first|rw [← Nyz17.out] at ho25|(simp only [Int.reduceToNat] at ho25;rw [← Nyz17.out] at ho25));have _:=Ak (Kd.R_elder' (oR HO_0.out) (Kd.R_base ho25) hb);have _:=Ak (Kd.R_lower (Kd.R_new' (Kd.R_newM (M:=fun k_=>(P0_ k_∨w.heap.size≤k_)) ho25 (by first|exact HK.out.1|exact (show Kept w _ (fun k_=>P0_ k_) from oP).1) (fun k_ h_ => .inr h_)) (Kd.R_lt (oR HO_0.out))) (below_size oB));have _:=Ak (Kept.below (S:=(fun k_=>P0_ k_)) oP hb);have _:=Ak (below_step oB hb);clear HO_0 HK HB;rename_i HO_0 HOz21 HK HB;clear hb ho25;obtain ⟨Ao27,co27,eo27⟩:=Kd.R_slice HOz21.out;subst eo27)|((with_reducible refine gate_builtin (b := .append) (xs := #[.tmp 40, .tmp 54]) rfl ?_);at_builtin;refine Kd.R_append_rows (Kd.int .u8) (w0:=w0) w0.heap.size rfl (.tmp 40) (.tmp 54) 67 5 (.int .u8 0) 1 rfl Tryz.underlying67 info5 rfl (by decide) (by omega) u9000_ l0 yz17 _ _ _ (fun k_=>(P0_ k_∨w.heap.size≤k_)∧some k_≠(.slice Ao27 yz17.length co27:Value).ownBlock) (fun _=>False) rfl rfl ?aO ?aR (fun _ _ h=>h) (fun _ h=>h.elim) ?aF ?aB ?aS ?aL ?_;(case aR=>repeat (first|exact (Kd.R_reads' HOz21.out).2.2|(with_reducible refine Kd.C_alloc ?_ _)|(with_reducible refine Kd.C_drewN ?_ _)|(with_reducible refine Kd.C_drew ?_)));(case aB=>exact oB);(case aF=>exact (fun k_ hk=>⟨(.inr (Nat.le_trans (by first|exact HK.out.1|exact (show Kept w _ (fun k_=>P0_ k_) from oP).1) hk)),Kd.fresh' (Kd.R_lt (oR HOz21.out)) k_ hk⟩));(case aO=>exact (oR HO_0.out));(case aS=>exact (below_size oB));(case aL=>have:=LMc23.out;omega);intro vz22 w26 ho hb hg hat;rw [← Nyz19.out] at ho;have _:=Ak (Kd.R_after (ok:=(fun k_=>(P0_ k_∨w.heap.size≤k_))) (by (with_reducible repeat (first|apply Kd.R_alloc|apply Kd.R_drewN|apply Kd.R_drew));exact Kd.R_mono HOz21.out (fun _ hk=>⟨hk.1.1,hk.2⟩)) hg hat);have _:=Ak (hb);have _:=Ak (Kept.of_grown (S:=(fun k_=>P0_ k_)) hg oP (fun k_ e_=>(HO_0.out.1 k_ e_).1));have _:=Ak (ho);clear HOz21 HB HK HO_0;rename_i HOz21 HB HK HOz23;clear ho hb hg hat))
   go_ret
   exact ⟨_,oE,by (with_reducible repeat (first|apply Kd.R_alloc|apply Kd.R_drewN|apply Kd.R_drew));exact Kd.R_mono HOz23.out (fun _ hk=>hk.1),oB,oP⟩
  rw [if_neg c22] at H
  have c22b0:decide (a1<65536)=false:=decide_eq_false c22
  clear c22
  obtain ⟨yz18,hyz18⟩ : ∃ y_:List Int,y_=(([(wrap64 (240+(wrap64 (Int.tdiv a1 262144)))) % 256,(wrap64 (128+(Int.tmod (wrap64 (Int.tdiv a1 4096)) 64))) % 256,(wrap64 (128+(Int.tmod (wrap64 (Int.tdiv a1 64)) 64))) % 256,(wrap64 (128+(Int.tmod a1 64))) % 256]:List Int)):=⟨_,rfl⟩
  replace H:(if l0.length+yz18.length<140737488355328 then (some (l0++yz18)) else (none))=some r:=by first|(rw [hyz18];with_reducible exact H)|(have H2_:=(Option.bind_some _ _).symm.trans H;rw [hyz18];with_reducible exact H2_)|(have H2_:=(Option.bind_some _ _).symm.trans H;with_reducible exact H2_)|with_reducible exact H|(rw [hyz18];exact H)|exact H
  have Nyz18:=Ak hyz18
  clear hyz18
  by_cases c28:l0.length+yz18.length<140737488355328
  ·
   rw [if_pos c28] at H
   have LMc28:=Ak c28
   clear c28
   obtain ⟨yz24,hyz24⟩ : ∃ y_:List Int,y_=(l0++yz18):=⟨_,rfl⟩
   replace H:(some yz24)=some r:=by first|(rw [hyz24];with_reducible exact H)|(have H2_:=(Option.bind_some _ _).symm.trans H;rw [hyz24];with_reducible exact H2_)|(have H2_:=(Option.bind_some _ _).symm.trans H;with_reducible exact H2_)|with_reducible exact H|(rw [hyz24];exact H)|exact H
   have Nyz24:=Ak hyz24
   clear hyz24
   obtain rfl:=Option.some.inj H
   go_wp2_with (first|((with_reducible refine gate_dst (N:=75) rfl ?_);refine Kd.R_lit (Kd.int .u8) _ 5 ?hg (N:=75) ?hd (xs:=([(wrap64 (240+(wrap64 (Int.tdiv a1 262144)))) % 256,(wrap64 (128+(Int.tmod (wrap64 (Int.tdiv a1 4096)) 64))) % 256,(wrap64 (128+(Int.tmod (wrap64 (Int.tdiv a1 64)) 64))) % 256,(wrap64 (128+(Int.tmod a1 64))) % 256]:List Int)) (inner:=[.int .u8 ((wrap64 (240+(wrap64 (Int.tdiv a1 262144)))) % 256), .int .u8 ((wrap64 (128+(Int.tmod (wrap64 (Int.tdiv a1 4096)) 64))) % 256), .int .u8 ((wrap64 (128+(Int.tmod (wrap64 (Int.tdiv a1 64)) 64))) % 256), .int .u8 ((wrap64 (128+(Int.tmod a1 64))) % 256)]) (ok:=fun _=>True) (okp:=fun _=>True) ?hr ?hp (fun _ hk=>hk) trivial (Below.refl _ _) (Nat.le_refl _) (by simp) ?_;(case hd=>rfl);(case hg=>rfl);(case hr=>first|(go_simp;done)|(go_simp;rfl));(case hp=>exact (Reps.one (show Kd.M (Kd.int .u8) _ _ _ ((wrap64 (240+(wrap64 (Int.tdiv a1 262144)))) % 256) [.int .u8 ((wrap64 (240+(wrap64 (Int.tdiv a1 262144)))) % 256)] from rfl) (Reps.one (show Kd.M (Kd.int .u8) _ _ _ ((wrap64 (128+(Int.tmod (wrap64 (Int.tdiv a1 4096)) 64))) % 256) [.int .u8 ((wrap64 (128+(Int.tmod (wrap64 (Int.tdiv a1 4096)) 64))) % 256)] from rfl) (Reps.one (show Kd.M (Kd.int .u8) _ _ _ ((wrap64 (128+(Int.tmod (wrap64 (Int.tdiv a1 64)) 64))) % 256) [.int .u8 ((wrap64 (128+(Int.tmod (wrap64 (Int.tdiv a1 64)) 64))) % 256)] from rfl) (Reps.one (show Kd.M (Kd.int .u8) _ _ _ ((wrap64 (128+(Int.tmod a1 64))) % 256) [.int .u8 ((wrap64 (128+(Int.tmod a1 64))) % 256)] from rfl) (Reps.none _ _))))));intro vz25 w29 ho30 hb hg_ hnew_;clear hg_ hnew_;(first|rw [← Nyz18.out] at ho30|(simp only [Int.reduceToNat] at ho30;rw [← Nyz18.out] at ho30));have _:=Ak (Kd.R_elder' (oR HO_0.out) (Kd.R_base ho30) hb);have _:=Ak (Kd.R_lower (Kd.R_new' (Kd.R_newM (M:=fun k_=>(P0_ k_∨w.heap.size≤k_)) ho30 (by first|exact HK.out.1|exact (show Kept w _ (fun k_=>P0_ k_) from oP).1) (fun k_ h_ => .inr h_)) (Kd.R_lt (oR HO_0.out))) (below_size oB));have _:=Ak (Kept.below (S:=(fun k_=>P0_ k_)) oP hb);have _:=Ak (below_step oB hb);clear HO_0 HK HB;rename_i HO_0 HOz26 HK HB;clear hb ho30;obtain ⟨Ao32,co32,eo32⟩:=Kd.R_slice HOz26.out;subst eo32)|((with_reducible refine gate_builtin (b := .append) (xs := #[.tmp 56, .tmp 75]) rfl ?_);at_builtin;refine Kd.R_append_rows (Kd.int .u8) (w0:=w0) w0.heap.size rfl (.tmp 56) (.tmp 75) 67 5 (.int .u8 0) 1 rfl Tryz.underlying67 info5 rfl (by decide) (by omega) u9000_ l0 yz18 _ _ _ (fun k_=>(P0_ k_∨w.heap.size≤k_)∧some k_≠(.slice Ao32 yz18.length co32:Value).ownBlock) (fun _=>False) rfl rfl ?aO ?aR (fun _ _ h=>h) (fun _ h=>h.elim) ?aF ?aB ?aS ?aL ?_;(case aR=>repeat (first|exact (Kd.R_reads' HOz26.out).2.2|(with_reducible refine Kd.C_alloc ?_ _)|(with_reducible refine Kd.C_drewN ?_ _)|(with_reducible refine Kd.C_drew ?_)));(case aB=>exact oB);(case aF=>exact (fun k_ hk=>⟨(.inr (Nat.le_trans (by first|exact HK.out.1|exact (show Kept w _ (fun k_=>P0_ k_) from oP).1) hk)),Kd.fresh' (Kd.R_lt (oR HOz26.out)) k_ hk⟩));(case aO=>exact (oR HO_0.out));(case aS=>exact (below_size oB));(case aL=>have:=LMc28.out;omega);intro vz27 w31 ho hb hg hat;rw [← Nyz24.out] at ho;have _:=Ak (Kd.R_after (ok:=(fun k_=>(P0_ k_∨w.heap.size≤k_))) (by (with_reducible repeat (first|apply Kd.R_alloc|apply Kd.R_drewN|apply Kd.R_drew));exact Kd.R_mono HOz26.out (fun _ hk=>⟨hk.1.1,hk.2⟩)) hg hat);have _:=Ak (hb);have _:=Ak (Kept.of_grown (S:=(fun k_=>P0_ k_)) hg oP (fun k_ e_=>(HO_0.out.1 k_ e_).1));have _:=Ak (ho);clear HOz26 HB HK HO_0;rename_i HOz26 HB HK HOz28;clear ho hb hg hat))
   go_ret
   exact ⟨_,oE,by (with_reducible repeat (first|apply Kd.R_alloc|apply Kd.R_drewN|apply Kd.R_drew));exact Kd.R_mono HOz28.out (fun _ hk=>hk.1),oB,oP⟩
  rw [if_neg c28] at H
  exact absurd H (by simp)
end Go.Proofs.YtnejkimpkaopoaaGreatDoor.Q

/- Functions of the program as Lean functions, each with a proof that the call comes to what it gives. Written by prx.py (wip/pr). -/
import Derived.Test.YtbkgoccnegjdhaaB0
import Derived.Test.YtbkgoccnegjdhaaB1
import Derived.Test.YtbkgoccnegjdhaaB2
import Derived.Test.YtbkgoccnegjdhaaB3
import Derived.Test.YtbkgoccnegjdhaaB4
import Derived.Test.YtbkgoccnegjdhaaBf
namespace Go.Proofs.Ytbkgoccnegjdhaa.Q
open Go.RowKit Go.Proofs.YtbkgoccnegjdhaaW.PrintWords Go.Proofs.YtbkgoccnegjdhaaW.PrintLast Go.Proofs.YtbkgoccnegjdhaaW.PrintMore
attribute [local go_sem] max2_int min2_int max_two min_two max_three min_three max_four min_four   -- for this text's walks alone
set_option linter.unusedVariables false
set_option linter.unusedSimpArgs false
set_option maxHeartbeats 8000000 in
set_option maxRecDepth 100000 in
theorem rE.step (k:Nat) (ih_20 : ∀ m_:Nat,m_<k→(∀ (g:Nat) (s0_0:ByteArray) (s0_1:Int) (r1:Int) (r2:Int) (r3:Int) (r4:List (S52)) (r5:List (S28)) (r6:Bool) (r7:ByteArray) (r8:Int) (w0 w:World) (hI:IsS54 w0 w g s0_0 s0_1) (hB:Below w0.heap.size w0 w) (h:rV.f m_ s0_0 s0_1=some (r1,r2,r3,r4,r5,r6,r7,r8)),
 Calls Try.prog 20 #[.pointer (some ⟨g,0,none⟩)] w fun e w' => ∃ v3_ v4_:Value,e = .returned (.tuple #[.agg #[.int .i64 r1, .int .i64 r2, .int .i64 r3,v3_,v4_], .bool r6])∧Kd.R k52 52 w' w.heap.size (fun _=>True) v3_ r4∧Kd.R k28 28 w' w.heap.size (fun k_=>some k_≠(v3_:Value).ownBlock) v4_ r5∧IsS54 w0 w' g r7 r8∧Below w0.heap.size w0 w'∧KeepBut w w' g none)) (ih_33 : ∀ m_:Nat,m_<k→(∀ (g:Nat) (s0_0:ByteArray) (s0_1:Int) (r1:List (S52)) (r2:List (S28)) (r3:Bool) (r4:ByteArray) (r5:Int) (w0 w:World) (hI:IsS54 w0 w g s0_0 s0_1) (hB:Below w0.heap.size w0 w) (h:rM.f m_ s0_0 s0_1=some (r1,r2,r3,r4,r5)),
 Calls Try.prog 33 #[.pointer (some ⟨g,0,none⟩)] w fun e w' => ∃ v0_ v1_:Value,e = .returned (.tuple #[v0_,v1_, .bool r3])∧Kd.R k52 52 w' w.heap.size (fun _=>True) v0_ r1∧Kd.R k28 28 w' w.heap.size (fun k_=>some k_≠(v0_:Value).ownBlock) v1_ r2∧IsS54 w0 w' g r4 r5∧Below w0.heap.size w0 w'∧KeepBut w w' g none)) (ih_34 : ∀ m_:Nat,m_<k→(∀ (g:Nat) (s0_0:ByteArray) (s0_1:Int) (r1:List (S28)) (r2:Bool) (r3:ByteArray) (r4:Int) (w0 w:World) (hI:IsS54 w0 w g s0_0 s0_1) (hB:Below w0.heap.size w0 w) (h:rE.f m_ s0_0 s0_1=some (r1,r2,r3,r4)),
 Calls Try.prog 34 #[.pointer (some ⟨g,0,none⟩)] w fun e w' => ∃ v0_:Value,e = .returned (.tuple #[v0_, .bool r2])∧Kd.R k28 28 w' w.heap.size (fun _=>True) v0_ r1∧IsS54 w0 w' g r3 r4∧Below w0.heap.size w0 w'∧KeepBut w w' g none)) : ∀ (g:Nat) (s0_0:ByteArray) (s0_1:Int) (r1:List (S28)) (r2:Bool) (r3:ByteArray) (r4:Int) (w0 w:World) (hI:IsS54 w0 w g s0_0 s0_1) (hB:Below w0.heap.size w0 w) (h:rE.f k s0_0 s0_1=some (r1,r2,r3,r4)),
 Calls Try.prog 34 #[.pointer (some ⟨g,0,none⟩)] w fun e w' => ∃ v0_:Value,e = .returned (.tuple #[v0_, .bool r2])∧Kd.R k28 28 w' w.heap.size (fun _=>True) v0_ r1∧IsS54 w0 w' g r3 r4∧Below w0.heap.size w0 w'∧KeepBut w w' g none:=by
 intro g s0_0 s0_1 r1 r2 r3 r4 w0 w hI hB h
 cases k with
 | zero=>exact absurd h (by simp [rE.f])
 | succ k =>
 simp only [rE.f] at h
 have hu28:=Try.underlying28
 have HI0:=Ak hI
 have HK:=Ak (KeepBut.refl w g none)
 have HL:=Ak hB.size
 clear hI
 have HW0:=Ak hB.size
 have HB:=Ak hB
 clear hB
 have H:((rB.f k s0_0 (wrap64 (s0_1+1))).bind fun btz0=>((rT.f btz0.1 btz0.2 93).bind fun btz1=>(if btz1.1=true then (some (([]:List (S28)),true,btz1.2.1,btz1.2.2)) else (rE.l0 k ([]:List (S28)) btz1.2.1 btz1.2.2))))=some (r1,r2,r3,r4):=h
 clear h
 replace H:=Option.bind_eq_some_iff.mp H
 obtain ⟨⟨tz0,tz2⟩,A20,H⟩:=H
 replace H:((rT.f tz0 tz2 93).bind fun btz1=>(if btz1.1=true then (some (([]:List (S28)),true,btz1.2.1,btz1.2.2)) else (rE.l0 k ([]:List (S28)) btz1.2.1 btz1.2.2)))=some (r1,r2,r3,r4):=H
 have A2:=Ak A20
 clear A20
 replace H:=Option.bind_eq_some_iff.mp H
 obtain ⟨⟨tz1,tz3,tz4⟩,A30,H⟩:=H
 replace H:(if tz1=true then (some (([]:List (S28)),true,tz3,tz4)) else (rE.l0 k ([]:List (S28)) tz3 tz4))=some (r1,r2,r3,r4):=H
 have A3:=Ak A30
 clear A30
 by_cases c4:tz1=true
 ·
  subst c4
  have H1:(some (([]:List (S28)),true,tz3,tz4))=some (r1,r2,r3,r4):=by rw [if_pos rfl] at H;exact H
  clear H
  have H:=H1
  clear H1
  simp only [Option.some.injEq,Prod.mk.injEq] at H
  obtain ⟨rfl,rfl,rfl,rfl⟩:=H
  obtain ⟨HGz5,hgz5⟩:=HI0.out
  have hcz5_0:=cellS54_0 HGz5
  have hcz5_1:=cellS54_1 HGz5
  have hfz5_0:=blk_frozen HGz5 0
  have hfz5_1:=blk_frozen HGz5 1
  clear HGz5 hgz5
  go_enter Try.func34,Try.ntmps34
  go_wp2_with (first|((with_reducible refine gate_callee (f:=19) rfl ?_);refine goesL_ (some 15) rfl rfl Try.func19 (by kernel_rfl) rfl #[.pointer (some ⟨g,0,none⟩)] rfl oM ?_;(with_reducible refine (rB.calls k g s0_0 (wrap64 (s0_1+1)) tz0 tz2 w0 _ ?side1 ?side2 A2.out).mono ?_);(case side1=>exact oI);(case side2=>exact oG);rintro e w6 ⟨rfl,hi,hb,hk⟩;refine ⟨_,rfl,?_⟩;have _:=Ak (KeepBut.trans oK hk (.inl rfl));have _:=Ak (hb);have _:=Ak (hi);clear HK HB HI0;rename_i HK HB HI0;(try clear hb);(try clear hb2);(try clear hk);(try clear hi))|((with_reducible refine gate_callee (f:=43) rfl ?_);refine goesL_ (some 17) rfl rfl Try.func43 (by kernel_rfl) rfl #[.pointer (some ⟨g,0,none⟩), .int .u8 93] rfl oM ?_;(with_reducible refine (rT.calls g tz0 tz2 93 true tz3 tz4 w0 _ ?side1 ?side2 A3.out).mono ?_);(case side1=>exact oI);(case side2=>exact oG);rintro e w7 ⟨rfl,hi,hb,hk⟩;refine ⟨_,rfl,?_⟩;have _:=Ak (KeepBut.trans oK hk (.inl rfl));have _:=Ak (hb);have _:=Ak (hi);clear HK HB HI0;rename_i HK HB HI0;(try clear hb);(try clear hb2);(try clear hk);(try clear hi)))
  go_ret2
  exact ⟨_,oE,by first|exact Kd.R_nil _ _ _ _ _|exact Kd.N_nil _ _ _ _ _|exact Kd.V_nil _ _ _ _ _|exact Kd.Q_nil _ _ _ _ _|exact Kd.S_nil _ _ _ _ _,oI,oG,oK⟩
 replace c4:=Bool.eq_false_iff.mpr c4
 subst c4
 have H1:(rE.l0 k ([]:List (S28)) tz3 tz4)=some (r1,r2,r3,r4):=by rw [if_neg (show ¬ (false=true) by decide)] at H;exact H
 clear H
 have H:=H1
 clear H1
 have H':=Ak H
 clear H
 obtain ⟨HGz8,hgz8⟩:=HI0.out
 have hcz8_0:=cellS54_0 HGz8
 have hcz8_1:=cellS54_1 HGz8
 have hfz8_0:=blk_frozen HGz8 0
 have hfz8_1:=blk_frozen HGz8 1
 clear HGz8 hgz8
 go_enter Try.func34,Try.ntmps34
 go_wp2_with (first|((with_reducible refine gate_callee (f:=19) rfl ?_);refine goesL_ (some 15) rfl rfl Try.func19 (by kernel_rfl) rfl #[.pointer (some ⟨g,0,none⟩)] rfl oM ?_;(with_reducible refine (rB.calls k g s0_0 (wrap64 (s0_1+1)) tz0 tz2 w0 _ ?side1 ?side2 A2.out).mono ?_);(case side1=>exact oI);(case side2=>exact oG);rintro e w9 ⟨rfl,hi,hb,hk⟩;refine ⟨_,rfl,?_⟩;have _:=Ak (KeepBut.trans oK hk (.inl rfl));have _:=Ak (hb);have _:=Ak (hi);clear HK HB HI0;rename_i HK HB HI0;(try clear hb);(try clear hb2);(try clear hk);(try clear hi))|((with_reducible refine gate_callee (f:=43) rfl ?_);refine goesL_ (some 17) rfl rfl Try.func43 (by kernel_rfl) rfl #[.pointer (some ⟨g,0,none⟩), .int .u8 93] rfl oM ?_;(with_reducible refine (rT.calls g tz0 tz2 93 false tz3 tz4 w0 _ ?side1 ?side2 A3.out).mono ?_);(case side1=>exact oI);(case side2=>exact oG);rintro e w10 ⟨rfl,hi,hb,hk⟩;refine ⟨_,rfl,?_⟩;have _:=Ak (KeepBut.trans oK hk (.inl rfl));have _:=Ak (hb);have _:=Ak (hi);clear HK HB HI0;rename_i HK HB HI0;(try clear hb);(try clear hb2);(try clear hk);(try clear hi)))
 (try simp only [Act.put,List.setIfInBounds_toArray,List.set_cons_zero,List.set_cons_succ])
 go_loopg [4] k (fun kq v4 w' => ∃ (x4_1:List (S28)) (x1000_1:ByteArray) (x1001_1:Int),Aside0 (rE.l0 kq x4_1 x1000_1 x1001_1=some (r1,r2,r3,r4))∧Aside0 (kq≤k)∧Aside0 (Kd.R k28 28 w' w.heap.size (fun _=>True) v4 x4_1)∧Aside0 (IsS54 w0 w' g x1000_1 x1001_1)∧Aside0 (KeepBut w w' g none)∧Aside0 (Below w0.heap.size w0 w'))
 case atStart=>exact ⟨(([]:List (S28))),(tz3),(tz4),H',⟨Nat.le_refl _⟩,⟨by first|exact Kd.R_nil _ _ _ _ _|exact Kd.N_nil _ _ _ _ _|exact Kd.V_nil _ _ _ _ _|exact Kd.Q_nil _ _ _ _ _|exact Kd.S_nil _ _ _ _ _⟩,⟨oI⟩,⟨oK⟩,⟨oG⟩⟩
 case round =>
 clear H'
 clear hcz8_0 hcz8_1 hfz8_0 hfz8_1
 obtain ⟨x4_1,x1000_1,x1001_1,HA,HK1,HO_4,HI0,HK,HB⟩:=hrel
 cases gk with
 | zero=>exact absurd HA.out (by simp [rE.l0])
 | succ k1 =>
  have H:=HA.out
  clear HA
  simp only [rE.l0] at H
  replace H:=Option.bind_eq_some_iff.mp H
  obtain ⟨⟨tz5,tz6,tz7,tz8,tz9,tz10,tz11,tz12⟩,A110,H⟩:=H
  replace H:(if tz10=true then (if x4_1.length<1954687338268 then ((some (x4_1++[(⟨tz5,tz6,tz7,tz8,tz9⟩:S28)]:List (S28))).bind fun yz13=>((rB.f k1 tz11 tz12).bind fun btz14=>((rT.f btz14.1 btz14.2 93).bind fun btz15=>(if btz15.1=true then (some (yz13,true,btz15.2.1,btz15.2.2)) else ((rT.f btz15.2.1 btz15.2.2 44).bind fun btz16=>(if btz16.1=true then ((rB.f k1 btz16.2.1 btz16.2.2).bind fun btz17=>(rE.l0 k1 yz13 btz17.1 btz17.2)) else (some (([]:List (S28)),false,btz16.2.1,btz16.2.2)))))))) else (none)) else (some (([]:List (S28)),false,tz11,tz12)))=some (r1,r2,r3,r4):=H
  have A11:=Ak A110
  clear A110
  by_cases c12:tz10=true
  rotate_left
  ·
   replace c12:=Bool.eq_false_iff.mpr c12
   subst c12
   have H1:(some (([]:List (S28)),false,tz11,tz12))=some (r1,r2,r3,r4):=by rw [if_neg (show ¬ (false=true) by decide)] at H;exact H
   clear H
   have H:=H1
   clear H1
   simp only [Option.some.injEq,Prod.mk.injEq] at H
   obtain ⟨rfl,rfl,rfl,rfl⟩:=H
   go_wp2_with (first|((with_reducible refine gate_callee (f:=20) rfl ?_);refine goesL_ (some 20) rfl rfl Try.func20 (by kernel_rfl) rfl #[.pointer (some ⟨g,0,none⟩)] rfl oM ?_;(with_reducible refine (ih_20 k1 (by have:=HK1.out;omega) g x1000_1 x1001_1 tz5 tz6 tz7 tz8 tz9 false tz11 tz12 w0 _ ?side1 ?side2 A11.out).mono ?_);(case side1=>exact oI);(case side2=>exact oG);rintro e w56 ⟨vz21,vz22,rfl,ho0,ho1,hi,hb,hk⟩;refine ⟨_,rfl,?_⟩;have _:=Ak (Kd.R_mono (Kd.R_told (Kd.R_told (Kd.R_oldK (IsS54.apart (show IsS54 w0 _ g x1000_1 x1001_1 from oI) (oR HO_4.out) (by decide)) hk) (Kd.R_base ho0)) (Kd.R_base ho1)) (fun _ h_=>h_.1));have _:=Ak (Kd.R_lower ho0 (keep_size (w:=w) (g:=g) (row:=none) oK));have _:=Ak (Kd.R_lower (Kd.R_new' ho1 (Kd.R_lt (oR HO_4.out))) (keep_size (w:=w) (g:=g) (row:=none) oK));have _:=Ak (KeepBut.trans oK hk (.inl rfl));have _:=Ak (hb);have _:=Ak (hi);clear HO_4 HK HB HI0;rename_i HO_4 HOz23 HOz24 HK HB HI0;(try clear hb);(try clear hb2);(try clear hk);(try clear hi);(try clear ho0);(try clear ho1))|((with_reducible refine gate_dst (N:=5) rfl ?_);refine box_event ?hg (N:=5) ?hd (cs := #[.int .i64 0, .int .i64 0, .int .i64 0, .slice none 0 0, .slice none 0 0]) (t:=28) ?hr ?_;(case hd=>rfl);(case hg=>rfl);(case hr=>first|(go_simp;done)|(go_simp;rfl));intro gbz25 hg w57 hbox hb;have _:=Ak (Kd.R_below (Kd.R_elderB (oR HO_4.out) gbz25 (Nat.le_of_eq hg.symm)) hb);have _:=Ak (Kd.R_below (oR HOz23.out) hb);have _:=Ak (Kd.R_below (Kd.R_elderB (oR HOz24.out) gbz25 (Nat.le_of_eq hg.symm)) hb);have _:=Ak (IsS54.below oI hb);have _:=Ak (KeepBut.trans oK (KeepBut.of_below hb g none) (.inl rfl));have _:=Ak (below_step oG hb);have _:=Ak (hbox);have _:=Ak ((by rw [hg];exact (keep_size (w:=w) (g:=g) (row:=none) oK):w.heap.size≤gbz25));have _:=Ak ((Nat.le_trans HW0.out (by rw [hg];exact (keep_size (w:=w) (g:=g) (row:=none) oK):w.heap.size≤gbz25):w0.heap.size≤gbz25));have _:=Ak ((by rw [hg];exact Nat.ne_of_lt (IsS54.lt (show IsS54 w0 _ g tz11 tz12 from oI)):g≠gbz25));have _:=Ak ((by rw [hg];exact Nat.ne_of_gt (IsS54.lt (show IsS54 w0 _ g tz11 tz12 from oI)):gbz25≠g));clear HO_4 HOz23 HOz24 HI0 HK HB;rename_i HO_4 HOz23 HOz24 HI0 HK HB BKz25 GWz25 GEz25 NB0_z25 NBz25_0;clear hb hbox hg;have hnb58:=NBz25_0.out;have hnc58:=NB0_z25.out;have hcz59_0:w57.cell? ⟨gbz25,0,none⟩=some (.int .i64 0):=(blk_cell BKz25.out 0).trans rfl;have hcz59_1:w57.cell? ⟨gbz25,1,none⟩=some (.int .i64 0):=(blk_cell BKz25.out 1).trans rfl;have hcz59_2:w57.cell? ⟨gbz25,2,none⟩=some (.int .i64 0):=(blk_cell BKz25.out 2).trans rfl;have hcz59_3:w57.cell? ⟨gbz25,3,none⟩=some (.slice none 0 0):=(blk_cell BKz25.out 3).trans rfl;have hcz59_4:w57.cell? ⟨gbz25,4,none⟩=some (.slice none 0 0):=(blk_cell BKz25.out 4).trans rfl;have hfz59_0:=blk_frozen BKz25.out 0;have hfz59_1:=blk_frozen BKz25.out 1;have hfz59_2:=blk_frozen BKz25.out 2;have hfz59_3:=blk_frozen BKz25.out 3;have hfz59_4:=blk_frozen BKz25.out 4;obtain ⟨Ao60,co60,eo60⟩:=Kd.R_slice HOz23.out;subst eo60;obtain ⟨Ao61,co61,eo61⟩:=Kd.R_slice HOz24.out;subst eo61))
   go_ret2
   exact ⟨_,oE,by first|exact Kd.R_nil _ _ _ _ _|exact Kd.N_nil _ _ _ _ _|exact Kd.V_nil _ _ _ _ _|exact Kd.Q_nil _ _ _ _ _|exact Kd.S_nil _ _ _ _ _,oI1 NB0_z25.out,oG1 GEz25.out,oK1 GWz25.out⟩
  subst c12
  have H1:(if x4_1.length<1954687338268 then ((some (x4_1++[(⟨tz5,tz6,tz7,tz8,tz9⟩:S28)]:List (S28))).bind fun yz13=>((rB.f k1 tz11 tz12).bind fun btz14=>((rT.f btz14.1 btz14.2 93).bind fun btz15=>(if btz15.1=true then (some (yz13,true,btz15.2.1,btz15.2.2)) else ((rT.f btz15.2.1 btz15.2.2 44).bind fun btz16=>(if btz16.1=true then ((rB.f k1 btz16.2.1 btz16.2.2).bind fun btz17=>(rE.l0 k1 yz13 btz17.1 btz17.2)) else (some (([]:List (S28)),false,btz16.2.1,btz16.2.2)))))))) else (none))=some (r1,r2,r3,r4):=by rw [if_pos rfl] at H;exact H
  clear H
  have H:=H1
  clear H1
  by_cases c13:x4_1.length<1954687338268
  ·
   rw [if_pos c13] at H
   have LMc13:=Ak c13
   clear c13
   obtain ⟨yz13,hyz13⟩ : ∃ y_:List (S28),y_=(x4_1++[(⟨tz5,tz6,tz7,tz8,tz9⟩:S28)]):=⟨_,rfl⟩
   replace H:((rB.f k1 tz11 tz12).bind fun btz14=>((rT.f btz14.1 btz14.2 93).bind fun btz15=>(if btz15.1=true then (some (yz13,true,btz15.2.1,btz15.2.2)) else ((rT.f btz15.2.1 btz15.2.2 44).bind fun btz16=>(if btz16.1=true then ((rB.f k1 btz16.2.1 btz16.2.2).bind fun btz17=>(rE.l0 k1 yz13 btz17.1 btz17.2)) else (some (([]:List (S28)),false,btz16.2.1,btz16.2.2)))))))=some (r1,r2,r3,r4):=by first|(rw [hyz13];with_reducible exact H)|(have H2_:=(Option.bind_some _ _).symm.trans H;rw [hyz13];with_reducible exact H2_)|(have H2_:=(Option.bind_some _ _).symm.trans H;with_reducible exact H2_)|with_reducible exact H|(rw [hyz13];exact H)|exact H
   have Nyz13:=Ak hyz13
   clear hyz13
   replace H:=Option.bind_eq_some_iff.mp H
   obtain ⟨⟨tz14,tz18⟩,A140,H⟩:=H
   replace H:((rT.f tz14 tz18 93).bind fun btz15=>(if btz15.1=true then (some (yz13,true,btz15.2.1,btz15.2.2)) else ((rT.f btz15.2.1 btz15.2.2 44).bind fun btz16=>(if btz16.1=true then ((rB.f k1 btz16.2.1 btz16.2.2).bind fun btz17=>(rE.l0 k1 yz13 btz17.1 btz17.2)) else (some (([]:List (S28)),false,btz16.2.1,btz16.2.2))))))=some (r1,r2,r3,r4):=H
   have A14:=Ak A140
   clear A140
   replace H:=Option.bind_eq_some_iff.mp H
   obtain ⟨⟨tz15,tz19,tz20⟩,A150,H⟩:=H
   replace H:(if tz15=true then (some (yz13,true,tz19,tz20)) else ((rT.f tz19 tz20 44).bind fun btz16=>(if btz16.1=true then ((rB.f k1 btz16.2.1 btz16.2.2).bind fun btz17=>(rE.l0 k1 yz13 btz17.1 btz17.2)) else (some (([]:List (S28)),false,btz16.2.1,btz16.2.2)))))=some (r1,r2,r3,r4):=H
   have A15:=Ak A150
   clear A150
   by_cases c16:tz15=true
   ·
    subst c16
    have H1:(some (yz13,true,tz19,tz20))=some (r1,r2,r3,r4):=by rw [if_pos rfl] at H;exact H
    clear H
    have H:=H1
    clear H1
    simp only [Option.some.injEq,Prod.mk.injEq] at H
    obtain ⟨rfl,rfl,rfl,rfl⟩:=H
    go_wp2_with (first|((with_reducible refine gate_callee (f:=20) rfl ?_);refine goesL_ (some 20) rfl rfl Try.func20 (by kernel_rfl) rfl #[.pointer (some ⟨g,0,none⟩)] rfl oM ?_;(with_reducible refine (ih_20 k1 (by have:=HK1.out;omega) g x1000_1 x1001_1 tz5 tz6 tz7 tz8 tz9 true tz11 tz12 w0 _ ?side1 ?side2 A11.out).mono ?_);(case side1=>exact oI);(case side2=>exact oG);rintro e w17 ⟨vz21,vz22,rfl,ho0,ho1,hi,hb,hk⟩;refine ⟨_,rfl,?_⟩;have _:=Ak (Kd.R_mono (Kd.R_told (Kd.R_told (Kd.R_oldK (IsS54.apart (show IsS54 w0 _ g x1000_1 x1001_1 from oI) (oR HO_4.out) (by decide)) hk) (Kd.R_base ho0)) (Kd.R_base ho1)) (fun _ h_=>h_.1));have _:=Ak (Kd.R_lower ho0 (keep_size (w:=w) (g:=g) (row:=none) oK));have _:=Ak (Kd.R_lower (Kd.R_new' ho1 (Kd.R_lt (oR HO_4.out))) (keep_size (w:=w) (g:=g) (row:=none) oK));have _:=Ak (KeepBut.trans oK hk (.inl rfl));have _:=Ak (hb);have _:=Ak (hi);clear HO_4 HK HB HI0;rename_i HO_4 HOz23 HOz24 HK HB HI0;(try clear hb);(try clear hb2);(try clear hk);(try clear hi);(try clear ho0);(try clear ho1))|((with_reducible refine gate_dst (N:=5) rfl ?_);refine box_event ?hg (N:=5) ?hd (cs := #[.int .i64 0, .int .i64 0, .int .i64 0, .slice none 0 0, .slice none 0 0]) (t:=28) ?hr ?_;(case hd=>rfl);(case hg=>rfl);(case hr=>first|(go_simp;done)|(go_simp;rfl));intro gbz25 hg w18 hbox hb;have _:=Ak (Kd.R_below (Kd.R_elderB (oR HO_4.out) gbz25 (Nat.le_of_eq hg.symm)) hb);have _:=Ak (Kd.R_below (oR HOz23.out) hb);have _:=Ak (Kd.R_below (Kd.R_elderB (oR HOz24.out) gbz25 (Nat.le_of_eq hg.symm)) hb);have _:=Ak (IsS54.below oI hb);have _:=Ak (KeepBut.trans oK (KeepBut.of_below hb g none) (.inl rfl));have _:=Ak (below_step oG hb);have _:=Ak (hbox);have _:=Ak ((by rw [hg];exact (keep_size (w:=w) (g:=g) (row:=none) oK):w.heap.size≤gbz25));have _:=Ak ((Nat.le_trans HW0.out (by rw [hg];exact (keep_size (w:=w) (g:=g) (row:=none) oK):w.heap.size≤gbz25):w0.heap.size≤gbz25));have _:=Ak ((by rw [hg];exact Nat.ne_of_lt (IsS54.lt (show IsS54 w0 _ g tz11 tz12 from oI)):g≠gbz25));have _:=Ak ((by rw [hg];exact Nat.ne_of_gt (IsS54.lt (show IsS54 w0 _ g tz11 tz12 from oI)):gbz25≠g));clear HO_4 HOz23 HOz24 HI0 HK HB;rename_i HO_4 HOz23 HOz24 HI0 HK HB BKz25 GWz25 GEz25 NB0_z25 NBz25_0;clear hb hbox hg;have hnb19:=NBz25_0.out;have hnc19:=NB0_z25.out;have hcz20_0:w18.cell? ⟨gbz25,0,none⟩=some (.int .i64 0):=(blk_cell BKz25.out 0).trans rfl;have hcz20_1:w18.cell? ⟨gbz25,1,none⟩=some (.int .i64 0):=(blk_cell BKz25.out 1).trans rfl;have hcz20_2:w18.cell? ⟨gbz25,2,none⟩=some (.int .i64 0):=(blk_cell BKz25.out 2).trans rfl;have hcz20_3:w18.cell? ⟨gbz25,3,none⟩=some (.slice none 0 0):=(blk_cell BKz25.out 3).trans rfl;have hcz20_4:w18.cell? ⟨gbz25,4,none⟩=some (.slice none 0 0):=(blk_cell BKz25.out 4).trans rfl;have hfz20_0:=blk_frozen BKz25.out 0;have hfz20_1:=blk_frozen BKz25.out 1;have hfz20_2:=blk_frozen BKz25.out 2;have hfz20_3:=blk_frozen BKz25.out 3;have hfz20_4:=blk_frozen BKz25.out 4;obtain ⟨Ao21,co21,eo21⟩:=Kd.R_slice HOz23.out;subst eo21;obtain ⟨Ao22,co22,eo22⟩:=Kd.R_slice HOz24.out;subst eo22)|((with_reducible refine gate_store (t:=28) (p:=5) rfl ?_);refine store_event (t:=28) (p:=5) (v:=?vo_w23) (w1:=(((((w18.setCell ⟨gbz25,0,none⟩ (.int .i64 tz5)).setCell ⟨gbz25,1,none⟩ (.int .i64 tz6)).setCell ⟨gbz25,2,none⟩ (.int .i64 tz7)).setCell ⟨gbz25,3,none⟩ (.slice Ao21 tz8.length co21)).setCell ⟨gbz25,4,none⟩ (.slice Ao22 tz9.length co22))) ?hg ?ho ?hn ?hr ?_;(case ho=>rfl);(case hg=>rfl);(case hn=>rfl);(case hr=>first|(go_simp;done)|(go_simp;rfl));intro w23 hw;have n0_:Aside0 (Kd.R k28 28 w23 w.heap.size (fun k_=>some k_≠(.slice Ao21 tz8.length co21:Value).ownBlock∧some k_≠(.slice Ao22 tz9.length co22:Value).ownBlock∧k_≠gbz25) u4 x4_1):=⟨(by rw [hw];exact (by (with_reducible repeat (first|apply Kd.R_alloc|apply Kd.R_drewN|apply Kd.R_drew));exact Kd.R_mono (Kd.R_far (p:=⟨gbz25,4,none⟩) (Kd.R_far (p:=⟨gbz25,3,none⟩) (Kd.R_far (p:=⟨gbz25,2,none⟩) (Kd.R_far (p:=⟨gbz25,1,none⟩) (Kd.R_far (p:=⟨gbz25,0,none⟩) (Kd.R_mono HO_4.out (fun k_ hk=>(⟨hk,hk.2⟩:_∧k_≠gbz25))) (fun _ hk=>hk.2) (.int .i64 tz5)) (fun _ hk=>hk.2) (.int .i64 tz6)) (fun _ hk=>hk.2) (.int .i64 tz7)) (fun _ hk=>hk.2) (.slice Ao21 tz8.length co21)) (fun _ hk=>hk.2) (.slice Ao22 tz9.length co22)) (fun _ hk=>⟨hk.1.1.1.2,⟨hk.1.1.2,hk.1.2⟩⟩)))⟩;have n1_:Aside0 (Kd.R k52 52 w23 w.heap.size (fun _=>True) (.slice Ao21 tz8.length co21) tz8):=⟨(by rw [hw];exact (by (with_reducible repeat (first|apply Kd.R_alloc|apply Kd.R_drewN|apply Kd.R_drew));exact Kd.R_mono (Kd.R_far (p:=⟨gbz25,4,none⟩) (Kd.R_far (p:=⟨gbz25,3,none⟩) (Kd.R_far (p:=⟨gbz25,2,none⟩) (Kd.R_far (p:=⟨gbz25,1,none⟩) (Kd.R_far (p:=⟨gbz25,0,none⟩) (Kd.R_types HOz23.out BKz25.out (by decide)) (fun _ hk=>hk.2) (.int .i64 tz5)) (fun _ hk=>hk.2) (.int .i64 tz6)) (fun _ hk=>hk.2) (.int .i64 tz7)) (fun _ hk=>hk.2) (.slice Ao21 tz8.length co21)) (fun _ hk=>hk.2) (.slice Ao22 tz9.length co22)) (fun _ hk=>trivial)))⟩;have n2_:Aside0 (Kd.R k28 28 w23 w.heap.size (fun k_=>some k_≠(u4:Value).ownBlock∧some k_≠(.slice Ao21 tz8.length co21:Value).ownBlock∧k_≠gbz25) (.slice Ao22 tz9.length co22) tz9):=⟨(by rw [hw];exact (by (with_reducible repeat (first|apply Kd.R_alloc|apply Kd.R_drewN|apply Kd.R_drew));exact Kd.R_mono (Kd.R_far (p:=⟨gbz25,4,none⟩) (Kd.R_far (p:=⟨gbz25,3,none⟩) (Kd.R_far (p:=⟨gbz25,2,none⟩) (Kd.R_far (p:=⟨gbz25,1,none⟩) (Kd.R_far (p:=⟨gbz25,0,none⟩) (Kd.R_mono HOz24.out (fun k_ hk=>(⟨hk,hk.2⟩:_∧k_≠gbz25))) (fun _ hk=>hk.2) (.int .i64 tz5)) (fun _ hk=>hk.2) (.int .i64 tz6)) (fun _ hk=>hk.2) (.int .i64 tz7)) (fun _ hk=>hk.2) (.slice Ao21 tz8.length co21)) (fun _ hk=>hk.2) (.slice Ao22 tz9.length co22)) (fun _ hk=>⟨hk.1.1.2,⟨hk.1.1.1,hk.1.2⟩⟩)))⟩;have n3_:Aside0 (w23.heap[gbz25]? = some (.cells #[.int .i64 tz5, .int .i64 tz6, .int .i64 tz7, .slice Ao21 tz8.length co21, .slice Ao22 tz9.length co22] 28 (0,0))):=⟨(by rw [hw];exact (by (with_reducible repeat (first|refine blk_drewN ?_ _|refine blk_drew ?_|refine blk_alloc ?_ _));refine blk_put (cs := #[.int .i64 tz5, .int .i64 tz6, .int .i64 tz7, .slice Ao21 tz8.length co21, .slice none 0 0]) ?_ 4 _ rfl;(with_reducible repeat (first|refine blk_drewN ?_ _|refine blk_drew ?_|refine blk_alloc ?_ _));refine blk_put (cs := #[.int .i64 tz5, .int .i64 tz6, .int .i64 tz7, .slice none 0 0, .slice none 0 0]) ?_ 3 _ rfl;(with_reducible repeat (first|refine blk_drewN ?_ _|refine blk_drew ?_|refine blk_alloc ?_ _));refine blk_put (cs := #[.int .i64 tz5, .int .i64 tz6, .int .i64 0, .slice none 0 0, .slice none 0 0]) ?_ 2 _ rfl;(with_reducible repeat (first|refine blk_drewN ?_ _|refine blk_drew ?_|refine blk_alloc ?_ _));refine blk_put (cs := #[.int .i64 tz5, .int .i64 0, .int .i64 0, .slice none 0 0, .slice none 0 0]) ?_ 1 _ rfl;(with_reducible repeat (first|refine blk_drewN ?_ _|refine blk_drew ?_|refine blk_alloc ?_ _));refine blk_put (cs := #[.int .i64 0, .int .i64 0, .int .i64 0, .slice none 0 0, .slice none 0 0]) ?_ 0 _ rfl;(with_reducible repeat (first|refine blk_drewN ?_ _|refine blk_drew ?_|refine blk_alloc ?_ _));exact BKz25.out))⟩;have n4_:Aside0 (IsS54 w0 w23 g tz11 tz12):=⟨(by rw [hw];exact (oI1 NB0_z25.out))⟩;have n5_:Aside0 (KeepBut w w23 g none):=⟨(by rw [hw];exact (oK1 GWz25.out))⟩;have n6_:Aside0 (Below w0.heap.size w0 w23):=⟨(by rw [hw];exact (oG1 GEz25.out))⟩;clear hw HO_4 HOz23 HOz24 BKz25 HI0 HK HB;have HO_4:=n0_;have HOz23:=n1_;have HOz24:=n2_;have BKz25:=n3_;have HI0:=n4_;have HK:=n5_;have HB:=n6_;clear n0_ n1_ n2_ n3_ n4_ n5_ n6_;have hcz24_0:w23.cell? ⟨gbz25,0,none⟩=some (.int .i64 tz5):=(blk_cell BKz25.out 0).trans rfl;have hcz24_1:w23.cell? ⟨gbz25,1,none⟩=some (.int .i64 tz6):=(blk_cell BKz25.out 1).trans rfl;have hcz24_2:w23.cell? ⟨gbz25,2,none⟩=some (.int .i64 tz7):=(blk_cell BKz25.out 2).trans rfl;have hcz24_3:w23.cell? ⟨gbz25,3,none⟩=some (.slice Ao21 tz8.length co21):=(blk_cell BKz25.out 3).trans rfl;have hcz24_4:w23.cell? ⟨gbz25,4,none⟩=some (.slice Ao22 tz9.length co22):=(blk_cell BKz25.out 4).trans rfl;have hfz24_0:=blk_frozen BKz25.out 0;have hfz24_1:=blk_frozen BKz25.out 1;have hfz24_2:=blk_frozen BKz25.out 2;have hfz24_3:=blk_frozen BKz25.out 3;have hfz24_4:=blk_frozen BKz25.out 4)|((with_reducible refine gate_builtin (b := .append) (xs := #[.tmp 25, .tmp 27]) rfl ?_);at_builtin;refine Kd.R_append k28 w.heap.size rfl (.tmp 25) (.tmp 27) 26 28 (.agg #[(.int .i64 0),(.int .i64 0),(.int .i64 0),(.slice none 0 0),(.slice none 0 0)]) 72 rfl Try.underlying26 info28 rfl (by decide) (by omega) u4 x4_1 (⟨tz5,tz6,tz7,tz8,tz9⟩:S28) [.int .i64 tz5, .int .i64 tz6, .int .i64 tz7, .slice Ao21 tz8.length co21, .slice Ao22 tz9.length co22] (fun k_=>k_≠gbz25) (fun k_=>((fun k_=>k_≠gbz25)) k_∧some k_≠(u4:Value).ownBlock) rfl rfl ?aP (fun _ hk=>hk) ?aF ?aO (Below.refl _ _) ?aS ?aL ?_;(case aP=>exact k28_mkM _ _ _ (⟨tz5,tz6,tz7,tz8,tz9⟩:S28) (Kd.R_mono (Kd.R_types (Kd.R_apart' (HOz23.out) (Kd.R_typed HO_4.out) (by decide)) BKz25.out (by decide)) (fun k_ hk=>⟨hk.2,hk.1.2⟩)) (Kd.R_mono (HOz24.out) (fun k_ hk=>⟨hk.2.2,hk.1⟩)));(case aF=>exact (fun k_ hk=>Kd.freshB (g:=gbz25) (o := .cells #[.int .i64 tz5, .int .i64 tz6, .int .i64 tz7, .slice Ao21 tz8.length co21, .slice Ao22 tz9.length co22] 28 (0,0)) (oL BKz25.out) k_ hk));(case aO=>exact (by (with_reducible repeat (first|apply Kd.R_alloc|apply Kd.R_drewN|apply Kd.R_drew));exact Kd.R_mono HO_4.out (fun _ hk=>hk.2.2)));(case aS=>exact (keep_size (w:=w) (g:=g) (row:=none) (oK1 GWz25.out)));(case aL=>have:=LMc13.out;omega);intro vz26 w25 ho hb hg hat;rw [← Nyz13.out] at ho;have _:=Ak (IsS54.grown (oI1 NB0_z25.out) hg (IsS54.own_ne HI0.out HO_4.out (by decide)));have _:=Ak (blk_grown (g:=gbz25) (o := .cells #[.int .i64 tz5, .int .i64 tz6, .int .i64 tz7, .slice Ao21 tz8.length co21, .slice Ao22 tz9.length co22] 28 (0,0)) (oL BKz25.out) hg (Kd.R_away HO_4.out (fun _ hk=>hk.2.2)));have _:=Ak (below_weaken (oG1 GEz25.out) HL.out hb);have _:=Ak (KeepBut.trans (oK1 GWz25.out) (KeepBut.of_grown hg g) (Kd.R_base2 HO_4.out));have _:=Ak (ho);clear HI0 BKz25 HB HK HO_4 HOz23 HOz24;rename_i HI0 BKz25 HB HK HOz27;clear ho hb hg hat)|((with_reducible refine gate_callee (f:=19) rfl ?_);refine goesL_ (some 30) rfl rfl Try.func19 (by kernel_rfl) rfl #[.pointer (some ⟨g,0,none⟩)] rfl oM ?_;(with_reducible refine (rB.calls k1 g tz11 tz12 tz14 tz18 w0 _ ?side1 ?side2 A14.out).mono ?_);(case side1=>exact oI1 NB0_z25.out);(case side2=>exact oG1 GEz25.out);rintro e w26 ⟨rfl,hi,hb,hk⟩;refine ⟨_,rfl,?_⟩;have _:=Ak (KeepBut.blk hk (g':=gbz25) (o := .cells #[.int .i64 tz5, .int .i64 tz6, .int .i64 tz7, .slice Ao21 tz8.length co21, .slice Ao22 tz9.length co22] 28 (0,0)) (oL BKz25.out) NBz25_0.out (by simp));have _:=Ak (Kd.R_mono (Kd.R_keep (IsS54.apart (show IsS54 w0 _ g tz11 tz12 from oI1 NB0_z25.out) (oR HOz27.out) (by decide)) hk (fun _ h=>h.2)) (fun _ h=>h.1));have _:=Ak (KeepBut.trans (oK1 GWz25.out) hk (.inl rfl));have _:=Ak (hb);have _:=Ak (hi);clear BKz25 HOz27 HK HB HI0;rename_i BKz25 HOz27 HK HB HI0;(try clear hb);(try clear hb2);(try clear hk);(try clear hi))|((with_reducible refine gate_callee (f:=43) rfl ?_);refine goesL_ (some 32) rfl rfl Try.func43 (by kernel_rfl) rfl #[.pointer (some ⟨g,0,none⟩), .int .u8 93] rfl oM ?_;(with_reducible refine (rT.calls g tz14 tz18 93 true tz19 tz20 w0 _ ?side1 ?side2 A15.out).mono ?_);(case side1=>exact oI1 NB0_z25.out);(case side2=>exact oG1 GEz25.out);rintro e w27 ⟨rfl,hi,hb,hk⟩;refine ⟨_,rfl,?_⟩;have _:=Ak (KeepBut.blk hk (g':=gbz25) (o := .cells #[.int .i64 tz5, .int .i64 tz6, .int .i64 tz7, .slice Ao21 tz8.length co21, .slice Ao22 tz9.length co22] 28 (0,0)) (oL BKz25.out) NBz25_0.out (by simp));have _:=Ak (Kd.R_mono (Kd.R_keep (IsS54.apart (show IsS54 w0 _ g tz14 tz18 from oI1 NB0_z25.out) (oR HOz27.out) (by decide)) hk (fun _ h=>h.2)) (fun _ h=>h.1));have _:=Ak (KeepBut.trans (oK1 GWz25.out) hk (.inl rfl));have _:=Ak (hb);have _:=Ak (hi);clear BKz25 HOz27 HK HB HI0;rename_i BKz25 HOz27 HK HB HI0;(try clear hb);(try clear hb2);(try clear hk);(try clear hi)))
    go_ret2
    exact ⟨_,oE,by (with_reducible repeat (first|apply Kd.R_alloc|apply Kd.R_drewN|apply Kd.R_drew));exact Kd.R_mono HOz27.out (fun _ hk=>trivial),oI1 NB0_z25.out,oG1 GEz25.out,oK1 GWz25.out⟩
   replace c16:=Bool.eq_false_iff.mpr c16
   subst c16
   have H1:((rT.f tz19 tz20 44).bind fun btz16=>(if btz16.1=true then ((rB.f k1 btz16.2.1 btz16.2.2).bind fun btz17=>(rE.l0 k1 yz13 btz17.1 btz17.2)) else (some (([]:List (S28)),false,btz16.2.1,btz16.2.2))))=some (r1,r2,r3,r4):=by rw [if_neg (show ¬ (false=true) by decide)] at H;exact H
   clear H
   have H:=H1
   clear H1
   replace H:=Option.bind_eq_some_iff.mp H
   obtain ⟨⟨tz16,tz28,tz29⟩,A280,H⟩:=H
   replace H:(if tz16=true then ((rB.f k1 tz28 tz29).bind fun btz17=>(rE.l0 k1 yz13 btz17.1 btz17.2)) else (some (([]:List (S28)),false,tz28,tz29)))=some (r1,r2,r3,r4):=H
   have A28:=Ak A280
   clear A280
   by_cases c29:tz16=true
   ·
    subst c29
    have H1:((rB.f k1 tz28 tz29).bind fun btz17=>(rE.l0 k1 yz13 btz17.1 btz17.2))=some (r1,r2,r3,r4):=by rw [if_pos rfl] at H;exact H
    clear H
    have H:=H1
    clear H1
    replace H:=Option.bind_eq_some_iff.mp H
    obtain ⟨⟨tz17,tz30⟩,A300,H⟩:=H
    replace H:(rE.l0 k1 yz13 tz17 tz30)=some (r1,r2,r3,r4):=H
    have A30:=Ak A300
    clear A300
    have H':=Ak H
    clear H
    go_wp2_with (first|((with_reducible refine gate_callee (f:=20) rfl ?_);refine goesL_ (some 20) rfl rfl Try.func20 (by kernel_rfl) rfl #[.pointer (some ⟨g,0,none⟩)] rfl oM ?_;(with_reducible refine (ih_20 k1 (by have:=HK1.out;omega) g x1000_1 x1001_1 tz5 tz6 tz7 tz8 tz9 true tz11 tz12 w0 _ ?side1 ?side2 A11.out).mono ?_);(case side1=>exact oI);(case side2=>exact oG);rintro e w31 ⟨vz21,vz22,rfl,ho0,ho1,hi,hb,hk⟩;refine ⟨_,rfl,?_⟩;have _:=Ak (Kd.R_mono (Kd.R_told (Kd.R_told (Kd.R_oldK (IsS54.apart (show IsS54 w0 _ g x1000_1 x1001_1 from oI) (oR HO_4.out) (by decide)) hk) (Kd.R_base ho0)) (Kd.R_base ho1)) (fun _ h_=>h_.1));have _:=Ak (Kd.R_lower ho0 (keep_size (w:=w) (g:=g) (row:=none) oK));have _:=Ak (Kd.R_lower (Kd.R_new' ho1 (Kd.R_lt (oR HO_4.out))) (keep_size (w:=w) (g:=g) (row:=none) oK));have _:=Ak (KeepBut.trans oK hk (.inl rfl));have _:=Ak (hb);have _:=Ak (hi);clear HO_4 HK HB HI0;rename_i HO_4 HOz23 HOz24 HK HB HI0;(try clear hb);(try clear hb2);(try clear hk);(try clear hi);(try clear ho0);(try clear ho1))|((with_reducible refine gate_dst (N:=5) rfl ?_);refine box_event ?hg (N:=5) ?hd (cs := #[.int .i64 0, .int .i64 0, .int .i64 0, .slice none 0 0, .slice none 0 0]) (t:=28) ?hr ?_;(case hd=>rfl);(case hg=>rfl);(case hr=>first|(go_simp;done)|(go_simp;rfl));intro gbz25 hg w32 hbox hb;have _:=Ak (Kd.R_below (Kd.R_elderB (oR HO_4.out) gbz25 (Nat.le_of_eq hg.symm)) hb);have _:=Ak (Kd.R_below (oR HOz23.out) hb);have _:=Ak (Kd.R_below (Kd.R_elderB (oR HOz24.out) gbz25 (Nat.le_of_eq hg.symm)) hb);have _:=Ak (IsS54.below oI hb);have _:=Ak (KeepBut.trans oK (KeepBut.of_below hb g none) (.inl rfl));have _:=Ak (below_step oG hb);have _:=Ak (hbox);have _:=Ak ((by rw [hg];exact (keep_size (w:=w) (g:=g) (row:=none) oK):w.heap.size≤gbz25));have _:=Ak ((Nat.le_trans HW0.out (by rw [hg];exact (keep_size (w:=w) (g:=g) (row:=none) oK):w.heap.size≤gbz25):w0.heap.size≤gbz25));have _:=Ak ((by rw [hg];exact Nat.ne_of_lt (IsS54.lt (show IsS54 w0 _ g tz11 tz12 from oI)):g≠gbz25));have _:=Ak ((by rw [hg];exact Nat.ne_of_gt (IsS54.lt (show IsS54 w0 _ g tz11 tz12 from oI)):gbz25≠g));clear HO_4 HOz23 HOz24 HI0 HK HB;rename_i HO_4 HOz23 HOz24 HI0 HK HB BKz25 GWz25 GEz25 NB0_z25 NBz25_0;clear hb hbox hg;have hnb33:=NBz25_0.out;have hnc33:=NB0_z25.out;have hcz34_0:w32.cell? ⟨gbz25,0,none⟩=some (.int .i64 0):=(blk_cell BKz25.out 0).trans rfl;have hcz34_1:w32.cell? ⟨gbz25,1,none⟩=some (.int .i64 0):=(blk_cell BKz25.out 1).trans rfl;have hcz34_2:w32.cell? ⟨gbz25,2,none⟩=some (.int .i64 0):=(blk_cell BKz25.out 2).trans rfl;have hcz34_3:w32.cell? ⟨gbz25,3,none⟩=some (.slice none 0 0):=(blk_cell BKz25.out 3).trans rfl;have hcz34_4:w32.cell? ⟨gbz25,4,none⟩=some (.slice none 0 0):=(blk_cell BKz25.out 4).trans rfl;have hfz34_0:=blk_frozen BKz25.out 0;have hfz34_1:=blk_frozen BKz25.out 1;have hfz34_2:=blk_frozen BKz25.out 2;have hfz34_3:=blk_frozen BKz25.out 3;have hfz34_4:=blk_frozen BKz25.out 4;obtain ⟨Ao35,co35,eo35⟩:=Kd.R_slice HOz23.out;subst eo35;obtain ⟨Ao36,co36,eo36⟩:=Kd.R_slice HOz24.out;subst eo36)|((with_reducible refine gate_store (t:=28) (p:=5) rfl ?_);refine store_event (t:=28) (p:=5) (v:=?vo_w37) (w1:=(((((w32.setCell ⟨gbz25,0,none⟩ (.int .i64 tz5)).setCell ⟨gbz25,1,none⟩ (.int .i64 tz6)).setCell ⟨gbz25,2,none⟩ (.int .i64 tz7)).setCell ⟨gbz25,3,none⟩ (.slice Ao35 tz8.length co35)).setCell ⟨gbz25,4,none⟩ (.slice Ao36 tz9.length co36))) ?hg ?ho ?hn ?hr ?_;(case ho=>rfl);(case hg=>rfl);(case hn=>rfl);(case hr=>first|(go_simp;done)|(go_simp;rfl));intro w37 hw;have n0_:Aside0 (Kd.R k28 28 w37 w.heap.size (fun k_=>some k_≠(.slice Ao35 tz8.length co35:Value).ownBlock∧some k_≠(.slice Ao36 tz9.length co36:Value).ownBlock∧k_≠gbz25) u4 x4_1):=⟨(by rw [hw];exact (by (with_reducible repeat (first|apply Kd.R_alloc|apply Kd.R_drewN|apply Kd.R_drew));exact Kd.R_mono (Kd.R_far (p:=⟨gbz25,4,none⟩) (Kd.R_far (p:=⟨gbz25,3,none⟩) (Kd.R_far (p:=⟨gbz25,2,none⟩) (Kd.R_far (p:=⟨gbz25,1,none⟩) (Kd.R_far (p:=⟨gbz25,0,none⟩) (Kd.R_mono HO_4.out (fun k_ hk=>(⟨hk,hk.2⟩:_∧k_≠gbz25))) (fun _ hk=>hk.2) (.int .i64 tz5)) (fun _ hk=>hk.2) (.int .i64 tz6)) (fun _ hk=>hk.2) (.int .i64 tz7)) (fun _ hk=>hk.2) (.slice Ao35 tz8.length co35)) (fun _ hk=>hk.2) (.slice Ao36 tz9.length co36)) (fun _ hk=>⟨hk.1.1.1.2,⟨hk.1.1.2,hk.1.2⟩⟩)))⟩;have n1_:Aside0 (Kd.R k52 52 w37 w.heap.size (fun _=>True) (.slice Ao35 tz8.length co35) tz8):=⟨(by rw [hw];exact (by (with_reducible repeat (first|apply Kd.R_alloc|apply Kd.R_drewN|apply Kd.R_drew));exact Kd.R_mono (Kd.R_far (p:=⟨gbz25,4,none⟩) (Kd.R_far (p:=⟨gbz25,3,none⟩) (Kd.R_far (p:=⟨gbz25,2,none⟩) (Kd.R_far (p:=⟨gbz25,1,none⟩) (Kd.R_far (p:=⟨gbz25,0,none⟩) (Kd.R_types HOz23.out BKz25.out (by decide)) (fun _ hk=>hk.2) (.int .i64 tz5)) (fun _ hk=>hk.2) (.int .i64 tz6)) (fun _ hk=>hk.2) (.int .i64 tz7)) (fun _ hk=>hk.2) (.slice Ao35 tz8.length co35)) (fun _ hk=>hk.2) (.slice Ao36 tz9.length co36)) (fun _ hk=>trivial)))⟩;have n2_:Aside0 (Kd.R k28 28 w37 w.heap.size (fun k_=>some k_≠(u4:Value).ownBlock∧some k_≠(.slice Ao35 tz8.length co35:Value).ownBlock∧k_≠gbz25) (.slice Ao36 tz9.length co36) tz9):=⟨(by rw [hw];exact (by (with_reducible repeat (first|apply Kd.R_alloc|apply Kd.R_drewN|apply Kd.R_drew));exact Kd.R_mono (Kd.R_far (p:=⟨gbz25,4,none⟩) (Kd.R_far (p:=⟨gbz25,3,none⟩) (Kd.R_far (p:=⟨gbz25,2,none⟩) (Kd.R_far (p:=⟨gbz25,1,none⟩) (Kd.R_far (p:=⟨gbz25,0,none⟩) (Kd.R_mono HOz24.out (fun k_ hk=>(⟨hk,hk.2⟩:_∧k_≠gbz25))) (fun _ hk=>hk.2) (.int .i64 tz5)) (fun _ hk=>hk.2) (.int .i64 tz6)) (fun _ hk=>hk.2) (.int .i64 tz7)) (fun _ hk=>hk.2) (.slice Ao35 tz8.length co35)) (fun _ hk=>hk.2) (.slice Ao36 tz9.length co36)) (fun _ hk=>⟨hk.1.1.2,⟨hk.1.1.1,hk.1.2⟩⟩)))⟩;have n3_:Aside0 (w37.heap[gbz25]? = some (.cells #[.int .i64 tz5, .int .i64 tz6, .int .i64 tz7, .slice Ao35 tz8.length co35, .slice Ao36 tz9.length co36] 28 (0,0))):=⟨(by rw [hw];exact (by (with_reducible repeat (first|refine blk_drewN ?_ _|refine blk_drew ?_|refine blk_alloc ?_ _));refine blk_put (cs := #[.int .i64 tz5, .int .i64 tz6, .int .i64 tz7, .slice Ao35 tz8.length co35, .slice none 0 0]) ?_ 4 _ rfl;(with_reducible repeat (first|refine blk_drewN ?_ _|refine blk_drew ?_|refine blk_alloc ?_ _));refine blk_put (cs := #[.int .i64 tz5, .int .i64 tz6, .int .i64 tz7, .slice none 0 0, .slice none 0 0]) ?_ 3 _ rfl;(with_reducible repeat (first|refine blk_drewN ?_ _|refine blk_drew ?_|refine blk_alloc ?_ _));refine blk_put (cs := #[.int .i64 tz5, .int .i64 tz6, .int .i64 0, .slice none 0 0, .slice none 0 0]) ?_ 2 _ rfl;(with_reducible repeat (first|refine blk_drewN ?_ _|refine blk_drew ?_|refine blk_alloc ?_ _));refine blk_put (cs := #[.int .i64 tz5, .int .i64 0, .int .i64 0, .slice none 0 0, .slice none 0 0]) ?_ 1 _ rfl;(with_reducible repeat (first|refine blk_drewN ?_ _|refine blk_drew ?_|refine blk_alloc ?_ _));refine blk_put (cs := #[.int .i64 0, .int .i64 0, .int .i64 0, .slice none 0 0, .slice none 0 0]) ?_ 0 _ rfl;(with_reducible repeat (first|refine blk_drewN ?_ _|refine blk_drew ?_|refine blk_alloc ?_ _));exact BKz25.out))⟩;have n4_:Aside0 (IsS54 w0 w37 g tz11 tz12):=⟨(by rw [hw];exact (oI1 NB0_z25.out))⟩;have n5_:Aside0 (KeepBut w w37 g none):=⟨(by rw [hw];exact (oK1 GWz25.out))⟩;have n6_:Aside0 (Below w0.heap.size w0 w37):=⟨(by rw [hw];exact (oG1 GEz25.out))⟩;clear hw HO_4 HOz23 HOz24 BKz25 HI0 HK HB;have HO_4:=n0_;have HOz23:=n1_;have HOz24:=n2_;have BKz25:=n3_;have HI0:=n4_;have HK:=n5_;have HB:=n6_;clear n0_ n1_ n2_ n3_ n4_ n5_ n6_;have hcz38_0:w37.cell? ⟨gbz25,0,none⟩=some (.int .i64 tz5):=(blk_cell BKz25.out 0).trans rfl;have hcz38_1:w37.cell? ⟨gbz25,1,none⟩=some (.int .i64 tz6):=(blk_cell BKz25.out 1).trans rfl;have hcz38_2:w37.cell? ⟨gbz25,2,none⟩=some (.int .i64 tz7):=(blk_cell BKz25.out 2).trans rfl;have hcz38_3:w37.cell? ⟨gbz25,3,none⟩=some (.slice Ao35 tz8.length co35):=(blk_cell BKz25.out 3).trans rfl;have hcz38_4:w37.cell? ⟨gbz25,4,none⟩=some (.slice Ao36 tz9.length co36):=(blk_cell BKz25.out 4).trans rfl;have hfz38_0:=blk_frozen BKz25.out 0;have hfz38_1:=blk_frozen BKz25.out 1;have hfz38_2:=blk_frozen BKz25.out 2;have hfz38_3:=blk_frozen BKz25.out 3;have hfz38_4:=blk_frozen BKz25.out 4)|((with_reducible refine gate_builtin (b := .append) (xs := #[.tmp 25, .tmp 27]) rfl ?_);at_builtin;refine Kd.R_append k28 w.heap.size rfl (.tmp 25) (.tmp 27) 26 28 (.agg #[(.int .i64 0),(.int .i64 0),(.int .i64 0),(.slice none 0 0),(.slice none 0 0)]) 72 rfl Try.underlying26 info28 rfl (by decide) (by omega) u4 x4_1 (⟨tz5,tz6,tz7,tz8,tz9⟩:S28) [.int .i64 tz5, .int .i64 tz6, .int .i64 tz7, .slice Ao35 tz8.length co35, .slice Ao36 tz9.length co36] (fun k_=>k_≠gbz25) (fun k_=>((fun k_=>k_≠gbz25)) k_∧some k_≠(u4:Value).ownBlock) rfl rfl ?aP (fun _ hk=>hk) ?aF ?aO (Below.refl _ _) ?aS ?aL ?_;(case aP=>exact k28_mkM _ _ _ (⟨tz5,tz6,tz7,tz8,tz9⟩:S28) (Kd.R_mono (Kd.R_types (Kd.R_apart' (HOz23.out) (Kd.R_typed HO_4.out) (by decide)) BKz25.out (by decide)) (fun k_ hk=>⟨hk.2,hk.1.2⟩)) (Kd.R_mono (HOz24.out) (fun k_ hk=>⟨hk.2.2,hk.1⟩)));(case aF=>exact (fun k_ hk=>Kd.freshB (g:=gbz25) (o := .cells #[.int .i64 tz5, .int .i64 tz6, .int .i64 tz7, .slice Ao35 tz8.length co35, .slice Ao36 tz9.length co36] 28 (0,0)) (oL BKz25.out) k_ hk));(case aO=>exact (by (with_reducible repeat (first|apply Kd.R_alloc|apply Kd.R_drewN|apply Kd.R_drew));exact Kd.R_mono HO_4.out (fun _ hk=>hk.2.2)));(case aS=>exact (keep_size (w:=w) (g:=g) (row:=none) (oK1 GWz25.out)));(case aL=>have:=LMc13.out;omega);intro vz26 w39 ho hb hg hat;rw [← Nyz13.out] at ho;have _:=Ak (IsS54.grown (oI1 NB0_z25.out) hg (IsS54.own_ne HI0.out HO_4.out (by decide)));have _:=Ak (blk_grown (g:=gbz25) (o := .cells #[.int .i64 tz5, .int .i64 tz6, .int .i64 tz7, .slice Ao35 tz8.length co35, .slice Ao36 tz9.length co36] 28 (0,0)) (oL BKz25.out) hg (Kd.R_away HO_4.out (fun _ hk=>hk.2.2)));have _:=Ak (below_weaken (oG1 GEz25.out) HL.out hb);have _:=Ak (KeepBut.trans (oK1 GWz25.out) (KeepBut.of_grown hg g) (Kd.R_base2 HO_4.out));have _:=Ak (ho);clear HI0 BKz25 HB HK HO_4 HOz23 HOz24;rename_i HI0 BKz25 HB HK HOz27;clear ho hb hg hat)|((with_reducible refine gate_callee (f:=19) rfl ?_);refine goesL_ (some 30) rfl rfl Try.func19 (by kernel_rfl) rfl #[.pointer (some ⟨g,0,none⟩)] rfl oM ?_;(with_reducible refine (rB.calls k1 g tz11 tz12 tz14 tz18 w0 _ ?side1 ?side2 A14.out).mono ?_);(case side1=>exact oI1 NB0_z25.out);(case side2=>exact oG1 GEz25.out);rintro e w40 ⟨rfl,hi,hb,hk⟩;refine ⟨_,rfl,?_⟩;have _:=Ak (KeepBut.blk hk (g':=gbz25) (o := .cells #[.int .i64 tz5, .int .i64 tz6, .int .i64 tz7, .slice Ao35 tz8.length co35, .slice Ao36 tz9.length co36] 28 (0,0)) (oL BKz25.out) NBz25_0.out (by simp));have _:=Ak (Kd.R_mono (Kd.R_keep (IsS54.apart (show IsS54 w0 _ g tz11 tz12 from oI1 NB0_z25.out) (oR HOz27.out) (by decide)) hk (fun _ h=>h.2)) (fun _ h=>h.1));have _:=Ak (KeepBut.trans (oK1 GWz25.out) hk (.inl rfl));have _:=Ak (hb);have _:=Ak (hi);clear BKz25 HOz27 HK HB HI0;rename_i BKz25 HOz27 HK HB HI0;(try clear hb);(try clear hb2);(try clear hk);(try clear hi))|((with_reducible refine gate_callee (f:=43) rfl ?_);refine goesL_ (some 32) rfl rfl Try.func43 (by kernel_rfl) rfl #[.pointer (some ⟨g,0,none⟩), .int .u8 93] rfl oM ?_;(with_reducible refine (rT.calls g tz14 tz18 93 false tz19 tz20 w0 _ ?side1 ?side2 A15.out).mono ?_);(case side1=>exact oI1 NB0_z25.out);(case side2=>exact oG1 GEz25.out);rintro e w41 ⟨rfl,hi,hb,hk⟩;refine ⟨_,rfl,?_⟩;have _:=Ak (KeepBut.blk hk (g':=gbz25) (o := .cells #[.int .i64 tz5, .int .i64 tz6, .int .i64 tz7, .slice Ao35 tz8.length co35, .slice Ao36 tz9.length co36] 28 (0,0)) (oL BKz25.out) NBz25_0.out (by simp));have _:=Ak (Kd.R_mono (Kd.R_keep (IsS54.apart (show IsS54 w0 _ g tz14 tz18 from oI1 NB0_z25.out) (oR HOz27.out) (by decide)) hk (fun _ h=>h.2)) (fun _ h=>h.1));have _:=Ak (KeepBut.trans (oK1 GWz25.out) hk (.inl rfl));have _:=Ak (hb);have _:=Ak (hi);clear BKz25 HOz27 HK HB HI0;rename_i BKz25 HOz27 HK HB HI0;(try clear hb);(try clear hb2);(try clear hk);(try clear hi))|((with_reducible refine gate_callee (f:=43) rfl ?_);refine goesL_ (some 35) rfl rfl Try.func43 (by kernel_rfl) rfl #[.pointer (some ⟨g,0,none⟩), .int .u8 44] rfl oM ?_;(with_reducible refine (rT.calls g tz19 tz20 44 true tz28 tz29 w0 _ ?side1 ?side2 A28.out).mono ?_);(case side1=>exact oI1 NB0_z25.out);(case side2=>exact oG1 GEz25.out);rintro e w42 ⟨rfl,hi,hb,hk⟩;refine ⟨_,rfl,?_⟩;have _:=Ak (KeepBut.blk hk (g':=gbz25) (o := .cells #[.int .i64 tz5, .int .i64 tz6, .int .i64 tz7, .slice Ao35 tz8.length co35, .slice Ao36 tz9.length co36] 28 (0,0)) (oL BKz25.out) NBz25_0.out (by simp));have _:=Ak (Kd.R_mono (Kd.R_keep (IsS54.apart (show IsS54 w0 _ g tz19 tz20 from oI1 NB0_z25.out) (oR HOz27.out) (by decide)) hk (fun _ h=>h.2)) (fun _ h=>h.1));have _:=Ak (KeepBut.trans (oK1 GWz25.out) hk (.inl rfl));have _:=Ak (hb);have _:=Ak (hi);clear BKz25 HOz27 HK HB HI0;rename_i BKz25 HOz27 HK HB HI0;(try clear hb);(try clear hb2);(try clear hk);(try clear hi))|((with_reducible refine gate_callee (f:=19) rfl ?_);refine goesL_ (some 38) rfl rfl Try.func19 (by kernel_rfl) rfl #[.pointer (some ⟨g,0,none⟩)] rfl oM ?_;(with_reducible refine (rB.calls k1 g tz28 tz29 tz17 tz30 w0 _ ?side1 ?side2 A30.out).mono ?_);(case side1=>exact oI1 NB0_z25.out);(case side2=>exact oG1 GEz25.out);rintro e w43 ⟨rfl,hi,hb,hk⟩;refine ⟨_,rfl,?_⟩;have _:=Ak (KeepBut.blk hk (g':=gbz25) (o := .cells #[.int .i64 tz5, .int .i64 tz6, .int .i64 tz7, .slice Ao35 tz8.length co35, .slice Ao36 tz9.length co36] 28 (0,0)) (oL BKz25.out) NBz25_0.out (by simp));have _:=Ak (Kd.R_mono (Kd.R_keep (IsS54.apart (show IsS54 w0 _ g tz28 tz29 from oI1 NB0_z25.out) (oR HOz27.out) (by decide)) hk (fun _ h=>h.2)) (fun _ h=>h.1));have _:=Ak (KeepBut.trans (oK1 GWz25.out) hk (.inl rfl));have _:=Ak (hb);have _:=Ak (hi);clear BKz25 HOz27 HK HB HI0;rename_i BKz25 HOz27 HK HB HI0;(try clear hb);(try clear hb2);(try clear hk);(try clear hi)))
    go_roundg k1
    case measure=>have:=HK1.out;omega
    case rel=>exact ⟨(yz13),(tz17),(tz30),H',⟨by have:=HK1.out;omega⟩,⟨by (with_reducible repeat (first|apply Kd.R_alloc|apply Kd.R_drewN|apply Kd.R_drew));exact Kd.R_mono HOz27.out (fun _ hk=>trivial)⟩,⟨oI1 NB0_z25.out⟩,⟨oK1 GWz25.out⟩,⟨oG1 GEz25.out⟩⟩
   replace c29:=Bool.eq_false_iff.mpr c29
   subst c29
   have H1:(some (([]:List (S28)),false,tz28,tz29))=some (r1,r2,r3,r4):=by rw [if_neg (show ¬ (false=true) by decide)] at H;exact H
   clear H
   have H:=H1
   clear H1
   simp only [Option.some.injEq,Prod.mk.injEq] at H
   obtain ⟨rfl,rfl,rfl,rfl⟩:=H
   go_wp2_with (first|((with_reducible refine gate_callee (f:=20) rfl ?_);refine goesL_ (some 20) rfl rfl Try.func20 (by kernel_rfl) rfl #[.pointer (some ⟨g,0,none⟩)] rfl oM ?_;(with_reducible refine (ih_20 k1 (by have:=HK1.out;omega) g x1000_1 x1001_1 tz5 tz6 tz7 tz8 tz9 true tz11 tz12 w0 _ ?side1 ?side2 A11.out).mono ?_);(case side1=>exact oI);(case side2=>exact oG);rintro e w44 ⟨vz21,vz22,rfl,ho0,ho1,hi,hb,hk⟩;refine ⟨_,rfl,?_⟩;have _:=Ak (Kd.R_mono (Kd.R_told (Kd.R_told (Kd.R_oldK (IsS54.apart (show IsS54 w0 _ g x1000_1 x1001_1 from oI) (oR HO_4.out) (by decide)) hk) (Kd.R_base ho0)) (Kd.R_base ho1)) (fun _ h_=>h_.1));have _:=Ak (Kd.R_lower ho0 (keep_size (w:=w) (g:=g) (row:=none) oK));have _:=Ak (Kd.R_lower (Kd.R_new' ho1 (Kd.R_lt (oR HO_4.out))) (keep_size (w:=w) (g:=g) (row:=none) oK));have _:=Ak (KeepBut.trans oK hk (.inl rfl));have _:=Ak (hb);have _:=Ak (hi);clear HO_4 HK HB HI0;rename_i HO_4 HOz23 HOz24 HK HB HI0;(try clear hb);(try clear hb2);(try clear hk);(try clear hi);(try clear ho0);(try clear ho1))|((with_reducible refine gate_dst (N:=5) rfl ?_);refine box_event ?hg (N:=5) ?hd (cs := #[.int .i64 0, .int .i64 0, .int .i64 0, .slice none 0 0, .slice none 0 0]) (t:=28) ?hr ?_;(case hd=>rfl);(case hg=>rfl);(case hr=>first|(go_simp;done)|(go_simp;rfl));intro gbz25 hg w45 hbox hb;have _:=Ak (Kd.R_below (Kd.R_elderB (oR HO_4.out) gbz25 (Nat.le_of_eq hg.symm)) hb);have _:=Ak (Kd.R_below (oR HOz23.out) hb);have _:=Ak (Kd.R_below (Kd.R_elderB (oR HOz24.out) gbz25 (Nat.le_of_eq hg.symm)) hb);have _:=Ak (IsS54.below oI hb);have _:=Ak (KeepBut.trans oK (KeepBut.of_below hb g none) (.inl rfl));have _:=Ak (below_step oG hb);have _:=Ak (hbox);have _:=Ak ((by rw [hg];exact (keep_size (w:=w) (g:=g) (row:=none) oK):w.heap.size≤gbz25));have _:=Ak ((Nat.le_trans HW0.out (by rw [hg];exact (keep_size (w:=w) (g:=g) (row:=none) oK):w.heap.size≤gbz25):w0.heap.size≤gbz25));have _:=Ak ((by rw [hg];exact Nat.ne_of_lt (IsS54.lt (show IsS54 w0 _ g tz11 tz12 from oI)):g≠gbz25));have _:=Ak ((by rw [hg];exact Nat.ne_of_gt (IsS54.lt (show IsS54 w0 _ g tz11 tz12 from oI)):gbz25≠g));clear HO_4 HOz23 HOz24 HI0 HK HB;rename_i HO_4 HOz23 HOz24 HI0 HK HB BKz25 GWz25 GEz25 NB0_z25 NBz25_0;clear hb hbox hg;have hnb46:=NBz25_0.out;have hnc46:=NB0_z25.out;have hcz47_0:w45.cell? ⟨gbz25,0,none⟩=some (.int .i64 0):=(blk_cell BKz25.out 0).trans rfl;have hcz47_1:w45.cell? ⟨gbz25,1,none⟩=some (.int .i64 0):=(blk_cell BKz25.out 1).trans rfl;have hcz47_2:w45.cell? ⟨gbz25,2,none⟩=some (.int .i64 0):=(blk_cell BKz25.out 2).trans rfl;have hcz47_3:w45.cell? ⟨gbz25,3,none⟩=some (.slice none 0 0):=(blk_cell BKz25.out 3).trans rfl;have hcz47_4:w45.cell? ⟨gbz25,4,none⟩=some (.slice none 0 0):=(blk_cell BKz25.out 4).trans rfl;have hfz47_0:=blk_frozen BKz25.out 0;have hfz47_1:=blk_frozen BKz25.out 1;have hfz47_2:=blk_frozen BKz25.out 2;have hfz47_3:=blk_frozen BKz25.out 3;have hfz47_4:=blk_frozen BKz25.out 4;obtain ⟨Ao48,co48,eo48⟩:=Kd.R_slice HOz23.out;subst eo48;obtain ⟨Ao49,co49,eo49⟩:=Kd.R_slice HOz24.out;subst eo49)|((with_reducible refine gate_store (t:=28) (p:=5) rfl ?_);refine store_event (t:=28) (p:=5) (v:=?vo_w50) (w1:=(((((w45.setCell ⟨gbz25,0,none⟩ (.int .i64 tz5)).setCell ⟨gbz25,1,none⟩ (.int .i64 tz6)).setCell ⟨gbz25,2,none⟩ (.int .i64 tz7)).setCell ⟨gbz25,3,none⟩ (.slice Ao48 tz8.length co48)).setCell ⟨gbz25,4,none⟩ (.slice Ao49 tz9.length co49))) ?hg ?ho ?hn ?hr ?_;(case ho=>rfl);(case hg=>rfl);(case hn=>rfl);(case hr=>first|(go_simp;done)|(go_simp;rfl));intro w50 hw;have n0_:Aside0 (Kd.R k28 28 w50 w.heap.size (fun k_=>some k_≠(.slice Ao48 tz8.length co48:Value).ownBlock∧some k_≠(.slice Ao49 tz9.length co49:Value).ownBlock∧k_≠gbz25) u4 x4_1):=⟨(by rw [hw];exact (by (with_reducible repeat (first|apply Kd.R_alloc|apply Kd.R_drewN|apply Kd.R_drew));exact Kd.R_mono (Kd.R_far (p:=⟨gbz25,4,none⟩) (Kd.R_far (p:=⟨gbz25,3,none⟩) (Kd.R_far (p:=⟨gbz25,2,none⟩) (Kd.R_far (p:=⟨gbz25,1,none⟩) (Kd.R_far (p:=⟨gbz25,0,none⟩) (Kd.R_mono HO_4.out (fun k_ hk=>(⟨hk,hk.2⟩:_∧k_≠gbz25))) (fun _ hk=>hk.2) (.int .i64 tz5)) (fun _ hk=>hk.2) (.int .i64 tz6)) (fun _ hk=>hk.2) (.int .i64 tz7)) (fun _ hk=>hk.2) (.slice Ao48 tz8.length co48)) (fun _ hk=>hk.2) (.slice Ao49 tz9.length co49)) (fun _ hk=>⟨hk.1.1.1.2,⟨hk.1.1.2,hk.1.2⟩⟩)))⟩;have n1_:Aside0 (Kd.R k52 52 w50 w.heap.size (fun _=>True) (.slice Ao48 tz8.length co48) tz8):=⟨(by rw [hw];exact (by (with_reducible repeat (first|apply Kd.R_alloc|apply Kd.R_drewN|apply Kd.R_drew));exact Kd.R_mono (Kd.R_far (p:=⟨gbz25,4,none⟩) (Kd.R_far (p:=⟨gbz25,3,none⟩) (Kd.R_far (p:=⟨gbz25,2,none⟩) (Kd.R_far (p:=⟨gbz25,1,none⟩) (Kd.R_far (p:=⟨gbz25,0,none⟩) (Kd.R_types HOz23.out BKz25.out (by decide)) (fun _ hk=>hk.2) (.int .i64 tz5)) (fun _ hk=>hk.2) (.int .i64 tz6)) (fun _ hk=>hk.2) (.int .i64 tz7)) (fun _ hk=>hk.2) (.slice Ao48 tz8.length co48)) (fun _ hk=>hk.2) (.slice Ao49 tz9.length co49)) (fun _ hk=>trivial)))⟩;have n2_:Aside0 (Kd.R k28 28 w50 w.heap.size (fun k_=>some k_≠(u4:Value).ownBlock∧some k_≠(.slice Ao48 tz8.length co48:Value).ownBlock∧k_≠gbz25) (.slice Ao49 tz9.length co49) tz9):=⟨(by rw [hw];exact (by (with_reducible repeat (first|apply Kd.R_alloc|apply Kd.R_drewN|apply Kd.R_drew));exact Kd.R_mono (Kd.R_far (p:=⟨gbz25,4,none⟩) (Kd.R_far (p:=⟨gbz25,3,none⟩) (Kd.R_far (p:=⟨gbz25,2,none⟩) (Kd.R_far (p:=⟨gbz25,1,none⟩) (Kd.R_far (p:=⟨gbz25,0,none⟩) (Kd.R_mono HOz24.out (fun k_ hk=>(⟨hk,hk.2⟩:_∧k_≠gbz25))) (fun _ hk=>hk.2) (.int .i64 tz5)) (fun _ hk=>hk.2) (.int .i64 tz6)) (fun _ hk=>hk.2) (.int .i64 tz7)) (fun _ hk=>hk.2) (.slice Ao48 tz8.length co48)) (fun _ hk=>hk.2) (.slice Ao49 tz9.length co49)) (fun _ hk=>⟨hk.1.1.2,⟨hk.1.1.1,hk.1.2⟩⟩)))⟩;have n3_:Aside0 (w50.heap[gbz25]? = some (.cells #[.int .i64 tz5, .int .i64 tz6, .int .i64 tz7, .slice Ao48 tz8.length co48, .slice Ao49 tz9.length co49] 28 (0,0))):=⟨(by rw [hw];exact (by (with_reducible repeat (first|refine blk_drewN ?_ _|refine blk_drew ?_|refine blk_alloc ?_ _));refine blk_put (cs := #[.int .i64 tz5, .int .i64 tz6, .int .i64 tz7, .slice Ao48 tz8.length co48, .slice none 0 0]) ?_ 4 _ rfl;(with_reducible repeat (first|refine blk_drewN ?_ _|refine blk_drew ?_|refine blk_alloc ?_ _));refine blk_put (cs := #[.int .i64 tz5, .int .i64 tz6, .int .i64 tz7, .slice none 0 0, .slice none 0 0]) ?_ 3 _ rfl;(with_reducible repeat (first|refine blk_drewN ?_ _|refine blk_drew ?_|refine blk_alloc ?_ _));refine blk_put (cs := #[.int .i64 tz5, .int .i64 tz6, .int .i64 0, .slice none 0 0, .slice none 0 0]) ?_ 2 _ rfl;(with_reducible repeat (first|refine blk_drewN ?_ _|refine blk_drew ?_|refine blk_alloc ?_ _));refine blk_put (cs := #[.int .i64 tz5, .int .i64 0, .int .i64 0, .slice none 0 0, .slice none 0 0]) ?_ 1 _ rfl;(with_reducible repeat (first|refine blk_drewN ?_ _|refine blk_drew ?_|refine blk_alloc ?_ _));refine blk_put (cs := #[.int .i64 0, .int .i64 0, .int .i64 0, .slice none 0 0, .slice none 0 0]) ?_ 0 _ rfl;(with_reducible repeat (first|refine blk_drewN ?_ _|refine blk_drew ?_|refine blk_alloc ?_ _));exact BKz25.out))⟩;have n4_:Aside0 (IsS54 w0 w50 g tz11 tz12):=⟨(by rw [hw];exact (oI1 NB0_z25.out))⟩;have n5_:Aside0 (KeepBut w w50 g none):=⟨(by rw [hw];exact (oK1 GWz25.out))⟩;have n6_:Aside0 (Below w0.heap.size w0 w50):=⟨(by rw [hw];exact (oG1 GEz25.out))⟩;clear hw HO_4 HOz23 HOz24 BKz25 HI0 HK HB;have HO_4:=n0_;have HOz23:=n1_;have HOz24:=n2_;have BKz25:=n3_;have HI0:=n4_;have HK:=n5_;have HB:=n6_;clear n0_ n1_ n2_ n3_ n4_ n5_ n6_;have hcz51_0:w50.cell? ⟨gbz25,0,none⟩=some (.int .i64 tz5):=(blk_cell BKz25.out 0).trans rfl;have hcz51_1:w50.cell? ⟨gbz25,1,none⟩=some (.int .i64 tz6):=(blk_cell BKz25.out 1).trans rfl;have hcz51_2:w50.cell? ⟨gbz25,2,none⟩=some (.int .i64 tz7):=(blk_cell BKz25.out 2).trans rfl;have hcz51_3:w50.cell? ⟨gbz25,3,none⟩=some (.slice Ao48 tz8.length co48):=(blk_cell BKz25.out 3).trans rfl;have hcz51_4:w50.cell? ⟨gbz25,4,none⟩=some (.slice Ao49 tz9.length co49):=(blk_cell BKz25.out 4).trans rfl;have hfz51_0:=blk_frozen BKz25.out 0;have hfz51_1:=blk_frozen BKz25.out 1;have hfz51_2:=blk_frozen BKz25.out 2;have hfz51_3:=blk_frozen BKz25.out 3;have hfz51_4:=blk_frozen BKz25.out 4)|((with_reducible refine gate_builtin (b := .append) (xs := #[.tmp 25, .tmp 27]) rfl ?_);at_builtin;refine Kd.R_append k28 w.heap.size rfl (.tmp 25) (.tmp 27) 26 28 (.agg #[(.int .i64 0),(.int .i64 0),(.int .i64 0),(.slice none 0 0),(.slice none 0 0)]) 72 rfl Try.underlying26 info28 rfl (by decide) (by omega) u4 x4_1 (⟨tz5,tz6,tz7,tz8,tz9⟩:S28) [.int .i64 tz5, .int .i64 tz6, .int .i64 tz7, .slice Ao48 tz8.length co48, .slice Ao49 tz9.length co49] (fun k_=>k_≠gbz25) (fun k_=>((fun k_=>k_≠gbz25)) k_∧some k_≠(u4:Value).ownBlock) rfl rfl ?aP (fun _ hk=>hk) ?aF ?aO (Below.refl _ _) ?aS ?aL ?_;(case aP=>exact k28_mkM _ _ _ (⟨tz5,tz6,tz7,tz8,tz9⟩:S28) (Kd.R_mono (Kd.R_types (Kd.R_apart' (HOz23.out) (Kd.R_typed HO_4.out) (by decide)) BKz25.out (by decide)) (fun k_ hk=>⟨hk.2,hk.1.2⟩)) (Kd.R_mono (HOz24.out) (fun k_ hk=>⟨hk.2.2,hk.1⟩)));(case aF=>exact (fun k_ hk=>Kd.freshB (g:=gbz25) (o := .cells #[.int .i64 tz5, .int .i64 tz6, .int .i64 tz7, .slice Ao48 tz8.length co48, .slice Ao49 tz9.length co49] 28 (0,0)) (oL BKz25.out) k_ hk));(case aO=>exact (by (with_reducible repeat (first|apply Kd.R_alloc|apply Kd.R_drewN|apply Kd.R_drew));exact Kd.R_mono HO_4.out (fun _ hk=>hk.2.2)));(case aS=>exact (keep_size (w:=w) (g:=g) (row:=none) (oK1 GWz25.out)));(case aL=>have:=LMc13.out;omega);intro vz26 w52 ho hb hg hat;rw [← Nyz13.out] at ho;have _:=Ak (IsS54.grown (oI1 NB0_z25.out) hg (IsS54.own_ne HI0.out HO_4.out (by decide)));have _:=Ak (blk_grown (g:=gbz25) (o := .cells #[.int .i64 tz5, .int .i64 tz6, .int .i64 tz7, .slice Ao48 tz8.length co48, .slice Ao49 tz9.length co49] 28 (0,0)) (oL BKz25.out) hg (Kd.R_away HO_4.out (fun _ hk=>hk.2.2)));have _:=Ak (below_weaken (oG1 GEz25.out) HL.out hb);have _:=Ak (KeepBut.trans (oK1 GWz25.out) (KeepBut.of_grown hg g) (Kd.R_base2 HO_4.out));have _:=Ak (ho);clear HI0 BKz25 HB HK HO_4 HOz23 HOz24;rename_i HI0 BKz25 HB HK HOz27;clear ho hb hg hat)|((with_reducible refine gate_callee (f:=19) rfl ?_);refine goesL_ (some 30) rfl rfl Try.func19 (by kernel_rfl) rfl #[.pointer (some ⟨g,0,none⟩)] rfl oM ?_;(with_reducible refine (rB.calls k1 g tz11 tz12 tz14 tz18 w0 _ ?side1 ?side2 A14.out).mono ?_);(case side1=>exact oI1 NB0_z25.out);(case side2=>exact oG1 GEz25.out);rintro e w53 ⟨rfl,hi,hb,hk⟩;refine ⟨_,rfl,?_⟩;have _:=Ak (KeepBut.blk hk (g':=gbz25) (o := .cells #[.int .i64 tz5, .int .i64 tz6, .int .i64 tz7, .slice Ao48 tz8.length co48, .slice Ao49 tz9.length co49] 28 (0,0)) (oL BKz25.out) NBz25_0.out (by simp));have _:=Ak (Kd.R_mono (Kd.R_keep (IsS54.apart (show IsS54 w0 _ g tz11 tz12 from oI1 NB0_z25.out) (oR HOz27.out) (by decide)) hk (fun _ h=>h.2)) (fun _ h=>h.1));have _:=Ak (KeepBut.trans (oK1 GWz25.out) hk (.inl rfl));have _:=Ak (hb);have _:=Ak (hi);clear BKz25 HOz27 HK HB HI0;rename_i BKz25 HOz27 HK HB HI0;(try clear hb);(try clear hb2);(try clear hk);(try clear hi))|((with_reducible refine gate_callee (f:=43) rfl ?_);refine goesL_ (some 32) rfl rfl Try.func43 (by kernel_rfl) rfl #[.pointer (some ⟨g,0,none⟩), .int .u8 93] rfl oM ?_;(with_reducible refine (rT.calls g tz14 tz18 93 false tz19 tz20 w0 _ ?side1 ?side2 A15.out).mono ?_);(case side1=>exact oI1 NB0_z25.out);(case side2=>exact oG1 GEz25.out);rintro e w54 ⟨rfl,hi,hb,hk⟩;refine ⟨_,rfl,?_⟩;have _:=Ak (KeepBut.blk hk (g':=gbz25) (o := .cells #[.int .i64 tz5, .int .i64 tz6, .int .i64 tz7, .slice Ao48 tz8.length co48, .slice Ao49 tz9.length co49] 28 (0,0)) (oL BKz25.out) NBz25_0.out (by simp));have _:=Ak (Kd.R_mono (Kd.R_keep (IsS54.apart (show IsS54 w0 _ g tz14 tz18 from oI1 NB0_z25.out) (oR HOz27.out) (by decide)) hk (fun _ h=>h.2)) (fun _ h=>h.1));have _:=Ak (KeepBut.trans (oK1 GWz25.out) hk (.inl rfl));have _:=Ak (hb);have _:=Ak (hi);clear BKz25 HOz27 HK HB HI0;rename_i BKz25 HOz27 HK HB HI0;(try clear hb);(try clear hb2);(try clear hk);(try clear hi))|((with_reducible refine gate_callee (f:=43) rfl ?_);refine goesL_ (some 35) rfl rfl Try.func43 (by kernel_rfl) rfl #[.pointer (some ⟨g,0,none⟩), .int .u8 44] rfl oM ?_;(with_reducible refine (rT.calls g tz19 tz20 44 false tz28 tz29 w0 _ ?side1 ?side2 A28.out).mono ?_);(case side1=>exact oI1 NB0_z25.out);(case side2=>exact oG1 GEz25.out);rintro e w55 ⟨rfl,hi,hb,hk⟩;refine ⟨_,rfl,?_⟩;have _:=Ak (KeepBut.blk hk (g':=gbz25) (o := .cells #[.int .i64 tz5, .int .i64 tz6, .int .i64 tz7, .slice Ao48 tz8.length co48, .slice Ao49 tz9.length co49] 28 (0,0)) (oL BKz25.out) NBz25_0.out (by simp));have _:=Ak (Kd.R_mono (Kd.R_keep (IsS54.apart (show IsS54 w0 _ g tz19 tz20 from oI1 NB0_z25.out) (oR HOz27.out) (by decide)) hk (fun _ h=>h.2)) (fun _ h=>h.1));have _:=Ak (KeepBut.trans (oK1 GWz25.out) hk (.inl rfl));have _:=Ak (hb);have _:=Ak (hi);clear BKz25 HOz27 HK HB HI0;rename_i BKz25 HOz27 HK HB HI0;(try clear hb);(try clear hb2);(try clear hk);(try clear hi)))
   go_ret2
   exact ⟨_,oE,by first|exact Kd.R_nil _ _ _ _ _|exact Kd.N_nil _ _ _ _ _|exact Kd.V_nil _ _ _ _ _|exact Kd.Q_nil _ _ _ _ _|exact Kd.S_nil _ _ _ _ _,oI1 NB0_z25.out,oG1 GEz25.out,oK1 GWz25.out⟩
  rw [if_neg c13] at H
  exact absurd H (by simp)
theorem grp_rV.all (k:Nat):(∀ (g:Nat) (s0_0:ByteArray) (s0_1:Int) (r1:Int) (r2:Int) (r3:Int) (r4:List (S52)) (r5:List (S28)) (r6:Bool) (r7:ByteArray) (r8:Int) (w0 w:World) (hI:IsS54 w0 w g s0_0 s0_1) (hB:Below w0.heap.size w0 w) (h:rV.f k s0_0 s0_1=some (r1,r2,r3,r4,r5,r6,r7,r8)),
 Calls Try.prog 20 #[.pointer (some ⟨g,0,none⟩)] w fun e w' => ∃ v3_ v4_:Value,e = .returned (.tuple #[.agg #[.int .i64 r1, .int .i64 r2, .int .i64 r3,v3_,v4_], .bool r6])∧Kd.R k52 52 w' w.heap.size (fun _=>True) v3_ r4∧Kd.R k28 28 w' w.heap.size (fun k_=>some k_≠(v3_:Value).ownBlock) v4_ r5∧IsS54 w0 w' g r7 r8∧Below w0.heap.size w0 w'∧KeepBut w w' g none)∧(∀ (g:Nat) (s0_0:ByteArray) (s0_1:Int) (r1:List (S52)) (r2:List (S28)) (r3:Bool) (r4:ByteArray) (r5:Int) (w0 w:World) (hI:IsS54 w0 w g s0_0 s0_1) (hB:Below w0.heap.size w0 w) (h:rM.f k s0_0 s0_1=some (r1,r2,r3,r4,r5)),
 Calls Try.prog 33 #[.pointer (some ⟨g,0,none⟩)] w fun e w' => ∃ v0_ v1_:Value,e = .returned (.tuple #[v0_,v1_, .bool r3])∧Kd.R k52 52 w' w.heap.size (fun _=>True) v0_ r1∧Kd.R k28 28 w' w.heap.size (fun k_=>some k_≠(v0_:Value).ownBlock) v1_ r2∧IsS54 w0 w' g r4 r5∧Below w0.heap.size w0 w'∧KeepBut w w' g none)∧(∀ (g:Nat) (s0_0:ByteArray) (s0_1:Int) (r1:List (S28)) (r2:Bool) (r3:ByteArray) (r4:Int) (w0 w:World) (hI:IsS54 w0 w g s0_0 s0_1) (hB:Below w0.heap.size w0 w) (h:rE.f k s0_0 s0_1=some (r1,r2,r3,r4)),
 Calls Try.prog 34 #[.pointer (some ⟨g,0,none⟩)] w fun e w' => ∃ v0_:Value,e = .returned (.tuple #[v0_, .bool r2])∧Kd.R k28 28 w' w.heap.size (fun _=>True) v0_ r1∧IsS54 w0 w' g r3 r4∧Below w0.heap.size w0 w'∧KeepBut w w' g none):=by
 induction k using Nat.strongRecOn with
 | _ k ih =>
 exact ⟨rV.step k (fun m_ h_=>(ih m_ h_).1) (fun m_ h_=>(ih m_ h_).2.1) (fun m_ h_=>(ih m_ h_).2.2),rM.step k (fun m_ h_=>(ih m_ h_).1) (fun m_ h_=>(ih m_ h_).2.1) (fun m_ h_=>(ih m_ h_).2.2),rE.step k (fun m_ h_=>(ih m_ h_).1) (fun m_ h_=>(ih m_ h_).2.1) (fun m_ h_=>(ih m_ h_).2.2)⟩
theorem rV.calls (k:Nat) : ∀ (g:Nat) (s0_0:ByteArray) (s0_1:Int) (r1:Int) (r2:Int) (r3:Int) (r4:List (S52)) (r5:List (S28)) (r6:Bool) (r7:ByteArray) (r8:Int) (w0 w:World) (hI:IsS54 w0 w g s0_0 s0_1) (hB:Below w0.heap.size w0 w) (h:rV.f k s0_0 s0_1=some (r1,r2,r3,r4,r5,r6,r7,r8)),
    Calls Try.prog 20 #[.pointer (some ⟨g,0,none⟩)] w fun e w' => ∃ v3_ v4_:Value,e = .returned (.tuple #[.agg #[.int .i64 r1, .int .i64 r2, .int .i64 r3,v3_,v4_], .bool r6])∧Kd.R k52 52 w' w.heap.size (fun _=>True) v3_ r4∧Kd.R k28 28 w' w.heap.size (fun k_=>some k_≠(v3_:Value).ownBlock) v4_ r5∧IsS54 w0 w' g r7 r8∧Below w0.heap.size w0 w'∧KeepBut w w' g none:=(grp_rV.all k).1
theorem rM.calls (k:Nat) : ∀ (g:Nat) (s0_0:ByteArray) (s0_1:Int) (r1:List (S52)) (r2:List (S28)) (r3:Bool) (r4:ByteArray) (r5:Int) (w0 w:World) (hI:IsS54 w0 w g s0_0 s0_1) (hB:Below w0.heap.size w0 w) (h:rM.f k s0_0 s0_1=some (r1,r2,r3,r4,r5)),
    Calls Try.prog 33 #[.pointer (some ⟨g,0,none⟩)] w fun e w' => ∃ v0_ v1_:Value,e = .returned (.tuple #[v0_,v1_, .bool r3])∧Kd.R k52 52 w' w.heap.size (fun _=>True) v0_ r1∧Kd.R k28 28 w' w.heap.size (fun k_=>some k_≠(v0_:Value).ownBlock) v1_ r2∧IsS54 w0 w' g r4 r5∧Below w0.heap.size w0 w'∧KeepBut w w' g none:=(grp_rV.all k).2.1
theorem rE.calls (k:Nat) : ∀ (g:Nat) (s0_0:ByteArray) (s0_1:Int) (r1:List (S28)) (r2:Bool) (r3:ByteArray) (r4:Int) (w0 w:World) (hI:IsS54 w0 w g s0_0 s0_1) (hB:Below w0.heap.size w0 w) (h:rE.f k s0_0 s0_1=some (r1,r2,r3,r4)),
    Calls Try.prog 34 #[.pointer (some ⟨g,0,none⟩)] w fun e w' => ∃ v0_:Value,e = .returned (.tuple #[v0_, .bool r2])∧Kd.R k28 28 w' w.heap.size (fun _=>True) v0_ r1∧IsS54 w0 w' g r3 r4∧Below w0.heap.size w0 w'∧KeepBut w w' g none:=(grp_rV.all k).2.2
-- NOT PRINTED: function 14 (sP)
-- NOT PRINTED: function 6 (lP)
/-! ### lB: function 7 -/
mutual
def lB.l0:Nat→List ByteArray→Int→Int→Option (Bool)
  | 0,_,_,_=>none
  | k+1,x10,x11,x12=>if x12<x11 then (if 0≤x12 then (if x12<(x10.length:Int) then (lB.l1 k (rdOf ByteArray.empty x10 x12) 0 x10 x11 x12) else (none)) else (none)) else (some true)
def lB.l1:Nat→ByteArray→Int→List ByteArray→Int→Int→Option (Bool)
  | 0,_,_,_,_,_=>none
  | k+1,x4,x5,x10,x11,x12=>if x5<(x4.size:Int) then (if 0≤x5 then (if (bt x4 x5)=32 then (lB.l1 k x4 (wrap64 (x5+1)) x10 x11 x12) else (if (bt x4 x5)=9 then (lB.l1 k x4 (wrap64 (x5+1)) x10 x11 x12) else (some false))) else (none)) else (if (x4.size:Int)>64 then (some false) else (lB.l0 k x10 x11 (wrap64 (x12+1))))
end
def lB.f (k:Nat) (a0_0:Int) (a0_1:ByteArray) (a0_2:ByteArray) (a0_3:Bool):Option (Bool):=(some (([a0_1,a0_2]:List ByteArray):List ByteArray)).bind fun yz0=>(lB.l0 k yz0 (yz0.length:Int) 0)
theorem lB.mono_l : ∀ k,(∀ y0 y1 y2,LeO (lB.l0 k y0 y1 y2) (lB.l0 (k+1) y0 y1 y2))∧(∀ y0 y1 y2 y3 y4,LeO (lB.l1 k y0 y1 y2 y3 y4) (lB.l1 (k+1) y0 y1 y2 y3 y4))
  | 0=>⟨fun _ _ _ r h=>by simp [lB.l0] at h,fun _ _ _ _ _ r h=>by simp [lB.l1] at h⟩
  | k+1=>by
    obtain ⟨ih0,ih1⟩:=lB.mono_l k
    refine ⟨?_,?_⟩
    · intro y0 y1 y2
      unfold lB.l0
      repeat' first|(with_reducible first|apply ih0|apply ih1|apply LeO.refl|apply LeO.none|refine LeO.ite ?_ ?_|refine LeO.bind ?_ (fun _=>?_))|apply ih0|apply ih1|apply LeO.none|refine LeO.ite ?_ ?_|refine LeO.bind ?_ (fun _=>?_)
    · intro y0 y1 y2 y3 y4
      unfold lB.l1
      repeat' first|(with_reducible first|apply ih0|apply ih1|apply LeO.refl|apply LeO.none|refine LeO.ite ?_ ?_|refine LeO.bind ?_ (fun _=>?_))|apply ih0|apply ih1|apply LeO.none|refine LeO.ite ?_ ?_|refine LeO.bind ?_ (fun _=>?_)
theorem lB.mono : ∀ a0 a1 a2 a3 k,LeO (lB.f k a0 a1 a2 a3) (lB.f (k+1) a0 a1 a2 a3):=by
 intro a0 a1 a2 a3 k
 obtain ⟨ih0,ih1⟩:=lB.mono_l k
 unfold lB.f
 repeat' first|(with_reducible first|apply ih0|apply ih1|apply LeO.refl|apply LeO.none|refine LeO.ite ?_ ?_|refine LeO.bind ?_ (fun _=>?_))|apply ih0|apply ih1|apply LeO.none|refine LeO.ite ?_ ?_|refine LeO.bind ?_ (fun _=>?_)
set_option maxHeartbeats 8000000 in
set_option maxRecDepth 100000 in
theorem lB.calls (k:Nat) (a0_0:Int) (a0_1:ByteArray) (a0_2:ByteArray) (a0_3:Bool) (r:Bool) (w:World) (h:lB.f k a0_0 a0_1 a0_2 a0_3=some r) :
 Calls Try.prog 7 #[.agg #[.int .i64 a0_0, .string a0_1, .string a0_2, .bool a0_3]] w fun e w'=>e = .returned (.bool r)∧Below w.heap.size w w':=by
 have hu23:=Try.underlying23
 have HB:=Ak (Below.refl w.heap.size w)
 have H:((some (([a0_1,a0_2]:List ByteArray):List ByteArray)).bind fun yz0=>(lB.l0 k yz0 (yz0.length:Int) 0))=some r:=h
 clear h
 obtain ⟨yz0,hyz0⟩ : ∃ y_:List ByteArray,y_=(([a0_1,a0_2]:List ByteArray)):=⟨_,rfl⟩
 replace H:(lB.l0 k yz0 (yz0.length:Int) 0)=some r:=by first|(rw [hyz0];with_reducible exact H)|(have H2_:=(Option.bind_some _ _).symm.trans H;rw [hyz0];with_reducible exact H2_)|(have H2_:=(Option.bind_some _ _).symm.trans H;with_reducible exact H2_)|with_reducible exact H|(rw [hyz0];exact H)|exact H
 have Nyz0:=Ak hyz0
 clear hyz0
 have H':=Ak H
 clear H
 go_enter Try.func7,Try.ntmps7
 go_wp2_with (first|((with_reducible refine gate_dst (N:=1) rfl ?_);refine box_event ?hg (N:=1) ?hd (cs := #[.int .i64 a0_0, .string a0_1, .string a0_2, .bool a0_3]) (t:=23) ?hr ?_;(case hd=>rfl);(case hg=>rfl);(case hr=>first|(go_simp;done)|(go_simp;rfl));intro gbz1 hg w2 hbox hb;have _:=Ak (below_step oB hb);have _:=Ak (hbox);have _:=Ak ((by rw [hg];exact (below_size oB):w.heap.size≤gbz1));have _:=Ak ((by rw [hg];exact (below_size oB):w.heap.size≤gbz1));clear HB;rename_i HB BKz1 GWz1 GEz1;clear hb hbox hg;have hcz3_0:w2.cell? ⟨gbz1,0,none⟩=some (.int .i64 a0_0):=(blk_cell BKz1.out 0).trans rfl;have hcz3_1:w2.cell? ⟨gbz1,1,none⟩=some (.string a0_1):=(blk_cell BKz1.out 1).trans rfl;have hcz3_2:w2.cell? ⟨gbz1,2,none⟩=some (.string a0_2):=(blk_cell BKz1.out 2).trans rfl;have hcz3_3:w2.cell? ⟨gbz1,3,none⟩=some (.bool a0_3):=(blk_cell BKz1.out 3).trans rfl;have hfz3_0:=blk_frozen BKz1.out 0;have hfz3_1:=blk_frozen BKz1.out 1;have hfz3_2:=blk_frozen BKz1.out 2;have hfz3_3:=blk_frozen BKz1.out 3)|((with_reducible refine gate_dst (N:=10) rfl ?_);refine Kd.R_lit Kd.string _ 9 ?hg (N:=10) ?hd (xs:=([a0_1,a0_2]:List ByteArray)) (inner:=[.string a0_1, .string a0_2]) (ok:=fun _=>True) (okp:=fun _=>True) ?hr ?hp (fun _ hk=>hk) trivial (Below.refl _ _) (Nat.le_refl _) (by simp) ?_;(case hd=>rfl);(case hg=>rfl);(case hr=>first|(go_simp;done)|(go_simp;rfl));(case hp=>exact (Reps.one (show Kd.M Kd.string _ _ _ a0_1 [.string a0_1] from rfl) (Reps.one (show Kd.M Kd.string _ _ _ a0_2 [.string a0_2] from rfl) (Reps.none _ _))));intro vz2 w4 ho5 hb hg_ hnew_;clear hg_ hnew_;(first|rw [← Nyz0.out] at ho5|(simp only [Int.reduceToNat] at ho5;rw [← Nyz0.out] at ho5));have _:=Ak (Kd.R_lower ho5 (below_size (oB1 GEz1.out)));have _:=Ak (blk_below (g:=gbz1) (o := .cells #[.int .i64 a0_0, .string a0_1, .string a0_2, .bool a0_3] 23 (0,0)) (oL BKz1.out) hb);have _:=Ak (below_step (oB1 GEz1.out) hb);clear BKz1 HB;rename_i HOz3 BKz1 HB;clear hb ho5;obtain ⟨Ao6,co6,eo6⟩:=Kd.R_slice HOz3.out;subst eo6))
 (try simp only [Act.put,List.setIfInBounds_toArray,List.set_cons_zero,List.set_cons_succ])
 go_loopg [12] k (fun kq v12 w' => ∃ (x12_1:Int),v12 = .int .i64 x12_1∧Aside0 (lB.l0 kq yz0 (yz0.length:Int) x12_1=some r)∧Aside0 (kq≤k)∧Aside0 (Kd.R Kd.string 9 w' w.heap.size (fun _=>True) (.slice Ao6 yz0.length co6) yz0)∧Aside0 (w'.heap[gbz1]? = some (.cells #[.int .i64 a0_0, .string a0_1, .string a0_2, .bool a0_3] 23 (0,0)))∧Aside0 (Below w.heap.size w w'))
 case atStart=>exact ⟨(0),oS,H',⟨Nat.le_refl _⟩,⟨oR HOz3.out⟩,⟨oL BKz1.out⟩,⟨oB1 GEz1.out⟩⟩
 case round =>
 clear H'
 clear hcz3_0 hcz3_1 hcz3_2 hcz3_3 hfz3_0 hfz3_1 hfz3_2 hfz3_3
 obtain ⟨x12_1,rfl,HA,HK1,HO_10,BKz1,HB⟩:=hrel
 cases gk with
 | zero=>exact absurd HA.out (by simp [lB.l0])
 | succ k1 =>
  have H:=HA.out
  clear HA
  simp only [lB.l0] at H
  by_cases c7:x12_1<(yz0.length:Int)
  rotate_left
  ·
   rw [if_neg c7] at H
   have c7b0:decide (x12_1<(yz0.length:Int))=false:=decide_eq_false c7
   clear c7
   obtain rfl:=Option.some.inj H
   go_wp2
   go_ret
   exact ⟨oE,oB1 GEz1.out⟩
  rw [if_pos c7] at H
  have c7b0:decide (x12_1<(yz0.length:Int))=true:=decide_eq_true c7
  clear c7
  by_cases c8:0≤x12_1
  ·
   rw [if_pos c8] at H
   have c8b0:decide (0≤x12_1)=true:=decide_eq_true c8
   clear c8
   by_cases c9:x12_1<(yz0.length:Int)
   rotate_left
   ·
    rw [if_neg c9] at H
    exact absurd H (by simp)
   rw [if_pos c9] at H
   have c9b0:decide (x12_1<(yz0.length:Int))=true:=decide_eq_true c9
   clear c9
   have H':=Ak H
   clear H
   have pz4:0≤(x12_1:Int):=of_decide_eq_true oA
   have qz4:x12_1<(yz0.length:Int):=of_decide_eq_true oA
   obtain ⟨adz4,ez4,hxz4_0⟩:=Kd.at_string (Kd.R_reads' HO_10.out).2.2 x12_1 pz4 qz4
   cases ez4
   replace pz4:=eq_true pz4
   replace qz4:=eq_true qz4
   go_wp2
   (try simp only [Act.put,List.setIfInBounds_toArray,List.set_cons_zero,List.set_cons_succ])
   go_loopg [5] k1 (fun kq v5 w' => ∃ (x5_2:Int),v5 = .int .i64 x5_2∧Aside0 (lB.l1 kq (rdOf ByteArray.empty yz0 x12_1) x5_2 yz0 (yz0.length:Int) x12_1=some r)∧Aside0 (kq≤k1)∧Aside0 (Kd.R Kd.string 9 w' w.heap.size (fun _=>True) (.slice (some adz4) yz0.length co6) yz0)∧Aside0 (w'.heap[gbz1]? = some (.cells #[.int .i64 a0_0, .string a0_1, .string a0_2, .bool a0_3] 23 (0,0)))∧Aside0 (Below w.heap.size w w'))
   case atStart=>exact ⟨(0),oS,H',⟨Nat.le_refl _⟩,⟨oR HO_10.out⟩,⟨oL BKz1.out⟩,⟨oB1 GEz1.out⟩⟩
   case round =>
   clear H'
   clear c7b0 c8b0 c9b0 hxz4_0 pz4 qz4
   obtain ⟨x5_2,rfl,HA,HK2,HO_10,BKz1,HB⟩:=hrel
   cases gk with
   | zero=>exact absurd HA.out (by simp [lB.l1])
   | succ k2 =>
    have H:=HA.out
    clear HA
    simp only [lB.l1] at H
    by_cases c10:x5_2<((rdOf ByteArray.empty yz0 x12_1).size:Int)
    rotate_left
    ·
     rw [if_neg c10] at H
     have c10b0:decide (x5_2<((rdOf ByteArray.empty yz0 x12_1).size:Int))=false:=decide_eq_false c10
     clear c10
     by_cases c16:((rdOf ByteArray.empty yz0 x12_1).size:Int)>64
     ·
      rw [if_pos c16] at H
      have c16b0:decide (64<((rdOf ByteArray.empty yz0 x12_1).size:Int))=true:=decide_eq_true c16
      have c16b1:decide (64<(rdOf ByteArray.empty yz0 x12_1).size)=true:=decide_eq_true (by omega)
      clear c16
      obtain rfl:=Option.some.inj H
      go_wp2
      go_ret
      exact ⟨oE,oB1 GEz1.out⟩
     rw [if_neg c16] at H
     have c16b0:decide (64<((rdOf ByteArray.empty yz0 x12_1).size:Int))=false:=decide_eq_false c16
     have c16b1:decide (64<(rdOf ByteArray.empty yz0 x12_1).size)=false:=decide_eq_false (by omega)
     clear c16
     have H':=Ak H
     clear H
     go_wp2
     go_roundg k2
     case measure=>have:=HK1.out;have:=HK2.out;omega
     case rel=>exact ⟨(wrap64 (x12_1+1)),oS,H',⟨by have:=HK1.out;have:=HK2.out;omega⟩,⟨oR HO_10.out⟩,⟨oL BKz1.out⟩,⟨oB1 GEz1.out⟩⟩
    rw [if_pos c10] at H
    have c10b0:decide (x5_2<((rdOf ByteArray.empty yz0 x12_1).size:Int))=true:=decide_eq_true c10
    clear c10
    by_cases c11:0≤x5_2
    ·
     rw [if_pos c11] at H
     have c11b0:decide (0≤x5_2)=true:=decide_eq_true c11
     clear c11
     by_cases c13:(bt (rdOf ByteArray.empty yz0 x12_1) x5_2)=32
     ·
      rw [if_pos c13] at H
      have c13b0:((bt (rdOf ByteArray.empty yz0 x12_1) x5_2) == 32)=true:=beq_iff_eq.mpr c13
      have c13b1:((bt (rdOf ByteArray.empty yz0 x12_1) x5_2) != 32)=false:=bne_eq_false_iff_eq.mpr c13
      clear c13
      have H':=Ak H
      clear H
      have p12:0≤(x5_2:Int):=of_decide_eq_true oA
      have q12:x5_2<((rdOf ByteArray.empty yz0 x12_1).size:Int):=of_decide_eq_true oA
      have hx12:=bt_at (rdOf ByteArray.empty yz0 x12_1) x5_2
      replace p12:=eq_true p12
      replace q12:=eq_true q12
      go_wp2
      go_roundg k2
      case measure=>have:=HK1.out;have:=HK2.out;omega
      case rel=>exact ⟨(wrap64 (x5_2+1)),oS,H',⟨by have:=HK1.out;have:=HK2.out;omega⟩,⟨oR HO_10.out⟩,⟨oL BKz1.out⟩,⟨oB1 GEz1.out⟩⟩
     rw [if_neg c13] at H
     have c13b0:((bt (rdOf ByteArray.empty yz0 x12_1) x5_2) == 32)=false:=beq_eq_false_iff_ne.mpr c13
     have c13b1:((bt (rdOf ByteArray.empty yz0 x12_1) x5_2) != 32)=true:=bne_iff_ne.mpr c13
     by_cases c15:(bt (rdOf ByteArray.empty yz0 x12_1) x5_2)=9
     ·
      rw [if_pos c15] at H
      have c15b0:((bt (rdOf ByteArray.empty yz0 x12_1) x5_2) == 9)=true:=beq_iff_eq.mpr c15
      have c15b1:((bt (rdOf ByteArray.empty yz0 x12_1) x5_2) != 9)=false:=bne_eq_false_iff_eq.mpr c15
      clear c15
      have H':=Ak H
      clear H
      have p12:0≤(x5_2:Int):=of_decide_eq_true oA
      have q12:x5_2<((rdOf ByteArray.empty yz0 x12_1).size:Int):=of_decide_eq_true oA
      have hx12:=bt_at (rdOf ByteArray.empty yz0 x12_1) x5_2
      replace p12:=eq_true p12
      replace q12:=eq_true q12
      have p14:0≤(x5_2:Int):=of_decide_eq_true oA
      have q14:x5_2<((rdOf ByteArray.empty yz0 x12_1).size:Int):=of_decide_eq_true oA
      have hx14:=bt_at (rdOf ByteArray.empty yz0 x12_1) x5_2
      replace p14:=eq_true p14
      replace q14:=eq_true q14
      go_wp2
      go_roundg k2
      case measure=>have:=HK1.out;have:=HK2.out;omega
      case rel=>exact ⟨(wrap64 (x5_2+1)),oS,H',⟨by have:=HK1.out;have:=HK2.out;omega⟩,⟨oR HO_10.out⟩,⟨oL BKz1.out⟩,⟨oB1 GEz1.out⟩⟩
     rw [if_neg c15] at H
     have c15b0:((bt (rdOf ByteArray.empty yz0 x12_1) x5_2) == 9)=false:=beq_eq_false_iff_ne.mpr c15
     have c15b1:((bt (rdOf ByteArray.empty yz0 x12_1) x5_2) != 9)=true:=bne_iff_ne.mpr c15
     obtain rfl:=Option.some.inj H
     have p12:0≤(x5_2:Int):=of_decide_eq_true oA
     have q12:x5_2<((rdOf ByteArray.empty yz0 x12_1).size:Int):=of_decide_eq_true oA
     have hx12:=bt_at (rdOf ByteArray.empty yz0 x12_1) x5_2
     replace p12:=eq_true p12
     replace q12:=eq_true q12
     have p14:0≤(x5_2:Int):=of_decide_eq_true oA
     have q14:x5_2<((rdOf ByteArray.empty yz0 x12_1).size:Int):=of_decide_eq_true oA
     have hx14:=bt_at (rdOf ByteArray.empty yz0 x12_1) x5_2
     replace p14:=eq_true p14
     replace q14:=eq_true q14
     go_wp2
     go_ret
     exact ⟨oE,oB1 GEz1.out⟩
    rw [if_neg c11] at H
    exact absurd H (by simp)
  rw [if_neg c8] at H
  exact absurd H (by simp)
/-! ### pS: function 38 -/
mutual
def pS.l0:Nat→List Int→List Int→Int→Int→Int→Option (List Int × Int × Int × Bool)
  | 0,_,_,_,_,_=>none
  | k+1,x0,x1,x2,x3,x12=>if x2<(x1.length:Int) then (if 0≤x2 then (if (rd x1 x2)=34 then (pS.l1 k x0 x1 x2 x3 x12 0 (wrap64 (x2 - 1))) else (pS.l0 k x0 x1 (wrap64 (x2+1)) x3 x12)) else (none)) else (if 0≤x12 then (if x12≤x2 then (if x2≤(x1.length:Int) then ((some ((x1.take (x2:Int).toNat).drop (x12:Int).toNat:List Int)).bind fun yz0=>(if x0.length+yz0.length<140737488355328 then (some ((x0++yz0),x2,x3,true)) else (none))) else (none)) else (none)) else (none))
def pS.j2:Nat→List Int→List Int→Int→Int→Int→Int→Option (List Int × Int × Int × Bool)
  | 0,_,_,_,_,_,_=>none
  | k+1,x0,x1,x2,x3,x12,x13=>if (Int.tmod x13 2)=1 then (pS.l0 k x0 x1 (wrap64 (x2+1)) x3 x12) else (if 0≤x12 then (if x12≤(wrap64 (x2+1)) then (if (wrap64 (x2+1))≤(x1.length:Int) then ((some ((x1.take ((wrap64 (x2+1)):Int).toNat).drop (x12:Int).toNat:List Int)).bind fun yz0=>(if x0.length+yz0.length<140737488355328 then (some ((x0++yz0),wrap64 (x2+1),x3,true)) else (none))) else (none)) else (none)) else (none))
def pS.l1:Nat→List Int→List Int→Int→Int→Int→Int→Int→Option (List Int × Int × Int × Bool)
  | 0,_,_,_,_,_,_,_=>none
  | k+1,x0,x1,x2,x3,x12,x13,x14=>if x14>x12 then (if 0≤x14 then (if x14<(x1.length:Int) then (if (rd x1 x14)=92 then (pS.l1 k x0 x1 x2 x3 x12 (wrap64 (x13+1)) (wrap64 (x14 - 1))) else (pS.j2 k x0 x1 x2 x3 x12 x13)) else (none)) else (none)) else (pS.j2 k x0 x1 x2 x3 x12 x13)
end
def pS.f (k:Nat) (l0:List Int) (l1:List Int) (a2:Int) (a3:Int):Option (List Int × Int × Int × Bool):=pS.l0 k l0 l1 (wrap64 (a2+1)) a3 a2
theorem pS.mono_l : ∀ k,(∀ y0 y1 y2 y3 y4,LeO (pS.l0 k y0 y1 y2 y3 y4) (pS.l0 (k+1) y0 y1 y2 y3 y4))∧(∀ y0 y1 y2 y3 y4 y5,LeO (pS.j2 k y0 y1 y2 y3 y4 y5) (pS.j2 (k+1) y0 y1 y2 y3 y4 y5))∧(∀ y0 y1 y2 y3 y4 y5 y6,LeO (pS.l1 k y0 y1 y2 y3 y4 y5 y6) (pS.l1 (k+1) y0 y1 y2 y3 y4 y5 y6))
  | 0=>⟨fun _ _ _ _ _ r h=>by simp [pS.l0] at h,fun _ _ _ _ _ _ r h=>by simp [pS.j2] at h,fun _ _ _ _ _ _ _ r h=>by simp [pS.l1] at h⟩
  | k+1=>by
    obtain ⟨ih0,ih1,ih2⟩:=pS.mono_l k
    refine ⟨?_,?_,?_⟩
    · intro y0 y1 y2 y3 y4
      unfold pS.l0
      repeat' first|(with_reducible first|apply ih0|apply ih1|apply ih2|apply LeO.refl|apply LeO.none|refine LeO.ite ?_ ?_|refine LeO.bind ?_ (fun _=>?_))|apply ih0|apply ih1|apply ih2|apply LeO.none|refine LeO.ite ?_ ?_|refine LeO.bind ?_ (fun _=>?_)
    · intro y0 y1 y2 y3 y4 y5
      unfold pS.j2
      repeat' first|(with_reducible first|apply ih0|apply ih1|apply ih2|apply LeO.refl|apply LeO.none|refine LeO.ite ?_ ?_|refine LeO.bind ?_ (fun _=>?_))|apply ih0|apply ih1|apply ih2|apply LeO.none|refine LeO.ite ?_ ?_|refine LeO.bind ?_ (fun _=>?_)
    · intro y0 y1 y2 y3 y4 y5 y6
      unfold pS.l1
      repeat' first|(with_reducible first|apply ih0|apply ih1|apply ih2|apply LeO.refl|apply LeO.none|refine LeO.ite ?_ ?_|refine LeO.bind ?_ (fun _=>?_))|apply ih0|apply ih1|apply ih2|apply LeO.none|refine LeO.ite ?_ ?_|refine LeO.bind ?_ (fun _=>?_)
theorem pS.mono : ∀ a0 a1 a2 a3 k,LeO (pS.f k a0 a1 a2 a3) (pS.f (k+1) a0 a1 a2 a3):=by
 intro a0 a1 a2 a3 k
 obtain ⟨ih0,ih1,ih2⟩:=pS.mono_l k
 unfold pS.f
 repeat' first|(with_reducible first|apply ih0|apply ih1|apply ih2|apply LeO.refl|apply LeO.none|refine LeO.ite ?_ ?_|refine LeO.bind ?_ (fun _=>?_))|apply ih0|apply ih1|apply ih2|apply LeO.none|refine LeO.ite ?_ ?_|refine LeO.bind ?_ (fun _=>?_)
set_option maxHeartbeats 8000000 in
set_option maxRecDepth 100000 in
theorem pS.calls (k:Nat) (P0_:Nat→Prop) (u9000_:Value) (l0:List Int) (A1:Option Addr) (c1:Nat) (l1:List Int) (a2:Int) (a3:Int) (r1:List Int) (r2:Int) (r3:Int) (r4:Bool) (w0 w:World) (hB:Below w0.heap.size w0 w) (ho0:Kd.R (Kd.int .u8) 5 w w0.heap.size P0_ u9000_ l0) (hr1 : ∀ W_,Kept w W_ (fun k_=>P0_ k_)→Kd.C (Kd.int .u8) W_ A1 l1.length l1) (hc1:l1.length≤c1) (h:pS.f k l0 l1 a2 a3=some (r1,r2,r3,r4)) :
 Calls Try.prog 38 #[u9000_, .slice A1 l1.length c1, .int .i64 a2, .int .i64 a3] w fun e w' => ∃ v0_:Value,e = .returned (.tuple #[v0_, .int .i64 r2, .int .i64 r3, .bool r4])∧Kd.R (Kd.int .u8) 5 w' w0.heap.size (fun k_=>(P0_ k_∨w.heap.size≤k_)) v0_ r1∧Below w0.heap.size w0 w'∧Kept w w' (fun k_=>P0_ k_):=by
 have HO0:=Ak (show Kd.R (Kd.int .u8) 5 w w0.heap.size (fun k_=>(P0_ k_∨w.heap.size≤k_)) u9000_ l0 from Kd.R_mono ho0 (fun k_ hk=>(.inl hk)))
 have HR1:=Ak hr1
 have HC1:=Ak hc1
 clear hr1 hc1
 have HK:=Ak (Kept.refl w (fun k_=>P0_ k_))
 have HW0:=Ak hB.size
 have HB:=Ak hB
 clear hB
 have H:(pS.l0 k l0 l1 (wrap64 (a2+1)) a3 a2)=some (r1,r2,r3,r4):=h
 clear h
 have H':=Ak H
 clear H
 go_enter Try.func38,Try.ntmps38
 go_wp2
 (try simp only [Act.put,List.setIfInBounds_toArray,List.set_cons_zero,List.set_cons_succ])
 go_loopg [2] k (fun kq v2 w' => ∃ (x2_1:Int),v2 = .int .i64 x2_1∧Aside0 (pS.l0 kq l0 l1 x2_1 a3 a2=some (r1,r2,r3,r4))∧Aside0 (kq≤k)∧Aside0 (Kd.R (Kd.int .u8) 5 w' w0.heap.size (fun k_=>(P0_ k_∨w.heap.size≤k_)) u9000_ l0)∧Aside0 (Kept w w' (fun k_=>P0_ k_))∧Aside0 (Below w0.heap.size w0 w'))
 case atStart=>exact ⟨(wrap64 (a2+1)),oS,H',⟨Nat.le_refl _⟩,⟨oR HO0.out⟩,⟨oP⟩,⟨oB⟩⟩
 case round =>
 clear H'
 obtain ⟨x2_1,rfl,HA,HK1,HO_0,HK,HB⟩:=hrel
 cases gk with
 | zero=>exact absurd HA.out (by simp [pS.l0])
 | succ k1 =>
  have H:=HA.out
  clear HA
  simp only [pS.l0] at H
  by_cases c5:x2_1<(l1.length:Int)
  rotate_left
  ·
   rw [if_neg c5] at H
   have c5b0:decide (x2_1<(l1.length:Int))=false:=decide_eq_false c5
   clear c5
   by_cases c20:0≤a2
   rotate_left
   ·
    rw [if_neg c20] at H
    exact absurd H (by simp)
   rw [if_pos c20] at H
   have c20b0:=eq_true c20
   have c20b1:decide (0≤a2)=true:=decide_eq_true c20
   clear c20
   by_cases c21:a2≤x2_1
   ·
    rw [if_pos c21] at H
    have c21b0:=eq_true c21
    have c21b1:decide (a2≤x2_1)=true:=decide_eq_true c21
    clear c21
    by_cases c22:x2_1≤(l1.length:Int)
    rotate_left
    ·
     rw [if_neg c22] at H
     exact absurd H (by simp)
    rw [if_pos c22] at H
    have c22b0:=eq_true c22
    have c22b1:decide (x2_1≤(l1.length:Int))=true:=decide_eq_true c22
    clear c22
    obtain ⟨yz7,hyz7⟩ : ∃ y_:List Int,y_=((l1.take (x2_1:Int).toNat).drop (a2:Int).toNat):=⟨_,rfl⟩
    replace H:(if l0.length+yz7.length<140737488355328 then (some ((l0++yz7),x2_1,a3,true)) else (none))=some (r1,r2,r3,r4):=by first|(rw [hyz7];with_reducible exact H)|(have H2_:=(Option.bind_some _ _).symm.trans H;rw [hyz7];with_reducible exact H2_)|(have H2_:=(Option.bind_some _ _).symm.trans H;with_reducible exact H2_)|with_reducible exact H|(rw [hyz7];exact H)|exact H
    have Nyz7:=Ak hyz7
    clear hyz7
    by_cases c23:l0.length+yz7.length<140737488355328
    ·
     rw [if_pos c23] at H
     have LMc23:=Ak c23
     clear c23
     obtain ⟨yz8,hyz8⟩ : ∃ y_:List Int,y_=(l0++yz7):=⟨_,rfl⟩
     replace H:(some (yz8,x2_1,a3,true))=some (r1,r2,r3,r4):=by first|(rw [hyz8];with_reducible exact H)|(have H2_:=(Option.bind_some _ _).symm.trans H;rw [hyz8];with_reducible exact H2_)|(have H2_:=(Option.bind_some _ _).symm.trans H;with_reducible exact H2_)|with_reducible exact H|(rw [hyz8];exact H)|exact H
     have Nyz8:=Ak hyz8
     clear hyz8
     simp only [Option.some.injEq,Prod.mk.injEq] at H
     obtain ⟨rfl,rfl,rfl,rfl⟩:=H
     have q24:(x2_1:Int)≤((l1.length:Int):Int):=of_decide_eq_true oA
     obtain ⟨i024,hi024,_,hsz24,_⟩:=info_parts info5
     have hroom24:l1.length≤c1:=HC1.out
     have hC24:Kd.C (Kd.int .u8) _ A1 l1.length l1:=(Kd.C_kept_now HR1.out HK.out)
     have ql24:(a2:Int)≤(x2_1:Int):=of_decide_eq_true oA
     have q024:(0:Int)≤(a2:Int):=of_decide_eq_true oA
     have hcut24:=cut_mid (P:=Try.prog) 44 5 .i64 .i64 Try.underlying44 hi024 1 hsz24 A1 l1.length c1 a2 x2_1 q024 ql24 q24 hroom24
     have hr24:=Kd.C_mid (lo:=(a2:Int).toNat) (hi:=(x2_1:Int).toNat) (c:=c1) hC24 (by omega) (by omega) hroom24
     obtain ⟨A24,hA24⟩ : ∃ Aq_,Aq_=(if c1=(a2:Int).toNat then A1 else (A1:Option Addr).map (·.add ((a2:Int).toNat*1))):=⟨_,rfl⟩
     obtain ⟨c24,hc24⟩ : ∃ cq_,cq_=c1 - (a2:Int).toNat:=⟨_,rfl⟩
     have hy24:yz7.length=(x2_1:Int).toNat - (a2:Int).toNat:=(by rw [Nyz7.out,List.length_drop,List.length_take] <;> omega)
     rw [show ((l1).take (x2_1:Int).toNat).drop (a2:Int).toNat=yz7 from Nyz7.out.symm] at hr24
     replace hr24:Kd.C (Kd.int .u8) _ A24 yz7.length yz7:=(by rw [hA24];exact hr24)
     rw [← hy24, ← hA24, ← hc24] at hcut24
     have HRz9:=Ak hr24
     have HCz9:=Ak (show yz7.length≤c24 from by rw [hy24,hc24];exact Nat.sub_le_sub_right (Nat.le_trans (by omega) hroom24) _)
     clear hr24 hC24 hroom24 hi024 hsz24 hc24
     have KY24:=Ak hy24
     have KA24:=Ak hA24
     clear hy24 hA24
     have KL24:=Ak (show (x2_1:Int).toNat≤l1.length from by omega)
     have KM24:=Ak (show (a2:Int).toNat≤(x2_1:Int).toNat from by omega)
     replace q24:=eq_true q24
     go_wp2_with (first|((with_reducible refine gate_builtin (b := .append) (xs := #[.tmp 48, .tmp 52]) rfl ?_);at_builtin;refine Kd.R_append_rows (Kd.int .u8) (w0:=w0) w0.heap.size rfl (.tmp 48) (.tmp 52) 44 5 (.int .u8 0) 1 rfl Try.underlying44 info5 rfl (by decide) (by omega) u9000_ l0 yz7 _ _ _ (fun k_=>(P0_ k_∨w.heap.size≤k_)) (fun _=>False) rfl rfl ?aO ?aR (fun _ _ h=>h) (fun _ h=>h.elim) ?aF ?aB ?aS ?aL ?_;(case aR=>repeat (first|exact (by repeat (first|(with_reducible exact HRz9.out)|(with_reducible refine Kd.C_alloc ?_ _)|(with_reducible refine Kd.C_drewN ?_ _)|(with_reducible refine Kd.C_drew ?_)|exact HRz9.out))|(with_reducible refine Kd.C_alloc ?_ _)|(with_reducible refine Kd.C_drewN ?_ _)|(with_reducible refine Kd.C_drew ?_)));(case aB=>exact oB);(case aF=>exact (fun k_ hk=>(.inr (Nat.le_trans (by first|exact HK.out.1|exact (show Kept w _ (fun k_=>P0_ k_) from oP).1) hk))));(case aO=>exact (oR HO_0.out));(case aS=>exact (below_size oB));(case aL=>have:=LMc23.out;omega);intro vz10 w25 ho hb hg hat;rw [← Nyz8.out] at ho;have _:=Ak (hb);have _:=Ak (Kept.of_grown (S:=(fun k_=>P0_ k_)) hg oP (fun k_ e_=>(HO_0.out.1 k_ e_)));have _:=Ak ((show Kd.C (Kd.int .u8) w25 A24 yz7.length yz7 from by rw [Nyz7.out,KA24.out];exact Kd.C_mid (lo:=(a2:Int).toNat) (hi:=(x2_1:Int).toNat) (c:=c1) (Kd.C_kept_now HR1.out (show Kept w w25 (fun k_=>P0_ k_) from (Kept.of_grown (S:=(fun k_=>P0_ k_)) hg oP (fun k_ e_=>(HO_0.out.1 k_ e_))))) KM24.out KL24.out HC1.out));have _:=Ak (ho);clear HB HK HRz9 HO_0;rename_i HB HK HRz9 HOz11;clear ho hb hg hat))
     refine bodyPost_ret (results_list (rs:=[.tmp 8, .tmp 9, .tmp 10, .tmp 11]) rfl (by simp) (.tmp (.tmp (.tmp (.tmp .nil))))) rfl ?_
     exact ⟨_,oE,oR HOz11.out,oB,oP⟩
    rw [if_neg c23] at H
    exact absurd H (by simp)
   rw [if_neg c21] at H
   exact absurd H (by simp)
  rw [if_pos c5] at H
  have c5b0:decide (x2_1<(l1.length:Int))=true:=decide_eq_true c5
  clear c5
  by_cases c6:0≤x2_1
  ·
   rw [if_pos c6] at H
   have c6b0:decide (0≤x2_1)=true:=decide_eq_true c6
   clear c6
   by_cases c7:(rd l1 x2_1)=34
   rotate_left
   ·
    rw [if_neg c7] at H
    have c7b0:((rd l1 x2_1) == 34)=false:=beq_eq_false_iff_ne.mpr c7
    have c7b1:((rd l1 x2_1) != 34)=true:=bne_iff_ne.mpr c7
    have H':=Ak H
    clear H
    have pz0:0≤(x2_1:Int):=of_decide_eq_true oA
    have qz0:x2_1<(l1.length:Int):=of_decide_eq_true oA
    obtain ⟨adz0,ez0,hxz0_0⟩:=Kd.at_int (Kd.C_kept_now HR1.out HK.out) x2_1 pz0 qz0
    cases ez0
    replace pz0:=eq_true pz0
    replace qz0:=eq_true qz0
    go_wp2
    go_roundg k1
    case measure=>have:=HK1.out;omega
    case rel=>exact ⟨(wrap64 (x2_1+1)),oS,H',⟨by have:=HK1.out;omega⟩,⟨oR HO_0.out⟩,⟨oP⟩,⟨oB⟩⟩
   rw [if_pos c7] at H
   have c7b0:((rd l1 x2_1) == 34)=true:=beq_iff_eq.mpr c7
   have c7b1:((rd l1 x2_1) != 34)=false:=bne_eq_false_iff_eq.mpr c7
   clear c7
   have HC8:=Ak H
   clear H
   have pz0:0≤(x2_1:Int):=of_decide_eq_true oA
   have qz0:x2_1<(l1.length:Int):=of_decide_eq_true oA
   obtain ⟨adz0,ez0,hxz0_0⟩:=Kd.at_int (Kd.C_kept_now HR1.out HK.out) x2_1 pz0 qz0
   cases ez0
   replace pz0:=eq_true pz0
   replace qz0:=eq_true qz0
   go_upto_block 2 with (fail)
   go_cut [13] (fun v13 wc => ∃ (kq:Nat) (x13_7:Int),v13 = .int .i64 x13_7∧Aside0 (pS.j2 kq l0 l1 x2_1 a3 a2 x13_7=some (r1,r2,r3,r4))∧Aside0 (kq≤k1)∧Aside0 (Kd.R (Kd.int .u8) 5 wc w0.heap.size (fun k_=>(P0_ k_∨w.heap.size≤k_)) u9000_ l0)∧Aside0 (Kept w wc (fun k_=>P0_ k_))∧Aside0 (Below w0.heap.size w0 wc))
   case first =>
    have H:=HC8.out
    clear HC8
    have H':=Ak H
    clear H
    go_wp2
    (try simp only [Act.put,List.setIfInBounds_toArray,List.set_cons_zero,List.set_cons_succ])
    go_loopg [13,14] k1 (fun kq v13 v14 w' => ∃ (x13_2:Int) (x14_2:Int),v13 = .int .i64 x13_2∧v14 = .int .i64 x14_2∧Aside0 (pS.l1 kq l0 l1 x2_1 a3 a2 x13_2 x14_2=some (r1,r2,r3,r4))∧Aside0 (kq≤k1)∧Aside0 (Kd.R (Kd.int .u8) 5 w' w0.heap.size (fun k_=>(P0_ k_∨w.heap.size≤k_)) u9000_ l0)∧Aside0 (Kept w w' (fun k_=>P0_ k_))∧Aside0 (Below w0.heap.size w0 w'))
    case atStart=>exact ⟨(0),(wrap64 (x2_1 - 1)),oS,oS,H',⟨Nat.le_refl _⟩,⟨oR HO_0.out⟩,⟨oP⟩,⟨oB⟩⟩
    case round =>
    clear H'
    clear c5b0 c6b0 c7b0 c7b1 hxz0_0 pz0 qz0
    obtain ⟨x13_2,x14_2,rfl,rfl,HA,HK2,HO_0,HK,HB⟩:=hrel
    cases gk with
    | zero=>exact absurd HA.out (by simp [pS.l1])
    | succ k2 =>
     have H:=HA.out
     clear HA
     simp only [pS.l1] at H
     by_cases c9:x14_2>a2
     rotate_left
     ·
      rw [if_neg c9] at H
      have c9b0:decide (a2<x14_2)=false:=decide_eq_false c9
      clear c9
      (first|rw [c9b0]|(simp only [i64_w,i32_w];rw [c9b0])|skip)
      have H':=Ak H
      clear H
      go_wp2
      go_meet
      case rel=>exact ⟨_,(x13_2),oS,H',⟨by have:=HK1.out;have:=HK2.out;first|omega|exact Nat.le_refl _⟩,⟨oR HO_0.out⟩,⟨oP⟩,⟨oB⟩⟩
     rw [if_pos c9] at H
     have c9b0:decide (a2<x14_2)=true:=decide_eq_true c9
     clear c9
     (first|rw [c9b0]|(simp only [i64_w,i32_w];rw [c9b0])|skip)
     by_cases c10:0≤x14_2
     ·
      rw [if_pos c10] at H
      have c10b0:decide (0≤x14_2)=true:=decide_eq_true c10
      clear c10
      by_cases c11:x14_2<(l1.length:Int)
      rotate_left
      ·
       rw [if_neg c11] at H
       exact absurd H (by simp)
      rw [if_pos c11] at H
      have c11b0:decide (x14_2<(l1.length:Int))=true:=decide_eq_true c11
      clear c11
      by_cases c12:(rd l1 x14_2)=92
      ·
       rw [if_pos c12] at H
       have c12b0:((rd l1 x14_2) == 92)=true:=beq_iff_eq.mpr c12
       have c12b1:((rd l1 x14_2) != 92)=false:=bne_eq_false_iff_eq.mpr c12
       clear c12
       have H':=Ak H
       clear H
       have pz1:0≤(x14_2:Int):=of_decide_eq_true oA
       have qz1:x14_2<(l1.length:Int):=of_decide_eq_true oA
       obtain ⟨adz1,ez1,hxz1_0⟩:=Kd.at_int (Kd.C_kept_now HR1.out HK.out) x14_2 pz1 qz1
       obtain rfl:adz0=adz1:=(by injection ez1)
       replace pz1:=eq_true pz1
       replace qz1:=eq_true qz1
       go_wp2
       go_roundg k2
       case measure=>have:=HK1.out;have:=HK2.out;omega
       case rel=>exact ⟨(wrap64 (x13_2+1)),(wrap64 (x14_2 - 1)),oS,oS,H',⟨by have:=HK1.out;have:=HK2.out;omega⟩,⟨oR HO_0.out⟩,⟨oP⟩,⟨oB⟩⟩
      rw [if_neg c12] at H
      have c12b0:((rd l1 x14_2) == 92)=false:=beq_eq_false_iff_ne.mpr c12
      have c12b1:((rd l1 x14_2) != 92)=true:=bne_iff_ne.mpr c12
      have H':=Ak H
      clear H
      have pz1:0≤(x14_2:Int):=of_decide_eq_true oA
      have qz1:x14_2<(l1.length:Int):=of_decide_eq_true oA
      obtain ⟨adz1,ez1,hxz1_0⟩:=Kd.at_int (Kd.C_kept_now HR1.out HK.out) x14_2 pz1 qz1
      obtain rfl:adz0=adz1:=(by injection ez1)
      replace pz1:=eq_true pz1
      replace qz1:=eq_true qz1
      go_wp2
      go_meet
      case rel=>exact ⟨_,(x13_2),oS,H',⟨by have:=HK1.out;have:=HK2.out;first|omega|exact Nat.le_refl _⟩,⟨oR HO_0.out⟩,⟨oP⟩,⟨oB⟩⟩
     rw [if_neg c10] at H
     exact absurd H (by simp)
   case rest =>
   clear HC8
   clear c5b0 c6b0 c7b0 c7b1 hxz0_0 pz0 qz0
   obtain ⟨kq,x13_7,rfl,HA,HJ7,HO_0,HK,HB⟩:=hcut
   cases kq with
   | zero=>exact absurd HA.out (by simp [pS.j2])
   | succ kj7 =>
    have H:=HA.out
    clear HA
    simp only [pS.j2] at H
    by_cases c13:(Int.tmod x13_7 2)=1
    ·
     rw [if_pos c13] at H
     have c13b0:((Int.tmod x13_7 2) == 1)=true:=beq_iff_eq.mpr c13
     have c13b1:((Int.tmod x13_7 2) != 1)=false:=bne_eq_false_iff_eq.mpr c13
     clear c13
     have H':=Ak H
     clear H
     go_wp2
     go_roundg kj7
     case measure=>have:=HK1.out;have:=HJ7.out;omega
     case rel=>exact ⟨(wrap64 (x2_1+1)),oS,H',⟨by have:=HK1.out;have:=HJ7.out;omega⟩,⟨oR HO_0.out⟩,⟨oP⟩,⟨oB⟩⟩
    rw [if_neg c13] at H
    have c13b0:((Int.tmod x13_7 2) == 1)=false:=beq_eq_false_iff_ne.mpr c13
    have c13b1:((Int.tmod x13_7 2) != 1)=true:=bne_iff_ne.mpr c13
    by_cases c14:0≤a2
    ·
     rw [if_pos c14] at H
     have c14b0:=eq_true c14
     have c14b1:decide (0≤a2)=true:=decide_eq_true c14
     clear c14
     by_cases c15:a2≤(wrap64 (x2_1+1))
     rotate_left
     ·
      rw [if_neg c15] at H
      exact absurd H (by simp)
     rw [if_pos c15] at H
     have c15b0:=eq_true c15
     have c15b1:decide (a2≤(wrap64 (x2_1+1)))=true:=decide_eq_true c15
     by_cases c16:(wrap64 (x2_1+1))≤(l1.length:Int)
     ·
      rw [if_pos c16] at H
      have c16b0:=eq_true c16
      have c16b1:decide ((wrap64 (x2_1+1))≤(l1.length:Int))=true:=decide_eq_true c16
      obtain ⟨yz2,hyz2⟩ : ∃ y_:List Int,y_=((l1.take ((wrap64 (x2_1+1)):Int).toNat).drop (a2:Int).toNat):=⟨_,rfl⟩
      replace H:(if l0.length+yz2.length<140737488355328 then (some ((l0++yz2),wrap64 (x2_1+1),a3,true)) else (none))=some (r1,r2,r3,r4):=by first|(rw [hyz2];with_reducible exact H)|(have H2_:=(Option.bind_some _ _).symm.trans H;rw [hyz2];with_reducible exact H2_)|(have H2_:=(Option.bind_some _ _).symm.trans H;with_reducible exact H2_)|with_reducible exact H|(rw [hyz2];exact H)|exact H
      have Nyz2:=Ak hyz2
      clear hyz2
      by_cases c17:l0.length+yz2.length<140737488355328
      rotate_left
      ·
       rw [if_neg c17] at H
       exact absurd H (by simp)
      rw [if_pos c17] at H
      have LMc17:=Ak c17
      clear c17
      obtain ⟨yz3,hyz3⟩ : ∃ y_:List Int,y_=(l0++yz2):=⟨_,rfl⟩
      replace H:(some (yz3,wrap64 (x2_1+1),a3,true))=some (r1,r2,r3,r4):=by first|(rw [hyz3];with_reducible exact H)|(have H2_:=(Option.bind_some _ _).symm.trans H;rw [hyz3];with_reducible exact H2_)|(have H2_:=(Option.bind_some _ _).symm.trans H;with_reducible exact H2_)|with_reducible exact H|(rw [hyz3];exact H)|exact H
      have Nyz3:=Ak hyz3
      clear hyz3
      simp only [Option.some.injEq,Prod.mk.injEq] at H
      obtain ⟨rfl,rfl,rfl,rfl⟩:=H
      have q18:((wrap64 (x2_1+1)):Int)≤((l1.length:Int):Int):=of_decide_eq_true oA
      obtain ⟨i018,hi018,_,hsz18,_⟩:=info_parts info5
      have hroom18:l1.length≤c1:=HC1.out
      have hC18:Kd.C (Kd.int .u8) _ (some adz0) l1.length l1:=(Kd.C_kept_now HR1.out HK.out)
      have ql18:(a2:Int)≤((wrap64 (x2_1+1)):Int):=of_decide_eq_true oA
      have q018:(0:Int)≤(a2:Int):=of_decide_eq_true oA
      have hcut18:=cut_mid (P:=Try.prog) 44 5 .i64 .i64 Try.underlying44 hi018 1 hsz18 (some adz0) l1.length c1 a2 (wrap64 (x2_1+1)) q018 ql18 q18 hroom18
      have hr18:=Kd.C_mid (lo:=(a2:Int).toNat) (hi:=((wrap64 (x2_1+1)):Int).toNat) (c:=c1) hC18 (by omega) (by omega) hroom18
      obtain ⟨A18,hA18⟩ : ∃ Aq_,Aq_=(if c1=(a2:Int).toNat then (some adz0) else ((some adz0):Option Addr).map (·.add ((a2:Int).toNat*1))):=⟨_,rfl⟩
      obtain ⟨c18,hc18⟩ : ∃ cq_,cq_=c1 - (a2:Int).toNat:=⟨_,rfl⟩
      have hy18:yz2.length=((wrap64 (x2_1+1)):Int).toNat - (a2:Int).toNat:=(by rw [Nyz2.out,List.length_drop,List.length_take] <;> omega)
      rw [show ((l1).take ((wrap64 (x2_1+1)):Int).toNat).drop (a2:Int).toNat=yz2 from Nyz2.out.symm] at hr18
      replace hr18:Kd.C (Kd.int .u8) _ A18 yz2.length yz2:=(by rw [hA18];exact hr18)
      rw [← hy18, ← hA18, ← hc18] at hcut18
      have HRz4:=Ak hr18
      have HCz4:=Ak (show yz2.length≤c18 from by rw [hy18,hc18];exact Nat.sub_le_sub_right (Nat.le_trans (by omega) hroom18) _)
      clear hr18 hC18 hroom18 hi018 hsz18 hc18
      have KY18:=Ak hy18
      have KA18:=Ak hA18
      clear hy18 hA18
      have KL18:=Ak (show ((wrap64 (x2_1+1)):Int).toNat≤l1.length from by omega)
      have KM18:=Ak (show (a2:Int).toNat≤((wrap64 (x2_1+1)):Int).toNat from by omega)
      replace q18:=eq_true q18
      go_wp2_with (first|((with_reducible refine gate_builtin (b := .append) (xs := #[.tmp 48, .tmp 52]) rfl ?_);at_builtin;refine Kd.R_append_rows (Kd.int .u8) (w0:=w0) w0.heap.size rfl (.tmp 48) (.tmp 52) 44 5 (.int .u8 0) 1 rfl Try.underlying44 info5 rfl (by decide) (by omega) u9000_ l0 yz2 _ _ _ (fun k_=>(P0_ k_∨w.heap.size≤k_)) (fun _=>False) rfl rfl ?aO ?aR (fun _ _ h=>h) (fun _ h=>h.elim) ?aF ?aB ?aS ?aL ?_;(case aR=>repeat (first|exact (by repeat (first|(with_reducible exact HRz4.out)|(with_reducible refine Kd.C_alloc ?_ _)|(with_reducible refine Kd.C_drewN ?_ _)|(with_reducible refine Kd.C_drew ?_)|exact HRz4.out))|(with_reducible refine Kd.C_alloc ?_ _)|(with_reducible refine Kd.C_drewN ?_ _)|(with_reducible refine Kd.C_drew ?_)));(case aB=>exact oB);(case aF=>exact (fun k_ hk=>(.inr (Nat.le_trans (by first|exact HK.out.1|exact (show Kept w _ (fun k_=>P0_ k_) from oP).1) hk))));(case aO=>exact (oR HO_0.out));(case aS=>exact (below_size oB));(case aL=>have:=LMc17.out;omega);intro vz5 w19 ho hb hg hat;rw [← Nyz3.out] at ho;have _:=Ak (hb);have _:=Ak (Kept.of_grown (S:=(fun k_=>P0_ k_)) hg oP (fun k_ e_=>(HO_0.out.1 k_ e_)));have _:=Ak ((show Kd.C (Kd.int .u8) w19 A18 yz2.length yz2 from by rw [Nyz2.out,KA18.out];exact Kd.C_mid (lo:=(a2:Int).toNat) (hi:=((wrap64 (x2_1+1)):Int).toNat) (c:=c1) (Kd.C_kept_now HR1.out (show Kept w w19 (fun k_=>P0_ k_) from (Kept.of_grown (S:=(fun k_=>P0_ k_)) hg oP (fun k_ e_=>(HO_0.out.1 k_ e_))))) KM18.out KL18.out HC1.out));have _:=Ak (ho);clear HB HK HRz4 HO_0;rename_i HB HK HRz4 HOz6;clear ho hb hg hat))
      refine bodyPost_ret (results_list (rs:=[.tmp 8, .tmp 9, .tmp 10, .tmp 11]) rfl (by simp) (.tmp (.tmp (.tmp (.tmp .nil))))) rfl ?_
      exact ⟨_,oE,oR HOz6.out,oB,oP⟩
     rw [if_neg c16] at H
     exact absurd H (by simp)
    rw [if_neg c14] at H
    exact absurd H (by simp)
  rw [if_neg c6] at H
  exact absurd H (by simp)
end Go.Proofs.Ytbkgoccnegjdhaa.Q

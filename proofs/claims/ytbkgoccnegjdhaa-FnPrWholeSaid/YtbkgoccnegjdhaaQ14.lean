/- Functions of the program as Lean functions, each with a proof that the call comes to what it gives. Written by prx.py (wip/pr). -/
import Derived.Test.YtbkgoccnegjdhaaQ0
import Derived.Test.YtbkgoccnegjdhaaQ12
import Derived.Test.YtbkgoccnegjdhaaQ13
namespace Go.Proofs.Ytbkgoccnegjdhaa.Q
open Go.RowKit Go.Proofs.YtbkgoccnegjdhaaW.PrintWords Go.Proofs.YtbkgoccnegjdhaaW.PrintLast Go.Proofs.YtbkgoccnegjdhaaW.PrintMore
attribute [local go_sem] max2_int min2_int max_two min_two max_three min_three max_four min_four   -- for this text's walks alone
set_option linter.unusedVariables false
set_option linter.unusedSimpArgs false
def spec_Layout_value.T17:Bool × List (List Nat × List Nat):=(true,[([],[]),([],[]),([1],[1]),([],[]),([2,3],[2,3]),([4],[4]),([5],[5]),([],[]),([7],[7]),([],[]),([8,9],[8,9]),([10],[10]),([11],[11]),([0,6,12],[0,6,12]),([13,0,1,2,3,4,5,6,7,8,9,10,11,12,13],[13])])
def spec_Layout_value.B17:List Nat:=[0,0,2,0,14,30,62,0,128,0,896,1920,3968,8191,16383]
theorem spec_Layout_value.tab17:rtab .any (opsOf Try.f16 17)=spec_Layout_value.T17:=by kernel_rfl
theorem spec_Layout_value.bits17:waitsOk spec_Layout_value.T17.2 spec_Layout_value.B17=true:=by kernel_rfl
def spec_Layout_value.T22:Bool × List (List Nat × List Nat):=(true,[([],[]),([],[]),([],[]),([],[]),([3],[3]),([],[]),([4,5],[4,5]),([6],[6]),([],[]),([],[]),([9],[9]),([],[]),([11],[11]),([10,12],[10,12]),([13],[13]),([0,1,2,7,8,14],[0,1,2,7,8,14]),([15,15,0,1,2,3,4,5,6,7,8,9,10,11,12,13,14,15],[1,15])])
def spec_Layout_value.B22:List Nat:=[0,0,0,0,8,0,56,120,0,0,512,0,2048,7680,15872,32767,65535]
theorem spec_Layout_value.tab22:rtab .any (opsOf Try.f16 22)=spec_Layout_value.T22:=by kernel_rfl
theorem spec_Layout_value.bits22:waitsOk spec_Layout_value.T22.2 spec_Layout_value.B22=true:=by kernel_rfl
set_option maxHeartbeats 8000000 in
set_option maxRecDepth 100000 in
theorem spec_Layout_value.step (k:Nat) (ih_16 : ∀ m_:Nat,m_<k→(∀ (a0_0:ByteArray) (a0_1:ByteArray) (a0_2:Int) (P1_:Nat→Prop) (u9000_:Value) (l1:List Int) (a2:ByteArray) (a3_0:Int) (a3_1:Int) (a3_2:Int) (A3_3:Option Addr) (c3_3:Nat) (l3_3:List (S52)) (A3_4:Option Addr) (c3_4:Nat) (l3_4:List (S28)) (a4:ByteArray) (a5:Int) (r:List Int) (w0 w:World) (hB:Below w0.heap.size w0 w) (ho1:Kd.R (Kd.int .u8) 5 w w0.heap.size P1_ u9000_ l1) (hr3_3 : ∀ W_,Kept w W_ (fun k_=>P1_ k_)→Kd.C k52 W_ A3_3 l3_3.length l3_3) (hc3_3:l3_3.length≤c3_3) (hr3_4 : ∀ W_,Kept w W_ (fun k_=>P1_ k_)→Kd.C k28 W_ A3_4 l3_4.length l3_4) (hc3_4:l3_4.length≤c3_4) (h:spec_Layout_value.f m_ a0_0 a0_1 a0_2 l1 a2 a3_0 a3_1 a3_2 l3_3 l3_4 a4 a5=some r),
 Calls Try.prog 16 #[.agg #[.string a0_0, .string a0_1, .int .i64 a0_2],u9000_, .string a2, .agg #[.int .i64 a3_0, .int .i64 a3_1, .int .i64 a3_2, .slice A3_3 l3_3.length c3_3, .slice A3_4 l3_4.length c3_4], .string a4, .int .i64 a5] w fun e w' => ∃ v0_:Value,e = .returned (v0_)∧Kd.R (Kd.int .u8) 5 w' w0.heap.size (fun k_=>(P1_ k_∨w.heap.size≤k_)) v0_ r∧Below w0.heap.size w0 w'∧Kept w w' (fun k_=>P1_ k_))) (ih_25 : ∀ m_:Nat,m_<k→(∀ (a0_0:ByteArray) (a0_1:ByteArray) (a0_2:Int) (P1_:Nat→Prop) (u9000_:Value) (l1:List Int) (a2:ByteArray) (a3_0:Int) (a3_1:Int) (a3_2:Int) (A3_3:Option Addr) (c3_3:Nat) (l3_3:List (S52)) (A3_4:Option Addr) (c3_4:Nat) (l3_4:List (S28)) (a4:ByteArray) (r:List Int) (w0 w:World) (hB:Below w0.heap.size w0 w) (ho1:Kd.R (Kd.int .u8) 5 w w0.heap.size P1_ u9000_ l1) (hr3_3 : ∀ W_,Kept w W_ (fun k_=>P1_ k_)→Kd.C k52 W_ A3_3 l3_3.length l3_3) (hc3_3:l3_3.length≤c3_3) (hr3_4 : ∀ W_,Kept w W_ (fun k_=>P1_ k_)→Kd.C k28 W_ A3_4 l3_4.length l3_4) (hc3_4:l3_4.length≤c3_4) (h:spec_Layout_elements.f m_ a0_0 a0_1 a0_2 l1 a2 a3_0 a3_1 a3_2 l3_3 l3_4 a4=some r),
 Calls Try.prog 25 #[.agg #[.string a0_0, .string a0_1, .int .i64 a0_2],u9000_, .string a2, .agg #[.int .i64 a3_0, .int .i64 a3_1, .int .i64 a3_2, .slice A3_3 l3_3.length c3_3, .slice A3_4 l3_4.length c3_4], .string a4] w fun e w' => ∃ v0_:Value,e = .returned (v0_)∧Kd.R (Kd.int .u8) 5 w' w0.heap.size (fun k_=>(P1_ k_∨w.heap.size≤k_)) v0_ r∧Below w0.heap.size w0 w'∧Kept w w' (fun k_=>P1_ k_))) : ∀ (a0_0:ByteArray) (a0_1:ByteArray) (a0_2:Int) (P1_:Nat→Prop) (u9000_:Value) (l1:List Int) (a2:ByteArray) (a3_0:Int) (a3_1:Int) (a3_2:Int) (A3_3:Option Addr) (c3_3:Nat) (l3_3:List (S52)) (A3_4:Option Addr) (c3_4:Nat) (l3_4:List (S28)) (a4:ByteArray) (a5:Int) (r:List Int) (w0 w:World) (hB:Below w0.heap.size w0 w) (ho1:Kd.R (Kd.int .u8) 5 w w0.heap.size P1_ u9000_ l1) (hr3_3 : ∀ W_,Kept w W_ (fun k_=>P1_ k_)→Kd.C k52 W_ A3_3 l3_3.length l3_3) (hc3_3:l3_3.length≤c3_3) (hr3_4 : ∀ W_,Kept w W_ (fun k_=>P1_ k_)→Kd.C k28 W_ A3_4 l3_4.length l3_4) (hc3_4:l3_4.length≤c3_4) (h:spec_Layout_value.f k a0_0 a0_1 a0_2 l1 a2 a3_0 a3_1 a3_2 l3_3 l3_4 a4 a5=some r),
 Calls Try.prog 16 #[.agg #[.string a0_0, .string a0_1, .int .i64 a0_2],u9000_, .string a2, .agg #[.int .i64 a3_0, .int .i64 a3_1, .int .i64 a3_2, .slice A3_3 l3_3.length c3_3, .slice A3_4 l3_4.length c3_4], .string a4, .int .i64 a5] w fun e w' => ∃ v0_:Value,e = .returned (v0_)∧Kd.R (Kd.int .u8) 5 w' w0.heap.size (fun k_=>(P1_ k_∨w.heap.size≤k_)) v0_ r∧Below w0.heap.size w0 w'∧Kept w w' (fun k_=>P1_ k_):=by
 intro a0_0 a0_1 a0_2 P1_ u9000_ l1 a2 a3_0 a3_1 a3_2 A3_3 c3_3 l3_3 A3_4 c3_4 l3_4 a4 a5 r w0 w hB ho1 hr3_3 hc3_3 hr3_4 hc3_4 h
 cases k with
 | zero=>exact absurd h (by simp [spec_Layout_value.f])
 | succ k =>
 simp only [spec_Layout_value.f] at h
 have hu33:=Try.underlying33
 have hu28:=Try.underlying28
 have HO1:=Ak (show Kd.R (Kd.int .u8) 5 w w0.heap.size (fun k_=>(P1_ k_∨w.heap.size≤k_)) u9000_ l1 from Kd.R_mono ho1 (fun k_ hk=>(.inl hk)))
 have HR3_3:=Ak hr3_3
 have HC3_3:=Ak hc3_3
 clear hr3_3 hc3_3
 have HR3_4:=Ak hr3_4
 have HC3_4:=Ak hc3_4
 clear hr3_4 hc3_4
 have HK:=Ak (Kept.refl w (fun k_=>P1_ k_))
 have HW0:=Ak hB.size
 have HB:=Ak hB
 clear hB
 have H:(if (l3_4.length:Int)=0 then ((spec_bareTo.f k l1 a2 a3_0 a3_1 a3_2 l3_3 l3_4).bind fun tz0=>(some tz0)) else (if a0_2>0 then (if (wrap64 (a0_2 - a5))>3 then ((spec_objects.f k a3_0 a3_1 a3_2 l3_3 l3_4).bind fun tz1=>(spec_Layout_value.j0 k l1 a2 a4 (wrap64 (a0_2 - a5)) (!tz1) a0_0 a0_1 a0_2 a3_0 a3_1 a3_2 l3_3 l3_4)) else (spec_Layout_value.j0 k l1 a2 a4 (wrap64 (a0_2 - a5)) false a0_0 a0_1 a0_2 a3_0 a3_1 a3_2 l3_3 l3_4)) else (spec_Layout_value.j0 k l1 a2 a4 (wrap64 (a0_2 - a5)) false a0_0 a0_1 a0_2 a3_0 a3_1 a3_2 l3_3 l3_4)))=some r:=h
 clear h
 by_cases c7:(l3_4.length:Int)=0
 ·
  rw [if_pos c7] at H
  have c7b0:((l3_4.length:Int) == 0)=true:=beq_iff_eq.mpr c7
  have c7b1:((l3_4.length:Int) != 0)=false:=bne_eq_false_iff_eq.mpr c7
  clear c7
  replace H:=Option.bind_eq_some_iff.mp H
  obtain ⟨tz0,A80,H⟩:=H
  replace H:(some tz0)=some r:=H
  have A8:=Ak A80
  clear A80
  obtain rfl:=Option.some.inj H
  go_enter Try.func16,Try.ntmps16
  go_wp2_with (first|((with_reducible refine gate_dst (N:=6) rfl ?_);refine box_event ?hg (N:=6) ?hd (cs := #[.string a0_0, .string a0_1, .int .i64 a0_2]) (t:=33) ?hr ?_;(case hd=>rfl);(case hg=>rfl);(case hr=>first|(go_simp;done)|(go_simp;rfl));intro gbz2 hg w9 hbox hb;have _:=Ak (Kd.R_below (oR HO1.out) hb);have _:=Ak (Kept.below (S:=(fun k_=>P1_ k_)) oP hb);have _:=Ak (below_step oB hb);have _:=Ak (hbox);have _:=Ak ((by rw [hg];exact (by first|exact HK.out.1|exact (show Kept w _ (fun k_=>P1_ k_) from oP).1):w.heap.size≤gbz2));have _:=Ak ((by rw [hg];exact (below_size oB):w0.heap.size≤gbz2));clear HO1 HK HB;rename_i HO1 HK HB BKz2 GWz2 GEz2;clear hb hbox hg)|((with_reducible refine gate_dst (N:=9) rfl ?_);refine box_event ?hg (N:=9) ?hd (cs := #[.int .i64 a3_0, .int .i64 a3_1, .int .i64 a3_2, .slice A3_3 l3_3.length c3_3, .slice A3_4 l3_4.length c3_4]) (t:=28) ?hr ?_;(case hd=>rfl);(case hg=>rfl);(case hr=>first|(go_simp;done)|(go_simp;rfl));intro gbz3 hg w10 hbox hb;have _:=Ak (Kd.R_below (oR HO1.out) hb);have _:=Ak (blk_below (g:=gbz2) (o := .cells #[.string a0_0, .string a0_1, .int .i64 a0_2] 33 (0,0)) (oL BKz2.out) hb);have _:=Ak (Kept.below (S:=(fun k_=>P1_ k_)) (oP1 GWz2.out) hb);have _:=Ak (below_step (oB1 GEz2.out) hb);have _:=Ak (hbox);have _:=Ak ((by rw [hg];exact (by first|exact HK.out.1|exact (show Kept w _ (fun k_=>P1_ k_) from oP1 GWz2.out).1):w.heap.size≤gbz3));have _:=Ak ((by rw [hg];exact (below_size (oB1 GEz2.out)):w0.heap.size≤gbz3));have _:=Ak ((by rw [hg];exact Nat.ne_of_lt (blk_lt (g:=gbz2) (o := .cells #[.string a0_0, .string a0_1, .int .i64 a0_2] 33 (0,0)) (oL BKz2.out)):gbz2≠gbz3));have _:=Ak ((by rw [hg];exact Nat.ne_of_gt (blk_lt (g:=gbz2) (o := .cells #[.string a0_0, .string a0_1, .int .i64 a0_2] 33 (0,0)) (oL BKz2.out)):gbz3≠gbz2));clear HO1 BKz2 HK HB;rename_i HO1 BKz2 HK HB BKz3 GWz3 GEz3 NBz2_148002 NBz3_148001;clear hb hbox hg;have hnb11:=NBz3_148001.out;have hnc11:=NBz2_148002.out;have hcz12_0:w10.cell? ⟨gbz3,0,none⟩=some (.int .i64 a3_0):=(blk_cell BKz3.out 0).trans rfl;have hcz12_1:w10.cell? ⟨gbz3,1,none⟩=some (.int .i64 a3_1):=(blk_cell BKz3.out 1).trans rfl;have hcz12_2:w10.cell? ⟨gbz3,2,none⟩=some (.int .i64 a3_2):=(blk_cell BKz3.out 2).trans rfl;have hcz12_3:w10.cell? ⟨gbz3,3,none⟩=some (.slice A3_3 l3_3.length c3_3):=(blk_cell BKz3.out 3).trans rfl;have hcz12_4:w10.cell? ⟨gbz3,4,none⟩=some (.slice A3_4 l3_4.length c3_4):=(blk_cell BKz3.out 4).trans rfl;have hfz12_0:=blk_frozen BKz3.out 0;have hfz12_1:=blk_frozen BKz3.out 1;have hfz12_2:=blk_frozen BKz3.out 2;have hfz12_3:=blk_frozen BKz3.out 3;have hfz12_4:=blk_frozen BKz3.out 4;obtain ⟨Ao13,co13,eo13⟩:=Kd.R_slice HO1.out;subst eo13)|((with_reducible refine gate_callee (f:=22) rfl ?_);refine goesL_ (some 25) rfl rfl Try.func22 (by kernel_rfl) rfl #[.slice Ao13 l1.length co13, .string a2, .agg #[.int .i64 a3_0, .int .i64 a3_1, .int .i64 a3_2, .slice A3_3 l3_3.length c3_3, .slice A3_4 l3_4.length c3_4]] rfl oM ?_;(with_reducible refine (spec_bareTo.calls k (fun k_=>some k_=(.slice Ao13 l1.length co13:Value).ownBlock) (.slice Ao13 l1.length co13) l1 a2 a3_0 a3_1 a3_2 _ _ l3_3 _ _ l3_4 tz0 w0 _ ?side1 ?side2 ?side3 ?side4 ?side5 ?side6 A8.out).mono ?_);(case side1=>exact oB2 GEz2.out GEz3.out);(case side2=>exact Kd.R_tight rfl HO1.out);(case side3=>exact Kd.C_kept_call HR3_3.out (oP2 GWz2.out GWz3.out) (fun k_ hs_=>(fun e_=>(HO1.out.1 k_ e_.symm)) hs_));(case side4=>exact HC3_3.out);(case side5=>exact Kd.C_kept_call HR3_4.out (oP2 GWz2.out GWz3.out) (fun k_ hs_=>(fun e_=>(HO1.out.1 k_ e_.symm)) hs_));(case side6=>exact HC3_4.out);rintro e w14 ⟨vz4,rfl,ho0,hb,hkp⟩;refine ⟨_,rfl,?_⟩;have _:=Ak (blk_kept (oL BKz2.out) hkp (fun hs_=>(fun e_=>(Kd.R_ne HO1.out BKz2.out (by decide)) e_) hs_));have _:=Ak (blk_kept (oL BKz3.out) hkp (fun hs_=>(fun e_=>(Kd.R_ne HO1.out BKz3.out (by decide)) e_) hs_));have _:=Ak (Kd.R_mono (ok':=fun k_=>(P1_ k_∨w.heap.size≤k_)) ho0 (fun k_ hk_=>Or.elim hk_ (fun hs_=>(HO1.out.1 k_ (hs_).symm)) (fun hn_=>(.inr (Nat.le_trans (by first|exact HK.out.1|exact (show Kept w _ (fun k_=>P1_ k_) from oP2 GWz2.out GWz3.out).1) hn_)))));have _:=Ak (Kept.then_ (S:=(fun k_=>P1_ k_)) (oP2 GWz2.out GWz3.out) hkp (fun k_ hs_=>(fun e_=>(HO1.out.1 k_ e_.symm)) hs_));have _:=Ak (hb);clear BKz2 BKz3 HK HB HO1;rename_i BKz2 BKz3 HOz5 HK HB;(try clear hb);(try clear hkp);(try clear ho0)))
  go_ret
  exact ⟨_,oE,oR HOz5.out,oB2 GEz2.out GEz3.out,oP2 GWz2.out GWz3.out⟩
 rw [if_neg c7] at H
 have c7b0:((l3_4.length:Int) == 0)=false:=beq_eq_false_iff_ne.mpr c7
 have c7b1:((l3_4.length:Int) != 0)=true:=bne_iff_ne.mpr c7
 have c7b2 : ¬ (l3_4=[]):=fun h_=>c7 (by rw [h_];rfl)
 have HC15:=Ak H
 clear H
 go_enter Try.func16,Try.ntmps16
 go_upto_region 4 with (first|((with_reducible refine gate_dst (N:=6) rfl ?_);refine box_event ?hg (N:=6) ?hd (cs := #[.string a0_0, .string a0_1, .int .i64 a0_2]) (t:=33) ?hr ?_;(case hd=>rfl);(case hg=>rfl);(case hr=>first|(go_simp;done)|(go_simp;rfl));intro gbz2 hg w16 hbox hb;have _:=Ak (Kd.R_below (oR HO1.out) hb);have _:=Ak (Kept.below (S:=(fun k_=>P1_ k_)) oP hb);have _:=Ak (below_step oB hb);have _:=Ak (hbox);have _:=Ak ((by rw [hg];exact (by first|exact HK.out.1|exact (show Kept w _ (fun k_=>P1_ k_) from oP).1):w.heap.size≤gbz2));have _:=Ak ((by rw [hg];exact (below_size oB):w0.heap.size≤gbz2));clear HO1 HK HB;rename_i HO1 HK HB BKz2 GWz2 GEz2;clear hb hbox hg)|((with_reducible refine gate_dst (N:=9) rfl ?_);refine box_event ?hg (N:=9) ?hd (cs := #[.int .i64 a3_0, .int .i64 a3_1, .int .i64 a3_2, .slice A3_3 l3_3.length c3_3, .slice A3_4 l3_4.length c3_4]) (t:=28) ?hr ?_;(case hd=>rfl);(case hg=>rfl);(case hr=>first|(go_simp;done)|(go_simp;rfl));intro gbz3 hg w17 hbox hb;have _:=Ak (Kd.R_below (oR HO1.out) hb);have _:=Ak (blk_below (g:=gbz2) (o := .cells #[.string a0_0, .string a0_1, .int .i64 a0_2] 33 (0,0)) (oL BKz2.out) hb);have _:=Ak (Kept.below (S:=(fun k_=>P1_ k_)) (oP1 GWz2.out) hb);have _:=Ak (below_step (oB1 GEz2.out) hb);have _:=Ak (hbox);have _:=Ak ((by rw [hg];exact (by first|exact HK.out.1|exact (show Kept w _ (fun k_=>P1_ k_) from oP1 GWz2.out).1):w.heap.size≤gbz3));have _:=Ak ((by rw [hg];exact (below_size (oB1 GEz2.out)):w0.heap.size≤gbz3));have _:=Ak ((by rw [hg];exact Nat.ne_of_lt (blk_lt (g:=gbz2) (o := .cells #[.string a0_0, .string a0_1, .int .i64 a0_2] 33 (0,0)) (oL BKz2.out)):gbz2≠gbz3));have _:=Ak ((by rw [hg];exact Nat.ne_of_gt (blk_lt (g:=gbz2) (o := .cells #[.string a0_0, .string a0_1, .int .i64 a0_2] 33 (0,0)) (oL BKz2.out)):gbz3≠gbz2));clear HO1 BKz2 HK HB;rename_i HO1 BKz2 HK HB BKz3 GWz3 GEz3 NBz2_148002 NBz3_148001;clear hb hbox hg;have hnb18:=NBz3_148001.out;have hnc18:=NBz2_148002.out;have hcz19_0:w17.cell? ⟨gbz3,0,none⟩=some (.int .i64 a3_0):=(blk_cell BKz3.out 0).trans rfl;have hcz19_1:w17.cell? ⟨gbz3,1,none⟩=some (.int .i64 a3_1):=(blk_cell BKz3.out 1).trans rfl;have hcz19_2:w17.cell? ⟨gbz3,2,none⟩=some (.int .i64 a3_2):=(blk_cell BKz3.out 2).trans rfl;have hcz19_3:w17.cell? ⟨gbz3,3,none⟩=some (.slice A3_3 l3_3.length c3_3):=(blk_cell BKz3.out 3).trans rfl;have hcz19_4:w17.cell? ⟨gbz3,4,none⟩=some (.slice A3_4 l3_4.length c3_4):=(blk_cell BKz3.out 4).trans rfl;have hfz19_0:=blk_frozen BKz3.out 0;have hfz19_1:=blk_frozen BKz3.out 1;have hfz19_2:=blk_frozen BKz3.out 2;have hfz19_3:=blk_frozen BKz3.out 3;have hfz19_4:=blk_frozen BKz3.out 4;have hcz20_0:w17.cell? ⟨gbz2,0,none⟩=some (.string a0_0):=(blk_cell BKz2.out 0).trans rfl;have hcz20_1:w17.cell? ⟨gbz2,1,none⟩=some (.string a0_1):=(blk_cell BKz2.out 1).trans rfl;have hcz20_2:w17.cell? ⟨gbz2,2,none⟩=some (.int .i64 a0_2):=(blk_cell BKz2.out 2).trans rfl;have hfz20_0:=blk_frozen BKz2.out 0;have hfz20_1:=blk_frozen BKz2.out 1;have hfz20_2:=blk_frozen BKz2.out 2))
 (try simp only [Act.put,List.setIfInBounds_toArray,List.set_cons_zero,List.set_cons_succ])
 go_cut [41] (fun v41 wc => ∃ (kq:Nat) (x41_14:Bool),v41 = .bool x41_14∧Aside0 (spec_Layout_value.j0 kq l1 a2 a4 (wrap64 (a0_2 - a5)) x41_14 a0_0 a0_1 a0_2 a3_0 a3_1 a3_2 l3_3 l3_4=some r)∧Aside0 (kq≤k)∧Aside0 (Kd.R (Kd.int .u8) 5 wc w0.heap.size (fun k_=>(P1_ k_∨w.heap.size≤k_)) u9000_ l1)∧Aside0 (wc.heap[gbz2]? = some (.cells #[.string a0_0, .string a0_1, .int .i64 a0_2] 33 (0,0)))∧Aside0 (wc.heap[gbz3]? = some (.cells #[.int .i64 a3_0, .int .i64 a3_1, .int .i64 a3_2,(.slice A3_3 l3_3.length c3_3),(.slice A3_4 l3_4.length c3_4)] 28 (0,0)))∧Aside0 (Kept w wc (fun k_=>P1_ k_))∧Aside0 (Below w0.heap.size w0 wc))
 case first =>
  have H:=HC15.out
  clear HC15
  by_cases c21:a0_2>0
  rotate_left
  ·
   rw [if_neg c21] at H
   have c21b0:decide (0<a0_2)=false:=decide_eq_false c21
   clear c21
   (first|rw [c21b0]|(simp only [i64_w,i32_w];rw [c21b0])|skip)
   have H':=Ak H
   clear H
   have hnb30:=NBz2_148002.out
   have hnc30:=NBz3_148001.out
   have hcz31_0:w17.cell? ⟨gbz2,0,none⟩=some (.string a0_0):=(blk_cell BKz2.out 0).trans rfl
   have hcz31_1:w17.cell? ⟨gbz2,1,none⟩=some (.string a0_1):=(blk_cell BKz2.out 1).trans rfl
   have hcz31_2:w17.cell? ⟨gbz2,2,none⟩=some (.int .i64 a0_2):=(blk_cell BKz2.out 2).trans rfl
   have hfz31_0:=blk_frozen BKz2.out 0
   have hfz31_1:=blk_frozen BKz2.out 1
   have hfz31_2:=blk_frozen BKz2.out 2
   go_wp2
   go_meet
   case rel=>exact ⟨_,(false),oS,H',⟨by first|omega|exact Nat.le_refl _⟩,⟨oR HO1.out⟩,⟨oL BKz2.out⟩,⟨oL BKz3.out⟩,⟨oP2 GWz2.out GWz3.out⟩,⟨oB2 GEz2.out GEz3.out⟩⟩
  rw [if_pos c21] at H
  have c21b0:decide (0<a0_2)=true:=decide_eq_true c21
  clear c21
  (first|rw [c21b0]|(simp only [i64_w,i32_w];rw [c21b0])|skip)
  by_cases c22:(wrap64 (a0_2 - a5))>3
  ·
   rw [if_pos c22] at H
   have c22b0:decide (3<(wrap64 (a0_2 - a5)))=true:=decide_eq_true c22
   clear c22
   replace H:=Option.bind_eq_some_iff.mp H
   obtain ⟨tz1,A230,H⟩:=H
   replace H:(spec_Layout_value.j0 k l1 a2 a4 (wrap64 (a0_2 - a5)) (!tz1) a0_0 a0_1 a0_2 a3_0 a3_1 a3_2 l3_3 l3_4)=some r:=H
   have A23:=Ak A230
   clear A230
   have H':=Ak H
   clear H
   have hnb24:=NBz2_148002.out
   have hnc24:=NBz3_148001.out
   have hcz25_0:w17.cell? ⟨gbz2,0,none⟩=some (.string a0_0):=(blk_cell BKz2.out 0).trans rfl
   have hcz25_1:w17.cell? ⟨gbz2,1,none⟩=some (.string a0_1):=(blk_cell BKz2.out 1).trans rfl
   have hcz25_2:w17.cell? ⟨gbz2,2,none⟩=some (.int .i64 a0_2):=(blk_cell BKz2.out 2).trans rfl
   have hfz25_0:=blk_frozen BKz2.out 0
   have hfz25_1:=blk_frozen BKz2.out 1
   have hfz25_2:=blk_frozen BKz2.out 2
   have hcz26_0:w17.cell? ⟨gbz3,0,none⟩=some (.int .i64 a3_0):=(blk_cell BKz3.out 0).trans rfl
   have hcz26_1:w17.cell? ⟨gbz3,1,none⟩=some (.int .i64 a3_1):=(blk_cell BKz3.out 1).trans rfl
   have hcz26_2:w17.cell? ⟨gbz3,2,none⟩=some (.int .i64 a3_2):=(blk_cell BKz3.out 2).trans rfl
   have hcz26_3:w17.cell? ⟨gbz3,3,none⟩=some (.slice A3_3 l3_3.length c3_3):=(blk_cell BKz3.out 3).trans rfl
   have hcz26_4:w17.cell? ⟨gbz3,4,none⟩=some (.slice A3_4 l3_4.length c3_4):=(blk_cell BKz3.out 4).trans rfl
   have hfz26_0:=blk_frozen BKz3.out 0
   have hfz26_1:=blk_frozen BKz3.out 1
   have hfz26_2:=blk_frozen BKz3.out 2
   have hfz26_3:=blk_frozen BKz3.out 3
   have hfz26_4:=blk_frozen BKz3.out 4
   go_wp2_with (first|(go_at_call 23;(with_reducible refine (spec_objects.calls k a3_0 a3_1 a3_2 _ _ l3_3 _ _ l3_4 tz1 _ ?side1 ?side2 ?side3 ?side4 A23.out).mono ?_);(case side1=>exact Kd.C_kept_now HR3_3.out (oP2 GWz2.out GWz3.out));(case side2=>exact HC3_3.out);(case side3=>exact Kd.C_kept_now HR3_4.out (oP2 GWz2.out GWz3.out));(case side4=>exact HC3_4.out);rintro e w27 ⟨rfl,hb⟩;have _:=Ak (Kd.R_below (oR HO1.out) hb);have _:=Ak (blk_below (g:=gbz2) (o := .cells #[.string a0_0, .string a0_1, .int .i64 a0_2] 33 (0,0)) (oL BKz2.out) hb);have _:=Ak (blk_below (g:=gbz3) (o := .cells #[.int .i64 a3_0, .int .i64 a3_1, .int .i64 a3_2, .slice A3_3 l3_3.length c3_3, .slice A3_4 l3_4.length c3_4] 28 (0,0)) (oL BKz3.out) hb);have _:=Ak (Kept.below (S:=(fun k_=>P1_ k_)) (oP2 GWz2.out GWz3.out) hb);have _:=Ak (below_step (oB2 GEz2.out GEz3.out) hb);clear HO1 BKz2 BKz3 HK HB;rename_i HO1 BKz2 BKz3 HK HB;(try clear hb);(try clear hb2);(try clear hk);(try clear hi)))
   go_meet
   case rel=>exact ⟨_,(!tz1),oS,H',⟨by first|omega|exact Nat.le_refl _⟩,⟨oR HO1.out⟩,⟨oL BKz2.out⟩,⟨oL BKz3.out⟩,⟨oP2 GWz2.out GWz3.out⟩,⟨oB2 GEz2.out GEz3.out⟩⟩
  rw [if_neg c22] at H
  have c22b0:decide (3<(wrap64 (a0_2 - a5)))=false:=decide_eq_false c22
  clear c22
  have H':=Ak H
  clear H
  have hnb28:=NBz2_148002.out
  have hnc28:=NBz3_148001.out
  have hcz29_0:w17.cell? ⟨gbz2,0,none⟩=some (.string a0_0):=(blk_cell BKz2.out 0).trans rfl
  have hcz29_1:w17.cell? ⟨gbz2,1,none⟩=some (.string a0_1):=(blk_cell BKz2.out 1).trans rfl
  have hcz29_2:w17.cell? ⟨gbz2,2,none⟩=some (.int .i64 a0_2):=(blk_cell BKz2.out 2).trans rfl
  have hfz29_0:=blk_frozen BKz2.out 0
  have hfz29_1:=blk_frozen BKz2.out 1
  have hfz29_2:=blk_frozen BKz2.out 2
  go_wp2
  go_meet
  case rel=>exact ⟨_,(false),oS,H',⟨by first|omega|exact Nat.le_refl _⟩,⟨oR HO1.out⟩,⟨oL BKz2.out⟩,⟨oL BKz3.out⟩,⟨oP2 GWz2.out GWz3.out⟩,⟨oB2 GEz2.out GEz3.out⟩⟩
 case rest=>as_aux_lemma =>
 clear HC15
 clear c7 c7b0 c7b1 c7b2 hcz19_0 hcz19_1 hcz19_2 hcz19_3 hcz19_4 hcz20_0 hcz20_1 hcz20_2 hfz19_0 hfz19_1 hfz19_2 hfz19_3 hfz19_4 hfz20_0 hfz20_1 hfz20_2
 obtain ⟨kq,x41_14,rfl,HA,HJ14,HO_1,BKz2,BKz3,HK,HB⟩:=hcut
 cases kq with
 | zero=>exact absurd HA.out (by simp [spec_Layout_value.j0])
 | succ kj14 =>
  have H:=HA.out
  clear HA
  simp only [spec_Layout_value.j0] at H
  have HC32:=Ak H
  clear H
  go_upto_if 41 with (fail)
  go_cut [] (fun wc => ∃ (kq:Nat),Aside0 (spec_Layout_value.j1 kq l1 a2 a4 a0_0 a0_1 a0_2 a3_0 a3_1 a3_2 l3_3 l3_4=some r)∧Aside0 (kq≤kj14)∧Aside0 (Kd.R (Kd.int .u8) 5 wc w0.heap.size (fun k_=>(P1_ k_∨w.heap.size≤k_)) u9000_ l1)∧Aside0 (wc.heap[gbz2]? = some (.cells #[.string a0_0, .string a0_1, .int .i64 a0_2] 33 (0,0)))∧Aside0 (wc.heap[gbz3]? = some (.cells #[.int .i64 a3_0, .int .i64 a3_1, .int .i64 a3_2,(.slice A3_3 l3_3.length c3_3),(.slice A3_4 l3_4.length c3_4)] 28 (0,0)))∧Aside0 (Kept w wc (fun k_=>P1_ k_))∧Aside0 (Below w0.heap.size w0 wc))
  case first =>
   have H:=HC32.out
   clear HC32
   by_cases c33:x41_14=true
   rotate_left
   ·
    replace c33:=Bool.eq_false_iff.mpr c33
    subst c33
    have H1:(spec_Layout_value.j1 kj14 l1 a2 a4 a0_0 a0_1 a0_2 a3_0 a3_1 a3_2 l3_3 l3_4)=some r:=by rw [if_neg (show ¬ (false=true) by decide)] at H;exact H
    clear H
    have H:=H1
    clear H1
    have H':=Ak H
    clear H
    go_wp2
    go_meet
    case rel=>exact ⟨_,H',⟨by have:=HJ14.out;first|omega|exact Nat.le_refl _⟩,⟨oR HO_1.out⟩,⟨oL BKz2.out⟩,⟨oL BKz3.out⟩,⟨oP2 GWz2.out GWz3.out⟩,⟨oB2 GEz2.out GEz3.out⟩⟩
   subst c33
   have H1:((spec_lineTo.f kj14 ([]:List Int) a2 a3_0 a3_1 a3_2 l3_3 l3_4).bind fun tz6=>(if (tz6.length:Int)≤(wrap64 (a0_2 - a5)) then (if l1.length+tz6.length<140737488355328 then (some (l1++tz6)) else (none)) else (spec_Layout_value.j1 kj14 l1 a2 a4 a0_0 a0_1 a0_2 a3_0 a3_1 a3_2 l3_3 l3_4)))=some r:=by rw [if_pos rfl] at H;exact H
   clear H
   have H:=H1
   clear H1
   replace H:=Option.bind_eq_some_iff.mp H
   obtain ⟨tz6,A340,H⟩:=H
   replace H:(if (tz6.length:Int)≤(wrap64 (a0_2 - a5)) then (if l1.length+tz6.length<140737488355328 then (some (l1++tz6)) else (none)) else (spec_Layout_value.j1 kj14 l1 a2 a4 a0_0 a0_1 a0_2 a3_0 a3_1 a3_2 l3_3 l3_4))=some r:=H
   have A34:=Ak A340
   clear A340
   by_cases c35:(tz6.length:Int)≤(wrap64 (a0_2 - a5))
   ·
    rw [if_pos c35] at H
    have c35b0:decide ((tz6.length:Int)≤(wrap64 (a0_2 - a5)))=true:=decide_eq_true c35
    clear c35
    (first|rw [c35b0]|(simp only [i64_w,i32_w];rw [c35b0])|skip)
    by_cases c36:l1.length+tz6.length<140737488355328
    rotate_left
    ·
     rw [if_neg c36] at H
     exact absurd H (by simp)
    rw [if_pos c36] at H
    have LMc36:=Ak c36
    clear c36
    obtain ⟨yz7,hyz7⟩ : ∃ y_:List Int,y_=(l1++tz6):=⟨_,rfl⟩
    replace H:(some yz7)=some r:=by first|(rw [hyz7];with_reducible exact H)|(have H2_:=(Option.bind_some _ _).symm.trans H;rw [hyz7];with_reducible exact H2_)|(have H2_:=(Option.bind_some _ _).symm.trans H;with_reducible exact H2_)|with_reducible exact H|(rw [hyz7];exact H)|exact H
    have Nyz7:=Ak hyz7
    clear hyz7
    obtain rfl:=Option.some.inj H
    have hnb37:=NBz3_148001.out
    have hnc37:=NBz2_148002.out
    have hcz38_0:wc.cell? ⟨gbz3,0,none⟩=some (.int .i64 a3_0):=(blk_cell BKz3.out 0).trans rfl
    have hcz38_1:wc.cell? ⟨gbz3,1,none⟩=some (.int .i64 a3_1):=(blk_cell BKz3.out 1).trans rfl
    have hcz38_2:wc.cell? ⟨gbz3,2,none⟩=some (.int .i64 a3_2):=(blk_cell BKz3.out 2).trans rfl
    have hcz38_3:wc.cell? ⟨gbz3,3,none⟩=some (.slice A3_3 l3_3.length c3_3):=(blk_cell BKz3.out 3).trans rfl
    have hcz38_4:wc.cell? ⟨gbz3,4,none⟩=some (.slice A3_4 l3_4.length c3_4):=(blk_cell BKz3.out 4).trans rfl
    have hfz38_0:=blk_frozen BKz3.out 0
    have hfz38_1:=blk_frozen BKz3.out 1
    have hfz38_2:=blk_frozen BKz3.out 2
    have hfz38_3:=blk_frozen BKz3.out 3
    have hfz38_4:=blk_frozen BKz3.out 4
    go_wp2_with (first|((with_reducible refine gate_callee (f:=24) rfl ?_);refine goesL_ (some 44) rfl rfl Try.func24 (by kernel_rfl) rfl #[.slice none 0 0, .string a2, .agg #[.int .i64 a3_0, .int .i64 a3_1, .int .i64 a3_2, .slice A3_3 l3_3.length c3_3, .slice A3_4 l3_4.length c3_4]] rfl oM ?_;(refine (spec_lineTo.calls kj14 (fun k_=>some k_=(.slice none 0 0:Value).ownBlock) (.slice none 0 0) ([]:List Int) a2 a3_0 a3_1 a3_2 _ _ l3_3 _ _ l3_4 tz6 w0 _ ?side1 ?side2 ?side3 ?side4 ?side5 ?side6 A34.out).mono ?_);(case side1=>exact oB2 GEz2.out GEz3.out);(case side2=>exact Kd.R_nil _ _ _ _ _);(case side3=>exact Kd.C_kept_call HR3_3.out (oP2 GWz2.out GWz3.out) (fun k_ hs_=>(fun e_=>by simp [Value.ownBlock] at e_) hs_));(case side4=>exact HC3_3.out);(case side5=>exact Kd.C_kept_call HR3_4.out (oP2 GWz2.out GWz3.out) (fun k_ hs_=>(fun e_=>by simp [Value.ownBlock] at e_) hs_));(case side6=>exact HC3_4.out);rintro e w39 ⟨vz8,rfl,ho0,hb,hkp⟩;refine ⟨_,rfl,?_⟩;have _:=Ak (Kd.R_mono (ok':=fun k_=>(P1_ k_∨w.heap.size≤k_)∧some k_≠(vz8:Value).ownBlock) (Kd.R_keptB (HO_1.out) hkp (fun k_ hk_ hs_=>(fun e_=>by simp [Value.ownBlock] at e_) hs_)) (fun k_ hk_=>⟨hk_.1,fun e_=>Or.elim (ho0.1 k_ e_.symm) (fun hs_=>hk_.2.1 hs_) (fun hn_=>Nat.not_le.2 hk_.2.2 hn_)⟩));have _:=Ak (blk_kept (oL BKz2.out) hkp (fun hs_=>(fun e_=>by simp [Value.ownBlock] at e_) hs_));have _:=Ak (blk_kept (oL BKz3.out) hkp (fun hs_=>(fun e_=>by simp [Value.ownBlock] at e_) hs_));have _:=Ak (Kd.R_mono (ok':=fun k_=>(P1_ k_∨w.heap.size≤k_)∧some k_≠(u9000_:Value).ownBlock) ho0 (fun k_ hk_=>⟨Or.elim hk_ (fun hs_=>absurd hs_ (by simp [Value.ownBlock])) (fun hn_=>(.inr (Nat.le_trans (by first|exact HK.out.1|exact (show Kept w _ (fun k_=>P1_ k_) from oP2 GWz2.out GWz3.out).1) hn_))),Or.elim hk_ (fun hs_=>absurd hs_ (by simp [Value.ownBlock])) (fun hn_=>(Kd.fresh' (Kd.R_lt (oR HO_1.out)) k_ hn_))⟩));have _:=Ak (Kept.then_ (S:=(fun k_=>P1_ k_)) (oP2 GWz2.out GWz3.out) hkp (fun k_ hs_=>(fun e_=>by simp [Value.ownBlock] at e_) hs_));have _:=Ak (hb);clear HO_1 BKz2 BKz3 HK HB;rename_i HO_1 BKz2 BKz3 HOz9 HK HB;(try clear hb);(try clear hkp);(try clear ho0);obtain ⟨Ao40,co40,eo40⟩:=Kd.R_slice HOz9.out;subst eo40)|((with_reducible refine gate_builtin (b := .append) (xs := #[.tmp 49, .tmp 50]) rfl ?_);at_builtin;refine Kd.R_append_rows (Kd.int .u8) (w0:=w0) w0.heap.size rfl (.tmp 49) (.tmp 50) 44 5 (.int .u8 0) 1 rfl Try.underlying44 info5 rfl (by decide) (by omega) u9000_ l1 tz6 _ _ _ (fun k_=>(P1_ k_∨w.heap.size≤k_)∧some k_≠(.slice Ao40 tz6.length co40:Value).ownBlock) (fun _=>False) rfl rfl ?aO ?aR (fun _ _ h=>h) (fun _ h=>h.elim) ?aF ?aB ?aS ?aL ?_;(case aR=>repeat (first|exact (Kd.R_reads' HOz9.out).2.2|(with_reducible refine Kd.C_alloc ?_ _)|(with_reducible refine Kd.C_drewN ?_ _)|(with_reducible refine Kd.C_drew ?_)));(case aB=>exact (oB2 GEz2.out GEz3.out));(case aF=>exact (fun k_ hk=>⟨(.inr (Nat.le_trans (by first|exact HK.out.1|exact (show Kept w _ (fun k_=>P1_ k_) from oP2 GWz2.out GWz3.out).1) hk)),Kd.fresh' (Kd.R_lt (oR HOz9.out)) k_ hk⟩));(case aO=>exact (oR HO_1.out));(case aS=>exact (below_size (oB2 GEz2.out GEz3.out)));(case aL=>have:=LMc36.out;omega);intro vz10 w41 ho hb hg hat;rw [← Nyz7.out] at ho;have _:=Ak (blk_grown (g:=gbz2) (o := .cells #[.string a0_0, .string a0_1, .int .i64 a0_2] 33 (0,0)) (oL BKz2.out) hg (Kd.R_ne HO_1.out BKz2.out (by decide)));have _:=Ak (blk_grown (g:=gbz3) (o := .cells #[.int .i64 a3_0, .int .i64 a3_1, .int .i64 a3_2, .slice A3_3 l3_3.length c3_3, .slice A3_4 l3_4.length c3_4] 28 (0,0)) (oL BKz3.out) hg (Kd.R_ne HO_1.out BKz3.out (by decide)));have _:=Ak (Kd.R_after (ok:=(fun k_=>(P1_ k_∨w.heap.size≤k_))) (oR HOz9.out) hg hat);have _:=Ak (hb);have _:=Ak (Kept.of_grown (S:=(fun k_=>P1_ k_)) hg (oP2 GWz2.out GWz3.out) (fun k_ e_=>(HO_1.out.1 k_ e_).1));have _:=Ak (ho);clear BKz2 BKz3 HOz9 HB HK HO_1;rename_i BKz2 BKz3 HOz9 HB HK HOz11;clear ho hb hg hat))
    go_ret
    exact ⟨_,oE,by (with_reducible repeat (first|apply Kd.R_alloc|apply Kd.R_drewN|apply Kd.R_drew));exact Kd.R_mono HOz11.out (fun _ hk=>hk.1),oB2 GEz2.out GEz3.out,oP2 GWz2.out GWz3.out⟩
   rw [if_neg c35] at H
   have c35b0:decide ((tz6.length:Int)≤(wrap64 (a0_2 - a5)))=false:=decide_eq_false c35
   clear c35
   (first|rw [c35b0]|(simp only [i64_w,i32_w];rw [c35b0])|skip)
   have H':=Ak H
   clear H
   have hnb42:=NBz3_148001.out
   have hnc42:=NBz2_148002.out
   have hcz43_0:wc.cell? ⟨gbz3,0,none⟩=some (.int .i64 a3_0):=(blk_cell BKz3.out 0).trans rfl
   have hcz43_1:wc.cell? ⟨gbz3,1,none⟩=some (.int .i64 a3_1):=(blk_cell BKz3.out 1).trans rfl
   have hcz43_2:wc.cell? ⟨gbz3,2,none⟩=some (.int .i64 a3_2):=(blk_cell BKz3.out 2).trans rfl
   have hcz43_3:wc.cell? ⟨gbz3,3,none⟩=some (.slice A3_3 l3_3.length c3_3):=(blk_cell BKz3.out 3).trans rfl
   have hcz43_4:wc.cell? ⟨gbz3,4,none⟩=some (.slice A3_4 l3_4.length c3_4):=(blk_cell BKz3.out 4).trans rfl
   have hfz43_0:=blk_frozen BKz3.out 0
   have hfz43_1:=blk_frozen BKz3.out 1
   have hfz43_2:=blk_frozen BKz3.out 2
   have hfz43_3:=blk_frozen BKz3.out 3
   have hfz43_4:=blk_frozen BKz3.out 4
   go_wp2_with (first|((with_reducible refine gate_callee (f:=24) rfl ?_);refine goesL_ (some 44) rfl rfl Try.func24 (by kernel_rfl) rfl #[.slice none 0 0, .string a2, .agg #[.int .i64 a3_0, .int .i64 a3_1, .int .i64 a3_2, .slice A3_3 l3_3.length c3_3, .slice A3_4 l3_4.length c3_4]] rfl oM ?_;(refine (spec_lineTo.calls kj14 (fun k_=>some k_=(.slice none 0 0:Value).ownBlock) (.slice none 0 0) ([]:List Int) a2 a3_0 a3_1 a3_2 _ _ l3_3 _ _ l3_4 tz6 w0 _ ?side1 ?side2 ?side3 ?side4 ?side5 ?side6 A34.out).mono ?_);(case side1=>exact oB2 GEz2.out GEz3.out);(case side2=>exact Kd.R_nil _ _ _ _ _);(case side3=>exact Kd.C_kept_call HR3_3.out (oP2 GWz2.out GWz3.out) (fun k_ hs_=>(fun e_=>by simp [Value.ownBlock] at e_) hs_));(case side4=>exact HC3_3.out);(case side5=>exact Kd.C_kept_call HR3_4.out (oP2 GWz2.out GWz3.out) (fun k_ hs_=>(fun e_=>by simp [Value.ownBlock] at e_) hs_));(case side6=>exact HC3_4.out);rintro e w44 ⟨vz8,rfl,ho0,hb,hkp⟩;refine ⟨_,rfl,?_⟩;have _:=Ak (Kd.R_mono (ok':=fun k_=>(P1_ k_∨w.heap.size≤k_)∧some k_≠(vz8:Value).ownBlock) (Kd.R_keptB (HO_1.out) hkp (fun k_ hk_ hs_=>(fun e_=>by simp [Value.ownBlock] at e_) hs_)) (fun k_ hk_=>⟨hk_.1,fun e_=>Or.elim (ho0.1 k_ e_.symm) (fun hs_=>hk_.2.1 hs_) (fun hn_=>Nat.not_le.2 hk_.2.2 hn_)⟩));have _:=Ak (blk_kept (oL BKz2.out) hkp (fun hs_=>(fun e_=>by simp [Value.ownBlock] at e_) hs_));have _:=Ak (blk_kept (oL BKz3.out) hkp (fun hs_=>(fun e_=>by simp [Value.ownBlock] at e_) hs_));have _:=Ak (Kd.R_mono (ok':=fun k_=>(P1_ k_∨w.heap.size≤k_)∧some k_≠(u9000_:Value).ownBlock) ho0 (fun k_ hk_=>⟨Or.elim hk_ (fun hs_=>absurd hs_ (by simp [Value.ownBlock])) (fun hn_=>(.inr (Nat.le_trans (by first|exact HK.out.1|exact (show Kept w _ (fun k_=>P1_ k_) from oP2 GWz2.out GWz3.out).1) hn_))),Or.elim hk_ (fun hs_=>absurd hs_ (by simp [Value.ownBlock])) (fun hn_=>(Kd.fresh' (Kd.R_lt (oR HO_1.out)) k_ hn_))⟩));have _:=Ak (Kept.then_ (S:=(fun k_=>P1_ k_)) (oP2 GWz2.out GWz3.out) hkp (fun k_ hs_=>(fun e_=>by simp [Value.ownBlock] at e_) hs_));have _:=Ak (hb);clear HO_1 BKz2 BKz3 HK HB;rename_i HO_1 BKz2 BKz3 HOz9 HK HB;(try clear hb);(try clear hkp);(try clear ho0);obtain ⟨Ao45,co45,eo45⟩:=Kd.R_slice HOz9.out;subst eo45))
   go_meet
   case rel=>exact ⟨_,H',⟨by have:=HJ14.out;first|omega|exact Nat.le_refl _⟩,⟨by (with_reducible repeat (first|apply Kd.R_alloc|apply Kd.R_drewN|apply Kd.R_drew));exact Kd.R_mono HO_1.out (fun _ hk=>hk.1)⟩,⟨oL BKz2.out⟩,⟨oL BKz3.out⟩,⟨oP2 GWz2.out GWz3.out⟩,⟨oB2 GEz2.out GEz3.out⟩⟩
  case rest=>as_aux_lemma =>
  clear HC32
  obtain ⟨kq,HA,HJ31,HO_1,BKz2,BKz3,HK,HB⟩:=hcut
  cases kq with
  | zero=>exact absurd HA.out (by simp [spec_Layout_value.j1])
  | succ kj31 =>
   have H:=HA.out
   clear HA
   simp only [spec_Layout_value.j1] at H
   by_cases c46:a3_0=5
   ·
    rw [if_pos c46] at H
    have c46b0:(a3_0 == 5)=true:=beq_iff_eq.mpr c46
    have c46b1:(a3_0 != 5)=false:=bne_eq_false_iff_eq.mpr c46
    clear c46
    replace H:=Option.bind_eq_some_iff.mp H
    obtain ⟨tz12,A470,H⟩:=H
    replace H:(some tz12)=some r:=H
    have A47:=Ak A470
    clear A470
    obtain rfl:=Option.some.inj H
    have hnb48:=NBz3_148001.out
    have hnc48:=NBz2_148002.out
    have hcz49_0:wc.cell? ⟨gbz3,0,none⟩=some (.int .i64 a3_0):=(blk_cell BKz3.out 0).trans rfl
    have hcz49_1:wc.cell? ⟨gbz3,1,none⟩=some (.int .i64 a3_1):=(blk_cell BKz3.out 1).trans rfl
    have hcz49_2:wc.cell? ⟨gbz3,2,none⟩=some (.int .i64 a3_2):=(blk_cell BKz3.out 2).trans rfl
    have hcz49_3:wc.cell? ⟨gbz3,3,none⟩=some (.slice A3_3 l3_3.length c3_3):=(blk_cell BKz3.out 3).trans rfl
    have hcz49_4:wc.cell? ⟨gbz3,4,none⟩=some (.slice A3_4 l3_4.length c3_4):=(blk_cell BKz3.out 4).trans rfl
    have hfz49_0:=blk_frozen BKz3.out 0
    have hfz49_1:=blk_frozen BKz3.out 1
    have hfz49_2:=blk_frozen BKz3.out 2
    have hfz49_3:=blk_frozen BKz3.out 3
    have hfz49_4:=blk_frozen BKz3.out 4
    have hcz50_0:wc.cell? ⟨gbz2,0,none⟩=some (.string a0_0):=(blk_cell BKz2.out 0).trans rfl
    have hcz50_1:wc.cell? ⟨gbz2,1,none⟩=some (.string a0_1):=(blk_cell BKz2.out 1).trans rfl
    have hcz50_2:wc.cell? ⟨gbz2,2,none⟩=some (.int .i64 a0_2):=(blk_cell BKz2.out 2).trans rfl
    have hfz50_0:=blk_frozen BKz2.out 0
    have hfz50_1:=blk_frozen BKz2.out 1
    have hfz50_2:=blk_frozen BKz2.out 2
    obtain ⟨Ao51,co51,eo51⟩:=Kd.R_slice HO_1.out
    subst eo51
    go_wp2_with (first|((with_reducible refine gate_callee (f:=25) rfl ?_);refine goesL_ (some 60) rfl rfl Try.func25 (by kernel_rfl) rfl #[.agg #[.string a0_0, .string a0_1, .int .i64 a0_2], .slice Ao51 l1.length co51, .string a2, .agg #[.int .i64 a3_0, .int .i64 a3_1, .int .i64 a3_2, .slice A3_3 l3_3.length c3_3, .slice A3_4 l3_4.length c3_4], .string a4] rfl oM ?_;(with_reducible refine (ih_25 kj31 (by have:=HJ14.out;have:=HJ31.out;omega) a0_0 a0_1 a0_2 (fun k_=>some k_=(.slice Ao51 l1.length co51:Value).ownBlock) (.slice Ao51 l1.length co51) l1 a2 a3_0 a3_1 a3_2 _ _ l3_3 _ _ l3_4 a4 tz12 w0 _ ?side1 ?side2 ?side3 ?side4 ?side5 ?side6 A47.out).mono ?_);(case side1=>exact oB2 GEz2.out GEz3.out);(case side2=>exact Kd.R_tight rfl HO_1.out);(case side3=>exact Kd.C_kept_call HR3_3.out (oP2 GWz2.out GWz3.out) (fun k_ hs_=>(fun e_=>(HO_1.out.1 k_ e_.symm)) hs_));(case side4=>exact HC3_3.out);(case side5=>exact Kd.C_kept_call HR3_4.out (oP2 GWz2.out GWz3.out) (fun k_ hs_=>(fun e_=>(HO_1.out.1 k_ e_.symm)) hs_));(case side6=>exact HC3_4.out);rintro e w52 ⟨vz13,rfl,ho0,hb,hkp⟩;refine ⟨_,rfl,?_⟩;have _:=Ak (blk_kept (oL BKz2.out) hkp (fun hs_=>(fun e_=>(Kd.R_ne HO_1.out BKz2.out (by decide)) e_) hs_));have _:=Ak (blk_kept (oL BKz3.out) hkp (fun hs_=>(fun e_=>(Kd.R_ne HO_1.out BKz3.out (by decide)) e_) hs_));have _:=Ak (Kd.R_mono (ok':=fun k_=>(P1_ k_∨w.heap.size≤k_)) ho0 (fun k_ hk_=>Or.elim hk_ (fun hs_=>(HO_1.out.1 k_ (hs_).symm)) (fun hn_=>(.inr (Nat.le_trans (by first|exact HK.out.1|exact (show Kept w _ (fun k_=>P1_ k_) from oP2 GWz2.out GWz3.out).1) hn_)))));have _:=Ak (Kept.then_ (S:=(fun k_=>P1_ k_)) (oP2 GWz2.out GWz3.out) hkp (fun k_ hs_=>(fun e_=>(HO_1.out.1 k_ e_.symm)) hs_));have _:=Ak (hb);clear BKz2 BKz3 HK HB HO_1;rename_i BKz2 BKz3 HOz14 HK HB;(try clear hb);(try clear hkp);(try clear ho0)))
    go_ret
    exact ⟨_,oE,oR HOz14.out,oB2 GEz2.out GEz3.out,oP2 GWz2.out GWz3.out⟩
   rw [if_neg c46] at H
   have c46b0:(a3_0 == 5)=false:=beq_eq_false_iff_ne.mpr c46
   have c46b1:(a3_0 != 5)=true:=bne_iff_ne.mpr c46
   by_cases c53:a4.size+a0_1.size≤9223372036854775807
   ·
    rw [if_pos c53] at H
    have c53b0:=eq_true c53
    have c53b1:decide (a4.size+a0_1.size≤9223372036854775807)=true:=decide_eq_true c53
    try have c53b2:(9223372036854775807<a4.size+a0_1.size)=False:=eq_false (Nat.not_lt.2 c53)
    by_cases c54:l1.length<140737488355328
    rotate_left
    ·
     rw [if_neg c54] at H
     exact absurd H (by simp)
    rw [if_pos c54] at H
    have LMc54:=Ak c54
    clear c54
    obtain ⟨yz15,hyz15⟩ : ∃ y_:List Int,y_=(l1++[123]):=⟨_,rfl⟩
    replace H:(spec_Layout_value.l0 kj31 yz15 a2 a4 (a4++a0_1) (l3_4.length:Int) 0 a0_0 a0_1 a0_2 a3_0 a3_1 a3_2 l3_3 l3_4)=some r:=by first|(rw [hyz15];with_reducible exact H)|(have H2_:=(Option.bind_some _ _).symm.trans H;rw [hyz15];with_reducible exact H2_)|(have H2_:=(Option.bind_some _ _).symm.trans H;with_reducible exact H2_)|with_reducible exact H|(rw [hyz15];exact H)|exact H
    have Nyz15:=Ak hyz15
    clear hyz15
    have H':=Ak H
    clear H
    have hnb55:=NBz3_148001.out
    have hnc55:=NBz2_148002.out
    have hcz56_0:wc.cell? ⟨gbz3,0,none⟩=some (.int .i64 a3_0):=(blk_cell BKz3.out 0).trans rfl
    have hcz56_1:wc.cell? ⟨gbz3,1,none⟩=some (.int .i64 a3_1):=(blk_cell BKz3.out 1).trans rfl
    have hcz56_2:wc.cell? ⟨gbz3,2,none⟩=some (.int .i64 a3_2):=(blk_cell BKz3.out 2).trans rfl
    have hcz56_3:wc.cell? ⟨gbz3,3,none⟩=some (.slice A3_3 l3_3.length c3_3):=(blk_cell BKz3.out 3).trans rfl
    have hcz56_4:wc.cell? ⟨gbz3,4,none⟩=some (.slice A3_4 l3_4.length c3_4):=(blk_cell BKz3.out 4).trans rfl
    have hfz56_0:=blk_frozen BKz3.out 0
    have hfz56_1:=blk_frozen BKz3.out 1
    have hfz56_2:=blk_frozen BKz3.out 2
    have hfz56_3:=blk_frozen BKz3.out 3
    have hfz56_4:=blk_frozen BKz3.out 4
    have hcz57_0:wc.cell? ⟨gbz2,0,none⟩=some (.string a0_0):=(blk_cell BKz2.out 0).trans rfl
    have hcz57_1:wc.cell? ⟨gbz2,1,none⟩=some (.string a0_1):=(blk_cell BKz2.out 1).trans rfl
    have hcz57_2:wc.cell? ⟨gbz2,2,none⟩=some (.int .i64 a0_2):=(blk_cell BKz2.out 2).trans rfl
    have hfz57_0:=blk_frozen BKz2.out 0
    have hfz57_1:=blk_frozen BKz2.out 1
    have hfz57_2:=blk_frozen BKz2.out 2
    go_wp2_with (first|((with_reducible refine gate_builtin (b := .append) (xs := #[.tmp 65, .tmp 66]) rfl ?_);at_builtin;refine Kd.R_append (Kd.int .u8) (w0:=w0) w0.heap.size rfl (.tmp 65) (.tmp 66) 44 5 (.int .u8 0) 1 rfl Try.underlying44 info5 rfl (by decide) (by omega) u9000_ l1 123 [.int .u8 123] (fun k_=>(P1_ k_∨w.heap.size≤k_)) (fun _=>False) rfl rfl ?aP (fun _ hk=>hk.elim) ?aF ?aO ?aB ?aS ?aL ?_;(case aP=>exact rfl);(case aB=>exact (oB2 GEz2.out GEz3.out));(case aF=>exact (fun k_ hk=>(.inr (Nat.le_trans (by first|exact HK.out.1|exact (show Kept w _ (fun k_=>P1_ k_) from oP2 GWz2.out GWz3.out).1) hk))));(case aO=>exact (oR HO_1.out));(case aS=>exact (below_size (oB2 GEz2.out GEz3.out)));(case aL=>have:=LMc54.out;omega);intro vz16 w58 ho hb hg hat;rw [← Nyz15.out] at ho;have _:=Ak (blk_grown (g:=gbz2) (o := .cells #[.string a0_0, .string a0_1, .int .i64 a0_2] 33 (0,0)) (oL BKz2.out) hg (Kd.R_ne HO_1.out BKz2.out (by decide)));have _:=Ak (blk_grown (g:=gbz3) (o := .cells #[.int .i64 a3_0, .int .i64 a3_1, .int .i64 a3_2, .slice A3_3 l3_3.length c3_3, .slice A3_4 l3_4.length c3_4] 28 (0,0)) (oL BKz3.out) hg (Kd.R_ne HO_1.out BKz3.out (by decide)));have _:=Ak (hb);have _:=Ak (Kept.of_grown (S:=(fun k_=>P1_ k_)) hg (oP2 GWz2.out GWz3.out) (fun k_ e_=>(HO_1.out.1 k_ e_)));have _:=Ak (ho);clear BKz2 BKz3 HB HK HO_1;rename_i BKz2 BKz3 HB HK HOz17;clear ho hb hg hat;have hcz59_0:w58.cell? ⟨gbz3,0,none⟩=some (.int .i64 a3_0):=(blk_cell BKz3.out 0).trans rfl;have hcz59_1:w58.cell? ⟨gbz3,1,none⟩=some (.int .i64 a3_1):=(blk_cell BKz3.out 1).trans rfl;have hcz59_2:w58.cell? ⟨gbz3,2,none⟩=some (.int .i64 a3_2):=(blk_cell BKz3.out 2).trans rfl;have hcz59_3:w58.cell? ⟨gbz3,3,none⟩=some (.slice A3_3 l3_3.length c3_3):=(blk_cell BKz3.out 3).trans rfl;have hcz59_4:w58.cell? ⟨gbz3,4,none⟩=some (.slice A3_4 l3_4.length c3_4):=(blk_cell BKz3.out 4).trans rfl;have hfz59_0:=blk_frozen BKz3.out 0;have hfz59_1:=blk_frozen BKz3.out 1;have hfz59_2:=blk_frozen BKz3.out 2;have hfz59_3:=blk_frozen BKz3.out 3;have hfz59_4:=blk_frozen BKz3.out 4))
    (try simp only [Act.put,List.setIfInBounds_toArray,List.set_cons_zero,List.set_cons_succ])
    go_loopg [1,71] kj31 (fun kq v1 v71 w' => ∃ (x1_3:List Int) (x71_3:Int),v71 = .int .i64 x71_3∧Aside0 (spec_Layout_value.l0 kq x1_3 a2 a4 (a4++a0_1) (l3_4.length:Int) x71_3 a0_0 a0_1 a0_2 a3_0 a3_1 a3_2 l3_3 l3_4=some r)∧Aside0 (kq≤kj31)∧Aside0 (Kd.R (Kd.int .u8) 5 w' w0.heap.size (fun k_=>(P1_ k_∨w.heap.size≤k_)) v1 x1_3)∧Aside0 (w'.heap[gbz2]? = some (.cells #[.string a0_0, .string a0_1, .int .i64 a0_2] 33 (0,0)))∧Aside0 (w'.heap[gbz3]? = some (.cells #[.int .i64 a3_0, .int .i64 a3_1, .int .i64 a3_2,(.slice A3_3 l3_3.length c3_3),(.slice A3_4 l3_4.length c3_4)] 28 (0,0)))∧Aside0 (Kept w w' (fun k_=>P1_ k_))∧Aside0 (Below w0.heap.size w0 w'))
    case atStart=>exact ⟨(yz15),(0),oS,H',⟨Nat.le_refl _⟩,⟨oR HOz17.out⟩,⟨oL BKz2.out⟩,⟨oL BKz3.out⟩,⟨oP2 GWz2.out GWz3.out⟩,⟨oB2 GEz2.out GEz3.out⟩⟩
    case round =>
    clear H'
    clear c46 c46b0 c46b1 c53 c53b0 c53b1 c53b2 hcz56_0 hcz56_1 hcz56_2 hcz56_3 hcz56_4 hcz57_0 hcz57_1 hcz57_2 hcz59_0 hcz59_1 hcz59_2 hcz59_3 hcz59_4 hfz56_0 hfz56_1 hfz56_2 hfz56_3 hfz56_4 hfz57_0 hfz57_1 hfz57_2 hfz59_0 hfz59_1 hfz59_2 hfz59_3 hfz59_4
    obtain ⟨x1_3,x71_3,rfl,HA,HK3,HO_1,BKz2,BKz3,HK,HB⟩:=hrel
    cases gk with
    | zero=>exact absurd HA.out (by simp [spec_Layout_value.l0])
    | succ k3 =>
     have H:=HA.out
     clear HA
     simp only [spec_Layout_value.l0] at H
     by_cases c60:x71_3<(l3_4.length:Int)
     rotate_left
     ·
      rw [if_neg c60] at H
      have c60b0:decide (x71_3<(l3_4.length:Int))=false:=decide_eq_false c60
      clear c60
      by_cases c108:x1_3.length<140737488355328
      rotate_left
      ·
       rw [if_neg c108] at H
       exact absurd H (by simp)
      rw [if_pos c108] at H
      have LMc108:=Ak c108
      clear c108
      obtain ⟨yz63,hyz63⟩ : ∃ y_:List Int,y_=(x1_3++[10]):=⟨_,rfl⟩
      replace H:(if yz63.length+a4.size<140737488355328 then ((some (yz63++bytesOf a4:List Int)).bind fun yz64=>(if yz64.length<140737488355328 then (some (yz64++[125])) else (none))) else (none))=some r:=by first|(rw [hyz63];with_reducible exact H)|(have H2_:=(Option.bind_some _ _).symm.trans H;rw [hyz63];with_reducible exact H2_)|(have H2_:=(Option.bind_some _ _).symm.trans H;with_reducible exact H2_)|with_reducible exact H|(rw [hyz63];exact H)|exact H
      have Nyz63:=Ak hyz63
      clear hyz63
      by_cases c109:yz63.length+a4.size<140737488355328
      ·
       rw [if_pos c109] at H
       have LMc109:=Ak c109
       clear c109
       obtain ⟨yz64,hyz64⟩ : ∃ y_:List Int,y_=(yz63++bytesOf a4):=⟨_,rfl⟩
       replace H:(if yz64.length<140737488355328 then (some (yz64++[125])) else (none))=some r:=by first|(rw [hyz64];with_reducible exact H)|(have H2_:=(Option.bind_some _ _).symm.trans H;rw [hyz64];with_reducible exact H2_)|(have H2_:=(Option.bind_some _ _).symm.trans H;with_reducible exact H2_)|with_reducible exact H|(rw [hyz64];exact H)|exact H
       have Nyz64:=Ak hyz64
       clear hyz64
       by_cases c110:yz64.length<140737488355328
       rotate_left
       ·
        rw [if_neg c110] at H
        exact absurd H (by simp)
       rw [if_pos c110] at H
       have LMc110:=Ak c110
       clear c110
       obtain ⟨yz65,hyz65⟩ : ∃ y_:List Int,y_=(yz64++[125]):=⟨_,rfl⟩
       replace H:(some yz65)=some r:=by first|(rw [hyz65];with_reducible exact H)|(have H2_:=(Option.bind_some _ _).symm.trans H;rw [hyz65];with_reducible exact H2_)|(have H2_:=(Option.bind_some _ _).symm.trans H;with_reducible exact H2_)|with_reducible exact H|(rw [hyz65];exact H)|exact H
       have Nyz65:=Ak hyz65
       clear hyz65
       obtain rfl:=Option.some.inj H
       go_wp2_with (first|((with_reducible refine gate_builtin (b := .append) (xs := #[.tmp 122, .tmp 123]) rfl ?_);at_builtin;refine Kd.R_append (Kd.int .u8) (w0:=w0) w0.heap.size rfl (.tmp 122) (.tmp 123) 44 5 (.int .u8 0) 1 rfl Try.underlying44 info5 rfl (by decide) (by omega) u1 x1_3 10 [.int .u8 10] (fun k_=>(P1_ k_∨w.heap.size≤k_)) (fun _=>False) rfl rfl ?aP (fun _ hk=>hk.elim) ?aF ?aO ?aB ?aS ?aL ?_;(case aP=>exact rfl);(case aB=>exact (oB2 GEz2.out GEz3.out));(case aF=>exact (fun k_ hk=>(.inr (Nat.le_trans (by first|exact HK.out.1|exact (show Kept w _ (fun k_=>P1_ k_) from oP2 GWz2.out GWz3.out).1) hk))));(case aO=>exact (oR HO_1.out));(case aS=>exact (below_size (oB2 GEz2.out GEz3.out)));(case aL=>have:=LMc108.out;omega);intro vz66 w111 ho hb hg hat;rw [← Nyz63.out] at ho;have _:=Ak (blk_grown (g:=gbz2) (o := .cells #[.string a0_0, .string a0_1, .int .i64 a0_2] 33 (0,0)) (oL BKz2.out) hg (Kd.R_ne HO_1.out BKz2.out (by decide)));have _:=Ak (blk_grown (g:=gbz3) (o := .cells #[.int .i64 a3_0, .int .i64 a3_1, .int .i64 a3_2, .slice A3_3 l3_3.length c3_3, .slice A3_4 l3_4.length c3_4] 28 (0,0)) (oL BKz3.out) hg (Kd.R_ne HO_1.out BKz3.out (by decide)));have _:=Ak (hb);have _:=Ak (Kept.of_grown (S:=(fun k_=>P1_ k_)) hg (oP2 GWz2.out GWz3.out) (fun k_ e_=>(HO_1.out.1 k_ e_)));have _:=Ak (ho);clear BKz2 BKz3 HB HK HO_1;rename_i BKz2 BKz3 HB HK HOz67;clear ho hb hg hat)|((with_reducible refine gate_builtin (b := .append) (xs := #[.tmp 125,_]) rfl ?_);at_builtin;refine Kd.R_append_str (w0:=w0) w0.heap.size rfl (.tmp 125) _ 44 9 5 rfl Try.underlying44 Try.underlying9 info5 vz66 yz63 a4 (fun k_=>(P1_ k_∨w.heap.size≤k_)) rfl rfl ?aO ?aF ?aB ?aS ?aL ?_;(case aB=>exact (oB2 GEz2.out GEz3.out));(case aF=>exact (fun k_ hk=>(.inr (Nat.le_trans (by first|exact HK.out.1|exact (show Kept w _ (fun k_=>P1_ k_) from oP2 GWz2.out GWz3.out).1) hk))));(case aO=>exact (oR HOz67.out));(case aS=>exact (below_size (oB2 GEz2.out GEz3.out)));(case aL=>have:=LMc109.out;omega);intro vz68 w112 ho hb hg hat;rw [← Nyz64.out] at ho;have _:=Ak (blk_grown (g:=gbz2) (o := .cells #[.string a0_0, .string a0_1, .int .i64 a0_2] 33 (0,0)) (oL BKz2.out) hg (Kd.R_ne HOz67.out BKz2.out (by decide)));have _:=Ak (blk_grown (g:=gbz3) (o := .cells #[.int .i64 a3_0, .int .i64 a3_1, .int .i64 a3_2, .slice A3_3 l3_3.length c3_3, .slice A3_4 l3_4.length c3_4] 28 (0,0)) (oL BKz3.out) hg (Kd.R_ne HOz67.out BKz3.out (by decide)));have _:=Ak (hb);have _:=Ak (Kept.of_grown (S:=(fun k_=>P1_ k_)) hg (oP2 GWz2.out GWz3.out) (fun k_ e_=>(HOz67.out.1 k_ e_)));have _:=Ak (ho);clear BKz2 BKz3 HB HK HOz67;rename_i BKz2 BKz3 HB HK HOz69;clear ho hb hg hat)|((with_reducible refine gate_builtin (b := .append) (xs := #[.tmp 128, .tmp 129]) rfl ?_);at_builtin;refine Kd.R_append (Kd.int .u8) (w0:=w0) w0.heap.size rfl (.tmp 128) (.tmp 129) 44 5 (.int .u8 0) 1 rfl Try.underlying44 info5 rfl (by decide) (by omega) vz68 yz64 125 [.int .u8 125] (fun k_=>(P1_ k_∨w.heap.size≤k_)) (fun _=>False) rfl rfl ?aP (fun _ hk=>hk.elim) ?aF ?aO ?aB ?aS ?aL ?_;(case aP=>exact rfl);(case aB=>exact (oB2 GEz2.out GEz3.out));(case aF=>exact (fun k_ hk=>(.inr (Nat.le_trans (by first|exact HK.out.1|exact (show Kept w _ (fun k_=>P1_ k_) from oP2 GWz2.out GWz3.out).1) hk))));(case aO=>exact (oR HOz69.out));(case aS=>exact (below_size (oB2 GEz2.out GEz3.out)));(case aL=>have:=LMc110.out;omega);intro vz70 w113 ho hb hg hat;rw [← Nyz65.out] at ho;have _:=Ak (blk_grown (g:=gbz2) (o := .cells #[.string a0_0, .string a0_1, .int .i64 a0_2] 33 (0,0)) (oL BKz2.out) hg (Kd.R_ne HOz69.out BKz2.out (by decide)));have _:=Ak (blk_grown (g:=gbz3) (o := .cells #[.int .i64 a3_0, .int .i64 a3_1, .int .i64 a3_2, .slice A3_3 l3_3.length c3_3, .slice A3_4 l3_4.length c3_4] 28 (0,0)) (oL BKz3.out) hg (Kd.R_ne HOz69.out BKz3.out (by decide)));have _:=Ak (hb);have _:=Ak (Kept.of_grown (S:=(fun k_=>P1_ k_)) hg (oP2 GWz2.out GWz3.out) (fun k_ e_=>(HOz69.out.1 k_ e_)));have _:=Ak (ho);clear BKz2 BKz3 HB HK HOz69;rename_i BKz2 BKz3 HB HK HOz71;clear ho hb hg hat))
       go_ret
       exact ⟨_,oE,oR HOz71.out,oB2 GEz2.out GEz3.out,oP2 GWz2.out GWz3.out⟩
      rw [if_neg c109] at H
      exact absurd H (by simp)
     rw [if_pos c60] at H
     have c60b0:decide (x71_3<(l3_4.length:Int))=true:=decide_eq_true c60
     clear c60
     by_cases c61:x71_3>0
     ·
      rw [if_pos c61] at H
      have c61b0:decide (0<x71_3)=true:=decide_eq_true c61
      clear c61
      by_cases c62:x1_3.length<140737488355328
      rotate_left
      ·
       rw [if_neg c62] at H
       exact absurd H (by simp)
      rw [if_pos c62] at H
      have LMc62:=Ak c62
      clear c62
      obtain ⟨yz18,hyz18⟩ : ∃ y_:List Int,y_=(x1_3++[44]):=⟨_,rfl⟩
      replace H:(if 0≤x71_3 then (if x71_3<(l3_3.length:Int) then (if 0≤((rd_T52 l3_3 x71_3).f0) then (if ((rd_T52 l3_3 x71_3).f0)≤((rd_T52 l3_3 x71_3).f1) then (if ((rd_T52 l3_3 x71_3).f1)≤(a2.size:Int) then (if yz18.length<140737488355328 then ((some (yz18++[10]:List Int)).bind fun yz19=>(if yz19.length+(a4++a0_1).size<140737488355328 then ((some (yz19++bytesOf (a4++a0_1):List Int)).bind fun yz20=>(if yz20.length+(a2.extract (((rd_T52 l3_3 x71_3).f0):Int).toNat (((rd_T52 l3_3 x71_3).f1):Int).toNat).size<140737488355328 then ((some (yz20++bytesOf (a2.extract (((rd_T52 l3_3 x71_3).f0):Int).toNat (((rd_T52 l3_3 x71_3).f1):Int).toNat):List Int)).bind fun yz21=>((some (([58,32]:List Int):List Int)).bind fun yz22=>(if yz21.length+yz22.length<140737488355328 then (if x71_3<(l3_4.length:Int) then ((spec_Layout_value.f k3 a0_0 a0_1 a0_2 (yz21++yz22) a2 ((rd_T28 l3_4 x71_3).f0) ((rd_T28 l3_4 x71_3).f1) ((rd_T28 l3_4 x71_3).f2) ((rd_T28 l3_4 x71_3).f3) ((rd_T28 l3_4 x71_3).f4) (a4++a0_1) (wrap64 ((wrap64 (((a4++a0_1).size:Int)+((a2.extract (((rd_T52 l3_3 x71_3).f0):Int).toNat (((rd_T52 l3_3 x71_3).f1):Int).toNat).size:Int)))+3))).bind fun tz23=>(spec_Layout_value.l0 k3 tz23 a2 a4 (a4++a0_1) (l3_4.length:Int) (wrap64 (x71_3+1)) a0_0 a0_1 a0_2 a3_0 a3_1 a3_2 l3_3 l3_4)) else (none)) else (none)))) else (none))) else (none))) else (none)) else (none)) else (none)) else (none)) else (none)) else (none))=some r:=by first|(rw [hyz18];with_reducible exact H)|(have H2_:=(Option.bind_some _ _).symm.trans H;rw [hyz18];with_reducible exact H2_)|(have H2_:=(Option.bind_some _ _).symm.trans H;with_reducible exact H2_)|with_reducible exact H|(rw [hyz18];exact H)|exact H
      have Nyz18:=Ak hyz18
      clear hyz18
      by_cases c63:0≤x71_3
      ·
       rw [if_pos c63] at H
       have c63b0:decide (0≤x71_3)=true:=decide_eq_true c63
       clear c63
       by_cases c64:x71_3<(l3_3.length:Int)
       rotate_left
       ·
        rw [if_neg c64] at H
        exact absurd H (by simp)
       rw [if_pos c64] at H
       have c64b0:decide (x71_3<(l3_3.length:Int))=true:=decide_eq_true c64
       clear c64
       by_cases c65:0≤((rd_T52 l3_3 x71_3).f0)
       ·
        rw [if_pos c65] at H
        have c65b0:=eq_true c65
        have c65b1:decide (0≤((rd_T52 l3_3 x71_3).f0))=true:=decide_eq_true c65
        clear c65
        by_cases c66:((rd_T52 l3_3 x71_3).f0)≤((rd_T52 l3_3 x71_3).f1)
        rotate_left
        ·
         rw [if_neg c66] at H
         exact absurd H (by simp)
        rw [if_pos c66] at H
        have c66b0:=eq_true c66
        have c66b1:decide (((rd_T52 l3_3 x71_3).f0)≤((rd_T52 l3_3 x71_3).f1))=true:=decide_eq_true c66
        clear c66
        by_cases c67:((rd_T52 l3_3 x71_3).f1)≤(a2.size:Int)
        ·
         rw [if_pos c67] at H
         have c67b0:=eq_true c67
         have c67b1:decide (((rd_T52 l3_3 x71_3).f1)≤(a2.size:Int))=true:=decide_eq_true c67
         clear c67
         by_cases c68:yz18.length<140737488355328
         rotate_left
         ·
          rw [if_neg c68] at H
          exact absurd H (by simp)
         rw [if_pos c68] at H
         have LMc68:=Ak c68
         clear c68
         obtain ⟨yz19,hyz19⟩ : ∃ y_:List Int,y_=(yz18++[10]):=⟨_,rfl⟩
         replace H:(if yz19.length+(a4++a0_1).size<140737488355328 then ((some (yz19++bytesOf (a4++a0_1):List Int)).bind fun yz20=>(if yz20.length+(a2.extract (((rd_T52 l3_3 x71_3).f0):Int).toNat (((rd_T52 l3_3 x71_3).f1):Int).toNat).size<140737488355328 then ((some (yz20++bytesOf (a2.extract (((rd_T52 l3_3 x71_3).f0):Int).toNat (((rd_T52 l3_3 x71_3).f1):Int).toNat):List Int)).bind fun yz21=>((some (([58,32]:List Int):List Int)).bind fun yz22=>(if yz21.length+yz22.length<140737488355328 then (if x71_3<(l3_4.length:Int) then ((spec_Layout_value.f k3 a0_0 a0_1 a0_2 (yz21++yz22) a2 ((rd_T28 l3_4 x71_3).f0) ((rd_T28 l3_4 x71_3).f1) ((rd_T28 l3_4 x71_3).f2) ((rd_T28 l3_4 x71_3).f3) ((rd_T28 l3_4 x71_3).f4) (a4++a0_1) (wrap64 ((wrap64 (((a4++a0_1).size:Int)+((a2.extract (((rd_T52 l3_3 x71_3).f0):Int).toNat (((rd_T52 l3_3 x71_3).f1):Int).toNat).size:Int)))+3))).bind fun tz23=>(spec_Layout_value.l0 k3 tz23 a2 a4 (a4++a0_1) (l3_4.length:Int) (wrap64 (x71_3+1)) a0_0 a0_1 a0_2 a3_0 a3_1 a3_2 l3_3 l3_4)) else (none)) else (none)))) else (none))) else (none))=some r:=by first|(rw [hyz19];with_reducible exact H)|(have H2_:=(Option.bind_some _ _).symm.trans H;rw [hyz19];with_reducible exact H2_)|(have H2_:=(Option.bind_some _ _).symm.trans H;with_reducible exact H2_)|with_reducible exact H|(rw [hyz19];exact H)|exact H
         have Nyz19:=Ak hyz19
         clear hyz19
         by_cases c69:yz19.length+(a4++a0_1).size<140737488355328
         ·
          rw [if_pos c69] at H
          have LMc69:=Ak c69
          clear c69
          obtain ⟨yz20,hyz20⟩ : ∃ y_:List Int,y_=(yz19++bytesOf (a4++a0_1)):=⟨_,rfl⟩
          replace H:(if yz20.length+(a2.extract (((rd_T52 l3_3 x71_3).f0):Int).toNat (((rd_T52 l3_3 x71_3).f1):Int).toNat).size<140737488355328 then ((some (yz20++bytesOf (a2.extract (((rd_T52 l3_3 x71_3).f0):Int).toNat (((rd_T52 l3_3 x71_3).f1):Int).toNat):List Int)).bind fun yz21=>((some (([58,32]:List Int):List Int)).bind fun yz22=>(if yz21.length+yz22.length<140737488355328 then (if x71_3<(l3_4.length:Int) then ((spec_Layout_value.f k3 a0_0 a0_1 a0_2 (yz21++yz22) a2 ((rd_T28 l3_4 x71_3).f0) ((rd_T28 l3_4 x71_3).f1) ((rd_T28 l3_4 x71_3).f2) ((rd_T28 l3_4 x71_3).f3) ((rd_T28 l3_4 x71_3).f4) (a4++a0_1) (wrap64 ((wrap64 (((a4++a0_1).size:Int)+((a2.extract (((rd_T52 l3_3 x71_3).f0):Int).toNat (((rd_T52 l3_3 x71_3).f1):Int).toNat).size:Int)))+3))).bind fun tz23=>(spec_Layout_value.l0 k3 tz23 a2 a4 (a4++a0_1) (l3_4.length:Int) (wrap64 (x71_3+1)) a0_0 a0_1 a0_2 a3_0 a3_1 a3_2 l3_3 l3_4)) else (none)) else (none)))) else (none))=some r:=by first|(rw [hyz20];with_reducible exact H)|(have H2_:=(Option.bind_some _ _).symm.trans H;rw [hyz20];with_reducible exact H2_)|(have H2_:=(Option.bind_some _ _).symm.trans H;with_reducible exact H2_)|with_reducible exact H|(rw [hyz20];exact H)|exact H
          have Nyz20:=Ak hyz20
          clear hyz20
          by_cases c70:yz20.length+(a2.extract (((rd_T52 l3_3 x71_3).f0):Int).toNat (((rd_T52 l3_3 x71_3).f1):Int).toNat).size<140737488355328
          rotate_left
          ·
           rw [if_neg c70] at H
           exact absurd H (by simp)
          rw [if_pos c70] at H
          have LMc70:=Ak c70
          clear c70
          obtain ⟨yz21,hyz21⟩ : ∃ y_:List Int,y_=(yz20++bytesOf (a2.extract (((rd_T52 l3_3 x71_3).f0):Int).toNat (((rd_T52 l3_3 x71_3).f1):Int).toNat)):=⟨_,rfl⟩
          replace H:((some (([58,32]:List Int):List Int)).bind fun yz22=>(if yz21.length+yz22.length<140737488355328 then (if x71_3<(l3_4.length:Int) then ((spec_Layout_value.f k3 a0_0 a0_1 a0_2 (yz21++yz22) a2 ((rd_T28 l3_4 x71_3).f0) ((rd_T28 l3_4 x71_3).f1) ((rd_T28 l3_4 x71_3).f2) ((rd_T28 l3_4 x71_3).f3) ((rd_T28 l3_4 x71_3).f4) (a4++a0_1) (wrap64 ((wrap64 (((a4++a0_1).size:Int)+((a2.extract (((rd_T52 l3_3 x71_3).f0):Int).toNat (((rd_T52 l3_3 x71_3).f1):Int).toNat).size:Int)))+3))).bind fun tz23=>(spec_Layout_value.l0 k3 tz23 a2 a4 (a4++a0_1) (l3_4.length:Int) (wrap64 (x71_3+1)) a0_0 a0_1 a0_2 a3_0 a3_1 a3_2 l3_3 l3_4)) else (none)) else (none)))=some r:=by first|(rw [hyz21];with_reducible exact H)|(have H2_:=(Option.bind_some _ _).symm.trans H;rw [hyz21];with_reducible exact H2_)|(have H2_:=(Option.bind_some _ _).symm.trans H;with_reducible exact H2_)|with_reducible exact H|(rw [hyz21];exact H)|exact H
          have Nyz21:=Ak hyz21
          clear hyz21
          obtain ⟨yz22,hyz22⟩ : ∃ y_:List Int,y_=(([58,32]:List Int)):=⟨_,rfl⟩
          replace H:(if yz21.length+yz22.length<140737488355328 then (if x71_3<(l3_4.length:Int) then ((spec_Layout_value.f k3 a0_0 a0_1 a0_2 (yz21++yz22) a2 ((rd_T28 l3_4 x71_3).f0) ((rd_T28 l3_4 x71_3).f1) ((rd_T28 l3_4 x71_3).f2) ((rd_T28 l3_4 x71_3).f3) ((rd_T28 l3_4 x71_3).f4) (a4++a0_1) (wrap64 ((wrap64 (((a4++a0_1).size:Int)+((a2.extract (((rd_T52 l3_3 x71_3).f0):Int).toNat (((rd_T52 l3_3 x71_3).f1):Int).toNat).size:Int)))+3))).bind fun tz23=>(spec_Layout_value.l0 k3 tz23 a2 a4 (a4++a0_1) (l3_4.length:Int) (wrap64 (x71_3+1)) a0_0 a0_1 a0_2 a3_0 a3_1 a3_2 l3_3 l3_4)) else (none)) else (none))=some r:=by first|(rw [hyz22];with_reducible exact H)|(have H2_:=(Option.bind_some _ _).symm.trans H;rw [hyz22];with_reducible exact H2_)|(have H2_:=(Option.bind_some _ _).symm.trans H;with_reducible exact H2_)|with_reducible exact H|(rw [hyz22];exact H)|exact H
          have Nyz22:=Ak hyz22
          clear hyz22
          by_cases c71:yz21.length+yz22.length<140737488355328
          ·
           rw [if_pos c71] at H
           have LMc71:=Ak c71
           clear c71
           obtain ⟨yz24,hyz24⟩ : ∃ y_:List Int,y_=(yz21++yz22):=⟨_,rfl⟩
           replace H:(if x71_3<(l3_4.length:Int) then ((spec_Layout_value.f k3 a0_0 a0_1 a0_2 yz24 a2 ((rd_T28 l3_4 x71_3).f0) ((rd_T28 l3_4 x71_3).f1) ((rd_T28 l3_4 x71_3).f2) ((rd_T28 l3_4 x71_3).f3) ((rd_T28 l3_4 x71_3).f4) (a4++a0_1) (wrap64 ((wrap64 (((a4++a0_1).size:Int)+((a2.extract (((rd_T52 l3_3 x71_3).f0):Int).toNat (((rd_T52 l3_3 x71_3).f1):Int).toNat).size:Int)))+3))).bind fun tz23=>(spec_Layout_value.l0 k3 tz23 a2 a4 (a4++a0_1) (l3_4.length:Int) (wrap64 (x71_3+1)) a0_0 a0_1 a0_2 a3_0 a3_1 a3_2 l3_3 l3_4)) else (none))=some r:=by first|(rw [hyz24];with_reducible exact H)|(have H2_:=(Option.bind_some _ _).symm.trans H;rw [hyz24];with_reducible exact H2_)|(have H2_:=(Option.bind_some _ _).symm.trans H;with_reducible exact H2_)|with_reducible exact H|(rw [hyz24];exact H)|exact H
           have Nyz24:=Ak hyz24
           clear hyz24
           by_cases c72:x71_3<(l3_4.length:Int)
           rotate_left
           ·
            rw [if_neg c72] at H
            exact absurd H (by simp)
           rw [if_pos c72] at H
           have c72b0:decide (x71_3<(l3_4.length:Int))=true:=decide_eq_true c72
           clear c72
           replace H:=Option.bind_eq_some_iff.mp H
           obtain ⟨tz23,A730,H⟩:=H
           replace H:(spec_Layout_value.l0 k3 tz23 a2 a4 (a4++a0_1) (l3_4.length:Int) (wrap64 (x71_3+1)) a0_0 a0_1 a0_2 a3_0 a3_1 a3_2 l3_3 l3_4)=some r:=H
           have A73:=Ak A730
           clear A730
           have H':=Ak H
           clear H
           try go_wp2_with (first|((with_reducible refine gate_builtin (b := .append) (xs := #[.tmp 76, .tmp 77]) rfl ?_);at_builtin;refine Kd.R_append (Kd.int .u8) (w0:=w0) w0.heap.size rfl (.tmp 76) (.tmp 77) 44 5 (.int .u8 0) 1 rfl Try.underlying44 info5 rfl (by decide) (by omega) u1 x1_3 44 [.int .u8 44] (fun k_=>(P1_ k_∨w.heap.size≤k_)) (fun _=>False) rfl rfl ?aP (fun _ hk=>hk.elim) ?aF ?aO ?aB ?aS ?aL ?_;(case aP=>exact rfl);(case aB=>exact (oB2 GEz2.out GEz3.out));(case aF=>exact (fun k_ hk=>(.inr (Nat.le_trans (by first|exact HK.out.1|exact (show Kept w _ (fun k_=>P1_ k_) from oP2 GWz2.out GWz3.out).1) hk))));(case aO=>exact (oR HO_1.out));(case aS=>exact (below_size (oB2 GEz2.out GEz3.out)));(case aL=>have:=LMc62.out;omega);intro vz25 w74 ho hb hg hat;rw [← Nyz18.out] at ho;have _:=Ak (blk_grown (g:=gbz2) (o := .cells #[.string a0_0, .string a0_1, .int .i64 a0_2] 33 (0,0)) (oL BKz2.out) hg (Kd.R_ne HO_1.out BKz2.out (by decide)));have _:=Ak (blk_grown (g:=gbz3) (o := .cells #[.int .i64 a3_0, .int .i64 a3_1, .int .i64 a3_2, .slice A3_3 l3_3.length c3_3, .slice A3_4 l3_4.length c3_4] 28 (0,0)) (oL BKz3.out) hg (Kd.R_ne HO_1.out BKz3.out (by decide)));have _:=Ak (hb);have _:=Ak (Kept.of_grown (S:=(fun k_=>P1_ k_)) hg (oP2 GWz2.out GWz3.out) (fun k_ e_=>(HO_1.out.1 k_ e_)));have _:=Ak (ho);clear BKz2 BKz3 HB HK HO_1;rename_i BKz2 BKz3 HB HK HOz26;clear ho hb hg hat))
           have n0_:=Ak (Kd.R_drew HOz26.out)
           have n1_:=Ak (blk_drew BKz2.out)
           have n2_:=Ak (blk_drew BKz3.out)
           have n3_:=Ak (Kept.drew HK.out)
           have n4_:=Ak (below_drew1 HB.out)
           clear HOz26
           clear BKz2
           clear BKz3
           clear HK
           clear HB
           have HOz26:=n0_
           have BKz2:=n1_
           have BKz3:=n2_
           have HK:=n3_
           have HB:=n4_
           clear n0_ n1_ n2_ n3_ n4_
           have pz27:0≤(x71_3:Int):=of_decide_eq_true oA
           have qz27:x71_3<(l3_3.length:Int):=of_decide_eq_true oA
           obtain ⟨adz27,ez27,hxz27_0,hxz27_1⟩:=at_T52 (Kd.C_kept_now HR3_3.out HK.out) x71_3 pz27 qz27
           have hwz27_1:=hxz27_1
           have hwz27_0:=hxz27_0
           cases ez27
           replace pz27:=eq_true pz27
           replace qz27:=eq_true qz27
           have pz28:0≤(x71_3:Int):=of_decide_eq_true oA
           have qz28:x71_3<(l3_3.length:Int):=of_decide_eq_true oA
           obtain ⟨adz28,ez28,hxz28_0,hxz28_1⟩:=at_T52 (Kd.C_kept_now HR3_3.out HK.out) x71_3 pz28 qz28
           have hwz28_1:=hxz28_1
           have hwz28_0:=hxz28_0
           obtain rfl:adz27=adz28:=(by injection ez28)
           replace pz28:=eq_true pz28
           replace qz28:=eq_true qz28
           refine start_ (n:=15) (S:=fun w'=>w'.cell? ⟨gbz3,0,none⟩=some (.int .i64 a3_0)∧w'.cell? ⟨gbz3,1,none⟩=some (.int .i64 a3_1)∧w'.cell? ⟨gbz3,2,none⟩=some (.int .i64 a3_2)∧w'.cell? ⟨gbz3,3,none⟩=some (.slice (some adz27) l3_3.length c3_3)∧w'.cell? ⟨gbz3,4,none⟩=some (.slice A3_4 l3_4.length c3_4)∧w'.cell? (adz27.add ((x71_3).toNat*2))=some (.int .i64 ((rd_T52 l3_3 x71_3).f0))∧w'.cell? ⟨(adz27.add ((x71_3).toNat*2)).block,(adz27.add ((x71_3).toNat*2)).off+1,none⟩=some (.int .i64 ((rd_T52 l3_3 x71_3).f1))∧w'.cell? (adz27.add ((x71_3).toNat*2))=some (.int .i64 ((rd_T52 l3_3 x71_3).f0))∧w'.cell? ⟨(adz27.add ((x71_3).toNat*2)).block,(adz27.add ((x71_3).toNat*2)).off+1,none⟩=some (.int .i64 ((rd_T52 l3_3 x71_3).f1))) (ds:=[]) #[false,false,false,false,false,false,false,false,false,false,false,false,false,false,false] (by kernel_rfl) rfl rfl ⟨(blk_cell BKz3.out 0).trans rfl,(blk_cell BKz3.out 1).trans rfl,(blk_cell BKz3.out 2).trans rfl,(blk_cell BKz3.out 3).trans rfl,(blk_cell BKz3.out 4).trans rfl,hxz27_0,hxz27_1,hxz28_0,hxz28_1⟩ (fun hHeld=>?_);refine with_tabW spec_Layout_value.tab17 spec_Layout_value.bits17 (fun HT_ HW_=>?_)
           generalize w74.drew=w75 at HOz26 BKz2 BKz3 HK HB hxz27_0 hxz27_1 hxz28_0 hxz28_1 hHeld ⊢
           refine zP 0 (some 79) (mA 15 1) ?_
           refine zP 1 (some 80) (mA 15 3) ?_
           refine zP 3 (some 82) (mA 15 11) ?_
           refine zP 7 (some 86) (mA 15 139) ?_
           refine zP 9 (some 88) (mA 15 651) ?_
           refine zT 2 (some 81) (mA 15 655) ?_
           refine zP 4 (some 83) (mA 15 671) ?_
           refine zP 5 (some 84) (mA 15 703) ?_
           refine zT 6 (some 85) (mA 15 767) ?_
           refine zT 8 (some 87) (mA 15 1023) ?_
           refine zP 10 (some 89) (mA 15 2047) ?_
           refine zP 11 (some 90) (mA 15 4095) ?_
           refine zT 12 (some 91) (mA 15 8191) ?_
           refine zP 13 (some 92) (mA 15 16383) ?_
           refine zP 14 (some 17) (mA 15 32767) ?_
           refine done_ (done_of HT_.out (by kernel_rfl)) ?_
           try go_wp2_with (first|((with_reducible refine gate_builtin (b := .append) (xs := #[.tmp 93, .tmp 94]) rfl ?_);at_builtin;refine Kd.R_append (Kd.int .u8) (w0:=w0) w0.heap.size rfl (.tmp 93) (.tmp 94) 44 5 (.int .u8 0) 1 rfl Try.underlying44 info5 rfl (by decide) (by omega) vz25 yz18 10 [.int .u8 10] (fun k_=>(P1_ k_∨w.heap.size≤k_)) (fun _=>False) rfl rfl ?aP (fun _ hk=>hk.elim) ?aF ?aO ?aB ?aS ?aL ?_;(case aP=>exact rfl);(case aB=>exact (oB2 GEz2.out GEz3.out));(case aF=>exact (fun k_ hk=>(.inr (Nat.le_trans (by first|exact HK.out.1|exact (show Kept w _ (fun k_=>P1_ k_) from oP2 GWz2.out GWz3.out).1) hk))));(case aO=>exact (oR HOz26.out));(case aS=>exact (below_size (oB2 GEz2.out GEz3.out)));(case aL=>have:=LMc68.out;omega);intro vz29 w76 ho hb hg hat;rw [← Nyz19.out] at ho;have _:=Ak (blk_grown (g:=gbz2) (o := .cells #[.string a0_0, .string a0_1, .int .i64 a0_2] 33 (0,0)) (oL BKz2.out) hg (Kd.R_ne HOz26.out BKz2.out (by decide)));have _:=Ak (blk_grown (g:=gbz3) (o := .cells #[.int .i64 a3_0, .int .i64 a3_1, .int .i64 a3_2, .slice (some adz27) l3_3.length c3_3, .slice A3_4 l3_4.length c3_4] 28 (0,0)) (oL BKz3.out) hg (Kd.R_ne HOz26.out BKz3.out (by decide)));have _:=Ak (hb);have _:=Ak (Kept.of_grown (S:=(fun k_=>P1_ k_)) hg (oP2 GWz2.out GWz3.out) (fun k_ e_=>(HOz26.out.1 k_ e_)));have _:=Ak (ho);clear BKz2 BKz3 HB HK HOz26;rename_i BKz2 BKz3 HB HK HOz30;clear ho hb hg hat)|((with_reducible refine gate_builtin (b := .append) (xs := #[.tmp 96,_]) rfl ?_);at_builtin;refine Kd.R_append_str (w0:=w0) w0.heap.size rfl (.tmp 96) _ 44 9 5 rfl Try.underlying44 Try.underlying9 info5 vz29 yz19 (a4++a0_1) (fun k_=>(P1_ k_∨w.heap.size≤k_)) rfl rfl ?aO ?aF ?aB ?aS ?aL ?_;(case aB=>exact (oB2 GEz2.out GEz3.out));(case aF=>exact (fun k_ hk=>(.inr (Nat.le_trans (by first|exact HK.out.1|exact (show Kept w _ (fun k_=>P1_ k_) from oP2 GWz2.out GWz3.out).1) hk))));(case aO=>exact (oR HOz30.out));(case aS=>exact (below_size (oB2 GEz2.out GEz3.out)));(case aL=>have:=LMc69.out;omega);intro vz31 w77 ho hb hg hat;rw [← Nyz20.out] at ho;have _:=Ak (blk_grown (g:=gbz2) (o := .cells #[.string a0_0, .string a0_1, .int .i64 a0_2] 33 (0,0)) (oL BKz2.out) hg (Kd.R_ne HOz30.out BKz2.out (by decide)));have _:=Ak (blk_grown (g:=gbz3) (o := .cells #[.int .i64 a3_0, .int .i64 a3_1, .int .i64 a3_2, .slice (some adz27) l3_3.length c3_3, .slice A3_4 l3_4.length c3_4] 28 (0,0)) (oL BKz3.out) hg (Kd.R_ne HOz30.out BKz3.out (by decide)));have _:=Ak (hb);have _:=Ak (Kept.of_grown (S:=(fun k_=>P1_ k_)) hg (oP2 GWz2.out GWz3.out) (fun k_ e_=>(HOz30.out.1 k_ e_)));have _:=Ak (ho);clear BKz2 BKz3 HB HK HOz30;rename_i BKz2 BKz3 HB HK HOz32;clear ho hb hg hat)|((with_reducible refine gate_builtin (b := .append) (xs := #[.tmp 99,_]) rfl ?_);at_builtin;refine Kd.R_append_str (w0:=w0) w0.heap.size rfl (.tmp 99) _ 44 9 5 rfl Try.underlying44 Try.underlying9 info5 vz31 yz20 (a2.extract (((rd_T52 l3_3 x71_3).f0):Int).toNat (((rd_T52 l3_3 x71_3).f1):Int).toNat) (fun k_=>(P1_ k_∨w.heap.size≤k_)) rfl rfl ?aO ?aF ?aB ?aS ?aL ?_;(case aB=>exact (oB2 GEz2.out GEz3.out));(case aF=>exact (fun k_ hk=>(.inr (Nat.le_trans (by first|exact HK.out.1|exact (show Kept w _ (fun k_=>P1_ k_) from oP2 GWz2.out GWz3.out).1) hk))));(case aO=>exact (oR HOz32.out));(case aS=>exact (below_size (oB2 GEz2.out GEz3.out)));(case aL=>have:=LMc70.out;omega);intro vz33 w78 ho hb hg hat;rw [← Nyz21.out] at ho;have _:=Ak (blk_grown (g:=gbz2) (o := .cells #[.string a0_0, .string a0_1, .int .i64 a0_2] 33 (0,0)) (oL BKz2.out) hg (Kd.R_ne HOz32.out BKz2.out (by decide)));have _:=Ak (blk_grown (g:=gbz3) (o := .cells #[.int .i64 a3_0, .int .i64 a3_1, .int .i64 a3_2, .slice (some adz27) l3_3.length c3_3, .slice A3_4 l3_4.length c3_4] 28 (0,0)) (oL BKz3.out) hg (Kd.R_ne HOz32.out BKz3.out (by decide)));have _:=Ak (hb);have _:=Ak (Kept.of_grown (S:=(fun k_=>P1_ k_)) hg (oP2 GWz2.out GWz3.out) (fun k_ e_=>(HOz32.out.1 k_ e_)));have _:=Ak (ho);clear BKz2 BKz3 HB HK HOz32;rename_i BKz2 BKz3 HB HK HOz34;clear ho hb hg hat)|((with_reducible refine gate_dst (N:=103) rfl ?_);refine Kd.R_lit (Kd.int .u8) _ 5 ?hg (N:=103) ?hd (xs:=([58,32]:List Int)) (inner:=[.int .u8 58, .int .u8 32]) (ok:=fun _=>True) (okp:=fun _=>True) ?hr ?hp (fun _ hk=>hk) trivial (Below.refl _ _) (Nat.le_refl _) (by simp) ?_;(case hd=>rfl);(case hg=>rfl);(case hr=>first|(go_simp;done)|(go_simp;rfl));(case hp=>exact (Reps.one (show Kd.M (Kd.int .u8) _ _ _ 58 [.int .u8 58] from rfl) (Reps.one (show Kd.M (Kd.int .u8) _ _ _ 32 [.int .u8 32] from rfl) (Reps.none _ _))));intro vz35 w79 ho80 hb hg_ hnew_;clear hg_ hnew_;(first|rw [← Nyz22.out] at ho80|(simp only [Int.reduceToNat] at ho80;rw [← Nyz22.out] at ho80));have _:=Ak (Kd.R_elder' (oR HOz34.out) (Kd.R_base ho80) hb);have _:=Ak (Kd.R_lower (Kd.R_new' (Kd.R_newM (M:=fun k_=>(P1_ k_∨w.heap.size≤k_)) ho80 (by first|exact HK.out.1|exact (show Kept w _ (fun k_=>P1_ k_) from oP2 GWz2.out GWz3.out).1) (fun k_ h_ => .inr h_)) (Kd.R_lt (oR HOz34.out))) (below_size (oB2 GEz2.out GEz3.out)));have _:=Ak (blk_below (g:=gbz2) (o := .cells #[.string a0_0, .string a0_1, .int .i64 a0_2] 33 (0,0)) (oL BKz2.out) hb);have _:=Ak (blk_below (g:=gbz3) (o := .cells #[.int .i64 a3_0, .int .i64 a3_1, .int .i64 a3_2, .slice (some adz27) l3_3.length c3_3, .slice A3_4 l3_4.length c3_4] 28 (0,0)) (oL BKz3.out) hb);have _:=Ak (Kept.below (S:=(fun k_=>P1_ k_)) (oP2 GWz2.out GWz3.out) hb);have _:=Ak (below_step (oB2 GEz2.out GEz3.out) hb);clear HOz34 BKz2 BKz3 HK HB;rename_i HOz34 HOz36 BKz2 BKz3 HK HB;clear hb ho80;obtain ⟨Ao82,co82,eo82⟩:=Kd.R_slice HOz36.out;subst eo82)|((with_reducible refine gate_builtin (b := .append) (xs := #[.tmp 102, .tmp 103]) rfl ?_);at_builtin;refine Kd.R_append_rows (Kd.int .u8) (w0:=w0) w0.heap.size rfl (.tmp 102) (.tmp 103) 44 5 (.int .u8 0) 1 rfl Try.underlying44 info5 rfl (by decide) (by omega) vz33 yz21 yz22 _ _ _ (fun k_=>(P1_ k_∨w.heap.size≤k_)∧some k_≠(.slice Ao82 yz22.length co82:Value).ownBlock) (fun _=>False) rfl rfl ?aO ?aR (fun _ _ h=>h) (fun _ h=>h.elim) ?aF ?aB ?aS ?aL ?_;(case aR=>repeat (first|exact (Kd.R_reads' HOz36.out).2.2|(with_reducible refine Kd.C_alloc ?_ _)|(with_reducible refine Kd.C_drewN ?_ _)|(with_reducible refine Kd.C_drew ?_)));(case aB=>exact (oB2 GEz2.out GEz3.out));(case aF=>exact (fun k_ hk=>⟨(.inr (Nat.le_trans (by first|exact HK.out.1|exact (show Kept w _ (fun k_=>P1_ k_) from oP2 GWz2.out GWz3.out).1) hk)),Kd.fresh' (Kd.R_lt (oR HOz36.out)) k_ hk⟩));(case aO=>exact (oR HOz34.out));(case aS=>exact (below_size (oB2 GEz2.out GEz3.out)));(case aL=>have:=LMc71.out;omega);intro vz37 w81 ho hb hg hat;rw [← Nyz24.out] at ho;have _:=Ak (blk_grown (g:=gbz2) (o := .cells #[.string a0_0, .string a0_1, .int .i64 a0_2] 33 (0,0)) (oL BKz2.out) hg (Kd.R_ne HOz34.out BKz2.out (by decide)));have _:=Ak (blk_grown (g:=gbz3) (o := .cells #[.int .i64 a3_0, .int .i64 a3_1, .int .i64 a3_2, .slice (some adz27) l3_3.length c3_3, .slice A3_4 l3_4.length c3_4] 28 (0,0)) (oL BKz3.out) hg (Kd.R_ne HOz34.out BKz3.out (by decide)));have _:=Ak (Kd.R_after (ok:=(fun k_=>(P1_ k_∨w.heap.size≤k_))) (by (with_reducible repeat (first|apply Kd.R_alloc|apply Kd.R_drewN|apply Kd.R_drew));exact Kd.R_mono HOz36.out (fun _ hk=>⟨hk.1.1,hk.2⟩)) hg hat);have _:=Ak (hb);have _:=Ak (Kept.of_grown (S:=(fun k_=>P1_ k_)) hg (oP2 GWz2.out GWz3.out) (fun k_ e_=>(HOz34.out.1 k_ e_).1));have _:=Ak (ho);clear BKz2 BKz3 HOz36 HB HK HOz34;rename_i BKz2 BKz3 HOz36 HB HK HOz38;clear ho hb hg hat))
           have n0_:=Ak (Kd.R_drew HOz36.out)
           have n1_:=Ak (Kd.R_drew HOz38.out)
           have n2_:=Ak (blk_drew BKz2.out)
           have n3_:=Ak (blk_drew BKz3.out)
           have n4_:=Ak (Kept.drew HK.out)
           have n5_:=Ak (below_drew1 HB.out)
           clear HOz36
           clear HOz38
           clear BKz2
           clear BKz3
           clear HK
           clear HB
           have HOz36:=n0_
           have HOz38:=n1_
           have BKz2:=n2_
           have BKz3:=n3_
           have HK:=n4_
           have HB:=n5_
           clear n0_ n1_ n2_ n3_ n4_ n5_
           have pz39:0≤(x71_3:Int):=of_decide_eq_true oA
           have qz39:x71_3<(l3_4.length:Int):=of_decide_eq_true oA
           obtain ⟨adz39,Az39_3,cz39_3,Az39_4,cz39_4,ez39,hxz39_0,hxz39_1,hxz39_2,hxz39_3,hxz39_4,hlz39_3,hiz39_3,hlz39_4,hiz39_4⟩:=at_T28 (Kd.C_kept_now HR3_4.out HK.out) x71_3 pz39 qz39
           have hwz39_4:=hxz39_4
           have hwz39_3:=hxz39_3
           have hwz39_2:=hxz39_2
           have hwz39_1:=hxz39_1
           have hwz39_0:=hxz39_0
           cases ez39
           have hfz39_3:=(fun (W2_:World) (hk2_:Kept w W2_ (fun k_=>P1_ k_))=>(show Kd.C k52 W2_ Az39_3 ((rd_T28 l3_4 x71_3).f3).length ((rd_T28 l3_4 x71_3).f3) from by (obtain ⟨ad2_,A2_3,c2_3,A2_4,c2_4,e2_,hz2q_0,hz2q_1,hz2q_2,hz2q_3,hz2q_4,hl2q_3,hi2q_3,hl2q_4,hi2q_4⟩:=at_T28 (HR3_4.out W2_ hk2_) x71_3 pz39 qz39;obtain rfl:=Option.some.inj e2_;have hs_:=Kd.foot_same HR3_4.out (by decide) (by omega) rfl HK.out hk2_ (by first|rfl|simp [add_block]) hxz39_3;have he_:=Option.some.inj (hs_.symm.trans hz2q_3);injection he_ with ha_ hb_ hc_;rw [ha_];exact hi2q_3)))
           have HRz39_3:=Ak hfz39_3
           have HCz39_3:=Ak hlz39_3
           clear hiz39_3 hlz39_3 hfz39_3
           have hfz39_4:=(fun (W2_:World) (hk2_:Kept w W2_ (fun k_=>P1_ k_))=>(show Kd.C k28 W2_ Az39_4 ((rd_T28 l3_4 x71_3).f4).length ((rd_T28 l3_4 x71_3).f4) from by (obtain ⟨ad2_,A2_3,c2_3,A2_4,c2_4,e2_,hz2q_0,hz2q_1,hz2q_2,hz2q_3,hz2q_4,hl2q_3,hi2q_3,hl2q_4,hi2q_4⟩:=at_T28 (HR3_4.out W2_ hk2_) x71_3 pz39 qz39;obtain rfl:=Option.some.inj e2_;have hs_:=Kd.foot_same HR3_4.out (by decide) (by omega) rfl HK.out hk2_ (by first|rfl|simp [add_block]) hxz39_4;have he_:=Option.some.inj (hs_.symm.trans hz2q_4);injection he_ with ha_ hb_ hc_;rw [ha_];exact hi2q_4)))
           have HRz39_4:=Ak hfz39_4
           have HCz39_4:=Ak hlz39_4
           clear hiz39_4 hlz39_4 hfz39_4
           replace pz39:=eq_true pz39
           replace qz39:=eq_true qz39
           obtain ⟨Ao84,co84,eo84⟩:=Kd.R_slice HOz38.out
           (first|subst eo84|(injection eo84 with f1_ f2_ f3_;have f4_:=f1_.symm;have f5_:=f3_.symm;clear f1_ f2_ f3_;subst f4_;subst f5_))
           refine start_ (n:=17) (S:=fun w'=>w'.cell? ⟨gbz2,0,none⟩=some (.string a0_0)∧w'.cell? ⟨gbz2,1,none⟩=some (.string a0_1)∧w'.cell? ⟨gbz2,2,none⟩=some (.int .i64 a0_2)∧w'.cell? ⟨gbz3,0,none⟩=some (.int .i64 a3_0)∧w'.cell? ⟨gbz3,1,none⟩=some (.int .i64 a3_1)∧w'.cell? ⟨gbz3,2,none⟩=some (.int .i64 a3_2)∧w'.cell? ⟨gbz3,3,none⟩=some (.slice (some adz27) l3_3.length c3_3)∧w'.cell? ⟨gbz3,4,none⟩=some (.slice (some adz39) l3_4.length c3_4)∧w'.cell? (adz39.add ((x71_3).toNat*5))=some (.int .i64 ((rd_T28 l3_4 x71_3).f0))∧w'.cell? ⟨(adz39.add ((x71_3).toNat*5)).block,(adz39.add ((x71_3).toNat*5)).off+1,none⟩=some (.int .i64 ((rd_T28 l3_4 x71_3).f1))∧w'.cell? ⟨(adz39.add ((x71_3).toNat*5)).block,(adz39.add ((x71_3).toNat*5)).off+2,none⟩=some (.int .i64 ((rd_T28 l3_4 x71_3).f2))∧w'.cell? ⟨(adz39.add ((x71_3).toNat*5)).block,(adz39.add ((x71_3).toNat*5)).off+3,none⟩=some (.slice Az39_3 ((rd_T28 l3_4 x71_3).f3).length cz39_3)∧w'.cell? ⟨(adz39.add ((x71_3).toNat*5)).block,(adz39.add ((x71_3).toNat*5)).off+4,none⟩=some (.slice Az39_4 ((rd_T28 l3_4 x71_3).f4).length cz39_4)) (ds:=[15]) #[false,false,false,false,false,false,false,false,false,false,false,false,false,false,false,false,false] (by kernel_rfl) rfl rfl ⟨(blk_cell BKz2.out 0).trans rfl,(blk_cell BKz2.out 1).trans rfl,(blk_cell BKz2.out 2).trans rfl,(blk_cell BKz3.out 0).trans rfl,(blk_cell BKz3.out 1).trans rfl,(blk_cell BKz3.out 2).trans rfl,(blk_cell BKz3.out 3).trans rfl,(blk_cell BKz3.out 4).trans rfl,hxz39_0,hxz39_1,hxz39_2,hxz39_3,hxz39_4⟩ (fun hHeld=>?_);refine with_tabW spec_Layout_value.tab22 spec_Layout_value.bits22 (fun HT_ HW_=>?_)
           generalize w81.drew=w83 at HOz36 HOz38 BKz2 BKz3 HK HB HRz39_3 HRz39_4 hxz39_0 hxz39_1 hxz39_2 hxz39_3 hxz39_4 hHeld ⊢
           refine zP 1 (some 106) (mA 17 2) ?_
           refine zP 2 (some 107) (mA 17 6) ?_
           refine zP 3 (some 108) (mA 17 14) ?_
           refine zP 5 (some 110) (mA 17 46) ?_
           refine zP 8 (some 113) (mA 17 302) ?_
           refine zP 9 (some 114) (mA 17 814) ?_
           refine zP 10 (some 115) (mA 17 1838) ?_
           refine zP 11 (some 116) (mA 17 3886) ?_
           refine zP 12 (some 117) (mA 17 7982) ?_
           refine zP 13 (some 118) (mA 17 16174) ?_
           refine zP 14 (some 119) (mA 17 32558) ?_
           refine zT 0 (some 105) (mA 17 32559) ?_
           refine zT 4 (some 109) (mA 17 32575) ?_
           refine zP 6 (some 111) (mA 17 32639) ?_
           refine zT 7 (some 112) (mA 17 32767) ?_
           refine last_ (i:=15) (N:=some 120) #[true,true,true,true,true,true,true,true,true,true,true,true,true,true,true,true,false] rfl rfl (one_of HT_.out (by kernel_rfl)) (by decide) (fun K hK=>?_)
           refine goes_ Try.func16 (by kernel_rfl) rfl #[.agg #[.string a0_0, .string a0_1, .int .i64 a0_2], .slice Ao84 yz24.length co84, .string a2, .agg #[.int .i64 ((rd_T28 l3_4 x71_3).f0), .int .i64 ((rd_T28 l3_4 x71_3).f1), .int .i64 ((rd_T28 l3_4 x71_3).f2), .slice Az39_3 ((rd_T28 l3_4 x71_3).f3).length cz39_3, .slice Az39_4 ((rd_T28 l3_4 x71_3).f4).length cz39_4], .string (a4++a0_1), .int .i64 (wrap64 ((wrap64 (((a4++a0_1).size:Int)+((a2.extract (((rd_T52 l3_3 x71_3).f0):Int).toNat (((rd_T52 l3_3 x71_3).f1):Int).toNat).size:Int)))+3))] (by rfl) rfl rfl (by (try simp only [List.map_toArray,List.map_cons,List.map_nil]);first|done|rfl|(simp only [List.length_drop,List.length_take];rfl)|(simp only [ByteArray.size_append,Int.natCast_add,ByteArray.size_extract];rw [Nat.min_eq_left (show ((rd_T52 l3_3 x71_3).f1:Int).toNat≤a2.size from by have h_:((rd_T52 l3_3 x71_3).f1)≤(a2.size:Int):=of_decide_eq_true oA;omega)];rfl)) ?_
           with_reducible refine (ih_16 k3 (by have:=HJ14.out;have:=HJ31.out;have:=HK3.out;omega) a0_0 a0_1 a0_2 (fun k_=>some k_=(.slice Ao84 yz24.length co84:Value).ownBlock) (.slice Ao84 yz24.length co84) yz24 a2 ((rd_T28 l3_4 x71_3).f0) ((rd_T28 l3_4 x71_3).f1) ((rd_T28 l3_4 x71_3).f2) _ _ ((rd_T28 l3_4 x71_3).f3) _ _ ((rd_T28 l3_4 x71_3).f4) (a4++a0_1) (wrap64 ((wrap64 (((a4++a0_1).size:Int)+((a2.extract (((rd_T52 l3_3 x71_3).f0):Int).toNat (((rd_T52 l3_3 x71_3).f1):Int).toNat).size:Int)))+3)) tz23 w0 _ ?side1 ?side2 ?side3 ?side4 ?side5 ?side6 A73.out).mono ?_
           (case side1=>exact oB2 GEz2.out GEz3.out)
           (case side2=>exact Kd.R_tight rfl HOz38.out)
           (case side3=>exact Kd.C_kept_call HRz39_3.out (oP2 GWz2.out GWz3.out) (fun k_ hs_=>(fun e_=>(HOz38.out.1 k_ e_.symm).1) hs_))
           (case side4=>exact HCz39_3.out)
           (case side5=>exact Kd.C_kept_call HRz39_4.out (oP2 GWz2.out GWz3.out) (fun k_ hs_=>(fun e_=>(HOz38.out.1 k_ e_.symm).1) hs_))
           (case side6=>exact HCz39_4.out)
           rintro e w85 ⟨vz40,rfl,ho0,hb,hkp⟩
           refine ⟨_,rfl,?_⟩
           have n0_:=Ak (blk_kept (oL BKz2.out) hkp (fun hs_=>(fun e_=>(Kd.R_ne HOz38.out BKz2.out (by decide)) e_) hs_))
           have n1_:=Ak (blk_kept (oL BKz3.out) hkp (fun hs_=>(fun e_=>(Kd.R_ne HOz38.out BKz3.out (by decide)) e_) hs_))
           have n2_:=Ak (Kd.R_mono (ok':=fun k_=>(P1_ k_∨w.heap.size≤k_)∧some k_≠(vz40:Value).ownBlock) (Kd.R_keptB (HOz36.out) hkp (fun k_ hk_ hs_=>(hk_.2) hs_)) (fun k_ hk_=>⟨hk_.1.1,fun e_=>Or.elim (ho0.1 k_ e_.symm) (fun hs_=>hk_.2.1 hs_) (fun hn_=>Nat.not_le.2 hk_.2.2 hn_)⟩))
           have n3_:=Ak (Kd.R_mono (ok':=fun k_=>(P1_ k_∨w.heap.size≤k_)∧some k_≠(.slice Ao82 yz22.length co82:Value).ownBlock) ho0 (fun k_ hk_=>⟨Or.elim hk_ (fun hs_=>(HOz38.out.1 k_ (hs_).symm).1) (fun hn_=>(.inr (Nat.le_trans (by first|exact HK.out.1|exact (show Kept w _ (fun k_=>P1_ k_) from oP2 GWz2.out GWz3.out).1) hn_))),Or.elim hk_ (fun hs_=>fun e_=>(((HOz36.out).1 k_ e_.symm).2) hs_) (fun hn_=>(Kd.fresh' (Kd.R_lt (oR HOz36.out)) k_ hn_))⟩))
           have n4_:=Ak (Kept.then_ (S:=(fun k_=>P1_ k_)) (oP2 GWz2.out GWz3.out) hkp (fun k_ hs_=>(fun e_=>(HOz38.out.1 k_ e_.symm).1) hs_))
           have n5_:=Ak (hb)
           clear BKz2
           clear BKz3
           clear HOz36
           clear HK
           clear HB
           clear HOz38
           have BKz2:=n0_
           have BKz3:=n1_
           have HOz36:=n2_
           have HOz41:=n3_
           have HK:=n4_
           have HB:=n5_
           clear n0_ n1_ n2_ n3_ n4_ n5_
           (try clear hb)
           (try clear hkp)
           (try clear ho0)
           refine hK.out _ _ ?_
           clear hK K
           refine norm_ (a':=?_) ?_ ?_
           rotate_left
           ·
            show Act.put _ (some 120) _=_
            simp only [Act.put,List.setIfInBounds_toArray,List.set_cons_zero,List.set_cons_succ,i64_w,i32_w]
            rfl
           refine zP 16 (some 1) (mA 17 131071) ?_
           refine done_ (done_of HT_.out (by kernel_rfl)) ?_
           try go_wp2
           go_roundg k3
           case measure=>have:=HJ14.out;have:=HJ31.out;have:=HK3.out;omega
           case rel=>exact ⟨(tz23),(wrap64 (x71_3+1)),oS,H',⟨by have:=HJ14.out;have:=HJ31.out;have:=HK3.out;omega⟩,⟨by (with_reducible repeat (first|apply Kd.R_alloc|apply Kd.R_drewN|apply Kd.R_drew));exact Kd.R_mono HOz41.out (fun _ hk=>hk.1)⟩,⟨oL BKz2.out⟩,⟨oL BKz3.out⟩,⟨oP2 GWz2.out GWz3.out⟩,⟨oB2 GEz2.out GEz3.out⟩⟩
          rw [if_neg c71] at H
          exact absurd H (by simp)
         rw [if_neg c69] at H
         exact absurd H (by simp)
        rw [if_neg c67] at H
        exact absurd H (by simp)
       rw [if_neg c65] at H
       exact absurd H (by simp)
      rw [if_neg c63] at H
      exact absurd H (by simp)
     rw [if_neg c61] at H
     have c61b0:decide (0<x71_3)=false:=decide_eq_false c61
     clear c61
     by_cases c86:0≤x71_3
     ·
      rw [if_pos c86] at H
      have c86b0:decide (0≤x71_3)=true:=decide_eq_true c86
      clear c86
      by_cases c87:x71_3<(l3_3.length:Int)
      rotate_left
      ·
       rw [if_neg c87] at H
       exact absurd H (by simp)
      rw [if_pos c87] at H
      have c87b0:decide (x71_3<(l3_3.length:Int))=true:=decide_eq_true c87
      clear c87
      by_cases c88:0≤((rd_T52 l3_3 x71_3).f0)
      ·
       rw [if_pos c88] at H
       have c88b0:=eq_true c88
       have c88b1:decide (0≤((rd_T52 l3_3 x71_3).f0))=true:=decide_eq_true c88
       clear c88
       by_cases c89:((rd_T52 l3_3 x71_3).f0)≤((rd_T52 l3_3 x71_3).f1)
       rotate_left
       ·
        rw [if_neg c89] at H
        exact absurd H (by simp)
       rw [if_pos c89] at H
       have c89b0:=eq_true c89
       have c89b1:decide (((rd_T52 l3_3 x71_3).f0)≤((rd_T52 l3_3 x71_3).f1))=true:=decide_eq_true c89
       clear c89
       by_cases c90:((rd_T52 l3_3 x71_3).f1)≤(a2.size:Int)
       ·
        rw [if_pos c90] at H
        have c90b0:=eq_true c90
        have c90b1:decide (((rd_T52 l3_3 x71_3).f1)≤(a2.size:Int))=true:=decide_eq_true c90
        clear c90
        by_cases c91:x1_3.length<140737488355328
        rotate_left
        ·
         rw [if_neg c91] at H
         exact absurd H (by simp)
        rw [if_pos c91] at H
        have LMc91:=Ak c91
        clear c91
        obtain ⟨yz42,hyz42⟩ : ∃ y_:List Int,y_=(x1_3++[10]):=⟨_,rfl⟩
        replace H:(if yz42.length+(a4++a0_1).size<140737488355328 then ((some (yz42++bytesOf (a4++a0_1):List Int)).bind fun yz43=>(if yz43.length+(a2.extract (((rd_T52 l3_3 x71_3).f0):Int).toNat (((rd_T52 l3_3 x71_3).f1):Int).toNat).size<140737488355328 then ((some (yz43++bytesOf (a2.extract (((rd_T52 l3_3 x71_3).f0):Int).toNat (((rd_T52 l3_3 x71_3).f1):Int).toNat):List Int)).bind fun yz44=>((some (([58,32]:List Int):List Int)).bind fun yz45=>(if yz44.length+yz45.length<140737488355328 then (if x71_3<(l3_4.length:Int) then ((spec_Layout_value.f k3 a0_0 a0_1 a0_2 (yz44++yz45) a2 ((rd_T28 l3_4 x71_3).f0) ((rd_T28 l3_4 x71_3).f1) ((rd_T28 l3_4 x71_3).f2) ((rd_T28 l3_4 x71_3).f3) ((rd_T28 l3_4 x71_3).f4) (a4++a0_1) (wrap64 ((wrap64 (((a4++a0_1).size:Int)+((a2.extract (((rd_T52 l3_3 x71_3).f0):Int).toNat (((rd_T52 l3_3 x71_3).f1):Int).toNat).size:Int)))+3))).bind fun tz46=>(spec_Layout_value.l0 k3 tz46 a2 a4 (a4++a0_1) (l3_4.length:Int) (wrap64 (x71_3+1)) a0_0 a0_1 a0_2 a3_0 a3_1 a3_2 l3_3 l3_4)) else (none)) else (none)))) else (none))) else (none))=some r:=by first|(rw [hyz42];with_reducible exact H)|(have H2_:=(Option.bind_some _ _).symm.trans H;rw [hyz42];with_reducible exact H2_)|(have H2_:=(Option.bind_some _ _).symm.trans H;with_reducible exact H2_)|with_reducible exact H|(rw [hyz42];exact H)|exact H
        have Nyz42:=Ak hyz42
        clear hyz42
        by_cases c92:yz42.length+(a4++a0_1).size<140737488355328
        ·
         rw [if_pos c92] at H
         have LMc92:=Ak c92
         clear c92
         obtain ⟨yz43,hyz43⟩ : ∃ y_:List Int,y_=(yz42++bytesOf (a4++a0_1)):=⟨_,rfl⟩
         replace H:(if yz43.length+(a2.extract (((rd_T52 l3_3 x71_3).f0):Int).toNat (((rd_T52 l3_3 x71_3).f1):Int).toNat).size<140737488355328 then ((some (yz43++bytesOf (a2.extract (((rd_T52 l3_3 x71_3).f0):Int).toNat (((rd_T52 l3_3 x71_3).f1):Int).toNat):List Int)).bind fun yz44=>((some (([58,32]:List Int):List Int)).bind fun yz45=>(if yz44.length+yz45.length<140737488355328 then (if x71_3<(l3_4.length:Int) then ((spec_Layout_value.f k3 a0_0 a0_1 a0_2 (yz44++yz45) a2 ((rd_T28 l3_4 x71_3).f0) ((rd_T28 l3_4 x71_3).f1) ((rd_T28 l3_4 x71_3).f2) ((rd_T28 l3_4 x71_3).f3) ((rd_T28 l3_4 x71_3).f4) (a4++a0_1) (wrap64 ((wrap64 (((a4++a0_1).size:Int)+((a2.extract (((rd_T52 l3_3 x71_3).f0):Int).toNat (((rd_T52 l3_3 x71_3).f1):Int).toNat).size:Int)))+3))).bind fun tz46=>(spec_Layout_value.l0 k3 tz46 a2 a4 (a4++a0_1) (l3_4.length:Int) (wrap64 (x71_3+1)) a0_0 a0_1 a0_2 a3_0 a3_1 a3_2 l3_3 l3_4)) else (none)) else (none)))) else (none))=some r:=by first|(rw [hyz43];with_reducible exact H)|(have H2_:=(Option.bind_some _ _).symm.trans H;rw [hyz43];with_reducible exact H2_)|(have H2_:=(Option.bind_some _ _).symm.trans H;with_reducible exact H2_)|with_reducible exact H|(rw [hyz43];exact H)|exact H
         have Nyz43:=Ak hyz43
         clear hyz43
         by_cases c93:yz43.length+(a2.extract (((rd_T52 l3_3 x71_3).f0):Int).toNat (((rd_T52 l3_3 x71_3).f1):Int).toNat).size<140737488355328
         rotate_left
         ·
          rw [if_neg c93] at H
          exact absurd H (by simp)
         rw [if_pos c93] at H
         have LMc93:=Ak c93
         clear c93
         obtain ⟨yz44,hyz44⟩ : ∃ y_:List Int,y_=(yz43++bytesOf (a2.extract (((rd_T52 l3_3 x71_3).f0):Int).toNat (((rd_T52 l3_3 x71_3).f1):Int).toNat)):=⟨_,rfl⟩
         replace H:((some (([58,32]:List Int):List Int)).bind fun yz45=>(if yz44.length+yz45.length<140737488355328 then (if x71_3<(l3_4.length:Int) then ((spec_Layout_value.f k3 a0_0 a0_1 a0_2 (yz44++yz45) a2 ((rd_T28 l3_4 x71_3).f0) ((rd_T28 l3_4 x71_3).f1) ((rd_T28 l3_4 x71_3).f2) ((rd_T28 l3_4 x71_3).f3) ((rd_T28 l3_4 x71_3).f4) (a4++a0_1) (wrap64 ((wrap64 (((a4++a0_1).size:Int)+((a2.extract (((rd_T52 l3_3 x71_3).f0):Int).toNat (((rd_T52 l3_3 x71_3).f1):Int).toNat).size:Int)))+3))).bind fun tz46=>(spec_Layout_value.l0 k3 tz46 a2 a4 (a4++a0_1) (l3_4.length:Int) (wrap64 (x71_3+1)) a0_0 a0_1 a0_2 a3_0 a3_1 a3_2 l3_3 l3_4)) else (none)) else (none)))=some r:=by first|(rw [hyz44];with_reducible exact H)|(have H2_:=(Option.bind_some _ _).symm.trans H;rw [hyz44];with_reducible exact H2_)|(have H2_:=(Option.bind_some _ _).symm.trans H;with_reducible exact H2_)|with_reducible exact H|(rw [hyz44];exact H)|exact H
         have Nyz44:=Ak hyz44
         clear hyz44
         obtain ⟨yz45,hyz45⟩ : ∃ y_:List Int,y_=(([58,32]:List Int)):=⟨_,rfl⟩
         replace H:(if yz44.length+yz45.length<140737488355328 then (if x71_3<(l3_4.length:Int) then ((spec_Layout_value.f k3 a0_0 a0_1 a0_2 (yz44++yz45) a2 ((rd_T28 l3_4 x71_3).f0) ((rd_T28 l3_4 x71_3).f1) ((rd_T28 l3_4 x71_3).f2) ((rd_T28 l3_4 x71_3).f3) ((rd_T28 l3_4 x71_3).f4) (a4++a0_1) (wrap64 ((wrap64 (((a4++a0_1).size:Int)+((a2.extract (((rd_T52 l3_3 x71_3).f0):Int).toNat (((rd_T52 l3_3 x71_3).f1):Int).toNat).size:Int)))+3))).bind fun tz46=>(spec_Layout_value.l0 k3 tz46 a2 a4 (a4++a0_1) (l3_4.length:Int) (wrap64 (x71_3+1)) a0_0 a0_1 a0_2 a3_0 a3_1 a3_2 l3_3 l3_4)) else (none)) else (none))=some r:=by first|(rw [hyz45];with_reducible exact H)|(have H2_:=(Option.bind_some _ _).symm.trans H;rw [hyz45];with_reducible exact H2_)|(have H2_:=(Option.bind_some _ _).symm.trans H;with_reducible exact H2_)|with_reducible exact H|(rw [hyz45];exact H)|exact H
         have Nyz45:=Ak hyz45
         clear hyz45
         by_cases c94:yz44.length+yz45.length<140737488355328
         ·
          rw [if_pos c94] at H
          have LMc94:=Ak c94
          clear c94
          obtain ⟨yz47,hyz47⟩ : ∃ y_:List Int,y_=(yz44++yz45):=⟨_,rfl⟩
          replace H:(if x71_3<(l3_4.length:Int) then ((spec_Layout_value.f k3 a0_0 a0_1 a0_2 yz47 a2 ((rd_T28 l3_4 x71_3).f0) ((rd_T28 l3_4 x71_3).f1) ((rd_T28 l3_4 x71_3).f2) ((rd_T28 l3_4 x71_3).f3) ((rd_T28 l3_4 x71_3).f4) (a4++a0_1) (wrap64 ((wrap64 (((a4++a0_1).size:Int)+((a2.extract (((rd_T52 l3_3 x71_3).f0):Int).toNat (((rd_T52 l3_3 x71_3).f1):Int).toNat).size:Int)))+3))).bind fun tz46=>(spec_Layout_value.l0 k3 tz46 a2 a4 (a4++a0_1) (l3_4.length:Int) (wrap64 (x71_3+1)) a0_0 a0_1 a0_2 a3_0 a3_1 a3_2 l3_3 l3_4)) else (none))=some r:=by first|(rw [hyz47];with_reducible exact H)|(have H2_:=(Option.bind_some _ _).symm.trans H;rw [hyz47];with_reducible exact H2_)|(have H2_:=(Option.bind_some _ _).symm.trans H;with_reducible exact H2_)|with_reducible exact H|(rw [hyz47];exact H)|exact H
          have Nyz47:=Ak hyz47
          clear hyz47
          by_cases c95:x71_3<(l3_4.length:Int)
          rotate_left
          ·
           rw [if_neg c95] at H
           exact absurd H (by simp)
          rw [if_pos c95] at H
          have c95b0:decide (x71_3<(l3_4.length:Int))=true:=decide_eq_true c95
          clear c95
          replace H:=Option.bind_eq_some_iff.mp H
          obtain ⟨tz46,A960,H⟩:=H
          replace H:(spec_Layout_value.l0 k3 tz46 a2 a4 (a4++a0_1) (l3_4.length:Int) (wrap64 (x71_3+1)) a0_0 a0_1 a0_2 a3_0 a3_1 a3_2 l3_3 l3_4)=some r:=H
          have A96:=Ak A960
          clear A960
          have H':=Ak H
          clear H
          try go_wp2
          have n0_:=Ak (Kd.R_drew HO_1.out)
          have n1_:=Ak (blk_drew BKz2.out)
          have n2_:=Ak (blk_drew BKz3.out)
          have n3_:=Ak (Kept.drew HK.out)
          have n4_:=Ak (below_drew1 HB.out)
          clear HO_1
          clear BKz2
          clear BKz3
          clear HK
          clear HB
          have HO_1:=n0_
          have BKz2:=n1_
          have BKz3:=n2_
          have HK:=n3_
          have HB:=n4_
          clear n0_ n1_ n2_ n3_ n4_
          have pz48:0≤(x71_3:Int):=of_decide_eq_true oA
          have qz48:x71_3<(l3_3.length:Int):=of_decide_eq_true oA
          obtain ⟨adz48,ez48,hxz48_0,hxz48_1⟩:=at_T52 (Kd.C_kept_now HR3_3.out HK.out) x71_3 pz48 qz48
          have hwz48_1:=hxz48_1
          have hwz48_0:=hxz48_0
          cases ez48
          replace pz48:=eq_true pz48
          replace qz48:=eq_true qz48
          have pz49:0≤(x71_3:Int):=of_decide_eq_true oA
          have qz49:x71_3<(l3_3.length:Int):=of_decide_eq_true oA
          obtain ⟨adz49,ez49,hxz49_0,hxz49_1⟩:=at_T52 (Kd.C_kept_now HR3_3.out HK.out) x71_3 pz49 qz49
          have hwz49_1:=hxz49_1
          have hwz49_0:=hxz49_0
          obtain rfl:adz48=adz49:=(by injection ez49)
          replace pz49:=eq_true pz49
          replace qz49:=eq_true qz49
          refine start_ (n:=15) (S:=fun w'=>w'.cell? ⟨gbz3,0,none⟩=some (.int .i64 a3_0)∧w'.cell? ⟨gbz3,1,none⟩=some (.int .i64 a3_1)∧w'.cell? ⟨gbz3,2,none⟩=some (.int .i64 a3_2)∧w'.cell? ⟨gbz3,3,none⟩=some (.slice (some adz48) l3_3.length c3_3)∧w'.cell? ⟨gbz3,4,none⟩=some (.slice A3_4 l3_4.length c3_4)∧w'.cell? (adz48.add ((x71_3).toNat*2))=some (.int .i64 ((rd_T52 l3_3 x71_3).f0))∧w'.cell? ⟨(adz48.add ((x71_3).toNat*2)).block,(adz48.add ((x71_3).toNat*2)).off+1,none⟩=some (.int .i64 ((rd_T52 l3_3 x71_3).f1))∧w'.cell? (adz48.add ((x71_3).toNat*2))=some (.int .i64 ((rd_T52 l3_3 x71_3).f0))∧w'.cell? ⟨(adz48.add ((x71_3).toNat*2)).block,(adz48.add ((x71_3).toNat*2)).off+1,none⟩=some (.int .i64 ((rd_T52 l3_3 x71_3).f1))) (ds:=[]) #[false,false,false,false,false,false,false,false,false,false,false,false,false,false,false] (by kernel_rfl) rfl rfl ⟨(blk_cell BKz3.out 0).trans rfl,(blk_cell BKz3.out 1).trans rfl,(blk_cell BKz3.out 2).trans rfl,(blk_cell BKz3.out 3).trans rfl,(blk_cell BKz3.out 4).trans rfl,hxz48_0,hxz48_1,hxz49_0,hxz49_1⟩ (fun hHeld=>?_);refine with_tabW spec_Layout_value.tab17 spec_Layout_value.bits17 (fun HT_ HW_=>?_)
          generalize wr.drew=w97 at HO_1 BKz2 BKz3 HK HB hxz48_0 hxz48_1 hxz49_0 hxz49_1 hHeld ⊢
          refine zP 0 (some 79) (mA 15 1) ?_
          refine zP 1 (some 80) (mA 15 3) ?_
          refine zP 3 (some 82) (mA 15 11) ?_
          refine zP 7 (some 86) (mA 15 139) ?_
          refine zP 9 (some 88) (mA 15 651) ?_
          refine zT 2 (some 81) (mA 15 655) ?_
          refine zP 4 (some 83) (mA 15 671) ?_
          refine zP 5 (some 84) (mA 15 703) ?_
          refine zT 6 (some 85) (mA 15 767) ?_
          refine zT 8 (some 87) (mA 15 1023) ?_
          refine zP 10 (some 89) (mA 15 2047) ?_
          refine zP 11 (some 90) (mA 15 4095) ?_
          refine zT 12 (some 91) (mA 15 8191) ?_
          refine zP 13 (some 92) (mA 15 16383) ?_
          refine zP 14 (some 17) (mA 15 32767) ?_
          refine done_ (done_of HT_.out (by kernel_rfl)) ?_
          try go_wp2_with (first|((with_reducible refine gate_builtin (b := .append) (xs := #[.tmp 93, .tmp 94]) rfl ?_);at_builtin;refine Kd.R_append (Kd.int .u8) (w0:=w0) w0.heap.size rfl (.tmp 93) (.tmp 94) 44 5 (.int .u8 0) 1 rfl Try.underlying44 info5 rfl (by decide) (by omega) u1 x1_3 10 [.int .u8 10] (fun k_=>(P1_ k_∨w.heap.size≤k_)) (fun _=>False) rfl rfl ?aP (fun _ hk=>hk.elim) ?aF ?aO ?aB ?aS ?aL ?_;(case aP=>exact rfl);(case aB=>exact (oB2 GEz2.out GEz3.out));(case aF=>exact (fun k_ hk=>(.inr (Nat.le_trans (by first|exact HK.out.1|exact (show Kept w _ (fun k_=>P1_ k_) from oP2 GWz2.out GWz3.out).1) hk))));(case aO=>exact (oR HO_1.out));(case aS=>exact (below_size (oB2 GEz2.out GEz3.out)));(case aL=>have:=LMc91.out;omega);intro vz50 w98 ho hb hg hat;rw [← Nyz42.out] at ho;have _:=Ak (blk_grown (g:=gbz2) (o := .cells #[.string a0_0, .string a0_1, .int .i64 a0_2] 33 (0,0)) (oL BKz2.out) hg (Kd.R_ne HO_1.out BKz2.out (by decide)));have _:=Ak (blk_grown (g:=gbz3) (o := .cells #[.int .i64 a3_0, .int .i64 a3_1, .int .i64 a3_2, .slice (some adz48) l3_3.length c3_3, .slice A3_4 l3_4.length c3_4] 28 (0,0)) (oL BKz3.out) hg (Kd.R_ne HO_1.out BKz3.out (by decide)));have _:=Ak (hb);have _:=Ak (Kept.of_grown (S:=(fun k_=>P1_ k_)) hg (oP2 GWz2.out GWz3.out) (fun k_ e_=>(HO_1.out.1 k_ e_)));have _:=Ak (ho);clear BKz2 BKz3 HB HK HO_1;rename_i BKz2 BKz3 HB HK HOz51;clear ho hb hg hat)|((with_reducible refine gate_builtin (b := .append) (xs := #[.tmp 96,_]) rfl ?_);at_builtin;refine Kd.R_append_str (w0:=w0) w0.heap.size rfl (.tmp 96) _ 44 9 5 rfl Try.underlying44 Try.underlying9 info5 vz50 yz42 (a4++a0_1) (fun k_=>(P1_ k_∨w.heap.size≤k_)) rfl rfl ?aO ?aF ?aB ?aS ?aL ?_;(case aB=>exact (oB2 GEz2.out GEz3.out));(case aF=>exact (fun k_ hk=>(.inr (Nat.le_trans (by first|exact HK.out.1|exact (show Kept w _ (fun k_=>P1_ k_) from oP2 GWz2.out GWz3.out).1) hk))));(case aO=>exact (oR HOz51.out));(case aS=>exact (below_size (oB2 GEz2.out GEz3.out)));(case aL=>have:=LMc92.out;omega);intro vz52 w99 ho hb hg hat;rw [← Nyz43.out] at ho;have _:=Ak (blk_grown (g:=gbz2) (o := .cells #[.string a0_0, .string a0_1, .int .i64 a0_2] 33 (0,0)) (oL BKz2.out) hg (Kd.R_ne HOz51.out BKz2.out (by decide)));have _:=Ak (blk_grown (g:=gbz3) (o := .cells #[.int .i64 a3_0, .int .i64 a3_1, .int .i64 a3_2, .slice (some adz48) l3_3.length c3_3, .slice A3_4 l3_4.length c3_4] 28 (0,0)) (oL BKz3.out) hg (Kd.R_ne HOz51.out BKz3.out (by decide)));have _:=Ak (hb);have _:=Ak (Kept.of_grown (S:=(fun k_=>P1_ k_)) hg (oP2 GWz2.out GWz3.out) (fun k_ e_=>(HOz51.out.1 k_ e_)));have _:=Ak (ho);clear BKz2 BKz3 HB HK HOz51;rename_i BKz2 BKz3 HB HK HOz53;clear ho hb hg hat)|((with_reducible refine gate_builtin (b := .append) (xs := #[.tmp 99,_]) rfl ?_);at_builtin;refine Kd.R_append_str (w0:=w0) w0.heap.size rfl (.tmp 99) _ 44 9 5 rfl Try.underlying44 Try.underlying9 info5 vz52 yz43 (a2.extract (((rd_T52 l3_3 x71_3).f0):Int).toNat (((rd_T52 l3_3 x71_3).f1):Int).toNat) (fun k_=>(P1_ k_∨w.heap.size≤k_)) rfl rfl ?aO ?aF ?aB ?aS ?aL ?_;(case aB=>exact (oB2 GEz2.out GEz3.out));(case aF=>exact (fun k_ hk=>(.inr (Nat.le_trans (by first|exact HK.out.1|exact (show Kept w _ (fun k_=>P1_ k_) from oP2 GWz2.out GWz3.out).1) hk))));(case aO=>exact (oR HOz53.out));(case aS=>exact (below_size (oB2 GEz2.out GEz3.out)));(case aL=>have:=LMc93.out;omega);intro vz54 w100 ho hb hg hat;rw [← Nyz44.out] at ho;have _:=Ak (blk_grown (g:=gbz2) (o := .cells #[.string a0_0, .string a0_1, .int .i64 a0_2] 33 (0,0)) (oL BKz2.out) hg (Kd.R_ne HOz53.out BKz2.out (by decide)));have _:=Ak (blk_grown (g:=gbz3) (o := .cells #[.int .i64 a3_0, .int .i64 a3_1, .int .i64 a3_2, .slice (some adz48) l3_3.length c3_3, .slice A3_4 l3_4.length c3_4] 28 (0,0)) (oL BKz3.out) hg (Kd.R_ne HOz53.out BKz3.out (by decide)));have _:=Ak (hb);have _:=Ak (Kept.of_grown (S:=(fun k_=>P1_ k_)) hg (oP2 GWz2.out GWz3.out) (fun k_ e_=>(HOz53.out.1 k_ e_)));have _:=Ak (ho);clear BKz2 BKz3 HB HK HOz53;rename_i BKz2 BKz3 HB HK HOz55;clear ho hb hg hat)|((with_reducible refine gate_dst (N:=103) rfl ?_);refine Kd.R_lit (Kd.int .u8) _ 5 ?hg (N:=103) ?hd (xs:=([58,32]:List Int)) (inner:=[.int .u8 58, .int .u8 32]) (ok:=fun _=>True) (okp:=fun _=>True) ?hr ?hp (fun _ hk=>hk) trivial (Below.refl _ _) (Nat.le_refl _) (by simp) ?_;(case hd=>rfl);(case hg=>rfl);(case hr=>first|(go_simp;done)|(go_simp;rfl));(case hp=>exact (Reps.one (show Kd.M (Kd.int .u8) _ _ _ 58 [.int .u8 58] from rfl) (Reps.one (show Kd.M (Kd.int .u8) _ _ _ 32 [.int .u8 32] from rfl) (Reps.none _ _))));intro vz56 w101 ho102 hb hg_ hnew_;clear hg_ hnew_;(first|rw [← Nyz45.out] at ho102|(simp only [Int.reduceToNat] at ho102;rw [← Nyz45.out] at ho102));have _:=Ak (Kd.R_elder' (oR HOz55.out) (Kd.R_base ho102) hb);have _:=Ak (Kd.R_lower (Kd.R_new' (Kd.R_newM (M:=fun k_=>(P1_ k_∨w.heap.size≤k_)) ho102 (by first|exact HK.out.1|exact (show Kept w _ (fun k_=>P1_ k_) from oP2 GWz2.out GWz3.out).1) (fun k_ h_ => .inr h_)) (Kd.R_lt (oR HOz55.out))) (below_size (oB2 GEz2.out GEz3.out)));have _:=Ak (blk_below (g:=gbz2) (o := .cells #[.string a0_0, .string a0_1, .int .i64 a0_2] 33 (0,0)) (oL BKz2.out) hb);have _:=Ak (blk_below (g:=gbz3) (o := .cells #[.int .i64 a3_0, .int .i64 a3_1, .int .i64 a3_2, .slice (some adz48) l3_3.length c3_3, .slice A3_4 l3_4.length c3_4] 28 (0,0)) (oL BKz3.out) hb);have _:=Ak (Kept.below (S:=(fun k_=>P1_ k_)) (oP2 GWz2.out GWz3.out) hb);have _:=Ak (below_step (oB2 GEz2.out GEz3.out) hb);clear HOz55 BKz2 BKz3 HK HB;rename_i HOz55 HOz57 BKz2 BKz3 HK HB;clear hb ho102;obtain ⟨Ao104,co104,eo104⟩:=Kd.R_slice HOz57.out;subst eo104)|((with_reducible refine gate_builtin (b := .append) (xs := #[.tmp 102, .tmp 103]) rfl ?_);at_builtin;refine Kd.R_append_rows (Kd.int .u8) (w0:=w0) w0.heap.size rfl (.tmp 102) (.tmp 103) 44 5 (.int .u8 0) 1 rfl Try.underlying44 info5 rfl (by decide) (by omega) vz54 yz44 yz45 _ _ _ (fun k_=>(P1_ k_∨w.heap.size≤k_)∧some k_≠(.slice Ao104 yz45.length co104:Value).ownBlock) (fun _=>False) rfl rfl ?aO ?aR (fun _ _ h=>h) (fun _ h=>h.elim) ?aF ?aB ?aS ?aL ?_;(case aR=>repeat (first|exact (Kd.R_reads' HOz57.out).2.2|(with_reducible refine Kd.C_alloc ?_ _)|(with_reducible refine Kd.C_drewN ?_ _)|(with_reducible refine Kd.C_drew ?_)));(case aB=>exact (oB2 GEz2.out GEz3.out));(case aF=>exact (fun k_ hk=>⟨(.inr (Nat.le_trans (by first|exact HK.out.1|exact (show Kept w _ (fun k_=>P1_ k_) from oP2 GWz2.out GWz3.out).1) hk)),Kd.fresh' (Kd.R_lt (oR HOz57.out)) k_ hk⟩));(case aO=>exact (oR HOz55.out));(case aS=>exact (below_size (oB2 GEz2.out GEz3.out)));(case aL=>have:=LMc94.out;omega);intro vz58 w103 ho hb hg hat;rw [← Nyz47.out] at ho;have _:=Ak (blk_grown (g:=gbz2) (o := .cells #[.string a0_0, .string a0_1, .int .i64 a0_2] 33 (0,0)) (oL BKz2.out) hg (Kd.R_ne HOz55.out BKz2.out (by decide)));have _:=Ak (blk_grown (g:=gbz3) (o := .cells #[.int .i64 a3_0, .int .i64 a3_1, .int .i64 a3_2, .slice (some adz48) l3_3.length c3_3, .slice A3_4 l3_4.length c3_4] 28 (0,0)) (oL BKz3.out) hg (Kd.R_ne HOz55.out BKz3.out (by decide)));have _:=Ak (Kd.R_after (ok:=(fun k_=>(P1_ k_∨w.heap.size≤k_))) (by (with_reducible repeat (first|apply Kd.R_alloc|apply Kd.R_drewN|apply Kd.R_drew));exact Kd.R_mono HOz57.out (fun _ hk=>⟨hk.1.1,hk.2⟩)) hg hat);have _:=Ak (hb);have _:=Ak (Kept.of_grown (S:=(fun k_=>P1_ k_)) hg (oP2 GWz2.out GWz3.out) (fun k_ e_=>(HOz55.out.1 k_ e_).1));have _:=Ak (ho);clear BKz2 BKz3 HOz57 HB HK HOz55;rename_i BKz2 BKz3 HOz57 HB HK HOz59;clear ho hb hg hat))
          have n0_:=Ak (Kd.R_drew HOz57.out)
          have n1_:=Ak (Kd.R_drew HOz59.out)
          have n2_:=Ak (blk_drew BKz2.out)
          have n3_:=Ak (blk_drew BKz3.out)
          have n4_:=Ak (Kept.drew HK.out)
          have n5_:=Ak (below_drew1 HB.out)
          clear HOz57
          clear HOz59
          clear BKz2
          clear BKz3
          clear HK
          clear HB
          have HOz57:=n0_
          have HOz59:=n1_
          have BKz2:=n2_
          have BKz3:=n3_
          have HK:=n4_
          have HB:=n5_
          clear n0_ n1_ n2_ n3_ n4_ n5_
          have pz60:0≤(x71_3:Int):=of_decide_eq_true oA
          have qz60:x71_3<(l3_4.length:Int):=of_decide_eq_true oA
          obtain ⟨adz60,Az60_3,cz60_3,Az60_4,cz60_4,ez60,hxz60_0,hxz60_1,hxz60_2,hxz60_3,hxz60_4,hlz60_3,hiz60_3,hlz60_4,hiz60_4⟩:=at_T28 (Kd.C_kept_now HR3_4.out HK.out) x71_3 pz60 qz60
          have hwz60_4:=hxz60_4
          have hwz60_3:=hxz60_3
          have hwz60_2:=hxz60_2
          have hwz60_1:=hxz60_1
          have hwz60_0:=hxz60_0
          cases ez60
          have hfz60_3:=(fun (W2_:World) (hk2_:Kept w W2_ (fun k_=>P1_ k_))=>(show Kd.C k52 W2_ Az60_3 ((rd_T28 l3_4 x71_3).f3).length ((rd_T28 l3_4 x71_3).f3) from by (obtain ⟨ad2_,A2_3,c2_3,A2_4,c2_4,e2_,hz2q_0,hz2q_1,hz2q_2,hz2q_3,hz2q_4,hl2q_3,hi2q_3,hl2q_4,hi2q_4⟩:=at_T28 (HR3_4.out W2_ hk2_) x71_3 pz60 qz60;obtain rfl:=Option.some.inj e2_;have hs_:=Kd.foot_same HR3_4.out (by decide) (by omega) rfl HK.out hk2_ (by first|rfl|simp [add_block]) hxz60_3;have he_:=Option.some.inj (hs_.symm.trans hz2q_3);injection he_ with ha_ hb_ hc_;rw [ha_];exact hi2q_3)))
          have HRz60_3:=Ak hfz60_3
          have HCz60_3:=Ak hlz60_3
          clear hiz60_3 hlz60_3 hfz60_3
          have hfz60_4:=(fun (W2_:World) (hk2_:Kept w W2_ (fun k_=>P1_ k_))=>(show Kd.C k28 W2_ Az60_4 ((rd_T28 l3_4 x71_3).f4).length ((rd_T28 l3_4 x71_3).f4) from by (obtain ⟨ad2_,A2_3,c2_3,A2_4,c2_4,e2_,hz2q_0,hz2q_1,hz2q_2,hz2q_3,hz2q_4,hl2q_3,hi2q_3,hl2q_4,hi2q_4⟩:=at_T28 (HR3_4.out W2_ hk2_) x71_3 pz60 qz60;obtain rfl:=Option.some.inj e2_;have hs_:=Kd.foot_same HR3_4.out (by decide) (by omega) rfl HK.out hk2_ (by first|rfl|simp [add_block]) hxz60_4;have he_:=Option.some.inj (hs_.symm.trans hz2q_4);injection he_ with ha_ hb_ hc_;rw [ha_];exact hi2q_4)))
          have HRz60_4:=Ak hfz60_4
          have HCz60_4:=Ak hlz60_4
          clear hiz60_4 hlz60_4 hfz60_4
          replace pz60:=eq_true pz60
          replace qz60:=eq_true qz60
          obtain ⟨Ao106,co106,eo106⟩:=Kd.R_slice HOz59.out
          (first|subst eo106|(injection eo106 with f1_ f2_ f3_;have f4_:=f1_.symm;have f5_:=f3_.symm;clear f1_ f2_ f3_;subst f4_;subst f5_))
          refine start_ (n:=17) (S:=fun w'=>w'.cell? ⟨gbz2,0,none⟩=some (.string a0_0)∧w'.cell? ⟨gbz2,1,none⟩=some (.string a0_1)∧w'.cell? ⟨gbz2,2,none⟩=some (.int .i64 a0_2)∧w'.cell? ⟨gbz3,0,none⟩=some (.int .i64 a3_0)∧w'.cell? ⟨gbz3,1,none⟩=some (.int .i64 a3_1)∧w'.cell? ⟨gbz3,2,none⟩=some (.int .i64 a3_2)∧w'.cell? ⟨gbz3,3,none⟩=some (.slice (some adz48) l3_3.length c3_3)∧w'.cell? ⟨gbz3,4,none⟩=some (.slice (some adz60) l3_4.length c3_4)∧w'.cell? (adz60.add ((x71_3).toNat*5))=some (.int .i64 ((rd_T28 l3_4 x71_3).f0))∧w'.cell? ⟨(adz60.add ((x71_3).toNat*5)).block,(adz60.add ((x71_3).toNat*5)).off+1,none⟩=some (.int .i64 ((rd_T28 l3_4 x71_3).f1))∧w'.cell? ⟨(adz60.add ((x71_3).toNat*5)).block,(adz60.add ((x71_3).toNat*5)).off+2,none⟩=some (.int .i64 ((rd_T28 l3_4 x71_3).f2))∧w'.cell? ⟨(adz60.add ((x71_3).toNat*5)).block,(adz60.add ((x71_3).toNat*5)).off+3,none⟩=some (.slice Az60_3 ((rd_T28 l3_4 x71_3).f3).length cz60_3)∧w'.cell? ⟨(adz60.add ((x71_3).toNat*5)).block,(adz60.add ((x71_3).toNat*5)).off+4,none⟩=some (.slice Az60_4 ((rd_T28 l3_4 x71_3).f4).length cz60_4)) (ds:=[15]) #[false,false,false,false,false,false,false,false,false,false,false,false,false,false,false,false,false] (by kernel_rfl) rfl rfl ⟨(blk_cell BKz2.out 0).trans rfl,(blk_cell BKz2.out 1).trans rfl,(blk_cell BKz2.out 2).trans rfl,(blk_cell BKz3.out 0).trans rfl,(blk_cell BKz3.out 1).trans rfl,(blk_cell BKz3.out 2).trans rfl,(blk_cell BKz3.out 3).trans rfl,(blk_cell BKz3.out 4).trans rfl,hxz60_0,hxz60_1,hxz60_2,hxz60_3,hxz60_4⟩ (fun hHeld=>?_);refine with_tabW spec_Layout_value.tab22 spec_Layout_value.bits22 (fun HT_ HW_=>?_)
          generalize w103.drew=w105 at HOz57 HOz59 BKz2 BKz3 HK HB HRz60_3 HRz60_4 hxz60_0 hxz60_1 hxz60_2 hxz60_3 hxz60_4 hHeld ⊢
          refine zP 1 (some 106) (mA 17 2) ?_
          refine zP 2 (some 107) (mA 17 6) ?_
          refine zP 3 (some 108) (mA 17 14) ?_
          refine zP 5 (some 110) (mA 17 46) ?_
          refine zP 8 (some 113) (mA 17 302) ?_
          refine zP 9 (some 114) (mA 17 814) ?_
          refine zP 10 (some 115) (mA 17 1838) ?_
          refine zP 11 (some 116) (mA 17 3886) ?_
          refine zP 12 (some 117) (mA 17 7982) ?_
          refine zP 13 (some 118) (mA 17 16174) ?_
          refine zP 14 (some 119) (mA 17 32558) ?_
          refine zT 0 (some 105) (mA 17 32559) ?_
          refine zT 4 (some 109) (mA 17 32575) ?_
          refine zP 6 (some 111) (mA 17 32639) ?_
          refine zT 7 (some 112) (mA 17 32767) ?_
          refine last_ (i:=15) (N:=some 120) #[true,true,true,true,true,true,true,true,true,true,true,true,true,true,true,true,false] rfl rfl (one_of HT_.out (by kernel_rfl)) (by decide) (fun K hK=>?_)
          refine goes_ Try.func16 (by kernel_rfl) rfl #[.agg #[.string a0_0, .string a0_1, .int .i64 a0_2], .slice Ao106 yz47.length co106, .string a2, .agg #[.int .i64 ((rd_T28 l3_4 x71_3).f0), .int .i64 ((rd_T28 l3_4 x71_3).f1), .int .i64 ((rd_T28 l3_4 x71_3).f2), .slice Az60_3 ((rd_T28 l3_4 x71_3).f3).length cz60_3, .slice Az60_4 ((rd_T28 l3_4 x71_3).f4).length cz60_4], .string (a4++a0_1), .int .i64 (wrap64 ((wrap64 (((a4++a0_1).size:Int)+((a2.extract (((rd_T52 l3_3 x71_3).f0):Int).toNat (((rd_T52 l3_3 x71_3).f1):Int).toNat).size:Int)))+3))] (by rfl) rfl rfl (by (try simp only [List.map_toArray,List.map_cons,List.map_nil]);first|done|rfl|(simp only [List.length_drop,List.length_take];rfl)|(simp only [ByteArray.size_append,Int.natCast_add,ByteArray.size_extract];rw [Nat.min_eq_left (show ((rd_T52 l3_3 x71_3).f1:Int).toNat≤a2.size from by have h_:((rd_T52 l3_3 x71_3).f1)≤(a2.size:Int):=of_decide_eq_true oA;omega)];rfl)) ?_
          with_reducible refine (ih_16 k3 (by have:=HJ14.out;have:=HJ31.out;have:=HK3.out;omega) a0_0 a0_1 a0_2 (fun k_=>some k_=(.slice Ao106 yz47.length co106:Value).ownBlock) (.slice Ao106 yz47.length co106) yz47 a2 ((rd_T28 l3_4 x71_3).f0) ((rd_T28 l3_4 x71_3).f1) ((rd_T28 l3_4 x71_3).f2) _ _ ((rd_T28 l3_4 x71_3).f3) _ _ ((rd_T28 l3_4 x71_3).f4) (a4++a0_1) (wrap64 ((wrap64 (((a4++a0_1).size:Int)+((a2.extract (((rd_T52 l3_3 x71_3).f0):Int).toNat (((rd_T52 l3_3 x71_3).f1):Int).toNat).size:Int)))+3)) tz46 w0 _ ?side1 ?side2 ?side3 ?side4 ?side5 ?side6 A96.out).mono ?_
          (case side1=>exact oB2 GEz2.out GEz3.out)
          (case side2=>exact Kd.R_tight rfl HOz59.out)
          (case side3=>exact Kd.C_kept_call HRz60_3.out (oP2 GWz2.out GWz3.out) (fun k_ hs_=>(fun e_=>(HOz59.out.1 k_ e_.symm).1) hs_))
          (case side4=>exact HCz60_3.out)
          (case side5=>exact Kd.C_kept_call HRz60_4.out (oP2 GWz2.out GWz3.out) (fun k_ hs_=>(fun e_=>(HOz59.out.1 k_ e_.symm).1) hs_))
          (case side6=>exact HCz60_4.out)
          rintro e w107 ⟨vz61,rfl,ho0,hb,hkp⟩
          refine ⟨_,rfl,?_⟩
          have n0_:=Ak (blk_kept (oL BKz2.out) hkp (fun hs_=>(fun e_=>(Kd.R_ne HOz59.out BKz2.out (by decide)) e_) hs_))
          have n1_:=Ak (blk_kept (oL BKz3.out) hkp (fun hs_=>(fun e_=>(Kd.R_ne HOz59.out BKz3.out (by decide)) e_) hs_))
          have n2_:=Ak (Kd.R_mono (ok':=fun k_=>(P1_ k_∨w.heap.size≤k_)∧some k_≠(vz61:Value).ownBlock) (Kd.R_keptB (HOz57.out) hkp (fun k_ hk_ hs_=>(hk_.2) hs_)) (fun k_ hk_=>⟨hk_.1.1,fun e_=>Or.elim (ho0.1 k_ e_.symm) (fun hs_=>hk_.2.1 hs_) (fun hn_=>Nat.not_le.2 hk_.2.2 hn_)⟩))
          have n3_:=Ak (Kd.R_mono (ok':=fun k_=>(P1_ k_∨w.heap.size≤k_)∧some k_≠(.slice Ao104 yz45.length co104:Value).ownBlock) ho0 (fun k_ hk_=>⟨Or.elim hk_ (fun hs_=>(HOz59.out.1 k_ (hs_).symm).1) (fun hn_=>(.inr (Nat.le_trans (by first|exact HK.out.1|exact (show Kept w _ (fun k_=>P1_ k_) from oP2 GWz2.out GWz3.out).1) hn_))),Or.elim hk_ (fun hs_=>fun e_=>(((HOz57.out).1 k_ e_.symm).2) hs_) (fun hn_=>(Kd.fresh' (Kd.R_lt (oR HOz57.out)) k_ hn_))⟩))
          have n4_:=Ak (Kept.then_ (S:=(fun k_=>P1_ k_)) (oP2 GWz2.out GWz3.out) hkp (fun k_ hs_=>(fun e_=>(HOz59.out.1 k_ e_.symm).1) hs_))
          have n5_:=Ak (hb)
          clear BKz2
          clear BKz3
          clear HOz57
          clear HK
          clear HB
          clear HOz59
          have BKz2:=n0_
          have BKz3:=n1_
          have HOz57:=n2_
          have HOz62:=n3_
          have HK:=n4_
          have HB:=n5_
          clear n0_ n1_ n2_ n3_ n4_ n5_
          (try clear hb)
          (try clear hkp)
          (try clear ho0)
          refine hK.out _ _ ?_
          clear hK K
          refine norm_ (a':=?_) ?_ ?_
          rotate_left
          ·
           show Act.put _ (some 120) _=_
           simp only [Act.put,List.setIfInBounds_toArray,List.set_cons_zero,List.set_cons_succ,i64_w,i32_w]
           rfl
          refine zP 16 (some 1) (mA 17 131071) ?_
          refine done_ (done_of HT_.out (by kernel_rfl)) ?_
          try go_wp2
          go_roundg k3
          case measure=>have:=HJ14.out;have:=HJ31.out;have:=HK3.out;omega
          case rel=>exact ⟨(tz46),(wrap64 (x71_3+1)),oS,H',⟨by have:=HJ14.out;have:=HJ31.out;have:=HK3.out;omega⟩,⟨by (with_reducible repeat (first|apply Kd.R_alloc|apply Kd.R_drewN|apply Kd.R_drew));exact Kd.R_mono HOz62.out (fun _ hk=>hk.1)⟩,⟨oL BKz2.out⟩,⟨oL BKz3.out⟩,⟨oP2 GWz2.out GWz3.out⟩,⟨oB2 GEz2.out GEz3.out⟩⟩
         rw [if_neg c94] at H
         exact absurd H (by simp)
        rw [if_neg c92] at H
        exact absurd H (by simp)
       rw [if_neg c90] at H
       exact absurd H (by simp)
      rw [if_neg c88] at H
      exact absurd H (by simp)
     rw [if_neg c86] at H
     exact absurd H (by simp)
   rw [if_neg c53] at H
   exact absurd H (by simp)
end Go.Proofs.Ytbkgoccnegjdhaa.Q

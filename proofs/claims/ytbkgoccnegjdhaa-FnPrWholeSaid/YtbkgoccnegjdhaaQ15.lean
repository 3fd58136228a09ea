/- Functions of the program as Lean functions, each with a proof that the call comes to what it gives. Written by prx.py (wip/pr). -/
import Derived.Test.YtbkgoccnegjdhaaQ0
import Derived.Test.YtbkgoccnegjdhaaQ13
import Derived.Test.YtbkgoccnegjdhaaQ14
namespace Go.Proofs.Ytbkgoccnegjdhaa.Q
open Go.RowKit Go.Proofs.YtbkgoccnegjdhaaW.PrintWords Go.Proofs.YtbkgoccnegjdhaaW.PrintLast Go.Proofs.YtbkgoccnegjdhaaW.PrintMore
attribute [local go_sem] max2_int min2_int max_two min_two max_three min_three max_four min_four   -- for this text's walks alone
set_option linter.unusedVariables false
set_option linter.unusedSimpArgs false
def spec_Layout_elements.T12:Bool × List (List Nat × List Nat):=(true,[([],[]),([],[]),([],[]),([],[]),([3],[3]),([],[]),([4,5],[4,5]),([6],[6]),([],[]),([],[]),([0,1,2,7,8,9],[0,1,2,7,8,9]),([10,10,0,1,2,3,4,5,6,7,8,9,10],[1,10])])
def spec_Layout_elements.B12:List Nat:=[0,0,0,0,8,0,56,120,0,0,1023,2047]
theorem spec_Layout_elements.tab12:rtab .any (opsOf Try.f25 12)=spec_Layout_elements.T12:=by kernel_rfl
theorem spec_Layout_elements.bits12:waitsOk spec_Layout_elements.T12.2 spec_Layout_elements.B12=true:=by kernel_rfl
set_option maxHeartbeats 8000000 in
set_option maxRecDepth 100000 in
theorem spec_Layout_elements.step (k:Nat) (ih_16 : ∀ m_:Nat,m_<k→(∀ (a0_0:ByteArray) (a0_1:ByteArray) (a0_2:Int) (P1_:Nat→Prop) (u9000_:Value) (l1:List Int) (a2:ByteArray) (a3_0:Int) (a3_1:Int) (a3_2:Int) (A3_3:Option Addr) (c3_3:Nat) (l3_3:List (S52)) (A3_4:Option Addr) (c3_4:Nat) (l3_4:List (S28)) (a4:ByteArray) (a5:Int) (r:List Int) (w0 w:World) (hB:Below w0.heap.size w0 w) (ho1:Kd.R (Kd.int .u8) 5 w w0.heap.size P1_ u9000_ l1) (hr3_3 : ∀ W_,Kept w W_ (fun k_=>P1_ k_)→Kd.C k52 W_ A3_3 l3_3.length l3_3) (hc3_3:l3_3.length≤c3_3) (hr3_4 : ∀ W_,Kept w W_ (fun k_=>P1_ k_)→Kd.C k28 W_ A3_4 l3_4.length l3_4) (hc3_4:l3_4.length≤c3_4) (h:spec_Layout_value.f m_ a0_0 a0_1 a0_2 l1 a2 a3_0 a3_1 a3_2 l3_3 l3_4 a4 a5=some r),
 Calls Try.prog 16 #[.agg #[.string a0_0, .string a0_1, .int .i64 a0_2],u9000_, .string a2, .agg #[.int .i64 a3_0, .int .i64 a3_1, .int .i64 a3_2, .slice A3_3 l3_3.length c3_3, .slice A3_4 l3_4.length c3_4], .string a4, .int .i64 a5] w fun e w' => ∃ v0_:Value,e = .returned (v0_)∧Kd.R (Kd.int .u8) 5 w' w0.heap.size (fun k_=>(P1_ k_∨w.heap.size≤k_)) v0_ r∧Below w0.heap.size w0 w'∧Kept w w' (fun k_=>P1_ k_))) (ih_25 : ∀ m_:Nat,m_<k→(∀ (a0_0:ByteArray) (a0_1:ByteArray) (a0_2:Int) (P1_:Nat→Prop) (u9000_:Value) (l1:List Int) (a2:ByteArray) (a3_0:Int) (a3_1:Int) (a3_2:Int) (A3_3:Option Addr) (c3_3:Nat) (l3_3:List (S52)) (A3_4:Option Addr) (c3_4:Nat) (l3_4:List (S28)) (a4:ByteArray) (r:List Int) (w0 w:World) (hB:Below w0.heap.size w0 w) (ho1:Kd.R (Kd.int .u8) 5 w w0.heap.size P1_ u9000_ l1) (hr3_3 : ∀ W_,Kept w W_ (fun k_=>P1_ k_)→Kd.C k52 W_ A3_3 l3_3.length l3_3) (hc3_3:l3_3.length≤c3_3) (hr3_4 : ∀ W_,Kept w W_ (fun k_=>P1_ k_)→Kd.C k28 W_ A3_4 l3_4.length l3_4) (hc3_4:l3_4.length≤c3_4) (h:spec_Layout_elements.f m_ a0_0 a0_1 a0_2 l1 a2 a3_0 a3_1 a3_2 l3_3 l3_4 a4=some r),
 Calls Try.prog 25 #[.agg #[.string a0_0, .string a0_1, .int .i64 a0_2],u9000_, .string a2, .agg #[.int .i64 a3_0, .int .i64 a3_1, .int .i64 a3_2, .slice A3_3 l3_3.length c3_3, .slice A3_4 l3_4.length c3_4], .string a4] w fun e w' => ∃ v0_:Value,e = .returned (v0_)∧Kd.R (Kd.int .u8) 5 w' w0.heap.size (fun k_=>(P1_ k_∨w.heap.size≤k_)) v0_ r∧Below w0.heap.size w0 w'∧Kept w w' (fun k_=>P1_ k_))) : ∀ (a0_0:ByteArray) (a0_1:ByteArray) (a0_2:Int) (P1_:Nat→Prop) (u9000_:Value) (l1:List Int) (a2:ByteArray) (a3_0:Int) (a3_1:Int) (a3_2:Int) (A3_3:Option Addr) (c3_3:Nat) (l3_3:List (S52)) (A3_4:Option Addr) (c3_4:Nat) (l3_4:List (S28)) (a4:ByteArray) (r:List Int) (w0 w:World) (hB:Below w0.heap.size w0 w) (ho1:Kd.R (Kd.int .u8) 5 w w0.heap.size P1_ u9000_ l1) (hr3_3 : ∀ W_,Kept w W_ (fun k_=>P1_ k_)→Kd.C k52 W_ A3_3 l3_3.length l3_3) (hc3_3:l3_3.length≤c3_3) (hr3_4 : ∀ W_,Kept w W_ (fun k_=>P1_ k_)→Kd.C k28 W_ A3_4 l3_4.length l3_4) (hc3_4:l3_4.length≤c3_4) (h:spec_Layout_elements.f k a0_0 a0_1 a0_2 l1 a2 a3_0 a3_1 a3_2 l3_3 l3_4 a4=some r),
 Calls Try.prog 25 #[.agg #[.string a0_0, .string a0_1, .int .i64 a0_2],u9000_, .string a2, .agg #[.int .i64 a3_0, .int .i64 a3_1, .int .i64 a3_2, .slice A3_3 l3_3.length c3_3, .slice A3_4 l3_4.length c3_4], .string a4] w fun e w' => ∃ v0_:Value,e = .returned (v0_)∧Kd.R (Kd.int .u8) 5 w' w0.heap.size (fun k_=>(P1_ k_∨w.heap.size≤k_)) v0_ r∧Below w0.heap.size w0 w'∧Kept w w' (fun k_=>P1_ k_):=by
 intro a0_0 a0_1 a0_2 P1_ u9000_ l1 a2 a3_0 a3_1 a3_2 A3_3 c3_3 l3_3 A3_4 c3_4 l3_4 a4 r w0 w hB ho1 hr3_3 hc3_3 hr3_4 hc3_4 h
 cases k with
 | zero=>exact absurd h (by simp [spec_Layout_elements.f])
 | succ k =>
 simp only [spec_Layout_elements.f] at h
 have hu33:=Try.underlying33
 have hu28:=Try.underlying28
 have HO1:=Ak (show Kd.R (Kd.int .u8) 5 w w0.heap.size (fun k_=>(P1_ k_∨w.heap.size≤k_)) u9000_ l1 from Kd.R_mono ho1 (fun k_ hk=>(.inl hk)))
 have HR3_3:=Ak hr3_3
 have HC3_3:=Ak hc3_3
 clear hr3_3 hc3_3
 have HR3_4:=Ak hr3_4
 have HC3_4:=Ak hc3_4
 clear hr3_4 hc3_4
 have HK:=Ak (Kept.refl w (fun k_=>P1_ k_))
 have HW0:=Ak hB.size
 have HB:=Ak hB
 clear hB
 have H:(if a4.size+a0_1.size≤9223372036854775807 then (if l1.length<140737488355328 then (spec_Layout_elements.l0 k (l1++[91]) a2 a4 (a4++a0_1) (wrap64 (((a4++a0_1).size:Int)+1)) (l3_4.length:Int) 0 a0_0 a0_1 a0_2 a3_0 a3_1 a3_2 l3_3 l3_4) else (none)) else (none))=some r:=h
 clear h
 by_cases c6:a4.size+a0_1.size≤9223372036854775807
 rotate_left
 ·
  rw [if_neg c6] at H
  exact absurd H (by simp)
 rw [if_pos c6] at H
 have c6b0:=eq_true c6
 have c6b1:decide (a4.size+a0_1.size≤9223372036854775807)=true:=decide_eq_true c6
 try have c6b2:(9223372036854775807<a4.size+a0_1.size)=False:=eq_false (Nat.not_lt.2 c6)
 by_cases c7:l1.length<140737488355328
 ·
  rw [if_pos c7] at H
  have LMc7:=Ak c7
  clear c7
  obtain ⟨yz0,hyz0⟩ : ∃ y_:List Int,y_=(l1++[91]):=⟨_,rfl⟩
  replace H:(spec_Layout_elements.l0 k yz0 a2 a4 (a4++a0_1) (wrap64 (((a4++a0_1).size:Int)+1)) (l3_4.length:Int) 0 a0_0 a0_1 a0_2 a3_0 a3_1 a3_2 l3_3 l3_4)=some r:=by first|(rw [hyz0];with_reducible exact H)|(have H2_:=(Option.bind_some _ _).symm.trans H;rw [hyz0];with_reducible exact H2_)|(have H2_:=(Option.bind_some _ _).symm.trans H;with_reducible exact H2_)|with_reducible exact H|(rw [hyz0];exact H)|exact H
  have Nyz0:=Ak hyz0
  clear hyz0
  have H':=Ak H
  clear H
  go_enter Try.func25,Try.ntmps25
  go_wp2_with (first|((with_reducible refine gate_dst (N:=5) rfl ?_);refine box_event ?hg (N:=5) ?hd (cs := #[.string a0_0, .string a0_1, .int .i64 a0_2]) (t:=33) ?hr ?_;(case hd=>rfl);(case hg=>rfl);(case hr=>first|(go_simp;done)|(go_simp;rfl));intro gbz1 hg w8 hbox hb;have _:=Ak (Kd.R_below (oR HO1.out) hb);have _:=Ak (Kept.below (S:=(fun k_=>P1_ k_)) oP hb);have _:=Ak (below_step oB hb);have _:=Ak (hbox);have _:=Ak ((by rw [hg];exact (by first|exact HK.out.1|exact (show Kept w _ (fun k_=>P1_ k_) from oP).1):w.heap.size≤gbz1));have _:=Ak ((by rw [hg];exact (below_size oB):w0.heap.size≤gbz1));clear HO1 HK HB;rename_i HO1 HK HB BKz1 GWz1 GEz1;clear hb hbox hg)|((with_reducible refine gate_dst (N:=8) rfl ?_);refine box_event ?hg (N:=8) ?hd (cs := #[.int .i64 a3_0, .int .i64 a3_1, .int .i64 a3_2, .slice A3_3 l3_3.length c3_3, .slice A3_4 l3_4.length c3_4]) (t:=28) ?hr ?_;(case hd=>rfl);(case hg=>rfl);(case hr=>first|(go_simp;done)|(go_simp;rfl));intro gbz2 hg w9 hbox hb;have _:=Ak (Kd.R_below (oR HO1.out) hb);have _:=Ak (blk_below (g:=gbz1) (o := .cells #[.string a0_0, .string a0_1, .int .i64 a0_2] 33 (0,0)) (oL BKz1.out) hb);have _:=Ak (Kept.below (S:=(fun k_=>P1_ k_)) (oP1 GWz1.out) hb);have _:=Ak (below_step (oB1 GEz1.out) hb);have _:=Ak (hbox);have _:=Ak ((by rw [hg];exact (by first|exact HK.out.1|exact (show Kept w _ (fun k_=>P1_ k_) from oP1 GWz1.out).1):w.heap.size≤gbz2));have _:=Ak ((by rw [hg];exact (below_size (oB1 GEz1.out)):w0.heap.size≤gbz2));have _:=Ak ((by rw [hg];exact Nat.ne_of_lt (blk_lt (g:=gbz1) (o := .cells #[.string a0_0, .string a0_1, .int .i64 a0_2] 33 (0,0)) (oL BKz1.out)):gbz1≠gbz2));have _:=Ak ((by rw [hg];exact Nat.ne_of_gt (blk_lt (g:=gbz1) (o := .cells #[.string a0_0, .string a0_1, .int .i64 a0_2] 33 (0,0)) (oL BKz1.out)):gbz2≠gbz1));clear HO1 BKz1 HK HB;rename_i HO1 BKz1 HK HB BKz2 GWz2 GEz2 NBz1_175002 NBz2_175001;clear hb hbox hg;have hnb10:=NBz1_175002.out;have hnc10:=NBz2_175001.out;have hcz11_0:w9.cell? ⟨gbz1,0,none⟩=some (.string a0_0):=(blk_cell BKz1.out 0).trans rfl;have hcz11_1:w9.cell? ⟨gbz1,1,none⟩=some (.string a0_1):=(blk_cell BKz1.out 1).trans rfl;have hcz11_2:w9.cell? ⟨gbz1,2,none⟩=some (.int .i64 a0_2):=(blk_cell BKz1.out 2).trans rfl;have hfz11_0:=blk_frozen BKz1.out 0;have hfz11_1:=blk_frozen BKz1.out 1;have hfz11_2:=blk_frozen BKz1.out 2)|((with_reducible refine gate_builtin (b := .append) (xs := #[.tmp 18, .tmp 19]) rfl ?_);at_builtin;refine Kd.R_append (Kd.int .u8) (w0:=w0) w0.heap.size rfl (.tmp 18) (.tmp 19) 44 5 (.int .u8 0) 1 rfl Try.underlying44 info5 rfl (by decide) (by omega) u9000_ l1 91 [.int .u8 91] (fun k_=>(P1_ k_∨w.heap.size≤k_)) (fun _=>False) rfl rfl ?aP (fun _ hk=>hk.elim) ?aF ?aO ?aB ?aS ?aL ?_;(case aP=>exact rfl);(case aB=>exact (oB2 GEz1.out GEz2.out));(case aF=>exact (fun k_ hk=>(.inr (Nat.le_trans (by first|exact HK.out.1|exact (show Kept w _ (fun k_=>P1_ k_) from oP2 GWz1.out GWz2.out).1) hk))));(case aO=>exact (oR HO1.out));(case aS=>exact (below_size (oB2 GEz1.out GEz2.out)));(case aL=>have:=LMc7.out;omega);intro vz3 w12 ho hb hg hat;rw [← Nyz0.out] at ho;have _:=Ak (blk_grown (g:=gbz1) (o := .cells #[.string a0_0, .string a0_1, .int .i64 a0_2] 33 (0,0)) (oL BKz1.out) hg (Kd.R_ne HO1.out BKz1.out (by decide)));have _:=Ak (blk_grown (g:=gbz2) (o := .cells #[.int .i64 a3_0, .int .i64 a3_1, .int .i64 a3_2, .slice A3_3 l3_3.length c3_3, .slice A3_4 l3_4.length c3_4] 28 (0,0)) (oL BKz2.out) hg (Kd.R_ne HO1.out BKz2.out (by decide)));have _:=Ak (hb);have _:=Ak (Kept.of_grown (S:=(fun k_=>P1_ k_)) hg (oP2 GWz1.out GWz2.out) (fun k_ e_=>(HO1.out.1 k_ e_)));have _:=Ak (ho);clear BKz1 BKz2 HB HK HO1;rename_i BKz1 BKz2 HB HK HOz4;clear ho hb hg hat;have hcz13_0:w12.cell? ⟨gbz2,0,none⟩=some (.int .i64 a3_0):=(blk_cell BKz2.out 0).trans rfl;have hcz13_1:w12.cell? ⟨gbz2,1,none⟩=some (.int .i64 a3_1):=(blk_cell BKz2.out 1).trans rfl;have hcz13_2:w12.cell? ⟨gbz2,2,none⟩=some (.int .i64 a3_2):=(blk_cell BKz2.out 2).trans rfl;have hcz13_3:w12.cell? ⟨gbz2,3,none⟩=some (.slice A3_3 l3_3.length c3_3):=(blk_cell BKz2.out 3).trans rfl;have hcz13_4:w12.cell? ⟨gbz2,4,none⟩=some (.slice A3_4 l3_4.length c3_4):=(blk_cell BKz2.out 4).trans rfl;have hfz13_0:=blk_frozen BKz2.out 0;have hfz13_1:=blk_frozen BKz2.out 1;have hfz13_2:=blk_frozen BKz2.out 2;have hfz13_3:=blk_frozen BKz2.out 3;have hfz13_4:=blk_frozen BKz2.out 4))
  (try simp only [Act.put,List.setIfInBounds_toArray,List.set_cons_zero,List.set_cons_succ])
  go_loopg [1,12,27] k (fun kq v1 v12 v27 w' => ∃ (x1_1:List Int) (x12_1:Int) (x27_1:Int),v12 = .int .i64 x12_1∧v27 = .int .i64 x27_1∧Aside0 (spec_Layout_elements.l0 kq x1_1 a2 a4 (a4++a0_1) x12_1 (l3_4.length:Int) x27_1 a0_0 a0_1 a0_2 a3_0 a3_1 a3_2 l3_3 l3_4=some r)∧Aside0 (kq≤k)∧Aside0 (Kd.R (Kd.int .u8) 5 w' w0.heap.size (fun k_=>(P1_ k_∨w.heap.size≤k_)) v1 x1_1)∧Aside0 (w'.heap[gbz1]? = some (.cells #[.string a0_0, .string a0_1, .int .i64 a0_2] 33 (0,0)))∧Aside0 (w'.heap[gbz2]? = some (.cells #[.int .i64 a3_0, .int .i64 a3_1, .int .i64 a3_2,(.slice A3_3 l3_3.length c3_3),(.slice A3_4 l3_4.length c3_4)] 28 (0,0)))∧Aside0 (Kept w w' (fun k_=>P1_ k_))∧Aside0 (Below w0.heap.size w0 w'))
  case atStart=>exact ⟨(yz0),(wrap64 (((a4++a0_1).size:Int)+1)),(0),oS,oS,H',⟨Nat.le_refl _⟩,⟨oR HOz4.out⟩,⟨oL BKz1.out⟩,⟨oL BKz2.out⟩,⟨oP2 GWz1.out GWz2.out⟩,⟨oB2 GEz1.out GEz2.out⟩⟩
  case round =>
  clear H'
  clear c6 c6b0 c6b1 c6b2 hcz11_0 hcz11_1 hcz11_2 hcz13_0 hcz13_1 hcz13_2 hcz13_3 hcz13_4 hfz11_0 hfz11_1 hfz11_2 hfz13_0 hfz13_1 hfz13_2 hfz13_3 hfz13_4
  obtain ⟨x1_1,x12_1,x27_1,rfl,rfl,HA,HK1,HO_1,BKz1,BKz2,HK,HB⟩:=hrel
  cases gk with
  | zero=>exact absurd HA.out (by simp [spec_Layout_elements.l0])
  | succ k1 =>
   have H:=HA.out
   clear HA
   simp only [spec_Layout_elements.l0] at H
   by_cases c14:x27_1<(l3_4.length:Int)
   rotate_left
   ·
    rw [if_neg c14] at H
    have c14b0:decide (x27_1<(l3_4.length:Int))=false:=decide_eq_false c14
    clear c14
    by_cases c38:x1_1.length<140737488355328
    rotate_left
    ·
     rw [if_neg c38] at H
     exact absurd H (by simp)
    rw [if_pos c38] at H
    have LMc38:=Ak c38
    clear c38
    obtain ⟨yz28,hyz28⟩ : ∃ y_:List Int,y_=(x1_1++[10]):=⟨_,rfl⟩
    replace H:(if yz28.length+a4.size<140737488355328 then ((some (yz28++bytesOf a4:List Int)).bind fun yz29=>(if yz29.length<140737488355328 then (some (yz29++[93])) else (none))) else (none))=some r:=by first|(rw [hyz28];with_reducible exact H)|(have H2_:=(Option.bind_some _ _).symm.trans H;rw [hyz28];with_reducible exact H2_)|(have H2_:=(Option.bind_some _ _).symm.trans H;with_reducible exact H2_)|with_reducible exact H|(rw [hyz28];exact H)|exact H
    have Nyz28:=Ak hyz28
    clear hyz28
    by_cases c39:yz28.length+a4.size<140737488355328
    ·
     rw [if_pos c39] at H
     have LMc39:=Ak c39
     clear c39
     obtain ⟨yz29,hyz29⟩ : ∃ y_:List Int,y_=(yz28++bytesOf a4):=⟨_,rfl⟩
     replace H:(if yz29.length<140737488355328 then (some (yz29++[93])) else (none))=some r:=by first|(rw [hyz29];with_reducible exact H)|(have H2_:=(Option.bind_some _ _).symm.trans H;rw [hyz29];with_reducible exact H2_)|(have H2_:=(Option.bind_some _ _).symm.trans H;with_reducible exact H2_)|with_reducible exact H|(rw [hyz29];exact H)|exact H
     have Nyz29:=Ak hyz29
     clear hyz29
     by_cases c40:yz29.length<140737488355328
     rotate_left
     ·
      rw [if_neg c40] at H
      exact absurd H (by simp)
     rw [if_pos c40] at H
     have LMc40:=Ak c40
     clear c40
     obtain ⟨yz30,hyz30⟩ : ∃ y_:List Int,y_=(yz29++[93]):=⟨_,rfl⟩
     replace H:(some yz30)=some r:=by first|(rw [hyz30];with_reducible exact H)|(have H2_:=(Option.bind_some _ _).symm.trans H;rw [hyz30];with_reducible exact H2_)|(have H2_:=(Option.bind_some _ _).symm.trans H;with_reducible exact H2_)|with_reducible exact H|(rw [hyz30];exact H)|exact H
     have Nyz30:=Ak hyz30
     clear hyz30
     obtain rfl:=Option.some.inj H
     go_wp2_with (first|((with_reducible refine gate_builtin (b := .append) (xs := #[.tmp 55, .tmp 56]) rfl ?_);at_builtin;refine Kd.R_append (Kd.int .u8) (w0:=w0) w0.heap.size rfl (.tmp 55) (.tmp 56) 44 5 (.int .u8 0) 1 rfl Try.underlying44 info5 rfl (by decide) (by omega) u1 x1_1 10 [.int .u8 10] (fun k_=>(P1_ k_∨w.heap.size≤k_)) (fun _=>False) rfl rfl ?aP (fun _ hk=>hk.elim) ?aF ?aO ?aB ?aS ?aL ?_;(case aP=>exact rfl);(case aB=>exact (oB2 GEz1.out GEz2.out));(case aF=>exact (fun k_ hk=>(.inr (Nat.le_trans (by first|exact HK.out.1|exact (show Kept w _ (fun k_=>P1_ k_) from oP2 GWz1.out GWz2.out).1) hk))));(case aO=>exact (oR HO_1.out));(case aS=>exact (below_size (oB2 GEz1.out GEz2.out)));(case aL=>have:=LMc38.out;omega);intro vz31 w41 ho hb hg hat;rw [← Nyz28.out] at ho;have _:=Ak (blk_grown (g:=gbz1) (o := .cells #[.string a0_0, .string a0_1, .int .i64 a0_2] 33 (0,0)) (oL BKz1.out) hg (Kd.R_ne HO_1.out BKz1.out (by decide)));have _:=Ak (blk_grown (g:=gbz2) (o := .cells #[.int .i64 a3_0, .int .i64 a3_1, .int .i64 a3_2, .slice A3_3 l3_3.length c3_3, .slice A3_4 l3_4.length c3_4] 28 (0,0)) (oL BKz2.out) hg (Kd.R_ne HO_1.out BKz2.out (by decide)));have _:=Ak (hb);have _:=Ak (Kept.of_grown (S:=(fun k_=>P1_ k_)) hg (oP2 GWz1.out GWz2.out) (fun k_ e_=>(HO_1.out.1 k_ e_)));have _:=Ak (ho);clear BKz1 BKz2 HB HK HO_1;rename_i BKz1 BKz2 HB HK HOz32;clear ho hb hg hat)|((with_reducible refine gate_builtin (b := .append) (xs := #[.tmp 58,_]) rfl ?_);at_builtin;refine Kd.R_append_str (w0:=w0) w0.heap.size rfl (.tmp 58) _ 44 9 5 rfl Try.underlying44 Try.underlying9 info5 vz31 yz28 a4 (fun k_=>(P1_ k_∨w.heap.size≤k_)) rfl rfl ?aO ?aF ?aB ?aS ?aL ?_;(case aB=>exact (oB2 GEz1.out GEz2.out));(case aF=>exact (fun k_ hk=>(.inr (Nat.le_trans (by first|exact HK.out.1|exact (show Kept w _ (fun k_=>P1_ k_) from oP2 GWz1.out GWz2.out).1) hk))));(case aO=>exact (oR HOz32.out));(case aS=>exact (below_size (oB2 GEz1.out GEz2.out)));(case aL=>have:=LMc39.out;omega);intro vz33 w42 ho hb hg hat;rw [← Nyz29.out] at ho;have _:=Ak (blk_grown (g:=gbz1) (o := .cells #[.string a0_0, .string a0_1, .int .i64 a0_2] 33 (0,0)) (oL BKz1.out) hg (Kd.R_ne HOz32.out BKz1.out (by decide)));have _:=Ak (blk_grown (g:=gbz2) (o := .cells #[.int .i64 a3_0, .int .i64 a3_1, .int .i64 a3_2, .slice A3_3 l3_3.length c3_3, .slice A3_4 l3_4.length c3_4] 28 (0,0)) (oL BKz2.out) hg (Kd.R_ne HOz32.out BKz2.out (by decide)));have _:=Ak (hb);have _:=Ak (Kept.of_grown (S:=(fun k_=>P1_ k_)) hg (oP2 GWz1.out GWz2.out) (fun k_ e_=>(HOz32.out.1 k_ e_)));have _:=Ak (ho);clear BKz1 BKz2 HB HK HOz32;rename_i BKz1 BKz2 HB HK HOz34;clear ho hb hg hat)|((with_reducible refine gate_builtin (b := .append) (xs := #[.tmp 61, .tmp 62]) rfl ?_);at_builtin;refine Kd.R_append (Kd.int .u8) (w0:=w0) w0.heap.size rfl (.tmp 61) (.tmp 62) 44 5 (.int .u8 0) 1 rfl Try.underlying44 info5 rfl (by decide) (by omega) vz33 yz29 93 [.int .u8 93] (fun k_=>(P1_ k_∨w.heap.size≤k_)) (fun _=>False) rfl rfl ?aP (fun _ hk=>hk.elim) ?aF ?aO ?aB ?aS ?aL ?_;(case aP=>exact rfl);(case aB=>exact (oB2 GEz1.out GEz2.out));(case aF=>exact (fun k_ hk=>(.inr (Nat.le_trans (by first|exact HK.out.1|exact (show Kept w _ (fun k_=>P1_ k_) from oP2 GWz1.out GWz2.out).1) hk))));(case aO=>exact (oR HOz34.out));(case aS=>exact (below_size (oB2 GEz1.out GEz2.out)));(case aL=>have:=LMc40.out;omega);intro vz35 w43 ho hb hg hat;rw [← Nyz30.out] at ho;have _:=Ak (blk_grown (g:=gbz1) (o := .cells #[.string a0_0, .string a0_1, .int .i64 a0_2] 33 (0,0)) (oL BKz1.out) hg (Kd.R_ne HOz34.out BKz1.out (by decide)));have _:=Ak (blk_grown (g:=gbz2) (o := .cells #[.int .i64 a3_0, .int .i64 a3_1, .int .i64 a3_2, .slice A3_3 l3_3.length c3_3, .slice A3_4 l3_4.length c3_4] 28 (0,0)) (oL BKz2.out) hg (Kd.R_ne HOz34.out BKz2.out (by decide)));have _:=Ak (hb);have _:=Ak (Kept.of_grown (S:=(fun k_=>P1_ k_)) hg (oP2 GWz1.out GWz2.out) (fun k_ e_=>(HOz34.out.1 k_ e_)));have _:=Ak (ho);clear BKz1 BKz2 HB HK HOz34;rename_i BKz1 BKz2 HB HK HOz36;clear ho hb hg hat))
     go_ret
     exact ⟨_,oE,oR HOz36.out,oB2 GEz1.out GEz2.out,oP2 GWz1.out GWz2.out⟩
    rw [if_neg c39] at H
    exact absurd H (by simp)
   rw [if_pos c14] at H
   have c14b0:decide (x27_1<(l3_4.length:Int))=true:=decide_eq_true c14
   clear c14
   by_cases c15:x27_1>0
   ·
    rw [if_pos c15] at H
    have c15b0:decide (0<x27_1)=true:=decide_eq_true c15
    clear c15
    by_cases c16:x1_1.length<140737488355328
    rotate_left
    ·
     rw [if_neg c16] at H
     exact absurd H (by simp)
    rw [if_pos c16] at H
    have LMc16:=Ak c16
    clear c16
    obtain ⟨yz5,hyz5⟩ : ∃ y_:List Int,y_=(x1_1++[44]):=⟨_,rfl⟩
    replace H:(if yz5.length<140737488355328 then ((some (yz5++[10]:List Int)).bind fun yz6=>(if yz6.length+(a4++a0_1).size<140737488355328 then (if 0≤x27_1 then (if x27_1<(l3_4.length:Int) then ((spec_Layout_value.f k1 a0_0 a0_1 a0_2 (yz6++bytesOf (a4++a0_1)) a2 ((rd_T28 l3_4 x27_1).f0) ((rd_T28 l3_4 x27_1).f1) ((rd_T28 l3_4 x27_1).f2) ((rd_T28 l3_4 x27_1).f3) ((rd_T28 l3_4 x27_1).f4) (a4++a0_1) ((a4++a0_1).size:Int)).bind fun tz7=>(spec_Layout_elements.l0 k1 tz7 a2 a4 (a4++a0_1) ((a4++a0_1).size:Int) (l3_4.length:Int) (wrap64 (x27_1+1)) a0_0 a0_1 a0_2 a3_0 a3_1 a3_2 l3_3 l3_4)) else (none)) else (none)) else (none))) else (none))=some r:=by first|(rw [hyz5];with_reducible exact H)|(have H2_:=(Option.bind_some _ _).symm.trans H;rw [hyz5];with_reducible exact H2_)|(have H2_:=(Option.bind_some _ _).symm.trans H;with_reducible exact H2_)|with_reducible exact H|(rw [hyz5];exact H)|exact H
    have Nyz5:=Ak hyz5
    clear hyz5
    by_cases c17:yz5.length<140737488355328
    ·
     rw [if_pos c17] at H
     have LMc17:=Ak c17
     clear c17
     obtain ⟨yz6,hyz6⟩ : ∃ y_:List Int,y_=(yz5++[10]):=⟨_,rfl⟩
     replace H:(if yz6.length+(a4++a0_1).size<140737488355328 then (if 0≤x27_1 then (if x27_1<(l3_4.length:Int) then ((spec_Layout_value.f k1 a0_0 a0_1 a0_2 (yz6++bytesOf (a4++a0_1)) a2 ((rd_T28 l3_4 x27_1).f0) ((rd_T28 l3_4 x27_1).f1) ((rd_T28 l3_4 x27_1).f2) ((rd_T28 l3_4 x27_1).f3) ((rd_T28 l3_4 x27_1).f4) (a4++a0_1) ((a4++a0_1).size:Int)).bind fun tz7=>(spec_Layout_elements.l0 k1 tz7 a2 a4 (a4++a0_1) ((a4++a0_1).size:Int) (l3_4.length:Int) (wrap64 (x27_1+1)) a0_0 a0_1 a0_2 a3_0 a3_1 a3_2 l3_3 l3_4)) else (none)) else (none)) else (none))=some r:=by first|(rw [hyz6];with_reducible exact H)|(have H2_:=(Option.bind_some _ _).symm.trans H;rw [hyz6];with_reducible exact H2_)|(have H2_:=(Option.bind_some _ _).symm.trans H;with_reducible exact H2_)|with_reducible exact H|(rw [hyz6];exact H)|exact H
     have Nyz6:=Ak hyz6
     clear hyz6
     by_cases c18:yz6.length+(a4++a0_1).size<140737488355328
     rotate_left
     ·
      rw [if_neg c18] at H
      exact absurd H (by simp)
     rw [if_pos c18] at H
     have LMc18:=Ak c18
     clear c18
     obtain ⟨yz8,hyz8⟩ : ∃ y_:List Int,y_=(yz6++bytesOf (a4++a0_1)):=⟨_,rfl⟩
     replace H:(if 0≤x27_1 then (if x27_1<(l3_4.length:Int) then ((spec_Layout_value.f k1 a0_0 a0_1 a0_2 yz8 a2 ((rd_T28 l3_4 x27_1).f0) ((rd_T28 l3_4 x27_1).f1) ((rd_T28 l3_4 x27_1).f2) ((rd_T28 l3_4 x27_1).f3) ((rd_T28 l3_4 x27_1).f4) (a4++a0_1) ((a4++a0_1).size:Int)).bind fun tz7=>(spec_Layout_elements.l0 k1 tz7 a2 a4 (a4++a0_1) ((a4++a0_1).size:Int) (l3_4.length:Int) (wrap64 (x27_1+1)) a0_0 a0_1 a0_2 a3_0 a3_1 a3_2 l3_3 l3_4)) else (none)) else (none))=some r:=by first|(rw [hyz8];with_reducible exact H)|(have H2_:=(Option.bind_some _ _).symm.trans H;rw [hyz8];with_reducible exact H2_)|(have H2_:=(Option.bind_some _ _).symm.trans H;with_reducible exact H2_)|with_reducible exact H|(rw [hyz8];exact H)|exact H
     have Nyz8:=Ak hyz8
     clear hyz8
     by_cases c19:0≤x27_1
     ·
      rw [if_pos c19] at H
      have c19b0:decide (0≤x27_1)=true:=decide_eq_true c19
      clear c19
      by_cases c20:x27_1<(l3_4.length:Int)
      rotate_left
      ·
       rw [if_neg c20] at H
       exact absurd H (by simp)
      rw [if_pos c20] at H
      have c20b0:decide (x27_1<(l3_4.length:Int))=true:=decide_eq_true c20
      clear c20
      replace H:=Option.bind_eq_some_iff.mp H
      obtain ⟨tz7,A210,H⟩:=H
      replace H:(spec_Layout_elements.l0 k1 tz7 a2 a4 (a4++a0_1) ((a4++a0_1).size:Int) (l3_4.length:Int) (wrap64 (x27_1+1)) a0_0 a0_1 a0_2 a3_0 a3_1 a3_2 l3_3 l3_4)=some r:=H
      have A21:=Ak A210
      clear A210
      have H':=Ak H
      clear H
      try go_wp2_with (first|((with_reducible refine gate_builtin (b := .append) (xs := #[.tmp 32, .tmp 33]) rfl ?_);at_builtin;refine Kd.R_append (Kd.int .u8) (w0:=w0) w0.heap.size rfl (.tmp 32) (.tmp 33) 44 5 (.int .u8 0) 1 rfl Try.underlying44 info5 rfl (by decide) (by omega) u1 x1_1 44 [.int .u8 44] (fun k_=>(P1_ k_∨w.heap.size≤k_)) (fun _=>False) rfl rfl ?aP (fun _ hk=>hk.elim) ?aF ?aO ?aB ?aS ?aL ?_;(case aP=>exact rfl);(case aB=>exact (oB2 GEz1.out GEz2.out));(case aF=>exact (fun k_ hk=>(.inr (Nat.le_trans (by first|exact HK.out.1|exact (show Kept w _ (fun k_=>P1_ k_) from oP2 GWz1.out GWz2.out).1) hk))));(case aO=>exact (oR HO_1.out));(case aS=>exact (below_size (oB2 GEz1.out GEz2.out)));(case aL=>have:=LMc16.out;omega);intro vz9 w22 ho hb hg hat;rw [← Nyz5.out] at ho;have _:=Ak (blk_grown (g:=gbz1) (o := .cells #[.string a0_0, .string a0_1, .int .i64 a0_2] 33 (0,0)) (oL BKz1.out) hg (Kd.R_ne HO_1.out BKz1.out (by decide)));have _:=Ak (blk_grown (g:=gbz2) (o := .cells #[.int .i64 a3_0, .int .i64 a3_1, .int .i64 a3_2, .slice A3_3 l3_3.length c3_3, .slice A3_4 l3_4.length c3_4] 28 (0,0)) (oL BKz2.out) hg (Kd.R_ne HO_1.out BKz2.out (by decide)));have _:=Ak (hb);have _:=Ak (Kept.of_grown (S:=(fun k_=>P1_ k_)) hg (oP2 GWz1.out GWz2.out) (fun k_ e_=>(HO_1.out.1 k_ e_)));have _:=Ak (ho);clear BKz1 BKz2 HB HK HO_1;rename_i BKz1 BKz2 HB HK HOz10;clear ho hb hg hat)|((with_reducible refine gate_builtin (b := .append) (xs := #[.tmp 37, .tmp 38]) rfl ?_);at_builtin;refine Kd.R_append (Kd.int .u8) (w0:=w0) w0.heap.size rfl (.tmp 37) (.tmp 38) 44 5 (.int .u8 0) 1 rfl Try.underlying44 info5 rfl (by decide) (by omega) vz9 yz5 10 [.int .u8 10] (fun k_=>(P1_ k_∨w.heap.size≤k_)) (fun _=>False) rfl rfl ?aP (fun _ hk=>hk.elim) ?aF ?aO ?aB ?aS ?aL ?_;(case aP=>exact rfl);(case aB=>exact (oB2 GEz1.out GEz2.out));(case aF=>exact (fun k_ hk=>(.inr (Nat.le_trans (by first|exact HK.out.1|exact (show Kept w _ (fun k_=>P1_ k_) from oP2 GWz1.out GWz2.out).1) hk))));(case aO=>exact (oR HOz10.out));(case aS=>exact (below_size (oB2 GEz1.out GEz2.out)));(case aL=>have:=LMc17.out;omega);intro vz11 w23 ho hb hg hat;rw [← Nyz6.out] at ho;have _:=Ak (blk_grown (g:=gbz1) (o := .cells #[.string a0_0, .string a0_1, .int .i64 a0_2] 33 (0,0)) (oL BKz1.out) hg (Kd.R_ne HOz10.out BKz1.out (by decide)));have _:=Ak (blk_grown (g:=gbz2) (o := .cells #[.int .i64 a3_0, .int .i64 a3_1, .int .i64 a3_2, .slice A3_3 l3_3.length c3_3, .slice A3_4 l3_4.length c3_4] 28 (0,0)) (oL BKz2.out) hg (Kd.R_ne HOz10.out BKz2.out (by decide)));have _:=Ak (hb);have _:=Ak (Kept.of_grown (S:=(fun k_=>P1_ k_)) hg (oP2 GWz1.out GWz2.out) (fun k_ e_=>(HOz10.out.1 k_ e_)));have _:=Ak (ho);clear BKz1 BKz2 HB HK HOz10;rename_i BKz1 BKz2 HB HK HOz12;clear ho hb hg hat)|((with_reducible refine gate_builtin (b := .append) (xs := #[.tmp 40,_]) rfl ?_);at_builtin;refine Kd.R_append_str (w0:=w0) w0.heap.size rfl (.tmp 40) _ 44 9 5 rfl Try.underlying44 Try.underlying9 info5 vz11 yz6 (a4++a0_1) (fun k_=>(P1_ k_∨w.heap.size≤k_)) rfl rfl ?aO ?aF ?aB ?aS ?aL ?_;(case aB=>exact (oB2 GEz1.out GEz2.out));(case aF=>exact (fun k_ hk=>(.inr (Nat.le_trans (by first|exact HK.out.1|exact (show Kept w _ (fun k_=>P1_ k_) from oP2 GWz1.out GWz2.out).1) hk))));(case aO=>exact (oR HOz12.out));(case aS=>exact (below_size (oB2 GEz1.out GEz2.out)));(case aL=>have:=LMc18.out;omega);intro vz13 w24 ho hb hg hat;rw [← Nyz8.out] at ho;have _:=Ak (blk_grown (g:=gbz1) (o := .cells #[.string a0_0, .string a0_1, .int .i64 a0_2] 33 (0,0)) (oL BKz1.out) hg (Kd.R_ne HOz12.out BKz1.out (by decide)));have _:=Ak (blk_grown (g:=gbz2) (o := .cells #[.int .i64 a3_0, .int .i64 a3_1, .int .i64 a3_2, .slice A3_3 l3_3.length c3_3, .slice A3_4 l3_4.length c3_4] 28 (0,0)) (oL BKz2.out) hg (Kd.R_ne HOz12.out BKz2.out (by decide)));have _:=Ak (hb);have _:=Ak (Kept.of_grown (S:=(fun k_=>P1_ k_)) hg (oP2 GWz1.out GWz2.out) (fun k_ e_=>(HOz12.out.1 k_ e_)));have _:=Ak (ho);clear BKz1 BKz2 HB HK HOz12;rename_i BKz1 BKz2 HB HK HOz14;clear ho hb hg hat))
      have n0_:=Ak (Kd.R_drew HOz14.out)
      have n1_:=Ak (blk_drew BKz1.out)
      have n2_:=Ak (blk_drew BKz2.out)
      have n3_:=Ak (Kept.drew HK.out)
      have n4_:=Ak (below_drew1 HB.out)
      clear HOz14
      clear BKz1
      clear BKz2
      clear HK
      clear HB
      have HOz14:=n0_
      have BKz1:=n1_
      have BKz2:=n2_
      have HK:=n3_
      have HB:=n4_
      clear n0_ n1_ n2_ n3_ n4_
      have pz15:0≤(x27_1:Int):=of_decide_eq_true oA
      have qz15:x27_1<(l3_4.length:Int):=of_decide_eq_true oA
      obtain ⟨adz15,Az15_3,cz15_3,Az15_4,cz15_4,ez15,hxz15_0,hxz15_1,hxz15_2,hxz15_3,hxz15_4,hlz15_3,hiz15_3,hlz15_4,hiz15_4⟩:=at_T28 (Kd.C_kept_now HR3_4.out HK.out) x27_1 pz15 qz15
      have hwz15_4:=hxz15_4
      have hwz15_3:=hxz15_3
      have hwz15_2:=hxz15_2
      have hwz15_1:=hxz15_1
      have hwz15_0:=hxz15_0
      cases ez15
      have hfz15_3:=(fun (W2_:World) (hk2_:Kept w W2_ (fun k_=>P1_ k_))=>(show Kd.C k52 W2_ Az15_3 ((rd_T28 l3_4 x27_1).f3).length ((rd_T28 l3_4 x27_1).f3) from by (obtain ⟨ad2_,A2_3,c2_3,A2_4,c2_4,e2_,hz2q_0,hz2q_1,hz2q_2,hz2q_3,hz2q_4,hl2q_3,hi2q_3,hl2q_4,hi2q_4⟩:=at_T28 (HR3_4.out W2_ hk2_) x27_1 pz15 qz15;obtain rfl:=Option.some.inj e2_;have hs_:=Kd.foot_same HR3_4.out (by decide) (by omega) rfl HK.out hk2_ (by first|rfl|simp [add_block]) hxz15_3;have he_:=Option.some.inj (hs_.symm.trans hz2q_3);injection he_ with ha_ hb_ hc_;rw [ha_];exact hi2q_3)))
      have HRz15_3:=Ak hfz15_3
      have HCz15_3:=Ak hlz15_3
      clear hiz15_3 hlz15_3 hfz15_3
      have hfz15_4:=(fun (W2_:World) (hk2_:Kept w W2_ (fun k_=>P1_ k_))=>(show Kd.C k28 W2_ Az15_4 ((rd_T28 l3_4 x27_1).f4).length ((rd_T28 l3_4 x27_1).f4) from by (obtain ⟨ad2_,A2_3,c2_3,A2_4,c2_4,e2_,hz2q_0,hz2q_1,hz2q_2,hz2q_3,hz2q_4,hl2q_3,hi2q_3,hl2q_4,hi2q_4⟩:=at_T28 (HR3_4.out W2_ hk2_) x27_1 pz15 qz15;obtain rfl:=Option.some.inj e2_;have hs_:=Kd.foot_same HR3_4.out (by decide) (by omega) rfl HK.out hk2_ (by first|rfl|simp [add_block]) hxz15_4;have he_:=Option.some.inj (hs_.symm.trans hz2q_4);injection he_ with ha_ hb_ hc_;rw [ha_];exact hi2q_4)))
      have HRz15_4:=Ak hfz15_4
      have HCz15_4:=Ak hlz15_4
      clear hiz15_4 hlz15_4 hfz15_4
      replace pz15:=eq_true pz15
      replace qz15:=eq_true qz15
      obtain ⟨Ao26,co26,eo26⟩:=Kd.R_slice HOz14.out
      (first|subst eo26|(injection eo26 with f1_ f2_ f3_;have f4_:=f1_.symm;have f5_:=f3_.symm;clear f1_ f2_ f3_;subst f4_;subst f5_))
      refine start_ (n:=12) (S:=fun w'=>w'.cell? ⟨gbz1,0,none⟩=some (.string a0_0)∧w'.cell? ⟨gbz1,1,none⟩=some (.string a0_1)∧w'.cell? ⟨gbz1,2,none⟩=some (.int .i64 a0_2)∧w'.cell? ⟨gbz2,0,none⟩=some (.int .i64 a3_0)∧w'.cell? ⟨gbz2,1,none⟩=some (.int .i64 a3_1)∧w'.cell? ⟨gbz2,2,none⟩=some (.int .i64 a3_2)∧w'.cell? ⟨gbz2,3,none⟩=some (.slice A3_3 l3_3.length c3_3)∧w'.cell? ⟨gbz2,4,none⟩=some (.slice (some adz15) l3_4.length c3_4)∧w'.cell? (adz15.add ((x27_1).toNat*5))=some (.int .i64 ((rd_T28 l3_4 x27_1).f0))∧w'.cell? ⟨(adz15.add ((x27_1).toNat*5)).block,(adz15.add ((x27_1).toNat*5)).off+1,none⟩=some (.int .i64 ((rd_T28 l3_4 x27_1).f1))∧w'.cell? ⟨(adz15.add ((x27_1).toNat*5)).block,(adz15.add ((x27_1).toNat*5)).off+2,none⟩=some (.int .i64 ((rd_T28 l3_4 x27_1).f2))∧w'.cell? ⟨(adz15.add ((x27_1).toNat*5)).block,(adz15.add ((x27_1).toNat*5)).off+3,none⟩=some (.slice Az15_3 ((rd_T28 l3_4 x27_1).f3).length cz15_3)∧w'.cell? ⟨(adz15.add ((x27_1).toNat*5)).block,(adz15.add ((x27_1).toNat*5)).off+4,none⟩=some (.slice Az15_4 ((rd_T28 l3_4 x27_1).f4).length cz15_4)) (ds:=[10]) #[false,false,false,false,false,false,false,false,false,false,false,false] (by kernel_rfl) rfl rfl ⟨(blk_cell BKz1.out 0).trans rfl,(blk_cell BKz1.out 1).trans rfl,(blk_cell BKz1.out 2).trans rfl,(blk_cell BKz2.out 0).trans rfl,(blk_cell BKz2.out 1).trans rfl,(blk_cell BKz2.out 2).trans rfl,(blk_cell BKz2.out 3).trans rfl,(blk_cell BKz2.out 4).trans rfl,hxz15_0,hxz15_1,hxz15_2,hxz15_3,hxz15_4⟩ (fun hHeld=>?_);refine with_tabW spec_Layout_elements.tab12 spec_Layout_elements.bits12 (fun HT_ HW_=>?_)
      generalize w24.drew=w25 at HOz14 BKz1 BKz2 HK HB HRz15_3 HRz15_4 hxz15_0 hxz15_1 hxz15_2 hxz15_3 hxz15_4 hHeld ⊢
      refine zP 1 (some 44) (mA 12 2) ?_
      refine zP 2 (some 45) (mA 12 6) ?_
      refine zP 3 (some 46) (mA 12 14) ?_
      refine zP 5 (some 48) (mA 12 46) ?_
      refine zP 8 (some 51) (mA 12 302) ?_
      refine zP 9 (some 52) (mA 12 814) ?_
      refine zT 0 (some 43) (mA 12 815) ?_
      refine zT 4 (some 47) (mA 12 831) ?_
      refine zP 6 (some 49) (mA 12 895) ?_
      refine zT 7 (some 50) (mA 12 1023) ?_
      refine last_ (i:=10) (N:=some 53) #[true,true,true,true,true,true,true,true,true,true,true,false] rfl rfl (one_of HT_.out (by kernel_rfl)) (by decide) (fun K hK=>?_)
      refine goes_ Try.func16 (by kernel_rfl) rfl #[.agg #[.string a0_0, .string a0_1, .int .i64 a0_2], .slice Ao26 yz8.length co26, .string a2, .agg #[.int .i64 ((rd_T28 l3_4 x27_1).f0), .int .i64 ((rd_T28 l3_4 x27_1).f1), .int .i64 ((rd_T28 l3_4 x27_1).f2), .slice Az15_3 ((rd_T28 l3_4 x27_1).f3).length cz15_3, .slice Az15_4 ((rd_T28 l3_4 x27_1).f4).length cz15_4], .string (a4++a0_1), .int .i64 ((a4++a0_1).size:Int)] (by rfl) rfl rfl (by (try simp only [List.map_toArray,List.map_cons,List.map_nil]);first|done|rfl|(simp only [List.length_drop,List.length_take];rfl)|(simp only [ByteArray.size_append,Int.natCast_add];rfl)) ?_
      with_reducible refine (ih_16 k1 (by have:=HK1.out;omega) a0_0 a0_1 a0_2 (fun k_=>some k_=(.slice Ao26 yz8.length co26:Value).ownBlock) (.slice Ao26 yz8.length co26) yz8 a2 ((rd_T28 l3_4 x27_1).f0) ((rd_T28 l3_4 x27_1).f1) ((rd_T28 l3_4 x27_1).f2) _ _ ((rd_T28 l3_4 x27_1).f3) _ _ ((rd_T28 l3_4 x27_1).f4) (a4++a0_1) ((a4++a0_1).size:Int) tz7 w0 _ ?side1 ?side2 ?side3 ?side4 ?side5 ?side6 A21.out).mono ?_
      (case side1=>exact oB2 GEz1.out GEz2.out)
      (case side2=>exact Kd.R_tight rfl HOz14.out)
      (case side3=>exact Kd.C_kept_call HRz15_3.out (oP2 GWz1.out GWz2.out) (fun k_ hs_=>(fun e_=>(HOz14.out.1 k_ e_.symm)) hs_))
      (case side4=>exact HCz15_3.out)
      (case side5=>exact Kd.C_kept_call HRz15_4.out (oP2 GWz1.out GWz2.out) (fun k_ hs_=>(fun e_=>(HOz14.out.1 k_ e_.symm)) hs_))
      (case side6=>exact HCz15_4.out)
      rintro e w27 ⟨vz16,rfl,ho0,hb,hkp⟩
      refine ⟨_,rfl,?_⟩
      have n0_:=Ak (blk_kept (oL BKz1.out) hkp (fun hs_=>(fun e_=>(Kd.R_ne HOz14.out BKz1.out (by decide)) e_) hs_))
      have n1_:=Ak (blk_kept (oL BKz2.out) hkp (fun hs_=>(fun e_=>(Kd.R_ne HOz14.out BKz2.out (by decide)) e_) hs_))
      have n2_:=Ak (Kd.R_mono (ok':=fun k_=>(P1_ k_∨w.heap.size≤k_)) ho0 (fun k_ hk_=>Or.elim hk_ (fun hs_=>(HOz14.out.1 k_ (hs_).symm)) (fun hn_=>(.inr (Nat.le_trans (by first|exact HK.out.1|exact (show Kept w _ (fun k_=>P1_ k_) from oP2 GWz1.out GWz2.out).1) hn_)))))
      have n3_:=Ak (Kept.then_ (S:=(fun k_=>P1_ k_)) (oP2 GWz1.out GWz2.out) hkp (fun k_ hs_=>(fun e_=>(HOz14.out.1 k_ e_.symm)) hs_))
      have n4_:=Ak (hb)
      clear BKz1
      clear BKz2
      clear HK
      clear HB
      clear HOz14
      have BKz1:=n0_
      have BKz2:=n1_
      have HOz17:=n2_
      have HK:=n3_
      have HB:=n4_
      clear n0_ n1_ n2_ n3_ n4_
      (try clear hb)
      (try clear hkp)
      (try clear ho0)
      refine hK.out _ _ ?_
      clear hK K
      refine norm_ (a':=?_) ?_ ?_
      rotate_left
      ·
       show Act.put _ (some 53) _=_
       simp only [Act.put,List.setIfInBounds_toArray,List.set_cons_zero,List.set_cons_succ,i64_w,i32_w]
       rfl
      refine zP 11 (some 1) (mA 12 4095) ?_
      refine done_ (done_of HT_.out (by kernel_rfl)) ?_
      try go_wp2
      go_roundg k1
      case measure=>have:=HK1.out;omega
      case rel=>exact ⟨(tz7),(((a4++a0_1).size:Int)),(wrap64 (x27_1+1)),oS,oS,H',⟨by have:=HK1.out;omega⟩,⟨oR HOz17.out⟩,⟨oL BKz1.out⟩,⟨oL BKz2.out⟩,⟨oP2 GWz1.out GWz2.out⟩,⟨oB2 GEz1.out GEz2.out⟩⟩
     rw [if_neg c19] at H
     exact absurd H (by simp)
    rw [if_neg c17] at H
    exact absurd H (by simp)
   rw [if_neg c15] at H
   have c15b0:decide (0<x27_1)=false:=decide_eq_false c15
   clear c15
   by_cases c28:x1_1.length<140737488355328
   ·
    rw [if_pos c28] at H
    have LMc28:=Ak c28
    clear c28
    obtain ⟨yz18,hyz18⟩ : ∃ y_:List Int,y_=(x1_1++[10]):=⟨_,rfl⟩
    replace H:(if yz18.length+(a4++a0_1).size<140737488355328 then (if 0≤x27_1 then (if x27_1<(l3_4.length:Int) then ((spec_Layout_value.f k1 a0_0 a0_1 a0_2 (yz18++bytesOf (a4++a0_1)) a2 ((rd_T28 l3_4 x27_1).f0) ((rd_T28 l3_4 x27_1).f1) ((rd_T28 l3_4 x27_1).f2) ((rd_T28 l3_4 x27_1).f3) ((rd_T28 l3_4 x27_1).f4) (a4++a0_1) x12_1).bind fun tz19=>(spec_Layout_elements.l0 k1 tz19 a2 a4 (a4++a0_1) x12_1 (l3_4.length:Int) (wrap64 (x27_1+1)) a0_0 a0_1 a0_2 a3_0 a3_1 a3_2 l3_3 l3_4)) else (none)) else (none)) else (none))=some r:=by first|(rw [hyz18];with_reducible exact H)|(have H2_:=(Option.bind_some _ _).symm.trans H;rw [hyz18];with_reducible exact H2_)|(have H2_:=(Option.bind_some _ _).symm.trans H;with_reducible exact H2_)|with_reducible exact H|(rw [hyz18];exact H)|exact H
    have Nyz18:=Ak hyz18
    clear hyz18
    by_cases c29:yz18.length+(a4++a0_1).size<140737488355328
    rotate_left
    ·
     rw [if_neg c29] at H
     exact absurd H (by simp)
    rw [if_pos c29] at H
    have LMc29:=Ak c29
    clear c29
    obtain ⟨yz20,hyz20⟩ : ∃ y_:List Int,y_=(yz18++bytesOf (a4++a0_1)):=⟨_,rfl⟩
    replace H:(if 0≤x27_1 then (if x27_1<(l3_4.length:Int) then ((spec_Layout_value.f k1 a0_0 a0_1 a0_2 yz20 a2 ((rd_T28 l3_4 x27_1).f0) ((rd_T28 l3_4 x27_1).f1) ((rd_T28 l3_4 x27_1).f2) ((rd_T28 l3_4 x27_1).f3) ((rd_T28 l3_4 x27_1).f4) (a4++a0_1) x12_1).bind fun tz19=>(spec_Layout_elements.l0 k1 tz19 a2 a4 (a4++a0_1) x12_1 (l3_4.length:Int) (wrap64 (x27_1+1)) a0_0 a0_1 a0_2 a3_0 a3_1 a3_2 l3_3 l3_4)) else (none)) else (none))=some r:=by first|(rw [hyz20];with_reducible exact H)|(have H2_:=(Option.bind_some _ _).symm.trans H;rw [hyz20];with_reducible exact H2_)|(have H2_:=(Option.bind_some _ _).symm.trans H;with_reducible exact H2_)|with_reducible exact H|(rw [hyz20];exact H)|exact H
    have Nyz20:=Ak hyz20
    clear hyz20
    by_cases c30:0≤x27_1
    ·
     rw [if_pos c30] at H
     have c30b0:decide (0≤x27_1)=true:=decide_eq_true c30
     clear c30
     by_cases c31:x27_1<(l3_4.length:Int)
     rotate_left
     ·
      rw [if_neg c31] at H
      exact absurd H (by simp)
     rw [if_pos c31] at H
     have c31b0:decide (x27_1<(l3_4.length:Int))=true:=decide_eq_true c31
     clear c31
     replace H:=Option.bind_eq_some_iff.mp H
     obtain ⟨tz19,A320,H⟩:=H
     replace H:(spec_Layout_elements.l0 k1 tz19 a2 a4 (a4++a0_1) x12_1 (l3_4.length:Int) (wrap64 (x27_1+1)) a0_0 a0_1 a0_2 a3_0 a3_1 a3_2 l3_3 l3_4)=some r:=H
     have A32:=Ak A320
     clear A320
     have H':=Ak H
     clear H
     try go_wp2_with (first|((with_reducible refine gate_builtin (b := .append) (xs := #[.tmp 37, .tmp 38]) rfl ?_);at_builtin;refine Kd.R_append (Kd.int .u8) (w0:=w0) w0.heap.size rfl (.tmp 37) (.tmp 38) 44 5 (.int .u8 0) 1 rfl Try.underlying44 info5 rfl (by decide) (by omega) u1 x1_1 10 [.int .u8 10] (fun k_=>(P1_ k_∨w.heap.size≤k_)) (fun _=>False) rfl rfl ?aP (fun _ hk=>hk.elim) ?aF ?aO ?aB ?aS ?aL ?_;(case aP=>exact rfl);(case aB=>exact (oB2 GEz1.out GEz2.out));(case aF=>exact (fun k_ hk=>(.inr (Nat.le_trans (by first|exact HK.out.1|exact (show Kept w _ (fun k_=>P1_ k_) from oP2 GWz1.out GWz2.out).1) hk))));(case aO=>exact (oR HO_1.out));(case aS=>exact (below_size (oB2 GEz1.out GEz2.out)));(case aL=>have:=LMc28.out;omega);intro vz21 w33 ho hb hg hat;rw [← Nyz18.out] at ho;have _:=Ak (blk_grown (g:=gbz1) (o := .cells #[.string a0_0, .string a0_1, .int .i64 a0_2] 33 (0,0)) (oL BKz1.out) hg (Kd.R_ne HO_1.out BKz1.out (by decide)));have _:=Ak (blk_grown (g:=gbz2) (o := .cells #[.int .i64 a3_0, .int .i64 a3_1, .int .i64 a3_2, .slice A3_3 l3_3.length c3_3, .slice A3_4 l3_4.length c3_4] 28 (0,0)) (oL BKz2.out) hg (Kd.R_ne HO_1.out BKz2.out (by decide)));have _:=Ak (hb);have _:=Ak (Kept.of_grown (S:=(fun k_=>P1_ k_)) hg (oP2 GWz1.out GWz2.out) (fun k_ e_=>(HO_1.out.1 k_ e_)));have _:=Ak (ho);clear BKz1 BKz2 HB HK HO_1;rename_i BKz1 BKz2 HB HK HOz22;clear ho hb hg hat)|((with_reducible refine gate_builtin (b := .append) (xs := #[.tmp 40,_]) rfl ?_);at_builtin;refine Kd.R_append_str (w0:=w0) w0.heap.size rfl (.tmp 40) _ 44 9 5 rfl Try.underlying44 Try.underlying9 info5 vz21 yz18 (a4++a0_1) (fun k_=>(P1_ k_∨w.heap.size≤k_)) rfl rfl ?aO ?aF ?aB ?aS ?aL ?_;(case aB=>exact (oB2 GEz1.out GEz2.out));(case aF=>exact (fun k_ hk=>(.inr (Nat.le_trans (by first|exact HK.out.1|exact (show Kept w _ (fun k_=>P1_ k_) from oP2 GWz1.out GWz2.out).1) hk))));(case aO=>exact (oR HOz22.out));(case aS=>exact (below_size (oB2 GEz1.out GEz2.out)));(case aL=>have:=LMc29.out;omega);intro vz23 w34 ho hb hg hat;rw [← Nyz20.out] at ho;have _:=Ak (blk_grown (g:=gbz1) (o := .cells #[.string a0_0, .string a0_1, .int .i64 a0_2] 33 (0,0)) (oL BKz1.out) hg (Kd.R_ne HOz22.out BKz1.out (by decide)));have _:=Ak (blk_grown (g:=gbz2) (o := .cells #[.int .i64 a3_0, .int .i64 a3_1, .int .i64 a3_2, .slice A3_3 l3_3.length c3_3, .slice A3_4 l3_4.length c3_4] 28 (0,0)) (oL BKz2.out) hg (Kd.R_ne HOz22.out BKz2.out (by decide)));have _:=Ak (hb);have _:=Ak (Kept.of_grown (S:=(fun k_=>P1_ k_)) hg (oP2 GWz1.out GWz2.out) (fun k_ e_=>(HOz22.out.1 k_ e_)));have _:=Ak (ho);clear BKz1 BKz2 HB HK HOz22;rename_i BKz1 BKz2 HB HK HOz24;clear ho hb hg hat))
     have n0_:=Ak (Kd.R_drew HOz24.out)
     have n1_:=Ak (blk_drew BKz1.out)
     have n2_:=Ak (blk_drew BKz2.out)
     have n3_:=Ak (Kept.drew HK.out)
     have n4_:=Ak (below_drew1 HB.out)
     clear HOz24
     clear BKz1
     clear BKz2
     clear HK
     clear HB
     have HOz24:=n0_
     have BKz1:=n1_
     have BKz2:=n2_
     have HK:=n3_
     have HB:=n4_
     clear n0_ n1_ n2_ n3_ n4_
     have pz25:0≤(x27_1:Int):=of_decide_eq_true oA
     have qz25:x27_1<(l3_4.length:Int):=of_decide_eq_true oA
     obtain ⟨adz25,Az25_3,cz25_3,Az25_4,cz25_4,ez25,hxz25_0,hxz25_1,hxz25_2,hxz25_3,hxz25_4,hlz25_3,hiz25_3,hlz25_4,hiz25_4⟩:=at_T28 (Kd.C_kept_now HR3_4.out HK.out) x27_1 pz25 qz25
     have hwz25_4:=hxz25_4
     have hwz25_3:=hxz25_3
     have hwz25_2:=hxz25_2
     have hwz25_1:=hxz25_1
     have hwz25_0:=hxz25_0
     cases ez25
     have hfz25_3:=(fun (W2_:World) (hk2_:Kept w W2_ (fun k_=>P1_ k_))=>(show Kd.C k52 W2_ Az25_3 ((rd_T28 l3_4 x27_1).f3).length ((rd_T28 l3_4 x27_1).f3) from by (obtain ⟨ad2_,A2_3,c2_3,A2_4,c2_4,e2_,hz2q_0,hz2q_1,hz2q_2,hz2q_3,hz2q_4,hl2q_3,hi2q_3,hl2q_4,hi2q_4⟩:=at_T28 (HR3_4.out W2_ hk2_) x27_1 pz25 qz25;obtain rfl:=Option.some.inj e2_;have hs_:=Kd.foot_same HR3_4.out (by decide) (by omega) rfl HK.out hk2_ (by first|rfl|simp [add_block]) hxz25_3;have he_:=Option.some.inj (hs_.symm.trans hz2q_3);injection he_ with ha_ hb_ hc_;rw [ha_];exact hi2q_3)))
     have HRz25_3:=Ak hfz25_3
     have HCz25_3:=Ak hlz25_3
     clear hiz25_3 hlz25_3 hfz25_3
     have hfz25_4:=(fun (W2_:World) (hk2_:Kept w W2_ (fun k_=>P1_ k_))=>(show Kd.C k28 W2_ Az25_4 ((rd_T28 l3_4 x27_1).f4).length ((rd_T28 l3_4 x27_1).f4) from by (obtain ⟨ad2_,A2_3,c2_3,A2_4,c2_4,e2_,hz2q_0,hz2q_1,hz2q_2,hz2q_3,hz2q_4,hl2q_3,hi2q_3,hl2q_4,hi2q_4⟩:=at_T28 (HR3_4.out W2_ hk2_) x27_1 pz25 qz25;obtain rfl:=Option.some.inj e2_;have hs_:=Kd.foot_same HR3_4.out (by decide) (by omega) rfl HK.out hk2_ (by first|rfl|simp [add_block]) hxz25_4;have he_:=Option.some.inj (hs_.symm.trans hz2q_4);injection he_ with ha_ hb_ hc_;rw [ha_];exact hi2q_4)))
     have HRz25_4:=Ak hfz25_4
     have HCz25_4:=Ak hlz25_4
     clear hiz25_4 hlz25_4 hfz25_4
     replace pz25:=eq_true pz25
     replace qz25:=eq_true qz25
     obtain ⟨Ao36,co36,eo36⟩:=Kd.R_slice HOz24.out
     (first|subst eo36|(injection eo36 with f1_ f2_ f3_;have f4_:=f1_.symm;have f5_:=f3_.symm;clear f1_ f2_ f3_;subst f4_;subst f5_))
     refine start_ (n:=12) (S:=fun w'=>w'.cell? ⟨gbz1,0,none⟩=some (.string a0_0)∧w'.cell? ⟨gbz1,1,none⟩=some (.string a0_1)∧w'.cell? ⟨gbz1,2,none⟩=some (.int .i64 a0_2)∧w'.cell? ⟨gbz2,0,none⟩=some (.int .i64 a3_0)∧w'.cell? ⟨gbz2,1,none⟩=some (.int .i64 a3_1)∧w'.cell? ⟨gbz2,2,none⟩=some (.int .i64 a3_2)∧w'.cell? ⟨gbz2,3,none⟩=some (.slice A3_3 l3_3.length c3_3)∧w'.cell? ⟨gbz2,4,none⟩=some (.slice (some adz25) l3_4.length c3_4)∧w'.cell? (adz25.add ((x27_1).toNat*5))=some (.int .i64 ((rd_T28 l3_4 x27_1).f0))∧w'.cell? ⟨(adz25.add ((x27_1).toNat*5)).block,(adz25.add ((x27_1).toNat*5)).off+1,none⟩=some (.int .i64 ((rd_T28 l3_4 x27_1).f1))∧w'.cell? ⟨(adz25.add ((x27_1).toNat*5)).block,(adz25.add ((x27_1).toNat*5)).off+2,none⟩=some (.int .i64 ((rd_T28 l3_4 x27_1).f2))∧w'.cell? ⟨(adz25.add ((x27_1).toNat*5)).block,(adz25.add ((x27_1).toNat*5)).off+3,none⟩=some (.slice Az25_3 ((rd_T28 l3_4 x27_1).f3).length cz25_3)∧w'.cell? ⟨(adz25.add ((x27_1).toNat*5)).block,(adz25.add ((x27_1).toNat*5)).off+4,none⟩=some (.slice Az25_4 ((rd_T28 l3_4 x27_1).f4).length cz25_4)) (ds:=[10]) #[false,false,false,false,false,false,false,false,false,false,false,false] (by kernel_rfl) rfl rfl ⟨(blk_cell BKz1.out 0).trans rfl,(blk_cell BKz1.out 1).trans rfl,(blk_cell BKz1.out 2).trans rfl,(blk_cell BKz2.out 0).trans rfl,(blk_cell BKz2.out 1).trans rfl,(blk_cell BKz2.out 2).trans rfl,(blk_cell BKz2.out 3).trans rfl,(blk_cell BKz2.out 4).trans rfl,hxz25_0,hxz25_1,hxz25_2,hxz25_3,hxz25_4⟩ (fun hHeld=>?_);refine with_tabW spec_Layout_elements.tab12 spec_Layout_elements.bits12 (fun HT_ HW_=>?_)
     generalize w34.drew=w35 at HOz24 BKz1 BKz2 HK HB HRz25_3 HRz25_4 hxz25_0 hxz25_1 hxz25_2 hxz25_3 hxz25_4 hHeld ⊢
     refine zP 1 (some 44) (mA 12 2) ?_
     refine zP 2 (some 45) (mA 12 6) ?_
     refine zP 3 (some 46) (mA 12 14) ?_
     refine zP 5 (some 48) (mA 12 46) ?_
     refine zP 8 (some 51) (mA 12 302) ?_
     refine zP 9 (some 52) (mA 12 814) ?_
     refine zT 0 (some 43) (mA 12 815) ?_
     refine zT 4 (some 47) (mA 12 831) ?_
     refine zP 6 (some 49) (mA 12 895) ?_
     refine zT 7 (some 50) (mA 12 1023) ?_
     refine last_ (i:=10) (N:=some 53) #[true,true,true,true,true,true,true,true,true,true,true,false] rfl rfl (one_of HT_.out (by kernel_rfl)) (by decide) (fun K hK=>?_)
     refine goes_ Try.func16 (by kernel_rfl) rfl #[.agg #[.string a0_0, .string a0_1, .int .i64 a0_2], .slice Ao36 yz20.length co36, .string a2, .agg #[.int .i64 ((rd_T28 l3_4 x27_1).f0), .int .i64 ((rd_T28 l3_4 x27_1).f1), .int .i64 ((rd_T28 l3_4 x27_1).f2), .slice Az25_3 ((rd_T28 l3_4 x27_1).f3).length cz25_3, .slice Az25_4 ((rd_T28 l3_4 x27_1).f4).length cz25_4], .string (a4++a0_1), .int .i64 x12_1] (by rfl) rfl rfl (by (try simp only [List.map_toArray,List.map_cons,List.map_nil]);first|done|rfl|(simp only [List.length_drop,List.length_take];rfl)|(simp only [ByteArray.size_append,Int.natCast_add];rfl)) ?_
     with_reducible refine (ih_16 k1 (by have:=HK1.out;omega) a0_0 a0_1 a0_2 (fun k_=>some k_=(.slice Ao36 yz20.length co36:Value).ownBlock) (.slice Ao36 yz20.length co36) yz20 a2 ((rd_T28 l3_4 x27_1).f0) ((rd_T28 l3_4 x27_1).f1) ((rd_T28 l3_4 x27_1).f2) _ _ ((rd_T28 l3_4 x27_1).f3) _ _ ((rd_T28 l3_4 x27_1).f4) (a4++a0_1) x12_1 tz19 w0 _ ?side1 ?side2 ?side3 ?side4 ?side5 ?side6 A32.out).mono ?_
     (case side1=>exact oB2 GEz1.out GEz2.out)
     (case side2=>exact Kd.R_tight rfl HOz24.out)
     (case side3=>exact Kd.C_kept_call HRz25_3.out (oP2 GWz1.out GWz2.out) (fun k_ hs_=>(fun e_=>(HOz24.out.1 k_ e_.symm)) hs_))
     (case side4=>exact HCz25_3.out)
     (case side5=>exact Kd.C_kept_call HRz25_4.out (oP2 GWz1.out GWz2.out) (fun k_ hs_=>(fun e_=>(HOz24.out.1 k_ e_.symm)) hs_))
     (case side6=>exact HCz25_4.out)
     rintro e w37 ⟨vz26,rfl,ho0,hb,hkp⟩
     refine ⟨_,rfl,?_⟩
     have n0_:=Ak (blk_kept (oL BKz1.out) hkp (fun hs_=>(fun e_=>(Kd.R_ne HOz24.out BKz1.out (by decide)) e_) hs_))
     have n1_:=Ak (blk_kept (oL BKz2.out) hkp (fun hs_=>(fun e_=>(Kd.R_ne HOz24.out BKz2.out (by decide)) e_) hs_))
     have n2_:=Ak (Kd.R_mono (ok':=fun k_=>(P1_ k_∨w.heap.size≤k_)) ho0 (fun k_ hk_=>Or.elim hk_ (fun hs_=>(HOz24.out.1 k_ (hs_).symm)) (fun hn_=>(.inr (Nat.le_trans (by first|exact HK.out.1|exact (show Kept w _ (fun k_=>P1_ k_) from oP2 GWz1.out GWz2.out).1) hn_)))))
     have n3_:=Ak (Kept.then_ (S:=(fun k_=>P1_ k_)) (oP2 GWz1.out GWz2.out) hkp (fun k_ hs_=>(fun e_=>(HOz24.out.1 k_ e_.symm)) hs_))
     have n4_:=Ak (hb)
     clear BKz1
     clear BKz2
     clear HK
     clear HB
     clear HOz24
     have BKz1:=n0_
     have BKz2:=n1_
     have HOz27:=n2_
     have HK:=n3_
     have HB:=n4_
     clear n0_ n1_ n2_ n3_ n4_
     (try clear hb)
     (try clear hkp)
     (try clear ho0)
     refine hK.out _ _ ?_
     clear hK K
     refine norm_ (a':=?_) ?_ ?_
     rotate_left
     ·
      show Act.put _ (some 53) _=_
      simp only [Act.put,List.setIfInBounds_toArray,List.set_cons_zero,List.set_cons_succ,i64_w,i32_w]
      rfl
     refine zP 11 (some 1) (mA 12 4095) ?_
     refine done_ (done_of HT_.out (by kernel_rfl)) ?_
     try go_wp2
     go_roundg k1
     case measure=>have:=HK1.out;omega
     case rel=>exact ⟨(tz19),(x12_1),(wrap64 (x27_1+1)),oS,oS,H',⟨by have:=HK1.out;omega⟩,⟨oR HOz27.out⟩,⟨oL BKz1.out⟩,⟨oL BKz2.out⟩,⟨oP2 GWz1.out GWz2.out⟩,⟨oB2 GEz1.out GEz2.out⟩⟩
    rw [if_neg c30] at H
    exact absurd H (by simp)
   rw [if_neg c28] at H
   exact absurd H (by simp)
 rw [if_neg c7] at H
 exact absurd H (by simp)
theorem grp_spec_Layout_value.all (k:Nat):(∀ (a0_0:ByteArray) (a0_1:ByteArray) (a0_2:Int) (P1_:Nat→Prop) (u9000_:Value) (l1:List Int) (a2:ByteArray) (a3_0:Int) (a3_1:Int) (a3_2:Int) (A3_3:Option Addr) (c3_3:Nat) (l3_3:List (S52)) (A3_4:Option Addr) (c3_4:Nat) (l3_4:List (S28)) (a4:ByteArray) (a5:Int) (r:List Int) (w0 w:World) (hB:Below w0.heap.size w0 w) (ho1:Kd.R (Kd.int .u8) 5 w w0.heap.size P1_ u9000_ l1) (hr3_3 : ∀ W_,Kept w W_ (fun k_=>P1_ k_)→Kd.C k52 W_ A3_3 l3_3.length l3_3) (hc3_3:l3_3.length≤c3_3) (hr3_4 : ∀ W_,Kept w W_ (fun k_=>P1_ k_)→Kd.C k28 W_ A3_4 l3_4.length l3_4) (hc3_4:l3_4.length≤c3_4) (h:spec_Layout_value.f k a0_0 a0_1 a0_2 l1 a2 a3_0 a3_1 a3_2 l3_3 l3_4 a4 a5=some r),
 Calls Try.prog 16 #[.agg #[.string a0_0, .string a0_1, .int .i64 a0_2],u9000_, .string a2, .agg #[.int .i64 a3_0, .int .i64 a3_1, .int .i64 a3_2, .slice A3_3 l3_3.length c3_3, .slice A3_4 l3_4.length c3_4], .string a4, .int .i64 a5] w fun e w' => ∃ v0_:Value,e = .returned (v0_)∧Kd.R (Kd.int .u8) 5 w' w0.heap.size (fun k_=>(P1_ k_∨w.heap.size≤k_)) v0_ r∧Below w0.heap.size w0 w'∧Kept w w' (fun k_=>P1_ k_))∧(∀ (a0_0:ByteArray) (a0_1:ByteArray) (a0_2:Int) (P1_:Nat→Prop) (u9000_:Value) (l1:List Int) (a2:ByteArray) (a3_0:Int) (a3_1:Int) (a3_2:Int) (A3_3:Option Addr) (c3_3:Nat) (l3_3:List (S52)) (A3_4:Option Addr) (c3_4:Nat) (l3_4:List (S28)) (a4:ByteArray) (r:List Int) (w0 w:World) (hB:Below w0.heap.size w0 w) (ho1:Kd.R (Kd.int .u8) 5 w w0.heap.size P1_ u9000_ l1) (hr3_3 : ∀ W_,Kept w W_ (fun k_=>P1_ k_)→Kd.C k52 W_ A3_3 l3_3.length l3_3) (hc3_3:l3_3.length≤c3_3) (hr3_4 : ∀ W_,Kept w W_ (fun k_=>P1_ k_)→Kd.C k28 W_ A3_4 l3_4.length l3_4) (hc3_4:l3_4.length≤c3_4) (h:spec_Layout_elements.f k a0_0 a0_1 a0_2 l1 a2 a3_0 a3_1 a3_2 l3_3 l3_4 a4=some r),
 Calls Try.prog 25 #[.agg #[.string a0_0, .string a0_1, .int .i64 a0_2],u9000_, .string a2, .agg #[.int .i64 a3_0, .int .i64 a3_1, .int .i64 a3_2, .slice A3_3 l3_3.length c3_3, .slice A3_4 l3_4.length c3_4], .string a4] w fun e w' => ∃ v0_:Value,e = .returned (v0_)∧Kd.R (Kd.int .u8) 5 w' w0.heap.size (fun k_=>(P1_ k_∨w.heap.size≤k_)) v0_ r∧Below w0.heap.size w0 w'∧Kept w w' (fun k_=>P1_ k_)):=by
 induction k using Nat.strongRecOn with
 | _ k ih =>
 exact ⟨spec_Layout_value.step k (fun m_ h_=>(ih m_ h_).1) (fun m_ h_=>(ih m_ h_).2),spec_Layout_elements.step k (fun m_ h_=>(ih m_ h_).1) (fun m_ h_=>(ih m_ h_).2)⟩
theorem spec_Layout_value.calls (k:Nat) : ∀ (a0_0:ByteArray) (a0_1:ByteArray) (a0_2:Int) (P1_:Nat→Prop) (u9000_:Value) (l1:List Int) (a2:ByteArray) (a3_0:Int) (a3_1:Int) (a3_2:Int) (A3_3:Option Addr) (c3_3:Nat) (l3_3:List (S52)) (A3_4:Option Addr) (c3_4:Nat) (l3_4:List (S28)) (a4:ByteArray) (a5:Int) (r:List Int) (w0 w:World) (hB:Below w0.heap.size w0 w) (ho1:Kd.R (Kd.int .u8) 5 w w0.heap.size P1_ u9000_ l1) (hr3_3 : ∀ W_,Kept w W_ (fun k_=>P1_ k_)→Kd.C k52 W_ A3_3 l3_3.length l3_3) (hc3_3:l3_3.length≤c3_3) (hr3_4 : ∀ W_,Kept w W_ (fun k_=>P1_ k_)→Kd.C k28 W_ A3_4 l3_4.length l3_4) (hc3_4:l3_4.length≤c3_4) (h:spec_Layout_value.f k a0_0 a0_1 a0_2 l1 a2 a3_0 a3_1 a3_2 l3_3 l3_4 a4 a5=some r),
    Calls Try.prog 16 #[.agg #[.string a0_0, .string a0_1, .int .i64 a0_2],u9000_, .string a2, .agg #[.int .i64 a3_0, .int .i64 a3_1, .int .i64 a3_2, .slice A3_3 l3_3.length c3_3, .slice A3_4 l3_4.length c3_4], .string a4, .int .i64 a5] w fun e w' => ∃ v0_:Value,e = .returned (v0_)∧Kd.R (Kd.int .u8) 5 w' w0.heap.size (fun k_=>(P1_ k_∨w.heap.size≤k_)) v0_ r∧Below w0.heap.size w0 w'∧Kept w w' (fun k_=>P1_ k_):=(grp_spec_Layout_value.all k).1
theorem spec_Layout_elements.calls (k:Nat) : ∀ (a0_0:ByteArray) (a0_1:ByteArray) (a0_2:Int) (P1_:Nat→Prop) (u9000_:Value) (l1:List Int) (a2:ByteArray) (a3_0:Int) (a3_1:Int) (a3_2:Int) (A3_3:Option Addr) (c3_3:Nat) (l3_3:List (S52)) (A3_4:Option Addr) (c3_4:Nat) (l3_4:List (S28)) (a4:ByteArray) (r:List Int) (w0 w:World) (hB:Below w0.heap.size w0 w) (ho1:Kd.R (Kd.int .u8) 5 w w0.heap.size P1_ u9000_ l1) (hr3_3 : ∀ W_,Kept w W_ (fun k_=>P1_ k_)→Kd.C k52 W_ A3_3 l3_3.length l3_3) (hc3_3:l3_3.length≤c3_3) (hr3_4 : ∀ W_,Kept w W_ (fun k_=>P1_ k_)→Kd.C k28 W_ A3_4 l3_4.length l3_4) (hc3_4:l3_4.length≤c3_4) (h:spec_Layout_elements.f k a0_0 a0_1 a0_2 l1 a2 a3_0 a3_1 a3_2 l3_3 l3_4 a4=some r),
    Calls Try.prog 25 #[.agg #[.string a0_0, .string a0_1, .int .i64 a0_2],u9000_, .string a2, .agg #[.int .i64 a3_0, .int .i64 a3_1, .int .i64 a3_2, .slice A3_3 l3_3.length c3_3, .slice A3_4 l3_4.length c3_4], .string a4] w fun e w' => ∃ v0_:Value,e = .returned (v0_)∧Kd.R (Kd.int .u8) 5 w' w0.heap.size (fun k_=>(P1_ k_∨w.heap.size≤k_)) v0_ r∧Below w0.heap.size w0 w'∧Kept w w' (fun k_=>P1_ k_):=(grp_spec_Layout_value.all k).2
/-! ### spec_Layout_Laid: function 10 -/
def spec_Layout_Laid.f (k:Nat) (a0_0:ByteArray) (a0_1:ByteArray) (a0_2:Int) (a1:ByteArray) (a2_0:Int) (a2_1:Int) (a2_2:Int) (l2_3:List (S52)) (l2_4:List (S28)):Option (ByteArray):=(spec_Layout_value.f k a0_0 a0_1 a0_2 ([]:List Int) a1 a2_0 a2_1 a2_2 l2_3 l2_4 a0_0 (a0_0.size:Int)).bind fun tz0=>(if a0_0.size+(strOfNums tz0).size≤9223372036854775807 then (if (a0_0++(strOfNums tz0)).size+1≤9223372036854775807 then (some ((a0_0++(strOfNums tz0))++(⟨#[10]⟩:ByteArray))) else (none)) else (none))
theorem spec_Layout_Laid.mono : ∀ a0 a1 a2 a3 a4 a5 a6 a7 a8 k,LeO (spec_Layout_Laid.f k a0 a1 a2 a3 a4 a5 a6 a7 a8) (spec_Layout_Laid.f (k+1) a0 a1 a2 a3 a4 a5 a6 a7 a8):=by
 intro a0 a1 a2 a3 a4 a5 a6 a7 a8 k
 unfold spec_Layout_Laid.f
 repeat' first|(with_reducible first|apply spec_Layout_value.mono|apply LeO.refl|apply LeO.none|refine LeO.ite ?_ ?_|refine LeO.bind ?_ (fun _=>?_))|apply spec_Layout_value.mono|apply LeO.none|refine LeO.ite ?_ ?_|refine LeO.bind ?_ (fun _=>?_)
def spec_Layout_Laid.T1:Bool × List (List Nat × List Nat):=(true,[([],[]),([0],[0]),([],[]),([],[]),([],[]),([],[]),([5],[5]),([],[]),([7],[7]),([8],[8]),([2,3,4,6,9],[2,3,4,6,9]),([10],[10]),([1,11],[1,11]),([12],[12]),([13,10,0,1,2,3,4,5,6,7,8,9,10,11,12,13],[13])])
def spec_Layout_Laid.B1:List Nat:=[0,1,0,0,0,0,32,0,128,384,1020,2044,4095,8191,16383]
theorem spec_Layout_Laid.tab1:rtab .any (opsOf Try.f10 1)=spec_Layout_Laid.T1:=by kernel_rfl
theorem spec_Layout_Laid.bits1:waitsOk spec_Layout_Laid.T1.2 spec_Layout_Laid.B1=true:=by kernel_rfl
set_option maxHeartbeats 8000000 in
set_option maxRecDepth 100000 in
theorem spec_Layout_Laid.calls (k:Nat) (a0_0:ByteArray) (a0_1:ByteArray) (a0_2:Int) (a1:ByteArray) (a2_0:Int) (a2_1:Int) (a2_2:Int) (A2_3:Option Addr) (c2_3:Nat) (l2_3:List (S52)) (A2_4:Option Addr) (c2_4:Nat) (l2_4:List (S28)) (r:ByteArray) (w:World) (hr2_3:Kd.C k52 w A2_3 l2_3.length l2_3) (hc2_3:l2_3.length≤c2_3) (hr2_4:Kd.C k28 w A2_4 l2_4.length l2_4) (hc2_4:l2_4.length≤c2_4) (h:spec_Layout_Laid.f k a0_0 a0_1 a0_2 a1 a2_0 a2_1 a2_2 l2_3 l2_4=some r) :
 Calls Try.prog 10 #[.agg #[.string a0_0, .string a0_1, .int .i64 a0_2], .string a1, .agg #[.int .i64 a2_0, .int .i64 a2_1, .int .i64 a2_2, .slice A2_3 l2_3.length c2_3, .slice A2_4 l2_4.length c2_4]] w fun e w'=>e = .returned (.string r)∧Below w.heap.size w w':=by
 have hu33:=Try.underlying33
 have hu28:=Try.underlying28
 have HR2_3:=Ak hr2_3
 have HC2_3:=Ak hc2_3
 clear hr2_3 hc2_3
 have HR2_4:=Ak hr2_4
 have HC2_4:=Ak hc2_4
 clear hr2_4 hc2_4
 have HB:=Ak (Below.refl w.heap.size w)
 have H:((spec_Layout_value.f k a0_0 a0_1 a0_2 ([]:List Int) a1 a2_0 a2_1 a2_2 l2_3 l2_4 a0_0 (a0_0.size:Int)).bind fun tz0=>(if a0_0.size+(strOfNums tz0).size≤9223372036854775807 then (if (a0_0++(strOfNums tz0)).size+1≤9223372036854775807 then (some ((a0_0++(strOfNums tz0))++(⟨#[10]⟩:ByteArray))) else (none)) else (none)))=some r:=h
 clear h
 replace H:=Option.bind_eq_some_iff.mp H
 obtain ⟨tz0,A40,H⟩:=H
 replace H:(if a0_0.size+(strOfNums tz0).size≤9223372036854775807 then (if (a0_0++(strOfNums tz0)).size+1≤9223372036854775807 then (some ((a0_0++(strOfNums tz0))++(⟨#[10]⟩:ByteArray))) else (none)) else (none))=some r:=H
 have A4:=Ak A40
 clear A40
 by_cases c5:a0_0.size+(strOfNums tz0).size≤9223372036854775807
 rotate_left
 ·
  rw [if_neg c5] at H
  exact absurd H (by simp)
 rw [if_pos c5] at H
 have c5b0:=eq_true c5
 have c5b1:decide (a0_0.size+(strOfNums tz0).size≤9223372036854775807)=true:=decide_eq_true c5
 try have c5b2:(9223372036854775807<a0_0.size+(strOfNums tz0).size)=False:=eq_false (Nat.not_lt.2 c5)
 by_cases c6:(a0_0++(strOfNums tz0)).size+1≤9223372036854775807
 ·
  rw [if_pos c6] at H
  have c6b0:=eq_true c6
  have c6b1:decide ((a0_0++(strOfNums tz0)).size+1≤9223372036854775807)=true:=decide_eq_true c6
  try have c6b2:(9223372036854775807<(a0_0++(strOfNums tz0)).size+1)=False:=eq_false (Nat.not_lt.2 c6)
  have c6b3:(9223372036854775807<a0_0.size+(strOfNums tz0).size+1)=False:=eq_false (by have c6_:=c6;rw [ByteArray.size_append] at c6_;omega)
  obtain rfl:=Option.some.inj H
  go_enter Try.func10,Try.ntmps10
  try go_wp2_with (first|((with_reducible refine gate_dst (N:=3) rfl ?_);refine box_event ?hg (N:=3) ?hd (cs := #[.string a0_0, .string a0_1, .int .i64 a0_2]) (t:=33) ?hr ?_;(case hd=>rfl);(case hg=>rfl);(case hr=>first|(go_simp;done)|(go_simp;rfl));intro gbz1 hg w7 hbox hb;have _:=Ak (below_step oB hb);have _:=Ak (hbox);have _:=Ak ((by rw [hg];exact (below_size oB):w.heap.size≤gbz1));have _:=Ak ((by rw [hg];exact (below_size oB):w.heap.size≤gbz1));clear HB;rename_i HB BKz1 GWz1 GEz1;clear hb hbox hg)|((with_reducible refine gate_dst (N:=5) rfl ?_);refine box_event ?hg (N:=5) ?hd (cs := #[.int .i64 a2_0, .int .i64 a2_1, .int .i64 a2_2, .slice A2_3 l2_3.length c2_3, .slice A2_4 l2_4.length c2_4]) (t:=28) ?hr ?_;(case hd=>rfl);(case hg=>rfl);(case hr=>first|(go_simp;done)|(go_simp;rfl));intro gbz2 hg w8 hbox hb;have _:=Ak (blk_below (g:=gbz1) (o := .cells #[.string a0_0, .string a0_1, .int .i64 a0_2] 33 (0,0)) (oL BKz1.out) hb);have _:=Ak (below_step (oB1 GEz1.out) hb);have _:=Ak (hbox);have _:=Ak ((by rw [hg];exact (below_size (oB1 GEz1.out)):w.heap.size≤gbz2));have _:=Ak ((by rw [hg];exact (below_size (oB1 GEz1.out)):w.heap.size≤gbz2));have _:=Ak ((by rw [hg];exact Nat.ne_of_lt (blk_lt (g:=gbz1) (o := .cells #[.string a0_0, .string a0_1, .int .i64 a0_2] 33 (0,0)) (oL BKz1.out)):gbz1≠gbz2));have _:=Ak ((by rw [hg];exact Nat.ne_of_gt (blk_lt (g:=gbz1) (o := .cells #[.string a0_0, .string a0_1, .int .i64 a0_2] 33 (0,0)) (oL BKz1.out)):gbz2≠gbz1));clear BKz1 HB;rename_i BKz1 HB BKz2 GWz2 GEz2 NBz1_175039 NBz2_175038;clear hb hbox hg))
  have n0_:=Ak (blk_drew BKz1.out)
  have n1_:=Ak (blk_drew BKz2.out)
  have n2_:=Ak (below_drew1 HB.out)
  clear BKz1
  clear BKz2
  clear HB
  have BKz1:=n0_
  have BKz2:=n1_
  have HB:=n2_
  clear n0_ n1_ n2_
  refine start_ (n:=15) (S:=fun w'=>w'.cell? ⟨gbz1,0,none⟩=some (.string a0_0)∧w'.cell? ⟨gbz1,1,none⟩=some (.string a0_1)∧w'.cell? ⟨gbz1,2,none⟩=some (.int .i64 a0_2)∧w'.cell? ⟨gbz2,0,none⟩=some (.int .i64 a2_0)∧w'.cell? ⟨gbz2,1,none⟩=some (.int .i64 a2_1)∧w'.cell? ⟨gbz2,2,none⟩=some (.int .i64 a2_2)∧w'.cell? ⟨gbz2,3,none⟩=some (.slice A2_3 l2_3.length c2_3)∧w'.cell? ⟨gbz2,4,none⟩=some (.slice A2_4 l2_4.length c2_4)) (ds:=[]) #[false,false,false,false,false,false,false,false,false,false,false,false,false,false,false] (by kernel_rfl) rfl rfl ⟨(blk_cell BKz1.out 0).trans rfl,(blk_cell BKz1.out 1).trans rfl,(blk_cell BKz1.out 2).trans rfl,(blk_cell BKz2.out 0).trans rfl,(blk_cell BKz2.out 1).trans rfl,(blk_cell BKz2.out 2).trans rfl,(blk_cell BKz2.out 3).trans rfl,(blk_cell BKz2.out 4).trans rfl⟩ (fun hHeld=>?_);refine with_tabW spec_Layout_Laid.tab1 spec_Layout_Laid.bits1 (fun HT_ HW_=>?_)
  generalize w8.drew=w9 at BKz1 BKz2 HB hHeld ⊢
  refine zP 0 (some 7) (mA 15 1) ?_
  refine zP 3 (some 10) (mA 15 9) ?_
  refine zP 5 (some 12) (mA 15 41) ?_
  refine zP 7 (some 14) (mA 15 169) ?_
  refine zT 1 (some 8) (mA 15 171) ?_
  refine zT 2 (some 9) (mA 15 175) ?_
  refine zT 4 (some 11) (mA 15 191) ?_
  refine zT 6 (some 13) (mA 15 255) ?_
  refine zT 8 (some 15) (mA 15 511) ?_
  refine zP 9 (some 16) (mA 15 1023) ?_
  refine zO 10 (some 17) (mA 15 2047) (fun K hK=>?_)
  refine goes_ Try.func16 (by kernel_rfl) rfl #[.agg #[.string a0_0, .string a0_1, .int .i64 a0_2], .slice none 0 0, .string a1, .agg #[.int .i64 a2_0, .int .i64 a2_1, .int .i64 a2_2, .slice A2_3 l2_3.length c2_3, .slice A2_4 l2_4.length c2_4], .string a0_0, .int .i64 (a0_0.size:Int)] (by rfl) rfl rfl (by (try simp only [List.map_toArray,List.map_cons,List.map_nil]);first|done|rfl|(simp only [List.length_drop,List.length_take];rfl)|(simp only [ByteArray.size_append,Int.natCast_add];rfl)) ?_
  refine (spec_Layout_value.calls k a0_0 a0_1 a0_2 (fun k_=>some k_=(.slice none 0 0:Value).ownBlock) (.slice none 0 0) ([]:List Int) a1 a2_0 a2_1 a2_2 _ _ l2_3 _ _ l2_4 a0_0 (a0_0.size:Int) tz0 w _ ?side1 ?side2 ?side3 ?side4 ?side5 ?side6 A4.out).mono ?_
  (case side1=>exact oB2 GEz1.out GEz2.out)
  (case side2=>exact Kd.R_nil _ _ _ _ _)
  (case side3=>exact Kd.C_kept_came k52_heap HR2_3.out (oB2 GEz1.out GEz2.out) (fun k_ hs_=>(fun e_=>by simp [Value.ownBlock] at e_) hs_))
  (case side4=>exact HC2_3.out)
  (case side5=>exact Kd.C_kept_came k28_heap HR2_4.out (oB2 GEz1.out GEz2.out) (fun k_ hs_=>(fun e_=>by simp [Value.ownBlock] at e_) hs_))
  (case side6=>exact HC2_4.out)
  rintro e w10 ⟨vz3,rfl,ho0,hb,hkp⟩
  refine ⟨_,rfl,?_⟩
  have n0_:=Ak (blk_kept (oL BKz1.out) hkp (fun hs_=>(fun e_=>by simp [Value.ownBlock] at e_) hs_))
  have n1_:=Ak (blk_kept (oL BKz2.out) hkp (fun hs_=>(fun e_=>by simp [Value.ownBlock] at e_) hs_))
  have n2_:=Ak (Kd.R_mono (ok':=fun k_=>True) ho0 (fun k_ hk_=>trivial))
  have n3_:=Ak (hb)
  clear BKz1
  clear BKz2
  clear HB
  have BKz1:=n0_
  have BKz2:=n1_
  have HOz4:=n2_
  have HB:=n3_
  clear n0_ n1_ n2_ n3_
  (try clear hb)
  (try clear hkp)
  (try clear ho0)
  refine hK.out _ _ ⟨(blk_cell BKz1.out 0).trans rfl,(blk_cell BKz1.out 1).trans rfl,(blk_cell BKz1.out 2).trans rfl,(blk_cell BKz2.out 0).trans rfl,(blk_cell BKz2.out 1).trans rfl,(blk_cell BKz2.out 2).trans rfl,(blk_cell BKz2.out 3).trans rfl,(blk_cell BKz2.out 4).trans rfl⟩ (fun hHeld=>?_)
  clear hK K
  refine norm_ (a':=?_) ?_ ?_
  rotate_left
  ·
   show Act.put _ (some 17) _=_
   simp only [Act.put,List.setIfInBounds_toArray,List.set_cons_zero,List.set_cons_succ,i64_w,i32_w]
   rfl
  refine zO 11 (some 18) (mA 15 4095) (fun K hK=>?_)
  have hcv11:=own_string (P:=Try.prog) Try.underlying44 Try.underlying5 Try.underlying9 (Kd.own_of_R HOz4.out)
  refine value_ (w1:=?_) (v:=?_) (by rfl) rfl ?_ ?_
  rotate_left 2
  ·
   go_simp
   constructor
   ·
    rfl
   rfl
  clear hcv11
  refine hK.out _ _ ⟨(blk_cell BKz1.out 0).trans rfl,(blk_cell BKz1.out 1).trans rfl,(blk_cell BKz1.out 2).trans rfl,(blk_cell BKz2.out 0).trans rfl,(blk_cell BKz2.out 1).trans rfl,(blk_cell BKz2.out 2).trans rfl,(blk_cell BKz2.out 3).trans rfl,(blk_cell BKz2.out 4).trans rfl⟩ (fun hHeld=>?_)
  clear hK K
  refine norm_ (a':=?_) ?_ ?_
  rotate_left
  ·
   show Act.put _ (some 18) _=_
   simp only [Act.put,List.setIfInBounds_toArray,List.set_cons_zero,List.set_cons_succ,i64_w,i32_w]
   rfl
  refine zP 12 (some 19) (mA 15 8191) ?_
  refine zP 13 (some 20) (mA 15 16383) ?_
  refine zP 14 (some 6) (mA 15 32767) ?_
  refine done_ (done_of HT_.out (by kernel_rfl)) ?_
  try go_wp2
  go_ret
  exact ⟨oE,oB2 GEz1.out GEz2.out⟩
 rw [if_neg c6] at H
 exact absurd H (by simp)
-- NOT PRINTED: function 3 (laws_FnPrWhole)
end Go.Proofs.Ytbkgoccnegjdhaa.Q

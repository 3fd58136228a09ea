/- Functions of the program as Lean functions, each with a proof that the call comes to what it gives. Written by prx.py (wip/pr). -/
import Derived.Test.YtbkgoccnegjdhaaQ0
import Derived.Test.YtbkgoccnegjdhaaQ12
namespace Go.Proofs.Ytbkgoccnegjdhaa.Q
open Go.RowKit Go.Proofs.YtbkgoccnegjdhaaW.PrintWords Go.Proofs.YtbkgoccnegjdhaaW.PrintLast Go.Proofs.YtbkgoccnegjdhaaW.PrintMore
attribute [local go_sem] max2_int min2_int max_two min_two max_three min_three max_four min_four   -- for this text's walks alone
set_option linter.unusedVariables false
set_option linter.unusedSimpArgs false
/-! ### spec_objects: function 23 -/
mutual
def spec_objects.l0:Nat→Bool→Int→Int→Int→Int→Int→List (S52)→List (S28)→Option (Bool)
  | 0,_,_,_,_,_,_,_,_=>none
  | k+1,x3,x10,x11,xz0000,xz0001,xz0002,xz0003,xz0004=>if x11<x10 then (if x3=true then (spec_objects.l0 k true x10 (wrap64 (x11+1)) xz0000 xz0001 xz0002 xz0003 xz0004) else (if 0≤x11 then (if x11<(xz0004.length:Int) then ((spec_objects.f k ((rd_T28 xz0004 x11).f0) ((rd_T28 xz0004 x11).f1) ((rd_T28 xz0004 x11).f2) ((rd_T28 xz0004 x11).f3) ((rd_T28 xz0004 x11).f4)).bind fun tz1=>(spec_objects.l0 k tz1 x10 (wrap64 (x11+1)) xz0000 xz0001 xz0002 xz0003 xz0004)) else (none)) else (none))) else (some x3)
def spec_objects.f:Nat→Int→Int→Int→List (S52)→List (S28)→Option (Bool)
  | 0,_,_,_,_,_=>none
  | k+1,a0_0,a0_1,a0_2,l0_3,l0_4=>spec_objects.l0 k (a0_0 == 6) (l0_4.length:Int) 0 a0_0 a0_1 a0_2 l0_3 l0_4
end
theorem spec_objects.mono_l : ∀ k,(∀ y0 y1 y2 y3 y4,LeO (spec_objects.f k y0 y1 y2 y3 y4) (spec_objects.f (k+1) y0 y1 y2 y3 y4))∧(∀ y0 y1 y2 y3 y4 y5 y6 y7,LeO (spec_objects.l0 k y0 y1 y2 y3 y4 y5 y6 y7) (spec_objects.l0 (k+1) y0 y1 y2 y3 y4 y5 y6 y7))
  | 0=>⟨fun _ _ _ _ _ r h=>by simp [spec_objects.f] at h,fun _ _ _ _ _ _ _ _ r h=>by simp [spec_objects.l0] at h⟩
  | k+1=>by
    obtain ⟨ih0,ih1⟩:=spec_objects.mono_l k
    refine ⟨?_,?_⟩
    · intro y0 y1 y2 y3 y4
      unfold spec_objects.f
      repeat' first|(with_reducible first|apply ih0|apply ih1|apply LeO.refl|apply LeO.none|refine LeO.ite ?_ ?_|refine LeO.bind ?_ (fun _=>?_))|apply ih0|apply ih1|apply LeO.none|refine LeO.ite ?_ ?_|refine LeO.bind ?_ (fun _=>?_)
    · intro y0 y1 y2 y3 y4 y5 y6 y7
      unfold spec_objects.l0
      repeat' first|(with_reducible first|apply ih0|apply ih1|apply LeO.refl|apply LeO.none|refine LeO.ite ?_ ?_|refine LeO.bind ?_ (fun _=>?_))|apply ih0|apply ih1|apply LeO.none|refine LeO.ite ?_ ?_|refine LeO.bind ?_ (fun _=>?_)
theorem spec_objects.mono : ∀ a0 a1 a2 a3 a4 k,LeO (spec_objects.f k a0 a1 a2 a3 a4) (spec_objects.f (k+1) a0 a1 a2 a3 a4):=by
 intro a0 a1 a2 a3 a4 k
 obtain ⟨ih0,ih1⟩:=spec_objects.mono_l k
 exact ih0 a0 a1 a2 a3 a4
set_option maxHeartbeats 8000000 in
set_option maxRecDepth 100000 in
theorem spec_objects.calls (k:Nat) : ∀ (a0_0:Int) (a0_1:Int) (a0_2:Int) (A0_3:Option Addr) (c0_3:Nat) (l0_3:List (S52)) (A0_4:Option Addr) (c0_4:Nat) (l0_4:List (S28)) (r:Bool) (w:World) (hr0_3:Kd.C k52 w A0_3 l0_3.length l0_3) (hc0_3:l0_3.length≤c0_3) (hr0_4:Kd.C k28 w A0_4 l0_4.length l0_4) (hc0_4:l0_4.length≤c0_4) (h:spec_objects.f k a0_0 a0_1 a0_2 l0_3 l0_4=some r),
 Calls Try.prog 23 #[.agg #[.int .i64 a0_0, .int .i64 a0_1, .int .i64 a0_2, .slice A0_3 l0_3.length c0_3, .slice A0_4 l0_4.length c0_4]] w fun e w'=>e = .returned (.bool r)∧Below w.heap.size w w':=by
 induction k using Nat.strongRecOn with
 | _ k ih =>
 intro a0_0 a0_1 a0_2 A0_3 c0_3 l0_3 A0_4 c0_4 l0_4 r w hr0_3 hc0_3 hr0_4 hc0_4 h
 cases k with
 | zero=>exact absurd h (by simp [spec_objects.f])
 | succ k =>
 simp only [spec_objects.f] at h
 have hu28:=Try.underlying28
 have HR0_3:=Ak hr0_3
 have HC0_3:=Ak hc0_3
 clear hr0_3 hc0_3
 have HR0_4:=Ak hr0_4
 have HC0_4:=Ak hc0_4
 clear hr0_4 hc0_4
 have HB:=Ak (Below.refl w.heap.size w)
 have H:(spec_objects.l0 k (a0_0 == 6) (l0_4.length:Int) 0 a0_0 a0_1 a0_2 l0_3 l0_4)=some r:=h
 clear h
 have H':=Ak H
 clear H
 go_enter Try.func23,Try.ntmps23
 go_wp2_with (first|((with_reducible refine gate_dst (N:=1) rfl ?_);refine box_event ?hg (N:=1) ?hd (cs := #[.int .i64 a0_0, .int .i64 a0_1, .int .i64 a0_2, .slice A0_3 l0_3.length c0_3, .slice A0_4 l0_4.length c0_4]) (t:=28) ?hr ?_;(case hd=>rfl);(case hg=>rfl);(case hr=>first|(go_simp;done)|(go_simp;rfl));intro gbz0 hg w2 hbox hb;have _:=Ak (below_step oB hb);have _:=Ak (hbox);have _:=Ak ((by rw [hg];exact (below_size oB):w.heap.size≤gbz0));have _:=Ak ((by rw [hg];exact (below_size oB):w.heap.size≤gbz0));clear HB;rename_i HB BKz0 GWz0 GEz0;clear hb hbox hg;have hcz3_0:w2.cell? ⟨gbz0,0,none⟩=some (.int .i64 a0_0):=(blk_cell BKz0.out 0).trans rfl;have hcz3_1:w2.cell? ⟨gbz0,1,none⟩=some (.int .i64 a0_1):=(blk_cell BKz0.out 1).trans rfl;have hcz3_2:w2.cell? ⟨gbz0,2,none⟩=some (.int .i64 a0_2):=(blk_cell BKz0.out 2).trans rfl;have hcz3_3:w2.cell? ⟨gbz0,3,none⟩=some (.slice A0_3 l0_3.length c0_3):=(blk_cell BKz0.out 3).trans rfl;have hcz3_4:w2.cell? ⟨gbz0,4,none⟩=some (.slice A0_4 l0_4.length c0_4):=(blk_cell BKz0.out 4).trans rfl;have hfz3_0:=blk_frozen BKz0.out 0;have hfz3_1:=blk_frozen BKz0.out 1;have hfz3_2:=blk_frozen BKz0.out 2;have hfz3_3:=blk_frozen BKz0.out 3;have hfz3_4:=blk_frozen BKz0.out 4))
 (try simp only [Act.put,List.setIfInBounds_toArray,List.set_cons_zero,List.set_cons_succ])
 go_loopg [3,11] k (fun kq v3 v11 w' => ∃ (x3_1:Bool) (x11_1:Int),v3 = .bool x3_1∧v11 = .int .i64 x11_1∧Aside0 (spec_objects.l0 kq x3_1 (l0_4.length:Int) x11_1 a0_0 a0_1 a0_2 l0_3 l0_4=some r)∧Aside0 (kq≤k)∧Aside0 (w'.heap[gbz0]? = some (.cells #[.int .i64 a0_0, .int .i64 a0_1, .int .i64 a0_2,(.slice A0_3 l0_3.length c0_3),(.slice A0_4 l0_4.length c0_4)] 28 (0,0)))∧Aside0 (Below w.heap.size w w'))
 case atStart=>exact ⟨((a0_0 == 6)),(0),oS,oS,H',⟨Nat.le_refl _⟩,⟨oL BKz0.out⟩,⟨oB1 GEz0.out⟩⟩
 case round =>
 clear H'
 clear hcz3_0 hcz3_1 hcz3_2 hcz3_3 hcz3_4 hfz3_0 hfz3_1 hfz3_2 hfz3_3 hfz3_4
 obtain ⟨x3_1,x11_1,rfl,rfl,HA,HK1,BKz0,HB⟩:=hrel
 cases gk with
 | zero=>exact absurd HA.out (by simp [spec_objects.l0])
 | succ k1 =>
  have H:=HA.out
  clear HA
  simp only [spec_objects.l0] at H
  by_cases c4:x11_1<(l0_4.length:Int)
  rotate_left
  ·
   rw [if_neg c4] at H
   have c4b0:decide (x11_1<(l0_4.length:Int))=false:=decide_eq_false c4
   clear c4
   obtain rfl:=Option.some.inj H
   go_wp2
   go_ret
   exact ⟨oE,oB1 GEz0.out⟩
  rw [if_pos c4] at H
  have c4b0:decide (x11_1<(l0_4.length:Int))=true:=decide_eq_true c4
  clear c4
  by_cases c5:x3_1=true
  ·
   subst c5
   have H1:(spec_objects.l0 k1 true (l0_4.length:Int) (wrap64 (x11_1+1)) a0_0 a0_1 a0_2 l0_3 l0_4)=some r:=by rw [if_pos rfl] at H;exact H
   clear H
   have H:=H1
   clear H1
   have H':=Ak H
   clear H
   go_wp2
   go_roundg k1
   case measure=>have:=HK1.out;omega
   case rel=>exact ⟨(true),(wrap64 (x11_1+1)),oS,oS,H',⟨by have:=HK1.out;omega⟩,⟨oL BKz0.out⟩,⟨oB1 GEz0.out⟩⟩
  replace c5:=Bool.eq_false_iff.mpr c5
  subst c5
  have H1:(if 0≤x11_1 then (if x11_1<(l0_4.length:Int) then ((spec_objects.f k1 ((rd_T28 l0_4 x11_1).f0) ((rd_T28 l0_4 x11_1).f1) ((rd_T28 l0_4 x11_1).f2) ((rd_T28 l0_4 x11_1).f3) ((rd_T28 l0_4 x11_1).f4)).bind fun tz1=>(spec_objects.l0 k1 tz1 (l0_4.length:Int) (wrap64 (x11_1+1)) a0_0 a0_1 a0_2 l0_3 l0_4)) else (none)) else (none))=some r:=by rw [if_neg (show ¬ (false=true) by decide)] at H;exact H
  clear H
  have H:=H1
  clear H1
  by_cases c6:0≤x11_1
  ·
   rw [if_pos c6] at H
   have c6b0:decide (0≤x11_1)=true:=decide_eq_true c6
   clear c6
   by_cases c7:x11_1<(l0_4.length:Int)
   rotate_left
   ·
    rw [if_neg c7] at H
    exact absurd H (by simp)
   rw [if_pos c7] at H
   have c7b0:decide (x11_1<(l0_4.length:Int))=true:=decide_eq_true c7
   clear c7
   replace H:=Option.bind_eq_some_iff.mp H
   obtain ⟨tz1,A80,H⟩:=H
   replace H:(spec_objects.l0 k1 tz1 (l0_4.length:Int) (wrap64 (x11_1+1)) a0_0 a0_1 a0_2 l0_3 l0_4)=some r:=H
   have A8:=Ak A80
   clear A80
   have H':=Ak H
   clear H
   have hcz9_0:wr.cell? ⟨gbz0,0,none⟩=some (.int .i64 a0_0):=(blk_cell BKz0.out 0).trans rfl
   have hcz9_1:wr.cell? ⟨gbz0,1,none⟩=some (.int .i64 a0_1):=(blk_cell BKz0.out 1).trans rfl
   have hcz9_2:wr.cell? ⟨gbz0,2,none⟩=some (.int .i64 a0_2):=(blk_cell BKz0.out 2).trans rfl
   have hcz9_3:wr.cell? ⟨gbz0,3,none⟩=some (.slice A0_3 l0_3.length c0_3):=(blk_cell BKz0.out 3).trans rfl
   have hcz9_4:wr.cell? ⟨gbz0,4,none⟩=some (.slice A0_4 l0_4.length c0_4):=(blk_cell BKz0.out 4).trans rfl
   have hfz9_0:=blk_frozen BKz0.out 0
   have hfz9_1:=blk_frozen BKz0.out 1
   have hfz9_2:=blk_frozen BKz0.out 2
   have hfz9_3:=blk_frozen BKz0.out 3
   have hfz9_4:=blk_frozen BKz0.out 4
   have pz2:0≤(x11_1:Int):=of_decide_eq_true oA
   have qz2:x11_1<(l0_4.length:Int):=of_decide_eq_true oA
   obtain ⟨adz2,Az2_3,cz2_3,Az2_4,cz2_4,ez2,hxz2_0,hxz2_1,hxz2_2,hxz2_3,hxz2_4,hlz2_3,hiz2_3,hlz2_4,hiz2_4⟩:=at_T28 HR0_4.out x11_1 pz2 qz2
   cases ez2
   replace hxz2_0:=(HB.out.cell (World.block_lt_of_cell? w _ hxz2_0)).trans hxz2_0
   replace hxz2_1:=(HB.out.cell (World.block_lt_of_cell? w _ hxz2_1)).trans hxz2_1
   replace hxz2_2:=(HB.out.cell (World.block_lt_of_cell? w _ hxz2_2)).trans hxz2_2
   replace hxz2_3:=(HB.out.cell (World.block_lt_of_cell? w _ hxz2_3)).trans hxz2_3
   replace hxz2_4:=(HB.out.cell (World.block_lt_of_cell? w _ hxz2_4)).trans hxz2_4
   have HRz2_3:=Ak hiz2_3
   have HCz2_3:=Ak hlz2_3
   clear hiz2_3 hlz2_3
   have HRz2_4:=Ak hiz2_4
   have HCz2_4:=Ak hlz2_4
   clear hiz2_4 hlz2_4
   replace pz2:=eq_true pz2
   replace qz2:=eq_true qz2
   go_wp2_with (first|(go_at_call 23;(with_reducible refine (ih k1 (by have:=HK1.out;omega) ((rd_T28 l0_4 x11_1).f0) ((rd_T28 l0_4 x11_1).f1) ((rd_T28 l0_4 x11_1).f2) _ _ ((rd_T28 l0_4 x11_1).f3) _ _ ((rd_T28 l0_4 x11_1).f4) tz1 _ ?side1 ?side2 ?side3 ?side4 A8.out).mono ?_);(case side1=>repeat (first|exact (Kd.C_below HRz2_3.out HB.out)|(with_reducible refine Kd.C_alloc ?_ _)|(with_reducible refine Kd.C_drewN ?_ _)|(with_reducible refine Kd.C_drew ?_)));(case side2=>exact HCz2_3.out);(case side3=>repeat (first|exact (Kd.C_below HRz2_4.out HB.out)|(with_reducible refine Kd.C_alloc ?_ _)|(with_reducible refine Kd.C_drewN ?_ _)|(with_reducible refine Kd.C_drew ?_)));(case side4=>exact HCz2_4.out);rintro e w10 ⟨rfl,hb⟩;have _:=Ak (blk_below (g:=gbz0) (o := .cells #[.int .i64 a0_0, .int .i64 a0_1, .int .i64 a0_2, .slice A0_3 l0_3.length c0_3, .slice (some adz2) l0_4.length c0_4] 28 (0,0)) (oL BKz0.out) hb);have _:=Ak (below_step (oB1 GEz0.out) hb);clear BKz0 HB;rename_i BKz0 HB;(try clear hb);(try clear hb2);(try clear hk);(try clear hi)))
   go_roundg k1
   case measure=>have:=HK1.out;omega
   case rel=>exact ⟨(tz1),(wrap64 (x11_1+1)),oS,oS,H',⟨by have:=HK1.out;omega⟩,⟨oL BKz0.out⟩,⟨oB1 GEz0.out⟩⟩
  rw [if_neg c6] at H
  exact absurd H (by simp)
/-! ### spec_lineTo: function 24 -/
mutual
def spec_lineTo.l0:Nat→List Int→ByteArray→Int→Int→Int→Int→Int→List (S52)→List (S28)→Option (List Int)
  | 0,_,_,_,_,_,_,_,_,_=>none
  | k+1,x0,x1,x24,x25,xz0000,xz0001,xz0002,xz0003,xz0004=>if x25<x24 then (if x25>0 then ((some (([44,32]:List Int):List Int)).bind fun yz1=>(if x0.length+yz1.length<140737488355328 then (if 0≤x25 then (if x25<(xz0004.length:Int) then ((spec_lineTo.f k (x0++yz1) x1 ((rd_T28 xz0004 x25).f0) ((rd_T28 xz0004 x25).f1) ((rd_T28 xz0004 x25).f2) ((rd_T28 xz0004 x25).f3) ((rd_T28 xz0004 x25).f4)).bind fun tz2=>(spec_lineTo.l0 k tz2 x1 x24 (wrap64 (x25+1)) xz0000 xz0001 xz0002 xz0003 xz0004)) else (none)) else (none)) else (none))) else (if 0≤x25 then (if x25<(xz0004.length:Int) then ((spec_lineTo.f k x0 x1 ((rd_T28 xz0004 x25).f0) ((rd_T28 xz0004 x25).f1) ((rd_T28 xz0004 x25).f2) ((rd_T28 xz0004 x25).f3) ((rd_T28 xz0004 x25).f4)).bind fun tz3=>(spec_lineTo.l0 k tz3 x1 x24 (wrap64 (x25+1)) xz0000 xz0001 xz0002 xz0003 xz0004)) else (none)) else (none))) else (if x0.length<140737488355328 then (some (x0++[93])) else (none))
def spec_lineTo.f:Nat→List Int→ByteArray→Int→Int→Int→List (S52)→List (S28)→Option (List Int)
  | 0,_,_,_,_,_,_,_=>none
  | k+1,l0,a1,a2_0,a2_1,a2_2,l2_3,l2_4=>if a2_0=5 then (if l0.length<140737488355328 then (spec_lineTo.l0 k (l0++[91]) a1 (l2_4.length:Int) 0 a2_0 a2_1 a2_2 l2_3 l2_4) else (none)) else (if 0≤a2_1 then (if a2_1≤a2_2 then (if a2_2≤(a1.size:Int) then (if l0.length+(a1.extract (a2_1:Int).toNat (a2_2:Int).toNat).size<140737488355328 then (some (l0++bytesOf (a1.extract (a2_1:Int).toNat (a2_2:Int).toNat))) else (none)) else (none)) else (none)) else (none))
end
theorem spec_lineTo.mono_l : ∀ k,(∀ y0 y1 y2 y3 y4 y5 y6,LeO (spec_lineTo.f k y0 y1 y2 y3 y4 y5 y6) (spec_lineTo.f (k+1) y0 y1 y2 y3 y4 y5 y6))∧(∀ y0 y1 y2 y3 y4 y5 y6 y7 y8,LeO (spec_lineTo.l0 k y0 y1 y2 y3 y4 y5 y6 y7 y8) (spec_lineTo.l0 (k+1) y0 y1 y2 y3 y4 y5 y6 y7 y8))
  | 0=>⟨fun _ _ _ _ _ _ _ r h=>by simp [spec_lineTo.f] at h,fun _ _ _ _ _ _ _ _ _ r h=>by simp [spec_lineTo.l0] at h⟩
  | k+1=>by
    obtain ⟨ih0,ih1⟩:=spec_lineTo.mono_l k
    refine ⟨?_,?_⟩
    · intro y0 y1 y2 y3 y4 y5 y6
      unfold spec_lineTo.f
      repeat' first|(with_reducible first|apply ih0|apply ih1|apply LeO.refl|apply LeO.none|refine LeO.ite ?_ ?_|refine LeO.bind ?_ (fun _=>?_))|apply ih0|apply ih1|apply LeO.none|refine LeO.ite ?_ ?_|refine LeO.bind ?_ (fun _=>?_)
    · intro y0 y1 y2 y3 y4 y5 y6 y7 y8
      unfold spec_lineTo.l0
      repeat' first|(with_reducible first|apply ih0|apply ih1|apply LeO.refl|apply LeO.none|refine LeO.ite ?_ ?_|refine LeO.bind ?_ (fun _=>?_))|apply ih0|apply ih1|apply LeO.none|refine LeO.ite ?_ ?_|refine LeO.bind ?_ (fun _=>?_)
theorem spec_lineTo.mono : ∀ a0 a1 a2 a3 a4 a5 a6 k,LeO (spec_lineTo.f k a0 a1 a2 a3 a4 a5 a6) (spec_lineTo.f (k+1) a0 a1 a2 a3 a4 a5 a6):=by
 intro a0 a1 a2 a3 a4 a5 a6 k
 obtain ⟨ih0,ih1⟩:=spec_lineTo.mono_l k
 exact ih0 a0 a1 a2 a3 a4 a5 a6
set_option maxHeartbeats 8000000 in
set_option maxRecDepth 100000 in
theorem spec_lineTo.calls (k:Nat) : ∀ (P0_:Nat→Prop) (u9000_:Value) (l0:List Int) (a1:ByteArray) (a2_0:Int) (a2_1:Int) (a2_2:Int) (A2_3:Option Addr) (c2_3:Nat) (l2_3:List (S52)) (A2_4:Option Addr) (c2_4:Nat) (l2_4:List (S28)) (r:List Int) (w0 w:World) (hB:Below w0.heap.size w0 w) (ho0:Kd.R (Kd.int .u8) 5 w w0.heap.size P0_ u9000_ l0) (hr2_3 : ∀ W_,Kept w W_ (fun k_=>P0_ k_)→Kd.C k52 W_ A2_3 l2_3.length l2_3) (hc2_3:l2_3.length≤c2_3) (hr2_4 : ∀ W_,Kept w W_ (fun k_=>P0_ k_)→Kd.C k28 W_ A2_4 l2_4.length l2_4) (hc2_4:l2_4.length≤c2_4) (h:spec_lineTo.f k l0 a1 a2_0 a2_1 a2_2 l2_3 l2_4=some r),
 Calls Try.prog 24 #[u9000_, .string a1, .agg #[.int .i64 a2_0, .int .i64 a2_1, .int .i64 a2_2, .slice A2_3 l2_3.length c2_3, .slice A2_4 l2_4.length c2_4]] w fun e w' => ∃ v0_:Value,e = .returned (v0_)∧Kd.R (Kd.int .u8) 5 w' w0.heap.size (fun k_=>(P0_ k_∨w.heap.size≤k_)) v0_ r∧Below w0.heap.size w0 w'∧Kept w w' (fun k_=>P0_ k_):=by
 induction k using Nat.strongRecOn with
 | _ k ih =>
 intro P0_ u9000_ l0 a1 a2_0 a2_1 a2_2 A2_3 c2_3 l2_3 A2_4 c2_4 l2_4 r w0 w hB ho0 hr2_3 hc2_3 hr2_4 hc2_4 h
 cases k with
 | zero=>exact absurd h (by simp [spec_lineTo.f])
 | succ k =>
 simp only [spec_lineTo.f] at h
 have hu28:=Try.underlying28
 have HO0:=Ak (show Kd.R (Kd.int .u8) 5 w w0.heap.size (fun k_=>(P0_ k_∨w.heap.size≤k_)) u9000_ l0 from Kd.R_mono ho0 (fun k_ hk=>(.inl hk)))
 have HR2_3:=Ak hr2_3
 have HC2_3:=Ak hc2_3
 clear hr2_3 hc2_3
 have HR2_4:=Ak hr2_4
 have HC2_4:=Ak hc2_4
 clear hr2_4 hc2_4
 have HK:=Ak (Kept.refl w (fun k_=>P0_ k_))
 have HW0:=Ak hB.size
 have HB:=Ak hB
 clear hB
 have H:(if a2_0=5 then (if l0.length<140737488355328 then (spec_lineTo.l0 k (l0++[91]) a1 (l2_4.length:Int) 0 a2_0 a2_1 a2_2 l2_3 l2_4) else (none)) else (if 0≤a2_1 then (if a2_1≤a2_2 then (if a2_2≤(a1.size:Int) then (if l0.length+(a1.extract (a2_1:Int).toNat (a2_2:Int).toNat).size<140737488355328 then (some (l0++bytesOf (a1.extract (a2_1:Int).toNat (a2_2:Int).toNat))) else (none)) else (none)) else (none)) else (none)))=some r:=h
 clear h
 by_cases c4:a2_0=5
 rotate_left
 ·
  rw [if_neg c4] at H
  have c4b0:(a2_0 == 5)=false:=beq_eq_false_iff_ne.mpr c4
  have c4b1:(a2_0 != 5)=true:=bne_iff_ne.mpr c4
  by_cases c31:0≤a2_1
  rotate_left
  ·
   rw [if_neg c31] at H
   exact absurd H (by simp)
  rw [if_pos c31] at H
  have c31b0:=eq_true c31
  have c31b1:decide (0≤a2_1)=true:=decide_eq_true c31
  clear c31
  by_cases c32:a2_1≤a2_2
  ·
   rw [if_pos c32] at H
   have c32b0:=eq_true c32
   have c32b1:decide (a2_1≤a2_2)=true:=decide_eq_true c32
   clear c32
   by_cases c33:a2_2≤(a1.size:Int)
   rotate_left
   ·
    rw [if_neg c33] at H
    exact absurd H (by simp)
   rw [if_pos c33] at H
   have c33b0:=eq_true c33
   have c33b1:decide (a2_2≤(a1.size:Int))=true:=decide_eq_true c33
   clear c33
   by_cases c34:l0.length+(a1.extract (a2_1:Int).toNat (a2_2:Int).toNat).size<140737488355328
   ·
    rw [if_pos c34] at H
    have LMc34:=Ak c34
    clear c34
    obtain ⟨yz21,hyz21⟩ : ∃ y_:List Int,y_=(l0++bytesOf (a1.extract (a2_1:Int).toNat (a2_2:Int).toNat)):=⟨_,rfl⟩
    replace H:(some yz21)=some r:=by first|(rw [hyz21];with_reducible exact H)|(have H2_:=(Option.bind_some _ _).symm.trans H;rw [hyz21];with_reducible exact H2_)|(have H2_:=(Option.bind_some _ _).symm.trans H;with_reducible exact H2_)|with_reducible exact H|(rw [hyz21];exact H)|exact H
    have Nyz21:=Ak hyz21
    clear hyz21
    obtain rfl:=Option.some.inj H
    go_enter Try.func24,Try.ntmps24
    go_wp2_with (first|((with_reducible refine gate_dst (N:=5) rfl ?_);refine box_event ?hg (N:=5) ?hd (cs := #[.int .i64 a2_0, .int .i64 a2_1, .int .i64 a2_2, .slice A2_3 l2_3.length c2_3, .slice A2_4 l2_4.length c2_4]) (t:=28) ?hr ?_;(case hd=>rfl);(case hg=>rfl);(case hr=>first|(go_simp;done)|(go_simp;rfl));intro gbz1 hg w35 hbox hb;have _:=Ak (Kd.R_below (oR HO0.out) hb);have _:=Ak (Kept.below (S:=(fun k_=>P0_ k_)) oP hb);have _:=Ak (below_step oB hb);have _:=Ak (hbox);have _:=Ak ((by rw [hg];exact (by first|exact HK.out.1|exact (show Kept w _ (fun k_=>P0_ k_) from oP).1):w.heap.size≤gbz1));have _:=Ak ((by rw [hg];exact (below_size oB):w0.heap.size≤gbz1));clear HO0 HK HB;rename_i HO0 HK HB BKz1 GWz1 GEz1;clear hb hbox hg;have hcz36_0:w35.cell? ⟨gbz1,0,none⟩=some (.int .i64 a2_0):=(blk_cell BKz1.out 0).trans rfl;have hcz36_1:w35.cell? ⟨gbz1,1,none⟩=some (.int .i64 a2_1):=(blk_cell BKz1.out 1).trans rfl;have hcz36_2:w35.cell? ⟨gbz1,2,none⟩=some (.int .i64 a2_2):=(blk_cell BKz1.out 2).trans rfl;have hcz36_3:w35.cell? ⟨gbz1,3,none⟩=some (.slice A2_3 l2_3.length c2_3):=(blk_cell BKz1.out 3).trans rfl;have hcz36_4:w35.cell? ⟨gbz1,4,none⟩=some (.slice A2_4 l2_4.length c2_4):=(blk_cell BKz1.out 4).trans rfl;have hfz36_0:=blk_frozen BKz1.out 0;have hfz36_1:=blk_frozen BKz1.out 1;have hfz36_2:=blk_frozen BKz1.out 2;have hfz36_3:=blk_frozen BKz1.out 3;have hfz36_4:=blk_frozen BKz1.out 4)|((with_reducible refine gate_builtin (b := .append) (xs := #[.tmp 11,_]) rfl ?_);at_builtin;refine Kd.R_append_str (w0:=w0) w0.heap.size rfl (.tmp 11) _ 44 9 5 rfl Try.underlying44 Try.underlying9 info5 u9000_ l0 (a1.extract (a2_1:Int).toNat (a2_2:Int).toNat) (fun k_=>(P0_ k_∨w.heap.size≤k_)) rfl rfl ?aO ?aF ?aB ?aS ?aL ?_;(case aB=>exact (oB1 GEz1.out));(case aF=>exact (fun k_ hk=>(.inr (Nat.le_trans (by first|exact HK.out.1|exact (show Kept w _ (fun k_=>P0_ k_) from oP1 GWz1.out).1) hk))));(case aO=>exact (oR HO0.out));(case aS=>exact (below_size (oB1 GEz1.out)));(case aL=>have:=LMc34.out;omega);intro vz22 w37 ho hb hg hat;rw [← Nyz21.out] at ho;have _:=Ak (blk_grown (g:=gbz1) (o := .cells #[.int .i64 a2_0, .int .i64 a2_1, .int .i64 a2_2, .slice A2_3 l2_3.length c2_3, .slice A2_4 l2_4.length c2_4] 28 (0,0)) (oL BKz1.out) hg (Kd.R_ne HO0.out BKz1.out (by decide)));have _:=Ak (hb);have _:=Ak (Kept.of_grown (S:=(fun k_=>P0_ k_)) hg (oP1 GWz1.out) (fun k_ e_=>(HO0.out.1 k_ e_)));have _:=Ak (ho);clear BKz1 HB HK HO0;rename_i BKz1 HB HK HOz23;clear ho hb hg hat))
    go_ret
    exact ⟨_,oE,oR HOz23.out,oB1 GEz1.out,oP1 GWz1.out⟩
   rw [if_neg c34] at H
   exact absurd H (by simp)
  rw [if_neg c32] at H
  exact absurd H (by simp)
 rw [if_pos c4] at H
 have c4b0:(a2_0 == 5)=true:=beq_iff_eq.mpr c4
 have c4b1:(a2_0 != 5)=false:=bne_eq_false_iff_eq.mpr c4
 clear c4
 by_cases c5:l0.length<140737488355328
 ·
  rw [if_pos c5] at H
  have LMc5:=Ak c5
  clear c5
  obtain ⟨yz0,hyz0⟩ : ∃ y_:List Int,y_=(l0++[91]):=⟨_,rfl⟩
  replace H:(spec_lineTo.l0 k yz0 a1 (l2_4.length:Int) 0 a2_0 a2_1 a2_2 l2_3 l2_4)=some r:=by first|(rw [hyz0];with_reducible exact H)|(have H2_:=(Option.bind_some _ _).symm.trans H;rw [hyz0];with_reducible exact H2_)|(have H2_:=(Option.bind_some _ _).symm.trans H;with_reducible exact H2_)|with_reducible exact H|(rw [hyz0];exact H)|exact H
  have Nyz0:=Ak hyz0
  clear hyz0
  have H':=Ak H
  clear H
  go_enter Try.func24,Try.ntmps24
  go_wp2_with (first|((with_reducible refine gate_dst (N:=5) rfl ?_);refine box_event ?hg (N:=5) ?hd (cs := #[.int .i64 a2_0, .int .i64 a2_1, .int .i64 a2_2, .slice A2_3 l2_3.length c2_3, .slice A2_4 l2_4.length c2_4]) (t:=28) ?hr ?_;(case hd=>rfl);(case hg=>rfl);(case hr=>first|(go_simp;done)|(go_simp;rfl));intro gbz1 hg w6 hbox hb;have _:=Ak (Kd.R_below (oR HO0.out) hb);have _:=Ak (Kept.below (S:=(fun k_=>P0_ k_)) oP hb);have _:=Ak (below_step oB hb);have _:=Ak (hbox);have _:=Ak ((by rw [hg];exact (by first|exact HK.out.1|exact (show Kept w _ (fun k_=>P0_ k_) from oP).1):w.heap.size≤gbz1));have _:=Ak ((by rw [hg];exact (below_size oB):w0.heap.size≤gbz1));clear HO0 HK HB;rename_i HO0 HK HB BKz1 GWz1 GEz1;clear hb hbox hg;have hcz7_0:w6.cell? ⟨gbz1,0,none⟩=some (.int .i64 a2_0):=(blk_cell BKz1.out 0).trans rfl;have hcz7_1:w6.cell? ⟨gbz1,1,none⟩=some (.int .i64 a2_1):=(blk_cell BKz1.out 1).trans rfl;have hcz7_2:w6.cell? ⟨gbz1,2,none⟩=some (.int .i64 a2_2):=(blk_cell BKz1.out 2).trans rfl;have hcz7_3:w6.cell? ⟨gbz1,3,none⟩=some (.slice A2_3 l2_3.length c2_3):=(blk_cell BKz1.out 3).trans rfl;have hcz7_4:w6.cell? ⟨gbz1,4,none⟩=some (.slice A2_4 l2_4.length c2_4):=(blk_cell BKz1.out 4).trans rfl;have hfz7_0:=blk_frozen BKz1.out 0;have hfz7_1:=blk_frozen BKz1.out 1;have hfz7_2:=blk_frozen BKz1.out 2;have hfz7_3:=blk_frozen BKz1.out 3;have hfz7_4:=blk_frozen BKz1.out 4)|((with_reducible refine gate_builtin (b := .append) (xs := #[.tmp 19, .tmp 20]) rfl ?_);at_builtin;refine Kd.R_append (Kd.int .u8) (w0:=w0) w0.heap.size rfl (.tmp 19) (.tmp 20) 44 5 (.int .u8 0) 1 rfl Try.underlying44 info5 rfl (by decide) (by omega) u9000_ l0 91 [.int .u8 91] (fun k_=>(P0_ k_∨w.heap.size≤k_)) (fun _=>False) rfl rfl ?aP (fun _ hk=>hk.elim) ?aF ?aO ?aB ?aS ?aL ?_;(case aP=>exact rfl);(case aB=>exact (oB1 GEz1.out));(case aF=>exact (fun k_ hk=>(.inr (Nat.le_trans (by first|exact HK.out.1|exact (show Kept w _ (fun k_=>P0_ k_) from oP1 GWz1.out).1) hk))));(case aO=>exact (oR HO0.out));(case aS=>exact (below_size (oB1 GEz1.out)));(case aL=>have:=LMc5.out;omega);intro vz2 w8 ho hb hg hat;rw [← Nyz0.out] at ho;have _:=Ak (blk_grown (g:=gbz1) (o := .cells #[.int .i64 a2_0, .int .i64 a2_1, .int .i64 a2_2, .slice A2_3 l2_3.length c2_3, .slice A2_4 l2_4.length c2_4] 28 (0,0)) (oL BKz1.out) hg (Kd.R_ne HO0.out BKz1.out (by decide)));have _:=Ak (hb);have _:=Ak (Kept.of_grown (S:=(fun k_=>P0_ k_)) hg (oP1 GWz1.out) (fun k_ e_=>(HO0.out.1 k_ e_)));have _:=Ak (ho);clear BKz1 HB HK HO0;rename_i BKz1 HB HK HOz3;clear ho hb hg hat;have hcz9_0:w8.cell? ⟨gbz1,0,none⟩=some (.int .i64 a2_0):=(blk_cell BKz1.out 0).trans rfl;have hcz9_1:w8.cell? ⟨gbz1,1,none⟩=some (.int .i64 a2_1):=(blk_cell BKz1.out 1).trans rfl;have hcz9_2:w8.cell? ⟨gbz1,2,none⟩=some (.int .i64 a2_2):=(blk_cell BKz1.out 2).trans rfl;have hcz9_3:w8.cell? ⟨gbz1,3,none⟩=some (.slice A2_3 l2_3.length c2_3):=(blk_cell BKz1.out 3).trans rfl;have hcz9_4:w8.cell? ⟨gbz1,4,none⟩=some (.slice A2_4 l2_4.length c2_4):=(blk_cell BKz1.out 4).trans rfl;have hfz9_0:=blk_frozen BKz1.out 0;have hfz9_1:=blk_frozen BKz1.out 1;have hfz9_2:=blk_frozen BKz1.out 2;have hfz9_3:=blk_frozen BKz1.out 3;have hfz9_4:=blk_frozen BKz1.out 4))
  (try simp only [Act.put,List.setIfInBounds_toArray,List.set_cons_zero,List.set_cons_succ])
  go_loopg [0,25] k (fun kq v0 v25 w' => ∃ (x0_1:List Int) (x25_1:Int),v25 = .int .i64 x25_1∧Aside0 (spec_lineTo.l0 kq x0_1 a1 (l2_4.length:Int) x25_1 a2_0 a2_1 a2_2 l2_3 l2_4=some r)∧Aside0 (kq≤k)∧Aside0 (Kd.R (Kd.int .u8) 5 w' w0.heap.size (fun k_=>(P0_ k_∨w.heap.size≤k_)) v0 x0_1)∧Aside0 (w'.heap[gbz1]? = some (.cells #[.int .i64 a2_0, .int .i64 a2_1, .int .i64 a2_2,(.slice A2_3 l2_3.length c2_3),(.slice A2_4 l2_4.length c2_4)] 28 (0,0)))∧Aside0 (Kept w w' (fun k_=>P0_ k_))∧Aside0 (Below w0.heap.size w0 w'))
  case atStart=>exact ⟨(yz0),(0),oS,H',⟨Nat.le_refl _⟩,⟨oR HOz3.out⟩,⟨oL BKz1.out⟩,⟨oP1 GWz1.out⟩,⟨oB1 GEz1.out⟩⟩
  case round =>
  clear H'
  clear c4b0 c4b1 hcz7_0 hcz7_1 hcz7_2 hcz7_3 hcz7_4 hcz9_0 hcz9_1 hcz9_2 hcz9_3 hcz9_4 hfz7_0 hfz7_1 hfz7_2 hfz7_3 hfz7_4 hfz9_0 hfz9_1 hfz9_2 hfz9_3 hfz9_4
  obtain ⟨x0_1,x25_1,rfl,HA,HK1,HO_0,BKz1,HK,HB⟩:=hrel
  cases gk with
  | zero=>exact absurd HA.out (by simp [spec_lineTo.l0])
  | succ k1 =>
   have H:=HA.out
   clear HA
   simp only [spec_lineTo.l0] at H
   by_cases c10:x25_1<(l2_4.length:Int)
   rotate_left
   ·
    rw [if_neg c10] at H
    have c10b0:decide (x25_1<(l2_4.length:Int))=false:=decide_eq_false c10
    clear c10
    by_cases c29:x0_1.length<140737488355328
    rotate_left
    ·
     rw [if_neg c29] at H
     exact absurd H (by simp)
    rw [if_pos c29] at H
    have LMc29:=Ak c29
    clear c29
    obtain ⟨yz18,hyz18⟩ : ∃ y_:List Int,y_=(x0_1++[93]):=⟨_,rfl⟩
    replace H:(some yz18)=some r:=by first|(rw [hyz18];with_reducible exact H)|(have H2_:=(Option.bind_some _ _).symm.trans H;rw [hyz18];with_reducible exact H2_)|(have H2_:=(Option.bind_some _ _).symm.trans H;with_reducible exact H2_)|with_reducible exact H|(rw [hyz18];exact H)|exact H
    have Nyz18:=Ak hyz18
    clear hyz18
    obtain rfl:=Option.some.inj H
    go_wp2_with (first|((with_reducible refine gate_builtin (b := .append) (xs := #[.tmp 42, .tmp 43]) rfl ?_);at_builtin;refine Kd.R_append (Kd.int .u8) (w0:=w0) w0.heap.size rfl (.tmp 42) (.tmp 43) 44 5 (.int .u8 0) 1 rfl Try.underlying44 info5 rfl (by decide) (by omega) u0 x0_1 93 [.int .u8 93] (fun k_=>(P0_ k_∨w.heap.size≤k_)) (fun _=>False) rfl rfl ?aP (fun _ hk=>hk.elim) ?aF ?aO ?aB ?aS ?aL ?_;(case aP=>exact rfl);(case aB=>exact (oB1 GEz1.out));(case aF=>exact (fun k_ hk=>(.inr (Nat.le_trans (by first|exact HK.out.1|exact (show Kept w _ (fun k_=>P0_ k_) from oP1 GWz1.out).1) hk))));(case aO=>exact (oR HO_0.out));(case aS=>exact (below_size (oB1 GEz1.out)));(case aL=>have:=LMc29.out;omega);intro vz19 w30 ho hb hg hat;rw [← Nyz18.out] at ho;have _:=Ak (blk_grown (g:=gbz1) (o := .cells #[.int .i64 a2_0, .int .i64 a2_1, .int .i64 a2_2, .slice A2_3 l2_3.length c2_3, .slice A2_4 l2_4.length c2_4] 28 (0,0)) (oL BKz1.out) hg (Kd.R_ne HO_0.out BKz1.out (by decide)));have _:=Ak (hb);have _:=Ak (Kept.of_grown (S:=(fun k_=>P0_ k_)) hg (oP1 GWz1.out) (fun k_ e_=>(HO_0.out.1 k_ e_)));have _:=Ak (ho);clear BKz1 HB HK HO_0;rename_i BKz1 HB HK HOz20;clear ho hb hg hat))
    go_ret
    exact ⟨_,oE,oR HOz20.out,oB1 GEz1.out,oP1 GWz1.out⟩
   rw [if_pos c10] at H
   have c10b0:decide (x25_1<(l2_4.length:Int))=true:=decide_eq_true c10
   clear c10
   by_cases c11:x25_1>0
   ·
    rw [if_pos c11] at H
    have c11b0:decide (0<x25_1)=true:=decide_eq_true c11
    clear c11
    obtain ⟨yz4,hyz4⟩ : ∃ y_:List Int,y_=(([44,32]:List Int)):=⟨_,rfl⟩
    replace H:(if x0_1.length+yz4.length<140737488355328 then (if 0≤x25_1 then (if x25_1<(l2_4.length:Int) then ((spec_lineTo.f k1 (x0_1++yz4) a1 ((rd_T28 l2_4 x25_1).f0) ((rd_T28 l2_4 x25_1).f1) ((rd_T28 l2_4 x25_1).f2) ((rd_T28 l2_4 x25_1).f3) ((rd_T28 l2_4 x25_1).f4)).bind fun tz5=>(spec_lineTo.l0 k1 tz5 a1 (l2_4.length:Int) (wrap64 (x25_1+1)) a2_0 a2_1 a2_2 l2_3 l2_4)) else (none)) else (none)) else (none))=some r:=by first|(rw [hyz4];with_reducible exact H)|(have H2_:=(Option.bind_some _ _).symm.trans H;rw [hyz4];with_reducible exact H2_)|(have H2_:=(Option.bind_some _ _).symm.trans H;with_reducible exact H2_)|with_reducible exact H|(rw [hyz4];exact H)|exact H
    have Nyz4:=Ak hyz4
    clear hyz4
    by_cases c12:x0_1.length+yz4.length<140737488355328
    rotate_left
    ·
     rw [if_neg c12] at H
     exact absurd H (by simp)
    rw [if_pos c12] at H
    have LMc12:=Ak c12
    clear c12
    obtain ⟨yz6,hyz6⟩ : ∃ y_:List Int,y_=(x0_1++yz4):=⟨_,rfl⟩
    replace H:(if 0≤x25_1 then (if x25_1<(l2_4.length:Int) then ((spec_lineTo.f k1 yz6 a1 ((rd_T28 l2_4 x25_1).f0) ((rd_T28 l2_4 x25_1).f1) ((rd_T28 l2_4 x25_1).f2) ((rd_T28 l2_4 x25_1).f3) ((rd_T28 l2_4 x25_1).f4)).bind fun tz5=>(spec_lineTo.l0 k1 tz5 a1 (l2_4.length:Int) (wrap64 (x25_1+1)) a2_0 a2_1 a2_2 l2_3 l2_4)) else (none)) else (none))=some r:=by first|(rw [hyz6];with_reducible exact H)|(have H2_:=(Option.bind_some _ _).symm.trans H;rw [hyz6];with_reducible exact H2_)|(have H2_:=(Option.bind_some _ _).symm.trans H;with_reducible exact H2_)|with_reducible exact H|(rw [hyz6];exact H)|exact H
    have Nyz6:=Ak hyz6
    clear hyz6
    by_cases c13:0≤x25_1
    ·
     rw [if_pos c13] at H
     have c13b0:decide (0≤x25_1)=true:=decide_eq_true c13
     clear c13
     by_cases c14:x25_1<(l2_4.length:Int)
     rotate_left
     ·
      rw [if_neg c14] at H
      exact absurd H (by simp)
     rw [if_pos c14] at H
     have c14b0:decide (x25_1<(l2_4.length:Int))=true:=decide_eq_true c14
     clear c14
     replace H:=Option.bind_eq_some_iff.mp H
     obtain ⟨tz5,A150,H⟩:=H
     replace H:(spec_lineTo.l0 k1 tz5 a1 (l2_4.length:Int) (wrap64 (x25_1+1)) a2_0 a2_1 a2_2 l2_3 l2_4)=some r:=H
     have A15:=Ak A150
     clear A150
     have H':=Ak H
     clear H
     go_wp2_with (first|((with_reducible refine gate_dst (N:=31) rfl ?_);refine Kd.R_lit (Kd.int .u8) _ 5 ?hg (N:=31) ?hd (xs:=([44,32]:List Int)) (inner:=[.int .u8 44, .int .u8 32]) (ok:=fun _=>True) (okp:=fun _=>True) ?hr ?hp (fun _ hk=>hk) trivial (Below.refl _ _) (Nat.le_refl _) (by simp) ?_;(case hd=>rfl);(case hg=>rfl);(case hr=>first|(go_simp;done)|(go_simp;rfl));(case hp=>exact (Reps.one (show Kd.M (Kd.int .u8) _ _ _ 44 [.int .u8 44] from rfl) (Reps.one (show Kd.M (Kd.int .u8) _ _ _ 32 [.int .u8 32] from rfl) (Reps.none _ _))));intro vz7 w16 ho17 hb hg_ hnew_;clear hg_ hnew_;(first|rw [← Nyz4.out] at ho17|(simp only [Int.reduceToNat] at ho17;rw [← Nyz4.out] at ho17));have _:=Ak (Kd.R_elder' (oR HO_0.out) (Kd.R_base ho17) hb);have _:=Ak (Kd.R_lower (Kd.R_new' (Kd.R_newM (M:=fun k_=>(P0_ k_∨w.heap.size≤k_)) ho17 (by first|exact HK.out.1|exact (show Kept w _ (fun k_=>P0_ k_) from oP1 GWz1.out).1) (fun k_ h_ => .inr h_)) (Kd.R_lt (oR HO_0.out))) (below_size (oB1 GEz1.out)));have _:=Ak (blk_below (g:=gbz1) (o := .cells #[.int .i64 a2_0, .int .i64 a2_1, .int .i64 a2_2, .slice A2_3 l2_3.length c2_3, .slice A2_4 l2_4.length c2_4] 28 (0,0)) (oL BKz1.out) hb);have _:=Ak (Kept.below (S:=(fun k_=>P0_ k_)) (oP1 GWz1.out) hb);have _:=Ak (below_step (oB1 GEz1.out) hb);clear HO_0 BKz1 HK HB;rename_i HO_0 HOz8 BKz1 HK HB;clear hb ho17;obtain ⟨Ao19,co19,eo19⟩:=Kd.R_slice HOz8.out;subst eo19)|((with_reducible refine gate_builtin (b := .append) (xs := #[.tmp 30, .tmp 31]) rfl ?_);at_builtin;refine Kd.R_append_rows (Kd.int .u8) (w0:=w0) w0.heap.size rfl (.tmp 30) (.tmp 31) 44 5 (.int .u8 0) 1 rfl Try.underlying44 info5 rfl (by decide) (by omega) u0 x0_1 yz4 _ _ _ (fun k_=>(P0_ k_∨w.heap.size≤k_)∧some k_≠(.slice Ao19 yz4.length co19:Value).ownBlock) (fun _=>False) rfl rfl ?aO ?aR (fun _ _ h=>h) (fun _ h=>h.elim) ?aF ?aB ?aS ?aL ?_;(case aR=>repeat (first|exact (Kd.R_reads' HOz8.out).2.2|(with_reducible refine Kd.C_alloc ?_ _)|(with_reducible refine Kd.C_drewN ?_ _)|(with_reducible refine Kd.C_drew ?_)));(case aB=>exact (oB1 GEz1.out));(case aF=>exact (fun k_ hk=>⟨(.inr (Nat.le_trans (by first|exact HK.out.1|exact (show Kept w _ (fun k_=>P0_ k_) from oP1 GWz1.out).1) hk)),Kd.fresh' (Kd.R_lt (oR HOz8.out)) k_ hk⟩));(case aO=>exact (oR HO_0.out));(case aS=>exact (below_size (oB1 GEz1.out)));(case aL=>have:=LMc12.out;omega);intro vz9 w18 ho hb hg hat;rw [← Nyz6.out] at ho;have _:=Ak (blk_grown (g:=gbz1) (o := .cells #[.int .i64 a2_0, .int .i64 a2_1, .int .i64 a2_2, .slice A2_3 l2_3.length c2_3, .slice A2_4 l2_4.length c2_4] 28 (0,0)) (oL BKz1.out) hg (Kd.R_ne HO_0.out BKz1.out (by decide)));have _:=Ak (Kd.R_after (ok:=(fun k_=>(P0_ k_∨w.heap.size≤k_))) (by (with_reducible repeat (first|apply Kd.R_alloc|apply Kd.R_drewN|apply Kd.R_drew));exact Kd.R_mono HOz8.out (fun _ hk=>⟨hk.1.1,hk.2⟩)) hg hat);have _:=Ak (hb);have _:=Ak (Kept.of_grown (S:=(fun k_=>P0_ k_)) hg (oP1 GWz1.out) (fun k_ e_=>(HO_0.out.1 k_ e_).1));have _:=Ak (ho);clear BKz1 HOz8 HB HK HO_0;rename_i BKz1 HOz8 HB HK HOz10;clear ho hb hg hat;have hcz20_0:w18.cell? ⟨gbz1,0,none⟩=some (.int .i64 a2_0):=(blk_cell BKz1.out 0).trans rfl;have hcz20_1:w18.cell? ⟨gbz1,1,none⟩=some (.int .i64 a2_1):=(blk_cell BKz1.out 1).trans rfl;have hcz20_2:w18.cell? ⟨gbz1,2,none⟩=some (.int .i64 a2_2):=(blk_cell BKz1.out 2).trans rfl;have hcz20_3:w18.cell? ⟨gbz1,3,none⟩=some (.slice A2_3 l2_3.length c2_3):=(blk_cell BKz1.out 3).trans rfl;have hcz20_4:w18.cell? ⟨gbz1,4,none⟩=some (.slice A2_4 l2_4.length c2_4):=(blk_cell BKz1.out 4).trans rfl;have hfz20_0:=blk_frozen BKz1.out 0;have hfz20_1:=blk_frozen BKz1.out 1;have hfz20_2:=blk_frozen BKz1.out 2;have hfz20_3:=blk_frozen BKz1.out 3;have hfz20_4:=blk_frozen BKz1.out 4;have pz11:0≤(x25_1:Int):=of_decide_eq_true oA;have qz11:x25_1<(l2_4.length:Int):=of_decide_eq_true oA;obtain ⟨adz11,Az11_3,cz11_3,Az11_4,cz11_4,ez11,hxz11_0,hxz11_1,hxz11_2,hxz11_3,hxz11_4,hlz11_3,hiz11_3,hlz11_4,hiz11_4⟩:=at_T28 (Kd.C_kept_now HR2_4.out HK.out) x25_1 pz11 qz11;cases ez11;have hfz11_3:=(fun (W2_:World) (hk2_:Kept w W2_ (fun k_=>P0_ k_))=>(show Kd.C k52 W2_ Az11_3 ((rd_T28 l2_4 x25_1).f3).length ((rd_T28 l2_4 x25_1).f3) from by (obtain ⟨ad2_,A2_3,c2_3,A2_4,c2_4,e2_,hz2q_0,hz2q_1,hz2q_2,hz2q_3,hz2q_4,hl2q_3,hi2q_3,hl2q_4,hi2q_4⟩:=at_T28 (HR2_4.out W2_ hk2_) x25_1 pz11 qz11;obtain rfl:=Option.some.inj e2_;have hs_:=Kd.foot_same HR2_4.out (by decide) (by omega) rfl HK.out hk2_ (by first|rfl|simp [add_block]) hxz11_3;have he_:=Option.some.inj (hs_.symm.trans hz2q_3);injection he_ with ha_ hb_ hc_;rw [ha_];exact hi2q_3)));have HRz11_3:=Ak hfz11_3;have HCz11_3:=Ak hlz11_3;clear hiz11_3 hlz11_3 hfz11_3;have hfz11_4:=(fun (W2_:World) (hk2_:Kept w W2_ (fun k_=>P0_ k_))=>(show Kd.C k28 W2_ Az11_4 ((rd_T28 l2_4 x25_1).f4).length ((rd_T28 l2_4 x25_1).f4) from by (obtain ⟨ad2_,A2_3,c2_3,A2_4,c2_4,e2_,hz2q_0,hz2q_1,hz2q_2,hz2q_3,hz2q_4,hl2q_3,hi2q_3,hl2q_4,hi2q_4⟩:=at_T28 (HR2_4.out W2_ hk2_) x25_1 pz11 qz11;obtain rfl:=Option.some.inj e2_;have hs_:=Kd.foot_same HR2_4.out (by decide) (by omega) rfl HK.out hk2_ (by first|rfl|simp [add_block]) hxz11_4;have he_:=Option.some.inj (hs_.symm.trans hz2q_4);injection he_ with ha_ hb_ hc_;rw [ha_];exact hi2q_4)));have HRz11_4:=Ak hfz11_4;have HCz11_4:=Ak hlz11_4;clear hiz11_4 hlz11_4 hfz11_4;replace pz11:=eq_true pz11;replace qz11:=eq_true qz11;obtain ⟨Ao21,co21,eo21⟩:=Kd.R_slice HOz10.out;subst eo21)|((with_reducible refine gate_callee (f:=24) rfl ?_);refine goesL_ (some 40) rfl rfl Try.func24 (by kernel_rfl) rfl #[.slice Ao21 yz6.length co21, .string a1, .agg #[.int .i64 ((rd_T28 l2_4 x25_1).f0), .int .i64 ((rd_T28 l2_4 x25_1).f1), .int .i64 ((rd_T28 l2_4 x25_1).f2), .slice Az11_3 ((rd_T28 l2_4 x25_1).f3).length cz11_3, .slice Az11_4 ((rd_T28 l2_4 x25_1).f4).length cz11_4]] rfl oM ?_;(with_reducible refine (ih k1 (by have:=HK1.out;omega) (fun k_=>some k_=(.slice Ao21 yz6.length co21:Value).ownBlock) (.slice Ao21 yz6.length co21) yz6 a1 ((rd_T28 l2_4 x25_1).f0) ((rd_T28 l2_4 x25_1).f1) ((rd_T28 l2_4 x25_1).f2) _ _ ((rd_T28 l2_4 x25_1).f3) _ _ ((rd_T28 l2_4 x25_1).f4) tz5 w0 _ ?side1 ?side2 ?side3 ?side4 ?side5 ?side6 A15.out).mono ?_);(case side1=>exact oB1 GEz1.out);(case side2=>exact Kd.R_tight rfl HOz10.out);(case side3=>exact Kd.C_kept_call HRz11_3.out (oP1 GWz1.out) (fun k_ hs_=>(fun e_=>(HOz10.out.1 k_ e_.symm).1) hs_));(case side4=>exact HCz11_3.out);(case side5=>exact Kd.C_kept_call HRz11_4.out (oP1 GWz1.out) (fun k_ hs_=>(fun e_=>(HOz10.out.1 k_ e_.symm).1) hs_));(case side6=>exact HCz11_4.out);rintro e w22 ⟨vz12,rfl,ho0,hb,hkp⟩;refine ⟨_,rfl,?_⟩;have _:=Ak (blk_kept (oL BKz1.out) hkp (fun hs_=>(fun e_=>(Kd.R_ne HOz10.out BKz1.out (by decide)) e_) hs_));have _:=Ak (Kd.R_mono (ok':=fun k_=>(P0_ k_∨w.heap.size≤k_)∧some k_≠(vz12:Value).ownBlock) (Kd.R_keptB (HOz8.out) hkp (fun k_ hk_ hs_=>(hk_.2) hs_)) (fun k_ hk_=>⟨hk_.1.1,fun e_=>Or.elim (ho0.1 k_ e_.symm) (fun hs_=>hk_.2.1 hs_) (fun hn_=>Nat.not_le.2 hk_.2.2 hn_)⟩));have _:=Ak (Kd.R_mono (ok':=fun k_=>(P0_ k_∨w.heap.size≤k_)∧some k_≠(.slice Ao19 yz4.length co19:Value).ownBlock) ho0 (fun k_ hk_=>⟨Or.elim hk_ (fun hs_=>(HOz10.out.1 k_ (hs_).symm).1) (fun hn_=>(.inr (Nat.le_trans (by first|exact HK.out.1|exact (show Kept w _ (fun k_=>P0_ k_) from oP1 GWz1.out).1) hn_))),Or.elim hk_ (fun hs_=>fun e_=>(((HOz8.out).1 k_ e_.symm).2) hs_) (fun hn_=>(Kd.fresh' (Kd.R_lt (oR HOz8.out)) k_ hn_))⟩));have _:=Ak (Kept.then_ (S:=(fun k_=>P0_ k_)) (oP1 GWz1.out) hkp (fun k_ hs_=>(fun e_=>(HOz10.out.1 k_ e_.symm).1) hs_));have _:=Ak (hb);clear BKz1 HOz8 HK HB HOz10;rename_i BKz1 HOz8 HOz13 HK HB;(try clear hb);(try clear hkp);(try clear ho0)))
     go_roundg k1
     case measure=>have:=HK1.out;omega
     case rel=>exact ⟨(tz5),(wrap64 (x25_1+1)),oS,H',⟨by have:=HK1.out;omega⟩,⟨by (with_reducible repeat (first|apply Kd.R_alloc|apply Kd.R_drewN|apply Kd.R_drew));exact Kd.R_mono HOz13.out (fun _ hk=>hk.1)⟩,⟨oL BKz1.out⟩,⟨oP1 GWz1.out⟩,⟨oB1 GEz1.out⟩⟩
    rw [if_neg c13] at H
    exact absurd H (by simp)
   rw [if_neg c11] at H
   have c11b0:decide (0<x25_1)=false:=decide_eq_false c11
   clear c11
   by_cases c23:0≤x25_1
   ·
    rw [if_pos c23] at H
    have c23b0:decide (0≤x25_1)=true:=decide_eq_true c23
    clear c23
    by_cases c24:x25_1<(l2_4.length:Int)
    rotate_left
    ·
     rw [if_neg c24] at H
     exact absurd H (by simp)
    rw [if_pos c24] at H
    have c24b0:decide (x25_1<(l2_4.length:Int))=true:=decide_eq_true c24
    clear c24
    replace H:=Option.bind_eq_some_iff.mp H
    obtain ⟨tz14,A250,H⟩:=H
    replace H:(spec_lineTo.l0 k1 tz14 a1 (l2_4.length:Int) (wrap64 (x25_1+1)) a2_0 a2_1 a2_2 l2_3 l2_4)=some r:=H
    have A25:=Ak A250
    clear A250
    have H':=Ak H
    clear H
    have hcz26_0:wr.cell? ⟨gbz1,0,none⟩=some (.int .i64 a2_0):=(blk_cell BKz1.out 0).trans rfl
    have hcz26_1:wr.cell? ⟨gbz1,1,none⟩=some (.int .i64 a2_1):=(blk_cell BKz1.out 1).trans rfl
    have hcz26_2:wr.cell? ⟨gbz1,2,none⟩=some (.int .i64 a2_2):=(blk_cell BKz1.out 2).trans rfl
    have hcz26_3:wr.cell? ⟨gbz1,3,none⟩=some (.slice A2_3 l2_3.length c2_3):=(blk_cell BKz1.out 3).trans rfl
    have hcz26_4:wr.cell? ⟨gbz1,4,none⟩=some (.slice A2_4 l2_4.length c2_4):=(blk_cell BKz1.out 4).trans rfl
    have hfz26_0:=blk_frozen BKz1.out 0
    have hfz26_1:=blk_frozen BKz1.out 1
    have hfz26_2:=blk_frozen BKz1.out 2
    have hfz26_3:=blk_frozen BKz1.out 3
    have hfz26_4:=blk_frozen BKz1.out 4
    have pz15:0≤(x25_1:Int):=of_decide_eq_true oA
    have qz15:x25_1<(l2_4.length:Int):=of_decide_eq_true oA
    obtain ⟨adz15,Az15_3,cz15_3,Az15_4,cz15_4,ez15,hxz15_0,hxz15_1,hxz15_2,hxz15_3,hxz15_4,hlz15_3,hiz15_3,hlz15_4,hiz15_4⟩:=at_T28 (Kd.C_kept_now HR2_4.out HK.out) x25_1 pz15 qz15
    cases ez15
    have hfz15_3:=(fun (W2_:World) (hk2_:Kept w W2_ (fun k_=>P0_ k_))=>(show Kd.C k52 W2_ Az15_3 ((rd_T28 l2_4 x25_1).f3).length ((rd_T28 l2_4 x25_1).f3) from by (obtain ⟨ad2_,A2_3,c2_3,A2_4,c2_4,e2_,hz2q_0,hz2q_1,hz2q_2,hz2q_3,hz2q_4,hl2q_3,hi2q_3,hl2q_4,hi2q_4⟩:=at_T28 (HR2_4.out W2_ hk2_) x25_1 pz15 qz15;obtain rfl:=Option.some.inj e2_;have hs_:=Kd.foot_same HR2_4.out (by decide) (by omega) rfl HK.out hk2_ (by first|rfl|simp [add_block]) hxz15_3;have he_:=Option.some.inj (hs_.symm.trans hz2q_3);injection he_ with ha_ hb_ hc_;rw [ha_];exact hi2q_3)))
    have HRz15_3:=Ak hfz15_3
    have HCz15_3:=Ak hlz15_3
    clear hiz15_3 hlz15_3 hfz15_3
    have hfz15_4:=(fun (W2_:World) (hk2_:Kept w W2_ (fun k_=>P0_ k_))=>(show Kd.C k28 W2_ Az15_4 ((rd_T28 l2_4 x25_1).f4).length ((rd_T28 l2_4 x25_1).f4) from by (obtain ⟨ad2_,A2_3,c2_3,A2_4,c2_4,e2_,hz2q_0,hz2q_1,hz2q_2,hz2q_3,hz2q_4,hl2q_3,hi2q_3,hl2q_4,hi2q_4⟩:=at_T28 (HR2_4.out W2_ hk2_) x25_1 pz15 qz15;obtain rfl:=Option.some.inj e2_;have hs_:=Kd.foot_same HR2_4.out (by decide) (by omega) rfl HK.out hk2_ (by first|rfl|simp [add_block]) hxz15_4;have he_:=Option.some.inj (hs_.symm.trans hz2q_4);injection he_ with ha_ hb_ hc_;rw [ha_];exact hi2q_4)))
    have HRz15_4:=Ak hfz15_4
    have HCz15_4:=Ak hlz15_4
    clear hiz15_4 hlz15_4 hfz15_4
    replace pz15:=eq_true pz15
    replace qz15:=eq_true qz15
    obtain ⟨Ao27,co27,eo27⟩:=Kd.R_slice HO_0.out
    subst eo27
    go_wp2_with (first|((with_reducible refine gate_callee (f:=24) rfl ?_);refine goesL_ (some 40) rfl rfl Try.func24 (by kernel_rfl) rfl #[.slice Ao27 x0_1.length co27, .string a1, .agg #[.int .i64 ((rd_T28 l2_4 x25_1).f0), .int .i64 ((rd_T28 l2_4 x25_1).f1), .int .i64 ((rd_T28 l2_4 x25_1).f2), .slice Az15_3 ((rd_T28 l2_4 x25_1).f3).length cz15_3, .slice Az15_4 ((rd_T28 l2_4 x25_1).f4).length cz15_4]] rfl oM ?_;(with_reducible refine (ih k1 (by have:=HK1.out;omega) (fun k_=>some k_=(.slice Ao27 x0_1.length co27:Value).ownBlock) (.slice Ao27 x0_1.length co27) x0_1 a1 ((rd_T28 l2_4 x25_1).f0) ((rd_T28 l2_4 x25_1).f1) ((rd_T28 l2_4 x25_1).f2) _ _ ((rd_T28 l2_4 x25_1).f3) _ _ ((rd_T28 l2_4 x25_1).f4) tz14 w0 _ ?side1 ?side2 ?side3 ?side4 ?side5 ?side6 A25.out).mono ?_);(case side1=>exact oB1 GEz1.out);(case side2=>exact Kd.R_tight rfl HO_0.out);(case side3=>exact Kd.C_kept_call HRz15_3.out (oP1 GWz1.out) (fun k_ hs_=>(fun e_=>(HO_0.out.1 k_ e_.symm)) hs_));(case side4=>exact HCz15_3.out);(case side5=>exact Kd.C_kept_call HRz15_4.out (oP1 GWz1.out) (fun k_ hs_=>(fun e_=>(HO_0.out.1 k_ e_.symm)) hs_));(case side6=>exact HCz15_4.out);rintro e w28 ⟨vz16,rfl,ho0,hb,hkp⟩;refine ⟨_,rfl,?_⟩;have _:=Ak (blk_kept (oL BKz1.out) hkp (fun hs_=>(fun e_=>(Kd.R_ne HO_0.out BKz1.out (by decide)) e_) hs_));have _:=Ak (Kd.R_mono (ok':=fun k_=>(P0_ k_∨w.heap.size≤k_)) ho0 (fun k_ hk_=>Or.elim hk_ (fun hs_=>(HO_0.out.1 k_ (hs_).symm)) (fun hn_=>(.inr (Nat.le_trans (by first|exact HK.out.1|exact (show Kept w _ (fun k_=>P0_ k_) from oP1 GWz1.out).1) hn_)))));have _:=Ak (Kept.then_ (S:=(fun k_=>P0_ k_)) (oP1 GWz1.out) hkp (fun k_ hs_=>(fun e_=>(HO_0.out.1 k_ e_.symm)) hs_));have _:=Ak (hb);clear BKz1 HK HB HO_0;rename_i BKz1 HOz17 HK HB;(try clear hb);(try clear hkp);(try clear ho0)))
    go_roundg k1
    case measure=>have:=HK1.out;omega
    case rel=>exact ⟨(tz14),(wrap64 (x25_1+1)),oS,H',⟨by have:=HK1.out;omega⟩,⟨oR HOz17.out⟩,⟨oL BKz1.out⟩,⟨oP1 GWz1.out⟩,⟨oB1 GEz1.out⟩⟩
   rw [if_neg c23] at H
   exact absurd H (by simp)
 rw [if_neg c5] at H
 exact absurd H (by simp)
/-! ### spec_Layout_value: function 16 -/
/-! ### spec_Layout_elements: function 25 -/
mutual
def spec_Layout_value.j0:Nat→List Int→ByteArray→ByteArray→Int→Bool→ByteArray→ByteArray→Int→Int→Int→Int→List (S52)→List (S28)→Option (List Int)
  | 0,_,_,_,_,_,_,_,_,_,_,_,_,_=>none
  | k+1,x1,x2,x4,x13,x41,xz0000,xz0001,xz0002,xz1000,xz1001,xz1002,xz1003,xz1004=>if x41=true then ((spec_lineTo.f k ([]:List Int) x2 xz1000 xz1001 xz1002 xz1003 xz1004).bind fun tz2=>(if (tz2.length:Int)≤x13 then (if x1.length+tz2.length<140737488355328 then (some (x1++tz2)) else (none)) else (spec_Layout_value.j1 k x1 x2 x4 xz0000 xz0001 xz0002 xz1000 xz1001 xz1002 xz1003 xz1004))) else (spec_Layout_value.j1 k x1 x2 x4 xz0000 xz0001 xz0002 xz1000 xz1001 xz1002 xz1003 xz1004)
def spec_Layout_value.j1:Nat→List Int→ByteArray→ByteArray→ByteArray→ByteArray→Int→Int→Int→Int→List (S52)→List (S28)→Option (List Int)
  | 0,_,_,_,_,_,_,_,_,_,_,_=>none
  | k+1,x1,x2,x4,xz0000,xz0001,xz0002,xz1000,xz1001,xz1002,xz1003,xz1004=>if xz1000=5 then ((spec_Layout_elements.f k xz0000 xz0001 xz0002 x1 x2 xz1000 xz1001 xz1002 xz1003 xz1004 x4).bind fun tz2=>(some tz2)) else (if x4.size+xz0001.size≤9223372036854775807 then (if x1.length<140737488355328 then (spec_Layout_value.l0 k (x1++[123]) x2 x4 (x4++xz0001) (xz1004.length:Int) 0 xz0000 xz0001 xz0002 xz1000 xz1001 xz1002 xz1003 xz1004) else (none)) else (none))
def spec_Layout_value.l0:Nat→List Int→ByteArray→ByteArray→ByteArray→Int→Int→ByteArray→ByteArray→Int→Int→Int→Int→List (S52)→List (S28)→Option (List Int)
  | 0,_,_,_,_,_,_,_,_,_,_,_,_,_,_=>none
  | k+1,x1,x2,x4,x15,x70,x71,xz0000,xz0001,xz0002,xz1000,xz1001,xz1002,xz1003,xz1004=>if x71<x70 then (if x71>0 then (if x1.length<140737488355328 then ((some (x1++[44]:List Int)).bind fun yz2=>(if 0≤x71 then (if x71<(xz1003.length:Int) then (if 0≤((rd_T52 xz1003 x71).f0) then (if ((rd_T52 xz1003 x71).f0)≤((rd_T52 xz1003 x71).f1) then (if ((rd_T52 xz1003 x71).f1)≤(x2.size:Int) then (if yz2.length<140737488355328 then ((some (yz2++[10]:List Int)).bind fun yz3=>(if yz3.length+x15.size<140737488355328 then ((some (yz3++bytesOf x15:List Int)).bind fun yz4=>(if yz4.length+(x2.extract (((rd_T52 xz1003 x71).f0):Int).toNat (((rd_T52 xz1003 x71).f1):Int).toNat).size<140737488355328 then ((some (yz4++bytesOf (x2.extract (((rd_T52 xz1003 x71).f0):Int).toNat (((rd_T52 xz1003 x71).f1):Int).toNat):List Int)).bind fun yz5=>((some (([58,32]:List Int):List Int)).bind fun yz6=>(if yz5.length+yz6.length<140737488355328 then (if x71<(xz1004.length:Int) then ((spec_Layout_value.f k xz0000 xz0001 xz0002 (yz5++yz6) x2 ((rd_T28 xz1004 x71).f0) ((rd_T28 xz1004 x71).f1) ((rd_T28 xz1004 x71).f2) ((rd_T28 xz1004 x71).f3) ((rd_T28 xz1004 x71).f4) x15 (wrap64 ((wrap64 ((x15.size:Int)+((x2.extract (((rd_T52 xz1003 x71).f0):Int).toNat (((rd_T52 xz1003 x71).f1):Int).toNat).size:Int)))+3))).bind fun tz7=>(spec_Layout_value.l0 k tz7 x2 x4 x15 x70 (wrap64 (x71+1)) xz0000 xz0001 xz0002 xz1000 xz1001 xz1002 xz1003 xz1004)) else (none)) else (none)))) else (none))) else (none))) else (none)) else (none)) else (none)) else (none)) else (none)) else (none))) else (none)) else (if 0≤x71 then (if x71<(xz1003.length:Int) then (if 0≤((rd_T52 xz1003 x71).f0) then (if ((rd_T52 xz1003 x71).f0)≤((rd_T52 xz1003 x71).f1) then (if ((rd_T52 xz1003 x71).f1)≤(x2.size:Int) then (if x1.length<140737488355328 then ((some (x1++[10]:List Int)).bind fun yz8=>(if yz8.length+x15.size<140737488355328 then ((some (yz8++bytesOf x15:List Int)).bind fun yz9=>(if yz9.length+(x2.extract (((rd_T52 xz1003 x71).f0):Int).toNat (((rd_T52 xz1003 x71).f1):Int).toNat).size<140737488355328 then ((some (yz9++bytesOf (x2.extract (((rd_T52 xz1003 x71).f0):Int).toNat (((rd_T52 xz1003 x71).f1):Int).toNat):List Int)).bind fun yz10=>((some (([58,32]:List Int):List Int)).bind fun yz11=>(if yz10.length+yz11.length<140737488355328 then (if x71<(xz1004.length:Int) then ((spec_Layout_value.f k xz0000 xz0001 xz0002 (yz10++yz11) x2 ((rd_T28 xz1004 x71).f0) ((rd_T28 xz1004 x71).f1) ((rd_T28 xz1004 x71).f2) ((rd_T28 xz1004 x71).f3) ((rd_T28 xz1004 x71).f4) x15 (wrap64 ((wrap64 ((x15.size:Int)+((x2.extract (((rd_T52 xz1003 x71).f0):Int).toNat (((rd_T52 xz1003 x71).f1):Int).toNat).size:Int)))+3))).bind fun tz12=>(spec_Layout_value.l0 k tz12 x2 x4 x15 x70 (wrap64 (x71+1)) xz0000 xz0001 xz0002 xz1000 xz1001 xz1002 xz1003 xz1004)) else (none)) else (none)))) else (none))) else (none))) else (none)) else (none)) else (none)) else (none)) else (none)) else (none))) else (if x1.length<140737488355328 then ((some (x1++[10]:List Int)).bind fun yz13=>(if yz13.length+x4.size<140737488355328 then ((some (yz13++bytesOf x4:List Int)).bind fun yz14=>(if yz14.length<140737488355328 then (some (yz14++[125])) else (none))) else (none))) else (none))
def spec_Layout_value.f:Nat→ByteArray→ByteArray→Int→List Int→ByteArray→Int→Int→Int→List (S52)→List (S28)→ByteArray→Int→Option (List Int)
  | 0,_,_,_,_,_,_,_,_,_,_,_,_=>none
  | k+1,a0_0,a0_1,a0_2,l1,a2,a3_0,a3_1,a3_2,l3_3,l3_4,a4,a5=>if (l3_4.length:Int)=0 then ((spec_bareTo.f k l1 a2 a3_0 a3_1 a3_2 l3_3 l3_4).bind fun tz0=>(some tz0)) else (if a0_2>0 then (if (wrap64 (a0_2 - a5))>3 then ((spec_objects.f k a3_0 a3_1 a3_2 l3_3 l3_4).bind fun tz1=>(spec_Layout_value.j0 k l1 a2 a4 (wrap64 (a0_2 - a5)) (!tz1) a0_0 a0_1 a0_2 a3_0 a3_1 a3_2 l3_3 l3_4)) else (spec_Layout_value.j0 k l1 a2 a4 (wrap64 (a0_2 - a5)) false a0_0 a0_1 a0_2 a3_0 a3_1 a3_2 l3_3 l3_4)) else (spec_Layout_value.j0 k l1 a2 a4 (wrap64 (a0_2 - a5)) false a0_0 a0_1 a0_2 a3_0 a3_1 a3_2 l3_3 l3_4))
def spec_Layout_elements.l0:Nat→List Int→ByteArray→ByteArray→ByteArray→Int→Int→Int→ByteArray→ByteArray→Int→Int→Int→Int→List (S52)→List (S28)→Option (List Int)
  | 0,_,_,_,_,_,_,_,_,_,_,_,_,_,_,_=>none
  | k+1,x1,x2,x4,x11,x12,x26,x27,xz0000,xz0001,xz0002,xz1000,xz1001,xz1002,xz1003,xz1004=>if x27<x26 then (if x27>0 then (if x1.length<140737488355328 then ((some (x1++[44]:List Int)).bind fun yz2=>(if yz2.length<140737488355328 then ((some (yz2++[10]:List Int)).bind fun yz3=>(if yz3.length+x11.size<140737488355328 then (if 0≤x27 then (if x27<(xz1004.length:Int) then ((spec_Layout_value.f k xz0000 xz0001 xz0002 (yz3++bytesOf x11) x2 ((rd_T28 xz1004 x27).f0) ((rd_T28 xz1004 x27).f1) ((rd_T28 xz1004 x27).f2) ((rd_T28 xz1004 x27).f3) ((rd_T28 xz1004 x27).f4) x11 (x11.size:Int)).bind fun tz4=>(spec_Layout_elements.l0 k tz4 x2 x4 x11 (x11.size:Int) x26 (wrap64 (x27+1)) xz0000 xz0001 xz0002 xz1000 xz1001 xz1002 xz1003 xz1004)) else (none)) else (none)) else (none))) else (none))) else (none)) else (if x1.length<140737488355328 then ((some (x1++[10]:List Int)).bind fun yz5=>(if yz5.length+x11.size<140737488355328 then (if 0≤x27 then (if x27<(xz1004.length:Int) then ((spec_Layout_value.f k xz0000 xz0001 xz0002 (yz5++bytesOf x11) x2 ((rd_T28 xz1004 x27).f0) ((rd_T28 xz1004 x27).f1) ((rd_T28 xz1004 x27).f2) ((rd_T28 xz1004 x27).f3) ((rd_T28 xz1004 x27).f4) x11 x12).bind fun tz6=>(spec_Layout_elements.l0 k tz6 x2 x4 x11 x12 x26 (wrap64 (x27+1)) xz0000 xz0001 xz0002 xz1000 xz1001 xz1002 xz1003 xz1004)) else (none)) else (none)) else (none))) else (none))) else (if x1.length<140737488355328 then ((some (x1++[10]:List Int)).bind fun yz7=>(if yz7.length+x4.size<140737488355328 then ((some (yz7++bytesOf x4:List Int)).bind fun yz8=>(if yz8.length<140737488355328 then (some (yz8++[93])) else (none))) else (none))) else (none))
def spec_Layout_elements.f:Nat→ByteArray→ByteArray→Int→List Int→ByteArray→Int→Int→Int→List (S52)→List (S28)→ByteArray→Option (List Int)
  | 0,_,_,_,_,_,_,_,_,_,_,_=>none
  | k+1,a0_0,a0_1,a0_2,l1,a2,a3_0,a3_1,a3_2,l3_3,l3_4,a4=>if a4.size+a0_1.size≤9223372036854775807 then (if l1.length<140737488355328 then (spec_Layout_elements.l0 k (l1++[91]) a2 a4 (a4++a0_1) (wrap64 (((a4++a0_1).size:Int)+1)) (l3_4.length:Int) 0 a0_0 a0_1 a0_2 a3_0 a3_1 a3_2 l3_3 l3_4) else (none)) else (none)
end
theorem grp_spec_Layout_value.mono_l : ∀ k,(∀ y0 y1 y2 y3 y4 y5 y6 y7 y8 y9 y10 y11,LeO (spec_Layout_value.f k y0 y1 y2 y3 y4 y5 y6 y7 y8 y9 y10 y11) (spec_Layout_value.f (k+1) y0 y1 y2 y3 y4 y5 y6 y7 y8 y9 y10 y11))∧(∀ y0 y1 y2 y3 y4 y5 y6 y7 y8 y9 y10 y11 y12,LeO (spec_Layout_value.j0 k y0 y1 y2 y3 y4 y5 y6 y7 y8 y9 y10 y11 y12) (spec_Layout_value.j0 (k+1) y0 y1 y2 y3 y4 y5 y6 y7 y8 y9 y10 y11 y12))∧(∀ y0 y1 y2 y3 y4 y5 y6 y7 y8 y9 y10,LeO (spec_Layout_value.j1 k y0 y1 y2 y3 y4 y5 y6 y7 y8 y9 y10) (spec_Layout_value.j1 (k+1) y0 y1 y2 y3 y4 y5 y6 y7 y8 y9 y10))∧(∀ y0 y1 y2 y3 y4 y5 y6 y7 y8 y9 y10 y11 y12 y13,LeO (spec_Layout_value.l0 k y0 y1 y2 y3 y4 y5 y6 y7 y8 y9 y10 y11 y12 y13) (spec_Layout_value.l0 (k+1) y0 y1 y2 y3 y4 y5 y6 y7 y8 y9 y10 y11 y12 y13))∧(∀ y0 y1 y2 y3 y4 y5 y6 y7 y8 y9 y10,LeO (spec_Layout_elements.f k y0 y1 y2 y3 y4 y5 y6 y7 y8 y9 y10) (spec_Layout_elements.f (k+1) y0 y1 y2 y3 y4 y5 y6 y7 y8 y9 y10))∧(∀ y0 y1 y2 y3 y4 y5 y6 y7 y8 y9 y10 y11 y12 y13 y14,LeO (spec_Layout_elements.l0 k y0 y1 y2 y3 y4 y5 y6 y7 y8 y9 y10 y11 y12 y13 y14) (spec_Layout_elements.l0 (k+1) y0 y1 y2 y3 y4 y5 y6 y7 y8 y9 y10 y11 y12 y13 y14))
  | 0=>⟨fun _ _ _ _ _ _ _ _ _ _ _ _ r h=>by simp [spec_Layout_value.f] at h,fun _ _ _ _ _ _ _ _ _ _ _ _ _ r h=>by simp [spec_Layout_value.j0] at h,fun _ _ _ _ _ _ _ _ _ _ _ r h=>by simp [spec_Layout_value.j1] at h,fun _ _ _ _ _ _ _ _ _ _ _ _ _ _ r h=>by simp [spec_Layout_value.l0] at h,fun _ _ _ _ _ _ _ _ _ _ _ r h=>by simp [spec_Layout_elements.f] at h,fun _ _ _ _ _ _ _ _ _ _ _ _ _ _ _ r h=>by simp [spec_Layout_elements.l0] at h⟩
  | k+1=>by
    obtain ⟨ih0,ih1,ih2,ih3,ih4,ih5⟩:=grp_spec_Layout_value.mono_l k
    refine ⟨?_,?_,?_,?_,?_,?_⟩
    · intro y0 y1 y2 y3 y4 y5 y6 y7 y8 y9 y10 y11
      unfold spec_Layout_value.f
      repeat' first|(with_reducible first|apply ih0|apply ih1|apply ih2|apply ih3|apply ih4|apply ih5|apply spec_bareTo.mono|apply spec_lineTo.mono|apply spec_objects.mono|apply LeO.refl|apply LeO.none|refine LeO.ite ?_ ?_|refine LeO.bind ?_ (fun _=>?_))|apply ih0|apply ih1|apply ih2|apply ih3|apply ih4|apply ih5|apply spec_bareTo.mono|apply spec_lineTo.mono|apply spec_objects.mono|apply LeO.none|refine LeO.ite ?_ ?_|refine LeO.bind ?_ (fun _=>?_)
    · intro y0 y1 y2 y3 y4 y5 y6 y7 y8 y9 y10 y11 y12
      unfold spec_Layout_value.j0
      repeat' first|(with_reducible first|apply ih0|apply ih1|apply ih2|apply ih3|apply ih4|apply ih5|apply spec_bareTo.mono|apply spec_lineTo.mono|apply spec_objects.mono|apply LeO.refl|apply LeO.none|refine LeO.ite ?_ ?_|refine LeO.bind ?_ (fun _=>?_))|apply ih0|apply ih1|apply ih2|apply ih3|apply ih4|apply ih5|apply spec_bareTo.mono|apply spec_lineTo.mono|apply spec_objects.mono|apply LeO.none|refine LeO.ite ?_ ?_|refine LeO.bind ?_ (fun _=>?_)
    · intro y0 y1 y2 y3 y4 y5 y6 y7 y8 y9 y10
      unfold spec_Layout_value.j1
      repeat' first|(with_reducible first|apply ih0|apply ih1|apply ih2|apply ih3|apply ih4|apply ih5|apply spec_bareTo.mono|apply spec_lineTo.mono|apply spec_objects.mono|apply LeO.refl|apply LeO.none|refine LeO.ite ?_ ?_|refine LeO.bind ?_ (fun _=>?_))|apply ih0|apply ih1|apply ih2|apply ih3|apply ih4|apply ih5|apply spec_bareTo.mono|apply spec_lineTo.mono|apply spec_objects.mono|apply LeO.none|refine LeO.ite ?_ ?_|refine LeO.bind ?_ (fun _=>?_)
    · intro y0 y1 y2 y3 y4 y5 y6 y7 y8 y9 y10 y11 y12 y13
      unfold spec_Layout_value.l0
      repeat' first|(with_reducible first|apply ih0|apply ih1|apply ih2|apply ih3|apply ih4|apply ih5|apply spec_bareTo.mono|apply spec_lineTo.mono|apply spec_objects.mono|apply LeO.refl|apply LeO.none|refine LeO.ite ?_ ?_|refine LeO.bind ?_ (fun _=>?_))|apply ih0|apply ih1|apply ih2|apply ih3|apply ih4|apply ih5|apply spec_bareTo.mono|apply spec_lineTo.mono|apply spec_objects.mono|apply LeO.none|refine LeO.ite ?_ ?_|refine LeO.bind ?_ (fun _=>?_)
    · intro y0 y1 y2 y3 y4 y5 y6 y7 y8 y9 y10
      unfold spec_Layout_elements.f
      repeat' first|(with_reducible first|apply ih0|apply ih1|apply ih2|apply ih3|apply ih4|apply ih5|apply spec_bareTo.mono|apply spec_lineTo.mono|apply spec_objects.mono|apply LeO.refl|apply LeO.none|refine LeO.ite ?_ ?_|refine LeO.bind ?_ (fun _=>?_))|apply ih0|apply ih1|apply ih2|apply ih3|apply ih4|apply ih5|apply spec_bareTo.mono|apply spec_lineTo.mono|apply spec_objects.mono|apply LeO.none|refine LeO.ite ?_ ?_|refine LeO.bind ?_ (fun _=>?_)
    · intro y0 y1 y2 y3 y4 y5 y6 y7 y8 y9 y10 y11 y12 y13 y14
      unfold spec_Layout_elements.l0
      repeat' first|(with_reducible first|apply ih0|apply ih1|apply ih2|apply ih3|apply ih4|apply ih5|apply spec_bareTo.mono|apply spec_lineTo.mono|apply spec_objects.mono|apply LeO.refl|apply LeO.none|refine LeO.ite ?_ ?_|refine LeO.bind ?_ (fun _=>?_))|apply ih0|apply ih1|apply ih2|apply ih3|apply ih4|apply ih5|apply spec_bareTo.mono|apply spec_lineTo.mono|apply spec_objects.mono|apply LeO.none|refine LeO.ite ?_ ?_|refine LeO.bind ?_ (fun _=>?_)
theorem spec_Layout_value.mono : ∀ a0 a1 a2 a3 a4 a5 a6 a7 a8 a9 a10 a11 k,LeO (spec_Layout_value.f k a0 a1 a2 a3 a4 a5 a6 a7 a8 a9 a10 a11) (spec_Layout_value.f (k+1) a0 a1 a2 a3 a4 a5 a6 a7 a8 a9 a10 a11):=fun a0 a1 a2 a3 a4 a5 a6 a7 a8 a9 a10 a11 k=>(grp_spec_Layout_value.mono_l k).1 a0 a1 a2 a3 a4 a5 a6 a7 a8 a9 a10 a11
theorem spec_Layout_value.mono_j0 : ∀ a0 a1 a2 a3 a4 a5 a6 a7 a8 a9 a10 a11 a12 k,LeO (spec_Layout_value.j0 k a0 a1 a2 a3 a4 a5 a6 a7 a8 a9 a10 a11 a12) (spec_Layout_value.j0 (k+1) a0 a1 a2 a3 a4 a5 a6 a7 a8 a9 a10 a11 a12):=fun a0 a1 a2 a3 a4 a5 a6 a7 a8 a9 a10 a11 a12 k=>(grp_spec_Layout_value.mono_l k).2.1 a0 a1 a2 a3 a4 a5 a6 a7 a8 a9 a10 a11 a12
theorem spec_Layout_value.mono_j1 : ∀ a0 a1 a2 a3 a4 a5 a6 a7 a8 a9 a10 k,LeO (spec_Layout_value.j1 k a0 a1 a2 a3 a4 a5 a6 a7 a8 a9 a10) (spec_Layout_value.j1 (k+1) a0 a1 a2 a3 a4 a5 a6 a7 a8 a9 a10):=fun a0 a1 a2 a3 a4 a5 a6 a7 a8 a9 a10 k=>(grp_spec_Layout_value.mono_l k).2.2.1 a0 a1 a2 a3 a4 a5 a6 a7 a8 a9 a10
theorem spec_Layout_value.mono_l0 : ∀ a0 a1 a2 a3 a4 a5 a6 a7 a8 a9 a10 a11 a12 a13 k,LeO (spec_Layout_value.l0 k a0 a1 a2 a3 a4 a5 a6 a7 a8 a9 a10 a11 a12 a13) (spec_Layout_value.l0 (k+1) a0 a1 a2 a3 a4 a5 a6 a7 a8 a9 a10 a11 a12 a13):=fun a0 a1 a2 a3 a4 a5 a6 a7 a8 a9 a10 a11 a12 a13 k=>(grp_spec_Layout_value.mono_l k).2.2.2.1 a0 a1 a2 a3 a4 a5 a6 a7 a8 a9 a10 a11 a12 a13
theorem spec_Layout_elements.mono : ∀ a0 a1 a2 a3 a4 a5 a6 a7 a8 a9 a10 k,LeO (spec_Layout_elements.f k a0 a1 a2 a3 a4 a5 a6 a7 a8 a9 a10) (spec_Layout_elements.f (k+1) a0 a1 a2 a3 a4 a5 a6 a7 a8 a9 a10):=fun a0 a1 a2 a3 a4 a5 a6 a7 a8 a9 a10 k=>(grp_spec_Layout_value.mono_l k).2.2.2.2.1 a0 a1 a2 a3 a4 a5 a6 a7 a8 a9 a10
theorem spec_Layout_elements.mono_l0 : ∀ a0 a1 a2 a3 a4 a5 a6 a7 a8 a9 a10 a11 a12 a13 a14 k,LeO (spec_Layout_elements.l0 k a0 a1 a2 a3 a4 a5 a6 a7 a8 a9 a10 a11 a12 a13 a14) (spec_Layout_elements.l0 (k+1) a0 a1 a2 a3 a4 a5 a6 a7 a8 a9 a10 a11 a12 a13 a14):=fun a0 a1 a2 a3 a4 a5 a6 a7 a8 a9 a10 a11 a12 a13 a14 k=>(grp_spec_Layout_value.mono_l k).2.2.2.2.2 a0 a1 a2 a3 a4 a5 a6 a7 a8 a9 a10 a11 a12 a13 a14
end Go.Proofs.Ytbkgoccnegjdhaa.Q

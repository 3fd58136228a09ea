/- Functions of the program as Lean functions, each with a proof that the call comes to what it gives. Written by prx.py (wip/pr). -/
import Derived.Test.YtbkgoccnegjdhaaQ0
namespace Go.Proofs.Ytbkgoccnegjdhaa.Q
open Go.RowKit Go.Proofs.YtbkgoccnegjdhaaW.PrintWords Go.Proofs.YtbkgoccnegjdhaaW.PrintLast Go.Proofs.YtbkgoccnegjdhaaW.PrintMore
attribute [local go_sem] max2_int min2_int max_two min_two max_three min_three max_four min_four   -- for this text's walks alone
set_option linter.unusedVariables false
set_option linter.unusedSimpArgs false
/-! ### spec_bareTo: function 22 -/
mutual
def spec_bareTo.j0:Nat→List Int→ByteArray→Bool→Int→Int→Int→List (S52)→List (S28)→Option (List Int)
  | 0,_,_,_,_,_,_,_,_=>none
  | k+1,x0,x1,x17,xz0000,xz0001,xz0002,xz0003,xz0004=>if x17=true then (if 0≤xz0001 then (if xz0001≤xz0002 then (if xz0002≤(x1.size:Int) then (if x0.length+(x1.extract (xz0001:Int).toNat (xz0002:Int).toNat).size<140737488355328 then (some (x0++bytesOf (x1.extract (xz0001:Int).toNat (xz0002:Int).toNat))) else (none)) else (none)) else (none)) else (none)) else (if xz0000=6 then (spec_bareTo.j1 k x0 x1 123 125 xz0000 xz0001 xz0002 xz0003 xz0004) else (spec_bareTo.j1 k x0 x1 91 93 xz0000 xz0001 xz0002 xz0003 xz0004))
def spec_bareTo.j1:Nat→List Int→ByteArray→Int→Int→Int→Int→Int→List (S52)→List (S28)→Option (List Int)
  | 0,_,_,_,_,_,_,_,_,_=>none
  | k+1,x0,x1,x7,x8,xz0000,xz0001,xz0002,xz0003,xz0004=>if x0.length<140737488355328 then (spec_bareTo.l0 k (x0++[x7]) x1 x8 (xz0004.length:Int) 0 xz0000 xz0001 xz0002 xz0003 xz0004) else (none)
def spec_bareTo.l0:Nat→List Int→ByteArray→Int→Int→Int→Int→Int→Int→List (S52)→List (S28)→Option (List Int)
  | 0,_,_,_,_,_,_,_,_,_,_=>none
  | k+1,x0,x1,x8,x35,x36,xz0000,xz0001,xz0002,xz0003,xz0004=>if x36<x35 then (if x36>0 then (if x0.length<140737488355328 then (spec_bareTo.j3 k (x0++[44]) x1 x8 x36 x35 x36 xz0000 xz0001 xz0002 xz0003 xz0004) else (none)) else (spec_bareTo.j3 k x0 x1 x8 x36 x35 x36 xz0000 xz0001 xz0002 xz0003 xz0004)) else (if x0.length<140737488355328 then (some (x0++[x8])) else (none))
def spec_bareTo.j3:Nat→List Int→ByteArray→Int→Int→Int→Int→Int→Int→Int→List (S52)→List (S28)→Option (List Int)
  | 0,_,_,_,_,_,_,_,_,_,_,_=>none
  | k+1,x0,x1,x8,x9,x35,x36,xz0000,xz0001,xz0002,xz0003,xz0004=>if xz0000=6 then (if 0≤x9 then (if x9<(xz0003.length:Int) then (if 0≤((rd_T52 xz0003 x9).f0) then (if ((rd_T52 xz0003 x9).f0)≤((rd_T52 xz0003 x9).f1) then (if ((rd_T52 xz0003 x9).f1)≤(x1.size:Int) then (if x0.length+(x1.extract (((rd_T52 xz0003 x9).f0):Int).toNat (((rd_T52 xz0003 x9).f1):Int).toNat).size<140737488355328 then ((some (x0++bytesOf (x1.extract (((rd_T52 xz0003 x9).f0):Int).toNat (((rd_T52 xz0003 x9).f1):Int).toNat):List Int)).bind fun yz1=>(if yz1.length<140737488355328 then (if x9<(xz0004.length:Int) then ((spec_bareTo.f k (yz1++[58]) x1 ((rd_T28 xz0004 x9).f0) ((rd_T28 xz0004 x9).f1) ((rd_T28 xz0004 x9).f2) ((rd_T28 xz0004 x9).f3) ((rd_T28 xz0004 x9).f4)).bind fun tz2=>(spec_bareTo.l0 k tz2 x1 x8 x35 (wrap64 (x36+1)) xz0000 xz0001 xz0002 xz0003 xz0004)) else (none)) else (none))) else (none)) else (none)) else (none)) else (none)) else (none)) else (none)) else (if 0≤x9 then (if x9<(xz0004.length:Int) then ((spec_bareTo.f k x0 x1 ((rd_T28 xz0004 x9).f0) ((rd_T28 xz0004 x9).f1) ((rd_T28 xz0004 x9).f2) ((rd_T28 xz0004 x9).f3) ((rd_T28 xz0004 x9).f4)).bind fun tz3=>(spec_bareTo.l0 k tz3 x1 x8 x35 (wrap64 (x36+1)) xz0000 xz0001 xz0002 xz0003 xz0004)) else (none)) else (none))
def spec_bareTo.f:Nat→List Int→ByteArray→Int→Int→Int→List (S52)→List (S28)→Option (List Int)
  | 0,_,_,_,_,_,_,_=>none
  | k+1,l0,a1,a2_0,a2_1,a2_2,l2_3,l2_4=>if a2_0=5 then (spec_bareTo.j0 k l0 a1 false a2_0 a2_1 a2_2 l2_3 l2_4) else (spec_bareTo.j0 k l0 a1 (a2_0 != 6) a2_0 a2_1 a2_2 l2_3 l2_4)
end
theorem spec_bareTo.mono_l : ∀ k,(∀ y0 y1 y2 y3 y4 y5 y6,LeO (spec_bareTo.f k y0 y1 y2 y3 y4 y5 y6) (spec_bareTo.f (k+1) y0 y1 y2 y3 y4 y5 y6))∧(∀ y0 y1 y2 y3 y4 y5 y6 y7,LeO (spec_bareTo.j0 k y0 y1 y2 y3 y4 y5 y6 y7) (spec_bareTo.j0 (k+1) y0 y1 y2 y3 y4 y5 y6 y7))∧(∀ y0 y1 y2 y3 y4 y5 y6 y7 y8,LeO (spec_bareTo.j1 k y0 y1 y2 y3 y4 y5 y6 y7 y8) (spec_bareTo.j1 (k+1) y0 y1 y2 y3 y4 y5 y6 y7 y8))∧(∀ y0 y1 y2 y3 y4 y5 y6 y7 y8 y9,LeO (spec_bareTo.l0 k y0 y1 y2 y3 y4 y5 y6 y7 y8 y9) (spec_bareTo.l0 (k+1) y0 y1 y2 y3 y4 y5 y6 y7 y8 y9))∧(∀ y0 y1 y2 y3 y4 y5 y6 y7 y8 y9 y10,LeO (spec_bareTo.j3 k y0 y1 y2 y3 y4 y5 y6 y7 y8 y9 y10) (spec_bareTo.j3 (k+1) y0 y1 y2 y3 y4 y5 y6 y7 y8 y9 y10))
  | 0=>⟨fun _ _ _ _ _ _ _ r h=>by simp [spec_bareTo.f] at h,fun _ _ _ _ _ _ _ _ r h=>by simp [spec_bareTo.j0] at h,fun _ _ _ _ _ _ _ _ _ r h=>by simp [spec_bareTo.j1] at h,fun _ _ _ _ _ _ _ _ _ _ r h=>by simp [spec_bareTo.l0] at h,fun _ _ _ _ _ _ _ _ _ _ _ r h=>by simp [spec_bareTo.j3] at h⟩
  | k+1=>by
    obtain ⟨ih0,ih1,ih2,ih3,ih4⟩:=spec_bareTo.mono_l k
    refine ⟨?_,?_,?_,?_,?_⟩
    · intro y0 y1 y2 y3 y4 y5 y6
      unfold spec_bareTo.f
      repeat' first|(with_reducible first|apply ih0|apply ih1|apply ih2|apply ih3|apply ih4|apply LeO.refl|apply LeO.none|refine LeO.ite ?_ ?_|refine LeO.bind ?_ (fun _=>?_))|apply ih0|apply ih1|apply ih2|apply ih3|apply ih4|apply LeO.none|refine LeO.ite ?_ ?_|refine LeO.bind ?_ (fun _=>?_)
    · intro y0 y1 y2 y3 y4 y5 y6 y7
      unfold spec_bareTo.j0
      repeat' first|(with_reducible first|apply ih0|apply ih1|apply ih2|apply ih3|apply ih4|apply LeO.refl|apply LeO.none|refine LeO.ite ?_ ?_|refine LeO.bind ?_ (fun _=>?_))|apply ih0|apply ih1|apply ih2|apply ih3|apply ih4|apply LeO.none|refine LeO.ite ?_ ?_|refine LeO.bind ?_ (fun _=>?_)
    · intro y0 y1 y2 y3 y4 y5 y6 y7 y8
      unfold spec_bareTo.j1
      repeat' first|(with_reducible first|apply ih0|apply ih1|apply ih2|apply ih3|apply ih4|apply LeO.refl|apply LeO.none|refine LeO.ite ?_ ?_|refine LeO.bind ?_ (fun _=>?_))|apply ih0|apply ih1|apply ih2|apply ih3|apply ih4|apply LeO.none|refine LeO.ite ?_ ?_|refine LeO.bind ?_ (fun _=>?_)
    · intro y0 y1 y2 y3 y4 y5 y6 y7 y8 y9
      unfold spec_bareTo.l0
      repeat' first|(with_reducible first|apply ih0|apply ih1|apply ih2|apply ih3|apply ih4|apply LeO.refl|apply LeO.none|refine LeO.ite ?_ ?_|refine LeO.bind ?_ (fun _=>?_))|apply ih0|apply ih1|apply ih2|apply ih3|apply ih4|apply LeO.none|refine LeO.ite ?_ ?_|refine LeO.bind ?_ (fun _=>?_)
    · intro y0 y1 y2 y3 y4 y5 y6 y7 y8 y9 y10
      unfold spec_bareTo.j3
      repeat' first|(with_reducible first|apply ih0|apply ih1|apply ih2|apply ih3|apply ih4|apply LeO.refl|apply LeO.none|refine LeO.ite ?_ ?_|refine LeO.bind ?_ (fun _=>?_))|apply ih0|apply ih1|apply ih2|apply ih3|apply ih4|apply LeO.none|refine LeO.ite ?_ ?_|refine LeO.bind ?_ (fun _=>?_)
theorem spec_bareTo.mono : ∀ a0 a1 a2 a3 a4 a5 a6 k,LeO (spec_bareTo.f k a0 a1 a2 a3 a4 a5 a6) (spec_bareTo.f (k+1) a0 a1 a2 a3 a4 a5 a6):=by
 intro a0 a1 a2 a3 a4 a5 a6 k
 obtain ⟨ih0,ih1,ih2,ih3,ih4⟩:=spec_bareTo.mono_l k
 exact ih0 a0 a1 a2 a3 a4 a5 a6
def spec_bareTo.T13:Bool × List (List Nat × List Nat):=(true,[([],[]),([],[]),([],[]),([2],[2]),([],[]),([3,4],[3,4]),([5],[5]),([6],[6]),([],[]),([8],[8]),([],[]),([9,10],[9,10]),([11],[11]),([12],[12]),([1,7,13],[1,7,13]),([0,14],[0,14]),([15,15,0,1,2,3,4,5,6,7,8,9,10,11,12,13,14,15],[0,15])])
def spec_bareTo.B13:List Nat:=[0,0,0,4,0,28,60,124,0,256,0,1792,3840,7936,16382,32767,65535]
theorem spec_bareTo.tab13:rtab .any (opsOf Try.f22 13)=spec_bareTo.T13:=by kernel_rfl
theorem spec_bareTo.bits13:waitsOk spec_bareTo.T13.2 spec_bareTo.B13=true:=by kernel_rfl
set_option maxHeartbeats 8000000 in
set_option maxRecDepth 100000 in
theorem spec_bareTo.calls (k:Nat) : ∀ (P0_:Nat→Prop) (u9000_:Value) (l0:List Int) (a1:ByteArray) (a2_0:Int) (a2_1:Int) (a2_2:Int) (A2_3:Option Addr) (c2_3:Nat) (l2_3:List (S52)) (A2_4:Option Addr) (c2_4:Nat) (l2_4:List (S28)) (r:List Int) (w0 w:World) (hB:Below w0.heap.size w0 w) (ho0:Kd.R (Kd.int .u8) 5 w w0.heap.size P0_ u9000_ l0) (hr2_3 : ∀ W_,Kept w W_ (fun k_=>P0_ k_)→Kd.C k52 W_ A2_3 l2_3.length l2_3) (hc2_3:l2_3.length≤c2_3) (hr2_4 : ∀ W_,Kept w W_ (fun k_=>P0_ k_)→Kd.C k28 W_ A2_4 l2_4.length l2_4) (hc2_4:l2_4.length≤c2_4) (h:spec_bareTo.f k l0 a1 a2_0 a2_1 a2_2 l2_3 l2_4=some r),
 Calls Try.prog 22 #[u9000_, .string a1, .agg #[.int .i64 a2_0, .int .i64 a2_1, .int .i64 a2_2, .slice A2_3 l2_3.length c2_3, .slice A2_4 l2_4.length c2_4]] w fun e w' => ∃ v0_:Value,e = .returned (v0_)∧Kd.R (Kd.int .u8) 5 w' w0.heap.size (fun k_=>(P0_ k_∨w.heap.size≤k_)) v0_ r∧Below w0.heap.size w0 w'∧Kept w w' (fun k_=>P0_ k_):=by
 induction k using Nat.strongRecOn with
 | _ k ih =>
 intro P0_ u9000_ l0 a1 a2_0 a2_1 a2_2 A2_3 c2_3 l2_3 A2_4 c2_4 l2_4 r w0 w hB ho0 hr2_3 hc2_3 hr2_4 hc2_4 h
 cases k with
 | zero=>exact absurd h (by simp [spec_bareTo.f])
 | succ k =>
 simp only [spec_bareTo.f] at h
 have hu28:=Try.underlying28
 have HO0:=Ak (show Kd.R (Kd.int .u8) 5 w w0.heap.size (fun k_=>(P0_ k_∨w.heap.size≤k_)) u9000_ l0 from Kd.R_mono ho0 (fun k_ hk=>(.inl hk)))
 have HR2_3:=Ak hr2_3
 have HC2_3:=Ak hc2_3
 clear hr2_3 hc2_3
 have HR2_4:=Ak hr2_4
 have HC2_4:=Ak hc2_4
 clear hr2_4 hc2_4
 have HK:=Ak (Kept.refl w (fun k_=>P0_ k_))
 have HW0:=Ak hB.size
 have HB:=Ak hB
 clear hB
 have H:(if a2_0=5 then (spec_bareTo.j0 k l0 a1 false a2_0 a2_1 a2_2 l2_3 l2_4) else (spec_bareTo.j0 k l0 a1 (a2_0 != 6) a2_0 a2_1 a2_2 l2_3 l2_4))=some r:=h
 clear h
 have HC4:=Ak H
 clear H
 go_enter Try.func22,Try.ntmps22
 go_upto_region 1 with (first|((with_reducible refine gate_dst (N:=5) rfl ?_);refine box_event ?hg (N:=5) ?hd (cs := #[.int .i64 a2_0, .int .i64 a2_1, .int .i64 a2_2, .slice A2_3 l2_3.length c2_3, .slice A2_4 l2_4.length c2_4]) (t:=28) ?hr ?_;(case hd=>rfl);(case hg=>rfl);(case hr=>first|(go_simp;done)|(go_simp;rfl));intro gbz0 hg w5 hbox hb;have _:=Ak (Kd.R_below (oR HO0.out) hb);have _:=Ak (Kept.below (S:=(fun k_=>P0_ k_)) oP hb);have _:=Ak (below_step oB hb);have _:=Ak (hbox);have _:=Ak ((by rw [hg];exact (by first|exact HK.out.1|exact (show Kept w _ (fun k_=>P0_ k_) from oP).1):w.heap.size≤gbz0));have _:=Ak ((by rw [hg];exact (below_size oB):w0.heap.size≤gbz0));clear HO0 HK HB;rename_i HO0 HK HB BKz0 GWz0 GEz0;clear hb hbox hg))
 (try simp only [Act.put,List.setIfInBounds_toArray,List.set_cons_zero,List.set_cons_succ])
 go_cut [17] (fun v17 wc => ∃ (kq:Nat) (x17_3:Bool),v17 = .bool x17_3∧Aside0 (spec_bareTo.j0 kq l0 a1 x17_3 a2_0 a2_1 a2_2 l2_3 l2_4=some r)∧Aside0 (kq≤k)∧Aside0 (Kd.R (Kd.int .u8) 5 wc w0.heap.size (fun k_=>(P0_ k_∨w.heap.size≤k_)) u9000_ l0)∧Aside0 (wc.heap[gbz0]? = some (.cells #[.int .i64 a2_0, .int .i64 a2_1, .int .i64 a2_2,(.slice A2_3 l2_3.length c2_3),(.slice A2_4 l2_4.length c2_4)] 28 (0,0)))∧Aside0 (Kept w wc (fun k_=>P0_ k_))∧Aside0 (Below w0.heap.size w0 wc))
 case first =>
  have H:=HC4.out
  clear HC4
  by_cases c6:a2_0=5
  ·
   rw [if_pos c6] at H
   have c6b0:(a2_0 == 5)=true:=beq_iff_eq.mpr c6
   have c6b1:(a2_0 != 5)=false:=bne_eq_false_iff_eq.mpr c6
   clear c6
   (first|rw [c6b0]|(simp only [i64_w,i32_w];rw [c6b0])|skip)
   have H':=Ak H
   clear H
   have hcz7_0:w5.cell? ⟨gbz0,0,none⟩=some (.int .i64 a2_0):=(blk_cell BKz0.out 0).trans rfl
   have hcz7_1:w5.cell? ⟨gbz0,1,none⟩=some (.int .i64 a2_1):=(blk_cell BKz0.out 1).trans rfl
   have hcz7_2:w5.cell? ⟨gbz0,2,none⟩=some (.int .i64 a2_2):=(blk_cell BKz0.out 2).trans rfl
   have hcz7_3:w5.cell? ⟨gbz0,3,none⟩=some (.slice A2_3 l2_3.length c2_3):=(blk_cell BKz0.out 3).trans rfl
   have hcz7_4:w5.cell? ⟨gbz0,4,none⟩=some (.slice A2_4 l2_4.length c2_4):=(blk_cell BKz0.out 4).trans rfl
   have hfz7_0:=blk_frozen BKz0.out 0
   have hfz7_1:=blk_frozen BKz0.out 1
   have hfz7_2:=blk_frozen BKz0.out 2
   have hfz7_3:=blk_frozen BKz0.out 3
   have hfz7_4:=blk_frozen BKz0.out 4
   go_wp2
   go_meet
   case rel=>exact ⟨_,(false),oS,H',⟨by first|omega|exact Nat.le_refl _⟩,⟨oR HO0.out⟩,⟨oL BKz0.out⟩,⟨oP1 GWz0.out⟩,⟨oB1 GEz0.out⟩⟩
  rw [if_neg c6] at H
  have c6b0:(a2_0 == 5)=false:=beq_eq_false_iff_ne.mpr c6
  have c6b1:(a2_0 != 5)=true:=bne_iff_ne.mpr c6
  (first|rw [c6b0]|(simp only [i64_w,i32_w];rw [c6b0])|skip)
  have H':=Ak H
  clear H
  have hcz8_0:w5.cell? ⟨gbz0,0,none⟩=some (.int .i64 a2_0):=(blk_cell BKz0.out 0).trans rfl
  have hcz8_1:w5.cell? ⟨gbz0,1,none⟩=some (.int .i64 a2_1):=(blk_cell BKz0.out 1).trans rfl
  have hcz8_2:w5.cell? ⟨gbz0,2,none⟩=some (.int .i64 a2_2):=(blk_cell BKz0.out 2).trans rfl
  have hcz8_3:w5.cell? ⟨gbz0,3,none⟩=some (.slice A2_3 l2_3.length c2_3):=(blk_cell BKz0.out 3).trans rfl
  have hcz8_4:w5.cell? ⟨gbz0,4,none⟩=some (.slice A2_4 l2_4.length c2_4):=(blk_cell BKz0.out 4).trans rfl
  have hfz8_0:=blk_frozen BKz0.out 0
  have hfz8_1:=blk_frozen BKz0.out 1
  have hfz8_2:=blk_frozen BKz0.out 2
  have hfz8_3:=blk_frozen BKz0.out 3
  have hfz8_4:=blk_frozen BKz0.out 4
  go_wp2
  go_meet
  case rel=>exact ⟨_,((a2_0 != 6)),oS,H',⟨by first|omega|exact Nat.le_refl _⟩,⟨oR HO0.out⟩,⟨oL BKz0.out⟩,⟨oP1 GWz0.out⟩,⟨oB1 GEz0.out⟩⟩
 case rest =>
 clear HC4
 obtain ⟨kq,x17_3,rfl,HA,HJ3,HO_0,BKz0,HK,HB⟩:=hcut
 cases kq with
 | zero=>exact absurd HA.out (by simp [spec_bareTo.j0])
 | succ kj3 =>
  have H:=HA.out
  clear HA
  simp only [spec_bareTo.j0] at H
  by_cases c9:x17_3=true
  ·
   subst c9
   have H1:(if 0≤a2_1 then (if a2_1≤a2_2 then (if a2_2≤(a1.size:Int) then (if l0.length+(a1.extract (a2_1:Int).toNat (a2_2:Int).toNat).size<140737488355328 then (some (l0++bytesOf (a1.extract (a2_1:Int).toNat (a2_2:Int).toNat))) else (none)) else (none)) else (none)) else (none))=some r:=by rw [if_pos rfl] at H;exact H
   clear H
   have H:=H1
   clear H1
   by_cases c10:0≤a2_1
   rotate_left
   ·
    rw [if_neg c10] at H
    exact absurd H (by simp)
   rw [if_pos c10] at H
   have c10b0:=eq_true c10
   have c10b1:decide (0≤a2_1)=true:=decide_eq_true c10
   clear c10
   by_cases c11:a2_1≤a2_2
   ·
    rw [if_pos c11] at H
    have c11b0:=eq_true c11
    have c11b1:decide (a2_1≤a2_2)=true:=decide_eq_true c11
    clear c11
    by_cases c12:a2_2≤(a1.size:Int)
    rotate_left
    ·
     rw [if_neg c12] at H
     exact absurd H (by simp)
    rw [if_pos c12] at H
    have c12b0:=eq_true c12
    have c12b1:decide (a2_2≤(a1.size:Int))=true:=decide_eq_true c12
    clear c12
    by_cases c13:l0.length+(a1.extract (a2_1:Int).toNat (a2_2:Int).toNat).size<140737488355328
    ·
     rw [if_pos c13] at H
     have LMc13:=Ak c13
     clear c13
     obtain ⟨yz1,hyz1⟩ : ∃ y_:List Int,y_=(l0++bytesOf (a1.extract (a2_1:Int).toNat (a2_2:Int).toNat)):=⟨_,rfl⟩
     replace H:(some yz1)=some r:=by first|(rw [hyz1];with_reducible exact H)|(have H2_:=(Option.bind_some _ _).symm.trans H;rw [hyz1];with_reducible exact H2_)|(have H2_:=(Option.bind_some _ _).symm.trans H;with_reducible exact H2_)|with_reducible exact H|(rw [hyz1];exact H)|exact H
     have Nyz1:=Ak hyz1
     clear hyz1
     obtain rfl:=Option.some.inj H
     have hcz14_0:wc.cell? ⟨gbz0,0,none⟩=some (.int .i64 a2_0):=(blk_cell BKz0.out 0).trans rfl
     have hcz14_1:wc.cell? ⟨gbz0,1,none⟩=some (.int .i64 a2_1):=(blk_cell BKz0.out 1).trans rfl
     have hcz14_2:wc.cell? ⟨gbz0,2,none⟩=some (.int .i64 a2_2):=(blk_cell BKz0.out 2).trans rfl
     have hcz14_3:wc.cell? ⟨gbz0,3,none⟩=some (.slice A2_3 l2_3.length c2_3):=(blk_cell BKz0.out 3).trans rfl
     have hcz14_4:wc.cell? ⟨gbz0,4,none⟩=some (.slice A2_4 l2_4.length c2_4):=(blk_cell BKz0.out 4).trans rfl
     have hfz14_0:=blk_frozen BKz0.out 0
     have hfz14_1:=blk_frozen BKz0.out 1
     have hfz14_2:=blk_frozen BKz0.out 2
     have hfz14_3:=blk_frozen BKz0.out 3
     have hfz14_4:=blk_frozen BKz0.out 4
     go_wp2_with (first|((with_reducible refine gate_builtin (b := .append) (xs := #[.tmp 18,_]) rfl ?_);at_builtin;refine Kd.R_append_str (w0:=w0) w0.heap.size rfl (.tmp 18) _ 44 9 5 rfl Try.underlying44 Try.underlying9 info5 u9000_ l0 (a1.extract (a2_1:Int).toNat (a2_2:Int).toNat) (fun k_=>(P0_ k_∨w.heap.size≤k_)) rfl rfl ?aO ?aF ?aB ?aS ?aL ?_;(case aB=>exact (oB1 GEz0.out));(case aF=>exact (fun k_ hk=>(.inr (Nat.le_trans (by first|exact HK.out.1|exact (show Kept w _ (fun k_=>P0_ k_) from oP1 GWz0.out).1) hk))));(case aO=>exact (oR HO_0.out));(case aS=>exact (below_size (oB1 GEz0.out)));(case aL=>have:=LMc13.out;omega);intro vz2 w15 ho hb hg hat;rw [← Nyz1.out] at ho;have _:=Ak (blk_grown (g:=gbz0) (o := .cells #[.int .i64 a2_0, .int .i64 a2_1, .int .i64 a2_2, .slice A2_3 l2_3.length c2_3, .slice A2_4 l2_4.length c2_4] 28 (0,0)) (oL BKz0.out) hg (Kd.R_ne HO_0.out BKz0.out (by decide)));have _:=Ak (hb);have _:=Ak (Kept.of_grown (S:=(fun k_=>P0_ k_)) hg (oP1 GWz0.out) (fun k_ e_=>(HO_0.out.1 k_ e_)));have _:=Ak (ho);clear BKz0 HB HK HO_0;rename_i BKz0 HB HK HOz3;clear ho hb hg hat))
     go_ret
     exact ⟨_,oE,oR HOz3.out,oB1 GEz0.out,oP1 GWz0.out⟩
    rw [if_neg c13] at H
    exact absurd H (by simp)
   rw [if_neg c11] at H
   exact absurd H (by simp)
  replace c9:=Bool.eq_false_iff.mpr c9
  subst c9
  have H1:(if a2_0=6 then (spec_bareTo.j1 kj3 l0 a1 123 125 a2_0 a2_1 a2_2 l2_3 l2_4) else (spec_bareTo.j1 kj3 l0 a1 91 93 a2_0 a2_1 a2_2 l2_3 l2_4))=some r:=by rw [if_neg (show ¬ (false=true) by decide)] at H;exact H
  clear H
  have H:=H1
  clear H1
  have HC16:=Ak H
  clear H
  have hcz17_0:wc.cell? ⟨gbz0,0,none⟩=some (.int .i64 a2_0):=(blk_cell BKz0.out 0).trans rfl
  have hcz17_1:wc.cell? ⟨gbz0,1,none⟩=some (.int .i64 a2_1):=(blk_cell BKz0.out 1).trans rfl
  have hcz17_2:wc.cell? ⟨gbz0,2,none⟩=some (.int .i64 a2_2):=(blk_cell BKz0.out 2).trans rfl
  have hcz17_3:wc.cell? ⟨gbz0,3,none⟩=some (.slice A2_3 l2_3.length c2_3):=(blk_cell BKz0.out 3).trans rfl
  have hcz17_4:wc.cell? ⟨gbz0,4,none⟩=some (.slice A2_4 l2_4.length c2_4):=(blk_cell BKz0.out 4).trans rfl
  have hfz17_0:=blk_frozen BKz0.out 0
  have hfz17_1:=blk_frozen BKz0.out 1
  have hfz17_2:=blk_frozen BKz0.out 2
  have hfz17_3:=blk_frozen BKz0.out 3
  have hfz17_4:=blk_frozen BKz0.out 4
  go_upto_if 28 with (fail)
  go_cut [7,8] (fun v7 v8 wc => ∃ (kq:Nat) (x7_15:Int) (x8_15:Int),v7 = .int .u8 x7_15∧v8 = .int .u8 x8_15∧Aside0 (spec_bareTo.j1 kq l0 a1 x7_15 x8_15 a2_0 a2_1 a2_2 l2_3 l2_4=some r)∧Aside0 (kq≤kj3)∧Aside0 (Kd.R (Kd.int .u8) 5 wc w0.heap.size (fun k_=>(P0_ k_∨w.heap.size≤k_)) u9000_ l0)∧Aside0 (wc.heap[gbz0]? = some (.cells #[.int .i64 a2_0, .int .i64 a2_1, .int .i64 a2_2,(.slice A2_3 l2_3.length c2_3),(.slice A2_4 l2_4.length c2_4)] 28 (0,0)))∧Aside0 (Kept w wc (fun k_=>P0_ k_))∧Aside0 (Below w0.heap.size w0 wc))
  case first =>
   have H:=HC16.out
   clear HC16
   by_cases c18:a2_0=6
   ·
    rw [if_pos c18] at H
    have c18b0:(a2_0 == 6)=true:=beq_iff_eq.mpr c18
    have c18b1:(a2_0 != 6)=false:=bne_eq_false_iff_eq.mpr c18
    clear c18
    (first|rw [c18b0]|(simp only [i64_w,i32_w];rw [c18b0])|skip)
    have H':=Ak H
    clear H
    go_wp2
    go_meet
    case rel=>exact ⟨_,(123),(125),oS,oS,H',⟨by have:=HJ3.out;first|omega|exact Nat.le_refl _⟩,⟨oR HO_0.out⟩,⟨oL BKz0.out⟩,⟨oP1 GWz0.out⟩,⟨oB1 GEz0.out⟩⟩
   rw [if_neg c18] at H
   have c18b0:(a2_0 == 6)=false:=beq_eq_false_iff_ne.mpr c18
   have c18b1:(a2_0 != 6)=true:=bne_iff_ne.mpr c18
   (first|rw [c18b0]|(simp only [i64_w,i32_w];rw [c18b0])|skip)
   have H':=Ak H
   clear H
   go_wp2
   go_meet
   case rel=>exact ⟨_,(91),(93),oS,oS,H',⟨by have:=HJ3.out;first|omega|exact Nat.le_refl _⟩,⟨oR HO_0.out⟩,⟨oL BKz0.out⟩,⟨oP1 GWz0.out⟩,⟨oB1 GEz0.out⟩⟩
  case rest =>
  clear HC16
  clear hcz17_0 hcz17_1 hcz17_2 hcz17_3 hcz17_4 hfz17_0 hfz17_1 hfz17_2 hfz17_3 hfz17_4
  obtain ⟨kq,x7_15,x8_15,rfl,rfl,HA,HJ15,HO_0,BKz0,HK,HB⟩:=hcut
  cases kq with
  | zero=>exact absurd HA.out (by simp [spec_bareTo.j1])
  | succ kj15 =>
   have H:=HA.out
   clear HA
   simp only [spec_bareTo.j1] at H
   by_cases c19:l0.length<140737488355328
   rotate_left
   ·
    rw [if_neg c19] at H
    exact absurd H (by simp)
   rw [if_pos c19] at H
   have LMc19:=Ak c19
   clear c19
   obtain ⟨yz4,hyz4⟩ : ∃ y_:List Int,y_=(l0++[x7_15]):=⟨_,rfl⟩
   replace H:(spec_bareTo.l0 kj15 yz4 a1 x8_15 (l2_4.length:Int) 0 a2_0 a2_1 a2_2 l2_3 l2_4)=some r:=by first|(rw [hyz4];with_reducible exact H)|(have H2_:=(Option.bind_some _ _).symm.trans H;rw [hyz4];with_reducible exact H2_)|(have H2_:=(Option.bind_some _ _).symm.trans H;with_reducible exact H2_)|with_reducible exact H|(rw [hyz4];exact H)|exact H
   have Nyz4:=Ak hyz4
   clear hyz4
   have H':=Ak H
   clear H
   go_wp2_with (first|((with_reducible refine gate_builtin (b := .append) (xs := #[.tmp 29, .tmp 31]) rfl ?_);at_builtin;refine Kd.R_append (Kd.int .u8) (w0:=w0) w0.heap.size rfl (.tmp 29) (.tmp 31) 44 5 (.int .u8 0) 1 rfl Try.underlying44 info5 rfl (by decide) (by omega) u9000_ l0 x7_15 [.int .u8 x7_15] (fun k_=>(P0_ k_∨w.heap.size≤k_)) (fun _=>False) rfl rfl ?aP (fun _ hk=>hk.elim) ?aF ?aO ?aB ?aS ?aL ?_;(case aP=>exact rfl);(case aB=>exact (oB1 GEz0.out));(case aF=>exact (fun k_ hk=>(.inr (Nat.le_trans (by first|exact HK.out.1|exact (show Kept w _ (fun k_=>P0_ k_) from oP1 GWz0.out).1) hk))));(case aO=>exact (oR HO_0.out));(case aS=>exact (below_size (oB1 GEz0.out)));(case aL=>have:=LMc19.out;omega);intro vz5 w20 ho hb hg hat;rw [← Nyz4.out] at ho;have _:=Ak (blk_grown (g:=gbz0) (o := .cells #[.int .i64 a2_0, .int .i64 a2_1, .int .i64 a2_2, .slice A2_3 l2_3.length c2_3, .slice A2_4 l2_4.length c2_4] 28 (0,0)) (oL BKz0.out) hg (Kd.R_ne HO_0.out BKz0.out (by decide)));have _:=Ak (hb);have _:=Ak (Kept.of_grown (S:=(fun k_=>P0_ k_)) hg (oP1 GWz0.out) (fun k_ e_=>(HO_0.out.1 k_ e_)));have _:=Ak (ho);clear BKz0 HB HK HO_0;rename_i BKz0 HB HK HOz6;clear ho hb hg hat;have hcz21_0:w20.cell? ⟨gbz0,0,none⟩=some (.int .i64 a2_0):=(blk_cell BKz0.out 0).trans rfl;have hcz21_1:w20.cell? ⟨gbz0,1,none⟩=some (.int .i64 a2_1):=(blk_cell BKz0.out 1).trans rfl;have hcz21_2:w20.cell? ⟨gbz0,2,none⟩=some (.int .i64 a2_2):=(blk_cell BKz0.out 2).trans rfl;have hcz21_3:w20.cell? ⟨gbz0,3,none⟩=some (.slice A2_3 l2_3.length c2_3):=(blk_cell BKz0.out 3).trans rfl;have hcz21_4:w20.cell? ⟨gbz0,4,none⟩=some (.slice A2_4 l2_4.length c2_4):=(blk_cell BKz0.out 4).trans rfl;have hfz21_0:=blk_frozen BKz0.out 0;have hfz21_1:=blk_frozen BKz0.out 1;have hfz21_2:=blk_frozen BKz0.out 2;have hfz21_3:=blk_frozen BKz0.out 3;have hfz21_4:=blk_frozen BKz0.out 4))
   (try simp only [Act.put,List.setIfInBounds_toArray,List.set_cons_zero,List.set_cons_succ])
   go_loopg [0,36] kj15 (fun kq v0 v36 w' => ∃ (x0_3:List Int) (x36_3:Int),v36 = .int .i64 x36_3∧Aside0 (spec_bareTo.l0 kq x0_3 a1 x8_15 (l2_4.length:Int) x36_3 a2_0 a2_1 a2_2 l2_3 l2_4=some r)∧Aside0 (kq≤kj15)∧Aside0 (Kd.R (Kd.int .u8) 5 w' w0.heap.size (fun k_=>(P0_ k_∨w.heap.size≤k_)) v0 x0_3)∧Aside0 (w'.heap[gbz0]? = some (.cells #[.int .i64 a2_0, .int .i64 a2_1, .int .i64 a2_2,(.slice A2_3 l2_3.length c2_3),(.slice A2_4 l2_4.length c2_4)] 28 (0,0)))∧Aside0 (Kept w w' (fun k_=>P0_ k_))∧Aside0 (Below w0.heap.size w0 w'))
   case atStart=>exact ⟨(yz4),(0),oS,H',⟨Nat.le_refl _⟩,⟨oR HOz6.out⟩,⟨oL BKz0.out⟩,⟨oP1 GWz0.out⟩,⟨oB1 GEz0.out⟩⟩
   case round =>
   clear H'
   clear hcz21_0 hcz21_1 hcz21_2 hcz21_3 hcz21_4 hfz21_0 hfz21_1 hfz21_2 hfz21_3 hfz21_4
   obtain ⟨x0_3,x36_3,rfl,HA,HK3,HO_0,BKz0,HK,HB⟩:=hrel
   cases gk with
   | zero=>exact absurd HA.out (by simp [spec_bareTo.l0])
   | succ k3 =>
    have H:=HA.out
    clear HA
    simp only [spec_bareTo.l0] at H
    by_cases c22:x36_3<(l2_4.length:Int)
    rotate_left
    ·
     rw [if_neg c22] at H
     have c22b0:decide (x36_3<(l2_4.length:Int))=false:=decide_eq_false c22
     clear c22
     by_cases c50:x0_3.length<140737488355328
     rotate_left
     ·
      rw [if_neg c50] at H
      exact absurd H (by simp)
     rw [if_pos c50] at H
     have LMc50:=Ak c50
     clear c50
     obtain ⟨yz26,hyz26⟩ : ∃ y_:List Int,y_=(x0_3++[x8_15]):=⟨_,rfl⟩
     replace H:(some yz26)=some r:=by first|(rw [hyz26];with_reducible exact H)|(have H2_:=(Option.bind_some _ _).symm.trans H;rw [hyz26];with_reducible exact H2_)|(have H2_:=(Option.bind_some _ _).symm.trans H;with_reducible exact H2_)|with_reducible exact H|(rw [hyz26];exact H)|exact H
     have Nyz26:=Ak hyz26
     clear hyz26
     obtain rfl:=Option.some.inj H
     go_wp2_with (first|((with_reducible refine gate_builtin (b := .append) (xs := #[.tmp 75, .tmp 77]) rfl ?_);at_builtin;refine Kd.R_append (Kd.int .u8) (w0:=w0) w0.heap.size rfl (.tmp 75) (.tmp 77) 44 5 (.int .u8 0) 1 rfl Try.underlying44 info5 rfl (by decide) (by omega) u0 x0_3 x8_15 [.int .u8 x8_15] (fun k_=>(P0_ k_∨w.heap.size≤k_)) (fun _=>False) rfl rfl ?aP (fun _ hk=>hk.elim) ?aF ?aO ?aB ?aS ?aL ?_;(case aP=>exact rfl);(case aB=>exact (oB1 GEz0.out));(case aF=>exact (fun k_ hk=>(.inr (Nat.le_trans (by first|exact HK.out.1|exact (show Kept w _ (fun k_=>P0_ k_) from oP1 GWz0.out).1) hk))));(case aO=>exact (oR HO_0.out));(case aS=>exact (below_size (oB1 GEz0.out)));(case aL=>have:=LMc50.out;omega);intro vz27 w51 ho hb hg hat;rw [← Nyz26.out] at ho;have _:=Ak (blk_grown (g:=gbz0) (o := .cells #[.int .i64 a2_0, .int .i64 a2_1, .int .i64 a2_2, .slice A2_3 l2_3.length c2_3, .slice A2_4 l2_4.length c2_4] 28 (0,0)) (oL BKz0.out) hg (Kd.R_ne HO_0.out BKz0.out (by decide)));have _:=Ak (hb);have _:=Ak (Kept.of_grown (S:=(fun k_=>P0_ k_)) hg (oP1 GWz0.out) (fun k_ e_=>(HO_0.out.1 k_ e_)));have _:=Ak (ho);clear BKz0 HB HK HO_0;rename_i BKz0 HB HK HOz28;clear ho hb hg hat))
     go_ret
     exact ⟨_,oE,oR HOz28.out,oB1 GEz0.out,oP1 GWz0.out⟩
    rw [if_pos c22] at H
    have c22b0:decide (x36_3<(l2_4.length:Int))=true:=decide_eq_true c22
    clear c22
    have HC23:=Ak H
    clear H
    go_upto_if 40 with (fail)
    go_cut [0] (fun v0 wc => ∃ (kq:Nat) (x0_22:List Int),Aside0 (spec_bareTo.j3 kq x0_22 a1 x8_15 x36_3 (l2_4.length:Int) x36_3 a2_0 a2_1 a2_2 l2_3 l2_4=some r)∧Aside0 (kq≤k3)∧Aside0 (Kd.R (Kd.int .u8) 5 wc w0.heap.size (fun k_=>(P0_ k_∨w.heap.size≤k_)) v0 x0_22)∧Aside0 (wc.heap[gbz0]? = some (.cells #[.int .i64 a2_0, .int .i64 a2_1, .int .i64 a2_2,(.slice A2_3 l2_3.length c2_3),(.slice A2_4 l2_4.length c2_4)] 28 (0,0)))∧Aside0 (Kept w wc (fun k_=>P0_ k_))∧Aside0 (Below w0.heap.size w0 wc))
    case first =>
     have H:=HC23.out
     clear HC23
     by_cases c24:x36_3>0
     rotate_left
     ·
      rw [if_neg c24] at H
      have c24b0:decide (0<x36_3)=false:=decide_eq_false c24
      clear c24
      (first|rw [c24b0]|(simp only [i64_w,i32_w];rw [c24b0])|skip)
      have H':=Ak H
      clear H
      go_wp2
      go_meet
      case rel=>exact ⟨_,(x0_3),H',⟨by have:=HJ3.out;have:=HJ15.out;have:=HK3.out;first|omega|exact Nat.le_refl _⟩,⟨oR HO_0.out⟩,⟨oL BKz0.out⟩,⟨oP1 GWz0.out⟩,⟨oB1 GEz0.out⟩⟩
     rw [if_pos c24] at H
     have c24b0:decide (0<x36_3)=true:=decide_eq_true c24
     clear c24
     (first|rw [c24b0]|(simp only [i64_w,i32_w];rw [c24b0])|skip)
     by_cases c25:x0_3.length<140737488355328
     ·
      rw [if_pos c25] at H
      have LMc25:=Ak c25
      clear c25
      obtain ⟨yz7,hyz7⟩ : ∃ y_:List Int,y_=(x0_3++[44]):=⟨_,rfl⟩
      replace H:(spec_bareTo.j3 k3 yz7 a1 x8_15 x36_3 (l2_4.length:Int) x36_3 a2_0 a2_1 a2_2 l2_3 l2_4)=some r:=by first|(rw [hyz7];with_reducible exact H)|(have H2_:=(Option.bind_some _ _).symm.trans H;rw [hyz7];with_reducible exact H2_)|(have H2_:=(Option.bind_some _ _).symm.trans H;with_reducible exact H2_)|with_reducible exact H|(rw [hyz7];exact H)|exact H
      have Nyz7:=Ak hyz7
      clear hyz7
      have H':=Ak H
      clear H
      go_wp2_with (first|((with_reducible refine gate_builtin (b := .append) (xs := #[.tmp 41, .tmp 42]) rfl ?_);at_builtin;refine Kd.R_append (Kd.int .u8) (w0:=w0) w0.heap.size rfl (.tmp 41) (.tmp 42) 44 5 (.int .u8 0) 1 rfl Try.underlying44 info5 rfl (by decide) (by omega) u0 x0_3 44 [.int .u8 44] (fun k_=>(P0_ k_∨w.heap.size≤k_)) (fun _=>False) rfl rfl ?aP (fun _ hk=>hk.elim) ?aF ?aO ?aB ?aS ?aL ?_;(case aP=>exact rfl);(case aB=>exact (oB1 GEz0.out));(case aF=>exact (fun k_ hk=>(.inr (Nat.le_trans (by first|exact HK.out.1|exact (show Kept w _ (fun k_=>P0_ k_) from oP1 GWz0.out).1) hk))));(case aO=>exact (oR HO_0.out));(case aS=>exact (below_size (oB1 GEz0.out)));(case aL=>have:=LMc25.out;omega);intro vz8 w26 ho hb hg hat;rw [← Nyz7.out] at ho;have _:=Ak (blk_grown (g:=gbz0) (o := .cells #[.int .i64 a2_0, .int .i64 a2_1, .int .i64 a2_2, .slice A2_3 l2_3.length c2_3, .slice A2_4 l2_4.length c2_4] 28 (0,0)) (oL BKz0.out) hg (Kd.R_ne HO_0.out BKz0.out (by decide)));have _:=Ak (hb);have _:=Ak (Kept.of_grown (S:=(fun k_=>P0_ k_)) hg (oP1 GWz0.out) (fun k_ e_=>(HO_0.out.1 k_ e_)));have _:=Ak (ho);clear BKz0 HB HK HO_0;rename_i BKz0 HB HK HOz9;clear ho hb hg hat))
      go_meet
      case rel=>exact ⟨_,(yz7),H',⟨by have:=HJ3.out;have:=HJ15.out;have:=HK3.out;first|omega|exact Nat.le_refl _⟩,⟨oR HOz9.out⟩,⟨oL BKz0.out⟩,⟨oP1 GWz0.out⟩,⟨oB1 GEz0.out⟩⟩
     rw [if_neg c25] at H
     exact absurd H (by simp)
    case rest =>
    clear HC23
    clear c22b0
    obtain ⟨kq,x0_22,HA,HJ22,HO_0,BKz0,HK,HB⟩:=hcut
    cases kq with
    | zero=>exact absurd HA.out (by simp [spec_bareTo.j3])
    | succ kj22 =>
     have H:=HA.out
     clear HA
     simp only [spec_bareTo.j3] at H
     by_cases c27:a2_0=6
     rotate_left
     ·
      rw [if_neg c27] at H
      have c27b0:(a2_0 == 6)=false:=beq_eq_false_iff_ne.mpr c27
      have c27b1:(a2_0 != 6)=true:=bne_iff_ne.mpr c27
      by_cases c44:0≤x36_3
      rotate_left
      ·
       rw [if_neg c44] at H
       exact absurd H (by simp)
      rw [if_pos c44] at H
      have c44b0:decide (0≤x36_3)=true:=decide_eq_true c44
      clear c44
      by_cases c45:x36_3<(l2_4.length:Int)
      ·
       rw [if_pos c45] at H
       have c45b0:decide (x36_3<(l2_4.length:Int))=true:=decide_eq_true c45
       clear c45
       replace H:=Option.bind_eq_some_iff.mp H
       obtain ⟨tz22,A460,H⟩:=H
       replace H:(spec_bareTo.l0 kj22 tz22 a1 x8_15 (l2_4.length:Int) (wrap64 (x36_3+1)) a2_0 a2_1 a2_2 l2_3 l2_4)=some r:=H
       have A46:=Ak A460
       clear A460
       have H':=Ak H
       clear H
       have hcz47_0:wc.cell? ⟨gbz0,0,none⟩=some (.int .i64 a2_0):=(blk_cell BKz0.out 0).trans rfl
       have hcz47_1:wc.cell? ⟨gbz0,1,none⟩=some (.int .i64 a2_1):=(blk_cell BKz0.out 1).trans rfl
       have hcz47_2:wc.cell? ⟨gbz0,2,none⟩=some (.int .i64 a2_2):=(blk_cell BKz0.out 2).trans rfl
       have hcz47_3:wc.cell? ⟨gbz0,3,none⟩=some (.slice A2_3 l2_3.length c2_3):=(blk_cell BKz0.out 3).trans rfl
       have hcz47_4:wc.cell? ⟨gbz0,4,none⟩=some (.slice A2_4 l2_4.length c2_4):=(blk_cell BKz0.out 4).trans rfl
       have hfz47_0:=blk_frozen BKz0.out 0
       have hfz47_1:=blk_frozen BKz0.out 1
       have hfz47_2:=blk_frozen BKz0.out 2
       have hfz47_3:=blk_frozen BKz0.out 3
       have hfz47_4:=blk_frozen BKz0.out 4
       have pz23:0≤(x36_3:Int):=of_decide_eq_true oA
       have qz23:x36_3<(l2_4.length:Int):=of_decide_eq_true oA
       obtain ⟨adz23,Az23_3,cz23_3,Az23_4,cz23_4,ez23,hxz23_0,hxz23_1,hxz23_2,hxz23_3,hxz23_4,hlz23_3,hiz23_3,hlz23_4,hiz23_4⟩:=at_T28 (Kd.C_kept_now HR2_4.out HK.out) x36_3 pz23 qz23
       cases ez23
       have hfz23_3:=(fun (W2_:World) (hk2_:Kept w W2_ (fun k_=>P0_ k_))=>(show Kd.C k52 W2_ Az23_3 ((rd_T28 l2_4 x36_3).f3).length ((rd_T28 l2_4 x36_3).f3) from by (obtain ⟨ad2_,A2_3,c2_3,A2_4,c2_4,e2_,hz2q_0,hz2q_1,hz2q_2,hz2q_3,hz2q_4,hl2q_3,hi2q_3,hl2q_4,hi2q_4⟩:=at_T28 (HR2_4.out W2_ hk2_) x36_3 pz23 qz23;obtain rfl:=Option.some.inj e2_;have hs_:=Kd.foot_same HR2_4.out (by decide) (by omega) rfl HK.out hk2_ (by first|rfl|simp [add_block]) hxz23_3;have he_:=Option.some.inj (hs_.symm.trans hz2q_3);injection he_ with ha_ hb_ hc_;rw [ha_];exact hi2q_3)))
       have HRz23_3:=Ak hfz23_3
       have HCz23_3:=Ak hlz23_3
       clear hiz23_3 hlz23_3 hfz23_3
       have hfz23_4:=(fun (W2_:World) (hk2_:Kept w W2_ (fun k_=>P0_ k_))=>(show Kd.C k28 W2_ Az23_4 ((rd_T28 l2_4 x36_3).f4).length ((rd_T28 l2_4 x36_3).f4) from by (obtain ⟨ad2_,A2_3,c2_3,A2_4,c2_4,e2_,hz2q_0,hz2q_1,hz2q_2,hz2q_3,hz2q_4,hl2q_3,hi2q_3,hl2q_4,hi2q_4⟩:=at_T28 (HR2_4.out W2_ hk2_) x36_3 pz23 qz23;obtain rfl:=Option.some.inj e2_;have hs_:=Kd.foot_same HR2_4.out (by decide) (by omega) rfl HK.out hk2_ (by first|rfl|simp [add_block]) hxz23_4;have he_:=Option.some.inj (hs_.symm.trans hz2q_4);injection he_ with ha_ hb_ hc_;rw [ha_];exact hi2q_4)))
       have HRz23_4:=Ak hfz23_4
       have HCz23_4:=Ak hlz23_4
       clear hiz23_4 hlz23_4 hfz23_4
       replace pz23:=eq_true pz23
       replace qz23:=eq_true qz23
       obtain ⟨Ao48,co48,eo48⟩:=Kd.R_slice HO_0.out
       subst eo48
       go_wp2_with (first|((with_reducible refine gate_callee (f:=22) rfl ?_);refine goesL_ (some 73) rfl rfl Try.func22 (by kernel_rfl) rfl #[.slice Ao48 x0_22.length co48, .string a1, .agg #[.int .i64 ((rd_T28 l2_4 x36_3).f0), .int .i64 ((rd_T28 l2_4 x36_3).f1), .int .i64 ((rd_T28 l2_4 x36_3).f2), .slice Az23_3 ((rd_T28 l2_4 x36_3).f3).length cz23_3, .slice Az23_4 ((rd_T28 l2_4 x36_3).f4).length cz23_4]] rfl oM ?_;(with_reducible refine (ih kj22 (by have:=HJ3.out;have:=HJ15.out;have:=HK3.out;have:=HJ22.out;omega) (fun k_=>some k_=(.slice Ao48 x0_22.length co48:Value).ownBlock) (.slice Ao48 x0_22.length co48) x0_22 a1 ((rd_T28 l2_4 x36_3).f0) ((rd_T28 l2_4 x36_3).f1) ((rd_T28 l2_4 x36_3).f2) _ _ ((rd_T28 l2_4 x36_3).f3) _ _ ((rd_T28 l2_4 x36_3).f4) tz22 w0 _ ?side1 ?side2 ?side3 ?side4 ?side5 ?side6 A46.out).mono ?_);(case side1=>exact oB1 GEz0.out);(case side2=>exact Kd.R_tight rfl HO_0.out);(case side3=>exact Kd.C_kept_call HRz23_3.out (oP1 GWz0.out) (fun k_ hs_=>(fun e_=>(HO_0.out.1 k_ e_.symm)) hs_));(case side4=>exact HCz23_3.out);(case side5=>exact Kd.C_kept_call HRz23_4.out (oP1 GWz0.out) (fun k_ hs_=>(fun e_=>(HO_0.out.1 k_ e_.symm)) hs_));(case side6=>exact HCz23_4.out);rintro e w49 ⟨vz24,rfl,ho0,hb,hkp⟩;refine ⟨_,rfl,?_⟩;have _:=Ak (blk_kept (oL BKz0.out) hkp (fun hs_=>(fun e_=>(Kd.R_ne HO_0.out BKz0.out (by decide)) e_) hs_));have _:=Ak (Kd.R_mono (ok':=fun k_=>(P0_ k_∨w.heap.size≤k_)) ho0 (fun k_ hk_=>Or.elim hk_ (fun hs_=>(HO_0.out.1 k_ (hs_).symm)) (fun hn_=>(.inr (Nat.le_trans (by first|exact HK.out.1|exact (show Kept w _ (fun k_=>P0_ k_) from oP1 GWz0.out).1) hn_)))));have _:=Ak (Kept.then_ (S:=(fun k_=>P0_ k_)) (oP1 GWz0.out) hkp (fun k_ hs_=>(fun e_=>(HO_0.out.1 k_ e_.symm)) hs_));have _:=Ak (hb);clear BKz0 HK HB HO_0;rename_i BKz0 HOz25 HK HB;(try clear hb);(try clear hkp);(try clear ho0)))
       go_roundg kj22
       case measure=>have:=HJ3.out;have:=HJ15.out;have:=HK3.out;have:=HJ22.out;omega
       case rel=>exact ⟨(tz22),(wrap64 (x36_3+1)),oS,H',⟨by have:=HJ3.out;have:=HJ15.out;have:=HK3.out;have:=HJ22.out;omega⟩,⟨oR HOz25.out⟩,⟨oL BKz0.out⟩,⟨oP1 GWz0.out⟩,⟨oB1 GEz0.out⟩⟩
      rw [if_neg c45] at H
      exact absurd H (by simp)
     rw [if_pos c27] at H
     have c27b0:(a2_0 == 6)=true:=beq_iff_eq.mpr c27
     have c27b1:(a2_0 != 6)=false:=bne_eq_false_iff_eq.mpr c27
     clear c27
     by_cases c28:0≤x36_3
     ·
      rw [if_pos c28] at H
      have c28b0:decide (0≤x36_3)=true:=decide_eq_true c28
      clear c28
      by_cases c29:x36_3<(l2_3.length:Int)
      rotate_left
      ·
       rw [if_neg c29] at H
       exact absurd H (by simp)
      rw [if_pos c29] at H
      have c29b0:decide (x36_3<(l2_3.length:Int))=true:=decide_eq_true c29
      clear c29
      by_cases c30:0≤((rd_T52 l2_3 x36_3).f0)
      ·
       rw [if_pos c30] at H
       have c30b0:=eq_true c30
       have c30b1:decide (0≤((rd_T52 l2_3 x36_3).f0))=true:=decide_eq_true c30
       clear c30
       by_cases c31:((rd_T52 l2_3 x36_3).f0)≤((rd_T52 l2_3 x36_3).f1)
       rotate_left
       ·
        rw [if_neg c31] at H
        exact absurd H (by simp)
       rw [if_pos c31] at H
       have c31b0:=eq_true c31
       have c31b1:decide (((rd_T52 l2_3 x36_3).f0)≤((rd_T52 l2_3 x36_3).f1))=true:=decide_eq_true c31
       clear c31
       by_cases c32:((rd_T52 l2_3 x36_3).f1)≤(a1.size:Int)
       ·
        rw [if_pos c32] at H
        have c32b0:=eq_true c32
        have c32b1:decide (((rd_T52 l2_3 x36_3).f1)≤(a1.size:Int))=true:=decide_eq_true c32
        clear c32
        by_cases c33:x0_22.length+(a1.extract (((rd_T52 l2_3 x36_3).f0):Int).toNat (((rd_T52 l2_3 x36_3).f1):Int).toNat).size<140737488355328
        rotate_left
        ·
         rw [if_neg c33] at H
         exact absurd H (by simp)
        rw [if_pos c33] at H
        have LMc33:=Ak c33
        clear c33
        obtain ⟨yz10,hyz10⟩ : ∃ y_:List Int,y_=(x0_22++bytesOf (a1.extract (((rd_T52 l2_3 x36_3).f0):Int).toNat (((rd_T52 l2_3 x36_3).f1):Int).toNat)):=⟨_,rfl⟩
        replace H:(if yz10.length<140737488355328 then (if x36_3<(l2_4.length:Int) then ((spec_bareTo.f kj22 (yz10++[58]) a1 ((rd_T28 l2_4 x36_3).f0) ((rd_T28 l2_4 x36_3).f1) ((rd_T28 l2_4 x36_3).f2) ((rd_T28 l2_4 x36_3).f3) ((rd_T28 l2_4 x36_3).f4)).bind fun tz11=>(spec_bareTo.l0 kj22 tz11 a1 x8_15 (l2_4.length:Int) (wrap64 (x36_3+1)) a2_0 a2_1 a2_2 l2_3 l2_4)) else (none)) else (none))=some r:=by first|(rw [hyz10];with_reducible exact H)|(have H2_:=(Option.bind_some _ _).symm.trans H;rw [hyz10];with_reducible exact H2_)|(have H2_:=(Option.bind_some _ _).symm.trans H;with_reducible exact H2_)|with_reducible exact H|(rw [hyz10];exact H)|exact H
        have Nyz10:=Ak hyz10
        clear hyz10
        by_cases c34:yz10.length<140737488355328
        ·
         rw [if_pos c34] at H
         have LMc34:=Ak c34
         clear c34
         obtain ⟨yz12,hyz12⟩ : ∃ y_:List Int,y_=(yz10++[58]):=⟨_,rfl⟩
         replace H:(if x36_3<(l2_4.length:Int) then ((spec_bareTo.f kj22 yz12 a1 ((rd_T28 l2_4 x36_3).f0) ((rd_T28 l2_4 x36_3).f1) ((rd_T28 l2_4 x36_3).f2) ((rd_T28 l2_4 x36_3).f3) ((rd_T28 l2_4 x36_3).f4)).bind fun tz11=>(spec_bareTo.l0 kj22 tz11 a1 x8_15 (l2_4.length:Int) (wrap64 (x36_3+1)) a2_0 a2_1 a2_2 l2_3 l2_4)) else (none))=some r:=by first|(rw [hyz12];with_reducible exact H)|(have H2_:=(Option.bind_some _ _).symm.trans H;rw [hyz12];with_reducible exact H2_)|(have H2_:=(Option.bind_some _ _).symm.trans H;with_reducible exact H2_)|with_reducible exact H|(rw [hyz12];exact H)|exact H
         have Nyz12:=Ak hyz12
         clear hyz12
         by_cases c35:x36_3<(l2_4.length:Int)
         rotate_left
         ·
          rw [if_neg c35] at H
          exact absurd H (by simp)
         rw [if_pos c35] at H
         have c35b0:decide (x36_3<(l2_4.length:Int))=true:=decide_eq_true c35
         clear c35
         replace H:=Option.bind_eq_some_iff.mp H
         obtain ⟨tz11,A360,H⟩:=H
         replace H:(spec_bareTo.l0 kj22 tz11 a1 x8_15 (l2_4.length:Int) (wrap64 (x36_3+1)) a2_0 a2_1 a2_2 l2_3 l2_4)=some r:=H
         have A36:=Ak A360
         clear A360
         have H':=Ak H
         clear H
         have hcz37_0:wc.cell? ⟨gbz0,0,none⟩=some (.int .i64 a2_0):=(blk_cell BKz0.out 0).trans rfl
         have hcz37_1:wc.cell? ⟨gbz0,1,none⟩=some (.int .i64 a2_1):=(blk_cell BKz0.out 1).trans rfl
         have hcz37_2:wc.cell? ⟨gbz0,2,none⟩=some (.int .i64 a2_2):=(blk_cell BKz0.out 2).trans rfl
         have hcz37_3:wc.cell? ⟨gbz0,3,none⟩=some (.slice A2_3 l2_3.length c2_3):=(blk_cell BKz0.out 3).trans rfl
         have hcz37_4:wc.cell? ⟨gbz0,4,none⟩=some (.slice A2_4 l2_4.length c2_4):=(blk_cell BKz0.out 4).trans rfl
         have hfz37_0:=blk_frozen BKz0.out 0
         have hfz37_1:=blk_frozen BKz0.out 1
         have hfz37_2:=blk_frozen BKz0.out 2
         have hfz37_3:=blk_frozen BKz0.out 3
         have hfz37_4:=blk_frozen BKz0.out 4
         try go_wp2
         have n0_:=Ak (Kd.R_drew HO_0.out)
         have n1_:=Ak (blk_drew BKz0.out)
         have n2_:=Ak (Kept.drew HK.out)
         have n3_:=Ak (below_drew1 HB.out)
         clear HO_0
         clear BKz0
         clear HK
         clear HB
         have HO_0:=n0_
         have BKz0:=n1_
         have HK:=n2_
         have HB:=n3_
         clear n0_ n1_ n2_ n3_
         have pz13:0≤(x36_3:Int):=of_decide_eq_true oA
         have qz13:x36_3<(l2_3.length:Int):=of_decide_eq_true oA
         obtain ⟨adz13,ez13,hxz13_0,hxz13_1⟩:=at_T52 (Kd.C_kept_now HR2_3.out HK.out) x36_3 pz13 qz13
         have hwz13_1:=hxz13_1
         have hwz13_0:=hxz13_0
         cases ez13
         replace pz13:=eq_true pz13
         replace qz13:=eq_true qz13
         have pz14:0≤(x36_3:Int):=of_decide_eq_true oA
         have qz14:x36_3<(l2_3.length:Int):=of_decide_eq_true oA
         obtain ⟨adz14,ez14,hxz14_0,hxz14_1⟩:=at_T52 (Kd.C_kept_now HR2_3.out HK.out) x36_3 pz14 qz14
         have hwz14_1:=hxz14_1
         have hwz14_0:=hxz14_0
         obtain rfl:adz13=adz14:=(by injection ez14)
         replace pz14:=eq_true pz14
         replace qz14:=eq_true qz14
         refine start_ (n:=17) (S:=fun w'=>w'.cell? ⟨gbz0,0,none⟩=some (.int .i64 a2_0)∧w'.cell? ⟨gbz0,1,none⟩=some (.int .i64 a2_1)∧w'.cell? ⟨gbz0,2,none⟩=some (.int .i64 a2_2)∧w'.cell? ⟨gbz0,3,none⟩=some (.slice (some adz13) l2_3.length c2_3)∧w'.cell? ⟨gbz0,4,none⟩=some (.slice A2_4 l2_4.length c2_4)∧w'.cell? (adz13.add ((x36_3).toNat*2))=some (.int .i64 ((rd_T52 l2_3 x36_3).f0))∧w'.cell? ⟨(adz13.add ((x36_3).toNat*2)).block,(adz13.add ((x36_3).toNat*2)).off+1,none⟩=some (.int .i64 ((rd_T52 l2_3 x36_3).f1))∧w'.cell? (adz13.add ((x36_3).toNat*2))=some (.int .i64 ((rd_T52 l2_3 x36_3).f0))∧w'.cell? ⟨(adz13.add ((x36_3).toNat*2)).block,(adz13.add ((x36_3).toNat*2)).off+1,none⟩=some (.int .i64 ((rd_T52 l2_3 x36_3).f1))) (ds:=[15]) #[false,false,false,false,false,false,false,false,false,false,false,false,false,false,false,false,false] (by kernel_rfl) rfl rfl ⟨(blk_cell BKz0.out 0).trans rfl,(blk_cell BKz0.out 1).trans rfl,(blk_cell BKz0.out 2).trans rfl,(blk_cell BKz0.out 3).trans rfl,(blk_cell BKz0.out 4).trans rfl,hxz13_0,hxz13_1,hxz14_0,hxz14_1⟩ (fun hHeld=>?_);refine with_tabW spec_bareTo.tab13 spec_bareTo.bits13 (fun HT_ HW_=>?_)
         generalize wc.drew=w38 at HO_0 BKz0 HK HB hxz13_0 hxz13_1 hxz14_0 hxz14_1 hHeld ⊢
         refine zP 0 (some 47) (mA 17 1) ?_
         refine zP 1 (some 48) (mA 17 3) ?_
         refine zP 2 (some 49) (mA 17 7) ?_
         refine zP 4 (some 51) (mA 17 23) ?_
         refine zP 8 (some 55) (mA 17 279) ?_
         refine zP 10 (some 57) (mA 17 1303) ?_
         refine zT 3 (some 50) (mA 17 1311) ?_
         refine zP 5 (some 52) (mA 17 1343) ?_
         refine zP 6 (some 53) (mA 17 1407) ?_
         refine zT 7 (some 54) (mA 17 1535) ?_
         refine zT 9 (some 56) (mA 17 2047) ?_
         refine zP 11 (some 58) (mA 17 4095) ?_
         refine zP 12 (some 59) (mA 17 8191) ?_
         refine zT 13 (some 60) (mA 17 16383) ?_
         refine zP 14 (some 61) (mA 17 32767) ?_
         refine last_ (i:=15) (N:=some 62) #[true,true,true,true,true,true,true,true,true,true,true,true,true,true,true,true,false] rfl rfl (one_of HT_.out (by kernel_rfl)) (by decide) (fun K hK=>?_)
         refine Kd.R_append_str_step (w0:=w0) w0.heap.size (by rfl) (.tmp 47) _ 44 9 5 rfl Try.underlying44 Try.underlying9 info5 u0 x0_22 (a1.extract (((rd_T52 l2_3 x36_3).f0):Int).toNat (((rd_T52 l2_3 x36_3).f1):Int).toNat) (fun k_=>(P0_ k_∨w.heap.size≤k_)) rfl rfl ?aO ?aF ?aB ?aS ?aL ?_
         (case aB=>exact (oB1 GEz0.out))
         (case aF=>exact (fun k_ hk=>(.inr (Nat.le_trans (by first|exact HK.out.1|exact (show Kept w _ (fun k_=>P0_ k_) from oP1 GWz0.out).1) hk))))
         (case aO=>exact (oR HO_0.out))
         (case aS=>exact (below_size (oB1 GEz0.out)))
         (case aL=>have:=LMc33.out;omega)
         intro vz15 w39 ho hb hg hat
         rw [← Nyz10.out] at ho
         have n0_:=Ak (blk_grown (g:=gbz0) (o := .cells #[.int .i64 a2_0, .int .i64 a2_1, .int .i64 a2_2, .slice (some adz13) l2_3.length c2_3, .slice A2_4 l2_4.length c2_4] 28 (0,0)) (oL BKz0.out) hg (Kd.R_ne HO_0.out BKz0.out (by decide)))
         have n1_:=Ak (hb)
         have n2_:=Ak (Kept.of_grown (S:=(fun k_=>P0_ k_)) hg (oP1 GWz0.out) (fun k_ e_=>(HO_0.out.1 k_ e_)))
         have n3_:=Ak (ho)
         clear BKz0
         clear HB
         clear HK
         clear HO_0
         have BKz0:=n0_
         have HB:=n1_
         have HK:=n2_
         have HOz16:=n3_
         clear n0_ n1_ n2_ n3_
         clear ho hb hg hat
         refine hK.out _ _ ?_
         clear hK K
         refine norm_ (a':=?_) ?_ ?_
         rotate_left
         ·
          show Act.put _ (some 62) _=_
          simp only [Act.put,List.setIfInBounds_toArray,List.set_cons_zero,List.set_cons_succ,i64_w,i32_w]
          rfl
         refine zP 16 (some 0) (mA 17 131071) ?_
         refine done_ (done_of HT_.out (by kernel_rfl)) ?_
         try go_wp2_with (first|((with_reducible refine gate_builtin (b := .append) (xs := #[.tmp 63, .tmp 64]) rfl ?_);at_builtin;refine Kd.R_append (Kd.int .u8) (w0:=w0) w0.heap.size rfl (.tmp 63) (.tmp 64) 44 5 (.int .u8 0) 1 rfl Try.underlying44 info5 rfl (by decide) (by omega) vz15 yz10 58 [.int .u8 58] (fun k_=>(P0_ k_∨w.heap.size≤k_)) (fun _=>False) rfl rfl ?aP (fun _ hk=>hk.elim) ?aF ?aO ?aB ?aS ?aL ?_;(case aP=>exact rfl);(case aB=>exact (oB1 GEz0.out));(case aF=>exact (fun k_ hk=>(.inr (Nat.le_trans (by first|exact HK.out.1|exact (show Kept w _ (fun k_=>P0_ k_) from oP1 GWz0.out).1) hk))));(case aO=>exact (oR HOz16.out));(case aS=>exact (below_size (oB1 GEz0.out)));(case aL=>have:=LMc34.out;omega);intro vz17 w40 ho hb hg hat;rw [← Nyz12.out] at ho;have _:=Ak (blk_grown (g:=gbz0) (o := .cells #[.int .i64 a2_0, .int .i64 a2_1, .int .i64 a2_2, .slice (some adz13) l2_3.length c2_3, .slice A2_4 l2_4.length c2_4] 28 (0,0)) (oL BKz0.out) hg (Kd.R_ne HOz16.out BKz0.out (by decide)));have _:=Ak (hb);have _:=Ak (Kept.of_grown (S:=(fun k_=>P0_ k_)) hg (oP1 GWz0.out) (fun k_ e_=>(HOz16.out.1 k_ e_)));have _:=Ak (ho);clear BKz0 HB HK HOz16;rename_i BKz0 HB HK HOz18;clear ho hb hg hat;have hcz41_0:w40.cell? ⟨gbz0,0,none⟩=some (.int .i64 a2_0):=(blk_cell BKz0.out 0).trans rfl;have hcz41_1:w40.cell? ⟨gbz0,1,none⟩=some (.int .i64 a2_1):=(blk_cell BKz0.out 1).trans rfl;have hcz41_2:w40.cell? ⟨gbz0,2,none⟩=some (.int .i64 a2_2):=(blk_cell BKz0.out 2).trans rfl;have hcz41_3:w40.cell? ⟨gbz0,3,none⟩=some (.slice (some adz13) l2_3.length c2_3):=(blk_cell BKz0.out 3).trans rfl;have hcz41_4:w40.cell? ⟨gbz0,4,none⟩=some (.slice A2_4 l2_4.length c2_4):=(blk_cell BKz0.out 4).trans rfl;have hfz41_0:=blk_frozen BKz0.out 0;have hfz41_1:=blk_frozen BKz0.out 1;have hfz41_2:=blk_frozen BKz0.out 2;have hfz41_3:=blk_frozen BKz0.out 3;have hfz41_4:=blk_frozen BKz0.out 4;have pz19:0≤(x36_3:Int):=of_decide_eq_true oA;have qz19:x36_3<(l2_4.length:Int):=of_decide_eq_true oA;obtain ⟨adz19,Az19_3,cz19_3,Az19_4,cz19_4,ez19,hxz19_0,hxz19_1,hxz19_2,hxz19_3,hxz19_4,hlz19_3,hiz19_3,hlz19_4,hiz19_4⟩:=at_T28 (Kd.C_kept_now HR2_4.out HK.out) x36_3 pz19 qz19;cases ez19;have hfz19_3:=(fun (W2_:World) (hk2_:Kept w W2_ (fun k_=>P0_ k_))=>(show Kd.C k52 W2_ Az19_3 ((rd_T28 l2_4 x36_3).f3).length ((rd_T28 l2_4 x36_3).f3) from by (obtain ⟨ad2_,A2_3,c2_3,A2_4,c2_4,e2_,hz2q_0,hz2q_1,hz2q_2,hz2q_3,hz2q_4,hl2q_3,hi2q_3,hl2q_4,hi2q_4⟩:=at_T28 (HR2_4.out W2_ hk2_) x36_3 pz19 qz19;obtain rfl:=Option.some.inj e2_;have hs_:=Kd.foot_same HR2_4.out (by decide) (by omega) rfl HK.out hk2_ (by first|rfl|simp [add_block]) hxz19_3;have he_:=Option.some.inj (hs_.symm.trans hz2q_3);injection he_ with ha_ hb_ hc_;rw [ha_];exact hi2q_3)));have HRz19_3:=Ak hfz19_3;have HCz19_3:=Ak hlz19_3;clear hiz19_3 hlz19_3 hfz19_3;have hfz19_4:=(fun (W2_:World) (hk2_:Kept w W2_ (fun k_=>P0_ k_))=>(show Kd.C k28 W2_ Az19_4 ((rd_T28 l2_4 x36_3).f4).length ((rd_T28 l2_4 x36_3).f4) from by (obtain ⟨ad2_,A2_3,c2_3,A2_4,c2_4,e2_,hz2q_0,hz2q_1,hz2q_2,hz2q_3,hz2q_4,hl2q_3,hi2q_3,hl2q_4,hi2q_4⟩:=at_T28 (HR2_4.out W2_ hk2_) x36_3 pz19 qz19;obtain rfl:=Option.some.inj e2_;have hs_:=Kd.foot_same HR2_4.out (by decide) (by omega) rfl HK.out hk2_ (by first|rfl|simp [add_block]) hxz19_4;have he_:=Option.some.inj (hs_.symm.trans hz2q_4);injection he_ with ha_ hb_ hc_;rw [ha_];exact hi2q_4)));have HRz19_4:=Ak hfz19_4;have HCz19_4:=Ak hlz19_4;clear hiz19_4 hlz19_4 hfz19_4;replace pz19:=eq_true pz19;replace qz19:=eq_true qz19;obtain ⟨Ao42,co42,eo42⟩:=Kd.R_slice HOz18.out;subst eo42)|((with_reducible refine gate_callee (f:=22) rfl ?_);refine goesL_ (some 73) rfl rfl Try.func22 (by kernel_rfl) rfl #[.slice Ao42 yz12.length co42, .string a1, .agg #[.int .i64 ((rd_T28 l2_4 x36_3).f0), .int .i64 ((rd_T28 l2_4 x36_3).f1), .int .i64 ((rd_T28 l2_4 x36_3).f2), .slice Az19_3 ((rd_T28 l2_4 x36_3).f3).length cz19_3, .slice Az19_4 ((rd_T28 l2_4 x36_3).f4).length cz19_4]] rfl oM ?_;(with_reducible refine (ih kj22 (by have:=HJ3.out;have:=HJ15.out;have:=HK3.out;have:=HJ22.out;omega) (fun k_=>some k_=(.slice Ao42 yz12.length co42:Value).ownBlock) (.slice Ao42 yz12.length co42) yz12 a1 ((rd_T28 l2_4 x36_3).f0) ((rd_T28 l2_4 x36_3).f1) ((rd_T28 l2_4 x36_3).f2) _ _ ((rd_T28 l2_4 x36_3).f3) _ _ ((rd_T28 l2_4 x36_3).f4) tz11 w0 _ ?side1 ?side2 ?side3 ?side4 ?side5 ?side6 A36.out).mono ?_);(case side1=>exact oB1 GEz0.out);(case side2=>exact Kd.R_tight rfl HOz18.out);(case side3=>exact Kd.C_kept_call HRz19_3.out (oP1 GWz0.out) (fun k_ hs_=>(fun e_=>(HOz18.out.1 k_ e_.symm)) hs_));(case side4=>exact HCz19_3.out);(case side5=>exact Kd.C_kept_call HRz19_4.out (oP1 GWz0.out) (fun k_ hs_=>(fun e_=>(HOz18.out.1 k_ e_.symm)) hs_));(case side6=>exact HCz19_4.out);rintro e w43 ⟨vz20,rfl,ho0,hb,hkp⟩;refine ⟨_,rfl,?_⟩;have _:=Ak (blk_kept (oL BKz0.out) hkp (fun hs_=>(fun e_=>(Kd.R_ne HOz18.out BKz0.out (by decide)) e_) hs_));have _:=Ak (Kd.R_mono (ok':=fun k_=>(P0_ k_∨w.heap.size≤k_)) ho0 (fun k_ hk_=>Or.elim hk_ (fun hs_=>(HOz18.out.1 k_ (hs_).symm)) (fun hn_=>(.inr (Nat.le_trans (by first|exact HK.out.1|exact (show Kept w _ (fun k_=>P0_ k_) from oP1 GWz0.out).1) hn_)))));have _:=Ak (Kept.then_ (S:=(fun k_=>P0_ k_)) (oP1 GWz0.out) hkp (fun k_ hs_=>(fun e_=>(HOz18.out.1 k_ e_.symm)) hs_));have _:=Ak (hb);clear BKz0 HK HB HOz18;rename_i BKz0 HOz21 HK HB;(try clear hb);(try clear hkp);(try clear ho0)))
         go_roundg kj22
         case measure=>have:=HJ3.out;have:=HJ15.out;have:=HK3.out;have:=HJ22.out;omega
         case rel=>exact ⟨(tz11),(wrap64 (x36_3+1)),oS,H',⟨by have:=HJ3.out;have:=HJ15.out;have:=HK3.out;have:=HJ22.out;omega⟩,⟨oR HOz21.out⟩,⟨oL BKz0.out⟩,⟨oP1 GWz0.out⟩,⟨oB1 GEz0.out⟩⟩
        rw [if_neg c34] at H
        exact absurd H (by simp)
       rw [if_neg c32] at H
       exact absurd H (by simp)
      rw [if_neg c30] at H
      exact absurd H (by simp)
     rw [if_neg c28] at H
     exact absurd H (by simp)
end Go.Proofs.Ytbkgoccnegjdhaa.Q

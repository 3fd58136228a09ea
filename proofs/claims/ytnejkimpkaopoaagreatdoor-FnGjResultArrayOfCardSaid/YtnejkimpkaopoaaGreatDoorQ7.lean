/- Functions of the program as Lean functions, each with a proof that the call comes to what it gives. Written by prx.py (wip/pr). -/
import Derived.Test.YtnejkimpkaopoaaGreatDoorQ0
import Derived.Test.YtnejkimpkaopoaaGreatDoorQ6
namespace Go.Proofs.YtnejkimpkaopoaaGreatDoor.Q
open RowKit YtnejkimpkaopoaaGreatDoorW.PrintWords YtnejkimpkaopoaaGreatDoorW.PrintLast YtnejkimpkaopoaaGreatDoorW.PrintMore
attribute [local go_sem] max2_int min2_int max_two min_two max_three min_three max_four min_four
set_option linter.unusedVariables false
set_option linter.unusedSimpArgs false
noncomputable section
/-! ### sT: function 71 -/
mutual
def sT.j0:Nat→ByteArray→Int→Int→Int→List (S155)→List (S102)→Int→ByteArray→Option (Int × ByteArray × List ByteArray × (List (S25)))
  | 0,_,_,_,_,_,_,_,_=>none
  | k+1,x0,xz0000,xz0001,xz0002,xz0003,xz0004,xz1000,xz1001=>sT.l0 k x0 0 xz0000 xz0001 xz0002 xz0003 xz0004 xz1000 xz1001 ([]:List ByteArray)
def sT.l0:Nat→ByteArray→Int→Int→Int→Int→List (S155)→List (S102)→Int→ByteArray→List ByteArray→Option (Int × ByteArray × List ByteArray × (List (S25)))
  | 0,_,_,_,_,_,_,_,_,_,_=>none
  | k+1,x0,x6,xz0000,xz0001,xz0002,xz0003,xz0004,xz1000,xz1001,xz1002=>if x6<(xz0003.length:Int) then (if 0≤x6 then (if 0≤((rd_T155 xz0003 x6).f0) then (if ((rd_T155 xz0003 x6).f0)≤((rd_T155 xz0003 x6).f1) then (if ((rd_T155 xz0003 x6).f1)≤(x0.size:Int) then ((sU.f k (x0.extract (((rd_T155 xz0003 x6).f0):Int).toNat (((rd_T155 xz0003 x6).f1):Int).toNat)).bind fun tz2=>(if xz1002.length<8796093022208 then (sT.l0 k x0 (wrap64 (x6+1)) xz0000 xz0001 xz0002 xz0003 xz0004 xz1000 xz1001 (xz1002++[tz2])) else (none))) else (none)) else (none)) else (none)) else (none)) else (sT.l1 k x0 0 xz0000 xz0001 xz0002 xz0003 xz0004 xz1000 xz1001 xz1002 ([]:List (S25)))
def sT.l1:Nat→ByteArray→Int→Int→Int→Int→List (S155)→List (S102)→Int→ByteArray→List ByteArray→List (S25)→Option (Int × ByteArray × List ByteArray × (List (S25)))
  | 0,_,_,_,_,_,_,_,_,_,_,_=>none
  | k+1,x0,x7,xz0000,xz0001,xz0002,xz0003,xz0004,xz1000,xz1001,xz1002,xz1003=>if x7<(xz0004.length:Int) then (if 0≤x7 then ((sT.f k x0 ((rd_T102 xz0004 x7).f0) ((rd_T102 xz0004 x7).f1) ((rd_T102 xz0004 x7).f2) ((rd_T102 xz0004 x7).f3) ((rd_T102 xz0004 x7).f4)).bind fun btz2=>(if xz1003.length<1954687338268 then (sT.l1 k x0 (wrap64 (x7+1)) xz0000 xz0001 xz0002 xz0003 xz0004 xz1000 xz1001 xz1002 (xz1003++[(⟨btz2.1,btz2.2.1,btz2.2.2.1,btz2.2.2.2⟩:S25)])) else (none))) else (none)) else (some (xz1000,xz1001,xz1002,xz1003))
def sT.f:Nat→ByteArray→Int→Int→Int→List (S155)→List (S102)→Option (Int × ByteArray × List ByteArray × (List (S25)))
  | 0,_,_,_,_,_,_=>none
  | k+1,a0,a1_0,a1_1,a1_2,l1_3,l1_4=>if a1_0=3 then (if 0≤a1_1 then (if a1_1≤a1_2 then (if a1_2≤(a0.size:Int) then (sT.j0 k a0 a1_0 a1_1 a1_2 l1_3 l1_4 a1_0 (a0.extract (a1_1:Int).toNat (a1_2:Int).toNat)) else (none)) else (none)) else (none)) else (if a1_0=4 then (if 0≤a1_1 then (if a1_1≤a1_2 then (if a1_2≤(a0.size:Int) then ((sU.f k (a0.extract (a1_1:Int).toNat (a1_2:Int).toNat)).bind fun tz0=>(sT.j0 k a0 a1_0 a1_1 a1_2 l1_3 l1_4 a1_0 tz0)) else (none)) else (none)) else (none)) else (sT.j0 k a0 a1_0 a1_1 a1_2 l1_3 l1_4 a1_0 (⟨#[]⟩:ByteArray)))
end
def sT.T10:Bool × List (List Nat × List Nat):=(true,[([],[]),([0],[0]),([],[]),([],[]),([3],[3]),([],[]),([4,5],[4,5]),([6],[6]),([7],[7]),([],[]),([9],[9]),([],[]),([10,11],[10,11]),([12],[12]),([13],[13]),([2,8,14],[2,8,14]),([15],[15]),([16],[16]),([1,17,16],[1,17]),([0,1,2,3,4,5,6,7,8,9,10,11,12,13,14,15,16,17,18],[]),([19,18,18,0,1,2,3,4,5,6,7,8,9,10,11,12,13,14,15,16,17,18],[18,19])])
def sT.B10:List Nat:=[0,1,0,0,8,0,56,120,248,0,512,0,3584,7680,15872,32764,65532,131068,262143,524287,1048575]
theorem sT.tab10:rtab .any (opsOf Tryz.f71 10)=sT.T10:=by kernel_rfl
theorem sT.bits10:waitsOk sT.T10.2 sT.B10=true:=by kernel_rfl
def sT.T14:Bool × List (List Nat × List Nat):=(true,[([],[]),([0],[0]),([],[]),([],[]),([3],[3]),([],[]),([4,5],[4,5]),([6],[6]),([2,7],[2,7]),([8],[8]),([1,9,8],[1,9]),([0,1,2,3,4,5,6,7,8,9,10],[]),([11,10,10,0,1,2,3,4,5,6,7,8,9,10],[10,11])])
def sT.B14:List Nat:=[0,1,0,0,8,0,56,120,252,508,1023,2047,4095]
theorem sT.tab14:rtab .any (opsOf Tryz.f71 14)=sT.T14:=by kernel_rfl
theorem sT.bits14:waitsOk sT.T14.2 sT.B14=true:=by kernel_rfl
set_option maxHeartbeats 8000000 in
set_option maxRecDepth 100000 in
theorem sT.calls (k:Nat) : ∀ (a0:ByteArray) (a1_0:Int) (a1_1:Int) (a1_2:Int) (A1_3:Option Addr) (c1_3:Nat) (l1_3:List (S155)) (A1_4:Option Addr) (c1_4:Nat) (l1_4:List (S102)) (r1:Int) (r2:ByteArray) (r3:List ByteArray) (r4:List (S25)) (w:World) (hr1_3:Kd.C k155 w A1_3 l1_3.length l1_3) (hc1_3:l1_3.length≤c1_3) (hr1_4:Kd.C k102 w A1_4 l1_4.length l1_4) (hc1_4:l1_4.length≤c1_4) (h:sT.f k a0 a1_0 a1_1 a1_2 l1_3 l1_4=some (r1,r2,r3,r4)),
 Calls Tryz.prog 71 #[.string a0, .agg #[.int .i64 a1_0, .int .i64 a1_1, .int .i64 a1_2, .slice A1_3 l1_3.length c1_3, .slice A1_4 l1_4.length c1_4]] w fun e w' => ∃ v2_ v3_:Value,e = .returned (.agg #[.int .i64 r1, .string r2,v2_,v3_])∧Kd.R Kd.string 9 w' w.heap.size (fun _=>True) v2_ r3∧Kd.R k25 25 w' w.heap.size (fun k_=>some k_≠(v2_:Value).ownBlock) v3_ r4∧Below w.heap.size w w':=by
 induction k using Nat.strongRecOn with
 | _ k ih =>
 intro a0 a1_0 a1_1 a1_2 A1_3 c1_3 l1_3 A1_4 c1_4 l1_4 r1 r2 r3 r4 w hr1_3 hc1_3 hr1_4 hc1_4 h
 cases k with
 | zero=>exact absurd h (by simp [sT.f])
 | succ k =>
 simp only [sT.f] at h
 have hu102:=Tryz.underlying102
 have hu25:=Tryz.underlying25
 have HR1_3:=Ak hr1_3
 have HC1_3:=Ak hc1_3
 clear hr1_3 hc1_3
 have HR1_4:=Ak hr1_4
 have HC1_4:=Ak hc1_4
 clear hr1_4 hc1_4
 have HB:=Ak (Below.refl w.heap.size w)
 have H:(if a1_0=3 then (if 0≤a1_1 then (if a1_1≤a1_2 then (if a1_2≤(a0.size:Int) then (sT.j0 k a0 a1_0 a1_1 a1_2 l1_3 l1_4 a1_0 (a0.extract (a1_1:Int).toNat (a1_2:Int).toNat)) else (none)) else (none)) else (none)) else (if a1_0=4 then (if 0≤a1_1 then (if a1_1≤a1_2 then (if a1_2≤(a0.size:Int) then ((sU.f k (a0.extract (a1_1:Int).toNat (a1_2:Int).toNat)).bind fun tz0=>(sT.j0 k a0 a1_0 a1_1 a1_2 l1_3 l1_4 a1_0 tz0)) else (none)) else (none)) else (none)) else (sT.j0 k a0 a1_0 a1_1 a1_2 l1_3 l1_4 a1_0 (⟨#[]⟩:ByteArray))))=some (r1,r2,r3,r4):=h
 clear h
 have HC3:=Ak H
 clear H
 go_enter Tryz.func71,Tryz.ntmps71
 go_upto_block 0 with (first|((with_reducible refine gate_dst (N:=3) rfl ?_);refine box_event ?hg (N:=3) ?hd (cs := #[.int .i64 a1_0, .int .i64 a1_1, .int .i64 a1_2, .slice A1_3 l1_3.length c1_3, .slice A1_4 l1_4.length c1_4]) (t:=102) ?hr ?_;(case hd=>rfl);(case hg=>rfl);(case hr=>first|(go_simp;done)|(go_simp;rfl));intro gbz1 hg w4 hbox hb;have _:=Ak (below_step oB hb);have _:=Ak (hbox);have _:=Ak ((by rw [hg];exact (below_size oB):w.heap.size≤gbz1));have _:=Ak ((by rw [hg];exact (below_size oB):w.heap.size≤gbz1));clear HB;rename_i HB BKz1 GWz1 GEz1;clear hb hbox hg)|((with_reducible refine gate_dst (N:=4) rfl ?_);refine box_event ?hg (N:=4) ?hd (cs := #[.int .i64 0, .string (⟨#[]⟩:ByteArray), .slice none 0 0, .slice none 0 0]) (t:=25) ?hr ?_;(case hd=>rfl);(case hg=>rfl);(case hr=>first|(go_simp;done)|(go_simp;rfl));intro gbz2 hg w5 hbox hb;have _:=Ak (blk_below (g:=gbz1) (o := .cells #[.int .i64 a1_0, .int .i64 a1_1, .int .i64 a1_2, .slice A1_3 l1_3.length c1_3, .slice A1_4 l1_4.length c1_4] 102 (0,0)) (oL BKz1.out) hb);have _:=Ak (below_step (oB1 GEz1.out) hb);have _:=Ak (hbox);have _:=Ak ((by rw [hg];exact (below_size (oB1 GEz1.out)):w.heap.size≤gbz2));have _:=Ak ((by rw [hg];exact (below_size (oB1 GEz1.out)):w.heap.size≤gbz2));have _:=Ak ((by rw [hg];exact Nat.ne_of_lt (blk_lt (g:=gbz1) (o := .cells #[.int .i64 a1_0, .int .i64 a1_1, .int .i64 a1_2, .slice A1_3 l1_3.length c1_3, .slice A1_4 l1_4.length c1_4] 102 (0,0)) (oL BKz1.out)):gbz1≠gbz2));have _:=Ak ((by rw [hg];exact Nat.ne_of_gt (blk_lt (g:=gbz1) (o := .cells #[.int .i64 a1_0, .int .i64 a1_1, .int .i64 a1_2, .slice A1_3 l1_3.length c1_3, .slice A1_4 l1_4.length c1_4] 102 (0,0)) (oL BKz1.out)):gbz2≠gbz1));clear BKz1 HB;rename_i BKz1 HB BKz2 GWz2 GEz2 NBz1_556108 NBz2_556107;clear hb hbox hg;have hnb6:=NBz1_556108.out;have hnc6:=NBz2_556107.out;have hcz7_0:w5.cell? ⟨gbz1,0,none⟩=some (.int .i64 a1_0):=(blk_cell BKz1.out 0).trans rfl;have hcz7_1:w5.cell? ⟨gbz1,1,none⟩=some (.int .i64 a1_1):=(blk_cell BKz1.out 1).trans rfl;have hcz7_2:w5.cell? ⟨gbz1,2,none⟩=some (.int .i64 a1_2):=(blk_cell BKz1.out 2).trans rfl;have hcz7_3:w5.cell? ⟨gbz1,3,none⟩=some (.slice A1_3 l1_3.length c1_3):=(blk_cell BKz1.out 3).trans rfl;have hcz7_4:w5.cell? ⟨gbz1,4,none⟩=some (.slice A1_4 l1_4.length c1_4):=(blk_cell BKz1.out 4).trans rfl;have hfz7_0:=blk_frozen BKz1.out 0;have hfz7_1:=blk_frozen BKz1.out 1;have hfz7_2:=blk_frozen BKz1.out 2;have hfz7_3:=blk_frozen BKz1.out 3;have hfz7_4:=blk_frozen BKz1.out 4)|((with_reducible refine gate_dst (N:=5) rfl ?_);refine box_event ?hg (N:=5) ?hd (cs := #[.int .i64 0, .string (⟨#[]⟩:ByteArray), .slice none 0 0, .slice none 0 0]) (t:=25) ?hr ?_;(case hd=>rfl);(case hg=>rfl);(case hr=>first|(go_simp;done)|(go_simp;rfl));intro gbz3 hg w8 hbox hb;have _:=Ak (blk_below (g:=gbz1) (o := .cells #[.int .i64 a1_0, .int .i64 a1_1, .int .i64 a1_2, .slice A1_3 l1_3.length c1_3, .slice A1_4 l1_4.length c1_4] 102 (0,0)) (oL BKz1.out) hb);have _:=Ak (blk_below (g:=gbz2) (o := .cells #[.int .i64 0, .string (⟨#[]⟩:ByteArray), .slice none 0 0, .slice none 0 0] 25 (0,0)) (oL BKz2.out) hb);have _:=Ak (below_step (oB2 GEz1.out GEz2.out) hb);have _:=Ak (hbox);have _:=Ak ((by rw [hg];exact (below_size (oB2 GEz1.out GEz2.out)):w.heap.size≤gbz3));have _:=Ak ((by rw [hg];exact (below_size (oB2 GEz1.out GEz2.out)):w.heap.size≤gbz3));have _:=Ak ((by rw [hg];exact Nat.ne_of_lt (blk_lt (g:=gbz1) (o := .cells #[.int .i64 a1_0, .int .i64 a1_1, .int .i64 a1_2, .slice A1_3 l1_3.length c1_3, .slice A1_4 l1_4.length c1_4] 102 (0,0)) (oL BKz1.out)):gbz1≠gbz3));have _:=Ak ((by rw [hg];exact Nat.ne_of_gt (blk_lt (g:=gbz1) (o := .cells #[.int .i64 a1_0, .int .i64 a1_1, .int .i64 a1_2, .slice A1_3 l1_3.length c1_3, .slice A1_4 l1_4.length c1_4] 102 (0,0)) (oL BKz1.out)):gbz3≠gbz1));have _:=Ak ((by rw [hg];exact Nat.ne_of_lt (blk_lt (g:=gbz2) (o := .cells #[.int .i64 0, .string (⟨#[]⟩:ByteArray), .slice none 0 0, .slice none 0 0] 25 (0,0)) (oL BKz2.out)):gbz2≠gbz3));have _:=Ak ((by rw [hg];exact Nat.ne_of_gt (blk_lt (g:=gbz2) (o := .cells #[.int .i64 0, .string (⟨#[]⟩:ByteArray), .slice none 0 0, .slice none 0 0] 25 (0,0)) (oL BKz2.out)):gbz3≠gbz2));clear BKz1 BKz2 HB;rename_i BKz1 BKz2 HB BKz3 GWz3 GEz3 NBz1_556109 NBz3_556107 NBz2_556109 NBz3_556108;clear hb hbox hg;have hnb9:=NBz3_556107.out;have hnc9:=NBz1_556109.out;have hnb10:=NBz3_556108.out;have hnc10:=NBz2_556109.out;have hcz11_0:w8.cell? ⟨gbz3,0,none⟩=some (.int .i64 0):=(blk_cell BKz3.out 0).trans rfl;have hcz11_1:w8.cell? ⟨gbz3,1,none⟩=some (.string (⟨#[]⟩:ByteArray)):=(blk_cell BKz3.out 1).trans rfl;have hcz11_2:w8.cell? ⟨gbz3,2,none⟩=some (.slice none 0 0):=(blk_cell BKz3.out 2).trans rfl;have hcz11_3:w8.cell? ⟨gbz3,3,none⟩=some (.slice none 0 0):=(blk_cell BKz3.out 3).trans rfl;have hfz11_0:=blk_frozen BKz3.out 0;have hfz11_1:=blk_frozen BKz3.out 1;have hfz11_2:=blk_frozen BKz3.out 2;have hfz11_3:=blk_frozen BKz3.out 3;have hcz12_0:w8.cell? ⟨gbz1,0,none⟩=some (.int .i64 a1_0):=(blk_cell BKz1.out 0).trans rfl;have hcz12_1:w8.cell? ⟨gbz1,1,none⟩=some (.int .i64 a1_1):=(blk_cell BKz1.out 1).trans rfl;have hcz12_2:w8.cell? ⟨gbz1,2,none⟩=some (.int .i64 a1_2):=(blk_cell BKz1.out 2).trans rfl;have hcz12_3:w8.cell? ⟨gbz1,3,none⟩=some (.slice A1_3 l1_3.length c1_3):=(blk_cell BKz1.out 3).trans rfl;have hcz12_4:w8.cell? ⟨gbz1,4,none⟩=some (.slice A1_4 l1_4.length c1_4):=(blk_cell BKz1.out 4).trans rfl;have hfz12_0:=blk_frozen BKz1.out 0;have hfz12_1:=blk_frozen BKz1.out 1;have hfz12_2:=blk_frozen BKz1.out 2;have hfz12_3:=blk_frozen BKz1.out 3;have hfz12_4:=blk_frozen BKz1.out 4))
 (try simp only [Act.put,List.setIfInBounds_toArray,List.set_cons_zero,List.set_cons_succ])
 go_cut [] (fun wc => ∃ (kq:Nat) (xz0001_2:ByteArray),Aside0 (sT.j0 kq a0 a1_0 a1_1 a1_2 l1_3 l1_4 a1_0 xz0001_2=some (r1,r2,r3,r4))∧Aside0 (kq≤k)∧Aside0 (wc.heap[gbz1]? = some (.cells #[.int .i64 a1_0, .int .i64 a1_1, .int .i64 a1_2,(.slice A1_3 l1_3.length c1_3),(.slice A1_4 l1_4.length c1_4)] 102 (0,0)))∧Aside0 (wc.heap[gbz2]? = some (.cells #[.int .i64 0, .string (⟨#[]⟩:ByteArray),(.slice none 0 0),(.slice none 0 0)] 25 (0,0)))∧Aside0 (wc.heap[gbz3]? = some (.cells #[.int .i64 a1_0, .string xz0001_2,(.slice none 0 0),(.slice none 0 0)] 25 (0,0)))∧Aside0 (Below w.heap.size w wc))
 case first =>
  have H:=HC3.out
  clear HC3
  by_cases c13:a1_0=3
  ·
   rw [if_pos c13] at H
   have c13b0:(a1_0 == 3)=true:=beq_iff_eq.mpr c13
   have c13b1:(a1_0 != 3)=false:=bne_eq_false_iff_eq.mpr c13
   clear c13
   (first|rw [c13b0]|(simp only [i64_w,i32_w];rw [c13b0])|skip)
   by_cases c14:0≤a1_1
   rotate_left
   ·
    rw [if_neg c14] at H
    exact absurd H (by simp)
   rw [if_pos c14] at H
   have c14b0:=eq_true c14
   have c14b1:decide (0≤a1_1)=true:=decide_eq_true c14
   clear c14
   by_cases c15:a1_1≤a1_2
   ·
    rw [if_pos c15] at H
    have c15b0:=eq_true c15
    have c15b1:decide (a1_1≤a1_2)=true:=decide_eq_true c15
    clear c15
    by_cases c16:a1_2≤(a0.size:Int)
    rotate_left
    ·
     rw [if_neg c16] at H
     exact absurd H (by simp)
    rw [if_pos c16] at H
    have c16b0:=eq_true c16
    have c16b1:decide (a1_2≤(a0.size:Int))=true:=decide_eq_true c16
    clear c16
    have H':=Ak H
    clear H
    have hnb17:=NBz1_556108.out
    have hnc17:=NBz2_556107.out
    have hnb18:=NBz1_556109.out
    have hnc18:=NBz3_556107.out
    have hcz19_0:w8.cell? ⟨gbz1,0,none⟩=some (.int .i64 a1_0):=(blk_cell BKz1.out 0).trans rfl
    have hcz19_1:w8.cell? ⟨gbz1,1,none⟩=some (.int .i64 a1_1):=(blk_cell BKz1.out 1).trans rfl
    have hcz19_2:w8.cell? ⟨gbz1,2,none⟩=some (.int .i64 a1_2):=(blk_cell BKz1.out 2).trans rfl
    have hcz19_3:w8.cell? ⟨gbz1,3,none⟩=some (.slice A1_3 l1_3.length c1_3):=(blk_cell BKz1.out 3).trans rfl
    have hcz19_4:w8.cell? ⟨gbz1,4,none⟩=some (.slice A1_4 l1_4.length c1_4):=(blk_cell BKz1.out 4).trans rfl
    have hfz19_0:=blk_frozen BKz1.out 0
    have hfz19_1:=blk_frozen BKz1.out 1
    have hfz19_2:=blk_frozen BKz1.out 2
    have hfz19_3:=blk_frozen BKz1.out 3
    have hfz19_4:=blk_frozen BKz1.out 4
    have hnb20:=NBz3_556108.out
    have hnc20:=NBz2_556109.out
    have hcz21_0:w8.cell? ⟨gbz3,0,none⟩=some (.int .i64 0):=(blk_cell BKz3.out 0).trans rfl
    have hcz21_1:w8.cell? ⟨gbz3,1,none⟩=some (.string (⟨#[]⟩:ByteArray)):=(blk_cell BKz3.out 1).trans rfl
    have hcz21_2:w8.cell? ⟨gbz3,2,none⟩=some (.slice none 0 0):=(blk_cell BKz3.out 2).trans rfl
    have hcz21_3:w8.cell? ⟨gbz3,3,none⟩=some (.slice none 0 0):=(blk_cell BKz3.out 3).trans rfl
    have hfz21_0:=blk_frozen BKz3.out 0
    have hfz21_1:=blk_frozen BKz3.out 1
    have hfz21_2:=blk_frozen BKz3.out 2
    have hfz21_3:=blk_frozen BKz3.out 3
    go_wp2
    go_meet
    case rel=>exact ⟨_,(a0.extract (a1_1:Int).toNat (a1_2:Int).toNat),H',⟨by first|omega|exact Nat.le_refl _⟩,⟨by (with_reducible repeat (first|apply blk_drewN|apply blk_drew|apply blk_alloc));refine blk_far ?_ NBz1_556109.out _;(with_reducible repeat (first|apply blk_drewN|apply blk_drew|apply blk_alloc));refine blk_far ?_ NBz1_556109.out _;(with_reducible repeat (first|apply blk_drewN|apply blk_drew|apply blk_alloc));refine blk_far ?_ NBz1_556109.out _;(with_reducible repeat (first|apply blk_drewN|apply blk_drew|apply blk_alloc));refine blk_far ?_ NBz1_556109.out _;(with_reducible repeat (first|apply blk_drewN|apply blk_drew|apply blk_alloc));refine blk_far ?_ NBz1_556109.out _;(with_reducible repeat (first|apply blk_drewN|apply blk_drew|apply blk_alloc));exact BKz1.out⟩,⟨by (with_reducible repeat (first|apply blk_drewN|apply blk_drew|apply blk_alloc));refine blk_far ?_ NBz2_556109.out _;(with_reducible repeat (first|apply blk_drewN|apply blk_drew|apply blk_alloc));refine blk_far ?_ NBz2_556109.out _;(with_reducible repeat (first|apply blk_drewN|apply blk_drew|apply blk_alloc));refine blk_far ?_ NBz2_556109.out _;(with_reducible repeat (first|apply blk_drewN|apply blk_drew|apply blk_alloc));refine blk_far ?_ NBz2_556109.out _;(with_reducible repeat (first|apply blk_drewN|apply blk_drew|apply blk_alloc));refine blk_far ?_ NBz2_556109.out _;(with_reducible repeat (first|apply blk_drewN|apply blk_drew|apply blk_alloc));exact BKz2.out⟩,⟨by (with_reducible repeat (first|apply blk_drewN|apply blk_drew|apply blk_alloc));refine blk_put (cs := #[.int .i64 a1_0, .string (⟨#[]⟩:ByteArray), .slice none 0 0, .slice none 0 0]) ?_ 1 _ rfl;(with_reducible repeat (first|apply blk_drewN|apply blk_drew|apply blk_alloc));refine blk_put (cs := #[.int .i64 a1_0, .string (⟨#[]⟩:ByteArray), .slice none 0 0, .slice none 0 0]) ?_ 3 _ rfl;(with_reducible repeat (first|apply blk_drewN|apply blk_drew|apply blk_alloc));refine blk_put (cs := #[.int .i64 a1_0, .string (⟨#[]⟩:ByteArray), .slice none 0 0, .slice none 0 0]) ?_ 2 _ rfl;(with_reducible repeat (first|apply blk_drewN|apply blk_drew|apply blk_alloc));refine blk_put (cs := #[.int .i64 a1_0, .string (⟨#[]⟩:ByteArray), .slice none 0 0, .slice none 0 0]) ?_ 1 _ rfl;(with_reducible repeat (first|apply blk_drewN|apply blk_drew|apply blk_alloc));refine blk_put (cs := #[.int .i64 0, .string (⟨#[]⟩:ByteArray), .slice none 0 0, .slice none 0 0]) ?_ 0 _ rfl;(with_reducible repeat (first|apply blk_drewN|apply blk_drew|apply blk_alloc));exact BKz3.out⟩,⟨oB3 GEz1.out GEz2.out GEz3.out⟩⟩
   rw [if_neg c15] at H
   exact absurd H (by simp)
  rw [if_neg c13] at H
  have c13b0:(a1_0 == 3)=false:=beq_eq_false_iff_ne.mpr c13
  have c13b1:(a1_0 != 3)=true:=bne_iff_ne.mpr c13
  (first|rw [c13b0]|(simp only [i64_w,i32_w];rw [c13b0])|skip)
  by_cases c22:a1_0=4
  ·
   rw [if_pos c22] at H
   have c22b0:(a1_0 == 4)=true:=beq_iff_eq.mpr c22
   have c22b1:(a1_0 != 4)=false:=bne_eq_false_iff_eq.mpr c22
   clear c22
   by_cases c23:0≤a1_1
   rotate_left
   ·
    rw [if_neg c23] at H
    exact absurd H (by simp)
   rw [if_pos c23] at H
   have c23b0:=eq_true c23
   have c23b1:decide (0≤a1_1)=true:=decide_eq_true c23
   clear c23
   by_cases c24:a1_1≤a1_2
   ·
    rw [if_pos c24] at H
    have c24b0:=eq_true c24
    have c24b1:decide (a1_1≤a1_2)=true:=decide_eq_true c24
    clear c24
    by_cases c25:a1_2≤(a0.size:Int)
    rotate_left
    ·
     rw [if_neg c25] at H
     exact absurd H (by simp)
    rw [if_pos c25] at H
    have c25b0:=eq_true c25
    have c25b1:decide (a1_2≤(a0.size:Int))=true:=decide_eq_true c25
    clear c25
    replace H:=Option.bind_eq_some_iff.mp H
    obtain ⟨tz0,A260,H⟩:=H
    replace H:(sT.j0 k a0 a1_0 a1_1 a1_2 l1_3 l1_4 a1_0 tz0)=some (r1,r2,r3,r4):=H
    have A26:=Ak A260
    clear A260
    have H':=Ak H
    clear H
    have hnb27:=NBz1_556108.out
    have hnc27:=NBz2_556107.out
    have hnb28:=NBz1_556109.out
    have hnc28:=NBz3_556107.out
    have hcz29_0:w8.cell? ⟨gbz1,0,none⟩=some (.int .i64 a1_0):=(blk_cell BKz1.out 0).trans rfl
    have hcz29_1:w8.cell? ⟨gbz1,1,none⟩=some (.int .i64 a1_1):=(blk_cell BKz1.out 1).trans rfl
    have hcz29_2:w8.cell? ⟨gbz1,2,none⟩=some (.int .i64 a1_2):=(blk_cell BKz1.out 2).trans rfl
    have hcz29_3:w8.cell? ⟨gbz1,3,none⟩=some (.slice A1_3 l1_3.length c1_3):=(blk_cell BKz1.out 3).trans rfl
    have hcz29_4:w8.cell? ⟨gbz1,4,none⟩=some (.slice A1_4 l1_4.length c1_4):=(blk_cell BKz1.out 4).trans rfl
    have hfz29_0:=blk_frozen BKz1.out 0
    have hfz29_1:=blk_frozen BKz1.out 1
    have hfz29_2:=blk_frozen BKz1.out 2
    have hfz29_3:=blk_frozen BKz1.out 3
    have hfz29_4:=blk_frozen BKz1.out 4
    go_wp2_with (first|((with_reducible refine gate_callee (f:=105) rfl ?_);refine goesL_ (some 30) rfl rfl Tryz.func105 (by kernel_rfl) rfl #[.string (a0.extract (a1_1:Int).toNat (a1_2:Int).toNat)] rfl oM ?_;(with_reducible refine (sU.calls k (a0.extract (a1_1:Int).toNat (a1_2:Int).toNat) tz0 _ A26.out).mono ?_);rintro e w30 ⟨rfl,hb⟩;refine ⟨_,rfl,?_⟩;have _:=Ak (blk_below (g:=gbz1) (o := .cells #[.int .i64 a1_0, .int .i64 a1_1, .int .i64 a1_2, .slice A1_3 l1_3.length c1_3, .slice A1_4 l1_4.length c1_4] 102 (0,0)) (by (with_reducible repeat (first|apply blk_drewN|apply blk_drew|apply blk_alloc));refine blk_far ?_ NBz1_556109.out _;(with_reducible repeat (first|apply blk_drewN|apply blk_drew|apply blk_alloc));refine blk_far ?_ NBz1_556109.out _;(with_reducible repeat (first|apply blk_drewN|apply blk_drew|apply blk_alloc));refine blk_far ?_ NBz1_556109.out _;(with_reducible repeat (first|apply blk_drewN|apply blk_drew|apply blk_alloc));refine blk_far ?_ NBz1_556109.out _;(with_reducible repeat (first|apply blk_drewN|apply blk_drew|apply blk_alloc));exact BKz1.out) hb);have _:=Ak (blk_below (g:=gbz2) (o := .cells #[.int .i64 0, .string (⟨#[]⟩:ByteArray), .slice none 0 0, .slice none 0 0] 25 (0,0)) (by (with_reducible repeat (first|apply blk_drewN|apply blk_drew|apply blk_alloc));refine blk_far ?_ NBz2_556109.out _;(with_reducible repeat (first|apply blk_drewN|apply blk_drew|apply blk_alloc));refine blk_far ?_ NBz2_556109.out _;(with_reducible repeat (first|apply blk_drewN|apply blk_drew|apply blk_alloc));refine blk_far ?_ NBz2_556109.out _;(with_reducible repeat (first|apply blk_drewN|apply blk_drew|apply blk_alloc));refine blk_far ?_ NBz2_556109.out _;(with_reducible repeat (first|apply blk_drewN|apply blk_drew|apply blk_alloc));exact BKz2.out) hb);have _:=Ak (blk_below (g:=gbz3) (o := .cells #[.int .i64 a1_0, .string (⟨#[]⟩:ByteArray), .slice none 0 0, .slice none 0 0] 25 (0,0)) (by (with_reducible repeat (first|apply blk_drewN|apply blk_drew|apply blk_alloc));refine blk_put (cs := #[.int .i64 a1_0, .string (⟨#[]⟩:ByteArray), .slice none 0 0, .slice none 0 0]) ?_ 3 _ rfl;(with_reducible repeat (first|apply blk_drewN|apply blk_drew|apply blk_alloc));refine blk_put (cs := #[.int .i64 a1_0, .string (⟨#[]⟩:ByteArray), .slice none 0 0, .slice none 0 0]) ?_ 2 _ rfl;(with_reducible repeat (first|apply blk_drewN|apply blk_drew|apply blk_alloc));refine blk_put (cs := #[.int .i64 a1_0, .string (⟨#[]⟩:ByteArray), .slice none 0 0, .slice none 0 0]) ?_ 1 _ rfl;(with_reducible repeat (first|apply blk_drewN|apply blk_drew|apply blk_alloc));refine blk_put (cs := #[.int .i64 0, .string (⟨#[]⟩:ByteArray), .slice none 0 0, .slice none 0 0]) ?_ 0 _ rfl;(with_reducible repeat (first|apply blk_drewN|apply blk_drew|apply blk_alloc));exact BKz3.out) hb);have _:=Ak (below_step (oB3 GEz1.out GEz2.out GEz3.out) hb);clear BKz1 BKz2 BKz3 HB;rename_i BKz1 BKz2 BKz3 HB;clear hb;have hnb31:=NBz3_556108.out;have hnc31:=NBz2_556109.out;have hcz32_0:w30.cell? ⟨gbz3,0,none⟩=some (.int .i64 a1_0):=(blk_cell BKz3.out 0).trans rfl;have hcz32_1:w30.cell? ⟨gbz3,1,none⟩=some (.string (⟨#[]⟩:ByteArray)):=(blk_cell BKz3.out 1).trans rfl;have hcz32_2:w30.cell? ⟨gbz3,2,none⟩=some (.slice none 0 0):=(blk_cell BKz3.out 2).trans rfl;have hcz32_3:w30.cell? ⟨gbz3,3,none⟩=some (.slice none 0 0):=(blk_cell BKz3.out 3).trans rfl;have hfz32_0:=blk_frozen BKz3.out 0;have hfz32_1:=blk_frozen BKz3.out 1;have hfz32_2:=blk_frozen BKz3.out 2;have hfz32_3:=blk_frozen BKz3.out 3))
    go_meet
    case rel=>exact ⟨_,(tz0),H',⟨by first|omega|exact Nat.le_refl _⟩,⟨by (with_reducible repeat (first|apply blk_drewN|apply blk_drew|apply blk_alloc));refine blk_far ?_ NBz1_556109.out _;(with_reducible repeat (first|apply blk_drewN|apply blk_drew|apply blk_alloc));exact BKz1.out⟩,⟨by (with_reducible repeat (first|apply blk_drewN|apply blk_drew|apply blk_alloc));refine blk_far ?_ NBz2_556109.out _;(with_reducible repeat (first|apply blk_drewN|apply blk_drew|apply blk_alloc));exact BKz2.out⟩,⟨by (with_reducible repeat (first|apply blk_drewN|apply blk_drew|apply blk_alloc));refine blk_put (cs := #[.int .i64 a1_0, .string (⟨#[]⟩:ByteArray), .slice none 0 0, .slice none 0 0]) ?_ 1 _ rfl;(with_reducible repeat (first|apply blk_drewN|apply blk_drew|apply blk_alloc));exact BKz3.out⟩,⟨oB3 GEz1.out GEz2.out GEz3.out⟩⟩
   rw [if_neg c24] at H
   exact absurd H (by simp)
  rw [if_neg c22] at H
  have c22b0:(a1_0 == 4)=false:=beq_eq_false_iff_ne.mpr c22
  have c22b1:(a1_0 != 4)=true:=bne_iff_ne.mpr c22
  have H':=Ak H
  clear H
  go_wp2
  go_meet
  case rel=>exact ⟨_,((⟨#[]⟩:ByteArray)),H',⟨by first|omega|exact Nat.le_refl _⟩,⟨by (with_reducible repeat (first|apply blk_drewN|apply blk_drew|apply blk_alloc));refine blk_far ?_ NBz1_556109.out _;(with_reducible repeat (first|apply blk_drewN|apply blk_drew|apply blk_alloc));refine blk_far ?_ NBz1_556109.out _;(with_reducible repeat (first|apply blk_drewN|apply blk_drew|apply blk_alloc));refine blk_far ?_ NBz1_556109.out _;(with_reducible repeat (first|apply blk_drewN|apply blk_drew|apply blk_alloc));refine blk_far ?_ NBz1_556109.out _;(with_reducible repeat (first|apply blk_drewN|apply blk_drew|apply blk_alloc));exact BKz1.out⟩,⟨by (with_reducible repeat (first|apply blk_drewN|apply blk_drew|apply blk_alloc));refine blk_far ?_ NBz2_556109.out _;(with_reducible repeat (first|apply blk_drewN|apply blk_drew|apply blk_alloc));refine blk_far ?_ NBz2_556109.out _;(with_reducible repeat (first|apply blk_drewN|apply blk_drew|apply blk_alloc));refine blk_far ?_ NBz2_556109.out _;(with_reducible repeat (first|apply blk_drewN|apply blk_drew|apply blk_alloc));refine blk_far ?_ NBz2_556109.out _;(with_reducible repeat (first|apply blk_drewN|apply blk_drew|apply blk_alloc));exact BKz2.out⟩,⟨by (with_reducible repeat (first|apply blk_drewN|apply blk_drew|apply blk_alloc));refine blk_put (cs := #[.int .i64 a1_0, .string (⟨#[]⟩:ByteArray), .slice none 0 0, .slice none 0 0]) ?_ 3 _ rfl;(with_reducible repeat (first|apply blk_drewN|apply blk_drew|apply blk_alloc));refine blk_put (cs := #[.int .i64 a1_0, .string (⟨#[]⟩:ByteArray), .slice none 0 0, .slice none 0 0]) ?_ 2 _ rfl;(with_reducible repeat (first|apply blk_drewN|apply blk_drew|apply blk_alloc));refine blk_put (cs := #[.int .i64 a1_0, .string (⟨#[]⟩:ByteArray), .slice none 0 0, .slice none 0 0]) ?_ 1 _ rfl;(with_reducible repeat (first|apply blk_drewN|apply blk_drew|apply blk_alloc));refine blk_put (cs := #[.int .i64 0, .string (⟨#[]⟩:ByteArray), .slice none 0 0, .slice none 0 0]) ?_ 0 _ rfl;(with_reducible repeat (first|apply blk_drewN|apply blk_drew|apply blk_alloc));exact BKz3.out⟩,⟨oB3 GEz1.out GEz2.out GEz3.out⟩⟩
 case rest =>
 clear HC3
 try clear c1
 try clear c2
 try clear p2
 try clear c3
 try clear c6
 try clear c7
 try clear c9
 try clear c10
 try clear c13
 try clear c13b0
 try clear c13b1
 try clear c14
 try clear c14b0
 try clear c14b1
 try clear c15
 try clear c15b0
 try clear c15b1
 try clear c16
 try clear c16b0
 try clear c16b1
 try clear c17
 try clear c18
 try clear c20
 try clear c22
 try clear c22b0
 try clear c22b1
 try clear c23
 try clear c23b0
 try clear c23b1
 try clear c24
 try clear c24b0
 try clear c24b1
 try clear c25
 try clear c25b0
 try clear c25b1
 try clear c27
 try clear c28
 try clear c31
 try clear hcz11_0
 try clear hcz11_1
 try clear hcz11_2
 try clear hcz11_3
 try clear hcz12_0
 try clear hcz12_1
 try clear hcz12_2
 try clear hcz12_3
 try clear hcz12_4
 try clear hcz19_0
 try clear hcz19_1
 try clear hcz19_2
 try clear hcz19_3
 try clear hcz19_4
 try clear hcz21_0
 try clear hcz21_1
 try clear hcz21_2
 try clear hcz21_3
 try clear hcz29_0
 try clear hcz29_1
 try clear hcz29_2
 try clear hcz29_3
 try clear hcz29_4
 try clear hcz32_0
 try clear hcz32_1
 try clear hcz32_2
 try clear hcz32_3
 try clear hcz7_0
 try clear hcz7_1
 try clear hcz7_2
 try clear hcz7_3
 try clear hcz7_4
 try clear hfz11_0
 try clear hfz11_1
 try clear hfz11_2
 try clear hfz11_3
 try clear hfz12_0
 try clear hfz12_1
 try clear hfz12_2
 try clear hfz12_3
 try clear hfz12_4
 try clear hfz19_0
 try clear hfz19_1
 try clear hfz19_2
 try clear hfz19_3
 try clear hfz19_4
 try clear hfz21_0
 try clear hfz21_1
 try clear hfz21_2
 try clear hfz21_3
 try clear hfz29_0
 try clear hfz29_1
 try clear hfz29_2
 try clear hfz29_3
 try clear hfz29_4
 try clear hfz32_0
 try clear hfz32_1
 try clear hfz32_2
 try clear hfz32_3
 try clear hfz7_0
 try clear hfz7_1
 try clear hfz7_2
 try clear hfz7_3
 try clear hfz7_4
 obtain ⟨kq,xz0001_2,HA,HJ2,BKz1,BKz2,BKz3,HB⟩:=hcut
 cases kq with
 | zero=>exact absurd HA.out (by simp [sT.j0])
 | succ kj2 =>
  have H:=HA.out
  clear HA
  simp only [sT.j0] at H
  have H':=Ak H
  clear H
  go_wp2
  (try simp only [Act.put,List.setIfInBounds_toArray,List.set_cons_zero,List.set_cons_succ])
  go_loopg [6] kj2 (fun kq v6 w' => ∃ (x6_2:Int) (xz0002_2:List ByteArray) (uz0002:Value),v6 = .int .i64 x6_2∧Aside0 (sT.l0 kq a0 x6_2 a1_0 a1_1 a1_2 l1_3 l1_4 a1_0 xz0001_2 xz0002_2=some (r1,r2,r3,r4))∧Aside0 (kq≤kj2)∧Aside0 (Kd.R Kd.string 9 w' w.heap.size (fun _=>True) uz0002 xz0002_2)∧Aside0 (w'.heap[gbz1]? = some (.cells #[.int .i64 a1_0, .int .i64 a1_1, .int .i64 a1_2,(.slice A1_3 l1_3.length c1_3),(.slice A1_4 l1_4.length c1_4)] 102 (0,0)))∧Aside0 (w'.heap[gbz2]? = some (.cells #[.int .i64 0, .string (⟨#[]⟩:ByteArray),(.slice none 0 0),(.slice none 0 0)] 25 (0,0)))∧Aside0 (w'.heap[gbz3]? = some (.cells #[.int .i64 a1_0, .string xz0001_2,uz0002,(.slice none 0 0)] 25 (0,0)))∧Aside0 (Below w.heap.size w w'))
  case atStart=>exact ⟨(0),(([]:List ByteArray)),(.slice none 0 0),oS,H',⟨Nat.le_refl _⟩,⟨by first|exact Kd.R_nil _ _ _ _ _|exact Kd.N_nil _ _ _ _ _|exact Kd.V_nil _ _ _ _ _|exact Kd.Q_nil _ _ _ _ _|exact Kd.S_nil _ _ _ _ _⟩,⟨oL BKz1.out⟩,⟨oL BKz2.out⟩,⟨oL BKz3.out⟩,⟨oB3 GEz1.out GEz2.out GEz3.out⟩⟩
  case round =>
  clear H'
  try clear c1
  try clear c2
  try clear p2
  try clear c3
  try clear c6
  try clear c7
  try clear c9
  try clear c10
  try clear c13
  try clear c13b0
  try clear c13b1
  try clear c14
  try clear c14b0
  try clear c14b1
  try clear c15
  try clear c15b0
  try clear c15b1
  try clear c16
  try clear c16b0
  try clear c16b1
  try clear c17
  try clear c18
  try clear c20
  try clear c22
  try clear c22b0
  try clear c22b1
  try clear c23
  try clear c23b0
  try clear c23b1
  try clear c24
  try clear c24b0
  try clear c24b1
  try clear c25
  try clear c25b0
  try clear c25b1
  try clear c27
  try clear c28
  try clear c31
  try clear hcz11_0
  try clear hcz11_1
  try clear hcz11_2
  try clear hcz11_3
  try clear hcz12_0
  try clear hcz12_1
  try clear hcz12_2
  try clear hcz12_3
  try clear hcz12_4
  try clear hcz19_0
  try clear hcz19_1
  try clear hcz19_2
  try clear hcz19_3
  try clear hcz19_4
  try clear hcz21_0
  try clear hcz21_1
  try clear hcz21_2
  try clear hcz21_3
  try clear hcz29_0
  try clear hcz29_1
  try clear hcz29_2
  try clear hcz29_3
  try clear hcz29_4
  try clear hcz32_0
  try clear hcz32_1
  try clear hcz32_2
  try clear hcz32_3
  try clear hcz7_0
  try clear hcz7_1
  try clear hcz7_2
  try clear hcz7_3
  try clear hcz7_4
  try clear hfz11_0
  try clear hfz11_1
  try clear hfz11_2
  try clear hfz11_3
  try clear hfz12_0
  try clear hfz12_1
  try clear hfz12_2
  try clear hfz12_3
  try clear hfz12_4
  try clear hfz19_0
  try clear hfz19_1
  try clear hfz19_2
  try clear hfz19_3
  try clear hfz19_4
  try clear hfz21_0
  try clear hfz21_1
  try clear hfz21_2
  try clear hfz21_3
  try clear hfz29_0
  try clear hfz29_1
  try clear hfz29_2
  try clear hfz29_3
  try clear hfz29_4
  try clear hfz32_0
  try clear hfz32_1
  try clear hfz32_2
  try clear hfz32_3
  try clear hfz7_0
  try clear hfz7_1
  try clear hfz7_2
  try clear hfz7_3
  try clear hfz7_4
  try clear p2
  obtain ⟨x6_2,xz0002_2,uz0002,rfl,HA,HK2,HO_z0002,BKz1,BKz2,BKz3,HB⟩:=hrel
  cases gk with
  | zero=>exact absurd HA.out (by simp [sT.l0])
  | succ k2 =>
   have H:=HA.out
   clear HA
   simp only [sT.l0] at H
   by_cases c33:x6_2<(l1_3.length:Int)
   ·
    rw [if_pos c33] at H
    have c33b0:decide (x6_2<(l1_3.length:Int))=true:=decide_eq_true c33
    clear c33
    by_cases c34:0≤x6_2
    rotate_left
    ·
     rw [if_neg c34] at H
     exact absurd H (by simp)
    rw [if_pos c34] at H
    have c34b0:decide (0≤x6_2)=true:=decide_eq_true c34
    clear c34
    by_cases c35:0≤((rd_T155 l1_3 x6_2).f0)
    ·
     rw [if_pos c35] at H
     have c35b0:=eq_true c35
     have c35b1:decide (0≤((rd_T155 l1_3 x6_2).f0))=true:=decide_eq_true c35
     clear c35
     by_cases c36:((rd_T155 l1_3 x6_2).f0)≤((rd_T155 l1_3 x6_2).f1)
     rotate_left
     ·
      rw [if_neg c36] at H
      exact absurd H (by simp)
     rw [if_pos c36] at H
     have c36b0:=eq_true c36
     have c36b1:decide (((rd_T155 l1_3 x6_2).f0)≤((rd_T155 l1_3 x6_2).f1))=true:=decide_eq_true c36
     clear c36
     by_cases c37:((rd_T155 l1_3 x6_2).f1)≤(a0.size:Int)
     ·
      rw [if_pos c37] at H
      have c37b0:=eq_true c37
      have c37b1:decide (((rd_T155 l1_3 x6_2).f1)≤(a0.size:Int))=true:=decide_eq_true c37
      clear c37
      replace H:=Option.bind_eq_some_iff.mp H
      obtain ⟨tz4,A380,H⟩:=H
      replace H:(if xz0002_2.length<8796093022208 then (sT.l0 k2 a0 (wrap64 (x6_2+1)) a1_0 a1_1 a1_2 l1_3 l1_4 a1_0 xz0001_2 (xz0002_2++[tz4])) else (none))=some (r1,r2,r3,r4):=H
      have A38:=Ak A380
      clear A380
      by_cases c39:xz0002_2.length<8796093022208
      rotate_left
      ·
       rw [if_neg c39] at H
       exact absurd H (by simp)
      rw [if_pos c39] at H
      have LMc39:=Ak c39
      clear c39
      obtain ⟨yz5,hyz5⟩ : ∃ y_:List ByteArray,y_=(xz0002_2++[tz4]):=⟨_,rfl⟩
      replace H:(sT.l0 k2 a0 (wrap64 (x6_2+1)) a1_0 a1_1 a1_2 l1_3 l1_4 a1_0 xz0001_2 yz5)=some (r1,r2,r3,r4):=by first|(rw [hyz5];with_reducible exact H)|(have H2_:=(Option.bind_some _ _).symm.trans H;rw [hyz5];with_reducible exact H2_)|(have H2_:=(Option.bind_some _ _).symm.trans H;with_reducible exact H2_)|with_reducible exact H|(rw [hyz5];exact H)|exact H
      have Nyz5:=Ak hyz5
      clear hyz5
      have H':=Ak H
      clear H
      have hnb40:=NBz1_556108.out
      have hnc40:=NBz2_556107.out
      have hnb41:=NBz1_556109.out
      have hnc41:=NBz3_556107.out
      have hcz42_0:wr.cell? ⟨gbz1,0,none⟩=some (.int .i64 a1_0):=(blk_cell BKz1.out 0).trans rfl
      have hcz42_1:wr.cell? ⟨gbz1,1,none⟩=some (.int .i64 a1_1):=(blk_cell BKz1.out 1).trans rfl
      have hcz42_2:wr.cell? ⟨gbz1,2,none⟩=some (.int .i64 a1_2):=(blk_cell BKz1.out 2).trans rfl
      have hcz42_3:wr.cell? ⟨gbz1,3,none⟩=some (.slice A1_3 l1_3.length c1_3):=(blk_cell BKz1.out 3).trans rfl
      have hcz42_4:wr.cell? ⟨gbz1,4,none⟩=some (.slice A1_4 l1_4.length c1_4):=(blk_cell BKz1.out 4).trans rfl
      have hfz42_0:=blk_frozen BKz1.out 0
      have hfz42_1:=blk_frozen BKz1.out 1
      have hfz42_2:=blk_frozen BKz1.out 2
      have hfz42_3:=blk_frozen BKz1.out 3
      have hfz42_4:=blk_frozen BKz1.out 4
      try go_wp2
      have n0_:=Ak (Kd.R_drew HO_z0002.out)
      have n1_:=Ak (blk_drew BKz1.out)
      have n2_:=Ak (blk_drew BKz2.out)
      have n3_:=Ak (blk_drew BKz3.out)
      have n4_:=Ak (below_drew1 HB.out)
      clear HO_z0002
      clear BKz1
      clear BKz2
      clear BKz3
      clear HB
      have HO_z0002:=n0_
      have BKz1:=n1_
      have BKz2:=n2_
      have BKz3:=n3_
      have HB:=n4_
      clear n0_ n1_ n2_ n3_ n4_
      have pz6:0≤(x6_2:Int):=of_decide_eq_true oA
      have qz6:x6_2<(l1_3.length:Int):=of_decide_eq_true oA
      obtain ⟨adz6,ez6,hxz6_0,hxz6_1⟩:=at_T155 HR1_3.out x6_2 pz6 qz6
      have hwz6_1:=hxz6_1
      have hwz6_0:=hxz6_0
      cases ez6
      replace hxz6_0:=(HB.out.cell (World.block_lt_of_cell? w _ hxz6_0)).trans hxz6_0
      replace hxz6_1:=(HB.out.cell (World.block_lt_of_cell? w _ hxz6_1)).trans hxz6_1
      replace pz6:=eq_true pz6
      replace qz6:=eq_true qz6
      have pz7:0≤(x6_2:Int):=of_decide_eq_true oA
      have qz7:x6_2<(l1_3.length:Int):=of_decide_eq_true oA
      obtain ⟨adz7,ez7,hxz7_0,hxz7_1⟩:=at_T155 HR1_3.out x6_2 pz7 qz7
      have hwz7_1:=hxz7_1
      have hwz7_0:=hxz7_0
      obtain rfl:adz6=adz7:=(by injection ez7)
      replace hxz7_0:=(HB.out.cell (World.block_lt_of_cell? w _ hxz7_0)).trans hxz7_0
      replace hxz7_1:=(HB.out.cell (World.block_lt_of_cell? w _ hxz7_1)).trans hxz7_1
      replace pz7:=eq_true pz7
      replace qz7:=eq_true qz7
      refine start_ (n:=21) (S:=fun w'=>w'.cell? ⟨gbz3,0,none⟩=some (.int .i64 a1_0)∧w'.cell? ⟨gbz3,1,none⟩=some (.string xz0001_2)∧w'.cell? ⟨gbz3,2,none⟩=some (uz0002)∧w'.cell? ⟨gbz3,3,none⟩=some (.slice none 0 0)∧w'.cell? ⟨gbz1,0,none⟩=some (.int .i64 a1_0)∧w'.cell? ⟨gbz1,1,none⟩=some (.int .i64 a1_1)∧w'.cell? ⟨gbz1,2,none⟩=some (.int .i64 a1_2)∧w'.cell? ⟨gbz1,3,none⟩=some (.slice (some adz6) l1_3.length c1_3)∧w'.cell? ⟨gbz1,4,none⟩=some (.slice A1_4 l1_4.length c1_4)∧w'.cell? (adz6.add ((x6_2).toNat*2))=some (.int .i64 ((rd_T155 l1_3 x6_2).f0))∧w'.cell? ⟨(adz6.add ((x6_2).toNat*2)).block,(adz6.add ((x6_2).toNat*2)).off+1,none⟩=some (.int .i64 ((rd_T155 l1_3 x6_2).f1))∧w'.cell? (adz6.add ((x6_2).toNat*2))=some (.int .i64 ((rd_T155 l1_3 x6_2).f0))∧w'.cell? ⟨(adz6.add ((x6_2).toNat*2)).block,(adz6.add ((x6_2).toNat*2)).off+1,none⟩=some (.int .i64 ((rd_T155 l1_3 x6_2).f1))) (ds:=[20]) #[false,false,false,false,false,false,false,false,false,false,false,false,false,false,false,false,false,false,false,false,false] (by kernel_rfl) rfl rfl ⟨(blk_cell BKz3.out 0).trans rfl,(blk_cell BKz3.out 1).trans rfl,(blk_cell BKz3.out 2).trans rfl,(blk_cell BKz3.out 3).trans rfl,(blk_cell BKz1.out 0).trans rfl,(blk_cell BKz1.out 1).trans rfl,(blk_cell BKz1.out 2).trans rfl,(blk_cell BKz1.out 3).trans rfl,(blk_cell BKz1.out 4).trans rfl,((HB.out.cell (World.block_lt_of_cell? w _ hwz6_0)).trans hwz6_0),((HB.out.cell (World.block_lt_of_cell? w _ hwz6_1)).trans hwz6_1),((HB.out.cell (World.block_lt_of_cell? w _ hwz7_0)).trans hwz7_0),((HB.out.cell (World.block_lt_of_cell? w _ hwz7_1)).trans hwz7_1)⟩ (fun hHeld=>?_);refine with_tabW sT.tab10 sT.bits10 (fun HT_ HW_=>?_)
      generalize wr.drew=w43 at HO_z0002 BKz1 BKz2 BKz3 HB hxz6_0 hxz6_1 hxz7_0 hxz7_1 hHeld ⊢
      refine zP 0 (some 39) (mA 21 1) ?_
      refine zP 2 (some 41) (mA 21 5) ?_
      refine zP 3 (some 42) (mA 21 13) ?_
      refine zP 5 (some 44) (mA 21 45) ?_
      refine zP 9 (some 48) (mA 21 557) ?_
      refine zP 11 (some 50) (mA 21 2605) ?_
      refine zT 1 (some 40) (mA 21 2607) ?_
      refine zT 4 (some 43) (mA 21 2623) ?_
      refine zP 6 (some 45) (mA 21 2687) ?_
      refine zP 7 (some 46) (mA 21 2815) ?_
      refine zT 8 (some 47) (mA 21 3071) ?_
      refine zT 10 (some 49) (mA 21 4095) ?_
      refine zP 12 (some 51) (mA 21 8191) ?_
      refine zP 13 (some 52) (mA 21 16383) ?_
      refine zT 14 (some 53) (mA 21 32767) ?_
      refine zP 15 (some 54) (mA 21 65535) ?_
      refine zO 16 (some 55) (mA 21 131071) (fun K hK=>?_)
      refine goes_ Tryz.func105 (by kernel_rfl) rfl #[.string (a0.extract (((rd_T155 l1_3 x6_2).f0):Int).toNat (((rd_T155 l1_3 x6_2).f1):Int).toNat)] (by rfl) rfl rfl oM ?_
      with_reducible refine (sU.calls k2 (a0.extract (((rd_T155 l1_3 x6_2).f0):Int).toNat (((rd_T155 l1_3 x6_2).f1):Int).toNat) tz4 _ A38.out).mono ?_
      rintro e w44 ⟨rfl,hb⟩
      refine ⟨_,rfl,?_⟩
      have n0_:=Ak (Kd.R_below (oR HO_z0002.out) hb)
      have n1_:=Ak (blk_below (g:=gbz1) (o := .cells #[.int .i64 a1_0, .int .i64 a1_1, .int .i64 a1_2, .slice (some adz6) l1_3.length c1_3, .slice A1_4 l1_4.length c1_4] 102 (0,0)) (oL BKz1.out) hb)
      have n2_:=Ak (blk_below (g:=gbz2) (o := .cells #[.int .i64 0, .string (⟨#[]⟩:ByteArray), .slice none 0 0, .slice none 0 0] 25 (0,0)) (oL BKz2.out) hb)
      have n3_:=Ak (blk_below (g:=gbz3) (o := .cells #[.int .i64 a1_0, .string xz0001_2,uz0002, .slice none 0 0] 25 (0,0)) (oL BKz3.out) hb)
      have n4_:=Ak (below_step (oB3 GEz1.out GEz2.out GEz3.out) hb)
      clear HO_z0002
      clear BKz1
      clear BKz2
      clear BKz3
      clear HB
      have HO_z0002:=n0_
      have BKz1:=n1_
      have BKz2:=n2_
      have BKz3:=n3_
      have HB:=n4_
      clear n0_ n1_ n2_ n3_ n4_
      (try clear hb)
      (try clear hb2)
      (try clear hk)
      (try clear hi)
      refine hK.out _ _ ⟨(blk_cell BKz3.out 0).trans rfl,(blk_cell BKz3.out 1).trans rfl,(blk_cell BKz3.out 2).trans rfl,(blk_cell BKz3.out 3).trans rfl,(blk_cell BKz1.out 0).trans rfl,(blk_cell BKz1.out 1).trans rfl,(blk_cell BKz1.out 2).trans rfl,(blk_cell BKz1.out 3).trans rfl,(blk_cell BKz1.out 4).trans rfl,((HB.out.cell (World.block_lt_of_cell? w _ hwz6_0)).trans hwz6_0),((HB.out.cell (World.block_lt_of_cell? w _ hwz6_1)).trans hwz6_1),((HB.out.cell (World.block_lt_of_cell? w _ hwz7_0)).trans hwz7_0),((HB.out.cell (World.block_lt_of_cell? w _ hwz7_1)).trans hwz7_1)⟩ (fun hHeld=>?_)
      clear hK K
      refine norm_ (a':=?_) ?_ ?_
      rotate_left
      ·
       show Act.put _ (some 55) _=_
       simp only [Act.put,List.setIfInBounds_toArray,List.set_cons_zero,List.set_cons_succ,i64_w,i32_w]
       rfl
      refine zO 17 (some 56) (mA 21 262143) (fun K hK=>?_)
      refine value_ (w1:=?_) (v:=?_) (by rfl) rfl ?_ ?_
      rotate_left 2
      ·
       go_simp
       constructor
       ·
        rfl
       rfl
      refine hK.out _ _ ⟨(blk_cell (blk_alloc BKz3.out _) 0).trans rfl,(blk_cell (blk_alloc BKz3.out _) 1).trans rfl,(blk_cell (blk_alloc BKz3.out _) 2).trans rfl,(blk_cell (blk_alloc BKz3.out _) 3).trans rfl,(blk_cell (blk_alloc BKz1.out _) 0).trans rfl,(blk_cell (blk_alloc BKz1.out _) 1).trans rfl,(blk_cell (blk_alloc BKz1.out _) 2).trans rfl,(blk_cell (blk_alloc BKz1.out _) 3).trans rfl,(blk_cell (blk_alloc BKz1.out _) 4).trans rfl,(World.cell?_alloc_lt _ _ _ (World.block_lt_of_cell? _ _ (((HB.out.cell (World.block_lt_of_cell? w _ hwz6_0)).trans hwz6_0)))).trans (((HB.out.cell (World.block_lt_of_cell? w _ hwz6_0)).trans hwz6_0)),(World.cell?_alloc_lt _ _ _ (World.block_lt_of_cell? _ _ (((HB.out.cell (World.block_lt_of_cell? w _ hwz6_1)).trans hwz6_1)))).trans (((HB.out.cell (World.block_lt_of_cell? w _ hwz6_1)).trans hwz6_1)),(World.cell?_alloc_lt _ _ _ (World.block_lt_of_cell? _ _ (((HB.out.cell (World.block_lt_of_cell? w _ hwz7_0)).trans hwz7_0)))).trans (((HB.out.cell (World.block_lt_of_cell? w _ hwz7_0)).trans hwz7_0)),(World.cell?_alloc_lt _ _ _ (World.block_lt_of_cell? _ _ (((HB.out.cell (World.block_lt_of_cell? w _ hwz7_1)).trans hwz7_1)))).trans (((HB.out.cell (World.block_lt_of_cell? w _ hwz7_1)).trans hwz7_1))⟩ (fun hHeld=>?_)
      clear hK K
      refine norm_ (a':=?_) ?_ ?_
      rotate_left
      ·
       show Act.put _ (some 56) _=_
       simp only [Act.put,List.setIfInBounds_toArray,List.set_cons_zero,List.set_cons_succ,i64_w,i32_w]
       rfl
      refine zO 18 (some 57) (mA 21 524287) (fun K hK=>?_)
      refine Kd.R_append_step Kd.string (w0:=w) w.heap.size (by rfl) (.tmp 40) (.tmp 56) 22 9 (.string ⟨#[]⟩) 16 rfl Tryz.underlying22 info9 rfl (by decide) (by omega) uz0002 xz0002_2 tz4 [.string tz4] (fun _=>True) (fun _=>False) rfl rfl ?aP (fun _ hk=>hk.elim) ?aF ?aO ?aB ?aS ?aL ?_
      (case aP=>exact rfl)
      (case aB=>exact (oB3 GEz1.out GEz2.out GEz3.out))
      (case aF=>exact (fun _ _=>trivial))
      (case aO=>exact (oR HO_z0002.out))
      (case aS=>exact (below_size (oB3 GEz1.out GEz2.out GEz3.out)))
      (case aL=>have:=LMc39.out;omega)
      intro vz8 w45 ho hb hg hat
      rw [← Nyz5.out] at ho
      have n0_:=Ak (blk_grown (g:=gbz1) (o := .cells #[.int .i64 a1_0, .int .i64 a1_1, .int .i64 a1_2, .slice (some adz6) l1_3.length c1_3, .slice A1_4 l1_4.length c1_4] 102 (0,0)) (oL BKz1.out) hg (Kd.R_ne HO_z0002.out BKz1.out (by decide)))
      have n1_:=Ak (blk_grown (g:=gbz2) (o := .cells #[.int .i64 0, .string (⟨#[]⟩:ByteArray), .slice none 0 0, .slice none 0 0] 25 (0,0)) (oL BKz2.out) hg (Kd.R_ne HO_z0002.out BKz2.out (by decide)))
      have n2_:=Ak (blk_grown (g:=gbz3) (o := .cells #[.int .i64 a1_0, .string xz0001_2,uz0002, .slice none 0 0] 25 (0,0)) (oL BKz3.out) hg (Kd.R_ne HO_z0002.out BKz3.out (by decide)))
      have n3_:=Ak (hb)
      have n4_:=Ak (ho)
      clear BKz1
      clear BKz2
      clear BKz3
      clear HB
      clear HO_z0002
      have BKz1:=n0_
      have BKz2:=n1_
      have BKz3:=n2_
      have HB:=n3_
      have HOz9:=n4_
      clear n0_ n1_ n2_ n3_ n4_
      clear ho hb hg hat
      obtain ⟨Ao46,co46,eo46⟩:=Kd.R_slice HOz9.out
      (first|subst eo46|(injection eo46 with f1_ f2_ f3_;have f4_:=f1_.symm;have f5_:=f3_.symm;clear f1_ f2_ f3_;subst f4_;subst f5_))
      refine hK.out _ _ ⟨(blk_cell BKz3.out 0).trans rfl,(blk_cell BKz3.out 1).trans rfl,(blk_cell BKz3.out 2).trans rfl,(blk_cell BKz3.out 3).trans rfl,(blk_cell BKz1.out 0).trans rfl,(blk_cell BKz1.out 1).trans rfl,(blk_cell BKz1.out 2).trans rfl,(blk_cell BKz1.out 3).trans rfl,(blk_cell BKz1.out 4).trans rfl,((HB.out.cell (World.block_lt_of_cell? w _ hwz6_0)).trans hwz6_0),((HB.out.cell (World.block_lt_of_cell? w _ hwz6_1)).trans hwz6_1),((HB.out.cell (World.block_lt_of_cell? w _ hwz7_0)).trans hwz7_0),((HB.out.cell (World.block_lt_of_cell? w _ hwz7_1)).trans hwz7_1)⟩ (fun hHeld=>?_)
      clear hK K
      refine norm_ (a':=?_) ?_ ?_
      rotate_left
      ·
       show Act.put _ (some 57) _=_
       simp only [Act.put,List.setIfInBounds_toArray,List.set_cons_zero,List.set_cons_succ,i64_w,i32_w]
       rfl
      refine zP 19 (some 58) (mA 21 1048575) ?_
      refine last_ (i:=20) (N:=none) #[true,true,true,true,true,true,true,true,true,true,true,true,true,true,true,true,true,true,true,true,true] rfl rfl (one_of HT_.out (by kernel_rfl)) (by decide) (fun K hK=>?_)
      have hs47:w45.cell? ⟨gbz3,2,none⟩=some (uz0002):=(blk_cell BKz3.out 2).trans rfl
      have hfs47:=blk_frozen BKz3.out 2
      have hns47_0:=NBz1_556109.out
      have hns47_1:=NBz2_556109.out
      have hms47_0:=NBz3_556107.out
      have hms47_1:=NBz3_556108.out
      refine skip_ (w1:=?_) (by rfl) rfl ?_ ?_
      rotate_left
      ·
       go_simp
       rfl
      refine hK.out _ _ ?_
      clear hK K
      refine done_ (done_of HT_.out (by kernel_rfl)) ?_
      try go_wp2
      go_roundg k2
      case measure=>have:=HJ2.out;have:=HK2.out;omega
      case rel=>exact ⟨(wrap64 (x6_2+1)),(yz5),(.slice Ao46 yz5.length co46),oS,H',⟨by have:=HJ2.out;have:=HK2.out;omega⟩,⟨by (with_reducible repeat (first|apply Kd.R_alloc|apply Kd.R_drewN|apply Kd.R_drew));exact Kd.R_mono (Kd.R_far (p:=⟨gbz3,2,none⟩) (Kd.R_types HOz9.out BKz3.out (by decide)) (fun _ hk=>hk.2) (.slice Ao46 yz5.length co46)) (fun _ hk=>trivial)⟩,⟨by (with_reducible repeat (first|apply blk_drewN|apply blk_drew|apply blk_alloc));refine blk_far ?_ NBz1_556109.out _;(with_reducible repeat (first|apply blk_drewN|apply blk_drew|apply blk_alloc));exact BKz1.out⟩,⟨by (with_reducible repeat (first|apply blk_drewN|apply blk_drew|apply blk_alloc));refine blk_far ?_ NBz2_556109.out _;(with_reducible repeat (first|apply blk_drewN|apply blk_drew|apply blk_alloc));exact BKz2.out⟩,⟨by (with_reducible repeat (first|apply blk_drewN|apply blk_drew|apply blk_alloc));refine blk_put (cs := #[.int .i64 a1_0, .string xz0001_2,uz0002, .slice none 0 0]) ?_ 2 _ rfl;(with_reducible repeat (first|apply blk_drewN|apply blk_drew|apply blk_alloc));exact BKz3.out⟩,⟨oB3 GEz1.out GEz2.out GEz3.out⟩⟩
     rw [if_neg c37] at H
     exact absurd H (by simp)
    rw [if_neg c35] at H
    exact absurd H (by simp)
   rw [if_neg c33] at H
   have c33b0:decide (x6_2<(l1_3.length:Int))=false:=decide_eq_false c33
   clear c33
   have H':=Ak H
   clear H
   have hnb48:=NBz1_556108.out
   have hnc48:=NBz2_556107.out
   have hnb49:=NBz1_556109.out
   have hnc49:=NBz3_556107.out
   have hcz50_0:wr.cell? ⟨gbz1,0,none⟩=some (.int .i64 a1_0):=(blk_cell BKz1.out 0).trans rfl
   have hcz50_1:wr.cell? ⟨gbz1,1,none⟩=some (.int .i64 a1_1):=(blk_cell BKz1.out 1).trans rfl
   have hcz50_2:wr.cell? ⟨gbz1,2,none⟩=some (.int .i64 a1_2):=(blk_cell BKz1.out 2).trans rfl
   have hcz50_3:wr.cell? ⟨gbz1,3,none⟩=some (.slice A1_3 l1_3.length c1_3):=(blk_cell BKz1.out 3).trans rfl
   have hcz50_4:wr.cell? ⟨gbz1,4,none⟩=some (.slice A1_4 l1_4.length c1_4):=(blk_cell BKz1.out 4).trans rfl
   have hfz50_0:=blk_frozen BKz1.out 0
   have hfz50_1:=blk_frozen BKz1.out 1
   have hfz50_2:=blk_frozen BKz1.out 2
   have hfz50_3:=blk_frozen BKz1.out 3
   have hfz50_4:=blk_frozen BKz1.out 4
   go_wp2
   (try simp only [Act.put,List.setIfInBounds_toArray,List.set_cons_zero,List.set_cons_succ])
   go_loopg [7] k2 (fun kq v7 w' => ∃ (x7_3:Int) (xz0003_3:List (S25)) (uz0003:Value),v7 = .int .i64 x7_3∧Aside0 (sT.l1 kq a0 x7_3 a1_0 a1_1 a1_2 l1_3 l1_4 a1_0 xz0001_2 xz0002_2 xz0003_3=some (r1,r2,r3,r4))∧Aside0 (kq≤k2)∧Aside0 (Kd.R Kd.string 9 w' w.heap.size (fun _=>True) uz0002 xz0002_2)∧Aside0 (Kd.R k25 25 w' w.heap.size (fun k_=>some k_≠(uz0002:Value).ownBlock∧k_≠gbz2∧k_≠gbz3) uz0003 xz0003_3)∧Aside0 (w'.heap[gbz1]? = some (.cells #[.int .i64 a1_0, .int .i64 a1_1, .int .i64 a1_2,(.slice A1_3 l1_3.length c1_3),(.slice A1_4 l1_4.length c1_4)] 102 (0,0)))∧Aside0 (w'.heap[gbz2]? = some (.cells #[.int .i64 0, .string (⟨#[]⟩:ByteArray),(.slice none 0 0),(.slice none 0 0)] 25 (0,0)))∧Aside0 (w'.heap[gbz3]? = some (.cells #[.int .i64 a1_0, .string xz0001_2,uz0002,uz0003] 25 (0,0)))∧Aside0 (Below w.heap.size w w'))
   case atStart=>exact ⟨(0),(([]:List (S25))),(.slice none 0 0),oS,H',⟨Nat.le_refl _⟩,⟨oR HO_z0002.out⟩,⟨by first|exact Kd.R_nil _ _ _ _ _|exact Kd.N_nil _ _ _ _ _|exact Kd.V_nil _ _ _ _ _|exact Kd.Q_nil _ _ _ _ _|exact Kd.S_nil _ _ _ _ _⟩,⟨oL BKz1.out⟩,⟨oL BKz2.out⟩,⟨oL BKz3.out⟩,⟨oB3 GEz1.out GEz2.out GEz3.out⟩⟩
   case round =>
   clear H'
   try clear c1
   try clear c2
   try clear p2
   try clear c3
   try clear c4
   try clear p5
   try clear q5
   try clear hx5
   try clear c6
   try clear p6
   try clear c7
   try clear c9
   try clear c10
   try clear c13
   try clear c13b0
   try clear c13b1
   try clear c14
   try clear c14b0
   try clear c14b1
   try clear c15
   try clear c15b0
   try clear c15b1
   try clear c16
   try clear c16b0
   try clear c16b1
   try clear c17
   try clear c18
   try clear c20
   try clear c22
   try clear c22b0
   try clear c22b1
   try clear c23
   try clear c23b0
   try clear c23b1
   try clear c24
   try clear c24b0
   try clear c24b1
   try clear c25
   try clear c25b0
   try clear c25b1
   try clear c27
   try clear c28
   try clear c31
   try clear c33
   try clear c33b0
   try clear c34
   try clear c34b0
   try clear c35
   try clear c35b0
   try clear c35b1
   try clear c36
   try clear c36b0
   try clear c36b1
   try clear c37
   try clear c37b0
   try clear c37b1
   try clear c39
   try clear c40
   try clear c41
   try clear c48
   try clear c49
   try clear hcz11_0
   try clear hcz11_1
   try clear hcz11_2
   try clear hcz11_3
   try clear hcz12_0
   try clear hcz12_1
   try clear hcz12_2
   try clear hcz12_3
   try clear hcz12_4
   try clear hcz19_0
   try clear hcz19_1
   try clear hcz19_2
   try clear hcz19_3
   try clear hcz19_4
   try clear hcz21_0
   try clear hcz21_1
   try clear hcz21_2
   try clear hcz21_3
   try clear hcz29_0
   try clear hcz29_1
   try clear hcz29_2
   try clear hcz29_3
   try clear hcz29_4
   try clear hcz32_0
   try clear hcz32_1
   try clear hcz32_2
   try clear hcz32_3
   try clear hcz42_0
   try clear hcz42_1
   try clear hcz42_2
   try clear hcz42_3
   try clear hcz42_4
   try clear hcz50_0
   try clear hcz50_1
   try clear hcz50_2
   try clear hcz50_3
   try clear hcz50_4
   try clear hcz7_0
   try clear hcz7_1
   try clear hcz7_2
   try clear hcz7_3
   try clear hcz7_4
   try clear hfz11_0
   try clear hfz11_1
   try clear hfz11_2
   try clear hfz11_3
   try clear hfz12_0
   try clear hfz12_1
   try clear hfz12_2
   try clear hfz12_3
   try clear hfz12_4
   try clear hfz19_0
   try clear hfz19_1
   try clear hfz19_2
   try clear hfz19_3
   try clear hfz19_4
   try clear hfz21_0
   try clear hfz21_1
   try clear hfz21_2
   try clear hfz21_3
   try clear hfz29_0
   try clear hfz29_1
   try clear hfz29_2
   try clear hfz29_3
   try clear hfz29_4
   try clear hfz32_0
   try clear hfz32_1
   try clear hfz32_2
   try clear hfz32_3
   try clear hfz42_0
   try clear hfz42_1
   try clear hfz42_2
   try clear hfz42_3
   try clear hfz42_4
   try clear hfz50_0
   try clear hfz50_1
   try clear hfz50_2
   try clear hfz50_3
   try clear hfz50_4
   try clear hfz7_0
   try clear hfz7_1
   try clear hfz7_2
   try clear hfz7_3
   try clear hfz7_4
   try clear hxz6_0
   try clear hxz6_1
   try clear hxz7_0
   try clear hxz7_1
   try clear p2
   try clear pz6
   try clear pz7
   try clear qz6
   try clear qz7
   obtain ⟨x7_3,xz0003_3,uz0003,rfl,HA,HK3,HO_z0002,HO_z0003,BKz1,BKz2,BKz3,HB⟩:=hrel
   cases gk with
   | zero=>exact absurd HA.out (by simp [sT.l1])
   | succ k3 =>
    have H:=HA.out
    clear HA
    simp only [sT.l1] at H
    by_cases c51:x7_3<(l1_4.length:Int)
    rotate_left
    ·
     rw [if_neg c51] at H
     have c51b0:decide (x7_3<(l1_4.length:Int))=false:=decide_eq_false c51
     clear c51
     simp only [Option.some.injEq,Prod.mk.injEq] at H
     obtain ⟨rfl,rfl,rfl,rfl⟩:=H
     have hnb65:=NBz1_556108.out
     have hnc65:=NBz2_556107.out
     have hnb66:=NBz1_556109.out
     have hnc66:=NBz3_556107.out
     have hcz67_0:wr.cell? ⟨gbz1,0,none⟩=some (.int .i64 a1_0):=(blk_cell BKz1.out 0).trans rfl
     have hcz67_1:wr.cell? ⟨gbz1,1,none⟩=some (.int .i64 a1_1):=(blk_cell BKz1.out 1).trans rfl
     have hcz67_2:wr.cell? ⟨gbz1,2,none⟩=some (.int .i64 a1_2):=(blk_cell BKz1.out 2).trans rfl
     have hcz67_3:wr.cell? ⟨gbz1,3,none⟩=some (.slice A1_3 l1_3.length c1_3):=(blk_cell BKz1.out 3).trans rfl
     have hcz67_4:wr.cell? ⟨gbz1,4,none⟩=some (.slice A1_4 l1_4.length c1_4):=(blk_cell BKz1.out 4).trans rfl
     have hfz67_0:=blk_frozen BKz1.out 0
     have hfz67_1:=blk_frozen BKz1.out 1
     have hfz67_2:=blk_frozen BKz1.out 2
     have hfz67_3:=blk_frozen BKz1.out 3
     have hfz67_4:=blk_frozen BKz1.out 4
     have hnb68:=NBz3_556108.out
     have hnc68:=NBz2_556109.out
     have hcz69_0:wr.cell? ⟨gbz3,0,none⟩=some (.int .i64 a1_0):=(blk_cell BKz3.out 0).trans rfl
     have hcz69_1:wr.cell? ⟨gbz3,1,none⟩=some (.string xz0001_2):=(blk_cell BKz3.out 1).trans rfl
     have hcz69_2:wr.cell? ⟨gbz3,2,none⟩=some (uz0002):=(blk_cell BKz3.out 2).trans rfl
     have hcz69_3:wr.cell? ⟨gbz3,3,none⟩=some (uz0003):=(blk_cell BKz3.out 3).trans rfl
     have hfz69_0:=blk_frozen BKz3.out 0
     have hfz69_1:=blk_frozen BKz3.out 1
     have hfz69_2:=blk_frozen BKz3.out 2
     have hfz69_3:=blk_frozen BKz3.out 3
     have hcz70_0:wr.cell? ⟨gbz2,0,none⟩=some (.int .i64 0):=(blk_cell BKz2.out 0).trans rfl
     have hcz70_1:wr.cell? ⟨gbz2,1,none⟩=some (.string (⟨#[]⟩:ByteArray)):=(blk_cell BKz2.out 1).trans rfl
     have hcz70_2:wr.cell? ⟨gbz2,2,none⟩=some (.slice none 0 0):=(blk_cell BKz2.out 2).trans rfl
     have hcz70_3:wr.cell? ⟨gbz2,3,none⟩=some (.slice none 0 0):=(blk_cell BKz2.out 3).trans rfl
     have hfz70_0:=blk_frozen BKz2.out 0
     have hfz70_1:=blk_frozen BKz2.out 1
     have hfz70_2:=blk_frozen BKz2.out 2
     have hfz70_3:=blk_frozen BKz2.out 3
     obtain ⟨Ao71,co71,eo71⟩:=Kd.R_slice HO_z0002.out
     subst eo71
     obtain ⟨Ao72,co72,eo72⟩:=Kd.R_slice HO_z0003.out
     subst eo72
     go_wp2
     refine bodyPost_ret (results_cell_row rfl _ _ gbz2 25 #[.int .i64 a1_0, .string xz0001_2, .slice Ao71 xz0002_2.length co71, .slice Ao72 xz0003_3.length co72] (0,0) _ rfl (by (with_reducible repeat (first|apply blk_drewN|apply blk_drew|apply blk_alloc));refine blk_put (cs := #[.int .i64 a1_0, .string xz0001_2, .slice Ao71 xz0002_2.length co71, .slice none 0 0]) ?_ 3 _ rfl;(with_reducible repeat (first|apply blk_drewN|apply blk_drew|apply blk_alloc));refine blk_put (cs := #[.int .i64 a1_0, .string xz0001_2, .slice none 0 0, .slice none 0 0]) ?_ 2 _ rfl;(with_reducible repeat (first|apply blk_drewN|apply blk_drew|apply blk_alloc));refine blk_put (cs := #[.int .i64 a1_0, .string (⟨#[]⟩:ByteArray), .slice none 0 0, .slice none 0 0]) ?_ 1 _ rfl;(with_reducible repeat (first|apply blk_drewN|apply blk_drew|apply blk_alloc));refine blk_put (cs := #[.int .i64 0, .string (⟨#[]⟩:ByteArray), .slice none 0 0, .slice none 0 0]) ?_ 0 _ rfl;(with_reducible repeat (first|apply blk_drewN|apply blk_drew|apply blk_alloc));exact BKz2.out) Tryz.underlying25 rfl (by kernel_rfl)) rfl ?_
     exact ⟨_,_,oE,by (with_reducible repeat (first|apply Kd.R_alloc|apply Kd.R_drewN|apply Kd.R_drew));exact Kd.R_mono (Kd.R_far (p:=⟨gbz2,3,none⟩) (Kd.R_far (p:=⟨gbz2,2,none⟩) (Kd.R_far (p:=⟨gbz2,1,none⟩) (Kd.R_far (p:=⟨gbz2,0,none⟩) (Kd.R_types HO_z0002.out BKz2.out (by decide)) (fun _ hk=>hk.2) (.int .i64 a1_0)) (fun _ hk=>hk.2) (.string xz0001_2)) (fun _ hk=>hk.2) (.slice Ao71 xz0002_2.length co71)) (fun _ hk=>hk.2) (.slice Ao72 xz0003_3.length co72)) (fun _ hk=>trivial),by (with_reducible repeat (first|apply Kd.R_alloc|apply Kd.R_drewN|apply Kd.R_drew));exact Kd.R_mono (Kd.R_far (p:=⟨gbz2,3,none⟩) (Kd.R_far (p:=⟨gbz2,2,none⟩) (Kd.R_far (p:=⟨gbz2,1,none⟩) (Kd.R_far (p:=⟨gbz2,0,none⟩) (Kd.R_mono HO_z0003.out (fun k_ hk=>(⟨hk,hk.2.1⟩:_∧k_≠gbz2))) (fun _ hk=>hk.2) (.int .i64 a1_0)) (fun _ hk=>hk.2) (.string xz0001_2)) (fun _ hk=>hk.2) (.slice Ao71 xz0002_2.length co71)) (fun _ hk=>hk.2) (.slice Ao72 xz0003_3.length co72)) (fun _ hk=>hk.1.1),oB3 GEz1.out GEz2.out GEz3.out⟩
    rw [if_pos c51] at H
    have c51b0:decide (x7_3<(l1_4.length:Int))=true:=decide_eq_true c51
    clear c51
    by_cases c52:0≤x7_3
    ·
     rw [if_pos c52] at H
     have c52b0:decide (0≤x7_3)=true:=decide_eq_true c52
     clear c52
     replace H:=Option.bind_eq_some_iff.mp H
     obtain ⟨⟨tz10,tz11,tz12,tz13⟩,A530,H⟩:=H
     replace H:(if xz0003_3.length<1954687338268 then (sT.l1 k3 a0 (wrap64 (x7_3+1)) a1_0 a1_1 a1_2 l1_3 l1_4 a1_0 xz0001_2 xz0002_2 (xz0003_3++[(⟨tz10,tz11,tz12,tz13⟩:S25)])) else (none))=some (r1,r2,r3,r4):=H
     have A53:=Ak A530
     clear A530
     by_cases c54:xz0003_3.length<1954687338268
     rotate_left
     ·
      rw [if_neg c54] at H
      exact absurd H (by simp)
     rw [if_pos c54] at H
     have LMc54:=Ak c54
     clear c54
     obtain ⟨yz14,hyz14⟩ : ∃ y_:List (S25),y_=(xz0003_3++[(⟨tz10,tz11,tz12,tz13⟩:S25)]):=⟨_,rfl⟩
     replace H:(sT.l1 k3 a0 (wrap64 (x7_3+1)) a1_0 a1_1 a1_2 l1_3 l1_4 a1_0 xz0001_2 xz0002_2 yz14)=some (r1,r2,r3,r4):=by first|(rw [hyz14];with_reducible exact H)|(have H2_:=(Option.bind_some _ _).symm.trans H;rw [hyz14];with_reducible exact H2_)|(have H2_:=(Option.bind_some _ _).symm.trans H;with_reducible exact H2_)|with_reducible exact H|(rw [hyz14];exact H)|exact H
     have Nyz14:=Ak hyz14
     clear hyz14
     have H':=Ak H
     clear H
     have hnb55:=NBz1_556108.out
     have hnc55:=NBz2_556107.out
     have hnb56:=NBz1_556109.out
     have hnc56:=NBz3_556107.out
     have hcz57_0:wr.cell? ⟨gbz1,0,none⟩=some (.int .i64 a1_0):=(blk_cell BKz1.out 0).trans rfl
     have hcz57_1:wr.cell? ⟨gbz1,1,none⟩=some (.int .i64 a1_1):=(blk_cell BKz1.out 1).trans rfl
     have hcz57_2:wr.cell? ⟨gbz1,2,none⟩=some (.int .i64 a1_2):=(blk_cell BKz1.out 2).trans rfl
     have hcz57_3:wr.cell? ⟨gbz1,3,none⟩=some (.slice A1_3 l1_3.length c1_3):=(blk_cell BKz1.out 3).trans rfl
     have hcz57_4:wr.cell? ⟨gbz1,4,none⟩=some (.slice A1_4 l1_4.length c1_4):=(blk_cell BKz1.out 4).trans rfl
     have hfz57_0:=blk_frozen BKz1.out 0
     have hfz57_1:=blk_frozen BKz1.out 1
     have hfz57_2:=blk_frozen BKz1.out 2
     have hfz57_3:=blk_frozen BKz1.out 3
     have hfz57_4:=blk_frozen BKz1.out 4
     try go_wp2
     have n0_:=Ak (Kd.R_drew HO_z0002.out)
     have n1_:=Ak (Kd.R_drew HO_z0003.out)
     have n2_:=Ak (blk_drew BKz1.out)
     have n3_:=Ak (blk_drew BKz2.out)
     have n4_:=Ak (blk_drew BKz3.out)
     have n5_:=Ak (below_drew1 HB.out)
     clear HO_z0002
     clear HO_z0003
     clear BKz1
     clear BKz2
     clear BKz3
     clear HB
     have HO_z0002:=n0_
     have HO_z0003:=n1_
     have BKz1:=n2_
     have BKz2:=n3_
     have BKz3:=n4_
     have HB:=n5_
     clear n0_ n1_ n2_ n3_ n4_ n5_
     have pz15:0≤(x7_3:Int):=of_decide_eq_true oA
     have qz15:x7_3<(l1_4.length:Int):=of_decide_eq_true oA
     obtain ⟨adz15,Az15_3,cz15_3,Az15_4,cz15_4,ez15,hxz15_0,hxz15_1,hxz15_2,hxz15_3,hxz15_4,hlz15_3,hiz15_3,hlz15_4,hiz15_4⟩:=at_T102 HR1_4.out x7_3 pz15 qz15
     have hwz15_4:=hxz15_4
     have hwz15_3:=hxz15_3
     have hwz15_2:=hxz15_2
     have hwz15_1:=hxz15_1
     have hwz15_0:=hxz15_0
     cases ez15
     replace hxz15_0:=(HB.out.cell (World.block_lt_of_cell? w _ hxz15_0)).trans hxz15_0
     replace hxz15_1:=(HB.out.cell (World.block_lt_of_cell? w _ hxz15_1)).trans hxz15_1
     replace hxz15_2:=(HB.out.cell (World.block_lt_of_cell? w _ hxz15_2)).trans hxz15_2
     replace hxz15_3:=(HB.out.cell (World.block_lt_of_cell? w _ hxz15_3)).trans hxz15_3
     replace hxz15_4:=(HB.out.cell (World.block_lt_of_cell? w _ hxz15_4)).trans hxz15_4
     have HRz15_3:=Ak hiz15_3
     have HCz15_3:=Ak hlz15_3
     clear hiz15_3 hlz15_3
     have HRz15_4:=Ak hiz15_4
     have HCz15_4:=Ak hlz15_4
     clear hiz15_4 hlz15_4
     replace pz15:=eq_true pz15
     replace qz15:=eq_true qz15
     refine start_ (n:=13) (S:=fun w'=>w'.cell? ⟨gbz3,0,none⟩=some (.int .i64 a1_0)∧w'.cell? ⟨gbz3,1,none⟩=some (.string xz0001_2)∧w'.cell? ⟨gbz3,2,none⟩=some (uz0002)∧w'.cell? ⟨gbz3,3,none⟩=some (uz0003)∧w'.cell? ⟨gbz1,0,none⟩=some (.int .i64 a1_0)∧w'.cell? ⟨gbz1,1,none⟩=some (.int .i64 a1_1)∧w'.cell? ⟨gbz1,2,none⟩=some (.int .i64 a1_2)∧w'.cell? ⟨gbz1,3,none⟩=some (.slice A1_3 l1_3.length c1_3)∧w'.cell? ⟨gbz1,4,none⟩=some (.slice (some adz15) l1_4.length c1_4)∧w'.cell? (adz15.add ((x7_3).toNat*5))=some (.int .i64 ((rd_T102 l1_4 x7_3).f0))∧w'.cell? ⟨(adz15.add ((x7_3).toNat*5)).block,(adz15.add ((x7_3).toNat*5)).off+1,none⟩=some (.int .i64 ((rd_T102 l1_4 x7_3).f1))∧w'.cell? ⟨(adz15.add ((x7_3).toNat*5)).block,(adz15.add ((x7_3).toNat*5)).off+2,none⟩=some (.int .i64 ((rd_T102 l1_4 x7_3).f2))∧w'.cell? ⟨(adz15.add ((x7_3).toNat*5)).block,(adz15.add ((x7_3).toNat*5)).off+3,none⟩=some (.slice Az15_3 ((rd_T102 l1_4 x7_3).f3).length cz15_3)∧w'.cell? ⟨(adz15.add ((x7_3).toNat*5)).block,(adz15.add ((x7_3).toNat*5)).off+4,none⟩=some (.slice Az15_4 ((rd_T102 l1_4 x7_3).f4).length cz15_4)) (ds:=[12]) #[false,false,false,false,false,false,false,false,false,false,false,false,false] (by kernel_rfl) rfl rfl ⟨(blk_cell BKz3.out 0).trans rfl,(blk_cell BKz3.out 1).trans rfl,(blk_cell BKz3.out 2).trans rfl,(blk_cell BKz3.out 3).trans rfl,(blk_cell BKz1.out 0).trans rfl,(blk_cell BKz1.out 1).trans rfl,(blk_cell BKz1.out 2).trans rfl,(blk_cell BKz1.out 3).trans rfl,(blk_cell BKz1.out 4).trans rfl,((HB.out.cell (World.block_lt_of_cell? w _ hwz15_0)).trans hwz15_0),((HB.out.cell (World.block_lt_of_cell? w _ hwz15_1)).trans hwz15_1),((HB.out.cell (World.block_lt_of_cell? w _ hwz15_2)).trans hwz15_2),((HB.out.cell (World.block_lt_of_cell? w _ hwz15_3)).trans hwz15_3),((HB.out.cell (World.block_lt_of_cell? w _ hwz15_4)).trans hwz15_4)⟩ (fun hHeld=>?_);refine with_tabW sT.tab14 sT.bits14 (fun HT_ HW_=>?_)
     generalize wr.drew=w58 at HO_z0002 HO_z0003 BKz1 BKz2 BKz3 HB HRz15_3 HRz15_4 hxz15_0 hxz15_1 hxz15_2 hxz15_3 hxz15_4 hHeld ⊢
     refine zP 0 (some 66) (mA 13 1) ?_
     refine zP 2 (some 68) (mA 13 5) ?_
     refine zP 3 (some 69) (mA 13 13) ?_
     refine zP 5 (some 71) (mA 13 45) ?_
     refine zT 1 (some 67) (mA 13 47) ?_
     refine zT 4 (some 70) (mA 13 63) ?_
     refine zP 6 (some 72) (mA 13 127) ?_
     refine zT 7 (some 73) (mA 13 255) ?_
     refine zO 8 (some 74) (mA 13 511) (fun K hK=>?_)
     refine goes_ Tryz.func71 (by kernel_rfl) rfl #[.string a0, .agg #[.int .i64 ((rd_T102 l1_4 x7_3).f0), .int .i64 ((rd_T102 l1_4 x7_3).f1), .int .i64 ((rd_T102 l1_4 x7_3).f2), .slice Az15_3 ((rd_T102 l1_4 x7_3).f3).length cz15_3, .slice Az15_4 ((rd_T102 l1_4 x7_3).f4).length cz15_4]] (by rfl) rfl rfl oM ?_
     with_reducible refine (ih k3 (by have:=HJ2.out;have:=HK2.out;have:=HK3.out;omega) a0 ((rd_T102 l1_4 x7_3).f0) ((rd_T102 l1_4 x7_3).f1) ((rd_T102 l1_4 x7_3).f2) _ _ ((rd_T102 l1_4 x7_3).f3) _ _ ((rd_T102 l1_4 x7_3).f4) tz10 tz11 tz12 tz13 _ ?side1 ?side2 ?side3 ?side4 A53.out).mono ?_
     (case side1=>repeat (first|exact (Kd.C_below HRz15_3.out HB.out)|(with_reducible refine Kd.C_alloc ?_ _)|(with_reducible refine Kd.C_drewN ?_ _)|(with_reducible refine Kd.C_drew ?_)))
     (case side2=>exact HCz15_3.out)
     (case side3=>repeat (first|exact (Kd.C_below HRz15_4.out HB.out)|(with_reducible refine Kd.C_alloc ?_ _)|(with_reducible refine Kd.C_drewN ?_ _)|(with_reducible refine Kd.C_drew ?_)))
     (case side4=>exact HCz15_4.out)
     rintro e w59 ⟨vz16,vz17,rfl,ho0,ho1,hb⟩
     refine ⟨_,rfl,?_⟩
     have n0_:=Ak (Kd.R_elder' (oR HO_z0002.out) (Kd.R_base ho0) hb)
     have n1_:=Ak (Kd.R_mono (Kd.R_told (Kd.R_told (Kd.R_old (oR HO_z0003.out) hb) (Kd.R_base ho0)) (Kd.R_base ho1)) (fun _ h_=>h_.1))
     have n2_:=Ak (Kd.R_lower (Kd.R_new' ho0 (Kd.R_lt (oR HO_z0002.out))) (below_size (oB3 GEz1.out GEz2.out GEz3.out)))
     have n3_:=Ak (Kd.R_lower (Kd.R_newB (Kd.R_newB (Kd.R_new' (Kd.R_new' ho1 (Kd.R_lt (oR HO_z0002.out))) (Kd.R_lt (oR HO_z0003.out))) (g:=gbz2) (o := .cells #[.int .i64 0, .string (⟨#[]⟩:ByteArray), .slice none 0 0, .slice none 0 0] 25 (0,0)) (oL BKz2.out)) (g:=gbz3) (o := .cells #[.int .i64 a1_0, .string xz0001_2,uz0002,uz0003] 25 (0,0)) (oL BKz3.out)) (below_size (oB3 GEz1.out GEz2.out GEz3.out)))
     have n4_:=Ak (blk_below (g:=gbz1) (o := .cells #[.int .i64 a1_0, .int .i64 a1_1, .int .i64 a1_2, .slice A1_3 l1_3.length c1_3, .slice (some adz15) l1_4.length c1_4] 102 (0,0)) (oL BKz1.out) hb)
     have n5_:=Ak (blk_below (g:=gbz2) (o := .cells #[.int .i64 0, .string (⟨#[]⟩:ByteArray), .slice none 0 0, .slice none 0 0] 25 (0,0)) (oL BKz2.out) hb)
     have n6_:=Ak (blk_below (g:=gbz3) (o := .cells #[.int .i64 a1_0, .string xz0001_2,uz0002,uz0003] 25 (0,0)) (oL BKz3.out) hb)
     have n7_:=Ak (below_step (oB3 GEz1.out GEz2.out GEz3.out) hb)
     clear HO_z0002
     clear HO_z0003
     clear BKz1
     clear BKz2
     clear BKz3
     clear HB
     have HO_z0002:=n0_
     have HO_z0003:=n1_
     have HOz18:=n2_
     have HOz19:=n3_
     have BKz1:=n4_
     have BKz2:=n5_
     have BKz3:=n6_
     have HB:=n7_
     clear n0_ n1_ n2_ n3_ n4_ n5_ n6_ n7_
     (try clear hb)
     (try clear hb2)
     (try clear hk)
     (try clear hi)
     (try clear ho0)
     (try clear ho1)
     obtain ⟨Ao61,co61,eo61⟩:=Kd.R_slice HOz18.out
     (first|subst eo61|(injection eo61 with f1_ f2_ f3_;have f4_:=f1_.symm;have f5_:=f3_.symm;clear f1_ f2_ f3_;subst f4_;subst f5_))
     obtain ⟨Ao62,co62,eo62⟩:=Kd.R_slice HOz19.out
     (first|subst eo62|(injection eo62 with f1_ f2_ f3_;have f4_:=f1_.symm;have f5_:=f3_.symm;clear f1_ f2_ f3_;subst f4_;subst f5_))
     refine hK.out _ _ ⟨(blk_cell BKz3.out 0).trans rfl,(blk_cell BKz3.out 1).trans rfl,(blk_cell BKz3.out 2).trans rfl,(blk_cell BKz3.out 3).trans rfl,(blk_cell BKz1.out 0).trans rfl,(blk_cell BKz1.out 1).trans rfl,(blk_cell BKz1.out 2).trans rfl,(blk_cell BKz1.out 3).trans rfl,(blk_cell BKz1.out 4).trans rfl,((HB.out.cell (World.block_lt_of_cell? w _ hwz15_0)).trans hwz15_0),((HB.out.cell (World.block_lt_of_cell? w _ hwz15_1)).trans hwz15_1),((HB.out.cell (World.block_lt_of_cell? w _ hwz15_2)).trans hwz15_2),((HB.out.cell (World.block_lt_of_cell? w _ hwz15_3)).trans hwz15_3),((HB.out.cell (World.block_lt_of_cell? w _ hwz15_4)).trans hwz15_4)⟩ (fun hHeld=>?_)
     clear hK K
     refine norm_ (a':=?_) ?_ ?_
     rotate_left
     ·
      show Act.put _ (some 74) _=_
      simp only [Act.put,List.setIfInBounds_toArray,List.set_cons_zero,List.set_cons_succ,i64_w,i32_w]
      rfl
     refine zO 9 (some 75) (mA 13 1023) (fun K hK=>?_)
     refine value_ (w1:=?_) (v:=?_) (by rfl) rfl ?_ ?_
     rotate_left 2
     ·
      go_simp
      constructor
      ·
       rfl
      rfl
     refine hK.out _ _ ⟨(blk_cell (blk_alloc BKz3.out _) 0).trans rfl,(blk_cell (blk_alloc BKz3.out _) 1).trans rfl,(blk_cell (blk_alloc BKz3.out _) 2).trans rfl,(blk_cell (blk_alloc BKz3.out _) 3).trans rfl,(blk_cell (blk_alloc BKz1.out _) 0).trans rfl,(blk_cell (blk_alloc BKz1.out _) 1).trans rfl,(blk_cell (blk_alloc BKz1.out _) 2).trans rfl,(blk_cell (blk_alloc BKz1.out _) 3).trans rfl,(blk_cell (blk_alloc BKz1.out _) 4).trans rfl,(World.cell?_alloc_lt _ _ _ (World.block_lt_of_cell? _ _ (((HB.out.cell (World.block_lt_of_cell? w _ hwz15_0)).trans hwz15_0)))).trans (((HB.out.cell (World.block_lt_of_cell? w _ hwz15_0)).trans hwz15_0)),(World.cell?_alloc_lt _ _ _ (World.block_lt_of_cell? _ _ (((HB.out.cell (World.block_lt_of_cell? w _ hwz15_1)).trans hwz15_1)))).trans (((HB.out.cell (World.block_lt_of_cell? w _ hwz15_1)).trans hwz15_1)),(World.cell?_alloc_lt _ _ _ (World.block_lt_of_cell? _ _ (((HB.out.cell (World.block_lt_of_cell? w _ hwz15_2)).trans hwz15_2)))).trans (((HB.out.cell (World.block_lt_of_cell? w _ hwz15_2)).trans hwz15_2)),(World.cell?_alloc_lt _ _ _ (World.block_lt_of_cell? _ _ (((HB.out.cell (World.block_lt_of_cell? w _ hwz15_3)).trans hwz15_3)))).trans (((HB.out.cell (World.block_lt_of_cell? w _ hwz15_3)).trans hwz15_3)),(World.cell?_alloc_lt _ _ _ (World.block_lt_of_cell? _ _ (((HB.out.cell (World.block_lt_of_cell? w _ hwz15_4)).trans hwz15_4)))).trans (((HB.out.cell (World.block_lt_of_cell? w _ hwz15_4)).trans hwz15_4))⟩ (fun hHeld=>?_)
     clear hK K
     refine norm_ (a':=?_) ?_ ?_
     rotate_left
     ·
      show Act.put _ (some 75) _=_
      simp only [Act.put,List.setIfInBounds_toArray,List.set_cons_zero,List.set_cons_succ,i64_w,i32_w]
      rfl
     refine zO 10 (some 76) (mA 13 2047) (fun K hK=>?_)
     refine Kd.R_append_step k25 (w0:=w) w.heap.size (by rfl) (.tmp 67) (.tmp 75) 23 25 (.agg #[(.int .i64 0),(.string ⟨#[]⟩),(.slice none 0 0),(.slice none 0 0)]) 72 rfl Tryz.underlying23 info25 rfl (by decide) (by omega) uz0003 xz0003_3 (⟨tz10,tz11,tz12,tz13⟩:S25) [.int .i64 tz10, .string tz11, .slice Ao61 tz12.length co61, .slice Ao62 tz13.length co62] (fun k_=>some k_≠(uz0002:Value).ownBlock∧k_≠gbz2∧k_≠gbz3) (fun k_=>((fun k_=>some k_≠(uz0002:Value).ownBlock∧k_≠gbz2∧k_≠gbz3)) k_∧some k_≠(uz0003:Value).ownBlock) rfl rfl ?aP (fun _ hk=>hk) ?aF ?aO ?aB ?aS ?aL ?_
     (case aP=>exact k25_mkM _ _ _ (⟨tz10,tz11,tz12,tz13⟩:S25) (Kd.R_mono (Kd.R_types (Kd.R_types (Kd.R_apart' (HOz18.out) (Kd.R_typed HO_z0003.out) (by decide)) BKz2.out (by decide)) BKz3.out (by decide)) (fun k_ hk=>⟨⟨hk.1.1.1.2,⟨hk.1.2,hk.2⟩⟩,hk.1.1.2⟩)) (Kd.R_mono (HOz19.out) (fun k_ hk=>⟨⟨hk.1.1.1.2,⟨hk.1.2,hk.2⟩⟩,hk.1.1.2⟩)))
     (case aB=>exact (oB3 GEz1.out GEz2.out GEz3.out))
     (case aF=>exact (fun k_ hk=>⟨Kd.fresh' (Kd.R_lt (oR HO_z0002.out)) k_ hk,Kd.freshB (g:=gbz2) (o := .cells #[.int .i64 0, .string (⟨#[]⟩:ByteArray), .slice none 0 0, .slice none 0 0] 25 (0,0)) (oL BKz2.out) k_ hk,Kd.freshB (g:=gbz3) (o := .cells #[.int .i64 a1_0, .string xz0001_2,uz0002,uz0003] 25 (0,0)) (oL BKz3.out) k_ hk⟩))
     (case aO=>exact (by (with_reducible repeat (first|apply Kd.R_alloc|apply Kd.R_drewN|apply Kd.R_drew));exact Kd.R_mono HO_z0003.out (fun _ hk=>⟨hk.1.1.1,⟨hk.1.1.2.1,hk.1.1.2.2⟩⟩)))
     (case aS=>exact (below_size (oB3 GEz1.out GEz2.out GEz3.out)))
     (case aL=>have:=LMc54.out;omega)
     intro vz20 w60 ho hb hg hat
     rw [← Nyz14.out] at ho
     have n0_:=Ak (Kd.R_over' (oR HO_z0002.out) (Kd.R_typed (oR HO_z0003.out)) (by decide) hg)
     have n1_:=Ak (blk_grown (g:=gbz1) (o := .cells #[.int .i64 a1_0, .int .i64 a1_1, .int .i64 a1_2, .slice A1_3 l1_3.length c1_3, .slice (some adz15) l1_4.length c1_4] 102 (0,0)) (oL BKz1.out) hg (Kd.R_ne HO_z0003.out BKz1.out (by decide)))
     have n2_:=Ak (blk_grown (g:=gbz2) (o := .cells #[.int .i64 0, .string (⟨#[]⟩:ByteArray), .slice none 0 0, .slice none 0 0] 25 (0,0)) (oL BKz2.out) hg (Kd.R_away HO_z0003.out (fun _ hk=>hk.1.1.2.1)))
     have n3_:=Ak (blk_grown (g:=gbz3) (o := .cells #[.int .i64 a1_0, .string xz0001_2,uz0002,uz0003] 25 (0,0)) (oL BKz3.out) hg (Kd.R_away HO_z0003.out (fun _ hk=>hk.1.1.2.2)))
     have n4_:=Ak (hb)
     have n5_:=Ak (ho)
     clear HO_z0002
     clear BKz1
     clear BKz2
     clear BKz3
     clear HB
     clear HO_z0003
     clear HOz18
     clear HOz19
     have HO_z0002:=n0_
     have BKz1:=n1_
     have BKz2:=n2_
     have BKz3:=n3_
     have HB:=n4_
     have HOz21:=n5_
     clear n0_ n1_ n2_ n3_ n4_ n5_
     clear ho hb hg hat
     obtain ⟨Ao63,co63,eo63⟩:=Kd.R_slice HOz21.out
     (first|subst eo63|(injection eo63 with f1_ f2_ f3_;have f4_:=f1_.symm;have f5_:=f3_.symm;clear f1_ f2_ f3_;subst f4_;subst f5_))
     refine hK.out _ _ ⟨(blk_cell BKz3.out 0).trans rfl,(blk_cell BKz3.out 1).trans rfl,(blk_cell BKz3.out 2).trans rfl,(blk_cell BKz3.out 3).trans rfl,(blk_cell BKz1.out 0).trans rfl,(blk_cell BKz1.out 1).trans rfl,(blk_cell BKz1.out 2).trans rfl,(blk_cell BKz1.out 3).trans rfl,(blk_cell BKz1.out 4).trans rfl,((HB.out.cell (World.block_lt_of_cell? w _ hwz15_0)).trans hwz15_0),((HB.out.cell (World.block_lt_of_cell? w _ hwz15_1)).trans hwz15_1),((HB.out.cell (World.block_lt_of_cell? w _ hwz15_2)).trans hwz15_2),((HB.out.cell (World.block_lt_of_cell? w _ hwz15_3)).trans hwz15_3),((HB.out.cell (World.block_lt_of_cell? w _ hwz15_4)).trans hwz15_4)⟩ (fun hHeld=>?_)
     clear hK K
     refine norm_ (a':=?_) ?_ ?_
     rotate_left
     ·
      show Act.put _ (some 76) _=_
      simp only [Act.put,List.setIfInBounds_toArray,List.set_cons_zero,List.set_cons_succ,i64_w,i32_w]
      rfl
     refine zP 11 (some 77) (mA 13 4095) ?_
     refine last_ (i:=12) (N:=none) #[true,true,true,true,true,true,true,true,true,true,true,true,true] rfl rfl (one_of HT_.out (by kernel_rfl)) (by decide) (fun K hK=>?_)
     have hs64:w60.cell? ⟨gbz3,3,none⟩=some (uz0003):=(blk_cell BKz3.out 3).trans rfl
     have hfs64:=blk_frozen BKz3.out 3
     have hns64_0:=NBz1_556109.out
     have hns64_1:=NBz2_556109.out
     have hms64_0:=NBz3_556107.out
     have hms64_1:=NBz3_556108.out
     refine skip_ (w1:=?_) (by rfl) rfl ?_ ?_
     rotate_left
     ·
      go_simp
      rfl
     refine hK.out _ _ ?_
     clear hK K
     refine done_ (done_of HT_.out (by kernel_rfl)) ?_
     try go_wp2
     go_roundg k3
     case measure=>have:=HJ2.out;have:=HK2.out;have:=HK3.out;omega
     case rel=>exact ⟨(wrap64 (x7_3+1)),(yz14),(.slice Ao63 yz14.length co63),oS,H',⟨by have:=HJ2.out;have:=HK2.out;have:=HK3.out;omega⟩,⟨by (with_reducible repeat (first|apply Kd.R_alloc|apply Kd.R_drewN|apply Kd.R_drew));exact Kd.R_mono (Kd.R_far (p:=⟨gbz3,3,none⟩) (Kd.R_types HO_z0002.out BKz3.out (by decide)) (fun _ hk=>hk.2) (.slice Ao63 yz14.length co63)) (fun _ hk=>trivial)⟩,⟨by (with_reducible repeat (first|apply Kd.R_alloc|apply Kd.R_drewN|apply Kd.R_drew));exact Kd.R_mono (Kd.R_far (p:=⟨gbz3,3,none⟩) (Kd.R_mono HOz21.out (fun k_ hk=>(⟨hk,hk.2.2⟩:_∧k_≠gbz3))) (fun _ hk=>hk.2) (.slice Ao63 yz14.length co63)) (fun _ hk=>⟨hk.1.1,⟨hk.1.2.1,hk.1.2.2⟩⟩)⟩,⟨by (with_reducible repeat (first|apply blk_drewN|apply blk_drew|apply blk_alloc));refine blk_far ?_ NBz1_556109.out _;(with_reducible repeat (first|apply blk_drewN|apply blk_drew|apply blk_alloc));exact BKz1.out⟩,⟨by (with_reducible repeat (first|apply blk_drewN|apply blk_drew|apply blk_alloc));refine blk_far ?_ NBz2_556109.out _;(with_reducible repeat (first|apply blk_drewN|apply blk_drew|apply blk_alloc));exact BKz2.out⟩,⟨by (with_reducible repeat (first|apply blk_drewN|apply blk_drew|apply blk_alloc));refine blk_put (cs := #[.int .i64 a1_0, .string xz0001_2,uz0002,uz0003]) ?_ 3 _ rfl;(with_reducible repeat (first|apply blk_drewN|apply blk_drew|apply blk_alloc));exact BKz3.out⟩,⟨oB3 GEz1.out GEz2.out GEz3.out⟩⟩
    rw [if_neg c52] at H
    exact absurd H (by simp)
end
end Go.Proofs.YtnejkimpkaopoaaGreatDoor.Q

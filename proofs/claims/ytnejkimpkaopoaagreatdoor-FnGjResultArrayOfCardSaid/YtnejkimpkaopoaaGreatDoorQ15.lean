/- Functions of the program as Lean functions, each with a proof that the call comes to what it gives. Written by prx.py (wip/pr). -/
import Derived.Test.YtnejkimpkaopoaaGreatDoorQ0
section
namespace Go.Proofs.YtnejkimpkaopoaaGreatDoor.Q
open RowKit YtnejkimpkaopoaaGreatDoorW.PrintWords YtnejkimpkaopoaaGreatDoorW.PrintLast YtnejkimpkaopoaaGreatDoorW.PrintMore
attribute [local go_sem] max2_int min2_int max_two min_two max_three min_three max_four min_four
set_option linter.unusedVariables false
set_option linter.unusedSimpArgs false
-- NOT PRINTED: function 39 (gjson_Result_Array)
-- NOT PRINTED: function 8 (impl_GjResultArray)
/-! ### laws_gjKind: function 40 -/
def laws_gjKind.f (a0:Int):Option (Int):=if a0=1 then (some 1) else (if a0=3 then (some 2) else (if a0=4 then (some 3) else (if a0=2 then (some 4) else (if a0=5 then (some 5) else (if a0=6 then (some 5) else (some 0))))))
set_option maxHeartbeats 8000000 in
set_option maxRecDepth 100000 in
theorem laws_gjKind.calls (a0:Int) (r:Int) (w:World) (h:laws_gjKind.f a0=some r) :
 Calls Tryz.prog 40 #[.int .i64 a0] w fun e w'=>e = .returned (.int .i64 r)∧Drawn0 w w':=by
 have H:(if a0=1 then (some 1) else (if a0=3 then (some 2) else (if a0=4 then (some 3) else (if a0=2 then (some 4) else (if a0=5 then (some 5) else (if a0=6 then (some 5) else (some 0)))))))=some r:=h
 clear h
 by_cases c2:a0=1
 ·
  rw [if_pos c2] at H
  have c2b0:(a0 == 1)=true:=beq_iff_eq.mpr c2
  have c2b1:(a0 != 1)=false:=bne_eq_false_iff_eq.mpr c2
  clear c2
  obtain rfl:=Option.some.inj H
  go_enter Tryz.func40,Tryz.ntmps40
  go_wp2
  go_ret
  exact ⟨oS,by repeat (first|exact Drawn0.refl _|apply Drawn0.step)⟩
 rw [if_neg c2] at H
 have c2b0:(a0 == 1)=false:=beq_eq_false_iff_ne.mpr c2
 have c2b1:(a0 != 1)=true:=bne_iff_ne.mpr c2
 by_cases c3:a0=3
 ·
  rw [if_pos c3] at H
  have c3b0:(a0 == 3)=true:=beq_iff_eq.mpr c3
  have c3b1:(a0 != 3)=false:=bne_eq_false_iff_eq.mpr c3
  clear c3
  obtain rfl:=Option.some.inj H
  go_enter Tryz.func40,Tryz.ntmps40
  go_wp2
  go_ret
  exact ⟨oS,by repeat (first|exact Drawn0.refl _|apply Drawn0.step)⟩
 rw [if_neg c3] at H
 have c3b0:(a0 == 3)=false:=beq_eq_false_iff_ne.mpr c3
 have c3b1:(a0 != 3)=true:=bne_iff_ne.mpr c3
 by_cases c4:a0=4
 ·
  rw [if_pos c4] at H
  have c4b0:(a0 == 4)=true:=beq_iff_eq.mpr c4
  have c4b1:(a0 != 4)=false:=bne_eq_false_iff_eq.mpr c4
  clear c4
  obtain rfl:=Option.some.inj H
  go_enter Tryz.func40,Tryz.ntmps40
  go_wp2
  go_ret
  exact ⟨oS,by repeat (first|exact Drawn0.refl _|apply Drawn0.step)⟩
 rw [if_neg c4] at H
 have c4b0:(a0 == 4)=false:=beq_eq_false_iff_ne.mpr c4
 have c4b1:(a0 != 4)=true:=bne_iff_ne.mpr c4
 by_cases c5:a0=2
 ·
  rw [if_pos c5] at H
  have c5b0:(a0 == 2)=true:=beq_iff_eq.mpr c5
  have c5b1:(a0 != 2)=false:=bne_eq_false_iff_eq.mpr c5
  clear c5
  obtain rfl:=Option.some.inj H
  go_enter Tryz.func40,Tryz.ntmps40
  go_wp2
  go_ret
  exact ⟨oS,by repeat (first|exact Drawn0.refl _|apply Drawn0.step)⟩
 rw [if_neg c5] at H
 have c5b0:(a0 == 2)=false:=beq_eq_false_iff_ne.mpr c5
 have c5b1:(a0 != 2)=true:=bne_iff_ne.mpr c5
 by_cases c6:a0=5
 ·
  rw [if_pos c6] at H
  have c6b0:(a0 == 5)=true:=beq_iff_eq.mpr c6
  have c6b1:(a0 != 5)=false:=bne_eq_false_iff_eq.mpr c6
  clear c6
  obtain rfl:=Option.some.inj H
  go_enter Tryz.func40,Tryz.ntmps40
  go_wp2
  go_ret
  exact ⟨oS,by repeat (first|exact Drawn0.refl _|apply Drawn0.step)⟩
 rw [if_neg c6] at H
 have c6b0:(a0 == 5)=false:=beq_eq_false_iff_ne.mpr c6
 have c6b1:(a0 != 5)=true:=bne_iff_ne.mpr c6
 by_cases c7:a0=6
 ·
  rw [if_pos c7] at H
  have c7b0:(a0 == 6)=true:=beq_iff_eq.mpr c7
  have c7b1:(a0 != 6)=false:=bne_eq_false_iff_eq.mpr c7
  clear c7
  obtain rfl:=Option.some.inj H
  go_enter Tryz.func40,Tryz.ntmps40
  go_wp2
  go_ret
  exact ⟨oS,by repeat (first|exact Drawn0.refl _|apply Drawn0.step)⟩
 rw [if_neg c7] at H
 have c7b0:(a0 == 6)=false:=beq_eq_false_iff_ne.mpr c7
 have c7b1:(a0 != 6)=true:=bne_iff_ne.mpr c7
 obtain rfl:=Option.some.inj H
 go_enter Tryz.func40,Tryz.ntmps40
 go_wp2
 go_ret
 exact ⟨oS,by repeat (first|exact Drawn0.refl _|apply Drawn0.step)⟩
end Go.Proofs.YtnejkimpkaopoaaGreatDoor.Q
end
section
/- Functions of the program as Lean functions, each with a proof that the call comes to what it gives. Written by prx.py (wip/pr). -/
namespace Go.Proofs.YtnejkimpkaopoaaGreatDoor.Q
open RowKit YtnejkimpkaopoaaGreatDoorW.PrintWords YtnejkimpkaopoaaGreatDoorW.PrintLast YtnejkimpkaopoaaGreatDoorW.PrintMore
attribute [local go_sem] max2_int min2_int max_two min_two max_three min_three max_four min_four
set_option linter.unusedVariables false
set_option linter.unusedSimpArgs false
/-! ### sE: function 41 -/
mutual
def sE.j0:Nat→Bool→Int→ByteArray→List ByteArray→List (S25)→Int→ByteArray→List ByteArray→List (S25)→Option (Bool)
  | 0,_,_,_,_,_,_,_,_,_=>none
  | k+1,x36,xz0000,xz0001,xz0002,xz0003,xz1000,xz1001,xz1002,xz1003=>if x36=true then (some false) else (sE.l0 k 0 xz0000 xz0001 xz0002 xz0003 xz1000 xz1001 xz1002 xz1003)
def sE.l0:Nat→Int→Int→ByteArray→List ByteArray→List (S25)→Int→ByteArray→List ByteArray→List (S25)→Option (Bool)
  | 0,_,_,_,_,_,_,_,_,_=>none
  | k+1,x5,xz0000,xz0001,xz0002,xz0003,xz1000,xz1001,xz1002,xz1003=>if x5<(xz0002.length:Int) then (if 0≤x5 then (if x5<(xz1002.length:Int) then (if (rdOf ByteArray.empty xz0002 x5).toList=(rdOf ByteArray.empty xz1002 x5).toList then (sE.l0 k (wrap64 (x5+1)) xz0000 xz0001 xz0002 xz0003 xz1000 xz1001 xz1002 xz1003) else (some false)) else (none)) else (none)) else (sE.l1 k 0 xz0000 xz0001 xz0002 xz0003 xz1000 xz1001 xz1002 xz1003)
def sE.l1:Nat→Int→Int→ByteArray→List ByteArray→List (S25)→Int→ByteArray→List ByteArray→List (S25)→Option (Bool)
  | 0,_,_,_,_,_,_,_,_,_=>none
  | k+1,x6,xz0000,xz0001,xz0002,xz0003,xz1000,xz1001,xz1002,xz1003=>if x6<(xz0003.length:Int) then (if 0≤x6 then (if x6<(xz1003.length:Int) then ((sE.f k ((rd_T25 xz0003 x6).f0) ((rd_T25 xz0003 x6).f1) ((rd_T25 xz0003 x6).f2) ((rd_T25 xz0003 x6).f3) ((rd_T25 xz1003 x6).f0) ((rd_T25 xz1003 x6).f1) ((rd_T25 xz1003 x6).f2) ((rd_T25 xz1003 x6).f3)).bind fun tz2=>(if tz2=true then (sE.l1 k (wrap64 (x6+1)) xz0000 xz0001 xz0002 xz0003 xz1000 xz1001 xz1002 xz1003) else (some false))) else (none)) else (none)) else (some true)
def sE.f:Nat→Int→ByteArray→List ByteArray→List (S25)→Int→ByteArray→List ByteArray→List (S25)→Option (Bool)
  | 0,_,_,_,_,_,_,_,_=>none
  | k+1,a0_0,a0_1,l0_2,l0_3,a1_0,a1_1,l1_2,l1_3=>if a0_0=a1_0 then (if a0_1.toList=a1_1.toList then (if (l0_2.length:Int)=(l1_2.length:Int) then (sE.j0 k ((l0_3.length:Int) != (l1_3.length:Int)) a0_0 a0_1 l0_2 l0_3 a1_0 a1_1 l1_2 l1_3) else (sE.j0 k true a0_0 a0_1 l0_2 l0_3 a1_0 a1_1 l1_2 l1_3)) else (sE.j0 k true a0_0 a0_1 l0_2 l0_3 a1_0 a1_1 l1_2 l1_3)) else (sE.j0 k true a0_0 a0_1 l0_2 l0_3 a1_0 a1_1 l1_2 l1_3)
end
def sE.T6:Bool × List (List Nat × List Nat):=(true,[([],[]),([0],[0]),([],[]),([1,2],[1,2]),([3],[3]),([],[]),([5],[5]),([],[]),([6,7],[6,7]),([8],[8]),([4,9],[4,9])])
def sE.B6:List Nat:=[0,1,0,7,15,0,32,0,224,480,1023]
theorem sE.tab6:rtab .any (opsOf Tryz.f41 6)=sE.T6:=by kernel_rfl
theorem sE.bits6:waitsOk sE.T6.2 sE.B6=true:=by kernel_rfl
def sE.T11:Bool × List (List Nat × List Nat):=(true,[([],[]),([0],[0]),([],[]),([1,2],[1,2]),([3],[3]),([],[]),([5],[5]),([],[]),([6,7],[6,7]),([8],[8]),([4,9],[4,9]),([10],[10])])
def sE.B11:List Nat:=[0,1,0,7,15,0,32,0,224,480,1023,2047]
theorem sE.tab11:rtab .any (opsOf Tryz.f41 11)=sE.T11:=by kernel_rfl
theorem sE.bits11:waitsOk sE.T11.2 sE.B11=true:=by kernel_rfl
set_option maxHeartbeats 8000000 in
set_option maxRecDepth 100000 in
theorem sE.calls (k:Nat) : ∀ (a0_0:Int) (a0_1:ByteArray) (A0_2:Option Addr) (c0_2:Nat) (l0_2:List ByteArray) (A0_3:Option Addr) (c0_3:Nat) (l0_3:List (S25)) (a1_0:Int) (a1_1:ByteArray) (A1_2:Option Addr) (c1_2:Nat) (l1_2:List ByteArray) (A1_3:Option Addr) (c1_3:Nat) (l1_3:List (S25)) (r:Bool) (w:World) (hr0_2:Kd.C Kd.string w A0_2 l0_2.length l0_2) (hc0_2:l0_2.length≤c0_2) (hr0_3:Kd.C k25 w A0_3 l0_3.length l0_3) (hc0_3:l0_3.length≤c0_3) (hr1_2:Kd.C Kd.string w A1_2 l1_2.length l1_2) (hc1_2:l1_2.length≤c1_2) (hr1_3:Kd.C k25 w A1_3 l1_3.length l1_3) (hc1_3:l1_3.length≤c1_3) (h:sE.f k a0_0 a0_1 l0_2 l0_3 a1_0 a1_1 l1_2 l1_3=some r),
 Calls Tryz.prog 41 #[.agg #[.int .i64 a0_0, .string a0_1, .slice A0_2 l0_2.length c0_2, .slice A0_3 l0_3.length c0_3], .agg #[.int .i64 a1_0, .string a1_1, .slice A1_2 l1_2.length c1_2, .slice A1_3 l1_3.length c1_3]] w fun e w'=>e = .returned (.bool r)∧Below w.heap.size w w':=by
 induction k using Nat.strongRecOn with
 | _ k ih =>
 intro a0_0 a0_1 A0_2 c0_2 l0_2 A0_3 c0_3 l0_3 a1_0 a1_1 A1_2 c1_2 l1_2 A1_3 c1_3 l1_3 r w hr0_2 hc0_2 hr0_3 hc0_3 hr1_2 hc1_2 hr1_3 hc1_3 h
 cases k with
 | zero=>exact absurd h (by simp [sE.f])
 | succ k =>
 simp only [sE.f] at h
 have hu25:=Tryz.underlying25
 have HR0_2:=Ak hr0_2
 have HC0_2:=Ak hc0_2
 clear hr0_2 hc0_2
 have HR0_3:=Ak hr0_3
 have HC0_3:=Ak hc0_3
 clear hr0_3 hc0_3
 have HR1_2:=Ak hr1_2
 have HC1_2:=Ak hc1_2
 clear hr1_2 hc1_2
 have HR1_3:=Ak hr1_3
 have HC1_3:=Ak hc1_3
 clear hr1_3 hc1_3
 have HB:=Ak (Below.refl w.heap.size w)
 have H:(if a0_0=a1_0 then (if a0_1.toList=a1_1.toList then (if (l0_2.length:Int)=(l1_2.length:Int) then (sE.j0 k ((l0_3.length:Int) != (l1_3.length:Int)) a0_0 a0_1 l0_2 l0_3 a1_0 a1_1 l1_2 l1_3) else (sE.j0 k true a0_0 a0_1 l0_2 l0_3 a1_0 a1_1 l1_2 l1_3)) else (sE.j0 k true a0_0 a0_1 l0_2 l0_3 a1_0 a1_1 l1_2 l1_3)) else (sE.j0 k true a0_0 a0_1 l0_2 l0_3 a1_0 a1_1 l1_2 l1_3))=some r:=h
 clear h
 have HC3:=Ak H
 clear H
 go_enter Tryz.func41,Tryz.ntmps41
 go_upto_region 1 with (first|((with_reducible refine gate_dst (N:=2) rfl ?_);(try (refine gate_guard (by rfl) ?_;dsimp only));refine box_event ?hg (N:=2) ?hd (cs := #[.int .i64 a0_0, .string a0_1, .slice A0_2 l0_2.length c0_2, .slice A0_3 l0_3.length c0_3]) (t:=25) ?hr ?_;(case hd=>rfl);(case hg=>rfl);(case hr=>first|(go_simp;done)|(go_simp;rfl));intro gbz0 hg w4 hbox hb;have _:=Ak (below_step oB hb);have _:=Ak (hbox);have _:=Ak ((by rw [hg];exact (below_size oB):w.heap.size≤gbz0));have _:=Ak ((by rw [hg];exact (below_size oB):w.heap.size≤gbz0));clear HB;rename_i HB BKz0 GWz0 GEz0;clear hb hbox hg)|((with_reducible refine gate_dst (N:=3) rfl ?_);(try (refine gate_guard (by rfl) ?_;dsimp only));refine box_event ?hg (N:=3) ?hd (cs := #[.int .i64 a1_0, .string a1_1, .slice A1_2 l1_2.length c1_2, .slice A1_3 l1_3.length c1_3]) (t:=25) ?hr ?_;(case hd=>rfl);(case hg=>rfl);(case hr=>first|(go_simp;done)|(go_simp;rfl));intro gbz1 hg w5 hbox hb;have _:=Ak (blk_below (g:=gbz0) (o := .cells #[.int .i64 a0_0, .string a0_1, .slice A0_2 l0_2.length c0_2, .slice A0_3 l0_3.length c0_3] 25 (0,0)) (oL BKz0.out) hb);have _:=Ak (below_step (oB1 GEz0.out) hb);have _:=Ak (hbox);have _:=Ak ((by rw [hg];exact (below_size (oB1 GEz0.out)):w.heap.size≤gbz1));have _:=Ak ((by rw [hg];exact (below_size (oB1 GEz0.out)):w.heap.size≤gbz1));have _:=Ak ((by rw [hg];exact Nat.ne_of_lt (blk_lt (g:=gbz0) (o := .cells #[.int .i64 a0_0, .string a0_1, .slice A0_2 l0_2.length c0_2, .slice A0_3 l0_3.length c0_3] 25 (0,0)) (oL BKz0.out)):gbz0≠gbz1));have _:=Ak ((by rw [hg];exact Nat.ne_of_gt (blk_lt (g:=gbz0) (o := .cells #[.int .i64 a0_0, .string a0_1, .slice A0_2 l0_2.length c0_2, .slice A0_3 l0_3.length c0_3] 25 (0,0)) (oL BKz0.out)):gbz1≠gbz0));clear BKz0 HB;rename_i BKz0 HB BKz1 GWz1 GEz1 NBz0_331002 NBz1_331001;clear hb hbox hg))
 (try simp only [Act.put,List.setIfInBounds_toArray,List.set_cons_zero,List.set_cons_succ])
 go_cut [36] (fun v36 wc => ∃ (kq:Nat) (x36_2:Bool),v36 = .bool x36_2∧Aside0 (sE.j0 kq x36_2 a0_0 a0_1 l0_2 l0_3 a1_0 a1_1 l1_2 l1_3=some r)∧Aside0 (kq≤k)∧Aside0 (wc.heap[gbz0]? = some (.cells #[.int .i64 a0_0, .string a0_1,(.slice A0_2 l0_2.length c0_2),(.slice A0_3 l0_3.length c0_3)] 25 (0,0)))∧Aside0 (wc.heap[gbz1]? = some (.cells #[.int .i64 a1_0, .string a1_1,(.slice A1_2 l1_2.length c1_2),(.slice A1_3 l1_3.length c1_3)] 25 (0,0)))∧Aside0 (Below w.heap.size w wc))
 case first =>
  have H:=HC3.out
  clear HC3
  by_cases c6:a0_0=a1_0
  rotate_left
  ·
   rw [if_neg c6] at H
   have c6b0:(a0_0 == a1_0)=false:=beq_eq_false_iff_ne.mpr c6
   have c6b1:(a0_0 != a1_0)=true:=bne_iff_ne.mpr c6
   (first|rw [c6b0]|(simp only [i64_w,i32_w];rw [c6b0])|skip)
   have H':=Ak H
   clear H
   have hnb18:=NBz0_331002.out
   have hnc18:=NBz1_331001.out
   have hcz19_0:w5.cell? ⟨gbz0,0,none⟩=some (.int .i64 a0_0):=(blk_cell BKz0.out 0).trans rfl
   have hcz19_1:w5.cell? ⟨gbz0,1,none⟩=some (.string a0_1):=(blk_cell BKz0.out 1).trans rfl
   have hcz19_2:w5.cell? ⟨gbz0,2,none⟩=some (.slice A0_2 l0_2.length c0_2):=(blk_cell BKz0.out 2).trans rfl
   have hcz19_3:w5.cell? ⟨gbz0,3,none⟩=some (.slice A0_3 l0_3.length c0_3):=(blk_cell BKz0.out 3).trans rfl
   have hfz19_0:=blk_frozen BKz0.out 0
   have hfz19_1:=blk_frozen BKz0.out 1
   have hfz19_2:=blk_frozen BKz0.out 2
   have hfz19_3:=blk_frozen BKz0.out 3
   have hcz20_0:w5.cell? ⟨gbz1,0,none⟩=some (.int .i64 a1_0):=(blk_cell BKz1.out 0).trans rfl
   have hcz20_1:w5.cell? ⟨gbz1,1,none⟩=some (.string a1_1):=(blk_cell BKz1.out 1).trans rfl
   have hcz20_2:w5.cell? ⟨gbz1,2,none⟩=some (.slice A1_2 l1_2.length c1_2):=(blk_cell BKz1.out 2).trans rfl
   have hcz20_3:w5.cell? ⟨gbz1,3,none⟩=some (.slice A1_3 l1_3.length c1_3):=(blk_cell BKz1.out 3).trans rfl
   have hfz20_0:=blk_frozen BKz1.out 0
   have hfz20_1:=blk_frozen BKz1.out 1
   have hfz20_2:=blk_frozen BKz1.out 2
   have hfz20_3:=blk_frozen BKz1.out 3
   go_wp2
   go_meet
   case rel=>exact ⟨_,(true),oS,H',⟨by first|omega|exact Nat.le_refl _⟩,⟨oL BKz0.out⟩,⟨oL BKz1.out⟩,⟨oB2 GEz0.out GEz1.out⟩⟩
  rw [if_pos c6] at H
  have c6b0:(a0_0 == a1_0)=true:=beq_iff_eq.mpr c6
  have c6b1:(a0_0 != a1_0)=false:=bne_eq_false_iff_eq.mpr c6
  clear c6
  (first|rw [c6b0]|(simp only [i64_w,i32_w];rw [c6b0])|skip)
  by_cases c7:a0_1.toList=a1_1.toList
  ·
   rw [if_pos c7] at H
   have c7b0:(a0_1.toList == a1_1.toList)=true:=beq_iff_eq.mpr c7
   have c7b1:(a0_1.toList != a1_1.toList)=false:=bne_eq_false_iff_eq.mpr c7
   clear c7
   by_cases c8:(l0_2.length:Int)=(l1_2.length:Int)
   ·
    rw [if_pos c8] at H
    have c8b0:((l0_2.length:Int) == (l1_2.length:Int))=true:=beq_iff_eq.mpr c8
    have c8b1:((l0_2.length:Int) != (l1_2.length:Int))=false:=bne_eq_false_iff_eq.mpr c8
    have c8b2:(l0_2.length == l1_2.length)=true:=by first|simpa using c8|(simp at c8 ⊢; omega)
    clear c8
    have H':=Ak H
    clear H
    have hnb9:=NBz0_331002.out
    have hnc9:=NBz1_331001.out
    have hcz10_0:w5.cell? ⟨gbz0,0,none⟩=some (.int .i64 a0_0):=(blk_cell BKz0.out 0).trans rfl
    have hcz10_1:w5.cell? ⟨gbz0,1,none⟩=some (.string a0_1):=(blk_cell BKz0.out 1).trans rfl
    have hcz10_2:w5.cell? ⟨gbz0,2,none⟩=some (.slice A0_2 l0_2.length c0_2):=(blk_cell BKz0.out 2).trans rfl
    have hcz10_3:w5.cell? ⟨gbz0,3,none⟩=some (.slice A0_3 l0_3.length c0_3):=(blk_cell BKz0.out 3).trans rfl
    have hfz10_0:=blk_frozen BKz0.out 0
    have hfz10_1:=blk_frozen BKz0.out 1
    have hfz10_2:=blk_frozen BKz0.out 2
    have hfz10_3:=blk_frozen BKz0.out 3
    have hcz11_0:w5.cell? ⟨gbz1,0,none⟩=some (.int .i64 a1_0):=(blk_cell BKz1.out 0).trans rfl
    have hcz11_1:w5.cell? ⟨gbz1,1,none⟩=some (.string a1_1):=(blk_cell BKz1.out 1).trans rfl
    have hcz11_2:w5.cell? ⟨gbz1,2,none⟩=some (.slice A1_2 l1_2.length c1_2):=(blk_cell BKz1.out 2).trans rfl
    have hcz11_3:w5.cell? ⟨gbz1,3,none⟩=some (.slice A1_3 l1_3.length c1_3):=(blk_cell BKz1.out 3).trans rfl
    have hfz11_0:=blk_frozen BKz1.out 0
    have hfz11_1:=blk_frozen BKz1.out 1
    have hfz11_2:=blk_frozen BKz1.out 2
    have hfz11_3:=blk_frozen BKz1.out 3
    go_wp2
    go_meet
    case rel=>exact ⟨_,(((l0_3.length:Int) != (l1_3.length:Int))),oS,H',⟨by first|omega|exact Nat.le_refl _⟩,⟨oL BKz0.out⟩,⟨oL BKz1.out⟩,⟨oB2 GEz0.out GEz1.out⟩⟩
   rw [if_neg c8] at H
   have c8b0:((l0_2.length:Int) == (l1_2.length:Int))=false:=beq_eq_false_iff_ne.mpr c8
   have c8b1:((l0_2.length:Int) != (l1_2.length:Int))=true:=bne_iff_ne.mpr c8
   have c8b2:(l0_2.length == l1_2.length)=false:=by first|simpa using c8|(simp at c8 ⊢; omega)
   have H':=Ak H
   clear H
   have hnb12:=NBz0_331002.out
   have hnc12:=NBz1_331001.out
   have hcz13_0:w5.cell? ⟨gbz0,0,none⟩=some (.int .i64 a0_0):=(blk_cell BKz0.out 0).trans rfl
   have hcz13_1:w5.cell? ⟨gbz0,1,none⟩=some (.string a0_1):=(blk_cell BKz0.out 1).trans rfl
   have hcz13_2:w5.cell? ⟨gbz0,2,none⟩=some (.slice A0_2 l0_2.length c0_2):=(blk_cell BKz0.out 2).trans rfl
   have hcz13_3:w5.cell? ⟨gbz0,3,none⟩=some (.slice A0_3 l0_3.length c0_3):=(blk_cell BKz0.out 3).trans rfl
   have hfz13_0:=blk_frozen BKz0.out 0
   have hfz13_1:=blk_frozen BKz0.out 1
   have hfz13_2:=blk_frozen BKz0.out 2
   have hfz13_3:=blk_frozen BKz0.out 3
   have hcz14_0:w5.cell? ⟨gbz1,0,none⟩=some (.int .i64 a1_0):=(blk_cell BKz1.out 0).trans rfl
   have hcz14_1:w5.cell? ⟨gbz1,1,none⟩=some (.string a1_1):=(blk_cell BKz1.out 1).trans rfl
   have hcz14_2:w5.cell? ⟨gbz1,2,none⟩=some (.slice A1_2 l1_2.length c1_2):=(blk_cell BKz1.out 2).trans rfl
   have hcz14_3:w5.cell? ⟨gbz1,3,none⟩=some (.slice A1_3 l1_3.length c1_3):=(blk_cell BKz1.out 3).trans rfl
   have hfz14_0:=blk_frozen BKz1.out 0
   have hfz14_1:=blk_frozen BKz1.out 1
   have hfz14_2:=blk_frozen BKz1.out 2
   have hfz14_3:=blk_frozen BKz1.out 3
   go_wp2
   go_meet
   case rel=>exact ⟨_,(true),oS,H',⟨by first|omega|exact Nat.le_refl _⟩,⟨oL BKz0.out⟩,⟨oL BKz1.out⟩,⟨oB2 GEz0.out GEz1.out⟩⟩
  rw [if_neg c7] at H
  have c7b0:(a0_1.toList == a1_1.toList)=false:=beq_eq_false_iff_ne.mpr c7
  have c7b1:(a0_1.toList != a1_1.toList)=true:=bne_iff_ne.mpr c7
  have H':=Ak H
  clear H
  have hnb15:=NBz0_331002.out
  have hnc15:=NBz1_331001.out
  have hcz16_0:w5.cell? ⟨gbz0,0,none⟩=some (.int .i64 a0_0):=(blk_cell BKz0.out 0).trans rfl
  have hcz16_1:w5.cell? ⟨gbz0,1,none⟩=some (.string a0_1):=(blk_cell BKz0.out 1).trans rfl
  have hcz16_2:w5.cell? ⟨gbz0,2,none⟩=some (.slice A0_2 l0_2.length c0_2):=(blk_cell BKz0.out 2).trans rfl
  have hcz16_3:w5.cell? ⟨gbz0,3,none⟩=some (.slice A0_3 l0_3.length c0_3):=(blk_cell BKz0.out 3).trans rfl
  have hfz16_0:=blk_frozen BKz0.out 0
  have hfz16_1:=blk_frozen BKz0.out 1
  have hfz16_2:=blk_frozen BKz0.out 2
  have hfz16_3:=blk_frozen BKz0.out 3
  have hcz17_0:w5.cell? ⟨gbz1,0,none⟩=some (.int .i64 a1_0):=(blk_cell BKz1.out 0).trans rfl
  have hcz17_1:w5.cell? ⟨gbz1,1,none⟩=some (.string a1_1):=(blk_cell BKz1.out 1).trans rfl
  have hcz17_2:w5.cell? ⟨gbz1,2,none⟩=some (.slice A1_2 l1_2.length c1_2):=(blk_cell BKz1.out 2).trans rfl
  have hcz17_3:w5.cell? ⟨gbz1,3,none⟩=some (.slice A1_3 l1_3.length c1_3):=(blk_cell BKz1.out 3).trans rfl
  have hfz17_0:=blk_frozen BKz1.out 0
  have hfz17_1:=blk_frozen BKz1.out 1
  have hfz17_2:=blk_frozen BKz1.out 2
  have hfz17_3:=blk_frozen BKz1.out 3
  go_wp2
  go_meet
  case rel=>exact ⟨_,(true),oS,H',⟨by first|omega|exact Nat.le_refl _⟩,⟨oL BKz0.out⟩,⟨oL BKz1.out⟩,⟨oB2 GEz0.out GEz1.out⟩⟩
 case rest =>
 clear HC3
 try clear c1
 try clear p2
 try clear c4
 try clear c6
 try clear c6b0
 try clear c6b1
 try clear c7
 try clear c7b0
 try clear c7b1
 try clear c8
 try clear c8b0
 try clear c8b1
 try clear c8b2
 try clear c9
 try clear c12
 try clear c15
 try clear c18
 try clear hcz10_0
 try clear hcz10_1
 try clear hcz10_2
 try clear hcz10_3
 try clear hcz11_0
 try clear hcz11_1
 try clear hcz11_2
 try clear hcz11_3
 try clear hcz13_0
 try clear hcz13_1
 try clear hcz13_2
 try clear hcz13_3
 try clear hcz14_0
 try clear hcz14_1
 try clear hcz14_2
 try clear hcz14_3
 try clear hcz16_0
 try clear hcz16_1
 try clear hcz16_2
 try clear hcz16_3
 try clear hcz17_0
 try clear hcz17_1
 try clear hcz17_2
 try clear hcz17_3
 try clear hcz19_0
 try clear hcz19_1
 try clear hcz19_2
 try clear hcz19_3
 try clear hcz20_0
 try clear hcz20_1
 try clear hcz20_2
 try clear hcz20_3
 try clear hfz10_0
 try clear hfz10_1
 try clear hfz10_2
 try clear hfz10_3
 try clear hfz11_0
 try clear hfz11_1
 try clear hfz11_2
 try clear hfz11_3
 try clear hfz13_0
 try clear hfz13_1
 try clear hfz13_2
 try clear hfz13_3
 try clear hfz14_0
 try clear hfz14_1
 try clear hfz14_2
 try clear hfz14_3
 try clear hfz16_0
 try clear hfz16_1
 try clear hfz16_2
 try clear hfz16_3
 try clear hfz17_0
 try clear hfz17_1
 try clear hfz17_2
 try clear hfz17_3
 try clear hfz19_0
 try clear hfz19_1
 try clear hfz19_2
 try clear hfz19_3
 try clear hfz20_0
 try clear hfz20_1
 try clear hfz20_2
 try clear hfz20_3
 obtain ⟨kq,x36_2,rfl,HA,HJ2,BKz0,BKz1,HB⟩:=hcut
 cases kq with
 | zero=>exact absurd HA.out (by simp [sE.j0])
 | succ kj2 =>
  have H:=HA.out
  clear HA
  simp only [sE.j0] at H
  by_cases c21:x36_2=true
  ·
   subst c21
   have H1:(some false)=some r:=by rw [if_pos rfl] at H;exact H
   clear H
   have H:=H1
   clear H1
   obtain rfl:=Option.some.inj H
   go_wp2
   go_ret
   exact ⟨oE,oB2 GEz0.out GEz1.out⟩
  replace c21:=Bool.eq_false_iff.mpr c21
  subst c21
  have H1:(sE.l0 kj2 0 a0_0 a0_1 l0_2 l0_3 a1_0 a1_1 l1_2 l1_3)=some r:=by rw [if_neg (show ¬ (false=true) by decide)] at H;exact H
  clear H
  have H:=H1
  clear H1
  have H':=Ak H
  clear H
  go_wp2
  (try simp only [Act.put,List.setIfInBounds_toArray,List.set_cons_zero,List.set_cons_succ])
  go_loopg [5] kj2 (fun kq v5 w' => ∃ (x5_2:Int),v5 = .int .i64 x5_2∧Aside0 (sE.l0 kq x5_2 a0_0 a0_1 l0_2 l0_3 a1_0 a1_1 l1_2 l1_3=some r)∧Aside0 (kq≤kj2)∧Aside0 (w'.heap[gbz0]? = some (.cells #[.int .i64 a0_0, .string a0_1,(.slice A0_2 l0_2.length c0_2),(.slice A0_3 l0_3.length c0_3)] 25 (0,0)))∧Aside0 (w'.heap[gbz1]? = some (.cells #[.int .i64 a1_0, .string a1_1,(.slice A1_2 l1_2.length c1_2),(.slice A1_3 l1_3.length c1_3)] 25 (0,0)))∧Aside0 (Below w.heap.size w w'))
  case atStart=>exact ⟨(0),oS,H',⟨Nat.le_refl _⟩,⟨oL BKz0.out⟩,⟨oL BKz1.out⟩,⟨oB2 GEz0.out GEz1.out⟩⟩
  case round =>
  clear H'
  try clear c1
  try clear c2
  try clear p2
  try clear c4
  try clear c6
  try clear c6b0
  try clear c6b1
  try clear c7
  try clear c7b0
  try clear c7b1
  try clear c8
  try clear c8b0
  try clear c8b1
  try clear c8b2
  try clear c9
  try clear c12
  try clear c15
  try clear c18
  try clear c21
  try clear hcz10_0
  try clear hcz10_1
  try clear hcz10_2
  try clear hcz10_3
  try clear hcz11_0
  try clear hcz11_1
  try clear hcz11_2
  try clear hcz11_3
  try clear hcz13_0
  try clear hcz13_1
  try clear hcz13_2
  try clear hcz13_3
  try clear hcz14_0
  try clear hcz14_1
  try clear hcz14_2
  try clear hcz14_3
  try clear hcz16_0
  try clear hcz16_1
  try clear hcz16_2
  try clear hcz16_3
  try clear hcz17_0
  try clear hcz17_1
  try clear hcz17_2
  try clear hcz17_3
  try clear hcz19_0
  try clear hcz19_1
  try clear hcz19_2
  try clear hcz19_3
  try clear hcz20_0
  try clear hcz20_1
  try clear hcz20_2
  try clear hcz20_3
  try clear hfz10_0
  try clear hfz10_1
  try clear hfz10_2
  try clear hfz10_3
  try clear hfz11_0
  try clear hfz11_1
  try clear hfz11_2
  try clear hfz11_3
  try clear hfz13_0
  try clear hfz13_1
  try clear hfz13_2
  try clear hfz13_3
  try clear hfz14_0
  try clear hfz14_1
  try clear hfz14_2
  try clear hfz14_3
  try clear hfz16_0
  try clear hfz16_1
  try clear hfz16_2
  try clear hfz16_3
  try clear hfz17_0
  try clear hfz17_1
  try clear hfz17_2
  try clear hfz17_3
  try clear hfz19_0
  try clear hfz19_1
  try clear hfz19_2
  try clear hfz19_3
  try clear hfz20_0
  try clear hfz20_1
  try clear hfz20_2
  try clear hfz20_3
  try clear p2
  obtain ⟨x5_2,rfl,HA,HK2,BKz0,BKz1,HB⟩:=hrel
  cases gk with
  | zero=>exact absurd HA.out (by simp [sE.l0])
  | succ k2 =>
   have H:=HA.out
   clear HA
   simp only [sE.l0] at H
   by_cases c22:x5_2<(l0_2.length:Int)
   ·
    rw [if_pos c22] at H
    have c22b0:decide (x5_2<(l0_2.length:Int))=true:=decide_eq_true c22
    clear c22
    by_cases c23:0≤x5_2
    rotate_left
    ·
     rw [if_neg c23] at H
     exact absurd H (by simp)
    rw [if_pos c23] at H
    have c23b0:decide (0≤x5_2)=true:=decide_eq_true c23
    clear c23
    by_cases c24:x5_2<(l1_2.length:Int)
    ·
     rw [if_pos c24] at H
     have c24b0:decide (x5_2<(l1_2.length:Int))=true:=decide_eq_true c24
     clear c24
     by_cases c25:(rdOf ByteArray.empty l0_2 x5_2).toList=(rdOf ByteArray.empty l1_2 x5_2).toList
     rotate_left
     ·
      rw [if_neg c25] at H
      have c25b0:((rdOf ByteArray.empty l0_2 x5_2).toList == (rdOf ByteArray.empty l1_2 x5_2).toList)=false:=beq_eq_false_iff_ne.mpr c25
      have c25b1:((rdOf ByteArray.empty l0_2 x5_2).toList != (rdOf ByteArray.empty l1_2 x5_2).toList)=true:=bne_iff_ne.mpr c25
      obtain rfl:=Option.some.inj H
      have hnb29:=NBz0_331002.out
      have hnc29:=NBz1_331001.out
      have hcz30_0:wr.cell? ⟨gbz0,0,none⟩=some (.int .i64 a0_0):=(blk_cell BKz0.out 0).trans rfl
      have hcz30_1:wr.cell? ⟨gbz0,1,none⟩=some (.string a0_1):=(blk_cell BKz0.out 1).trans rfl
      have hcz30_2:wr.cell? ⟨gbz0,2,none⟩=some (.slice A0_2 l0_2.length c0_2):=(blk_cell BKz0.out 2).trans rfl
      have hcz30_3:wr.cell? ⟨gbz0,3,none⟩=some (.slice A0_3 l0_3.length c0_3):=(blk_cell BKz0.out 3).trans rfl
      have hfz30_0:=blk_frozen BKz0.out 0
      have hfz30_1:=blk_frozen BKz0.out 1
      have hfz30_2:=blk_frozen BKz0.out 2
      have hfz30_3:=blk_frozen BKz0.out 3
      try go_wp2
      have n0_:=Ak (blk_drew BKz0.out)
      have n1_:=Ak (blk_drew BKz1.out)
      have n2_:=Ak (below_drew1 HB.out)
      clear BKz0
      clear BKz1
      clear HB
      have BKz0:=n0_
      have BKz1:=n1_
      have HB:=n2_
      clear n0_ n1_ n2_
      have pz2:0≤(x5_2:Int):=of_decide_eq_true oA
      have qz2:x5_2<(l0_2.length:Int):=of_decide_eq_true oA
      obtain ⟨adz2,ez2,hxz2_0⟩:=Kd.at_string HR0_2.out x5_2 pz2 qz2
      have hwz2_0:=hxz2_0
      cases ez2
      replace hxz2_0:=(HB.out.cell (World.block_lt_of_cell? w _ hxz2_0)).trans hxz2_0
      replace pz2:=eq_true pz2
      replace qz2:=eq_true qz2
      have pz3:0≤(x5_2:Int):=of_decide_eq_true oA
      have qz3:x5_2<(l1_2.length:Int):=of_decide_eq_true oA
      obtain ⟨adz3,ez3,hxz3_0⟩:=Kd.at_string HR1_2.out x5_2 pz3 qz3
      have hwz3_0:=hxz3_0
      cases ez3
      replace hxz3_0:=(HB.out.cell (World.block_lt_of_cell? w _ hxz3_0)).trans hxz3_0
      replace pz3:=eq_true pz3
      replace qz3:=eq_true qz3
      refine start_ (n:=11) (S:=fun w'=>w'.cell? ⟨gbz0,0,none⟩=some (.int .i64 a0_0)∧w'.cell? ⟨gbz0,1,none⟩=some (.string a0_1)∧w'.cell? ⟨gbz0,2,none⟩=some (.slice (some adz2) l0_2.length c0_2)∧w'.cell? ⟨gbz0,3,none⟩=some (.slice A0_3 l0_3.length c0_3)∧w'.cell? ⟨gbz1,0,none⟩=some (.int .i64 a1_0)∧w'.cell? ⟨gbz1,1,none⟩=some (.string a1_1)∧w'.cell? ⟨gbz1,2,none⟩=some (.slice (some adz3) l1_2.length c1_2)∧w'.cell? ⟨gbz1,3,none⟩=some (.slice A1_3 l1_3.length c1_3)∧w'.cell? (adz2.add (x5_2).toNat)=some (.string (rdOf ByteArray.empty l0_2 x5_2))∧w'.cell? (adz3.add (x5_2).toNat)=some (.string (rdOf ByteArray.empty l1_2 x5_2))) (ds:=[]) #[false,false,false,false,false,false,false,false,false,false,false] (by kernel_rfl) rfl rfl ⟨(blk_cell BKz0.out 0).trans rfl,(blk_cell BKz0.out 1).trans rfl,(blk_cell BKz0.out 2).trans rfl,(blk_cell BKz0.out 3).trans rfl,(blk_cell BKz1.out 0).trans rfl,(blk_cell BKz1.out 1).trans rfl,(blk_cell BKz1.out 2).trans rfl,(blk_cell BKz1.out 3).trans rfl,((HB.out.cell (World.block_lt_of_cell? w _ hwz2_0)).trans hwz2_0),((HB.out.cell (World.block_lt_of_cell? w _ hwz3_0)).trans hwz3_0)⟩ (fun hHeld=>?_);refine with_tabW sE.tab6 sE.bits6 (fun HT_ HW_=>?_)
      generalize wr.drew=w31 at BKz0 BKz1 HB hxz2_0 hxz3_0 hHeld ⊢
      refine zP 0 (some 44) (mA 11 1) ?_
      refine zP 2 (some 46) (mA 11 5) ?_
      refine zP 5 (some 49) (mA 11 37) ?_
      refine zP 7 (some 51) (mA 11 165) ?_
      refine zT 1 (some 45) (mA 11 167) ?_
      refine zP 3 (some 47) (mA 11 175) ?_
      refine zT 4 (some 48) (mA 11 191) ?_
      refine zT 6 (some 50) (mA 11 255) ?_
      refine zP 8 (some 52) (mA 11 511) ?_
      refine zT 9 (some 53) (mA 11 1023) ?_
      refine zP 10 (some 54) (mA 11 2047) ?_
      refine done_ (done_of HT_.out (by kernel_rfl)) ?_
      try go_wp2
      go_ret
      exact ⟨oE,oB2 GEz0.out GEz1.out⟩
     rw [if_pos c25] at H
     have c25b0:((rdOf ByteArray.empty l0_2 x5_2).toList == (rdOf ByteArray.empty l1_2 x5_2).toList)=true:=beq_iff_eq.mpr c25
     have c25b1:((rdOf ByteArray.empty l0_2 x5_2).toList != (rdOf ByteArray.empty l1_2 x5_2).toList)=false:=bne_eq_false_iff_eq.mpr c25
     clear c25
     have H':=Ak H
     clear H
     have hnb26:=NBz0_331002.out
     have hnc26:=NBz1_331001.out
     have hcz27_0:wr.cell? ⟨gbz0,0,none⟩=some (.int .i64 a0_0):=(blk_cell BKz0.out 0).trans rfl
     have hcz27_1:wr.cell? ⟨gbz0,1,none⟩=some (.string a0_1):=(blk_cell BKz0.out 1).trans rfl
     have hcz27_2:wr.cell? ⟨gbz0,2,none⟩=some (.slice A0_2 l0_2.length c0_2):=(blk_cell BKz0.out 2).trans rfl
     have hcz27_3:wr.cell? ⟨gbz0,3,none⟩=some (.slice A0_3 l0_3.length c0_3):=(blk_cell BKz0.out 3).trans rfl
     have hfz27_0:=blk_frozen BKz0.out 0
     have hfz27_1:=blk_frozen BKz0.out 1
     have hfz27_2:=blk_frozen BKz0.out 2
     have hfz27_3:=blk_frozen BKz0.out 3
     try go_wp2
     have n0_:=Ak (blk_drew BKz0.out)
     have n1_:=Ak (blk_drew BKz1.out)
     have n2_:=Ak (below_drew1 HB.out)
     clear BKz0
     clear BKz1
     clear HB
     have BKz0:=n0_
     have BKz1:=n1_
     have HB:=n2_
     clear n0_ n1_ n2_
     have pz2:0≤(x5_2:Int):=of_decide_eq_true oA
     have qz2:x5_2<(l0_2.length:Int):=of_decide_eq_true oA
     obtain ⟨adz2,ez2,hxz2_0⟩:=Kd.at_string HR0_2.out x5_2 pz2 qz2
     have hwz2_0:=hxz2_0
     cases ez2
     replace hxz2_0:=(HB.out.cell (World.block_lt_of_cell? w _ hxz2_0)).trans hxz2_0
     replace pz2:=eq_true pz2
     replace qz2:=eq_true qz2
     have pz3:0≤(x5_2:Int):=of_decide_eq_true oA
     have qz3:x5_2<(l1_2.length:Int):=of_decide_eq_true oA
     obtain ⟨adz3,ez3,hxz3_0⟩:=Kd.at_string HR1_2.out x5_2 pz3 qz3
     have hwz3_0:=hxz3_0
     cases ez3
     replace hxz3_0:=(HB.out.cell (World.block_lt_of_cell? w _ hxz3_0)).trans hxz3_0
     replace pz3:=eq_true pz3
     replace qz3:=eq_true qz3
     refine start_ (n:=11) (S:=fun w'=>w'.cell? ⟨gbz0,0,none⟩=some (.int .i64 a0_0)∧w'.cell? ⟨gbz0,1,none⟩=some (.string a0_1)∧w'.cell? ⟨gbz0,2,none⟩=some (.slice (some adz2) l0_2.length c0_2)∧w'.cell? ⟨gbz0,3,none⟩=some (.slice A0_3 l0_3.length c0_3)∧w'.cell? ⟨gbz1,0,none⟩=some (.int .i64 a1_0)∧w'.cell? ⟨gbz1,1,none⟩=some (.string a1_1)∧w'.cell? ⟨gbz1,2,none⟩=some (.slice (some adz3) l1_2.length c1_2)∧w'.cell? ⟨gbz1,3,none⟩=some (.slice A1_3 l1_3.length c1_3)∧w'.cell? (adz2.add (x5_2).toNat)=some (.string (rdOf ByteArray.empty l0_2 x5_2))∧w'.cell? (adz3.add (x5_2).toNat)=some (.string (rdOf ByteArray.empty l1_2 x5_2))) (ds:=[]) #[false,false,false,false,false,false,false,false,false,false,false] (by kernel_rfl) rfl rfl ⟨(blk_cell BKz0.out 0).trans rfl,(blk_cell BKz0.out 1).trans rfl,(blk_cell BKz0.out 2).trans rfl,(blk_cell BKz0.out 3).trans rfl,(blk_cell BKz1.out 0).trans rfl,(blk_cell BKz1.out 1).trans rfl,(blk_cell BKz1.out 2).trans rfl,(blk_cell BKz1.out 3).trans rfl,((HB.out.cell (World.block_lt_of_cell? w _ hwz2_0)).trans hwz2_0),((HB.out.cell (World.block_lt_of_cell? w _ hwz3_0)).trans hwz3_0)⟩ (fun hHeld=>?_);refine with_tabW sE.tab6 sE.bits6 (fun HT_ HW_=>?_)
     generalize wr.drew=w28 at BKz0 BKz1 HB hxz2_0 hxz3_0 hHeld ⊢
     refine zP 0 (some 44) (mA 11 1) ?_
     refine zP 2 (some 46) (mA 11 5) ?_
     refine zP 5 (some 49) (mA 11 37) ?_
     refine zP 7 (some 51) (mA 11 165) ?_
     refine zT 1 (some 45) (mA 11 167) ?_
     refine zP 3 (some 47) (mA 11 175) ?_
     refine zT 4 (some 48) (mA 11 191) ?_
     refine zT 6 (some 50) (mA 11 255) ?_
     refine zP 8 (some 52) (mA 11 511) ?_
     refine zT 9 (some 53) (mA 11 1023) ?_
     refine zP 10 (some 54) (mA 11 2047) ?_
     refine done_ (done_of HT_.out (by kernel_rfl)) ?_
     try go_wp2
     go_roundg k2
     case measure=>have:=HJ2.out;have:=HK2.out;omega
     case rel=>exact ⟨(wrap64 (x5_2+1)),oS,H',⟨by have:=HJ2.out;have:=HK2.out;omega⟩,⟨oL BKz0.out⟩,⟨oL BKz1.out⟩,⟨oB2 GEz0.out GEz1.out⟩⟩
    rw [if_neg c24] at H
    exact absurd H (by simp)
   rw [if_neg c22] at H
   have c22b0:decide (x5_2<(l0_2.length:Int))=false:=decide_eq_false c22
   clear c22
   have H':=Ak H
   clear H
   have hnb32:=NBz0_331002.out
   have hnc32:=NBz1_331001.out
   have hcz33_0:wr.cell? ⟨gbz0,0,none⟩=some (.int .i64 a0_0):=(blk_cell BKz0.out 0).trans rfl
   have hcz33_1:wr.cell? ⟨gbz0,1,none⟩=some (.string a0_1):=(blk_cell BKz0.out 1).trans rfl
   have hcz33_2:wr.cell? ⟨gbz0,2,none⟩=some (.slice A0_2 l0_2.length c0_2):=(blk_cell BKz0.out 2).trans rfl
   have hcz33_3:wr.cell? ⟨gbz0,3,none⟩=some (.slice A0_3 l0_3.length c0_3):=(blk_cell BKz0.out 3).trans rfl
   have hfz33_0:=blk_frozen BKz0.out 0
   have hfz33_1:=blk_frozen BKz0.out 1
   have hfz33_2:=blk_frozen BKz0.out 2
   have hfz33_3:=blk_frozen BKz0.out 3
   go_wp2
   (try simp only [Act.put,List.setIfInBounds_toArray,List.set_cons_zero,List.set_cons_succ])
   go_loopg [6] k2 (fun kq v6 w' => ∃ (x6_3:Int),v6 = .int .i64 x6_3∧Aside0 (sE.l1 kq x6_3 a0_0 a0_1 l0_2 l0_3 a1_0 a1_1 l1_2 l1_3=some r)∧Aside0 (kq≤k2)∧Aside0 (w'.heap[gbz0]? = some (.cells #[.int .i64 a0_0, .string a0_1,(.slice A0_2 l0_2.length c0_2),(.slice A0_3 l0_3.length c0_3)] 25 (0,0)))∧Aside0 (w'.heap[gbz1]? = some (.cells #[.int .i64 a1_0, .string a1_1,(.slice A1_2 l1_2.length c1_2),(.slice A1_3 l1_3.length c1_3)] 25 (0,0)))∧Aside0 (Below w.heap.size w w'))
   case atStart=>exact ⟨(0),oS,H',⟨Nat.le_refl _⟩,⟨oL BKz0.out⟩,⟨oL BKz1.out⟩,⟨oB2 GEz0.out GEz1.out⟩⟩
   case round =>
   clear H'
   try clear c1
   try clear c2
   try clear p2
   try clear c3
   try clear p3
   try clear q3
   try clear hx3
   try clear c4
   try clear c6
   try clear c6b0
   try clear c6b1
   try clear p6
   try clear c7
   try clear c7b0
   try clear c7b1
   try clear c8
   try clear c8b0
   try clear c8b1
   try clear c8b2
   try clear c9
   try clear c12
   try clear c15
   try clear c18
   try clear c21
   try clear c22
   try clear c22b0
   try clear c23
   try clear c23b0
   try clear c24
   try clear c24b0
   try clear c25
   try clear c25b0
   try clear c25b1
   try clear c26
   try clear c29
   try clear c32
   try clear p33
   try clear q33
   try clear hx33
   try clear hcz10_0
   try clear hcz10_1
   try clear hcz10_2
   try clear hcz10_3
   try clear hcz11_0
   try clear hcz11_1
   try clear hcz11_2
   try clear hcz11_3
   try clear hcz13_0
   try clear hcz13_1
   try clear hcz13_2
   try clear hcz13_3
   try clear hcz14_0
   try clear hcz14_1
   try clear hcz14_2
   try clear hcz14_3
   try clear hcz16_0
   try clear hcz16_1
   try clear hcz16_2
   try clear hcz16_3
   try clear hcz17_0
   try clear hcz17_1
   try clear hcz17_2
   try clear hcz17_3
   try clear hcz19_0
   try clear hcz19_1
   try clear hcz19_2
   try clear hcz19_3
   try clear hcz20_0
   try clear hcz20_1
   try clear hcz20_2
   try clear hcz20_3
   try clear hcz27_0
   try clear hcz27_1
   try clear hcz27_2
   try clear hcz27_3
   try clear hcz30_0
   try clear hcz30_1
   try clear hcz30_2
   try clear hcz30_3
   try clear hcz33_0
   try clear hcz33_1
   try clear hcz33_2
   try clear hcz33_3
   try clear hfz10_0
   try clear hfz10_1
   try clear hfz10_2
   try clear hfz10_3
   try clear hfz11_0
   try clear hfz11_1
   try clear hfz11_2
   try clear hfz11_3
   try clear hfz13_0
   try clear hfz13_1
   try clear hfz13_2
   try clear hfz13_3
   try clear hfz14_0
   try clear hfz14_1
   try clear hfz14_2
   try clear hfz14_3
   try clear hfz16_0
   try clear hfz16_1
   try clear hfz16_2
   try clear hfz16_3
   try clear hfz17_0
   try clear hfz17_1
   try clear hfz17_2
   try clear hfz17_3
   try clear hfz19_0
   try clear hfz19_1
   try clear hfz19_2
   try clear hfz19_3
   try clear hfz20_0
   try clear hfz20_1
   try clear hfz20_2
   try clear hfz20_3
   try clear hfz27_0
   try clear hfz27_1
   try clear hfz27_2
   try clear hfz27_3
   try clear hfz30_0
   try clear hfz30_1
   try clear hfz30_2
   try clear hfz30_3
   try clear hfz33_0
   try clear hfz33_1
   try clear hfz33_2
   try clear hfz33_3
   try clear hxz2_0
   try clear hxz3_0
   try clear p2
   try clear pz2
   try clear pz3
   try clear qz2
   try clear qz3
   obtain ⟨x6_3,rfl,HA,HK3,BKz0,BKz1,HB⟩:=hrel
   cases gk with
   | zero=>exact absurd HA.out (by simp [sE.l1])
   | succ k3 =>
    have H:=HA.out
    clear HA
    simp only [sE.l1] at H
    by_cases c34:x6_3<(l0_3.length:Int)
    rotate_left
    ·
     rw [if_neg c34] at H
     have c34b0:decide (x6_3<(l0_3.length:Int))=false:=decide_eq_false c34
     clear c34
     obtain rfl:=Option.some.inj H
     have hnb47:=NBz0_331002.out
     have hnc47:=NBz1_331001.out
     have hcz48_0:wr.cell? ⟨gbz0,0,none⟩=some (.int .i64 a0_0):=(blk_cell BKz0.out 0).trans rfl
     have hcz48_1:wr.cell? ⟨gbz0,1,none⟩=some (.string a0_1):=(blk_cell BKz0.out 1).trans rfl
     have hcz48_2:wr.cell? ⟨gbz0,2,none⟩=some (.slice A0_2 l0_2.length c0_2):=(blk_cell BKz0.out 2).trans rfl
     have hcz48_3:wr.cell? ⟨gbz0,3,none⟩=some (.slice A0_3 l0_3.length c0_3):=(blk_cell BKz0.out 3).trans rfl
     have hfz48_0:=blk_frozen BKz0.out 0
     have hfz48_1:=blk_frozen BKz0.out 1
     have hfz48_2:=blk_frozen BKz0.out 2
     have hfz48_3:=blk_frozen BKz0.out 3
     go_wp2
     go_ret
     exact ⟨oE,oB2 GEz0.out GEz1.out⟩
    rw [if_pos c34] at H
    have c34b0:decide (x6_3<(l0_3.length:Int))=true:=decide_eq_true c34
    clear c34
    by_cases c35:0≤x6_3
    ·
     rw [if_pos c35] at H
     have c35b0:decide (0≤x6_3)=true:=decide_eq_true c35
     clear c35
     by_cases c36:x6_3<(l1_3.length:Int)
     rotate_left
     ·
      rw [if_neg c36] at H
      exact absurd H (by simp)
     rw [if_pos c36] at H
     have c36b0:decide (x6_3<(l1_3.length:Int))=true:=decide_eq_true c36
     clear c36
     replace H:=Option.bind_eq_some_iff.mp H
     obtain ⟨tz4,A370,H⟩:=H
     replace H:(if tz4=true then (sE.l1 k3 (wrap64 (x6_3+1)) a0_0 a0_1 l0_2 l0_3 a1_0 a1_1 l1_2 l1_3) else (some false))=some r:=H
     have A37:=Ak A370
     clear A370
     by_cases c38:tz4=true
     ·
      subst c38
      have H1:(sE.l1 k3 (wrap64 (x6_3+1)) a0_0 a0_1 l0_2 l0_3 a1_0 a1_1 l1_2 l1_3)=some r:=by rw [if_pos rfl] at H;exact H
      clear H
      have H:=H1
      clear H1
      have H':=Ak H
      clear H
      have hnb39:=NBz0_331002.out
      have hnc39:=NBz1_331001.out
      have hcz40_0:wr.cell? ⟨gbz0,0,none⟩=some (.int .i64 a0_0):=(blk_cell BKz0.out 0).trans rfl
      have hcz40_1:wr.cell? ⟨gbz0,1,none⟩=some (.string a0_1):=(blk_cell BKz0.out 1).trans rfl
      have hcz40_2:wr.cell? ⟨gbz0,2,none⟩=some (.slice A0_2 l0_2.length c0_2):=(blk_cell BKz0.out 2).trans rfl
      have hcz40_3:wr.cell? ⟨gbz0,3,none⟩=some (.slice A0_3 l0_3.length c0_3):=(blk_cell BKz0.out 3).trans rfl
      have hfz40_0:=blk_frozen BKz0.out 0
      have hfz40_1:=blk_frozen BKz0.out 1
      have hfz40_2:=blk_frozen BKz0.out 2
      have hfz40_3:=blk_frozen BKz0.out 3
      try go_wp2
      have n0_:=Ak (blk_drew BKz0.out)
      have n1_:=Ak (blk_drew BKz1.out)
      have n2_:=Ak (below_drew1 HB.out)
      clear BKz0
      clear BKz1
      clear HB
      have BKz0:=n0_
      have BKz1:=n1_
      have HB:=n2_
      clear n0_ n1_ n2_
      have pz5:0≤(x6_3:Int):=of_decide_eq_true oA
      have qz5:x6_3<(l0_3.length:Int):=of_decide_eq_true oA
      obtain ⟨adz5,Az5_2,cz5_2,Az5_3,cz5_3,ez5,hxz5_0,hxz5_1,hxz5_2,hxz5_3,hlz5_2,hiz5_2,hlz5_3,hiz5_3⟩:=at_T25 HR0_3.out x6_3 pz5 qz5
      have hwz5_3:=hxz5_3
      have hwz5_2:=hxz5_2
      have hwz5_1:=hxz5_1
      have hwz5_0:=hxz5_0
      cases ez5
      replace hxz5_0:=(HB.out.cell (World.block_lt_of_cell? w _ hxz5_0)).trans hxz5_0
      replace hxz5_1:=(HB.out.cell (World.block_lt_of_cell? w _ hxz5_1)).trans hxz5_1
      replace hxz5_2:=(HB.out.cell (World.block_lt_of_cell? w _ hxz5_2)).trans hxz5_2
      replace hxz5_3:=(HB.out.cell (World.block_lt_of_cell? w _ hxz5_3)).trans hxz5_3
      have HRz5_2:=Ak hiz5_2
      have HCz5_2:=Ak hlz5_2
      clear hiz5_2 hlz5_2
      have HRz5_3:=Ak hiz5_3
      have HCz5_3:=Ak hlz5_3
      clear hiz5_3 hlz5_3
      replace pz5:=eq_true pz5
      replace qz5:=eq_true qz5
      have pz6:0≤(x6_3:Int):=of_decide_eq_true oA
      have qz6:x6_3<(l1_3.length:Int):=of_decide_eq_true oA
      obtain ⟨adz6,Az6_2,cz6_2,Az6_3,cz6_3,ez6,hxz6_0,hxz6_1,hxz6_2,hxz6_3,hlz6_2,hiz6_2,hlz6_3,hiz6_3⟩:=at_T25 HR1_3.out x6_3 pz6 qz6
      have hwz6_3:=hxz6_3
      have hwz6_2:=hxz6_2
      have hwz6_1:=hxz6_1
      have hwz6_0:=hxz6_0
      cases ez6
      replace hxz6_0:=(HB.out.cell (World.block_lt_of_cell? w _ hxz6_0)).trans hxz6_0
      replace hxz6_1:=(HB.out.cell (World.block_lt_of_cell? w _ hxz6_1)).trans hxz6_1
      replace hxz6_2:=(HB.out.cell (World.block_lt_of_cell? w _ hxz6_2)).trans hxz6_2
      replace hxz6_3:=(HB.out.cell (World.block_lt_of_cell? w _ hxz6_3)).trans hxz6_3
      have HRz6_2:=Ak hiz6_2
      have HCz6_2:=Ak hlz6_2
      clear hiz6_2 hlz6_2
      have HRz6_3:=Ak hiz6_3
      have HCz6_3:=Ak hlz6_3
      clear hiz6_3 hlz6_3
      replace pz6:=eq_true pz6
      replace qz6:=eq_true qz6
      refine start_ (n:=12) (S:=fun w'=>w'.cell? ⟨gbz0,0,none⟩=some (.int .i64 a0_0)∧w'.cell? ⟨gbz0,1,none⟩=some (.string a0_1)∧w'.cell? ⟨gbz0,2,none⟩=some (.slice A0_2 l0_2.length c0_2)∧w'.cell? ⟨gbz0,3,none⟩=some (.slice (some adz5) l0_3.length c0_3)∧w'.cell? ⟨gbz1,0,none⟩=some (.int .i64 a1_0)∧w'.cell? ⟨gbz1,1,none⟩=some (.string a1_1)∧w'.cell? ⟨gbz1,2,none⟩=some (.slice A1_2 l1_2.length c1_2)∧w'.cell? ⟨gbz1,3,none⟩=some (.slice (some adz6) l1_3.length c1_3)∧w'.cell? (adz5.add ((x6_3).toNat*4))=some (.int .i64 ((rd_T25 l0_3 x6_3).f0))∧w'.cell? ⟨(adz5.add ((x6_3).toNat*4)).block,(adz5.add ((x6_3).toNat*4)).off+1,none⟩=some (.string ((rd_T25 l0_3 x6_3).f1))∧w'.cell? ⟨(adz5.add ((x6_3).toNat*4)).block,(adz5.add ((x6_3).toNat*4)).off+2,none⟩=some (.slice Az5_2 ((rd_T25 l0_3 x6_3).f2).length cz5_2)∧w'.cell? ⟨(adz5.add ((x6_3).toNat*4)).block,(adz5.add ((x6_3).toNat*4)).off+3,none⟩=some (.slice Az5_3 ((rd_T25 l0_3 x6_3).f3).length cz5_3)∧w'.cell? (adz6.add ((x6_3).toNat*4))=some (.int .i64 ((rd_T25 l1_3 x6_3).f0))∧w'.cell? ⟨(adz6.add ((x6_3).toNat*4)).block,(adz6.add ((x6_3).toNat*4)).off+1,none⟩=some (.string ((rd_T25 l1_3 x6_3).f1))∧w'.cell? ⟨(adz6.add ((x6_3).toNat*4)).block,(adz6.add ((x6_3).toNat*4)).off+2,none⟩=some (.slice Az6_2 ((rd_T25 l1_3 x6_3).f2).length cz6_2)∧w'.cell? ⟨(adz6.add ((x6_3).toNat*4)).block,(adz6.add ((x6_3).toNat*4)).off+3,none⟩=some (.slice Az6_3 ((rd_T25 l1_3 x6_3).f3).length cz6_3)) (ds:=[]) #[false,false,false,false,false,false,false,false,false,false,false,false] (by kernel_rfl) rfl rfl ⟨(blk_cell BKz0.out 0).trans rfl,(blk_cell BKz0.out 1).trans rfl,(blk_cell BKz0.out 2).trans rfl,(blk_cell BKz0.out 3).trans rfl,(blk_cell BKz1.out 0).trans rfl,(blk_cell BKz1.out 1).trans rfl,(blk_cell BKz1.out 2).trans rfl,(blk_cell BKz1.out 3).trans rfl,((HB.out.cell (World.block_lt_of_cell? w _ hwz5_0)).trans hwz5_0),((HB.out.cell (World.block_lt_of_cell? w _ hwz5_1)).trans hwz5_1),((HB.out.cell (World.block_lt_of_cell? w _ hwz5_2)).trans hwz5_2),((HB.out.cell (World.block_lt_of_cell? w _ hwz5_3)).trans hwz5_3),((HB.out.cell (World.block_lt_of_cell? w _ hwz6_0)).trans hwz6_0),((HB.out.cell (World.block_lt_of_cell? w _ hwz6_1)).trans hwz6_1),((HB.out.cell (World.block_lt_of_cell? w _ hwz6_2)).trans hwz6_2),((HB.out.cell (World.block_lt_of_cell? w _ hwz6_3)).trans hwz6_3)⟩ (fun hHeld=>?_);refine with_tabW sE.tab11 sE.bits11 (fun HT_ HW_=>?_)
      generalize wr.drew=w41 at BKz0 BKz1 HB HRz5_2 HRz5_3 HRz6_2 HRz6_3 hxz5_0 hxz5_1 hxz5_2 hxz5_3 hxz6_0 hxz6_1 hxz6_2 hxz6_3 hHeld ⊢
      refine zP 0 (some 62) (mA 12 1) ?_
      refine zP 2 (some 64) (mA 12 5) ?_
      refine zP 5 (some 67) (mA 12 37) ?_
      refine zP 7 (some 69) (mA 12 165) ?_
      refine zT 1 (some 63) (mA 12 167) ?_
      refine zP 3 (some 65) (mA 12 175) ?_
      refine zT 4 (some 66) (mA 12 191) ?_
      refine zT 6 (some 68) (mA 12 255) ?_
      refine zP 8 (some 70) (mA 12 511) ?_
      refine zT 9 (some 71) (mA 12 1023) ?_
      refine zO 10 (some 72) (mA 12 2047) (fun K hK=>?_)
      refine goes_ Tryz.func41 (by kernel_rfl) rfl #[.agg #[.int .i64 ((rd_T25 l0_3 x6_3).f0), .string ((rd_T25 l0_3 x6_3).f1), .slice Az5_2 ((rd_T25 l0_3 x6_3).f2).length cz5_2, .slice Az5_3 ((rd_T25 l0_3 x6_3).f3).length cz5_3], .agg #[.int .i64 ((rd_T25 l1_3 x6_3).f0), .string ((rd_T25 l1_3 x6_3).f1), .slice Az6_2 ((rd_T25 l1_3 x6_3).f2).length cz6_2, .slice Az6_3 ((rd_T25 l1_3 x6_3).f3).length cz6_3]] (by rfl) rfl rfl oM ?_
      with_reducible refine (ih k3 (by have:=HJ2.out;have:=HK2.out;have:=HK3.out;omega) ((rd_T25 l0_3 x6_3).f0) ((rd_T25 l0_3 x6_3).f1) _ _ ((rd_T25 l0_3 x6_3).f2) _ _ ((rd_T25 l0_3 x6_3).f3) ((rd_T25 l1_3 x6_3).f0) ((rd_T25 l1_3 x6_3).f1) _ _ ((rd_T25 l1_3 x6_3).f2) _ _ ((rd_T25 l1_3 x6_3).f3) true _ ?side1 ?side2 ?side3 ?side4 ?side5 ?side6 ?side7 ?side8 A37.out).mono ?_
      (case side1=>repeat (first|exact (Kd.C_below HRz5_2.out HB.out)|(with_reducible refine Kd.C_alloc ?_ _)|(with_reducible refine Kd.C_drewN ?_ _)|(with_reducible refine Kd.C_drew ?_)))
      (case side2=>exact HCz5_2.out)
      (case side3=>repeat (first|exact (Kd.C_below HRz5_3.out HB.out)|(with_reducible refine Kd.C_alloc ?_ _)|(with_reducible refine Kd.C_drewN ?_ _)|(with_reducible refine Kd.C_drew ?_)))
      (case side4=>exact HCz5_3.out)
      (case side5=>repeat (first|exact (Kd.C_below HRz6_2.out HB.out)|(with_reducible refine Kd.C_alloc ?_ _)|(with_reducible refine Kd.C_drewN ?_ _)|(with_reducible refine Kd.C_drew ?_)))
      (case side6=>exact HCz6_2.out)
      (case side7=>repeat (first|exact (Kd.C_below HRz6_3.out HB.out)|(with_reducible refine Kd.C_alloc ?_ _)|(with_reducible refine Kd.C_drewN ?_ _)|(with_reducible refine Kd.C_drew ?_)))
      (case side8=>exact HCz6_3.out)
      rintro e w42 ⟨rfl,hb⟩
      refine ⟨_,rfl,?_⟩
      have n0_:=Ak (blk_below (g:=gbz0) (o := .cells #[.int .i64 a0_0, .string a0_1, .slice A0_2 l0_2.length c0_2, .slice (some adz5) l0_3.length c0_3] 25 (0,0)) (oL BKz0.out) hb)
      have n1_:=Ak (blk_below (g:=gbz1) (o := .cells #[.int .i64 a1_0, .string a1_1, .slice A1_2 l1_2.length c1_2, .slice (some adz6) l1_3.length c1_3] 25 (0,0)) (oL BKz1.out) hb)
      have n2_:=Ak (below_step (oB2 GEz0.out GEz1.out) hb)
      clear BKz0
      clear BKz1
      clear HB
      have BKz0:=n0_
      have BKz1:=n1_
      have HB:=n2_
      clear n0_ n1_ n2_
      (try clear hb)
      (try clear hb2)
      (try clear hk)
      (try clear hi)
      refine hK.out _ _ ⟨(blk_cell BKz0.out 0).trans rfl,(blk_cell BKz0.out 1).trans rfl,(blk_cell BKz0.out 2).trans rfl,(blk_cell BKz0.out 3).trans rfl,(blk_cell BKz1.out 0).trans rfl,(blk_cell BKz1.out 1).trans rfl,(blk_cell BKz1.out 2).trans rfl,(blk_cell BKz1.out 3).trans rfl,((HB.out.cell (World.block_lt_of_cell? w _ hwz5_0)).trans hwz5_0),((HB.out.cell (World.block_lt_of_cell? w _ hwz5_1)).trans hwz5_1),((HB.out.cell (World.block_lt_of_cell? w _ hwz5_2)).trans hwz5_2),((HB.out.cell (World.block_lt_of_cell? w _ hwz5_3)).trans hwz5_3),((HB.out.cell (World.block_lt_of_cell? w _ hwz6_0)).trans hwz6_0),((HB.out.cell (World.block_lt_of_cell? w _ hwz6_1)).trans hwz6_1),((HB.out.cell (World.block_lt_of_cell? w _ hwz6_2)).trans hwz6_2),((HB.out.cell (World.block_lt_of_cell? w _ hwz6_3)).trans hwz6_3)⟩ (fun hHeld=>?_)
      clear hK K
      refine norm_ (a':=?_) ?_ ?_
      rotate_left
      ·
       show Act.put _ (some 72) _=_
       simp only [Act.put,List.setIfInBounds_toArray,List.set_cons_zero,List.set_cons_succ,i64_w,i32_w]
       rfl
      refine zP 11 (some 73) (mA 12 4095) ?_
      refine done_ (done_of HT_.out (by kernel_rfl)) ?_
      try go_wp2
      go_roundg k3
      case measure=>have:=HJ2.out;have:=HK2.out;have:=HK3.out;omega
      case rel=>exact ⟨(wrap64 (x6_3+1)),oS,H',⟨by have:=HJ2.out;have:=HK2.out;have:=HK3.out;omega⟩,⟨oL BKz0.out⟩,⟨oL BKz1.out⟩,⟨oB2 GEz0.out GEz1.out⟩⟩
     replace c38:=Bool.eq_false_iff.mpr c38
     subst c38
     have H1:(some false)=some r:=by rw [if_neg (show ¬ (false=true) by decide)] at H;exact H
     clear H
     have H:=H1
     clear H1
     obtain rfl:=Option.some.inj H
     have hnb43:=NBz0_331002.out
     have hnc43:=NBz1_331001.out
     have hcz44_0:wr.cell? ⟨gbz0,0,none⟩=some (.int .i64 a0_0):=(blk_cell BKz0.out 0).trans rfl
     have hcz44_1:wr.cell? ⟨gbz0,1,none⟩=some (.string a0_1):=(blk_cell BKz0.out 1).trans rfl
     have hcz44_2:wr.cell? ⟨gbz0,2,none⟩=some (.slice A0_2 l0_2.length c0_2):=(blk_cell BKz0.out 2).trans rfl
     have hcz44_3:wr.cell? ⟨gbz0,3,none⟩=some (.slice A0_3 l0_3.length c0_3):=(blk_cell BKz0.out 3).trans rfl
     have hfz44_0:=blk_frozen BKz0.out 0
     have hfz44_1:=blk_frozen BKz0.out 1
     have hfz44_2:=blk_frozen BKz0.out 2
     have hfz44_3:=blk_frozen BKz0.out 3
     try go_wp2
     have n0_:=Ak (blk_drew BKz0.out)
     have n1_:=Ak (blk_drew BKz1.out)
     have n2_:=Ak (below_drew1 HB.out)
     clear BKz0
     clear BKz1
     clear HB
     have BKz0:=n0_
     have BKz1:=n1_
     have HB:=n2_
     clear n0_ n1_ n2_
     have pz5:0≤(x6_3:Int):=of_decide_eq_true oA
     have qz5:x6_3<(l0_3.length:Int):=of_decide_eq_true oA
     obtain ⟨adz5,Az5_2,cz5_2,Az5_3,cz5_3,ez5,hxz5_0,hxz5_1,hxz5_2,hxz5_3,hlz5_2,hiz5_2,hlz5_3,hiz5_3⟩:=at_T25 HR0_3.out x6_3 pz5 qz5
     have hwz5_3:=hxz5_3
     have hwz5_2:=hxz5_2
     have hwz5_1:=hxz5_1
     have hwz5_0:=hxz5_0
     cases ez5
     replace hxz5_0:=(HB.out.cell (World.block_lt_of_cell? w _ hxz5_0)).trans hxz5_0
     replace hxz5_1:=(HB.out.cell (World.block_lt_of_cell? w _ hxz5_1)).trans hxz5_1
     replace hxz5_2:=(HB.out.cell (World.block_lt_of_cell? w _ hxz5_2)).trans hxz5_2
     replace hxz5_3:=(HB.out.cell (World.block_lt_of_cell? w _ hxz5_3)).trans hxz5_3
     have HRz5_2:=Ak hiz5_2
     have HCz5_2:=Ak hlz5_2
     clear hiz5_2 hlz5_2
     have HRz5_3:=Ak hiz5_3
     have HCz5_3:=Ak hlz5_3
     clear hiz5_3 hlz5_3
     replace pz5:=eq_true pz5
     replace qz5:=eq_true qz5
     have pz6:0≤(x6_3:Int):=of_decide_eq_true oA
     have qz6:x6_3<(l1_3.length:Int):=of_decide_eq_true oA
     obtain ⟨adz6,Az6_2,cz6_2,Az6_3,cz6_3,ez6,hxz6_0,hxz6_1,hxz6_2,hxz6_3,hlz6_2,hiz6_2,hlz6_3,hiz6_3⟩:=at_T25 HR1_3.out x6_3 pz6 qz6
     have hwz6_3:=hxz6_3
     have hwz6_2:=hxz6_2
     have hwz6_1:=hxz6_1
     have hwz6_0:=hxz6_0
     cases ez6
     replace hxz6_0:=(HB.out.cell (World.block_lt_of_cell? w _ hxz6_0)).trans hxz6_0
     replace hxz6_1:=(HB.out.cell (World.block_lt_of_cell? w _ hxz6_1)).trans hxz6_1
     replace hxz6_2:=(HB.out.cell (World.block_lt_of_cell? w _ hxz6_2)).trans hxz6_2
     replace hxz6_3:=(HB.out.cell (World.block_lt_of_cell? w _ hxz6_3)).trans hxz6_3
     have HRz6_2:=Ak hiz6_2
     have HCz6_2:=Ak hlz6_2
     clear hiz6_2 hlz6_2
     have HRz6_3:=Ak hiz6_3
     have HCz6_3:=Ak hlz6_3
     clear hiz6_3 hlz6_3
     replace pz6:=eq_true pz6
     replace qz6:=eq_true qz6
     refine start_ (n:=12) (S:=fun w'=>w'.cell? ⟨gbz0,0,none⟩=some (.int .i64 a0_0)∧w'.cell? ⟨gbz0,1,none⟩=some (.string a0_1)∧w'.cell? ⟨gbz0,2,none⟩=some (.slice A0_2 l0_2.length c0_2)∧w'.cell? ⟨gbz0,3,none⟩=some (.slice (some adz5) l0_3.length c0_3)∧w'.cell? ⟨gbz1,0,none⟩=some (.int .i64 a1_0)∧w'.cell? ⟨gbz1,1,none⟩=some (.string a1_1)∧w'.cell? ⟨gbz1,2,none⟩=some (.slice A1_2 l1_2.length c1_2)∧w'.cell? ⟨gbz1,3,none⟩=some (.slice (some adz6) l1_3.length c1_3)∧w'.cell? (adz5.add ((x6_3).toNat*4))=some (.int .i64 ((rd_T25 l0_3 x6_3).f0))∧w'.cell? ⟨(adz5.add ((x6_3).toNat*4)).block,(adz5.add ((x6_3).toNat*4)).off+1,none⟩=some (.string ((rd_T25 l0_3 x6_3).f1))∧w'.cell? ⟨(adz5.add ((x6_3).toNat*4)).block,(adz5.add ((x6_3).toNat*4)).off+2,none⟩=some (.slice Az5_2 ((rd_T25 l0_3 x6_3).f2).length cz5_2)∧w'.cell? ⟨(adz5.add ((x6_3).toNat*4)).block,(adz5.add ((x6_3).toNat*4)).off+3,none⟩=some (.slice Az5_3 ((rd_T25 l0_3 x6_3).f3).length cz5_3)∧w'.cell? (adz6.add ((x6_3).toNat*4))=some (.int .i64 ((rd_T25 l1_3 x6_3).f0))∧w'.cell? ⟨(adz6.add ((x6_3).toNat*4)).block,(adz6.add ((x6_3).toNat*4)).off+1,none⟩=some (.string ((rd_T25 l1_3 x6_3).f1))∧w'.cell? ⟨(adz6.add ((x6_3).toNat*4)).block,(adz6.add ((x6_3).toNat*4)).off+2,none⟩=some (.slice Az6_2 ((rd_T25 l1_3 x6_3).f2).length cz6_2)∧w'.cell? ⟨(adz6.add ((x6_3).toNat*4)).block,(adz6.add ((x6_3).toNat*4)).off+3,none⟩=some (.slice Az6_3 ((rd_T25 l1_3 x6_3).f3).length cz6_3)) (ds:=[]) #[false,false,false,false,false,false,false,false,false,false,false,false] (by kernel_rfl) rfl rfl ⟨(blk_cell BKz0.out 0).trans rfl,(blk_cell BKz0.out 1).trans rfl,(blk_cell BKz0.out 2).trans rfl,(blk_cell BKz0.out 3).trans rfl,(blk_cell BKz1.out 0).trans rfl,(blk_cell BKz1.out 1).trans rfl,(blk_cell BKz1.out 2).trans rfl,(blk_cell BKz1.out 3).trans rfl,((HB.out.cell (World.block_lt_of_cell? w _ hwz5_0)).trans hwz5_0),((HB.out.cell (World.block_lt_of_cell? w _ hwz5_1)).trans hwz5_1),((HB.out.cell (World.block_lt_of_cell? w _ hwz5_2)).trans hwz5_2),((HB.out.cell (World.block_lt_of_cell? w _ hwz5_3)).trans hwz5_3),((HB.out.cell (World.block_lt_of_cell? w _ hwz6_0)).trans hwz6_0),((HB.out.cell (World.block_lt_of_cell? w _ hwz6_1)).trans hwz6_1),((HB.out.cell (World.block_lt_of_cell? w _ hwz6_2)).trans hwz6_2),((HB.out.cell (World.block_lt_of_cell? w _ hwz6_3)).trans hwz6_3)⟩ (fun hHeld=>?_);refine with_tabW sE.tab11 sE.bits11 (fun HT_ HW_=>?_)
     generalize wr.drew=w45 at BKz0 BKz1 HB HRz5_2 HRz5_3 HRz6_2 HRz6_3 hxz5_0 hxz5_1 hxz5_2 hxz5_3 hxz6_0 hxz6_1 hxz6_2 hxz6_3 hHeld ⊢
     refine zP 0 (some 62) (mA 12 1) ?_
     refine zP 2 (some 64) (mA 12 5) ?_
     refine zP 5 (some 67) (mA 12 37) ?_
     refine zP 7 (some 69) (mA 12 165) ?_
     refine zT 1 (some 63) (mA 12 167) ?_
     refine zP 3 (some 65) (mA 12 175) ?_
     refine zT 4 (some 66) (mA 12 191) ?_
     refine zT 6 (some 68) (mA 12 255) ?_
     refine zP 8 (some 70) (mA 12 511) ?_
     refine zT 9 (some 71) (mA 12 1023) ?_
     refine zO 10 (some 72) (mA 12 2047) (fun K hK=>?_)
     refine goes_ Tryz.func41 (by kernel_rfl) rfl #[.agg #[.int .i64 ((rd_T25 l0_3 x6_3).f0), .string ((rd_T25 l0_3 x6_3).f1), .slice Az5_2 ((rd_T25 l0_3 x6_3).f2).length cz5_2, .slice Az5_3 ((rd_T25 l0_3 x6_3).f3).length cz5_3], .agg #[.int .i64 ((rd_T25 l1_3 x6_3).f0), .string ((rd_T25 l1_3 x6_3).f1), .slice Az6_2 ((rd_T25 l1_3 x6_3).f2).length cz6_2, .slice Az6_3 ((rd_T25 l1_3 x6_3).f3).length cz6_3]] (by rfl) rfl rfl oM ?_
     with_reducible refine (ih k3 (by have:=HJ2.out;have:=HK2.out;have:=HK3.out;omega) ((rd_T25 l0_3 x6_3).f0) ((rd_T25 l0_3 x6_3).f1) _ _ ((rd_T25 l0_3 x6_3).f2) _ _ ((rd_T25 l0_3 x6_3).f3) ((rd_T25 l1_3 x6_3).f0) ((rd_T25 l1_3 x6_3).f1) _ _ ((rd_T25 l1_3 x6_3).f2) _ _ ((rd_T25 l1_3 x6_3).f3) false _ ?side1 ?side2 ?side3 ?side4 ?side5 ?side6 ?side7 ?side8 A37.out).mono ?_
     (case side1=>repeat (first|exact (Kd.C_below HRz5_2.out HB.out)|(with_reducible refine Kd.C_alloc ?_ _)|(with_reducible refine Kd.C_drewN ?_ _)|(with_reducible refine Kd.C_drew ?_)))
     (case side2=>exact HCz5_2.out)
     (case side3=>repeat (first|exact (Kd.C_below HRz5_3.out HB.out)|(with_reducible refine Kd.C_alloc ?_ _)|(with_reducible refine Kd.C_drewN ?_ _)|(with_reducible refine Kd.C_drew ?_)))
     (case side4=>exact HCz5_3.out)
     (case side5=>repeat (first|exact (Kd.C_below HRz6_2.out HB.out)|(with_reducible refine Kd.C_alloc ?_ _)|(with_reducible refine Kd.C_drewN ?_ _)|(with_reducible refine Kd.C_drew ?_)))
     (case side6=>exact HCz6_2.out)
     (case side7=>repeat (first|exact (Kd.C_below HRz6_3.out HB.out)|(with_reducible refine Kd.C_alloc ?_ _)|(with_reducible refine Kd.C_drewN ?_ _)|(with_reducible refine Kd.C_drew ?_)))
     (case side8=>exact HCz6_3.out)
     rintro e w46 ⟨rfl,hb⟩
     refine ⟨_,rfl,?_⟩
     have n0_:=Ak (blk_below (g:=gbz0) (o := .cells #[.int .i64 a0_0, .string a0_1, .slice A0_2 l0_2.length c0_2, .slice (some adz5) l0_3.length c0_3] 25 (0,0)) (oL BKz0.out) hb)
     have n1_:=Ak (blk_below (g:=gbz1) (o := .cells #[.int .i64 a1_0, .string a1_1, .slice A1_2 l1_2.length c1_2, .slice (some adz6) l1_3.length c1_3] 25 (0,0)) (oL BKz1.out) hb)
     have n2_:=Ak (below_step (oB2 GEz0.out GEz1.out) hb)
     clear BKz0
     clear BKz1
     clear HB
     have BKz0:=n0_
     have BKz1:=n1_
     have HB:=n2_
     clear n0_ n1_ n2_
     (try clear hb)
     (try clear hb2)
     (try clear hk)
     (try clear hi)
     refine hK.out _ _ ⟨(blk_cell BKz0.out 0).trans rfl,(blk_cell BKz0.out 1).trans rfl,(blk_cell BKz0.out 2).trans rfl,(blk_cell BKz0.out 3).trans rfl,(blk_cell BKz1.out 0).trans rfl,(blk_cell BKz1.out 1).trans rfl,(blk_cell BKz1.out 2).trans rfl,(blk_cell BKz1.out 3).trans rfl,((HB.out.cell (World.block_lt_of_cell? w _ hwz5_0)).trans hwz5_0),((HB.out.cell (World.block_lt_of_cell? w _ hwz5_1)).trans hwz5_1),((HB.out.cell (World.block_lt_of_cell? w _ hwz5_2)).trans hwz5_2),((HB.out.cell (World.block_lt_of_cell? w _ hwz5_3)).trans hwz5_3),((HB.out.cell (World.block_lt_of_cell? w _ hwz6_0)).trans hwz6_0),((HB.out.cell (World.block_lt_of_cell? w _ hwz6_1)).trans hwz6_1),((HB.out.cell (World.block_lt_of_cell? w _ hwz6_2)).trans hwz6_2),((HB.out.cell (World.block_lt_of_cell? w _ hwz6_3)).trans hwz6_3)⟩ (fun hHeld=>?_)
     clear hK K
     refine norm_ (a':=?_) ?_ ?_
     rotate_left
     ·
      show Act.put _ (some 72) _=_
      simp only [Act.put,List.setIfInBounds_toArray,List.set_cons_zero,List.set_cons_succ,i64_w,i32_w]
      rfl
     refine zP 11 (some 73) (mA 12 4095) ?_
     refine done_ (done_of HT_.out (by kernel_rfl)) ?_
     try go_wp2
     go_ret
     exact ⟨oE,oB2 GEz0.out GEz1.out⟩
    rw [if_neg c35] at H
    exact absurd H (by simp)
end Go.Proofs.YtnejkimpkaopoaaGreatDoor.Q
end

/- Functions of the program as Lean functions, each with a proof that the call comes to what it gives. Written by prx.py (wip/pr). -/
import Derived.Test.YtbkgoccnegjdhaaB0
namespace Go.Proofs.Ytbkgoccnegjdhaa.Q
open Go.RowKit Go.Proofs.YtbkgoccnegjdhaaW.PrintWords Go.Proofs.YtbkgoccnegjdhaaW.PrintLast Go.Proofs.YtbkgoccnegjdhaaW.PrintMore
attribute [local go_sem] max2_int min2_int max_two min_two max_three min_three max_four min_four   -- for this text's walks alone
set_option linter.unusedVariables false
set_option linter.unusedSimpArgs false
/-! ### sE: function 11 -/
def sE.l0:Nat→ByteArray→Int→Option (Bool)
  | 0,_,_=>none
  | k+1,x0,x3=>if x3<(x0.size:Int) then (if 0≤x3 then (if (bt x0 x3)=92 then (some true) else (sE.l0 k x0 (wrap64 (x3+1)))) else (none)) else (some false)
def sE.f (k:Nat) (a0:ByteArray):Option (Bool):=sE.l0 k a0 0
theorem sE.mono_l : ∀ k,(∀ y0 y1,LeO (sE.l0 k y0 y1) (sE.l0 (k+1) y0 y1))
  | 0=>fun _ _ r h=>by simp [sE.l0] at h
  | k+1=>by
    have ih0:=sE.mono_l k
    · intro y0 y1
      unfold sE.l0
      repeat' first|(with_reducible first|apply ih0|apply LeO.refl|apply LeO.none|refine LeO.ite ?_ ?_|refine LeO.bind ?_ (fun _=>?_))|apply ih0|apply LeO.none|refine LeO.ite ?_ ?_|refine LeO.bind ?_ (fun _=>?_)
theorem sE.mono : ∀ a0 k,LeO (sE.f k a0) (sE.f (k+1) a0):=by
 intro a0 k
 have ih0:=sE.mono_l k
 unfold sE.f
 repeat' first|(with_reducible first|apply ih0|apply LeO.refl|apply LeO.none|refine LeO.ite ?_ ?_|refine LeO.bind ?_ (fun _=>?_))|apply ih0|apply LeO.none|refine LeO.ite ?_ ?_|refine LeO.bind ?_ (fun _=>?_)
set_option maxHeartbeats 8000000 in
set_option maxRecDepth 100000 in
theorem sE.calls (k:Nat) (a0:ByteArray) (r:Bool) (w:World) (h:sE.f k a0=some r) :
 Calls Try.prog 11 #[.string a0] w fun e w'=>e = .returned (.bool r)∧Drawn0 w w':=by
 have H:(sE.l0 k a0 0)=some r:=h
 clear h
 have H':=Ak H
 clear H
 go_enter Try.func11,Try.ntmps11
 go_wp2
 (try simp only [Act.put,List.setIfInBounds_toArray,List.set_cons_zero,List.set_cons_succ])
 go_loopg [3] k (fun kq v3 w' => ∃ (x3_1:Int),v3 = .int .i64 x3_1∧Aside0 (sE.l0 kq a0 x3_1=some r)∧Aside0 (kq≤k)∧Drawn0 w w')
 case atStart=>exact ⟨(0),oS,H',⟨Nat.le_refl _⟩,by repeat (first|exact Drawn0.refl _|apply Drawn0.step)⟩
 case round =>
 clear H'
 obtain ⟨x3_1,rfl,HA,HK1,⟨m1,rfl⟩⟩:=hrel
 cases gk with
 | zero=>exact absurd HA.out (by simp [sE.l0])
 | succ k1 =>
  have H:=HA.out
  clear HA
  simp only [sE.l0] at H
  by_cases c2:x3_1<(a0.size:Int)
  rotate_left
  ·
   rw [if_neg c2] at H
   have c2b0:decide (x3_1<(a0.size:Int))=false:=decide_eq_false c2
   clear c2
   obtain rfl:=Option.some.inj H
   go_wp2
   go_ret
   exact ⟨oS,by repeat (first|exact Drawn0.refl _|apply Drawn0.step)⟩
  rw [if_pos c2] at H
  have c2b0:decide (x3_1<(a0.size:Int))=true:=decide_eq_true c2
  clear c2
  by_cases c3:0≤x3_1
  ·
   rw [if_pos c3] at H
   have c3b0:decide (0≤x3_1)=true:=decide_eq_true c3
   clear c3
   by_cases c5:(bt a0 x3_1)=92
   ·
    rw [if_pos c5] at H
    have c5b0:((bt a0 x3_1) == 92)=true:=beq_iff_eq.mpr c5
    have c5b1:((bt a0 x3_1) != 92)=false:=bne_eq_false_iff_eq.mpr c5
    clear c5
    obtain rfl:=Option.some.inj H
    have p4:0≤(x3_1:Int):=of_decide_eq_true oA
    have q4:x3_1<(a0.size:Int):=of_decide_eq_true oA
    have hx4:=bt_at a0 x3_1
    replace p4:=eq_true p4
    replace q4:=eq_true q4
    go_wp2
    go_ret
    exact ⟨oS,by repeat (first|exact Drawn0.refl _|apply Drawn0.step)⟩
   rw [if_neg c5] at H
   have c5b0:((bt a0 x3_1) == 92)=false:=beq_eq_false_iff_ne.mpr c5
   have c5b1:((bt a0 x3_1) != 92)=true:=bne_iff_ne.mpr c5
   have H':=Ak H
   clear H
   have p4:0≤(x3_1:Int):=of_decide_eq_true oA
   have q4:x3_1<(a0.size:Int):=of_decide_eq_true oA
   have hx4:=bt_at a0 x3_1
   replace p4:=eq_true p4
   replace q4:=eq_true q4
   go_wp2
   go_roundg k1
   case measure=>have:=HK1.out;omega
   case rel=>exact ⟨(wrap64 (x3_1+1)),oS,H',⟨by have:=HK1.out;omega⟩,by repeat (first|exact Drawn0.refl _|apply Drawn0.step)⟩
  rw [if_neg c3] at H
  exact absurd H (by simp)
/-! ### sA: function 17 -/
def sA.l0:Nat→ByteArray→Int→Int→ByteArray→List ByteArray→List (S42)→Option (Int)
  | 0,_,_,_,_,_,_=>none
  | k+1,x1,x5,xz0000,xz0001,xz0002,xz0003=>if x5 ≥ 0 then (if 0≤x5 then (if x5<(xz0002.length:Int) then (if (rdOf ByteArray.empty xz0002 x5).toList=x1.toList then (some x5) else (sA.l0 k x1 (wrap64 (x5 - 1)) xz0000 xz0001 xz0002 xz0003)) else (none)) else (none)) else (some (-1))
def sA.f (k:Nat) (a0_0:Int) (a0_1:ByteArray) (l0_2:List ByteArray) (l0_3:List (S42)) (a1:ByteArray):Option (Int):=sA.l0 k a1 (wrap64 ((l0_2.length:Int) - 1)) a0_0 a0_1 l0_2 l0_3
theorem sA.mono_l : ∀ k,(∀ y0 y1 y2 y3 y4 y5,LeO (sA.l0 k y0 y1 y2 y3 y4 y5) (sA.l0 (k+1) y0 y1 y2 y3 y4 y5))
  | 0=>fun _ _ _ _ _ _ r h=>by simp [sA.l0] at h
  | k+1=>by
    have ih0:=sA.mono_l k
    · intro y0 y1 y2 y3 y4 y5
      unfold sA.l0
      repeat' first|(with_reducible first|apply ih0|apply LeO.refl|apply LeO.none|refine LeO.ite ?_ ?_|refine LeO.bind ?_ (fun _=>?_))|apply ih0|apply LeO.none|refine LeO.ite ?_ ?_|refine LeO.bind ?_ (fun _=>?_)
theorem sA.mono : ∀ a0 a1 a2 a3 a4 k,LeO (sA.f k a0 a1 a2 a3 a4) (sA.f (k+1) a0 a1 a2 a3 a4):=by
 intro a0 a1 a2 a3 a4 k
 have ih0:=sA.mono_l k
 unfold sA.f
 repeat' first|(with_reducible first|apply ih0|apply LeO.refl|apply LeO.none|refine LeO.ite ?_ ?_|refine LeO.bind ?_ (fun _=>?_))|apply ih0|apply LeO.none|refine LeO.ite ?_ ?_|refine LeO.bind ?_ (fun _=>?_)
set_option maxHeartbeats 8000000 in
set_option maxRecDepth 100000 in
theorem sA.calls (k:Nat) (a0_0:Int) (a0_1:ByteArray) (A0_2:Option Addr) (c0_2:Nat) (l0_2:List ByteArray) (A0_3:Option Addr) (c0_3:Nat) (l0_3:List (S42)) (a1:ByteArray) (r:Int) (w:World) (hr0_2:Kd.C Kd.string w A0_2 l0_2.length l0_2) (hc0_2:l0_2.length≤c0_2) (hr0_3:Kd.C k42 w A0_3 l0_3.length l0_3) (hc0_3:l0_3.length≤c0_3) (h:sA.f k a0_0 a0_1 l0_2 l0_3 a1=some r) :
 Calls Try.prog 17 #[.agg #[.int .i64 a0_0, .string a0_1, .slice A0_2 l0_2.length c0_2, .slice A0_3 l0_3.length c0_3], .string a1] w fun e w'=>e = .returned (.int .i64 r)∧Below w.heap.size w w':=by
 have hu42:=Try.underlying42
 have HR0_2:=Ak hr0_2
 have HC0_2:=Ak hc0_2
 clear hr0_2 hc0_2
 have HR0_3:=Ak hr0_3
 have HC0_3:=Ak hc0_3
 clear hr0_3 hc0_3
 have HB:=Ak (Below.refl w.heap.size w)
 have H:(sA.l0 k a1 (wrap64 ((l0_2.length:Int) - 1)) a0_0 a0_1 l0_2 l0_3)=some r:=h
 clear h
 have H':=Ak H
 clear H
 go_enter Try.func17,Try.ntmps17
 go_wp2_with (first|((with_reducible refine gate_dst (N:=2) rfl ?_);refine box_event ?hg (N:=2) ?hd (cs := #[.int .i64 a0_0, .string a0_1, .slice A0_2 l0_2.length c0_2, .slice A0_3 l0_3.length c0_3]) (t:=42) ?hr ?_;(case hd=>rfl);(case hg=>rfl);(case hr=>first|(go_simp;done)|(go_simp;rfl));intro gbz0 hg w3 hbox hb;have _:=Ak (below_step oB hb);have _:=Ak (hbox);have _:=Ak ((by rw [hg];exact (below_size oB):w.heap.size≤gbz0));have _:=Ak ((by rw [hg];exact (below_size oB):w.heap.size≤gbz0));clear HB;rename_i HB BKz0 GWz0 GEz0;clear hb hbox hg;have hcz4_0:w3.cell? ⟨gbz0,0,none⟩=some (.int .i64 a0_0):=(blk_cell BKz0.out 0).trans rfl;have hcz4_1:w3.cell? ⟨gbz0,1,none⟩=some (.string a0_1):=(blk_cell BKz0.out 1).trans rfl;have hcz4_2:w3.cell? ⟨gbz0,2,none⟩=some (.slice A0_2 l0_2.length c0_2):=(blk_cell BKz0.out 2).trans rfl;have hcz4_3:w3.cell? ⟨gbz0,3,none⟩=some (.slice A0_3 l0_3.length c0_3):=(blk_cell BKz0.out 3).trans rfl;have hfz4_0:=blk_frozen BKz0.out 0;have hfz4_1:=blk_frozen BKz0.out 1;have hfz4_2:=blk_frozen BKz0.out 2;have hfz4_3:=blk_frozen BKz0.out 3))
 (try simp only [Act.put,List.setIfInBounds_toArray,List.set_cons_zero,List.set_cons_succ])
 go_loopg [5] k (fun kq v5 w' => ∃ (x5_1:Int),v5 = .int .i64 x5_1∧Aside0 (sA.l0 kq a1 x5_1 a0_0 a0_1 l0_2 l0_3=some r)∧Aside0 (kq≤k)∧Aside0 (w'.heap[gbz0]? = some (.cells #[.int .i64 a0_0, .string a0_1,(.slice A0_2 l0_2.length c0_2),(.slice A0_3 l0_3.length c0_3)] 42 (0,0)))∧Aside0 (Below w.heap.size w w'))
 case atStart=>exact ⟨(wrap64 ((l0_2.length:Int) - 1)),oS,H',⟨Nat.le_refl _⟩,⟨oL BKz0.out⟩,⟨oB1 GEz0.out⟩⟩
 case round =>
 clear H'
 clear hcz4_0 hcz4_1 hcz4_2 hcz4_3 hfz4_0 hfz4_1 hfz4_2 hfz4_3
 obtain ⟨x5_1,rfl,HA,HK1,BKz0,HB⟩:=hrel
 cases gk with
 | zero=>exact absurd HA.out (by simp [sA.l0])
 | succ k1 =>
  have H:=HA.out
  clear HA
  simp only [sA.l0] at H
  by_cases c5:x5_1 ≥ 0
  rotate_left
  ·
   rw [if_neg c5] at H
   have c5b0:decide (0≤x5_1)=false:=decide_eq_false c5
   clear c5
   obtain rfl:=Option.some.inj H
   go_wp2
   go_ret
   exact ⟨oE,oB1 GEz0.out⟩
  rw [if_pos c5] at H
  have c5b0:decide (0≤x5_1)=true:=decide_eq_true c5
  clear c5
  by_cases c6:0≤x5_1
  ·
   rw [if_pos c6] at H
   have c6b0:decide (0≤x5_1)=true:=decide_eq_true c6
   clear c6
   by_cases c7:x5_1<(l0_2.length:Int)
   rotate_left
   ·
    rw [if_neg c7] at H
    exact absurd H (by simp)
   rw [if_pos c7] at H
   have c7b0:decide (x5_1<(l0_2.length:Int))=true:=decide_eq_true c7
   clear c7
   by_cases c8:(rdOf ByteArray.empty l0_2 x5_1).toList=a1.toList
   ·
    rw [if_pos c8] at H
    have c8b0:((rdOf ByteArray.empty l0_2 x5_1).toList == a1.toList)=true:=beq_iff_eq.mpr c8
    have c8b1:((rdOf ByteArray.empty l0_2 x5_1).toList != a1.toList)=false:=bne_eq_false_iff_eq.mpr c8
    clear c8
    obtain rfl:=Option.some.inj H
    have hcz9_0:wr.cell? ⟨gbz0,0,none⟩=some (.int .i64 a0_0):=(blk_cell BKz0.out 0).trans rfl
    have hcz9_1:wr.cell? ⟨gbz0,1,none⟩=some (.string a0_1):=(blk_cell BKz0.out 1).trans rfl
    have hcz9_2:wr.cell? ⟨gbz0,2,none⟩=some (.slice A0_2 l0_2.length c0_2):=(blk_cell BKz0.out 2).trans rfl
    have hcz9_3:wr.cell? ⟨gbz0,3,none⟩=some (.slice A0_3 l0_3.length c0_3):=(blk_cell BKz0.out 3).trans rfl
    have hfz9_0:=blk_frozen BKz0.out 0
    have hfz9_1:=blk_frozen BKz0.out 1
    have hfz9_2:=blk_frozen BKz0.out 2
    have hfz9_3:=blk_frozen BKz0.out 3
    have pz1:0≤(x5_1:Int):=of_decide_eq_true oA
    have qz1:x5_1<(l0_2.length:Int):=of_decide_eq_true oA
    obtain ⟨adz1,ez1,hxz1_0⟩:=Kd.at_string HR0_2.out x5_1 pz1 qz1
    cases ez1
    replace hxz1_0:=(HB.out.cell (World.block_lt_of_cell? w _ hxz1_0)).trans hxz1_0
    replace pz1:=eq_true pz1
    replace qz1:=eq_true qz1
    go_wp2
    go_ret
    exact ⟨oE,oB1 GEz0.out⟩
   rw [if_neg c8] at H
   have c8b0:((rdOf ByteArray.empty l0_2 x5_1).toList == a1.toList)=false:=beq_eq_false_iff_ne.mpr c8
   have c8b1:((rdOf ByteArray.empty l0_2 x5_1).toList != a1.toList)=true:=bne_iff_ne.mpr c8
   have H':=Ak H
   clear H
   have hcz10_0:wr.cell? ⟨gbz0,0,none⟩=some (.int .i64 a0_0):=(blk_cell BKz0.out 0).trans rfl
   have hcz10_1:wr.cell? ⟨gbz0,1,none⟩=some (.string a0_1):=(blk_cell BKz0.out 1).trans rfl
   have hcz10_2:wr.cell? ⟨gbz0,2,none⟩=some (.slice A0_2 l0_2.length c0_2):=(blk_cell BKz0.out 2).trans rfl
   have hcz10_3:wr.cell? ⟨gbz0,3,none⟩=some (.slice A0_3 l0_3.length c0_3):=(blk_cell BKz0.out 3).trans rfl
   have hfz10_0:=blk_frozen BKz0.out 0
   have hfz10_1:=blk_frozen BKz0.out 1
   have hfz10_2:=blk_frozen BKz0.out 2
   have hfz10_3:=blk_frozen BKz0.out 3
   have pz1:0≤(x5_1:Int):=of_decide_eq_true oA
   have qz1:x5_1<(l0_2.length:Int):=of_decide_eq_true oA
   obtain ⟨adz1,ez1,hxz1_0⟩:=Kd.at_string HR0_2.out x5_1 pz1 qz1
   cases ez1
   replace hxz1_0:=(HB.out.cell (World.block_lt_of_cell? w _ hxz1_0)).trans hxz1_0
   replace pz1:=eq_true pz1
   replace qz1:=eq_true qz1
   go_wp2
   go_roundg k1
   case measure=>have:=HK1.out;omega
   case rel=>exact ⟨(wrap64 (x5_1 - 1)),oS,H',⟨by have:=HK1.out;omega⟩,⟨oL BKz0.out⟩,⟨oB1 GEz0.out⟩⟩
  rw [if_neg c6] at H
  exact absurd H (by simp)
/-! ### sV: function 12 -/
mutual
def sV.l0:Nat→Int→Int→ByteArray→List ByteArray→List (S42)→Option (Bool)
  | 0,_,_,_,_,_=>none
  | k+1,x3,xz0000,xz0001,xz0002,xz0003=>if x3<(xz0002.length:Int) then (if 0≤x3 then ((sA.f k xz0000 xz0001 xz0002 xz0003 (rdOf ByteArray.empty xz0002 x3)).bind fun tz1=>(if tz1=x3 then (sV.l0 k (wrap64 (x3+1)) xz0000 xz0001 xz0002 xz0003) else (some false))) else (none)) else (sV.l1 k 0 xz0000 xz0001 xz0002 xz0003)
def sV.l1:Nat→Int→Int→ByteArray→List ByteArray→List (S42)→Option (Bool)
  | 0,_,_,_,_,_=>none
  | k+1,x4,xz0000,xz0001,xz0002,xz0003=>if x4<(xz0003.length:Int) then (if 0≤x4 then ((sV.f k ((rd_T42 xz0003 x4).f0) ((rd_T42 xz0003 x4).f1) ((rd_T42 xz0003 x4).f2) ((rd_T42 xz0003 x4).f3)).bind fun tz1=>(if tz1=true then (sV.l1 k (wrap64 (x4+1)) xz0000 xz0001 xz0002 xz0003) else (some false))) else (none)) else (some true)
def sV.f:Nat→Int→ByteArray→List ByteArray→List (S42)→Option (Bool)
  | 0,_,_,_,_=>none
  | k+1,a0_0,a0_1,l0_2,l0_3=>sV.l0 k 0 a0_0 a0_1 l0_2 l0_3
end
theorem sV.mono_l : ∀ k,(∀ y0 y1 y2 y3,LeO (sV.f k y0 y1 y2 y3) (sV.f (k+1) y0 y1 y2 y3))∧(∀ y0 y1 y2 y3 y4,LeO (sV.l0 k y0 y1 y2 y3 y4) (sV.l0 (k+1) y0 y1 y2 y3 y4))∧(∀ y0 y1 y2 y3 y4,LeO (sV.l1 k y0 y1 y2 y3 y4) (sV.l1 (k+1) y0 y1 y2 y3 y4))
  | 0=>⟨fun _ _ _ _ r h=>by simp [sV.f] at h,fun _ _ _ _ _ r h=>by simp [sV.l0] at h,fun _ _ _ _ _ r h=>by simp [sV.l1] at h⟩
  | k+1=>by
    obtain ⟨ih0,ih1,ih2⟩:=sV.mono_l k
    refine ⟨?_,?_,?_⟩
    · intro y0 y1 y2 y3
      unfold sV.f
      repeat' first|(with_reducible first|apply ih0|apply ih1|apply ih2|apply sA.mono|apply LeO.refl|apply LeO.none|refine LeO.ite ?_ ?_|refine LeO.bind ?_ (fun _=>?_))|apply ih0|apply ih1|apply ih2|apply sA.mono|apply LeO.none|refine LeO.ite ?_ ?_|refine LeO.bind ?_ (fun _=>?_)
    · intro y0 y1 y2 y3 y4
      unfold sV.l0
      repeat' first|(with_reducible first|apply ih0|apply ih1|apply ih2|apply sA.mono|apply LeO.refl|apply LeO.none|refine LeO.ite ?_ ?_|refine LeO.bind ?_ (fun _=>?_))|apply ih0|apply ih1|apply ih2|apply sA.mono|apply LeO.none|refine LeO.ite ?_ ?_|refine LeO.bind ?_ (fun _=>?_)
    · intro y0 y1 y2 y3 y4
      unfold sV.l1
      repeat' first|(with_reducible first|apply ih0|apply ih1|apply ih2|apply sA.mono|apply LeO.refl|apply LeO.none|refine LeO.ite ?_ ?_|refine LeO.bind ?_ (fun _=>?_))|apply ih0|apply ih1|apply ih2|apply sA.mono|apply LeO.none|refine LeO.ite ?_ ?_|refine LeO.bind ?_ (fun _=>?_)
theorem sV.mono : ∀ a0 a1 a2 a3 k,LeO (sV.f k a0 a1 a2 a3) (sV.f (k+1) a0 a1 a2 a3):=by
 intro a0 a1 a2 a3 k
 obtain ⟨ih0,ih1,ih2⟩:=sV.mono_l k
 exact ih0 a0 a1 a2 a3
def sV.T4:Bool × List (List Nat × List Nat):=(true,[([],[]),([],[]),([1],[1]),([],[]),([2,3],[2,3]),([4],[4]),([0,5],[0,5]),([],[]),([6,7],[6,7])])
def sV.B4:List Nat:=[0,0,2,0,14,30,63,0,255]
theorem sV.tab4:rtab .any (opsOf Try.f12 4)=sV.T4:=by kernel_rfl
theorem sV.bits4:waitsOk sV.T4.2 sV.B4=true:=by kernel_rfl
set_option maxHeartbeats 8000000 in
set_option maxRecDepth 100000 in
theorem sV.calls (k:Nat) : ∀ (a0_0:Int) (a0_1:ByteArray) (A0_2:Option Addr) (c0_2:Nat) (l0_2:List ByteArray) (A0_3:Option Addr) (c0_3:Nat) (l0_3:List (S42)) (r:Bool) (w:World) (hr0_2:Kd.C Kd.string w A0_2 l0_2.length l0_2) (hc0_2:l0_2.length≤c0_2) (hr0_3:Kd.C k42 w A0_3 l0_3.length l0_3) (hc0_3:l0_3.length≤c0_3) (h:sV.f k a0_0 a0_1 l0_2 l0_3=some r),
 Calls Try.prog 12 #[.agg #[.int .i64 a0_0, .string a0_1, .slice A0_2 l0_2.length c0_2, .slice A0_3 l0_3.length c0_3]] w fun e w'=>e = .returned (.bool r)∧Below w.heap.size w w':=by
 induction k using Nat.strongRecOn with
 | _ k ih =>
 intro a0_0 a0_1 A0_2 c0_2 l0_2 A0_3 c0_3 l0_3 r w hr0_2 hc0_2 hr0_3 hc0_3 h
 cases k with
 | zero=>exact absurd h (by simp [sV.f])
 | succ k =>
 simp only [sV.f] at h
 have hu42:=Try.underlying42
 have HR0_2:=Ak hr0_2
 have HC0_2:=Ak hc0_2
 clear hr0_2 hc0_2
 have HR0_3:=Ak hr0_3
 have HC0_3:=Ak hc0_3
 clear hr0_3 hc0_3
 have HB:=Ak (Below.refl w.heap.size w)
 have H:(sV.l0 k 0 a0_0 a0_1 l0_2 l0_3)=some r:=h
 clear h
 have H':=Ak H
 clear H
 go_enter Try.func12,Try.ntmps12
 go_wp2_with (first|((with_reducible refine gate_dst (N:=1) rfl ?_);refine box_event ?hg (N:=1) ?hd (cs := #[.int .i64 a0_0, .string a0_1, .slice A0_2 l0_2.length c0_2, .slice A0_3 l0_3.length c0_3]) (t:=42) ?hr ?_;(case hd=>rfl);(case hg=>rfl);(case hr=>first|(go_simp;done)|(go_simp;rfl));intro gbz0 hg w2 hbox hb;have _:=Ak (below_step oB hb);have _:=Ak (hbox);have _:=Ak ((by rw [hg];exact (below_size oB):w.heap.size≤gbz0));have _:=Ak ((by rw [hg];exact (below_size oB):w.heap.size≤gbz0));clear HB;rename_i HB BKz0 GWz0 GEz0;clear hb hbox hg))
 (try simp only [Act.put,List.setIfInBounds_toArray,List.set_cons_zero,List.set_cons_succ])
 go_loopg [3] k (fun kq v3 w' => ∃ (x3_1:Int),v3 = .int .i64 x3_1∧Aside0 (sV.l0 kq x3_1 a0_0 a0_1 l0_2 l0_3=some r)∧Aside0 (kq≤k)∧Aside0 (w'.heap[gbz0]? = some (.cells #[.int .i64 a0_0, .string a0_1,(.slice A0_2 l0_2.length c0_2),(.slice A0_3 l0_3.length c0_3)] 42 (0,0)))∧Aside0 (Below w.heap.size w w'))
 case atStart=>exact ⟨(0),oS,H',⟨Nat.le_refl _⟩,⟨oL BKz0.out⟩,⟨oB1 GEz0.out⟩⟩
 case round =>
 clear H'
 obtain ⟨x3_1,rfl,HA,HK1,BKz0,HB⟩:=hrel
 cases gk with
 | zero=>exact absurd HA.out (by simp [sV.l0])
 | succ k1 =>
  have H:=HA.out
  clear HA
  simp only [sV.l0] at H
  by_cases c3:x3_1<(l0_2.length:Int)
  rotate_left
  ·
   rw [if_neg c3] at H
   have c3b0:decide (x3_1<(l0_2.length:Int))=false:=decide_eq_false c3
   clear c3
   have H':=Ak H
   clear H
   have hcz13_0:wr.cell? ⟨gbz0,0,none⟩=some (.int .i64 a0_0):=(blk_cell BKz0.out 0).trans rfl
   have hcz13_1:wr.cell? ⟨gbz0,1,none⟩=some (.string a0_1):=(blk_cell BKz0.out 1).trans rfl
   have hcz13_2:wr.cell? ⟨gbz0,2,none⟩=some (.slice A0_2 l0_2.length c0_2):=(blk_cell BKz0.out 2).trans rfl
   have hcz13_3:wr.cell? ⟨gbz0,3,none⟩=some (.slice A0_3 l0_3.length c0_3):=(blk_cell BKz0.out 3).trans rfl
   have hfz13_0:=blk_frozen BKz0.out 0
   have hfz13_1:=blk_frozen BKz0.out 1
   have hfz13_2:=blk_frozen BKz0.out 2
   have hfz13_3:=blk_frozen BKz0.out 3
   go_wp2
   (try simp only [Act.put,List.setIfInBounds_toArray,List.set_cons_zero,List.set_cons_succ])
   go_loopg [4] k1 (fun kq v4 w' => ∃ (x4_2:Int),v4 = .int .i64 x4_2∧Aside0 (sV.l1 kq x4_2 a0_0 a0_1 l0_2 l0_3=some r)∧Aside0 (kq≤k1)∧Aside0 (w'.heap[gbz0]? = some (.cells #[.int .i64 a0_0, .string a0_1,(.slice A0_2 l0_2.length c0_2),(.slice A0_3 l0_3.length c0_3)] 42 (0,0)))∧Aside0 (Below w.heap.size w w'))
   case atStart=>exact ⟨(0),oS,H',⟨Nat.le_refl _⟩,⟨oL BKz0.out⟩,⟨oB1 GEz0.out⟩⟩
   case round =>
   clear H'
   clear c3b0 hcz13_0 hcz13_1 hcz13_2 hcz13_3 hfz13_0 hfz13_1 hfz13_2 hfz13_3
   obtain ⟨x4_2,rfl,HA,HK2,BKz0,HB⟩:=hrel
   cases gk with
   | zero=>exact absurd HA.out (by simp [sV.l1])
   | succ k2 =>
    have H:=HA.out
    clear HA
    simp only [sV.l1] at H
    by_cases c14:x4_2<(l0_3.length:Int)
    rotate_left
    ·
     rw [if_neg c14] at H
     have c14b0:decide (x4_2<(l0_3.length:Int))=false:=decide_eq_false c14
     clear c14
     obtain rfl:=Option.some.inj H
     have hcz22_0:wr.cell? ⟨gbz0,0,none⟩=some (.int .i64 a0_0):=(blk_cell BKz0.out 0).trans rfl
     have hcz22_1:wr.cell? ⟨gbz0,1,none⟩=some (.string a0_1):=(blk_cell BKz0.out 1).trans rfl
     have hcz22_2:wr.cell? ⟨gbz0,2,none⟩=some (.slice A0_2 l0_2.length c0_2):=(blk_cell BKz0.out 2).trans rfl
     have hcz22_3:wr.cell? ⟨gbz0,3,none⟩=some (.slice A0_3 l0_3.length c0_3):=(blk_cell BKz0.out 3).trans rfl
     have hfz22_0:=blk_frozen BKz0.out 0
     have hfz22_1:=blk_frozen BKz0.out 1
     have hfz22_2:=blk_frozen BKz0.out 2
     have hfz22_3:=blk_frozen BKz0.out 3
     go_wp2
     go_ret
     exact ⟨oE,oB1 GEz0.out⟩
    rw [if_pos c14] at H
    have c14b0:decide (x4_2<(l0_3.length:Int))=true:=decide_eq_true c14
    clear c14
    by_cases c15:0≤x4_2
    ·
     rw [if_pos c15] at H
     have c15b0:decide (0≤x4_2)=true:=decide_eq_true c15
     clear c15
     replace H:=Option.bind_eq_some_iff.mp H
     obtain ⟨tz3,A160,H⟩:=H
     replace H:(if tz3=true then (sV.l1 k2 (wrap64 (x4_2+1)) a0_0 a0_1 l0_2 l0_3) else (some false))=some r:=H
     have A16:=Ak A160
     clear A160
     by_cases c17:tz3=true
     ·
      subst c17
      have H1:(sV.l1 k2 (wrap64 (x4_2+1)) a0_0 a0_1 l0_2 l0_3)=some r:=by rw [if_pos rfl] at H;exact H
      clear H
      have H:=H1
      clear H1
      have H':=Ak H
      clear H
      have hcz18_0:wr.cell? ⟨gbz0,0,none⟩=some (.int .i64 a0_0):=(blk_cell BKz0.out 0).trans rfl
      have hcz18_1:wr.cell? ⟨gbz0,1,none⟩=some (.string a0_1):=(blk_cell BKz0.out 1).trans rfl
      have hcz18_2:wr.cell? ⟨gbz0,2,none⟩=some (.slice A0_2 l0_2.length c0_2):=(blk_cell BKz0.out 2).trans rfl
      have hcz18_3:wr.cell? ⟨gbz0,3,none⟩=some (.slice A0_3 l0_3.length c0_3):=(blk_cell BKz0.out 3).trans rfl
      have hfz18_0:=blk_frozen BKz0.out 0
      have hfz18_1:=blk_frozen BKz0.out 1
      have hfz18_2:=blk_frozen BKz0.out 2
      have hfz18_3:=blk_frozen BKz0.out 3
      have pz4:0≤(x4_2:Int):=of_decide_eq_true oA
      have qz4:x4_2<(l0_3.length:Int):=of_decide_eq_true oA
      obtain ⟨adz4,Az4_2,cz4_2,Az4_3,cz4_3,ez4,hxz4_0,hxz4_1,hxz4_2,hxz4_3,hlz4_2,hiz4_2,hlz4_3,hiz4_3⟩:=at_T42 HR0_3.out x4_2 pz4 qz4
      cases ez4
      replace hxz4_0:=(HB.out.cell (World.block_lt_of_cell? w _ hxz4_0)).trans hxz4_0
      replace hxz4_1:=(HB.out.cell (World.block_lt_of_cell? w _ hxz4_1)).trans hxz4_1
      replace hxz4_2:=(HB.out.cell (World.block_lt_of_cell? w _ hxz4_2)).trans hxz4_2
      replace hxz4_3:=(HB.out.cell (World.block_lt_of_cell? w _ hxz4_3)).trans hxz4_3
      have HRz4_2:=Ak hiz4_2
      have HCz4_2:=Ak hlz4_2
      clear hiz4_2 hlz4_2
      have HRz4_3:=Ak hiz4_3
      have HCz4_3:=Ak hlz4_3
      clear hiz4_3 hlz4_3
      replace pz4:=eq_true pz4
      replace qz4:=eq_true qz4
      go_wp2_with (first|((with_reducible refine gate_callee (f:=12) rfl ?_);refine goesL_ (some 33) rfl rfl Try.func12 (by kernel_rfl) rfl #[.agg #[.int .i64 ((rd_T42 l0_3 x4_2).f0), .string ((rd_T42 l0_3 x4_2).f1), .slice Az4_2 ((rd_T42 l0_3 x4_2).f2).length cz4_2, .slice Az4_3 ((rd_T42 l0_3 x4_2).f3).length cz4_3]] rfl oM ?_;(with_reducible refine (ih k2 (by have:=HK1.out;have:=HK2.out;omega) ((rd_T42 l0_3 x4_2).f0) ((rd_T42 l0_3 x4_2).f1) _ _ ((rd_T42 l0_3 x4_2).f2) _ _ ((rd_T42 l0_3 x4_2).f3) true _ ?side1 ?side2 ?side3 ?side4 A16.out).mono ?_);(case side1=>repeat (first|exact (Kd.C_below HRz4_2.out HB.out)|(with_reducible refine Kd.C_alloc ?_ _)|(with_reducible refine Kd.C_drewN ?_ _)|(with_reducible refine Kd.C_drew ?_)));(case side2=>exact HCz4_2.out);(case side3=>repeat (first|exact (Kd.C_below HRz4_3.out HB.out)|(with_reducible refine Kd.C_alloc ?_ _)|(with_reducible refine Kd.C_drewN ?_ _)|(with_reducible refine Kd.C_drew ?_)));(case side4=>exact HCz4_3.out);rintro e w19 ⟨rfl,hb⟩;refine ⟨_,rfl,?_⟩;have _:=Ak (blk_below (g:=gbz0) (o := .cells #[.int .i64 a0_0, .string a0_1, .slice A0_2 l0_2.length c0_2, .slice (some adz4) l0_3.length c0_3] 42 (0,0)) (oL BKz0.out) hb);have _:=Ak (below_step (oB1 GEz0.out) hb);clear BKz0 HB;rename_i BKz0 HB;(try clear hb);(try clear hb2);(try clear hk);(try clear hi)))
      go_roundg k2
      case measure=>have:=HK1.out;have:=HK2.out;omega
      case rel=>exact ⟨(wrap64 (x4_2+1)),oS,H',⟨by have:=HK1.out;have:=HK2.out;omega⟩,⟨oL BKz0.out⟩,⟨oB1 GEz0.out⟩⟩
     replace c17:=Bool.eq_false_iff.mpr c17
     subst c17
     have H1:(some false)=some r:=by rw [if_neg (show ¬ (false=true) by decide)] at H;exact H
     clear H
     have H:=H1
     clear H1
     obtain rfl:=Option.some.inj H
     have hcz20_0:wr.cell? ⟨gbz0,0,none⟩=some (.int .i64 a0_0):=(blk_cell BKz0.out 0).trans rfl
     have hcz20_1:wr.cell? ⟨gbz0,1,none⟩=some (.string a0_1):=(blk_cell BKz0.out 1).trans rfl
     have hcz20_2:wr.cell? ⟨gbz0,2,none⟩=some (.slice A0_2 l0_2.length c0_2):=(blk_cell BKz0.out 2).trans rfl
     have hcz20_3:wr.cell? ⟨gbz0,3,none⟩=some (.slice A0_3 l0_3.length c0_3):=(blk_cell BKz0.out 3).trans rfl
     have hfz20_0:=blk_frozen BKz0.out 0
     have hfz20_1:=blk_frozen BKz0.out 1
     have hfz20_2:=blk_frozen BKz0.out 2
     have hfz20_3:=blk_frozen BKz0.out 3
     have pz4:0≤(x4_2:Int):=of_decide_eq_true oA
     have qz4:x4_2<(l0_3.length:Int):=of_decide_eq_true oA
     obtain ⟨adz4,Az4_2,cz4_2,Az4_3,cz4_3,ez4,hxz4_0,hxz4_1,hxz4_2,hxz4_3,hlz4_2,hiz4_2,hlz4_3,hiz4_3⟩:=at_T42 HR0_3.out x4_2 pz4 qz4
     cases ez4
     replace hxz4_0:=(HB.out.cell (World.block_lt_of_cell? w _ hxz4_0)).trans hxz4_0
     replace hxz4_1:=(HB.out.cell (World.block_lt_of_cell? w _ hxz4_1)).trans hxz4_1
     replace hxz4_2:=(HB.out.cell (World.block_lt_of_cell? w _ hxz4_2)).trans hxz4_2
     replace hxz4_3:=(HB.out.cell (World.block_lt_of_cell? w _ hxz4_3)).trans hxz4_3
     have HRz4_2:=Ak hiz4_2
     have HCz4_2:=Ak hlz4_2
     clear hiz4_2 hlz4_2
     have HRz4_3:=Ak hiz4_3
     have HCz4_3:=Ak hlz4_3
     clear hiz4_3 hlz4_3
     replace pz4:=eq_true pz4
     replace qz4:=eq_true qz4
     go_wp2_with (first|((with_reducible refine gate_callee (f:=12) rfl ?_);refine goesL_ (some 33) rfl rfl Try.func12 (by kernel_rfl) rfl #[.agg #[.int .i64 ((rd_T42 l0_3 x4_2).f0), .string ((rd_T42 l0_3 x4_2).f1), .slice Az4_2 ((rd_T42 l0_3 x4_2).f2).length cz4_2, .slice Az4_3 ((rd_T42 l0_3 x4_2).f3).length cz4_3]] rfl oM ?_;(with_reducible refine (ih k2 (by have:=HK1.out;have:=HK2.out;omega) ((rd_T42 l0_3 x4_2).f0) ((rd_T42 l0_3 x4_2).f1) _ _ ((rd_T42 l0_3 x4_2).f2) _ _ ((rd_T42 l0_3 x4_2).f3) false _ ?side1 ?side2 ?side3 ?side4 A16.out).mono ?_);(case side1=>repeat (first|exact (Kd.C_below HRz4_2.out HB.out)|(with_reducible refine Kd.C_alloc ?_ _)|(with_reducible refine Kd.C_drewN ?_ _)|(with_reducible refine Kd.C_drew ?_)));(case side2=>exact HCz4_2.out);(case side3=>repeat (first|exact (Kd.C_below HRz4_3.out HB.out)|(with_reducible refine Kd.C_alloc ?_ _)|(with_reducible refine Kd.C_drewN ?_ _)|(with_reducible refine Kd.C_drew ?_)));(case side4=>exact HCz4_3.out);rintro e w21 ⟨rfl,hb⟩;refine ⟨_,rfl,?_⟩;have _:=Ak (blk_below (g:=gbz0) (o := .cells #[.int .i64 a0_0, .string a0_1, .slice A0_2 l0_2.length c0_2, .slice (some adz4) l0_3.length c0_3] 42 (0,0)) (oL BKz0.out) hb);have _:=Ak (below_step (oB1 GEz0.out) hb);clear BKz0 HB;rename_i BKz0 HB;(try clear hb);(try clear hb2);(try clear hk);(try clear hi)))
     go_ret
     exact ⟨oE,oB1 GEz0.out⟩
    rw [if_neg c15] at H
    exact absurd H (by simp)
  rw [if_pos c3] at H
  have c3b0:decide (x3_1<(l0_2.length:Int))=true:=decide_eq_true c3
  clear c3
  by_cases c4:0≤x3_1
  ·
   rw [if_pos c4] at H
   have c4b0:decide (0≤x3_1)=true:=decide_eq_true c4
   clear c4
   replace H:=Option.bind_eq_some_iff.mp H
   obtain ⟨tz1,A50,H⟩:=H
   replace H:(if tz1=x3_1 then (sV.l0 k1 (wrap64 (x3_1+1)) a0_0 a0_1 l0_2 l0_3) else (some false))=some r:=H
   have A5:=Ak A50
   clear A50
   by_cases c6:tz1=x3_1
   rotate_left
   ·
    rw [if_neg c6] at H
    have c6b0:(tz1 == x3_1)=false:=beq_eq_false_iff_ne.mpr c6
    have c6b1:(tz1 != x3_1)=true:=bne_iff_ne.mpr c6
    obtain rfl:=Option.some.inj H
    have hcz10_0:wr.cell? ⟨gbz0,0,none⟩=some (.int .i64 a0_0):=(blk_cell BKz0.out 0).trans rfl
    have hcz10_1:wr.cell? ⟨gbz0,1,none⟩=some (.string a0_1):=(blk_cell BKz0.out 1).trans rfl
    have hcz10_2:wr.cell? ⟨gbz0,2,none⟩=some (.slice A0_2 l0_2.length c0_2):=(blk_cell BKz0.out 2).trans rfl
    have hcz10_3:wr.cell? ⟨gbz0,3,none⟩=some (.slice A0_3 l0_3.length c0_3):=(blk_cell BKz0.out 3).trans rfl
    have hfz10_0:=blk_frozen BKz0.out 0
    have hfz10_1:=blk_frozen BKz0.out 1
    have hfz10_2:=blk_frozen BKz0.out 2
    have hfz10_3:=blk_frozen BKz0.out 3
    try go_wp2
    have n0_:=Ak (blk_drew BKz0.out)
    have n1_:=Ak (below_drew1 HB.out)
    clear BKz0
    clear HB
    have BKz0:=n0_
    have HB:=n1_
    clear n0_ n1_
    have pz2:0≤(x3_1:Int):=of_decide_eq_true oA
    have qz2:x3_1<(l0_2.length:Int):=of_decide_eq_true oA
    obtain ⟨adz2,ez2,hxz2_0⟩:=Kd.at_string HR0_2.out x3_1 pz2 qz2
    have hwz2_0:=hxz2_0
    cases ez2
    replace hxz2_0:=(HB.out.cell (World.block_lt_of_cell? w _ hxz2_0)).trans hxz2_0
    replace pz2:=eq_true pz2
    replace qz2:=eq_true qz2
    refine start_ (n:=9) (S:=fun w'=>w'.cell? ⟨gbz0,0,none⟩=some (.int .i64 a0_0)∧w'.cell? ⟨gbz0,1,none⟩=some (.string a0_1)∧w'.cell? ⟨gbz0,2,none⟩=some (.slice (some adz2) l0_2.length c0_2)∧w'.cell? ⟨gbz0,3,none⟩=some (.slice A0_3 l0_3.length c0_3)∧w'.cell? (adz2.add (x3_1).toNat)=some (.string (rdOf ByteArray.empty l0_2 x3_1))) (ds:=[]) #[false,false,false,false,false,false,false,false,false] (by kernel_rfl) rfl rfl ⟨(blk_cell BKz0.out 0).trans rfl,(blk_cell BKz0.out 1).trans rfl,(blk_cell BKz0.out 2).trans rfl,(blk_cell BKz0.out 3).trans rfl,((HB.out.cell (World.block_lt_of_cell? w _ hwz2_0)).trans hwz2_0)⟩ (fun hHeld=>?_);refine with_tabW sV.tab4 sV.bits4 (fun HT_ HW_=>?_)
    generalize wr.drew=w11 at BKz0 HB hxz2_0 hHeld ⊢
    refine zP 1 (some 13) (mA 9 2) ?_
    refine zP 3 (some 15) (mA 9 10) ?_
    refine zP 7 (some 19) (mA 9 138) ?_
    refine zT 0 (some 12) (mA 9 139) ?_
    refine zT 2 (some 14) (mA 9 143) ?_
    refine zP 4 (some 16) (mA 9 159) ?_
    refine zT 5 (some 17) (mA 9 191) ?_
    refine zO 6 (some 18) (mA 9 255) (fun K hK=>?_)
    refine goes_ Try.func17 (by kernel_rfl) rfl #[.agg #[.int .i64 a0_0, .string a0_1, .slice (some adz2) l0_2.length c0_2, .slice A0_3 l0_3.length c0_3], .string (rdOf ByteArray.empty l0_2 x3_1)] (by rfl) rfl rfl oM ?_
    with_reducible refine (sA.calls k1 a0_0 a0_1 _ _ l0_2 _ _ l0_3 (rdOf ByteArray.empty l0_2 x3_1) tz1 _ ?side1 ?side2 ?side3 ?side4 A5.out).mono ?_
    (case side1=>repeat (first|exact (Kd.C_below HR0_2.out HB.out)|(with_reducible refine Kd.C_alloc ?_ _)|(with_reducible refine Kd.C_drewN ?_ _)|(with_reducible refine Kd.C_drew ?_)))
    (case side2=>exact HC0_2.out)
    (case side3=>repeat (first|exact (Kd.C_below HR0_3.out HB.out)|(with_reducible refine Kd.C_alloc ?_ _)|(with_reducible refine Kd.C_drewN ?_ _)|(with_reducible refine Kd.C_drew ?_)))
    (case side4=>exact HC0_3.out)
    rintro e w12 ⟨rfl,hb⟩
    refine ⟨_,rfl,?_⟩
    have n0_:=Ak (blk_below (g:=gbz0) (o := .cells #[.int .i64 a0_0, .string a0_1, .slice (some adz2) l0_2.length c0_2, .slice A0_3 l0_3.length c0_3] 42 (0,0)) (oL BKz0.out) hb)
    have n1_:=Ak (below_step (oB1 GEz0.out) hb)
    clear BKz0
    clear HB
    have BKz0:=n0_
    have HB:=n1_
    clear n0_ n1_
    (try clear hb)
    (try clear hb2)
    (try clear hk)
    (try clear hi)
    refine hK.out _ _ ⟨(blk_cell BKz0.out 0).trans rfl,(blk_cell BKz0.out 1).trans rfl,(blk_cell BKz0.out 2).trans rfl,(blk_cell BKz0.out 3).trans rfl,((HB.out.cell (World.block_lt_of_cell? w _ hwz2_0)).trans hwz2_0)⟩ (fun hHeld=>?_)
    clear hK K
    refine norm_ (a':=?_) ?_ ?_
    rotate_left
    ·
     show Act.put _ (some 18) _=_
     simp only [Act.put,List.setIfInBounds_toArray,List.set_cons_zero,List.set_cons_succ,i64_w,i32_w]
     rfl
    refine zP 8 (some 20) (mA 9 511) ?_
    refine done_ (done_of HT_.out (by kernel_rfl)) ?_
    try go_wp2
    go_ret
    exact ⟨oE,oB1 GEz0.out⟩
   rw [if_pos c6] at H
   have c6b0:(tz1 == x3_1)=true:=beq_iff_eq.mpr c6
   have c6b1:(tz1 != x3_1)=false:=bne_eq_false_iff_eq.mpr c6
   clear c6
   have H':=Ak H
   clear H
   have hcz7_0:wr.cell? ⟨gbz0,0,none⟩=some (.int .i64 a0_0):=(blk_cell BKz0.out 0).trans rfl
   have hcz7_1:wr.cell? ⟨gbz0,1,none⟩=some (.string a0_1):=(blk_cell BKz0.out 1).trans rfl
   have hcz7_2:wr.cell? ⟨gbz0,2,none⟩=some (.slice A0_2 l0_2.length c0_2):=(blk_cell BKz0.out 2).trans rfl
   have hcz7_3:wr.cell? ⟨gbz0,3,none⟩=some (.slice A0_3 l0_3.length c0_3):=(blk_cell BKz0.out 3).trans rfl
   have hfz7_0:=blk_frozen BKz0.out 0
   have hfz7_1:=blk_frozen BKz0.out 1
   have hfz7_2:=blk_frozen BKz0.out 2
   have hfz7_3:=blk_frozen BKz0.out 3
   try go_wp2
   have n0_:=Ak (blk_drew BKz0.out)
   have n1_:=Ak (below_drew1 HB.out)
   clear BKz0
   clear HB
   have BKz0:=n0_
   have HB:=n1_
   clear n0_ n1_
   have pz2:0≤(x3_1:Int):=of_decide_eq_true oA
   have qz2:x3_1<(l0_2.length:Int):=of_decide_eq_true oA
   obtain ⟨adz2,ez2,hxz2_0⟩:=Kd.at_string HR0_2.out x3_1 pz2 qz2
   have hwz2_0:=hxz2_0
   cases ez2
   replace hxz2_0:=(HB.out.cell (World.block_lt_of_cell? w _ hxz2_0)).trans hxz2_0
   replace pz2:=eq_true pz2
   replace qz2:=eq_true qz2
   refine start_ (n:=9) (S:=fun w'=>w'.cell? ⟨gbz0,0,none⟩=some (.int .i64 a0_0)∧w'.cell? ⟨gbz0,1,none⟩=some (.string a0_1)∧w'.cell? ⟨gbz0,2,none⟩=some (.slice (some adz2) l0_2.length c0_2)∧w'.cell? ⟨gbz0,3,none⟩=some (.slice A0_3 l0_3.length c0_3)∧w'.cell? (adz2.add (x3_1).toNat)=some (.string (rdOf ByteArray.empty l0_2 x3_1))) (ds:=[]) #[false,false,false,false,false,false,false,false,false] (by kernel_rfl) rfl rfl ⟨(blk_cell BKz0.out 0).trans rfl,(blk_cell BKz0.out 1).trans rfl,(blk_cell BKz0.out 2).trans rfl,(blk_cell BKz0.out 3).trans rfl,((HB.out.cell (World.block_lt_of_cell? w _ hwz2_0)).trans hwz2_0)⟩ (fun hHeld=>?_);refine with_tabW sV.tab4 sV.bits4 (fun HT_ HW_=>?_)
   generalize wr.drew=w8 at BKz0 HB hxz2_0 hHeld ⊢
   refine zP 1 (some 13) (mA 9 2) ?_
   refine zP 3 (some 15) (mA 9 10) ?_
   refine zP 7 (some 19) (mA 9 138) ?_
   refine zT 0 (some 12) (mA 9 139) ?_
   refine zT 2 (some 14) (mA 9 143) ?_
   refine zP 4 (some 16) (mA 9 159) ?_
   refine zT 5 (some 17) (mA 9 191) ?_
   refine zO 6 (some 18) (mA 9 255) (fun K hK=>?_)
   refine goes_ Try.func17 (by kernel_rfl) rfl #[.agg #[.int .i64 a0_0, .string a0_1, .slice (some adz2) l0_2.length c0_2, .slice A0_3 l0_3.length c0_3], .string (rdOf ByteArray.empty l0_2 x3_1)] (by rfl) rfl rfl oM ?_
   with_reducible refine (sA.calls k1 a0_0 a0_1 _ _ l0_2 _ _ l0_3 (rdOf ByteArray.empty l0_2 x3_1) tz1 _ ?side1 ?side2 ?side3 ?side4 A5.out).mono ?_
   (case side1=>repeat (first|exact (Kd.C_below HR0_2.out HB.out)|(with_reducible refine Kd.C_alloc ?_ _)|(with_reducible refine Kd.C_drewN ?_ _)|(with_reducible refine Kd.C_drew ?_)))
   (case side2=>exact HC0_2.out)
   (case side3=>repeat (first|exact (Kd.C_below HR0_3.out HB.out)|(with_reducible refine Kd.C_alloc ?_ _)|(with_reducible refine Kd.C_drewN ?_ _)|(with_reducible refine Kd.C_drew ?_)))
   (case side4=>exact HC0_3.out)
   rintro e w9 ⟨rfl,hb⟩
   refine ⟨_,rfl,?_⟩
   have n0_:=Ak (blk_below (g:=gbz0) (o := .cells #[.int .i64 a0_0, .string a0_1, .slice (some adz2) l0_2.length c0_2, .slice A0_3 l0_3.length c0_3] 42 (0,0)) (oL BKz0.out) hb)
   have n1_:=Ak (below_step (oB1 GEz0.out) hb)
   clear BKz0
   clear HB
   have BKz0:=n0_
   have HB:=n1_
   clear n0_ n1_
   (try clear hb)
   (try clear hb2)
   (try clear hk)
   (try clear hi)
   refine hK.out _ _ ⟨(blk_cell BKz0.out 0).trans rfl,(blk_cell BKz0.out 1).trans rfl,(blk_cell BKz0.out 2).trans rfl,(blk_cell BKz0.out 3).trans rfl,((HB.out.cell (World.block_lt_of_cell? w _ hwz2_0)).trans hwz2_0)⟩ (fun hHeld=>?_)
   clear hK K
   refine norm_ (a':=?_) ?_ ?_
   rotate_left
   ·
    show Act.put _ (some 18) _=_
    simp only [Act.put,List.setIfInBounds_toArray,List.set_cons_zero,List.set_cons_succ,i64_w,i32_w]
    rfl
   refine zP 8 (some 20) (mA 9 511) ?_
   refine done_ (done_of HT_.out (by kernel_rfl)) ?_
   try go_wp2
   go_roundg k1
   case measure=>have:=HK1.out;omega
   case rel=>exact ⟨(wrap64 (x3_1+1)),oS,H',⟨by have:=HK1.out;omega⟩,⟨oL BKz0.out⟩,⟨oB1 GEz0.out⟩⟩
  rw [if_neg c4] at H
  exact absurd H (by simp)
end Go.Proofs.Ytbkgoccnegjdhaa.Q

/- pretty.PrettyOptions by hand. -/
import Derived.Test.YtbkgoccnegjdhaaX1
import Derived.Test.YtbkgoccnegjdhaaB12
namespace Go.Proofs.Ytbkgoccnegjdhaa.Q
open Go.RowKit Go.Proofs.YtbkgoccnegjdhaaW.PrintWords Go.Proofs.YtbkgoccnegjdhaaW.PrintLast Go.Proofs.YtbkgoccnegjdhaaW.PrintMore
attribute [local go_sem] max2_int min2_int max_two min_two max_three min_three max_four min_four
set_option linter.unusedVariables false
set_option linter.unusedSimpArgs false
noncomputable def pP.f (k:Nat) (l:List Int) (W:Int) (P I:ByteArray) (sk:Bool):Option (List Int) :=
  (pA.f k (bytesOf P) l 0 true W P I sk 0 0 (-1)).bind fun t=>if t.1.length>0 then (if t.1.length<140737488355328 then some (t.1++[10]) else none) else some t.1
def pP.T6:Bool × List (List Nat × List Nat):=(true,[([],[]),([],[]),([],[]),([2],[2]),([3],[3]),([4],[4]),([],[]),([6],[6]),([7],[7]),([8],[8]),([],[]),([10],[10]),([11],[11]),([12],[12]),([],[]),([14],[14]),([15],[15]),([16],[16]),([0,1,5,9,13,17],[0,1,5,9,13,17]),([18],[18]),([19],[19]),([19],[19]),([19],[19]),([19],[19]),([20,18,0,1,2,3,4,5,6,7,8,9,10,11,12,13,14,15,16,17,18,19,20],[0,20])])
def pP.B6:List Nat:=[0,0,0,4,12,28,0,64,192,448,0,1024,3072,7168,0,16384,49152,114688,262143,524287,1048575,1048575,1048575,1048575,2097151]
theorem pP.tab6:rtab .any (opsOf Try.f15 6)=pP.T6:=by kernel_rfl
theorem pP.bits6:waitsOk pP.T6.2 pP.B6=true:=by kernel_rfl
set_option maxHeartbeats 8000000 in
set_option maxRecDepth 100000 in
theorem pP.calls (k:Nat) (g:Nat) (W:Int) (P I:ByteArray) (sk:Bool) (A1:Option Addr) (c1:Nat) (l1:List Int) (r:List Int) (w:World) (hI:w.heap[g]? = some (.cells #[.int .i64 W, .string P, .string I, .bool sk] 47 (0,0)))
 (hC:Kd.C (Kd.int .u8) w A1 l1.length l1) (hc1:l1.length≤c1) (hL:l1.length≤140737488355328) (hP:P.size≤2147483647) (h:pP.f k l1 W P I sk=some r) :
 Calls Try.prog 15 #[.slice A1 l1.length c1, .pointer (some ⟨g,0,none⟩)] w fun e w' => ∃ v0_:Value,e = .returned v0_∧Kd.R (Kd.int .u8) 5 w' w.heap.size (fun _=>True) v0_ r∧Below w.heap.size w w':=by
 have hu47:=Try.underlying47
 unfold pP.f at h
 obtain ⟨⟨y,i2,n2,ok2⟩,A1_,h⟩:=Option.bind_eq_some_iff.mp h
 dsimp only at h
 have HB:=Ak (Below.refl w.heap.size w)
 have HI:=Ak hI
 have HC:=Ak hC
 have hcz0:=(blk_cell hI 0).trans rfl
 have hcz1:=(blk_cell hI 1).trans rfl
 have hcz2:=(blk_cell hI 2).trans rfl
 have hcz3:=(blk_cell hI 3).trans rfl
 clear hI hC
 go_enter Try.func15,Try.ntmps15
 go_upto_if 18 with (first
  | ((with_reducible refine gate_dst (N:=12) rfl ?_);refine Kd.R_make0 (Kd.int .u8) (w0:=w) w.heap.size 5 rfl (N:=12) rfl 44 _ _ rfl (l1.length:Int) rfl rfl Try.underlying44 (.int .u8 0) 1 info5 rfl (by decide) om 0 (ok:=fun k_=>w.heap.size≤k_) (okp:=fun k_=>w.heap.size≤k_) (by rfl) (fun _ hk=>hk) ?hf om om ?hb ?hs ?_;(case hf=>exact below_size HB.out);(case hb=>exact HB.out);(case hs=>exact below_size HB.out);intro v1 w1 ho hb hg hnew;have HO1:=Ak ho;have HB1:=Ak hb;have HI1:=Ak ((hg.block g (blk_lt HI.out) (by simp)).trans HI.out);have hz1_1:w1.cell? ⟨g,1,none⟩=some (.string P):=(blk_cell HI1.out 1).trans rfl;clear ho hb hg hnew))
 go_cut [5] (fun v5 wc=>Aside0 (Kd.R (Kd.int .u8) 5 wc w.heap.size (fun k_=>w.heap.size≤k_) v5 (bytesOf P))∧Aside0 (Below w.heap.size w wc))
 case first =>
  by_cases hp:(P.size:Int)=0
  ·
   have he:bytesOf P=[]:=List.length_eq_zero_iff.mp (by rw [bytesOf_length];omega)
   have hp1:((P.size:Int) != 0)=false:=bne_eq_false_iff_eq.mpr hp
   have hp2:((P.size:Int) == 0)=true:=beq_iff_eq.mpr hp
   have hp3:P.size=0:=by omega
   go_wp2
   go_meet
   case rel=>exact ⟨⟨by rw [he];exact HO1.out⟩,⟨HB1.out⟩⟩
  have hp1:((P.size:Int) != 0)=true:=bne_iff_ne.mpr hp
  have hp2:((P.size:Int) == 0)=false:=beq_eq_false_iff_ne.mpr hp
  have hp3 : ¬ P.size=0:=by omega
  go_wp2_with (first|((with_reducible refine gate_dst (N:=24) rfl ?_);refine Kd.R_append_str (w0:=w) w.heap.size rfl (.tmp 19) _ 44 9 5 rfl Try.underlying44 Try.underlying9 info5 v1 [] P (fun k_=>w.heap.size≤k_) rfl rfl HO1.out (fun k_ hk=>Nat.le_trans HB1.out.size hk) HB1.out HB1.out.size (by simp;omega) ?_;intro v2 w2 ho hb hg hat;have HO2:=Ak ho;have HB2:=Ak hb;clear ho hb hg hat))
  go_meet
  case rel=>exact ⟨⟨by have:=HO2.out;rwa [List.nil_append] at this⟩,⟨HB2.out⟩⟩
 case rest =>
 obtain ⟨HO,HBc⟩:=hcut
 have HIc:=Ak ((HBc.out.block g (blk_lt HI.out)).trans HI.out)
 have hy0:wc.cell? ⟨g,0,none⟩=some (.int .i64 W):=(blk_cell HIc.out 0).trans rfl
 have hy1:wc.cell? ⟨g,1,none⟩=some (.string P):=(blk_cell HIc.out 1).trans rfl
 have hy2:wc.cell? ⟨g,2,none⟩=some (.string I):=(blk_cell HIc.out 2).trans rfl
 have hy3:wc.cell? ⟨g,3,none⟩=some (.bool sk):=(blk_cell HIc.out 3).trans rfl
 go_upto_if 51 with (fail)
 have HOd:=Ak (Kd.R_drew HO.out)
 have HBd:=Ak (below_drew1 HBc.out)
 have HId:=Ak (blk_drew HIc.out)
 clear HO HBc HIc hy0 hy1 hy2 hy3
 refine start_ (n:=25) (S:=fun w'=>w'.cell? ⟨g,0,none⟩=some (.int .i64 W)∧w'.cell? ⟨g,1,none⟩=some (.string P)∧w'.cell? ⟨g,2,none⟩=some (.string I)∧w'.cell? ⟨g,3,none⟩=some (.bool sk)) (ds:=[]) #[false,false,false,false,false,false,false,false,false,false,false,false,false,false,false,false,false,false,false,false,false,false,false,false,false] (by kernel_rfl) rfl rfl ⟨(blk_cell HId.out 0).trans rfl,(blk_cell HId.out 1).trans rfl,(blk_cell HId.out 2).trans rfl,(blk_cell HId.out 3).trans rfl⟩ (fun hHeld=>?_);refine with_tabW pP.tab6 pP.bits6 (fun HT_ HW_=>?_)
 generalize wc.drew=wd at HOd HBd HId hHeld ⊢
 refine zP 0 (some 26) (mA 25 1) ?_
 refine zP 1 (some 27) (mA 25 3) ?_
 refine zP 2 (some 28) (mA 25 7) ?_
 refine zP 3 (some 29) (mA 25 15) ?_
 refine zP 4 (some 30) (mA 25 31) ?_
 refine zT 5 (some 31) (mA 25 63) ?_
 refine zP 6 (some 32) (mA 25 127) ?_
 refine zP 7 (some 33) (mA 25 255) ?_
 refine zP 8 (some 34) (mA 25 511) ?_
 refine zT 9 (some 35) (mA 25 1023) ?_
 refine zP 10 (some 36) (mA 25 2047) ?_
 refine zP 11 (some 37) (mA 25 4095) ?_
 refine zP 12 (some 38) (mA 25 8191) ?_
 refine zT 13 (some 39) (mA 25 16383) ?_
 refine zP 14 (some 40) (mA 25 32767) ?_
 refine zP 15 (some 41) (mA 25 65535) ?_
 refine zP 16 (some 42) (mA 25 131071) ?_
 refine zT 17 (some 43) (mA 25 262143) ?_
 refine zO 18 (some 44) (mA 25 524287) (fun K hK=>?_)
 refine goes_ Try.func21 (by kernel_rfl) rfl #[u5, .slice A1 l1.length c1, .int .i64 0, .bool true, .int .i64 W, .string P, .string I, .bool sk, .int .i64 0, .int .i64 0, .int .i64 (-1)] (by rfl) rfl rfl (by (try simp only [List.map_toArray,List.map_cons,List.map_nil]);first|done|rfl) ?_
 refine (pA.calls k (fun k_=>w.heap.size≤k_) u5 (bytesOf P) A1 c1 l1 0 true W P I sk 0 0 (-1) y i2 n2 ok2 w _ HBd.out HOd.out (Kd.C_kept_came (Kd.heap_int .u8) HC.out HBd.out (fun k_ h_=>h_)) hc1 A1_).mono ?_
 rintro e w10 ⟨v10,rfl,ho,hb,hk⟩
 refine ⟨_,rfl,?_⟩
 have HO10:=Ak (Kd.R_mono (ok':=fun k_=>w.heap.size≤k_) ho (fun k_ h_=>Or.elim h_ id (fun h2_=>Nat.le_trans HBd.out.size h2_)))
 have HB10:=Ak hb
 have HI10:=Ak ((hb.block g (blk_lt HI.out)).trans HI.out)
 clear ho hb hk
 refine hK.out _ _ ⟨(blk_cell HI10.out 0).trans rfl,(blk_cell HI10.out 1).trans rfl,(blk_cell HI10.out 2).trans rfl,(blk_cell HI10.out 3).trans rfl⟩ (fun hHeld=>?_)
 clear hK K
 refine norm_ (a':=?_) ?_ ?_
 rotate_left
 ·
  show Act.put _ (some 44) _=_
  simp only [Act.put,List.setIfInBounds_toArray,List.set_cons_zero,List.set_cons_succ,i64_w,i32_w]
  rfl
 refine zP 19 (some 25) (mA 25 1048575) ?_
 refine zP 20 (some 45) (mA 25 2097151) ?_
 refine zP 21 (some 46) (mA 25 4194303) ?_
 refine zP 22 (some 47) (mA 25 8388607) ?_
 refine zP 23 (some 48) (mA 25 16777215) ?_
 refine zP 24 (some 5) (mA 25 33554431) ?_
 refine done_ (done_of HT_.out (by kernel_rfl)) ?_
 obtain ⟨Ao,co,ev⟩:=Kd.R_slice HO10.out
 subst ev
 go_upto_if 51 with (fail)
 by_cases hy:y.length>0
 rotate_left
 ·
  rw [if_neg hy] at h
  obtain rfl:=Option.some.inj h
  have c1_:decide (0<(y.length:Int))=false:=decide_eq_false om
  have c2_:decide (0<y.length)=false:=decide_eq_false hy
  go_wp2
  go_ret
  exact ⟨_,rfl,Kd.R_mono HO10.out (fun _ _=>trivial),HB10.out⟩
 rw [if_pos hy] at h
 have c1_:decide (0<(y.length:Int))=true:=decide_eq_true om
 have c2_:decide (0<y.length)=true:=decide_eq_true hy
 by_cases hl:y.length<140737488355328
 ·
  rw [if_pos hl] at h
  obtain rfl:=Option.some.inj h
  go_wp2_with (first|((with_reducible refine gate_builtin (b := .append) (xs := #[.tmp 52, .tmp 53]) rfl ?_);(try (refine gate_guard (by rfl) ?_;dsimp only));at_builtin;refine Kd.R_append (Kd.int .u8) (w0:=w) w.heap.size rfl (.tmp 52) (.tmp 53) 44 5 (.int .u8 0) 1 rfl Try.underlying44 info5 rfl (by decide) om (.slice Ao y.length co) y 10 [.int .u8 10] (fun k_=>w.heap.size≤k_) (fun _=>False) rfl rfl ?aP (fun _ hk=>hk.elim) ?aF ?aO ?aB ?aS ?aL ?_;(case aP=>exact rfl);(case aB=>exact (by repeat (first|(with_reducible first|exact HB10.out|apply below_alloc|apply pw_below_drewN|apply below_drew1)|exact HB10.out)));(case aF=>exact (fun k_ hk=>Nat.le_trans (below_size (by repeat (first|(with_reducible first|exact HB10.out|apply below_alloc|apply pw_below_drewN|apply below_drew1)|exact HB10.out))) hk));(case aO=>exact (oR HO10.out));(case aS=>exact (below_size (by repeat (first|(with_reducible first|exact HB10.out|apply below_alloc|apply pw_below_drewN|apply below_drew1)|exact HB10.out))));(case aL=>omega);intro v12 w12 ho hb hg hat;have HO12:=Ak ho;have HB12:=Ak hb;clear ho hb hg hat))
  go_ret
  exact ⟨_,rfl,Kd.R_mono HO12.out (fun _ _=>trivial),HB12.out⟩
 rw [if_neg hl] at h;exact absurd h (by simp)
end Go.Proofs.Ytbkgoccnegjdhaa.Q

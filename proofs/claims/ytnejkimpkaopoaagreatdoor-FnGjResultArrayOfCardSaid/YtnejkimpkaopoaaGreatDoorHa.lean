/- spec.Places by hand: a reader of its own, handed on by its pointer. -/
import Derived.Test.YtnejkimpkaopoaaGreatDoorX1
import Derived.Test.YtnejkimpkaopoaaGreatDoorQ5
namespace Go.Proofs.YtnejkimpkaopoaaGreatDoor.Q
open RowKit YtnejkimpkaopoaaGreatDoorW.PrintWords YtnejkimpkaopoaaGreatDoorW.PrintLast YtnejkimpkaopoaaGreatDoorW.PrintMore
attribute [local go_sem] max2_int min2_int max_two min_two max_three min_three max_four min_four
set_option linter.unusedVariables false
set_option linter.unusedSimpArgs false
def places (k:Nat) (s:ByteArray):Option (S102 × Bool) :=
  (rB.f k s 0).bind fun t1=>(rV.f k t1.1 t1.2).bind fun t=>if t.2.2.2.2.2.1=true then ((rB.f k t.2.2.2.2.2.2.1 t.2.2.2.2.2.2.2).bind fun t3=>if t3.2=(s.size:Int) then some (⟨t.1,t.2.1,t.2.2.1,t.2.2.2.1,t.2.2.2.2.1⟩,true) else some (z102,false)) else some (z102,false)
set_option maxHeartbeats 8000000 in
set_option maxRecDepth 100000 in
theorem sP.calls (k:Nat) (a0:ByteArray) (r1 r2 r3:Int) (r4:List S155) (r5:List S102) (r6:Bool) (w:World) (h:places k a0=some (⟨r1,r2,r3,r4,r5⟩,r6)) :
 Calls Tryz.prog 70 #[.string a0] w fun e w' => ∃ v3_ v4_:Value,e = .returned (.tuple #[.agg #[.int .i64 r1, .int .i64 r2, .int .i64 r3,v3_,v4_], .bool r6])∧Kd.R k155 155 w' w.heap.size (fun _=>True) v3_ r4∧Kd.R k102 102 w' w.heap.size (fun k_=>some k_≠(v3_:Value).ownBlock) v4_ r5∧Below w.heap.size w w':=by
 have hu102:=Tryz.underlying102
 have hu152:=Tryz.underlying152
 unfold places at h
 obtain ⟨⟨s1,t1⟩,A1,h⟩:=Option.bind_eq_some_iff.mp h
 obtain ⟨⟨kd,b,e,ns,ks,ok,s2,t2⟩,A2,h⟩:=Option.bind_eq_some_iff.mp h
 dsimp only at A2 h
 go_enter Tryz.func70,Tryz.ntmps70
 have HB:=Ak (Below.refl w.heap.size w)
 go_upto_if 15 with (first
  | ((with_reducible refine gate_dst (N:=2) rfl ?_);refine box_event ?hg (N:=2) ?hd (cs := #[.int .i64 0, .int .i64 0, .int .i64 0, .slice none 0 0, .slice none 0 0]) (t:=102) ?hr ?_;(case hd=>rfl);(case hg=>rfl);(case hr=>first|(go_simp;done)|(go_simp;rfl));intro g1 hg1 w1 hb1 hB1;have GE1:=Ak (by rw [hg1];exact HB.out.size:w.heap.size≤g1);have HB1:=Ak (below_step HB.out hB1);have BK1:=Ak hb1;clear hg1 hb1 hB1)
  | ((with_reducible refine gate_dst (N:=4) rfl ?_);refine box_event ?hg (N:=4) ?hd (cs := #[.string ByteArray.empty, .int .i64 0]) (t:=152) ?hr ?_;(case hd=>rfl);(case hg=>rfl);(case hr=>first|(go_simp;done)|(go_simp;rfl));intro g2 hg2 w2 hb2 hB2;have GE2:=Ak (by rw [hg2];exact HB1.out.size:w.heap.size≤g2);have HB2:=Ak (below_step HB1.out hB2);have BK2:=Ak hb2;have BK12:=Ak (blk_below BK1.out hB2);have NE12:=Ak (by have:=blk_lt BK1.out;omega:g1≠g2);clear hg2 hb2 hB2)
  | ((with_reducible refine gate_store (t:=152) (p:=4) rfl ?_);refine box_put (g:=g2) (cs := #[.string ByteArray.empty, .int .i64 0]) (cs' := #[.string a0, .int .i64 0]) rfl rfl rfl rfl rfl rfl BK2.out rfl (by kernel_rfl) ?h1 ?_;(case h1=>intro q hq;simp at hq;rcases hq with rfl|rfl <;> rfl);intro w3 pb3;have HI:=Ak (⟨pb3.blk,GE2.out⟩:IsS152 w w3 g2 a0 0);have HB3:=Ak (pb3.below HB2.out GE2.out);have BK13:=Ak ((pb3.far g1 NE12.out).trans BK12.out);clear pb3))
 refine ((rB.calls k g2 a0 0 s1 t1 w _ HI.out HB3.out A1).mono ?_)
 rintro e4 w4 ⟨rfl,hi,hb,hk⟩
 have HI4:=Ak hi
 have HB4:=Ak hb
 have BK14:=Ak (hk.blk BK13.out NE12.out (by simp))
 clear hi hb hk
 dsimp only
 go_upto_if 15 with (fail)
 refine ((rV.calls k g2 s1 t1 kd b e ns ks ok s2 t2 w _ HI4.out HB4.out A2).mono ?_)
 rintro e5 w5 ⟨v3,v4,rfl,ho3,ho4,hi,hb,hk⟩
 have HI5:=Ak hi
 have HB5:=Ak hb
 have BK15:=Ak (hk.blk BK14.out NE12.out (by simp))
 have HS5:=Ak hk.1
 have HO3:=Ak ho3
 have HO4:=Ak ho4
 clear hi hb hk ho3 ho4
 dsimp only
 go_upto_if 15 with (first
  | ((with_reducible refine gate_dst (N:=5) rfl ?_);refine box_event ?hg (N:=5) ?hd (cs := #[.int .i64 0, .int .i64 0, .int .i64 0, .slice none 0 0, .slice none 0 0]) (t:=102) ?hr ?_;(case hd=>rfl);(case hg=>rfl);(case hr=>first|(go_simp;done)|(go_simp;rfl));intro g5 hg5 w6 hb6 hB6;have GE5:=Ak (by rw [hg5];exact HB5.out.size:w.heap.size≤g5);have HB6:=Ak (below_step HB5.out hB6);have BK6:=Ak hb6;have BK16:=Ak (blk_below BK15.out hB6);have HI6:=Ak (HI5.out.below hB6);have NE15:=Ak (by have:=blk_lt BK15.out;omega:g1≠g5);have NE25:=Ak (by have:=blk_lt HI5.out.1;omega:g2≠g5);have FB6:=Ak hB6;have G5:=Ak (by rw [hg5];exact Nat.le_refl _:w5.heap.size≤g5);clear hg5 hb6 hB6)
  | ((with_reducible refine gate_store (t:=102) (p:=5) rfl ?_);refine box_put (g:=g5) (cs := #[.int .i64 0, .int .i64 0, .int .i64 0, .slice none 0 0, .slice none 0 0]) (cs' := #[.int .i64 kd, .int .i64 b, .int .i64 e,v3,v4]) rfl rfl rfl rfl rfl rfl BK6.out rfl (by kernel_rfl) ?h1 ?_;(case h1=>intro q hq;simp only [List.mem_cons,List.not_mem_nil,or_false] at hq;rcases hq with rfl|rfl|rfl|rfl|rfl;exact rfl;exact rfl;exact rfl;exact (Kd.R_val HO3.out).2;exact (Kd.R_val HO4.out).2);intro w7 pb7;have PB7:=Ak pb7;clear pb7))
 have HI7:=Ak (⟨(PB7.out.far g2 NE25.out).trans HI6.out.1,GE2.out⟩:IsS152 w w7 g2 s2 t2)
 have HB7:=Ak (PB7.out.below HB6.out GE5.out)
 have BK17:=Ak ((PB7.out.far g1 NE15.out).trans BK16.out)
 have L1:=Ak (blk_lt BK14.out)
 have L2:=Ak (blk_lt HI4.out.1)
 have F7:=Ak (fun (k_:Nat) (h1_:w4.heap.size≤k_) (h2_:k_<w5.heap.size)=>(PB7.out.far k_ (by have:=G5.out;omega)).trans (FB6.out.block k_ h2_) : ∀ k_:Nat,w4.heap.size≤k_→k_<w5.heap.size→w7.heap[k_]? = w5.heap[k_]?)
 cases ok with
 | false =>
  rw [if_neg (by simp)] at h
  simp only [z102,Option.some.injEq,Prod.mk.injEq,S102.mk.injEq] at h
  obtain ⟨⟨rfl,rfl,rfl,rfl,rfl⟩,rfl⟩:=h
  go_wp2_with (first|((with_reducible refine gate_store (t:=102) (p:=2) rfl ?_);refine box_put (g:=g1) (cs := #[.int .i64 0, .int .i64 0, .int .i64 0, .slice none 0 0, .slice none 0 0]) (cs' := #[.int .i64 0, .int .i64 0, .int .i64 0, .slice none 0 0, .slice none 0 0]) rfl rfl rfl rfl rfl rfl BK17.out rfl (by kernel_rfl) ?h1 ?_;(case h1=>intro q hq;simp only [List.mem_cons,List.not_mem_nil,or_false] at hq;rcases hq with rfl|rfl|rfl|rfl|rfl <;> rfl);intro w8 pb8;have PB8:=Ak pb8;clear pb8))
  refine bodyPost_ret (results_ct rfl _ _ g1 102 #[.int .i64 0, .int .i64 0, .int .i64 0, .slice none 0 0, .slice none 0 0] (0,0) _ rfl PB8.out.blk Tryz.underlying102 rfl (by kernel_rfl)) rfl ?_
  exact ⟨_,_,rfl,Kd.R_nil _ _ _ _ _,Kd.R_nil _ _ _ _ _,PB8.out.below HB7.out GE1.out⟩
 | true =>
  rw [if_pos rfl] at h
  obtain ⟨⟨s3,t3⟩,A3,h⟩:=Option.bind_eq_some_iff.mp h
  dsimp only at A3 h
  go_upto_if 22 with (fail)
  refine ((rB.calls k g2 s2 t2 s3 t3 w _ HI7.out HB7.out A3).mono ?_)
  rintro e8 w8 ⟨rfl,hi,hb,hk⟩
  have HI8:=Ak hi
  have HB8:=Ak hb
  have BK18:=Ak (hk.blk BK17.out NE12.out (by simp))
  have BK58:=Ak (hk.blk PB7.out.blk NE25.out.symm (by simp))
  have F8:=Ak (fun (k_:Nat) (h1_:w4.heap.size≤k_) (h2_:k_<w5.heap.size)=>(hk.2 k_ (by have:=(below_size HB6.out);have:=FB6.out.size;have:=PB7.out.size;omega) (by have:=L2.out;omega) (by simp)).trans (F7.out k_ h1_ h2_) : ∀ k_:Nat,w4.heap.size≤k_→k_<w5.heap.size→w8.heap[k_]? = w5.heap[k_]?)
  clear hi hb hk
  dsimp only
  obtain ⟨HGz,hgz⟩:=HI8.out
  have hcz0:=cellS152_0 HGz
  have hcz1:=cellS152_1 HGz
  clear HGz hgz
  go_upto_if 22 with (fail)
  by_cases hh:t3=(a0.size:Int)
  rotate_left
  ·
   rw [if_neg hh] at h
   simp only [z102,Option.some.injEq,Prod.mk.injEq,S102.mk.injEq] at h
   obtain ⟨⟨rfl,rfl,rfl,rfl,rfl⟩,rfl⟩:=h
   have hne1:(t3 != (a0.size:Int))=true:=bne_iff_ne.mpr hh
   have hne2:(t3 == (a0.size:Int))=false:=beq_eq_false_iff_ne.mpr hh
   go_wp2_with (first|((with_reducible refine gate_store (t:=102) (p:=2) rfl ?_);refine box_put (g:=g1) (cs := #[.int .i64 0, .int .i64 0, .int .i64 0, .slice none 0 0, .slice none 0 0]) (cs' := #[.int .i64 0, .int .i64 0, .int .i64 0, .slice none 0 0, .slice none 0 0]) rfl rfl rfl rfl rfl rfl BK18.out rfl (by kernel_rfl) ?h1 ?_;(case h1=>intro q hq;simp only [List.mem_cons,List.not_mem_nil,or_false] at hq;rcases hq with rfl|rfl|rfl|rfl|rfl <;> rfl);intro w9 pb9;have PB9:=Ak pb9;clear pb9))
   refine bodyPost_ret (results_ct rfl _ _ g1 102 #[.int .i64 0, .int .i64 0, .int .i64 0, .slice none 0 0, .slice none 0 0] (0,0) _ rfl PB9.out.blk Tryz.underlying102 rfl (by kernel_rfl)) rfl ?_
   exact ⟨_,_,rfl,Kd.R_nil _ _ _ _ _,Kd.R_nil _ _ _ _ _,PB9.out.below HB8.out GE1.out⟩
  rw [if_pos hh] at h
  simp only [Option.some.injEq,Prod.mk.injEq,S102.mk.injEq] at h
  obtain ⟨⟨rfl,rfl,rfl,rfl,rfl⟩,rfl⟩:=h
  have hne1:(t3 != (a0.size:Int))=false:=bne_eq_false_iff_eq.mpr hh
  have hne2:(t3 == (a0.size:Int))=true:=beq_iff_eq.mpr hh
  have hld:w8.heap[g5]? = some (.cells #[.int .i64 kd, .int .i64 b, .int .i64 e,v3,v4] 102 (0,0)):=BK58.out
  have hz0:=(blk_cell hld 0).trans rfl
  have hz1:=(blk_cell hld 1).trans rfl
  have hz2:=(blk_cell hld 2).trans rfl
  have hz3:=(blk_cell hld 3).trans rfl
  have hz4:=(blk_cell hld 4).trans rfl
  go_wp2_with (first|((with_reducible refine gate_store (t:=102) (p:=2) rfl ?_);refine box_put (g:=g1) (cs := #[.int .i64 0, .int .i64 0, .int .i64 0, .slice none 0 0, .slice none 0 0]) (cs' := #[.int .i64 kd, .int .i64 b, .int .i64 e,v3,v4]) rfl rfl rfl rfl rfl rfl BK18.out rfl (by kernel_rfl) ?h1 ?_;(case h1=>intro q hq;simp only [List.mem_cons,List.not_mem_nil,or_false] at hq;rcases hq with rfl|rfl|rfl|rfl|rfl;exact rfl;exact rfl;exact rfl;exact (Kd.R_val HO3.out).2;exact (Kd.R_val HO4.out).2);intro w9 pb9;have PB9:=Ak pb9;clear pb9))
  have F9 : ∀ k_:Nat,w4.heap.size≤k_→k_<w5.heap.size→w9.heap[k_]? = w5.heap[k_]? := fun k_ h1_ h2_=>(PB9.out.far k_ (by have:=L1.out;omega)).trans (F8.out k_ h1_ h2_)
  have hle:w.heap.size≤w4.heap.size:=HB4.out.size
  refine bodyPost_ret (results_ct rfl _ _ g1 102 #[.int .i64 kd, .int .i64 b, .int .i64 e,v3,v4] (0,0) _ rfl PB9.out.blk Tryz.underlying102 rfl (by kernel_rfl)) rfl ?_
  exact ⟨_,_,rfl,Kd.R_mono (Kd.R_lower (Kd.R_step (Kd.R_bound HO3.out) (fun k_ hk _=>F9 k_ hk.2.1 hk.2.2.1)) hle) (fun _ _=>trivial),Kd.R_mono (Kd.R_lower (Kd.R_step (Kd.R_bound HO4.out) (fun k_ hk _=>F9 k_ hk.2.1 hk.2.2.1)) hle) (fun _ hk=>hk.1),PB9.out.below HB8.out GE1.out⟩
end Go.Proofs.YtnejkimpkaopoaaGreatDoor.Q

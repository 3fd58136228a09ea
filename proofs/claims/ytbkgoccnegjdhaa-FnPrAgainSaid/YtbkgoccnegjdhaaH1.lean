/- laws.prPlaces by hand. -/
import Derived.Test.YtbkgoccnegjdhaaH0
namespace Go.Proofs.Ytbkgoccnegjdhaa.Q
open Go.RowKit Go.Proofs.YtbkgoccnegjdhaaW.PrintWords Go.Proofs.YtbkgoccnegjdhaaW.PrintLast Go.Proofs.YtbkgoccnegjdhaaW.PrintMore Go.Proofs.Ytbkgoccnegjdhaa.U
attribute [local go_sem] max2_int min2_int max_two min_two max_three min_three max_four min_four
set_option linter.unusedVariables false
set_option linter.unusedSimpArgs false
def lP.f (k:Nat) (s:ByteArray):Option (S28 × Bool):=if (s.size:Int)>4096 then some (z28,false) else places k s
set_option maxHeartbeats 8000000 in
set_option maxRecDepth 100000 in
theorem lP.calls (k:Nat) (a0:ByteArray) (r1 r2 r3:Int) (r4:List S52) (r5:List S28) (r6:Bool) (w:World) (h:lP.f k a0=some (⟨r1,r2,r3,r4,r5⟩,r6)) :
 Calls Try.prog 6 #[.string a0] w fun e w' => ∃ v3_ v4_:Value,e = .returned (.tuple #[.agg #[.int .i64 r1, .int .i64 r2, .int .i64 r3,v3_,v4_], .bool r6])∧Kd.R k52 52 w' w.heap.size (fun _=>True) v3_ r4∧Kd.R k28 28 w' w.heap.size (fun k_=>some k_≠(v3_:Value).ownBlock) v4_ r5∧Below w.heap.size w w':=by
 have hu28:=Try.underlying28
 unfold lP.f at h
 go_enter Try.func6,Try.ntmps6
 have HB:=Ak (Below.refl w.heap.size w)
 go_upto_if 6 with (first
  | ((with_reducible refine gate_dst (N:=2) rfl ?_);refine box_event ?hg (N:=2) ?hd (cs := #[.int .i64 0, .int .i64 0, .int .i64 0, .slice none 0 0, .slice none 0 0]) (t:=28) ?hr ?_;(case hd=>rfl);(case hg=>rfl);(case hr=>first|(go_simp;done)|(go_simp;rfl));intro g1 hg1 w1 hb1 hB1;have GE1:=Ak (by rw [hg1];exact HB.out.size:w.heap.size≤g1);have HB1:=Ak (below_step HB.out hB1);have BK1:=Ak hb1;clear hg1 hb1 hB1))
 by_cases hh:(a0.size:Int)>4096
 ·
  rw [if_pos hh] at h
  simp only [z28,Option.some.injEq,Prod.mk.injEq,S28.mk.injEq] at h
  obtain ⟨⟨rfl,rfl,rfl,rfl,rfl⟩,rfl⟩:=h
  have c1:decide (4096<(a0.size:Int))=true:=decide_eq_true hh
  have c2:decide (4096<a0.size)=true:=decide_eq_true om
  go_wp2_with (first|((with_reducible refine gate_store (t:=28) (p:=2) rfl ?_);refine box_put (g:=g1) (cs := #[.int .i64 0, .int .i64 0, .int .i64 0, .slice none 0 0, .slice none 0 0]) (cs' := #[.int .i64 0, .int .i64 0, .int .i64 0, .slice none 0 0, .slice none 0 0]) rfl rfl rfl rfl rfl rfl BK1.out rfl (by kernel_rfl) ?h1 ?_;(case h1=>intro q hq;simp only [List.mem_cons,List.not_mem_nil,or_false] at hq;rcases hq with rfl|rfl|rfl|rfl|rfl <;> rfl);intro w9 pb9;have PB9:=Ak pb9;clear pb9))
  refine bodyPost_ret (results_ct rfl _ _ g1 28 #[.int .i64 0, .int .i64 0, .int .i64 0, .slice none 0 0, .slice none 0 0] (0,0) _ rfl PB9.out.blk Try.underlying28 rfl (by kernel_rfl)) rfl ?_
  exact ⟨_,_,rfl,Kd.R_nil _ _ _ _ _,Kd.R_nil _ _ _ _ _,PB9.out.below HB1.out GE1.out⟩
 rw [if_neg hh] at h
 have c1:decide (4096<(a0.size:Int))=false:=decide_eq_false hh
 have c2:decide (4096<a0.size)=false:=decide_eq_false om
 go_wp2_with (fail)
 refine ((sP.calls k a0 r1 r2 r3 r4 r5 r6 _ h).mono ?_)
 rintro e5 w5 ⟨v3,v4,rfl,ho3,ho4,hb⟩
 have HB5:=Ak (below_step HB1.out hb)
 have BK5:=Ak (blk_below BK1.out hb)
 have L1:=Ak (blk_lt BK1.out)
 have HO3:=Ak ho3
 have HO4:=Ak ho4
 clear hb ho3 ho4
 dsimp only
 go_wp2_with (first|((with_reducible refine gate_store (t:=28) (p:=2) rfl ?_);refine box_put (g:=g1) (cs := #[.int .i64 0, .int .i64 0, .int .i64 0, .slice none 0 0, .slice none 0 0]) (cs' := #[.int .i64 r1, .int .i64 r2, .int .i64 r3,v3,v4]) rfl rfl rfl rfl rfl rfl BK5.out rfl (by kernel_rfl) ?h1 ?_;(case h1=>intro q hq;simp only [List.mem_cons,List.not_mem_nil,or_false] at hq;rcases hq with rfl|rfl|rfl|rfl|rfl;exact rfl;exact rfl;exact rfl;exact (Kd.R_val HO3.out).2;exact (Kd.R_val HO4.out).2);intro w9 pb9;have PB9:=Ak pb9;clear pb9))
 have F9 : ∀ k_:Nat,w1.heap.size≤k_→w9.heap[k_]? = w5.heap[k_]? := fun k_ h1_=>PB9.out.far k_ (by have:=L1.out;omega)
 have hle:w.heap.size≤w1.heap.size:=HB1.out.size
 refine bodyPost_ret (results_ct rfl _ _ g1 28 #[.int .i64 r1, .int .i64 r2, .int .i64 r3,v3,v4] (0,0) _ rfl PB9.out.blk Try.underlying28 rfl (by kernel_rfl)) rfl ?_
 exact ⟨_,_,rfl,Kd.R_mono (Kd.R_lower (Kd.R_step (Kd.R_bound HO3.out) (fun k_ hk _=>F9 k_ hk.2.1)) hle) (fun _ _=>trivial),Kd.R_mono (Kd.R_lower (Kd.R_step (Kd.R_bound HO4.out) (fun k_ hk _=>F9 k_ hk.2.1)) hle) (fun _ hk=>hk.1),PB9.out.below HB5.out GE1.out⟩
end Go.Proofs.Ytbkgoccnegjdhaa.Q

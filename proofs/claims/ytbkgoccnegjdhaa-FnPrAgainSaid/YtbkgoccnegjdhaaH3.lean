/- impl.PrPretty by hand. -/
import Derived.Test.YtbkgoccnegjdhaaH2
namespace Go.Proofs.Ytbkgoccnegjdhaa.Q
open Go.RowKit Go.Proofs.YtbkgoccnegjdhaaW.PrintWords Go.Proofs.YtbkgoccnegjdhaaW.PrintLast Go.Proofs.YtbkgoccnegjdhaaW.PrintMore
attribute [local go_sem] max2_int min2_int max_two min_two max_three min_three max_four min_four
set_option linter.unusedVariables false
set_option linter.unusedSimpArgs false
noncomputable def iP.f (k:Nat) (a0:ByteArray) (W:Int) (P I:ByteArray) (sk:Bool):Option ByteArray:=(pP.f k (bytesOf a0) W P I sk).bind fun t=>some (strOfNums t)
set_option maxHeartbeats 8000000 in
set_option maxRecDepth 100000 in
theorem iP.calls (k:Nat) (a0:ByteArray) (W:Int) (P I:ByteArray) (sk:Bool) (r:ByteArray) (w:World) (hs:a0.size≤140737488355328) (hP:P.size≤2147483647) (h:iP.f k a0 W P I sk=some r) :
 Calls Try.prog 8 #[.string a0, .agg #[.int .i64 W, .string P, .string I, .bool sk]] w fun e w'=>e = .returned (.string r)∧Below w.heap.size w w':=by
 have hu23:=Try.underlying23
 have hu47:=Try.underlying47
 have kb:=fun W_=>print_bytes (P:=Try.prog) 9 44 5 Try.underlying9 Try.underlying44 Try.underlying5 a0 W_
 unfold iP.f at h
 obtain ⟨y,A1_,h⟩:=Option.bind_eq_some_iff.mp h
 obtain rfl:=Option.some.inj h
 have HB:=Ak (Below.refl w.heap.size w)
 go_enter Try.func8,Try.ntmps8
 go_wp2_with (first
  | ((with_reducible refine gate_dst (N:=3) rfl ?_);refine box_event ?hg (N:=3) ?hd (cs := #[.int .i64 W, .string P, .string I, .bool sk]) (t:=23) ?hr ?_;(case hd=>rfl);(case hg=>rfl);(case hr=>first|(go_simp;done)|(go_simp;rfl));intro g1 hg1 w1 hb1 hB1;have HB1:=Ak (below_step HB.out hB1);have BK1:=Ak hb1;clear hg1 hb1 hB1;have hz1_0:w1.cell? ⟨g1,0,none⟩=some (.int .i64 W):=(blk_cell BK1.out 0).trans rfl;have hz1_1:w1.cell? ⟨g1,1,none⟩=some (.string P):=(blk_cell BK1.out 1).trans rfl;have hz1_2:w1.cell? ⟨g1,2,none⟩=some (.string I):=(blk_cell BK1.out 2).trans rfl;have hz1_3:w1.cell? ⟨g1,3,none⟩=some (.bool sk):=(blk_cell BK1.out 3).trans rfl;have HBb:=Ak (bytes_below HB1.out HB1.out.size 5 a0);have BKb:=Ak ((Lib.bytesWorld_at_old w1 5 a0 g1 (blk_lt BK1.out)).trans BK1.out);have CB:=Ak (bytes_reads w1 5 a0 om);have hz2_0:(Lib.bytesWorld w1 5 a0).cell? ⟨g1,0,none⟩=some (.int .i64 W):=(blk_cell BKb.out 0).trans rfl;have hz2_1:(Lib.bytesWorld w1 5 a0).cell? ⟨g1,1,none⟩=some (.string P):=(blk_cell BKb.out 1).trans rfl;have hz2_2:(Lib.bytesWorld w1 5 a0).cell? ⟨g1,2,none⟩=some (.string I):=(blk_cell BKb.out 2).trans rfl;have hz2_3:(Lib.bytesWorld w1 5 a0).cell? ⟨g1,3,none⟩=some (.bool sk):=(blk_cell BKb.out 3).trans rfl)
  | ((with_reducible refine gate_dst (N:=16) rfl ?_);refine box_event ?hg (N:=16) ?hd (cs := #[.int .i64 W, .string P, .string I, .bool sk]) (t:=47) ?hr ?_;(case hd=>rfl);(case hg=>rfl);(case hr=>first|(go_simp;done)|(go_simp;rfl));intro g2 hg2 w2 hb2 hB2;have HB2:=Ak (below_step HBb.out hB2);have BK2:=Ak hb2;have FB2:=Ak hB2;clear hg2 hb2 hB2))
 have hlen:(bytesOf a0).length=a0.size:=bytesOf_length a0
 have hC:Kd.C (Kd.int .u8) w2 (some ⟨w1.heap.size,0,none⟩) (bytesOf a0).length (bytesOf a0):=by
  rw [hlen];exact Kd.C_below (Kd.C_of_reads (readsInt_of.1 CB.out)) FB2.out
 have hcall:=pP.calls k g2 W P I sk (some ⟨w1.heap.size,0,none⟩) (grownCap w1 a0.size 0 5) (bytesOf a0) y w2 BK2.out hC (by rw [hlen];exact grownCap_ge w1 a0.size 0 5) (by rw [hlen];exact hs) hP A1_
 rw [hlen] at hcall
 refine hcall.mono ?_
 rintro e3 w3 ⟨v3,rfl,ho,hb⟩
 have HO3:=Ak ho
 have HB3:=Ak (below_step HB2.out hb)
 clear ho hb hcall hC
 have hcv:=own_string (P:=Try.prog) Try.underlying44 Try.underlying5 Try.underlying9 (Kd.own_of_R HO3.out)
 dsimp only
 go_wp2
 go_ret
 exact ⟨rfl,HB3.out⟩
end Go.Proofs.Ytbkgoccnegjdhaa.Q

/- laws.FnPrAgain by hand. -/
import Derived.Test.YtbkgoccnegjdhaaH1
import Derived.Test.YtbkgoccnegjdhaaH3
import Derived.Test.YtbkgoccnegjdhaaUc
namespace Go.Proofs.Ytbkgoccnegjdhaa.Q
open Go.RowKit Go.Proofs.YtbkgoccnegjdhaaW.PrintWords Go.Proofs.YtbkgoccnegjdhaaW.PrintLast Go.Proofs.YtbkgoccnegjdhaaW.PrintMore Go.Proofs.Ytbkgoccnegjdhaa.U
attribute [local go_sem] max2_int min2_int max_two min_two max_three min_three max_four min_four
set_option linter.unusedVariables false
set_option linter.unusedSimpArgs false
theorem impl_eq (k:Nat) (s:ByteArray) (W:Int) (P I:ByteArray) (sk:Bool):iP.f k s W P I sk=prettyB k s W P I sk:=by
 unfold iP.f pP.f prettyB
 cases pA.f k (bytesOf P) (bytesOf s) 0 true W P I sk 0 0 (-1) with
 | none=>rfl
 | some t =>
  simp only [Option.bind_some]
  split
  ·
   split <;> rfl
  rfl
set_option maxHeartbeats 8000000 in
set_option maxRecDepth 100000 in
theorem laws_FnPrAgain.calls (a0:ByteArray) (W:Int) (P I:ByteArray) (sk:Bool) (w:World) (hW : -9223372036854775808≤W∧W≤9223372036854775807) :
 Calls Try.prog 4 #[.string a0, .agg #[.int .i64 W, .string P, .string I, .bool sk]] w fun e w'=>e = .returned (.bool true)∧Below w.heap.size w w':=by
 have hu23:=Try.underlying23
 have hu28:=Try.underlying28
 have HB:=Ak (Below.refl w.heap.size w)
 go_enter Try.func4,Try.ntmps4
 by_cases c1:(a0.size:Int)>2147483647
 ·
  have c1b0:decide (2147483647<(a0.size:Int))=true:=decide_eq_true c1
  have c1b1:decide (2147483647<a0.size)=true:=decide_eq_true om
  go_wp2_with (first
   | ((with_reducible refine gate_dst (N:=3) rfl ?_);refine box_event ?hg (N:=3) ?hd (cs := #[.int .i64 W, .string P, .string I, .bool sk]) (t:=23) ?hr ?_;(case hd=>rfl);(case hg=>rfl);(case hr=>first|(go_simp;done)|(go_simp;rfl));intro g1 hg1 w1 hb1 hB1;have HB1:=Ak (below_step HB.out hB1);have BK1:=Ak hb1;clear hg1 hb1 hB1;have hz1_0:w1.cell? ⟨g1,0,none⟩=some (.int .i64 W):=(blk_cell BK1.out 0).trans rfl;have hz1_1:w1.cell? ⟨g1,1,none⟩=some (.string P):=(blk_cell BK1.out 1).trans rfl;have hz1_2:w1.cell? ⟨g1,2,none⟩=some (.string I):=(blk_cell BK1.out 2).trans rfl;have hz1_3:w1.cell? ⟨g1,3,none⟩=some (.bool sk):=(blk_cell BK1.out 3).trans rfl))
  go_ret
  exact ⟨rfl,HB1.out⟩
 have c1b0:decide (2147483647<(a0.size:Int))=false:=decide_eq_false c1
 have c1b1:decide (2147483647<a0.size)=false:=decide_eq_false om
 go_upto_if 15 with (first
  | ((with_reducible refine gate_dst (N:=3) rfl ?_);refine box_event ?hg (N:=3) ?hd (cs := #[.int .i64 W, .string P, .string I, .bool sk]) (t:=23) ?hr ?_;(case hd=>rfl);(case hg=>rfl);(case hr=>first|(go_simp;done)|(go_simp;rfl));intro g1 hg1 w1 hb1 hB1;have HB1:=Ak (below_step HB.out hB1);have BK1:=Ak hb1;clear hg1 hb1 hB1;have hz1_0:w1.cell? ⟨g1,0,none⟩=some (.int .i64 W):=(blk_cell BK1.out 0).trans rfl;have hz1_1:w1.cell? ⟨g1,1,none⟩=some (.string P):=(blk_cell BK1.out 1).trans rfl;have hz1_2:w1.cell? ⟨g1,2,none⟩=some (.string I):=(blk_cell BK1.out 2).trans rfl;have hz1_3:w1.cell? ⟨g1,3,none⟩=some (.bool sk):=(blk_cell BK1.out 3).trans rfl))
 have hz : ∃ b,lZ.f W P I sk=some b∧(b=true→P.size≤2147483647∧I.size≤2147483647):=by
  unfold lZ.f
  by_cases h1:(P.size:Int)>2147483647
  ·
   exact ⟨false,by rw [if_pos h1],fun h=>by cases h⟩
  by_cases h2:(I.size:Int)>2147483647
  ·
   exact ⟨false,by rw [if_neg h1,if_pos h2],fun h=>by cases h⟩
  exact ⟨true,by rw [if_neg h1,if_neg h2],fun _=>⟨by omega,by omega⟩⟩
 obtain ⟨b,hb,hbs⟩:=hz
 refine ((lZ.calls W P I sk b w1 hb).mono ?_)
 rintro e2 w2 ⟨rfl,hb2⟩
 have HB2:=Ak (below_step HB1.out hb2)
 have BK2:=Ak (blk_below BK1.out hb2)
 have hz2_0:w2.cell? ⟨g1,0,none⟩=some (.int .i64 W):=(blk_cell BK2.out 0).trans rfl
 have hz2_1:w2.cell? ⟨g1,1,none⟩=some (.string P):=(blk_cell BK2.out 1).trans rfl
 have hz2_2:w2.cell? ⟨g1,2,none⟩=some (.string I):=(blk_cell BK2.out 2).trans rfl
 have hz2_3:w2.cell? ⟨g1,3,none⟩=some (.bool sk):=(blk_cell BK2.out 3).trans rfl
 clear hb2
 dsimp only
 cases b with
 | false =>
  go_wp2
  go_ret
  exact ⟨rfl,HB2.out⟩
 | true =>
  obtain ⟨hP,hI⟩:=hbs rfl
  go_upto_if 42 with (fail)
  have hpl : ∃ (k:Nat) (p:S28) (ok:Bool),lP.f k a0=some (p,ok)∧(ok=true→a0.size≤4096 ∧ ∃ t a e,Wl (bytesOf a0) 0 a∧Rd (bytesOf a0) t a e∧Wl (bytesOf a0) e a0.size∧Rep a0 t p):=by
   by_cases h1:(a0.size:Int)>4096
   ·
    exact ⟨0,z28,false,by unfold lP.f;rw [if_pos h1],fun h=>by cases h⟩
   obtain ⟨p,ok,he,hq⟩:=places_ev (s:=a0) om
   obtain ⟨k,hk⟩:=he.rounds
   exact ⟨k,p,ok,by unfold lP.f;rw [if_neg h1];exact hk,fun h=>⟨by omega,hq h⟩⟩
  obtain ⟨k1,⟨q1,q2,q3,q4,q5⟩,ok,hpp,hok⟩:=hpl
  refine ((lP.calls k1 a0 q1 q2 q3 q4 q5 ok w2 hpp).mono ?_)
  rintro e3 w3 ⟨v3,v4,rfl,ho3,ho4,hb3⟩
  have HB3:=Ak (below_step HB2.out hb3)
  have BK3:=Ak (blk_below BK2.out hb3)
  have HO3:=Ak (Kd.R_lower ho3 HB2.out.size)
  have HO4:=Ak (Kd.R_lower ho4 HB2.out.size)
  clear hb3 ho3 ho4
  dsimp only
  cases ok with
  | false =>
   go_wp2_with (first
    | ((with_reducible refine gate_dst (N:=5) rfl ?_);refine box_event ?hg (N:=5) ?hd (cs := #[.int .i64 0, .int .i64 0, .int .i64 0, .slice none 0 0, .slice none 0 0]) (t:=28) ?hr ?_;(case hd=>rfl);(case hg=>rfl);(case hr=>first|(go_simp;done)|(go_simp;rfl));intro g5 hg5 w6 hb6 hB6;have GE5:=Ak (by rw [hg5];exact HB3.out.size:w.heap.size≤g5);have HB6:=Ak (below_step HB3.out hB6);have BK6:=Ak hb6;have BK16:=Ak (blk_below BK3.out hB6);have NE15:=Ak (by have:=blk_lt BK3.out;omega:g1≠g5);clear hg5 hb6 hB6)
    | ((with_reducible refine gate_store (t:=28) (p:=5) rfl ?_);refine box_put (g:=g5) (cs := #[.int .i64 0, .int .i64 0, .int .i64 0, .slice none 0 0, .slice none 0 0]) (cs' := #[.int .i64 q1, .int .i64 q2, .int .i64 q3,v3,v4]) rfl rfl rfl rfl rfl rfl BK6.out rfl (by kernel_rfl) ?h1 ?_;(case h1=>intro q hq;simp only [List.mem_cons,List.not_mem_nil,or_false] at hq;rcases hq with rfl|rfl|rfl|rfl|rfl;exact rfl;exact rfl;exact rfl;exact (Kd.R_val HO3.out).2;exact (Kd.R_val HO4.out).2);intro w7 pb7;have HB7:=Ak (pb7.below HB6.out GE5.out);have BK7:=Ak ((pb7.far g1 NE15.out).trans BK16.out);clear pb7;have hz7_0:w7.cell? ⟨g1,0,none⟩=some (.int .i64 W):=(blk_cell BK7.out 0).trans rfl;have hz7_1:w7.cell? ⟨g1,1,none⟩=some (.string P):=(blk_cell BK7.out 1).trans rfl;have hz7_2:w7.cell? ⟨g1,2,none⟩=some (.string I):=(blk_cell BK7.out 2).trans rfl;have hz7_3:w7.cell? ⟨g1,3,none⟩=some (.bool sk):=(blk_cell BK7.out 3).trans rfl))
   go_ret
   exact ⟨rfl,HB7.out⟩
  | true =>
   go_upto_if 42 with (first
    | ((with_reducible refine gate_dst (N:=5) rfl ?_);refine box_event ?hg (N:=5) ?hd (cs := #[.int .i64 0, .int .i64 0, .int .i64 0, .slice none 0 0, .slice none 0 0]) (t:=28) ?hr ?_;(case hd=>rfl);(case hg=>rfl);(case hr=>first|(go_simp;done)|(go_simp;rfl));intro g5 hg5 w6 hb6 hB6;have GE5:=Ak (by rw [hg5];exact HB3.out.size:w.heap.size≤g5);have HB6:=Ak (below_step HB3.out hB6);have BK6:=Ak hb6;have BK16:=Ak (blk_below BK3.out hB6);have NE15:=Ak (by have:=blk_lt BK3.out;omega:g1≠g5);have FB6:=Ak hB6;have G5:=Ak (by rw [hg5];exact Nat.le_refl _:w3.heap.size≤g5);clear hg5 hb6 hB6)
    | ((with_reducible refine gate_store (t:=28) (p:=5) rfl ?_);refine box_put (g:=g5) (cs := #[.int .i64 0, .int .i64 0, .int .i64 0, .slice none 0 0, .slice none 0 0]) (cs' := #[.int .i64 q1, .int .i64 q2, .int .i64 q3,v3,v4]) rfl rfl rfl rfl rfl rfl BK6.out rfl (by kernel_rfl) ?h1 ?_;(case h1=>intro q hq;simp only [List.mem_cons,List.not_mem_nil,or_false] at hq;rcases hq with rfl|rfl|rfl|rfl|rfl;exact rfl;exact rfl;exact rfl;exact (Kd.R_val HO3.out).2;exact (Kd.R_val HO4.out).2);intro w7 pb7;have HB7:=Ak (pb7.below HB6.out GE5.out);have GE7:=Ak (pb7.blk);have F7:=Ak (⟨pb7.os.trans FB6.out.os,pb7.tape.trans FB6.out.tape,pb7.output.trans FB6.out.output,by rw [pb7.size];exact FB6.out.size,fun k_ h2_=>(pb7.far k_ (by have:=G5.out;omega)).trans (FB6.out.block k_ h2_)⟩:Below w3.heap.size w3 w7);have BK7:=Ak ((pb7.far g1 NE15.out).trans BK16.out);clear pb7;have hz7_0:w7.cell? ⟨g1,0,none⟩=some (.int .i64 W):=(blk_cell BK7.out 0).trans rfl;have hz7_1:w7.cell? ⟨g1,1,none⟩=some (.string P):=(blk_cell BK7.out 1).trans rfl;have hz7_2:w7.cell? ⟨g1,2,none⟩=some (.string I):=(blk_cell BK7.out 2).trans rfl;have hz7_3:w7.cell? ⟨g1,3,none⟩=some (.bool sk):=(blk_cell BK7.out 3).trans rfl))
   obtain ⟨hsz,t,ta,te,hw1,hrd,hw2,hrep⟩:=hok (by trivial)
   obtain ⟨bb,hbe,hbb⟩:=prBlank_ev W P I sk hP hI
   obtain ⟨k2,hk2⟩:=hbe.rounds
   refine ((lB.calls k2 W P I sk bb w7 hk2).mono ?_)
   rintro e8 w8 ⟨rfl,hb8⟩
   have HB8:=Ak (below_step HB7.out hb8)
   have BK8:=Ak (blk_below BK7.out hb8)
   have hz8_0:w8.cell? ⟨g1,0,none⟩=some (.int .i64 W):=(blk_cell BK8.out 0).trans rfl
   have hz8_1:w8.cell? ⟨g1,1,none⟩=some (.string P):=(blk_cell BK8.out 1).trans rfl
   have hz8_2:w8.cell? ⟨g1,2,none⟩=some (.string I):=(blk_cell BK8.out 2).trans rfl
   have hz8_3:w8.cell? ⟨g1,3,none⟩=some (.bool sk):=(blk_cell BK8.out 3).trans rfl
   dsimp only
   cases bb with
   | false =>
    go_wp2
    go_ret
    exact ⟨rfl,HB8.out⟩
   | true =>
    obtain ⟨hsP,hsI⟩:=hbb (by trivial)
    have hz4:t.sz≤4096:=by have:=T.sz_le t hrd;rw [bytesOf_length] at this;omega
    have FB8:=Ak (below_step F7.out hb8)
    have BK58:=Ak (blk_below GE7.out hb8)
    obtain ⟨A3,c3,ev3,hle3,hC3⟩:=Kd.R_reads HO3.out
    obtain ⟨A4,c4,ev4,hle4,hC4⟩:=Kd.R_reads HO4.out
    subst ev3
    subst ev4
    have hy8_0:w8.cell? ⟨g5,0,none⟩=some (.int .i64 q1):=(blk_cell BK58.out 0).trans rfl
    have hy8_1:w8.cell? ⟨g5,1,none⟩=some (.int .i64 q2):=(blk_cell BK58.out 1).trans rfl
    have hy8_2:w8.cell? ⟨g5,2,none⟩=some (.int .i64 q3):=(blk_cell BK58.out 2).trans rfl
    have hy8_3:w8.cell? ⟨g5,3,none⟩=some (.slice A3 q4.length c3):=(blk_cell BK58.out 3).trans rfl
    have hy8_4:w8.cell? ⟨g5,4,none⟩=some (.slice A4 q5.length c4):=(blk_cell BK58.out 4).trans rfl
    clear hb8
    have key : ∀ (hu:sk=true→t.uq) (hq:sk=true → ∀ c,c ∈ bytesOf a0→c≠92), ∃ (out:ByteArray) (k3:Nat),(¬ out.toList=[])∧out.size≤2000000000∧iP.f k3 a0 W P I sk=some out ∧ ∃ k4,iP.f k4 out W P I sk=some out:=by
     intro hu hq
     have hpe:=prettyB_ev (s:=a0) (t:=t) (W:=W) (P:=P) (I:=I) (sk:=sk) hW hsP.1 hsI.1 om hz4 hrd hw1 hw2 hu hq
     obtain ⟨hsz2,hpa⟩:=again_ev (s:=a0) (t:=t) (W:=W) (P:=P) (I:=I) (sk:=sk) hW hsP hsI hz4 hrd hu hq
     obtain ⟨k3,hk3⟩:=hpe.rounds
     obtain ⟨k4,hk4⟩:=hpa.rounds
     refine ⟨_,k3,?_,hsz2,by rw [impl_eq];exact hk3,k4,by rw [impl_eq];exact hk4⟩
     intro e
     have h1:=toList_bytesOf (b:=(⟨#[]⟩:ByteArray)) (e.trans (by simp [ByteArray.toList,ByteArray.toList.loop,ByteArray.size]))
     have h2:=congrArg List.length h1
     rw [bytesOf_length,strOfNums_size] at h2
     exact whole_ne (List.length_eq_zero_iff.1 h2)
    cases sk with
    | false =>
     obtain ⟨out,k3,hne,hosz,hk3,k4,hk4⟩:=key (fun h=>by cases h) (fun h=>by cases h)
     clear key
     go_wp2_with (fail)
     refine (iP.calls k3 a0 W P I false out _ om hP hk3).mono ?_
     rintro e9 w9 ⟨rfl,hb9⟩
     have BK9:=Ak (blk_below BK8.out hb9)
     have HB9:=Ak (below_step HB8.out hb9)
     have hz9_0:w9.cell? ⟨g1,0,none⟩=some (.int .i64 W):=(blk_cell BK9.out 0).trans rfl
     have hz9_1:w9.cell? ⟨g1,1,none⟩=some (.string P):=(blk_cell BK9.out 1).trans rfl
     have hz9_2:w9.cell? ⟨g1,2,none⟩=some (.string I):=(blk_cell BK9.out 2).trans rfl
     have hz9_3:w9.cell? ⟨g1,3,none⟩=some (.bool false):=(blk_cell BK9.out 3).trans rfl
     clear hb9
     dsimp only
     go_wp2_with (fail)
     refine (iP.calls k4 out W P I false out _ om hP hk4).mono ?_
     rintro e11 w11 ⟨rfl,hb11⟩
     have HB11:=Ak (below_step HB9.out hb11)
     dsimp only
     go_wp2
     go_ret
     exact ⟨by simp;exact hne,HB11.out⟩
    | true =>
     obtain ⟨esc,hee,heq⟩:=escaped_ev a0 om
     obtain ⟨ke,hke⟩:=hee.rounds
     go_upto_if 42 with (fail)
     refine (sE.calls ke a0 esc _ hke).mono ?_
     rintro e10 w10 ⟨rfl,hd10⟩
     have hb10:=hd10.below
     have BK10:=Ak (blk_below BK8.out hb10)
     have BK510:=Ak (blk_below BK58.out hb10)
     have HB10:=Ak (below_step HB8.out hb10)
     have FB10:=Ak (below_step FB8.out hb10)
     have hz10_0:w10.cell? ⟨g1,0,none⟩=some (.int .i64 W):=(blk_cell BK10.out 0).trans rfl
     have hz10_1:w10.cell? ⟨g1,1,none⟩=some (.string P):=(blk_cell BK10.out 1).trans rfl
     have hz10_2:w10.cell? ⟨g1,2,none⟩=some (.string I):=(blk_cell BK10.out 2).trans rfl
     have hz10_3:w10.cell? ⟨g1,3,none⟩=some (.bool true):=(blk_cell BK10.out 3).trans rfl
     have hy10_0:w10.cell? ⟨g5,0,none⟩=some (.int .i64 q1):=(blk_cell BK510.out 0).trans rfl
     have hy10_1:w10.cell? ⟨g5,1,none⟩=some (.int .i64 q2):=(blk_cell BK510.out 1).trans rfl
     have hy10_2:w10.cell? ⟨g5,2,none⟩=some (.int .i64 q3):=(blk_cell BK510.out 2).trans rfl
     have hy10_3:w10.cell? ⟨g5,3,none⟩=some (.slice A3 q4.length c3):=(blk_cell BK510.out 3).trans rfl
     have hy10_4:w10.cell? ⟨g5,4,none⟩=some (.slice A4 q5.length c4):=(blk_cell BK510.out 4).trans rfl
     clear hb10 hd10
     dsimp only
     cases esc with
     | true =>
      go_wp2
      go_ret
      exact ⟨rfl,HB10.out⟩
     | false =>
      have h92:=heq rfl
      obtain ⟨⟨n0,n1,n2,n3⟩,hte,hnd⟩:=tree_ev (s:=a0) hsz h92 t ⟨q1,q2,q3,q4,q5⟩ hrep (Rd.ok t hrd) hz4
      obtain ⟨kt,hkt⟩:=hte.rounds
      obtain ⟨uq,hue,huq⟩:=unique_ev t _ hnd hz4
      obtain ⟨ku,hku⟩:=hue.rounds
      go_upto_if 42 with (fail)
      refine (sT.calls kt a0 q1 q2 q3 A3 c3 q4 A4 c4 q5 n0 n1 n2 n3 _ (Kd.C_below hC3 FB10.out) hle3 (Kd.C_below hC4 FB10.out) hle4 hkt).mono ?_
      rintro e12 w12 ⟨v2,v3,rfl,ho2,ho3,hb12⟩
      obtain ⟨B2,d2,ev2,hle2,hD2⟩:=Kd.R_reads ho2
      obtain ⟨B3,d3,ev3,hle3',hD3⟩:=Kd.R_reads ho3
      subst ev2
      subst ev3
      have BK12:=Ak (blk_below BK10.out hb12)
      have HB12:=Ak (below_step HB10.out hb12)
      clear hb12
      dsimp only
      go_upto_if 42 with (fail)
      refine (sV.calls ku n0 n1 B2 d2 n2 B3 d3 n3 uq _ hD2 hle2 hD3 hle3' hku).mono ?_
      rintro e13 w13 ⟨rfl,hb13⟩
      have BK13:=Ak (blk_below BK12.out hb13)
      have HB13:=Ak (below_step HB12.out hb13)
      have hz13_0:w13.cell? ⟨g1,0,none⟩=some (.int .i64 W):=(blk_cell BK13.out 0).trans rfl
      have hz13_1:w13.cell? ⟨g1,1,none⟩=some (.string P):=(blk_cell BK13.out 1).trans rfl
      have hz13_2:w13.cell? ⟨g1,2,none⟩=some (.string I):=(blk_cell BK13.out 2).trans rfl
      have hz13_3:w13.cell? ⟨g1,3,none⟩=some (.bool true):=(blk_cell BK13.out 3).trans rfl
      clear hb13
      dsimp only
      cases uq with
      | false =>
       go_wp2
       go_ret
       exact ⟨rfl,HB13.out⟩
      | true =>
       obtain ⟨out,k3,hne,hosz,hk3,k4,hk4⟩:=key (fun _=>huq rfl) (fun _=>h92)
       clear key
       go_wp2_with (fail)
       refine (iP.calls k3 a0 W P I true out _ om hP hk3).mono ?_
       rintro e9 w9 ⟨rfl,hb9⟩
       have BK9:=Ak (blk_below BK13.out hb9)
       have HB9:=Ak (below_step HB13.out hb9)
       have hz9_0:w9.cell? ⟨g1,0,none⟩=some (.int .i64 W):=(blk_cell BK9.out 0).trans rfl
       have hz9_1:w9.cell? ⟨g1,1,none⟩=some (.string P):=(blk_cell BK9.out 1).trans rfl
       have hz9_2:w9.cell? ⟨g1,2,none⟩=some (.string I):=(blk_cell BK9.out 2).trans rfl
       have hz9_3:w9.cell? ⟨g1,3,none⟩=some (.bool true):=(blk_cell BK9.out 3).trans rfl
       clear hb9
       dsimp only
       go_wp2_with (fail)
       refine (iP.calls k4 out W P I true out _ om hP hk4).mono ?_
       rintro e11 w11 ⟨rfl,hb11⟩
       have HB11:=Ak (below_step HB9.out hb11)
       dsimp only
       go_wp2
       go_ret
       exact ⟨by simp;exact hne,HB11.out⟩
end Go.Proofs.Ytbkgoccnegjdhaa.Q

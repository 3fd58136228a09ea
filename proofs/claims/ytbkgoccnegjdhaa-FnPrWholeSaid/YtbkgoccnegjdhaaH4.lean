/- laws.FnPrWhole by hand. -/
import Derived.Test.YtbkgoccnegjdhaaH1
import Derived.Test.YtbkgoccnegjdhaaH3
import Derived.Test.YtbkgoccnegjdhaaUc
namespace Go.Proofs.Ytbkgoccnegjdhaa.Q
open Go.RowKit Go.Proofs.YtbkgoccnegjdhaaW.PrintWords Go.Proofs.YtbkgoccnegjdhaaW.PrintLast Go.Proofs.YtbkgoccnegjdhaaW.PrintMore Go.Proofs.Ytbkgoccnegjdhaa.U
attribute [local go_sem] max2_int min2_int max_two min_two max_three min_three max_four min_four
set_option linter.unusedVariables false
set_option linter.unusedSimpArgs false
theorem impl_eq (k:Nat) (s:ByteArray) (W:Int) (P I:ByteArray) (sk:Bool):impl_PrPretty.f k s W P I sk=prettyB k s W P I sk:=by
 unfold impl_PrPretty.f pretty_PrettyOptions.f prettyB
 cases pretty_appendPrettyAny.f k (bytesOf P) (bytesOf s) 0 true W P I sk 0 0 (-1) with
 | none=>rfl
 | some t =>
  simp only [Option.bind_some]
  split
  ·
   split <;> rfl
  rfl
def laws_FnPrWhole.T6:Bool × List (List Nat × List Nat):=(true,[([],[]),([],[]),([0,1],[0,1]),([],[]),([3,2],[3]),([],[]),([],[]),([4,5,6,4],[4,5,6]),([2,7],[2,7]),([8,7,0,1,2,3,4,5,6,7,8],[8])])
def laws_FnPrWhole.B6:List Nat:=[0,0,3,0,15,0,0,127,255,511]
theorem laws_FnPrWhole.tab6:rtab .any (opsOf Try.f3 6)=laws_FnPrWhole.T6:=by kernel_rfl
theorem laws_FnPrWhole.bits6:waitsOk laws_FnPrWhole.T6.2 laws_FnPrWhole.B6=true:=by kernel_rfl
set_option maxHeartbeats 8000000 in
set_option maxRecDepth 100000 in
theorem laws_FnPrWhole.calls (a0:ByteArray) (W:Int) (P I:ByteArray) (sk:Bool) (w:World) (hW : -9223372036854775808≤W∧W≤9223372036854775807) :
 Calls Try.prog 3 #[.string a0, .agg #[.int .i64 W, .string P, .string I, .bool sk]] w fun e w'=>e = .returned (.bool true)∧Below w.heap.size w w':=by
 have hu23:=Try.underlying23
 have hu28:=Try.underlying28
 have HB:=Ak (Below.refl w.heap.size w)
 go_enter Try.func3,Try.ntmps3
 by_cases c1:(a0.size:Int)>2147483647
 ·
  have c1b0:decide (2147483647<(a0.size:Int))=true:=decide_eq_true c1
  have c1b1:decide (2147483647<a0.size)=true:=decide_eq_true (by omega)
  go_wp2_with (first
   | ((with_reducible refine gate_dst (N:=3) rfl ?_);refine box_event ?hg (N:=3) ?hd (cs := #[.int .i64 W, .string P, .string I, .bool sk]) (t:=23) ?hr ?_;(case hd=>rfl);(case hg=>rfl);(case hr=>first|(go_simp;done)|(go_simp;rfl));intro g1 hg1 w1 hb1 hB1;have HB1:=Ak (below_step HB.out hB1);have BK1:=Ak hb1;clear hg1 hb1 hB1;have hz1_0:w1.cell? ⟨g1,0,none⟩=some (.int .i64 W):=(blk_cell BK1.out 0).trans rfl;have hz1_1:w1.cell? ⟨g1,1,none⟩=some (.string P):=(blk_cell BK1.out 1).trans rfl;have hz1_2:w1.cell? ⟨g1,2,none⟩=some (.string I):=(blk_cell BK1.out 2).trans rfl;have hz1_3:w1.cell? ⟨g1,3,none⟩=some (.bool sk):=(blk_cell BK1.out 3).trans rfl))
  go_ret
  exact ⟨rfl,HB1.out⟩
 have c1b0:decide (2147483647<(a0.size:Int))=false:=decide_eq_false c1
 have c1b1:decide (2147483647<a0.size)=false:=decide_eq_false (by omega)
 go_upto_if 14 with (first
  | ((with_reducible refine gate_dst (N:=3) rfl ?_);refine box_event ?hg (N:=3) ?hd (cs := #[.int .i64 W, .string P, .string I, .bool sk]) (t:=23) ?hr ?_;(case hd=>rfl);(case hg=>rfl);(case hr=>first|(go_simp;done)|(go_simp;rfl));intro g1 hg1 w1 hb1 hB1;have HB1:=Ak (below_step HB.out hB1);have BK1:=Ak hb1;clear hg1 hb1 hB1;have hz1_0:w1.cell? ⟨g1,0,none⟩=some (.int .i64 W):=(blk_cell BK1.out 0).trans rfl;have hz1_1:w1.cell? ⟨g1,1,none⟩=some (.string P):=(blk_cell BK1.out 1).trans rfl;have hz1_2:w1.cell? ⟨g1,2,none⟩=some (.string I):=(blk_cell BK1.out 2).trans rfl;have hz1_3:w1.cell? ⟨g1,3,none⟩=some (.bool sk):=(blk_cell BK1.out 3).trans rfl))
 have hz : ∃ b,laws_zzFits7.f W P I sk=some b∧(b=true→P.size≤2147483647∧I.size≤2147483647):=by
  unfold laws_zzFits7.f
  by_cases h1:(P.size:Int)>2147483647
  ·
   exact ⟨false,by rw [if_pos h1],fun h=>by cases h⟩
  by_cases h2:(I.size:Int)>2147483647
  ·
   exact ⟨false,by rw [if_neg h1,if_pos h2],fun h=>by cases h⟩
  exact ⟨true,by rw [if_neg h1,if_neg h2],fun _=>⟨by omega,by omega⟩⟩
 obtain ⟨b,hb,hbs⟩:=hz
 refine ((laws_zzFits7.calls W P I sk b w1 hb).mono ?_)
 rintro e2 w2 ⟨rfl,hb2⟩
 have HB2:=Ak (below_step HB1.out hb2)
 have BK2:=Ak (blk_below BK1.out hb2)
 have hz2_0:w2.cell? ⟨g1,0,none⟩=some (.int .i64 W):=(blk_cell BK2.out 0).trans rfl
 have hz2_1:w2.cell? ⟨g1,1,none⟩=some (.string P):=(blk_cell BK2.out 1).trans rfl
 have hz2_2:w2.cell? ⟨g1,2,none⟩=some (.string I):=(blk_cell BK2.out 2).trans rfl
 have hz2_3:w2.cell? ⟨g1,3,none⟩=some (.bool sk):=(blk_cell BK2.out 3).trans rfl
 clear hb2
 dsimp only
 cases b with
 | false =>
  go_wp2
  go_ret
  exact ⟨rfl,HB2.out⟩
 | true =>
  obtain ⟨hP,hI⟩:=hbs rfl
  go_upto_if 40 with (fail)
  have hpl : ∃ (k:Nat) (p:S28) (ok:Bool),laws_prPlaces.f k a0=some (p,ok)∧(ok=true→a0.size≤4096 ∧ ∃ t a e,Wl (bytesOf a0) 0 a∧Rd (bytesOf a0) t a e∧Wl (bytesOf a0) e a0.size∧Rep a0 t p):=by
   by_cases h1:(a0.size:Int)>4096
   ·
    exact ⟨0,z28,false,by unfold laws_prPlaces.f;rw [if_pos h1],fun h=>by cases h⟩
   obtain ⟨p,ok,he,hq⟩:=places_ev (s:=a0) (by omega)
   obtain ⟨k,hk⟩:=he.rounds
   exact ⟨k,p,ok,by unfold laws_prPlaces.f;rw [if_neg h1];exact hk,fun h=>⟨by omega,hq h⟩⟩
  obtain ⟨k1,⟨q1,q2,q3,q4,q5⟩,ok,hpp,hok⟩:=hpl
  refine ((laws_prPlaces.calls k1 a0 q1 q2 q3 q4 q5 ok w2 hpp).mono ?_)
  rintro e3 w3 ⟨v3,v4,rfl,ho3,ho4,hb3⟩
  have HB3:=Ak (below_step HB2.out hb3)
  have BK3:=Ak (blk_below BK2.out hb3)
  have HO3:=Ak (Kd.R_lower ho3 HB2.out.size)
  have HO4:=Ak (Kd.R_lower ho4 HB2.out.size)
  clear hb3 ho3 ho4
  dsimp only
  cases ok with
  | false =>
   go_wp2_with (first
    | ((with_reducible refine gate_dst (N:=5) rfl ?_);refine box_event ?hg (N:=5) ?hd (cs := #[.int .i64 0, .int .i64 0, .int .i64 0, .slice none 0 0, .slice none 0 0]) (t:=28) ?hr ?_;(case hd=>rfl);(case hg=>rfl);(case hr=>first|(go_simp;done)|(go_simp;rfl));intro g5 hg5 w6 hb6 hB6;have GE5:=Ak (by rw [hg5];exact HB3.out.size:w.heap.size≤g5);have HB6:=Ak (below_step HB3.out hB6);have BK6:=Ak hb6;have BK16:=Ak (blk_below BK3.out hB6);have NE15:=Ak (by have:=blk_lt BK3.out;omega:g1≠g5);clear hg5 hb6 hB6)
    | ((with_reducible refine gate_store (t:=28) (p:=5) rfl ?_);refine box_put (g:=g5) (cs := #[.int .i64 0, .int .i64 0, .int .i64 0, .slice none 0 0, .slice none 0 0]) (cs' := #[.int .i64 q1, .int .i64 q2, .int .i64 q3,v3,v4]) rfl rfl rfl rfl rfl rfl BK6.out rfl (by kernel_rfl) ?h1 ?_;(case h1=>intro q hq;simp only [List.mem_cons,List.not_mem_nil,or_false] at hq;rcases hq with rfl|rfl|rfl|rfl|rfl;exact rfl;exact rfl;exact rfl;exact (Kd.R_val HO3.out).2;exact (Kd.R_val HO4.out).2);intro w7 pb7;have HB7:=Ak (pb7.below HB6.out GE5.out);have BK7:=Ak ((pb7.far g1 NE15.out).trans BK16.out);clear pb7;have hz7_0:w7.cell? ⟨g1,0,none⟩=some (.int .i64 W):=(blk_cell BK7.out 0).trans rfl;have hz7_1:w7.cell? ⟨g1,1,none⟩=some (.string P):=(blk_cell BK7.out 1).trans rfl;have hz7_2:w7.cell? ⟨g1,2,none⟩=some (.string I):=(blk_cell BK7.out 2).trans rfl;have hz7_3:w7.cell? ⟨g1,3,none⟩=some (.bool sk):=(blk_cell BK7.out 3).trans rfl))
   go_ret
   exact ⟨rfl,HB7.out⟩
  | true =>
   go_upto_if 40 with (first
    | ((with_reducible refine gate_dst (N:=5) rfl ?_);refine box_event ?hg (N:=5) ?hd (cs := #[.int .i64 0, .int .i64 0, .int .i64 0, .slice none 0 0, .slice none 0 0]) (t:=28) ?hr ?_;(case hd=>rfl);(case hg=>rfl);(case hr=>first|(go_simp;done)|(go_simp;rfl));intro g5 hg5 w6 hb6 hB6;have GE5:=Ak (by rw [hg5];exact HB3.out.size:w.heap.size≤g5);have HB6:=Ak (below_step HB3.out hB6);have BK6:=Ak hb6;have BK16:=Ak (blk_below BK3.out hB6);have NE15:=Ak (by have:=blk_lt BK3.out;omega:g1≠g5);have FB6:=Ak hB6;have G5:=Ak (by rw [hg5];exact Nat.le_refl _:w3.heap.size≤g5);clear hg5 hb6 hB6)
    | ((with_reducible refine gate_store (t:=28) (p:=5) rfl ?_);refine box_put (g:=g5) (cs := #[.int .i64 0, .int .i64 0, .int .i64 0, .slice none 0 0, .slice none 0 0]) (cs' := #[.int .i64 q1, .int .i64 q2, .int .i64 q3,v3,v4]) rfl rfl rfl rfl rfl rfl BK6.out rfl (by kernel_rfl) ?h1 ?_;(case h1=>intro q hq;simp only [List.mem_cons,List.not_mem_nil,or_false] at hq;rcases hq with rfl|rfl|rfl|rfl|rfl;exact rfl;exact rfl;exact rfl;exact (Kd.R_val HO3.out).2;exact (Kd.R_val HO4.out).2);intro w7 pb7;have HB7:=Ak (pb7.below HB6.out GE5.out);have GE7:=Ak (pb7.blk);have F7:=Ak (⟨pb7.os.trans FB6.out.os,pb7.tape.trans FB6.out.tape,pb7.output.trans FB6.out.output,by rw [pb7.size];exact FB6.out.size,fun k_ h2_=>(pb7.far k_ (by have:=G5.out;omega)).trans (FB6.out.block k_ h2_)⟩:Below w3.heap.size w3 w7);have BK7:=Ak ((pb7.far g1 NE15.out).trans BK16.out);clear pb7;have hz7_0:w7.cell? ⟨g1,0,none⟩=some (.int .i64 W):=(blk_cell BK7.out 0).trans rfl;have hz7_1:w7.cell? ⟨g1,1,none⟩=some (.string P):=(blk_cell BK7.out 1).trans rfl;have hz7_2:w7.cell? ⟨g1,2,none⟩=some (.string I):=(blk_cell BK7.out 2).trans rfl;have hz7_3:w7.cell? ⟨g1,3,none⟩=some (.bool sk):=(blk_cell BK7.out 3).trans rfl))
   obtain ⟨hsz,t,ta,te,hw1,hrd,hw2,hrep⟩:=hok (by trivial)
   obtain ⟨bb,hbe,hbb⟩:=prBlank_ev W P I sk hP hI
   obtain ⟨k2,hk2⟩:=hbe.rounds
   refine ((laws_prBlank.calls k2 W P I sk bb w7 hk2).mono ?_)
   rintro e8 w8 ⟨rfl,hb8⟩
   have HB8:=Ak (below_step HB7.out hb8)
   have BK8:=Ak (blk_below BK7.out hb8)
   have hz8_0:w8.cell? ⟨g1,0,none⟩=some (.int .i64 W):=(blk_cell BK8.out 0).trans rfl
   have hz8_1:w8.cell? ⟨g1,1,none⟩=some (.string P):=(blk_cell BK8.out 1).trans rfl
   have hz8_2:w8.cell? ⟨g1,2,none⟩=some (.string I):=(blk_cell BK8.out 2).trans rfl
   have hz8_3:w8.cell? ⟨g1,3,none⟩=some (.bool sk):=(blk_cell BK8.out 3).trans rfl
   dsimp only
   cases bb with
   | false =>
    go_wp2
    go_ret
    exact ⟨rfl,HB8.out⟩
   | true =>
    cases sk with
    | true =>
     go_wp2
     go_ret
     exact ⟨rfl,HB8.out⟩
    | false =>
     by_cases c3:W<0
     ·
      have d1:decide (W<0)=true:=decide_eq_true c3
      go_wp2
      go_ret
      exact ⟨rfl,HB8.out⟩
     have d1:decide (W<0)=false:=decide_eq_false c3
     by_cases c4:W>1073741824
     ·
      have d2:decide (1073741824<W)=true:=decide_eq_true c4
      go_wp2
      go_ret
      exact ⟨rfl,HB8.out⟩
     have d2:decide (1073741824<W)=false:=decide_eq_false c4
     go_wp2_with (fail)
     have BK58:=Ak (blk_below GE7.out hb8)
     have BK1d:=Ak (blk_drew BK8.out)
     have BK5d:=Ak (blk_drew BK58.out)
     have HBd:=Ak (below_drew1 HB8.out)
     have FBd:=Ak (below_drew1 (below_step F7.out hb8))
     obtain ⟨A3,c3,ev3,hle3,hC3⟩:=Kd.R_reads HO3.out
     obtain ⟨A4,c4,ev4,hle4,hC4⟩:=Kd.R_reads HO4.out
     subst ev3
     subst ev4
     refine start_ (n:=10) (S:=fun w'=>w'.cell? ⟨g1,0,none⟩=some (.int .i64 W)∧w'.cell? ⟨g1,1,none⟩=some (.string P)∧w'.cell? ⟨g1,2,none⟩=some (.string I)∧w'.cell? ⟨g1,3,none⟩=some (.bool false)∧w'.cell? ⟨g5,0,none⟩=some (.int .i64 q1)∧w'.cell? ⟨g5,1,none⟩=some (.int .i64 q2)∧w'.cell? ⟨g5,2,none⟩=some (.int .i64 q3)∧w'.cell? ⟨g5,3,none⟩=some (.slice A3 q4.length c3)∧w'.cell? ⟨g5,4,none⟩=some (.slice A4 q5.length c4)) (ds:=[]) #[false,false,false,false,false,false,false,false,false,false] (by kernel_rfl) rfl rfl ⟨(blk_cell BK1d.out 0).trans rfl,(blk_cell BK1d.out 1).trans rfl,(blk_cell BK1d.out 2).trans rfl,(blk_cell BK1d.out 3).trans rfl,(blk_cell BK5d.out 0).trans rfl,(blk_cell BK5d.out 1).trans rfl,(blk_cell BK5d.out 2).trans rfl,(blk_cell BK5d.out 3).trans rfl,(blk_cell BK5d.out 4).trans rfl⟩ (fun hHeld=>?_);refine with_tabW laws_FnPrWhole.tab6 laws_FnPrWhole.bits6 (fun HT_ HW_=>?_)
     generalize w8.drew=wd at BK1d BK5d HBd FBd hHeld ⊢
     refine zP 0 (some 41) (mA 10 1) ?_
     refine zT 1 (some 42) (mA 10 3) ?_
     refine zT 3 (some 44) (mA 10 11) ?_
     refine zP 5 (some 46) (mA 10 43) ?_
     refine zT 6 (some 47) (mA 10 107) ?_
     refine zO 2 (some 43) (mA 10 111) (fun K hK=>?_)
     have hpe:=prettyB_ev (s:=a0) (t:=t) (W:=W) (P:=P) (I:=I) hW (hbb (by trivial)).1.1 (hbb (by trivial)).2.1 (by omega) (by have:=T.sz_le t hrd;rw [bytesOf_length] at this;omega) hrd hw1 hw2
     obtain ⟨k3,hk3⟩:=hpe.rounds
     have hk3':impl_PrPretty.f k3 a0 W P I false=some (strOfNums (whole t W P I)):=by rw [impl_eq];exact hk3
     refine goes_ Try.func8 (by kernel_rfl) rfl #[.string a0, .agg #[.int .i64 W, .string P, .string I, .bool false]] (by rfl) rfl rfl (by (try simp only [List.map_toArray,List.map_cons,List.map_nil]);first|done|rfl) ?_
     refine (impl_PrPretty.calls k3 a0 W P I false _ _ (by omega) hP hk3').mono ?_
     rintro e9 w9 ⟨rfl,hb9⟩
     refine ⟨_,rfl,?_⟩
     have BK19:=Ak (blk_below BK1d.out hb9)
     have BK59:=Ak (blk_below BK5d.out hb9)
     have HB9:=Ak (below_step HBd.out hb9)
     refine hK.out _ _ ⟨(blk_cell BK19.out 0).trans rfl,(blk_cell BK19.out 1).trans rfl,(blk_cell BK19.out 2).trans rfl,(blk_cell BK19.out 3).trans rfl,(blk_cell BK59.out 0).trans rfl,(blk_cell BK59.out 1).trans rfl,(blk_cell BK59.out 2).trans rfl,(blk_cell BK59.out 3).trans rfl,(blk_cell BK59.out 4).trans rfl⟩ (fun hHeld=>?_)
     clear hK K
     refine norm_ (a':=?_) ?_ ?_
     rotate_left
     ·
      show Act.put _ (some 43) _=_
      simp only [Act.put,List.setIfInBounds_toArray,List.set_cons_zero,List.set_cons_succ,i64_w,i32_w]
      rfl
     refine zO 4 (some 45) (mA 10 127) (fun K hK=>?_)
     refine goes_ Try.func9 (by kernel_rfl) rfl #[.agg #[.int .i64 W, .string P, .string I, .bool false]] (by rfl) rfl rfl (by (try simp only [List.map_toArray,List.map_cons,List.map_nil]);first|done|rfl) ?_
     refine (laws_prLayout.calls W P I false P I W _ rfl).mono ?_
     rintro e10 w10 ⟨rfl,hb10⟩
     refine ⟨_,rfl,?_⟩
     have BK110:=Ak (blk_below BK19.out hb10)
     have BK510:=Ak (blk_below BK59.out hb10)
     have HB10:=Ak (below_step HB9.out hb10)
     refine hK.out _ _ ⟨(blk_cell BK110.out 0).trans rfl,(blk_cell BK110.out 1).trans rfl,(blk_cell BK110.out 2).trans rfl,(blk_cell BK110.out 3).trans rfl,(blk_cell BK510.out 0).trans rfl,(blk_cell BK510.out 1).trans rfl,(blk_cell BK510.out 2).trans rfl,(blk_cell BK510.out 3).trans rfl,(blk_cell BK510.out 4).trans rfl⟩ (fun hHeld=>?_)
     clear hK K
     refine norm_ (a':=?_) ?_ ?_
     rotate_left
     ·
      show Act.put _ (some 45) _=_
      simp only [Act.put,List.setIfInBounds_toArray,List.set_cons_zero,List.set_cons_succ,i64_w,i32_w]
      rfl
     have hle:=laid_ev (s:=a0) (t:=t) (p:=⟨q1,q2,q3,q4,q5⟩) (W:=W) (P:=P) (I:=I) ⟨by omega,by omega⟩ (hbb (by trivial)).1.1 (hbb (by trivial)).2.1 (by have:=T.sz_le t hrd;rw [bytesOf_length] at this;omega) hrep
     obtain ⟨k4,hk4⟩:=hle.rounds
     refine zO 7 (some 48) (mA 10 255) (fun K hK=>?_)
     refine goes_ Try.func10 (by kernel_rfl) rfl #[.agg #[.string P, .string I, .int .i64 W], .string a0, .agg #[.int .i64 q1, .int .i64 q2, .int .i64 q3, .slice A3 q4.length c3, .slice A4 q5.length c4]] (by rfl) rfl rfl (by (try simp only [List.map_toArray,List.map_cons,List.map_nil]);first|done|rfl) ?_
     have FB10:=below_step (below_step FBd.out hb9) hb10
     refine (spec_Layout_Laid.calls k4 P I W a0 q1 q2 q3 A3 c3 q4 A4 c4 q5 _ _ (Kd.C_below hC3 FB10) hle3 (Kd.C_below hC4 FB10) hle4 hk4).mono ?_
     rintro e11 w11 ⟨rfl,hb11⟩
     refine ⟨_,rfl,?_⟩
     have BK111:=Ak (blk_below BK110.out hb11)
     have BK511:=Ak (blk_below BK510.out hb11)
     have HB11:=Ak (below_step HB10.out hb11)
     refine hK.out _ _ ⟨(blk_cell BK111.out 0).trans rfl,(blk_cell BK111.out 1).trans rfl,(blk_cell BK111.out 2).trans rfl,(blk_cell BK111.out 3).trans rfl,(blk_cell BK511.out 0).trans rfl,(blk_cell BK511.out 1).trans rfl,(blk_cell BK511.out 2).trans rfl,(blk_cell BK511.out 3).trans rfl,(blk_cell BK511.out 4).trans rfl⟩ (fun hHeld=>?_)
     clear hK K
     refine norm_ (a':=?_) ?_ ?_
     rotate_left
     ·
      show Act.put _ (some 48) _=_
      simp only [Act.put,List.setIfInBounds_toArray,List.set_cons_zero,List.set_cons_succ,i64_w,i32_w]
      rfl
     refine zP 8 (some 49) (mA 10 511) ?_
     refine zP 9 (some 4) (mA 10 1023) ?_
     refine done_ (done_of HT_.out (by kernel_rfl)) ?_
     try go_wp2
     go_ret
     exact ⟨by first|rfl|(simp;done),HB11.out⟩
end Go.Proofs.Ytbkgoccnegjdhaa.Q

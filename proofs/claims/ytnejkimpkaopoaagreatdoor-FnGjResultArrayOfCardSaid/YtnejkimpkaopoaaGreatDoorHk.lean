/- gjson.Result.Array (39) and impl.GjResultArray (8), of an array's text. -/
import Derived.Test.YtnejkimpkaopoaaGreatDoorHi
import Derived.Test.YtnejkimpkaopoaaGreatDoorHc
import Derived.Test.YtnejkimpkaopoaaGreatDoorQ15
section
namespace Go.Proofs.YtnejkimpkaopoaaGreatDoor.Q
open RowKit YtnejkimpkaopoaaGreatDoorW.PrintWords YtnejkimpkaopoaaGreatDoorW.PrintLast YtnejkimpkaopoaaGreatDoorW.PrintMore
set_option maxHeartbeats 8000000
set_option maxRecDepth 100000
attribute [local go_sem] max2_int min2_int max_two min_two max_three min_three max_four min_four
set_option linter.unusedVariables false
set_option linter.unusedSimpArgs false
theorem RG.box {w0 W w1 w8:World} {b g:Nat} {v:Value} {xs:List GRes} {cs:Array Value} {t:TypeId} (h:RG w0 W b v xs) (hg:g=W.heap.size) (hB:Below W.heap.size W w1) (hp:PutBox w1 w8 g cs t):RG w0 w8 b v xs :=
  Kd.R_mono (Kd.R_move (Kd.R_bound h) (fun k hk=>(hp.far k (by have:=hk.2.2.1;omega)).trans (hB.block k hk.2.2.1))) (fun k hk=>hk.1)
theorem RG.up {w0 w1 W:World} {v:Value} {xs:List GRes} (h:RG w1 W w1.heap.size v xs) (hle:w0.heap.size≤w1.heap.size):RG w0 W w0.heap.size v xs :=
  Kd.R_mono (Kd.R_lower h hle) (fun k hk=>Nat.le_trans hle hk)
def ArP (w:World) (l:List (Int × ByteArray × ByteArray)) (e:Ending) (w':World):Prop := ∃ v xs,e = .returned v∧RG w w' w.heap.size v xs∧xs.map GRes.core=l∧Below w.heap.size w w'
theorem gjson_Array.calls (s str:ByteArray) (num:Nat) (l:List (Int × ByteArray × ByteArray)) (h0:bt s 0=91) (h1:0<s.size) (hE:Els s 1 l) (hs:s.size≤100000) (w:World) (hP:PF w.heap.size w) (hPE:PE w.heap.size w) :
 Calls Tryz.prog 39 #[.agg (GRes.cells ⟨5,s,str,num,0⟩)] w fun e w'=>ArP w l e w':=by
 unfold GRes.cells
 dsimp only
 have hu62:=Tryz.underlying62
 have hu115:=Tryz.underlying115
 have HC:=Ak (fun W h2 h3=>gjson_arrayOrMap.calls 5 s str num l h0 h1 hE hs W h2 h3)
 have HI:=Ak (fun W=>gjson_IsArray.calls s str num 0 h1 h0 W)
 have HP:=Ak hP
 have HPE:=Ak hPE
 clear hP hPE hE h0
 go_enter Tryz.func39,Tryz.ntmps39
 have HB0:=Ak (Below.refl w.heap.size w)
 go_wp2_with (first
  | ((with_reducible refine gate_dst (N:=1) rfl ?_);refine box_event ?hg (N:=1) ?hd (cs := #[.int .i64 5, .string s, .string str, .float .f64 num, .int .i64 0, .slice none 0 0]) (t:=62) ?hr ?_;(case hd=>rfl);(case hg=>rfl);(case hr=>first|(go_simp;done)|(go_simp;rfl));intro g1 hg1 w1 hb1 hB1;have HB1:=Ak (below_step HB0.out hB1);have hz0:=(blk_cell hb1 0).trans rfl;have hz1:=(blk_cell hb1 1).trans rfl;have hz2:=(blk_cell hb1 2).trans rfl;have hz3:=(blk_cell hb1 3).trans rfl;have hz4:=(blk_cell hb1 4).trans rfl;have hz5:=(blk_cell hb1 5).trans rfl;have BK1:=Ak hb1;clear hg1 hb1 hB1 HB0)
  | (go_at_call 76;(refine (HI.out _).mono ?_);rintro e w2 ⟨rfl,hb2⟩;have HB2:=Ak (below_step HB1.out hb2);have BK2:=Ak (blk_below BK1.out hb2);clear hz0 hz1 hz2 hz3 hz4 hz5;have hz0:=(blk_cell BK2.out 0).trans rfl;have hz1:=(blk_cell BK2.out 1).trans rfl;have hz2:=(blk_cell BK2.out 2).trans rfl;have hz3:=(blk_cell BK2.out 3).trans rfl;have hz4:=(blk_cell BK2.out 4).trans rfl;have hz5:=(blk_cell BK2.out 5).trans rfl;clear hb2 HB1 BK1)
  | (go_at_call 77;(refine (HC.out _ (HP.out.up HB2.out.size HB2.out) (HPE.out.up HB2.out.size HB2.out)).mono ?_);rintro e w3 ⟨v,xs,he,hR,hX,hb3⟩;obtain rfl:=he;have HR3:=Ak (RG.up (w0:=w) hR HB2.out.size);have HX:=Ak hX;have HB3:=Ak (below_step HB2.out hb3);clear hR hX hb3 HB2 BK2 hz0 hz1 hz2 hz3 hz4 hz5)
  | ((with_reducible refine gate_dst (N:=3) rfl ?_);refine box_event ?hg (N:=3) ?hd (cs := #[.slice none 0 0, .slice none 0 0, .map none, .map none, .int .u8 0]) (t:=115) ?hr ?_;(case hd=>rfl);(case hg=>rfl);(case hr=>first|(go_simp;done)|(go_simp;rfl));intro g4 hg4 w4 hb4 hB4;have G4:=Ak hg4;have B4:=Ak hB4;have HB4:=Ak (below_step HB3.out hB4);have BK4:=Ak hb4;have GE4:=Ak (by rw [hg4];exact HB3.out.size:w.heap.size≤g4);clear hg4 hb4 hB4)
  | ((with_reducible refine gate_store (t:=115) (p:=3) rfl ?_);refine box_put (g:=g4) (cs := #[.slice none 0 0, .slice none 0 0, .map none, .map none, .int .u8 0]) (cs' := #[v, .slice none 0 0, .map none, .map none, .int .u8 91]) rfl rfl rfl rfl rfl rfl BK4.out rfl (by kernel_rfl) ?h1 ?_;(case h1=>intro q hq;simp only [List.mem_cons,List.not_mem_nil,or_false] at hq;rcases hq with rfl|rfl|rfl|rfl|rfl;exact (RG.one HR3.out).2;rfl;rfl;rfl;rfl);intro w5 pb5;have HR5:=Ak (HR3.out.box G4.out B4.out pb5);have HB5:=Ak (pb5.below HB4.out GE4.out);have hz0:=(blk_cell pb5.blk 0).trans rfl;clear pb5 HR3 HB3 HB4 BK4 GE4 G4 B4))
 go_ret
 exact ⟨_,_,rfl,HR5.out,HX.out,HB5.out⟩
def GraP (w:World) (l:List (Int × ByteArray × ByteArray)) (e:Ending) (w':World):Prop := ∃ v ys,e = .returned v∧RI w w' w.heap.size v ys∧ys.map (fun r=>(r.kd,r.raw,r.str))=l∧(∀ r ∈ ys,r.ex=true)∧Below w.heap.size w w'
theorem Els.raw {s:ByteArray} {i:Nat} {l:List (Int × ByteArray × ByteArray)} (h:Els s i l) : ∀ x ∈ l,0<x.2.1.size:=by
 induction h with
 | stop _ _=>intro x hx;cases hx
 | blank _ _ _ ih=>exact ih
 | comma _ _ _ ih=>exact ih
 | elem _ h0 _ hz _ ih =>
  intro x hx
  rcases List.mem_cons.1 hx with rfl|hx
  ·
   omega
  exact ih x hx
theorem Els.length {s:ByteArray} {i:Nat} {l:List (Int × ByteArray × ByteArray)} (h:Els s i l):l.length+i≤s.size:=by
 induction h with
 | stop h _=>simp;omega
 | blank _ _ _ ih=>omega
 | comma _ _ _ ih=>omega
 | elem _ h0 h1 _ _ ih=>simp only [List.length_cons];omega
theorem impl_GjResultArray.calls (s:ByteArray) (l:List (Int × ByteArray × ByteArray)) (h0:bt s 0=91) (h1:0<s.size) (hE:Els s 1 l) (hs:s.size≤100000) (w:World) (hP:PF w.heap.size w) (hPE:PE w.heap.size w) :
 Calls Tryz.prog 8 #[.agg #[.int .i64 5, .string s, .string ByteArray.empty, .float .f64 0, .bool true]] w fun e w'=>GraP w l e w':=by
 have hu32:=Tryz.underlying32
 have HA:=Ak (fun W h2 h3=>gjson_Array.calls s ByteArray.empty 0 l h0 h1 hE hs W h2 h3)
 have HO:=Ak (fun W=>impl_gjOf.calls ⟨5,s,ByteArray.empty,0,true⟩ W)
 have HE:=Ak hE
 have HP:=Ak hP
 have HPE:=Ak hPE
 clear hP hPE hE h0
 go_enter Tryz.func8,Tryz.ntmps8
 have HB0:=Ak (Below.refl w.heap.size w)
 go_wp2_with (first
  | ((with_reducible refine gate_dst (N:=1) rfl ?_);refine box_event ?hg (N:=1) ?hd (cs := #[.int .i64 5, .string s, .string ByteArray.empty, .float .f64 0, .bool true]) (t:=32) ?hr ?_;(case hd=>rfl);(case hg=>rfl);(case hr=>first|(go_simp;done)|(go_simp;rfl));intro g1 hg1 w1 hb1 hB1;have HB1:=Ak (below_step HB0.out hB1);have hz0:=(blk_cell hb1 0).trans rfl;have hz1:=(blk_cell hb1 1).trans rfl;have hz2:=(blk_cell hb1 2).trans rfl;have hz3:=(blk_cell hb1 3).trans rfl;have hz4:=(blk_cell hb1 4).trans rfl;clear hg1 hb1 hB1 HB0)
  | (go_at_call 38;(refine (HO.out _).mono ?_);rintro e w2 ⟨he,hb2⟩;obtain rfl:e = .returned (.agg #[.int .i64 5, .string s, .string ByteArray.empty, .float .f64 0, .int .i64 0, .slice none 0 0]):=he;have HB2:=Ak (below_step HB1.out hb2);clear hb2 HB1 hz0 hz1 hz2 hz3 hz4)
  | (go_at_call 39;(refine (HA.out _ (HP.out.up HB2.out.size HB2.out) (HPE.out.up HB2.out.size HB2.out)).mono ?_);rintro e w3 ⟨v,xs,rfl,hR,hX,hb3⟩;obtain ⟨A,c,hv,hlc,hC⟩:=Kd.R_reads hR;obtain rfl:=hv;have HB3:=Ak (below_step HB2.out hb3);have HC:=Ak hC;have HL:=Ak hlc;have HX:=Ak hX;clear hR hX hb3 HB2 hC hlc)
  | (go_at_call 37;(refine (impl_gjAll.calls xs A c (fun x hx=>Or.inr (by have h5:=HE.out.raw x.core (HX.out ▸ List.mem_map_of_mem hx);exact h5)) (by have h5:=HE.out.length;rw [← HX.out,List.length_map] at h5;omega) _ HC.out HL.out).mono ?_);rintro e w4 ⟨v4,rfl,hR4,hb4⟩;have HB4:=Ak (below_step HB3.out hb4);have HR4:=Ak (Kd.R_mono (Kd.R_lower hR4 HB3.out.size) (fun k hk=>Nat.le_trans HB3.out.size hk):RI w w4 w.heap.size v4 (xs.map GRes.imp));clear hR4 hb4 HB3))
 go_ret
 refine ⟨_,_,rfl,HR4.out,?_,?_,HB4.out⟩
 ·
  rw [List.map_map, ← HX.out];rfl
 intro r hr
 obtain ⟨x,_,rfl⟩:=List.mem_map.1 hr
 rfl
end Go.Proofs.YtnejkimpkaopoaaGreatDoor.Q
end
section
/- laws.gjIs (9), of a Result that is the value. -/
namespace Go.Proofs.YtnejkimpkaopoaaGreatDoor.Q
open RowKit YtnejkimpkaopoaaGreatDoorW.PrintWords YtnejkimpkaopoaaGreatDoorW.PrintLast YtnejkimpkaopoaaGreatDoorW.PrintMore
attribute [local go_sem] max2_int min2_int max_two min_two max_three min_three max_four min_four
set_option linter.unusedVariables false
set_option linter.unusedSimpArgs false
noncomputable def giT:Bool × List (List Nat × List Nat):=rtab .any (opsOf Tryz.f9 2)
def giB:List Nat:=[0,1,3,7,15,31,63,127,255,511,255,1279,3327,8191,16383,32767,65535,65535,262143,524287,1048575]
theorem gitab:rtab .any (opsOf Tryz.f9 2)=giT:=rfl
theorem gibits:waitsOk giT.2 giB=true:=by kernel_rfl
set_option maxHeartbeats 8000000 in
set_option maxRecDepth 100000 in
theorem laws_gjIs.calls (kd:Int) (raw str:ByteArray) (num:Nat) (f0:Int) (f1:ByteArray) (f2:List ByteArray) (f3:List S25) (A2:Option Addr) (c2:Nat) (A3:Option Addr) (c3:Nat) (kr ks:Nat) (w:World)
 (h2:Kd.C Kd.string w A2 f2.length f2) (l2:f2.length≤c2) (h3:Kd.C k25 w A3 f3.length f3) (l3:f3.length≤c3)
 (hr:readF kr raw=some (⟨f0,f1,f2,f3⟩,true)) (hk:laws_gjKind.f f0=some kd) (hs:sE.f ks f0 f1 f2 f3 f0 f1 f2 f3=some true) (ht:f0=4→str=f1) :
 Calls Tryz.prog 9 #[.agg #[.int .i64 kd, .string raw, .string str, .float .f64 num, .bool true], .agg #[.int .i64 f0, .string f1, .slice A2 f2.length c2, .slice A3 f3.length c3]] w fun e w'=>BoP w true e w':=by
 have hu25:=Tryz.underlying25
 have hu32:=Tryz.underlying32
 have H33:=Ak (fun W=>spec_Read.calls kr raw ⟨f0,f1,f2,f3⟩ true W hr)
 have H40:=Ak (fun W=>laws_gjKind.calls f0 kd W hk)
 have H2:=Ak h2
 have H3:=Ak h3
 have HS:=Ak hs
 clear h2 h3 hr hk hs
 go_enter Tryz.func9,Tryz.ntmps9
 have HB0:=Ak (Below.refl w.heap.size w)
 go_upto_region 2 with (first
  | ((with_reducible refine gate_dst (N:=2) rfl ?_);refine box_event ?hg (N:=2) ?hd (cs := #[.int .i64 kd, .string raw, .string str, .float .f64 num, .bool true]) (t:=32) ?hr ?_;(case hd=>rfl);(case hg=>rfl);(case hr=>first|(go_simp;done)|(go_simp;rfl));intro g1 hg1 w1 hb1 hB1;have HB1:=Ak (below_step HB0.out hB1);have BK1:=Ak hb1;clear hg1 hb1 hB1 HB0)
  | ((with_reducible refine gate_dst (N:=3) rfl ?_);refine box_event ?hg (N:=3) ?hd (cs := #[.int .i64 f0, .string f1, .slice A2 f2.length c2, .slice A3 f3.length c3]) (t:=25) ?hr ?_;(case hd=>rfl);(case hg=>rfl);(case hr=>first|(go_simp;done)|(go_simp;rfl));intro g2 hg2 w2 hb2 hB2;have HB2:=Ak (below_step HB1.out hB2);have BK12:=Ak (blk_below BK1.out hB2);have BK2:=Ak hb2;have hz1:=(blk_cell BK12.out 1).trans rfl;clear hg2 hb2 hB2 HB1 BK1)
  | (go_at_call 33;(refine (H33.out _).mono ?_);rintro e w3 ⟨v,rfl,⟨v5,v6,rfl,ho5,ho6⟩,hb⟩;have HB3:=Ak (below_step HB2.out hb);have BK13:=Ak (blk_below BK12.out hb);have BK23:=Ak (blk_below BK2.out hb);have HO5:=Ak ho5;have HO6:=Ak ho6;clear hb ho5 ho6 hz1 HB2 BK12 BK2)
  | ((with_reducible refine gate_dst (N:=5) rfl ?_);refine box_event ?hg (N:=5) ?hd (cs := #[.int .i64 0, .string ByteArray.empty, .slice none 0 0, .slice none 0 0]) (t:=25) ?hr ?_;(case hd=>rfl);(case hg=>rfl);(case hr=>first|(go_simp;done)|(go_simp;rfl));intro g4 hg4 w4 hb4 hB4;have G4:=Ak hg4;have B4:=Ak hB4;have HB4:=Ak (below_step HB3.out hB4);have BK14:=Ak (blk_below BK13.out hB4);have BK24:=Ak (blk_below BK23.out hB4);have BK4:=Ak hb4;clear hg4 hb4 hB4)
  | ((with_reducible refine gate_store (t:=25) (p:=5) rfl ?_);refine box_put (g:=g4) (cs := #[.int .i64 0, .string ByteArray.empty, .slice none 0 0, .slice none 0 0]) (cs' := #[.int .i64 f0, .string f1,v5,v6]) rfl rfl rfl rfl rfl rfl BK4.out rfl (by kernel_rfl) ?h1 ?_;(case h1=>intro q hq;simp only [List.mem_cons,List.not_mem_nil,or_false] at hq;rcases hq with rfl|rfl|rfl|rfl;exact rfl;exact rfl;exact (Kd.R_val HO5.out).2;exact (Kd.R_val HO6.out).2);intro w5 pb5;have PB5:=Ak pb5;clear pb5))
 have SP3:=Ak (fun k (h:k<w3.heap.size)=>(PB5.out.far k (by have:=G4.out;omega)).trans (B4.out.block k h))
 have C5:=Ak (Kd.R_reads (Kd.R_step HO5.out (fun k _ hk=>SP3.out k hk)))
 have C6:=Ak (Kd.R_reads (Kd.R_step HO6.out (fun k _ hk=>SP3.out k hk)))
 obtain ⟨A5,c5,rfl,l5,hC5⟩:=C5.out
 obtain ⟨A6,c6,rfl,l6,hC6⟩:=C6.out
 have HC5:=Ak hC5
 have HC6:=Ak hC6
 have HB5:=Ak (PB5.out.below HB4.out (by have:=HB3.out.size;rw [G4.out];exact this))
 have BK15:=Ak ((PB5.out.far g1 (by have:=blk_lt BK13.out;have:=G4.out;omega)).trans BK14.out)
 have BK25:=Ak ((PB5.out.far g2 (by have:=blk_lt BK23.out;have:=G4.out;omega)).trans BK24.out)
 have BK5:=Ak PB5.out.blk
 clear C5 C6 hC5 hC6 HO5 HO6 SP3 B4 HB4 HB3 BK13 BK14 BK23 BK24 BK4 PB5 H33
 have y10:=(blk_cell BK15.out 0).trans rfl
 have y12:=(blk_cell BK15.out 2).trans rfl
 have y14:=(blk_cell BK15.out 4).trans rfl
 have y20:=(blk_cell BK25.out 0).trans rfl
 have y21:=(blk_cell BK25.out 1).trans rfl
 have y22:=(blk_cell BK25.out 2).trans rfl
 have y23:=(blk_cell BK25.out 3).trans rfl
 have y50:=(blk_cell BK5.out 0).trans rfl
 have y51:=(blk_cell BK5.out 1).trans rfl
 have y52:=(blk_cell BK5.out 2).trans rfl
 have y53:=(blk_cell BK5.out 3).trans rfl
 --REGION
 clear y10 y12 y14 y20 y21 y22 y23 y50 y51 y52 y53
 have BK15d:=Ak (blk_drew BK15.out)
 have BK25d:=Ak (blk_drew BK25.out)
 have BK5d:=Ak (blk_drew BK5.out)
 have H2:=Ak (Kd.C_drew (Kd.C_below H2.out HB5.out))
 have H3:=Ak (Kd.C_drew (Kd.C_below H3.out HB5.out))
 have HC5:=Ak (Kd.C_drew HC5.out)
 have HC6:=Ak (Kd.C_drew HC6.out)
 have HB5:=Ak (below_drew1 HB5.out)
 refine start_ (n:=21) (S:=fun w'=>w'.cell? ⟨g1,0,none⟩=some (.int .i64 kd)∧w'.cell? ⟨g1,2,none⟩=some (.string str)∧w'.cell? ⟨g1,4,none⟩=some (.bool true)∧w'.cell? ⟨g2,0,none⟩=some (.int .i64 f0)∧w'.cell? ⟨g2,1,none⟩=some (.string f1)∧w'.cell? ⟨g2,2,none⟩=some (.slice A2 f2.length c2)∧w'.cell? ⟨g2,3,none⟩=some (.slice A3 f3.length c3)∧w'.cell? ⟨g4,0,none⟩=some (.int .i64 f0)∧w'.cell? ⟨g4,1,none⟩=some (.string f1)∧w'.cell? ⟨g4,2,none⟩=some (.slice A5 f2.length c5)∧w'.cell? ⟨g4,3,none⟩=some (.slice A6 f3.length c6)) (ds:=[]) #[false,false,false,false,false,false,false,false,false,false,false,false,false,false,false,false,false,false,false,false,false] (by kernel_rfl) rfl rfl ⟨(blk_cell BK15d.out 0).trans rfl,(blk_cell BK15d.out 2).trans rfl,(blk_cell BK15d.out 4).trans rfl,(blk_cell BK25d.out 0).trans rfl,(blk_cell BK25d.out 1).trans rfl,(blk_cell BK25d.out 2).trans rfl,(blk_cell BK25d.out 3).trans rfl,(blk_cell BK5d.out 0).trans rfl,(blk_cell BK5d.out 1).trans rfl,(blk_cell BK5d.out 2).trans rfl,(blk_cell BK5d.out 3).trans rfl⟩ (fun hHeld=>?_);refine with_tabW gitab gibits (fun HT_ HW_=>?_)
 clear BK15 BK25 BK5
 generalize World.drew _=wd at HB5 BK15d BK25d BK5d H2 H3 HC5 HC6 hHeld ⊢
 refine zP 0 (some 13) (mA 21 1) ?_
 refine zP 1 (some 14) (mA 21 3) ?_
 refine zP 2 (some 15) (mA 21 7) ?_
 refine zP 3 (some 16) (mA 21 15) ?_
 refine zT 4 (some 17) (mA 21 31) ?_
 refine zP 5 (some 18) (mA 21 63) ?_
 refine zP 6 (some 19) (mA 21 127) ?_
 refine zP 7 (some 20) (mA 21 255) ?_
 refine zP 8 (some 21) (mA 21 511) ?_
 refine zP 10 (some 23) (mA 21 1535) ?_
 refine zT 9 (some 22) (mA 21 2047) ?_
 refine zT 11 (some 24) (mA 21 4095) ?_
 refine zO 12 (some 25) (mA 21 8191) (fun K hK=>?_)
 refine goes_ Tryz.func40 (by kernel_rfl) rfl #[.int .i64 f0] (by rfl) rfl rfl (by (try simp only [List.map_toArray,List.map_cons,List.map_nil]);first|done|rfl) ?_
 refine (H40.out _).mono ?_
 rintro e w6 ⟨rfl,hd6⟩
 refine ⟨_,rfl,?_⟩
 have hbl:=hd6.below
 have HB6:=Ak (below_step HB5.out hbl)
 have BK15d:=Ak (blk_below BK15d.out hbl)
 have BK25d:=Ak (blk_below BK25d.out hbl)
 have BK5d:=Ak (blk_below BK5d.out hbl)
 have H2:=Ak (Kd.C_below H2.out hbl)
 have H3:=Ak (Kd.C_below H3.out hbl)
 have HC5:=Ak (Kd.C_below HC5.out hbl)
 have HC6:=Ak (Kd.C_below HC6.out hbl)
 refine hK.out _ _ ⟨(blk_cell BK15d.out 0).trans rfl,(blk_cell BK15d.out 2).trans rfl,(blk_cell BK15d.out 4).trans rfl,(blk_cell BK25d.out 0).trans rfl,(blk_cell BK25d.out 1).trans rfl,(blk_cell BK25d.out 2).trans rfl,(blk_cell BK25d.out 3).trans rfl,(blk_cell BK5d.out 0).trans rfl,(blk_cell BK5d.out 1).trans rfl,(blk_cell BK5d.out 2).trans rfl,(blk_cell BK5d.out 3).trans rfl⟩ (fun hHeld=>?_)
 clear hK K hbl HB5
 have HB5:=HB6
 clear HB6
 refine norm_ (a':=?_) ?_ ?_
 rotate_left
 ·
  show Act.put _ (some 25) _=_
  simp only [Act.put,List.setIfInBounds_toArray,List.set_cons_zero,List.set_cons_succ,i64_w,i32_w]
  rfl
 refine zP 13 (some 26) (mA 21 16383) ?_
 refine zP 14 (some 27) (mA 21 32767) ?_
 refine zP 15 (some 28) (mA 21 65535) ?_
 refine zT 16 (some 29) (mA 21 131071) ?_
 refine zT 17 (some 30) (mA 21 262143) ?_
 refine zO 18 (some 31) (mA 21 524287) (fun K hK=>?_)
 refine goes_ Tryz.func41 (by kernel_rfl) rfl #[.agg #[.int .i64 f0, .string f1, .slice A5 f2.length c5, .slice A6 f3.length c6], .agg #[.int .i64 f0, .string f1, .slice A2 f2.length c2, .slice A3 f3.length c3]] (by rfl) rfl rfl (by (try simp only [List.map_toArray,List.map_cons,List.map_nil]);first|done|rfl) ?_
 refine (sE.calls ks f0 f1 A5 c5 f2 A6 c6 f3 f0 f1 A2 c2 f2 A3 c3 f3 true _ HC5.out l5 HC6.out l6 H2.out l2 H3.out l3 HS.out).mono ?_
 rintro e w7 ⟨rfl,hb7⟩
 refine ⟨_,rfl,?_⟩
 have hbl:=hb7
 have HB7:=Ak (below_step HB5.out hbl)
 have BK15d:=Ak (blk_below BK15d.out hbl)
 have BK25d:=Ak (blk_below BK25d.out hbl)
 have BK5d:=Ak (blk_below BK5d.out hbl)
 have H2:=Ak (Kd.C_below H2.out hbl)
 have H3:=Ak (Kd.C_below H3.out hbl)
 have HC5:=Ak (Kd.C_below HC5.out hbl)
 have HC6:=Ak (Kd.C_below HC6.out hbl)
 refine hK.out _ _ ⟨(blk_cell BK15d.out 0).trans rfl,(blk_cell BK15d.out 2).trans rfl,(blk_cell BK15d.out 4).trans rfl,(blk_cell BK25d.out 0).trans rfl,(blk_cell BK25d.out 1).trans rfl,(blk_cell BK25d.out 2).trans rfl,(blk_cell BK25d.out 3).trans rfl,(blk_cell BK5d.out 0).trans rfl,(blk_cell BK5d.out 1).trans rfl,(blk_cell BK5d.out 2).trans rfl,(blk_cell BK5d.out 3).trans rfl⟩ (fun hHeld=>?_)
 clear hK K hbl HB5
 have HB5:=HB7
 clear HB7
 refine norm_ (a':=?_) ?_ ?_
 rotate_left
 ·
  show Act.put _ (some 31) _=_
  simp only [Act.put,List.setIfInBounds_toArray,List.set_cons_zero,List.set_cons_succ,i64_w,i32_w]
  rfl
 refine zP 19 (some 32) (mA 21 1048575) ?_
 refine zP 20 (some 33) (mA 21 2097151) ?_
 refine done_ (done_of HT_.out (by kernel_rfl)) ?_
 have y12:=(blk_cell BK15d.out 2).trans rfl
 have y20:=(blk_cell BK25d.out 0).trans rfl
 have y21:=(blk_cell BK25d.out 1).trans rfl
 clear HT_ HW_ hHeld H2 H3 HC5 HC6
 by_cases c4:f0=4
 ·
  subst c4
  obtain rfl:=ht rfl
  go_wp2
  go_ret
  exact ⟨rfl,HB5.out⟩
 have c4':(f0 != 4)=true:=by simpa using c4
 go_wp2
 go_ret
 exact ⟨rfl,HB5.out⟩
end Go.Proofs.YtnejkimpkaopoaaGreatDoor.Q
end

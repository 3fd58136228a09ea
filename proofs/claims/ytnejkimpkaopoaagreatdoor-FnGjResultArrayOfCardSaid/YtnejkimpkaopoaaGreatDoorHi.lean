/- gjson's arrayOrMap (77), of an array's text. Printed by hi.py. -/
import Derived.Test.YtnejkimpkaopoaaGreatDoorHh
namespace Go.Proofs.YtnejkimpkaopoaaGreatDoor.Q
open RowKit YtnejkimpkaopoaaGreatDoorW.PrintWords YtnejkimpkaopoaaGreatDoorW.PrintLast YtnejkimpkaopoaaGreatDoorW.PrintMore
attribute [local go_sem] max2_int min2_int max_two min_two max_three min_three max_four min_four
set_option linter.unusedVariables false
set_option linter.unusedSimpArgs false
def AMP (w:World) (l:List (Int × ByteArray × ByteArray)) (e:Ending) (w':World):Prop := ∃ v xs,e = .returned (.agg #[v, .slice none 0 0, .map none, .map none, .int .u8 91])∧RG w w' w.heap.size v xs∧xs.map GRes.core=l∧Below w.heap.size w w'
set_option maxHeartbeats 8000000 in
set_option maxRecDepth 100000 in
theorem gjson_arrayOrMap.calls (ty:Int) (s str:ByteArray) (num:Nat) (l:List (Int × ByteArray × ByteArray)) (h0:bt s 0=91) (h1:0<s.size) (hE:Els s 1 l) (hs:s.size≤100000) (w:World) (hP:PF w.heap.size w) (hPE:PE w.heap.size w) :
 Calls Tryz.prog 77 #[.agg (GRes.cells ⟨ty,s,str,num,0⟩), .int .u8 91, .bool false] w fun e w'=>AMP w l e w':=by
 unfold GRes.cells
 dsimp only
 have hu62:=Tryz.underlying62
 have hu115:=Tryz.underlying115
 have hu58:=Tryz.underlying58
 have HP:=Ak hP
 have HPE:=Ak hPE
 have HE:=Ak hE
 have HB0:=Ak (Below.refl w.heap.size w)
 have hz0:((0:Int)<(s.size:Int))=True:=eq_true (by omega)
 have e0:=(bt_nat h1).trans h0
 clear hP hPE hE h0
 go_enter Tryz.func77,Tryz.ntmps77
 go_wp2_with (first
  | ((with_reducible refine gate_dst (N:=3) rfl ?_);refine box_event ?hg (N:=3) ?hd (cs := #[.int .i64 ty, .string s, .string str, .float .f64 num, .int .i64 0, .slice none 0 0]) (t:=62) ?hr ?_;(case hd=>rfl);(case hg=>rfl);(case hr=>first|(go_simp;done)|(go_simp;rfl));intro g3 hg3 w3 hb3 hB3;have HB3:=Ak (below_step HB0.out hB3);have BK3:=Ak hb3;have SZ3:Aside0 (g3<w3.heap.size):=⟨World.block_lt_of_cell? _ _ (blk_cell hb3 0)⟩;have LO3:=Ak (by rw [hg3];exact HB0.out.size:w.heap.size≤g3);clear hg3 hb3 hB3 HB0)
  | ((with_reducible refine gate_dst (N:=6) rfl ?_);refine box_event ?hg (N:=6) ?hd (cs := #[.slice none 0 0, .slice none 0 0, .map none, .map none, .int .u8 0]) (t:=115) ?hr ?_;(case hd=>rfl);(case hg=>rfl);(case hr=>first|(go_simp;done)|(go_simp;rfl));intro g6 hg6 w6 hb6 hB6;have HB6:=Ak (below_step HB3.out hB6);have BK6:=Ak hb6;have SZ6:Aside0 (g6<w6.heap.size):=⟨World.block_lt_of_cell? _ _ (blk_cell hb6 0)⟩;have LO6:=Ak (by rw [hg6];exact Nat.le_refl _:w3.heap.size≤g6);have BK3_6:=Ak (blk_below BK3.out hB6);clear hg6 hb6 hB6 HB3))
 have hq3:w6.cell? ⟨g3,1,none⟩=some (.string s):=(blk_cell BK3_6.out 1).trans rfl
 go_step3
 go_upto_region 6 with (first
  | ((with_reducible refine gate_dst (N:=9) rfl ?_);refine box_event ?hg (N:=9) ?hd (cs := #[.int .i64 0, .string ByteArray.empty, .string ByteArray.empty, .float .f64 0, .int .i64 0, .slice none 0 0]) (t:=62) ?hr ?_;(case hd=>rfl);(case hg=>rfl);(case hr=>first|(go_simp;done)|(go_simp;rfl));intro g9 hg9 w9 hb9 hB9;have HB9:=Ak (below_step HB6.out hB9);have BK9:=Ak hb9;have SZ9:Aside0 (g9<w9.heap.size):=⟨World.block_lt_of_cell? _ _ (blk_cell hb9 0)⟩;have LO9:=Ak (by rw [hg9];exact Nat.le_refl _:w6.heap.size≤g9);have BK3_9:=Ak (blk_below BK3_6.out hB9);have BK6_9:=Ak (blk_below BK6.out hB9);clear hg9 hb9 hB9 HB6)
  | ((with_reducible refine gate_dst (N:=11) rfl ?_);refine box_event ?hg (N:=11) ?hd (cs := #[.int .i64 0, .string ByteArray.empty, .string ByteArray.empty, .float .f64 0, .int .i64 0, .slice none 0 0]) (t:=62) ?hr ?_;(case hd=>rfl);(case hg=>rfl);(case hr=>first|(go_simp;done)|(go_simp;rfl));intro g11 hg11 w11 hb11 hB11;have HB11:=Ak (below_step HB9.out hB11);have BK11:=Ak hb11;have SZ11:Aside0 (g11<w11.heap.size):=⟨World.block_lt_of_cell? _ _ (blk_cell hb11 0)⟩;have LO11:=Ak (by rw [hg11];exact Nat.le_refl _:w9.heap.size≤g11);have BK3_11:=Ak (blk_below BK3_9.out hB11);have BK6_11:=Ak (blk_below BK6_9.out hB11);have BK9_11:=Ak (blk_below BK9.out hB11);clear hg11 hb11 hB11 HB9))
 clear BK3 BK6 BK9 BK3_6 BK3_9 BK6_9 BK11
 have HM:Aside0 (AM w w11 g3 g6 g9 g11 (.int .i64 0) (.int .u8 0) (.slice none 0 0) (.int .i64 0) (.string ByteArray.empty) (.string ByteArray.empty) (.float .f64 0) (.int .i64 0)):=⟨⟨⟨_,_,_,_,BK3_11.out⟩,BK6_11.out,BK9_11.out,⟨LO3.out,by have:=SZ3.out;have:=LO6.out;omega,by have:=SZ6.out;have:=LO9.out;omega,by have:=SZ9.out;have:=LO11.out;omega⟩,SZ11.out,HB11.out⟩⟩
 have OR:Aside0 (w.heap.size≤g3∧g3<g6∧g6<g9∧g9<g11∧g11+1≤w11.heap.size):=⟨⟨HM.out.lo.1,HM.out.lo.2.1,HM.out.lo.2.2.1,HM.out.lo.2.2.2,HM.out.hi⟩⟩
 clear BK3_11 BK6_11 BK9_11 LO3 LO6 LO9 LO11 SZ3 SZ6 SZ9 SZ11 HB11 hq3
 go_wp2
 go_loopg [8] 1 (fun kq v8 wl=>v8 = .int .i64 0∧w11=wl)
 case atStart=>exact ⟨rfl,rfl⟩
 case round =>
 obtain ⟨rfl,rfl⟩:=hrel
 go_upto_region 25 with (first
  | ((with_reducible refine gate_store (t:=5) (p:=66) rfl ?_);refine cell_put (t:=5) (p:=66) (g:=g6) (j:=4) (u := .int .u8 91) (cs := #[.slice none 0 0, .slice none 0 0, .map none, .map none, .int .u8 0]) (cs' := #[.slice none 0 0, .slice none 0 0, .map none, .map none, .int .u8 91]) (tb:=115) rfl rfl rfl rfl rfl ?hu HM.out.b6 (Nat.le_of_ble_eq_true rfl) rfl (by kernel_rfl) ?h1 ?_;(case hu=>rfl);(case h1=>rfl);intro w1 pb1;have HM1:=Ak (HM.out.put6 pb1);(try clear z0 z1 z2 z3 z4 z5 z6 z7 z8 z9);obtain ⟨z0,z1,z2,z3,z4,z5,z6,z7,z8,z9⟩:=HM1.out.cells;clear pb1 HM))
 obtain ⟨v2,w2,hmk,hR,hB,hgr, -⟩:=Kd.run_make0 (P:=Tryz.prog) (W:=w1) (w0:=w) k62 w.heap.size 62 58 0 Tryz.underlying58 _ 80 info62 rfl (by decide) (by decide) (ok:=fun k=>g11+1≤k) HM1.out.hi (by decide) (by decide) HM1.out.below HM1.out.below.size
 have HM2:=Ak (HM1.out.far hB (fun k hk=>hgr.block k (by have:=HM1.out.hi;omega) (by simp)))
 have HR2:Aside0 (RG w w2 (g11+1) v2 []):=⟨hR⟩
 clear hR hB hgr HM1
 go_wp2_with (first
  | ((with_reducible refine gate_store (t:=58) (p:=79) rfl ?_);refine cell_put (t:=58) (p:=79) (g:=g6) (j:=0) (u:=v2) (cs := #[.slice none 0 0, .slice none 0 0, .map none, .map none, .int .u8 91]) (cs' := #[v2, .slice none 0 0, .map none, .map none, .int .u8 91]) (tb:=115) rfl rfl rfl rfl rfl ?hu HM2.out.b6 (Nat.le_of_ble_eq_true rfl) rfl (by kernel_rfl) ?h1 ?_;(case hu=>exact (RG.one HR2.out).1);(case h1=>exact (RG.one HR2.out).2);intro w3 pb3;have HM3:=Ak (HM2.out.put6 pb3);have HR3:=Ak (HR2.out.put pb3 (by have:=OR.out;omega));(try clear z0 z1 z2 z3 z4 z5 z6 z7 z8 z9);obtain ⟨z0,z1,z2,z3,z4,z5,z6,z7,z8,z9⟩:=HM3.out.cells;clear pb3 HM2 HR2))
 have HX:Aside0 (([]:List GRes).map GRes.core++l=l):=⟨rfl⟩
 clear e0 hz0 hmk z0 z1 z2 z3 z4 z5 z6 z7 z8 z9
 go_loopg [8] (s.size+1) (fun kq v8 wl => ∃ (i:Nat) (xs:List GRes) (ls:List (Int × ByteArray × ByteArray)) (v x0 x1 x2 x3 x4:Value),v8 = .int .i64 (i:Int)∧Aside0 (i≤s.size∧s.size - i<kq∧xs.length≤i)∧Aside0 (Els s i ls)∧Aside0 (xs.map GRes.core++ls=l)∧Aside0 (RG w wl (g11+1) v xs)∧Aside0 (AM w wl g3 g6 g9 g11 (.int .i64 0) (.int .u8 91) v x0 x1 x2 x3 x4))
 case atStart=>exact ⟨1,[],l,_,_,_,_,_,_,rfl,⟨by omega,by omega,by simp⟩,HE,HX,HR3,HM3⟩
 case round =>
 clear HR3 HM3 HX HE
 obtain ⟨i,xs,ls,v,x0,x1,x2,x3,x4,rfl,HA,HI,HX,HR,HM⟩:=hrel
 obtain ⟨a1,a2,a3⟩:=HA.out
 clear HA
 obtain ⟨z0,z1,z2,z3,z4,z5,z6,z7,z8,z9⟩:=HM.out.cells
 cases gk with
 | zero=>omega
 | succ k1 =>
 have hI:=HI.out
 clear HI
 cases hI with
 | stop hi hb =>
  have cI:((i:Int)<(s.size:Int))=True:=eq_true (by omega)
  have e0:=(bt_nat hi).trans hb
  clear hb
  go_wp2
  go_step3
  have hu60:=Tryz.underlying60
  have hcmp:(binOp BinOp.neq 60 (Value.slice none 0 0) (Value.slice none 0 0)).run Tryz.prog wr = .ok (.bool false) wr:=by
   first
    | rfl
    | (simp [binOp,hu60];done)
    | (simp [binOp,hu60];rfl)
  go_wp2
  (try rw [Exit.noGoto_ret])
  refine bodyPost_ret (results_cell_row rfl _ _ g6 115 #[v, .slice none 0 0, .map none, .map none, .int .u8 91] (0,0) _ rfl HM.out.b6 Tryz.underlying115 rfl (by kernel_rfl)) rfl ?_
  exact ⟨v,xs,rfl,Kd.R_mono HR.out (fun k hk=>by have:=OR.out;omega),by have:=HX.out;rw [List.append_nil] at this;exact this,HM.out.below⟩
 | blank hi hb hr =>
  have cI:((i:Int)<(s.size:Int))=True:=eq_true (by omega)
  have e0:=bt_nat hi
  have d0:decide (bt s i≤32)=true:=decide_eq_true hb
  have HE:=Ak hr
  clear hr
  go_wp2
  go_roundg k1
  case measure=>omega
  case rel=>exact ⟨i+1,xs,ls,v,x0,x1,x2,x3,x4,by congr 1,⟨by omega,by omega,by omega⟩,HE,HX,HR,HM⟩
 | comma hi hb hr =>
  have cI:((i:Int)<(s.size:Int))=True:=eq_true (by omega)
  have e0:=(bt_nat hi).trans hb
  have HE:=Ak hr
  clear hr hb
  go_wp2
  go_roundg k1
  case measure=>omega
  case rel=>exact ⟨i+1,xs,ls,v,x0,x1,x2,x3,x4,by congr 1,⟨by omega,by omega,by omega⟩,HE,HX,HR,HM⟩
 | @elem _ n x ls' hel h0n hin hsz hr =>
  have HE:=Ak hr
  clear hr
  have cI:((i:Int)<(s.size:Int))=True:=eq_true (by omega)
  have hi:i<s.size:=by omega
  obtain ⟨b1,b2,b3⟩:=hel.byte hi
  obtain ⟨c,hc⟩ : ∃ c,bt s i=c:=⟨_,rfl⟩
  rw [hc] at b1 b2 b3
  have e0:=(bt_nat hi).trans hc
  have p1:decide (c≤32)=false:=decide_eq_false (by omega)
  have p2:(c == 93)=false:=by simpa using b2
  have p3:(c == 125)=false:=by simpa using b3
  go_upto_block 6 with (fail)
  go_cut [] from 102 to 183 (fun wc => ∃ (ty':Int) (raw st:ByteArray) (f:Nat),x=(ty',raw,st)∧raw.size=n∧Aside0 (RG w wc (g11+1) v xs)∧Aside0 (AM w wc g3 g6 g9 g11 (.int .i64 0) (.int .u8 91) v (.int .i64 ty') (.string raw) (.string st) (.float .f64 f) x4))
  case rest =>
   clear HM HR z0 z1 z2 z3 z4 z5 z6 z7 z8 z9 p1 p2 p3 b1 b2 b3 hc hel hsz
   obtain ⟨ty',raw,st,f,rfl,hraw,HR,HM⟩:=hcut
   obtain ⟨z0,z1,z2,z3,z4,z5,z6,z7,z8,z9⟩:=HM.out.cells
   go_wp2_with (first
    | ((with_reducible refine gate_store (t:=3) (p:=188) rfl ?_);refine cell_put (t:=3) (p:=188) (g:=g9) (j:=4) (u := .int .i64 (i:Int)) (cs := #[.int .i64 ty', .string raw, .string st, .float .f64 f,x4, .slice none 0 0]) (cs' := #[.int .i64 ty', .string raw, .string st, .float .f64 f, .int .i64 (i:Int), .slice none 0 0]) (tb:=62) rfl rfl rfl rfl rfl ?hu HM.out.b9 (Nat.le_of_ble_eq_true rfl) rfl (by kernel_rfl) ?h1 ?_;(case hu=>rfl);(case h1=>rfl);intro w200 pb200;have HM200:=Ak (HM.out.put9 pb200);have HR200:=Ak (HR.out.put pb200 (by have:=OR.out;omega));(try clear z0 z1 z2 z3 z4 z5 z6 z7 z8 z9);obtain ⟨z0,z1,z2,z3,z4,z5,z6,z7,z8,z9⟩:=HM200.out.cells;clear pb200 HM HR)
    | ((with_reducible refine gate_builtin (b := .append) (xs := #[.tmp 245, .tmp 247]) rfl ?_);at_builtin;refine ap62 (w0:=w) (g11+1) rfl (.tmp 245) (.tmp 247) rfl v xs ⟨ty',raw,st,f,(i:Int)⟩ rfl rfl HR200.out HM200.out.below HM200.out.hi (by omega) ?_;intro v201 w201 hR201 hB201 hf201;have HM201:=Ak (HM200.out.far hB201 hf201);have HR201:=Ak hR201;clear z0 z1 z2 z3 z4 z5 z6 z7 z8 z9;obtain ⟨z0,z1,z2,z3,z4,z5,z6,z7,z8,z9⟩:=HM201.out.cells;clear hR201 hB201 hf201 HM200 HR200)
    | ((with_reducible refine gate_store (t:=58) (p:=249) rfl ?_);refine cell_put (t:=58) (p:=249) (g:=g6) (j:=0) (u:=v201) (cs := #[v, .slice none 0 0, .map none, .map none, .int .u8 91]) (cs' := #[v201, .slice none 0 0, .map none, .map none, .int .u8 91]) (tb:=115) rfl rfl rfl rfl rfl ?hu HM201.out.b6 (Nat.le_of_ble_eq_true rfl) rfl (by kernel_rfl) ?h1 ?_;(case hu=>exact (RG.one HR201.out).1);(case h1=>exact (RG.one HR201.out).2);intro w202 pb202;have HM202:=Ak (HM201.out.put6 pb202);have HR202:=Ak (HR201.out.put pb202 (by have:=OR.out;omega));(try clear z0 z1 z2 z3 z4 z5 z6 z7 z8 z9);obtain ⟨z0,z1,z2,z3,z4,z5,z6,z7,z8,z9⟩:=HM202.out.cells;clear pb202 HM201 HR201))
   go_roundg k1
   case measure=>omega
   case rel=>exact ⟨i+n,xs++[⟨ty',raw,st,f,(i:Int)⟩],_,_,_,_,_,_,_,by congr 1;omega,⟨by omega,by omega,by simp;omega⟩,HE,⟨by rw [List.map_append,List.append_assoc];exact HX.out⟩,HR202,HM202⟩
  clear p1 p2 p3 b1 b2 b3
  cases hel with
  | @null k r hb hq =>
   obtain rfl:=hc.symm.trans hb
   have hn:=Ak hq
   clear hb hq hsz
   ·
    skip
    go_wp2_with (first
     | ((with_reducible refine gate_store (t:=59) (p:=143) rfl ?_);refine cell_put (t:=59) (p:=143) (g:=g9) (j:=0) (u := .int .i64 0) (cs := #[x0,x1,x2,x3,x4, .slice none 0 0]) (cs' := #[.int .i64 0,x1,x2,x3,x4, .slice none 0 0]) (tb:=62) rfl rfl rfl rfl rfl ?hu HM.out.b9 (Nat.le_of_ble_eq_true rfl) rfl (by kernel_rfl) ?h1 ?_;(case hu=>rfl);(case h1=>rfl);intro w101 pb101;have HM101:=Ak (HM.out.put9 pb101);have HR101:=Ak (HR.out.put pb101 (by have:=OR.out;omega));(try clear z0 z1 z2 z3 z4 z5 z6 z7 z8 z9);obtain ⟨z0,z1,z2,z3,z4,z5,z6,z7,z8,z9⟩:=HM101.out.cells;clear pb101 HM HR)
     | (go_at_call 94;(refine (gjson_tolit.calls k (s.extract i s.size) r _ hn.out).mono ?_);rintro e w102 ⟨rfl,hd102⟩;have hb102:=hd102.below;clear hd102;have HM102:=Ak (HM101.out.step hb102);have HR102:=Ak (HR101.out.below hb102);clear z0 z1 z2 z3 z4 z5 z6 z7 z8 z9;obtain ⟨z0,z1,z2,z3,z4,z5,z6,z7,z8,z9⟩:=HM102.out.cells;clear hb102 HM101 HR101)
     | ((with_reducible refine gate_store (t:=9) (p:=148) rfl ?_);refine cell_put (t:=9) (p:=148) (g:=g9) (j:=1) (u := .string r) (cs := #[.int .i64 0,x1,x2,x3,x4, .slice none 0 0]) (cs' := #[.int .i64 0, .string r,x2,x3,x4, .slice none 0 0]) (tb:=62) rfl rfl rfl rfl rfl ?hu HM102.out.b9 (Nat.le_of_ble_eq_true rfl) rfl (by kernel_rfl) ?h1 ?_;(case hu=>rfl);(case h1=>rfl);intro w103 pb103;have HM103:=Ak (HM102.out.put9 pb103);have HR103:=Ak (HR102.out.put pb103 (by have:=OR.out;omega));(try clear z0 z1 z2 z3 z4 z5 z6 z7 z8 z9);obtain ⟨z0,z1,z2,z3,z4,z5,z6,z7,z8,z9⟩:=HM103.out.cells;clear pb103 HM102 HR102)
     | ((with_reducible refine gate_store (t:=9) (p:=149) rfl ?_);refine cell_put (t:=9) (p:=149) (g:=g9) (j:=2) (u := .string ByteArray.empty) (cs := #[.int .i64 0, .string r,x2,x3,x4, .slice none 0 0]) (cs' := #[.int .i64 0, .string r, .string ByteArray.empty,x3,x4, .slice none 0 0]) (tb:=62) rfl rfl rfl rfl rfl ?hu HM103.out.b9 (Nat.le_of_ble_eq_true rfl) rfl (by kernel_rfl) ?h1 ?_;(case hu=>rfl);(case h1=>rfl);intro w104 pb104;have HM104:=Ak (HM103.out.put9 pb104);have HR104:=Ak (HR103.out.put pb104 (by have:=OR.out;omega));(try clear z0 z1 z2 z3 z4 z5 z6 z7 z8 z9);obtain ⟨z0,z1,z2,z3,z4,z5,z6,z7,z8,z9⟩:=HM104.out.cells;clear pb104 HM103 HR103)
     | ((with_reducible refine gate_store (t:=30) (p:=150) rfl ?_);refine cell_put (t:=30) (p:=150) (g:=g9) (j:=3) (u := .float .f64 0) (cs := #[.int .i64 0, .string r, .string ByteArray.empty,x3,x4, .slice none 0 0]) (cs' := #[.int .i64 0, .string r, .string ByteArray.empty, .float .f64 0,x4, .slice none 0 0]) (tb:=62) rfl rfl rfl rfl rfl ?hu HM104.out.b9 (Nat.le_of_ble_eq_true rfl) rfl (by kernel_rfl) ?h1 ?_;(case hu=>rfl);(case h1=>rfl);intro w105 pb105;have HM105:=Ak (HM104.out.put9 pb105);have HR105:=Ak (HR104.out.put pb105 (by have:=OR.out;omega));(try clear z0 z1 z2 z3 z4 z5 z6 z7 z8 z9);obtain ⟨z0,z1,z2,z3,z4,z5,z6,z7,z8,z9⟩:=HM105.out.cells;clear pb105 HM104 HR104))
    go_meet
    case rel=>exact ⟨0,r,ByteArray.empty,0,rfl,rfl,HR105,HM105⟩
  | @true_ k r hb hq =>
   obtain rfl:=hc.symm.trans hb
   have hn:=Ak hq
   clear hb hq hsz
   ·
    skip
    go_wp2_with (first
     | ((with_reducible refine gate_store (t:=59) (p:=153) rfl ?_);refine cell_put (t:=59) (p:=153) (g:=g9) (j:=0) (u := .int .i64 4) (cs := #[x0,x1,x2,x3,x4, .slice none 0 0]) (cs' := #[.int .i64 4,x1,x2,x3,x4, .slice none 0 0]) (tb:=62) rfl rfl rfl rfl rfl ?hu HM.out.b9 (Nat.le_of_ble_eq_true rfl) rfl (by kernel_rfl) ?h1 ?_;(case hu=>rfl);(case h1=>rfl);intro w101 pb101;have HM101:=Ak (HM.out.put9 pb101);have HR101:=Ak (HR.out.put pb101 (by have:=OR.out;omega));(try clear z0 z1 z2 z3 z4 z5 z6 z7 z8 z9);obtain ⟨z0,z1,z2,z3,z4,z5,z6,z7,z8,z9⟩:=HM101.out.cells;clear pb101 HM HR)
     | (go_at_call 94;(refine (gjson_tolit.calls k (s.extract i s.size) r _ hn.out).mono ?_);rintro e w102 ⟨rfl,hd102⟩;have hb102:=hd102.below;clear hd102;have HM102:=Ak (HM101.out.step hb102);have HR102:=Ak (HR101.out.below hb102);clear z0 z1 z2 z3 z4 z5 z6 z7 z8 z9;obtain ⟨z0,z1,z2,z3,z4,z5,z6,z7,z8,z9⟩:=HM102.out.cells;clear hb102 HM101 HR101)
     | ((with_reducible refine gate_store (t:=9) (p:=158) rfl ?_);refine cell_put (t:=9) (p:=158) (g:=g9) (j:=1) (u := .string r) (cs := #[.int .i64 4,x1,x2,x3,x4, .slice none 0 0]) (cs' := #[.int .i64 4, .string r,x2,x3,x4, .slice none 0 0]) (tb:=62) rfl rfl rfl rfl rfl ?hu HM102.out.b9 (Nat.le_of_ble_eq_true rfl) rfl (by kernel_rfl) ?h1 ?_;(case hu=>rfl);(case h1=>rfl);intro w103 pb103;have HM103:=Ak (HM102.out.put9 pb103);have HR103:=Ak (HR102.out.put pb103 (by have:=OR.out;omega));(try clear z0 z1 z2 z3 z4 z5 z6 z7 z8 z9);obtain ⟨z0,z1,z2,z3,z4,z5,z6,z7,z8,z9⟩:=HM103.out.cells;clear pb103 HM102 HR102)
     | ((with_reducible refine gate_store (t:=9) (p:=159) rfl ?_);refine cell_put (t:=9) (p:=159) (g:=g9) (j:=2) (u := .string ByteArray.empty) (cs := #[.int .i64 4, .string r,x2,x3,x4, .slice none 0 0]) (cs' := #[.int .i64 4, .string r, .string ByteArray.empty,x3,x4, .slice none 0 0]) (tb:=62) rfl rfl rfl rfl rfl ?hu HM103.out.b9 (Nat.le_of_ble_eq_true rfl) rfl (by kernel_rfl) ?h1 ?_;(case hu=>rfl);(case h1=>rfl);intro w104 pb104;have HM104:=Ak (HM103.out.put9 pb104);have HR104:=Ak (HR103.out.put pb104 (by have:=OR.out;omega));(try clear z0 z1 z2 z3 z4 z5 z6 z7 z8 z9);obtain ⟨z0,z1,z2,z3,z4,z5,z6,z7,z8,z9⟩:=HM104.out.cells;clear pb104 HM103 HR103)
     | ((with_reducible refine gate_store (t:=30) (p:=160) rfl ?_);refine cell_put (t:=30) (p:=160) (g:=g9) (j:=3) (u := .float .f64 0) (cs := #[.int .i64 4, .string r, .string ByteArray.empty,x3,x4, .slice none 0 0]) (cs' := #[.int .i64 4, .string r, .string ByteArray.empty, .float .f64 0,x4, .slice none 0 0]) (tb:=62) rfl rfl rfl rfl rfl ?hu HM104.out.b9 (Nat.le_of_ble_eq_true rfl) rfl (by kernel_rfl) ?h1 ?_;(case hu=>rfl);(case h1=>rfl);intro w105 pb105;have HM105:=Ak (HM104.out.put9 pb105);have HR105:=Ak (HR104.out.put pb105 (by have:=OR.out;omega));(try clear z0 z1 z2 z3 z4 z5 z6 z7 z8 z9);obtain ⟨z0,z1,z2,z3,z4,z5,z6,z7,z8,z9⟩:=HM105.out.cells;clear pb105 HM104 HR104))
    go_meet
    case rel=>exact ⟨4,r,ByteArray.empty,0,rfl,rfl,HR105,HM105⟩
  | @false_ k r hb hq =>
   obtain rfl:=hc.symm.trans hb
   have hn:=Ak hq
   clear hb hq hsz
   ·
    skip
    go_wp2_with (first
     | ((with_reducible refine gate_store (t:=59) (p:=163) rfl ?_);refine cell_put (t:=59) (p:=163) (g:=g9) (j:=0) (u := .int .i64 1) (cs := #[x0,x1,x2,x3,x4, .slice none 0 0]) (cs' := #[.int .i64 1,x1,x2,x3,x4, .slice none 0 0]) (tb:=62) rfl rfl rfl rfl rfl ?hu HM.out.b9 (Nat.le_of_ble_eq_true rfl) rfl (by kernel_rfl) ?h1 ?_;(case hu=>rfl);(case h1=>rfl);intro w101 pb101;have HM101:=Ak (HM.out.put9 pb101);have HR101:=Ak (HR.out.put pb101 (by have:=OR.out;omega));(try clear z0 z1 z2 z3 z4 z5 z6 z7 z8 z9);obtain ⟨z0,z1,z2,z3,z4,z5,z6,z7,z8,z9⟩:=HM101.out.cells;clear pb101 HM HR)
     | (go_at_call 94;(refine (gjson_tolit.calls k (s.extract i s.size) r _ hn.out).mono ?_);rintro e w102 ⟨rfl,hd102⟩;have hb102:=hd102.below;clear hd102;have HM102:=Ak (HM101.out.step hb102);have HR102:=Ak (HR101.out.below hb102);clear z0 z1 z2 z3 z4 z5 z6 z7 z8 z9;obtain ⟨z0,z1,z2,z3,z4,z5,z6,z7,z8,z9⟩:=HM102.out.cells;clear hb102 HM101 HR101)
     | ((with_reducible refine gate_store (t:=9) (p:=168) rfl ?_);refine cell_put (t:=9) (p:=168) (g:=g9) (j:=1) (u := .string r) (cs := #[.int .i64 1,x1,x2,x3,x4, .slice none 0 0]) (cs' := #[.int .i64 1, .string r,x2,x3,x4, .slice none 0 0]) (tb:=62) rfl rfl rfl rfl rfl ?hu HM102.out.b9 (Nat.le_of_ble_eq_true rfl) rfl (by kernel_rfl) ?h1 ?_;(case hu=>rfl);(case h1=>rfl);intro w103 pb103;have HM103:=Ak (HM102.out.put9 pb103);have HR103:=Ak (HR102.out.put pb103 (by have:=OR.out;omega));(try clear z0 z1 z2 z3 z4 z5 z6 z7 z8 z9);obtain ⟨z0,z1,z2,z3,z4,z5,z6,z7,z8,z9⟩:=HM103.out.cells;clear pb103 HM102 HR102)
     | ((with_reducible refine gate_store (t:=9) (p:=169) rfl ?_);refine cell_put (t:=9) (p:=169) (g:=g9) (j:=2) (u := .string ByteArray.empty) (cs := #[.int .i64 1, .string r,x2,x3,x4, .slice none 0 0]) (cs' := #[.int .i64 1, .string r, .string ByteArray.empty,x3,x4, .slice none 0 0]) (tb:=62) rfl rfl rfl rfl rfl ?hu HM103.out.b9 (Nat.le_of_ble_eq_true rfl) rfl (by kernel_rfl) ?h1 ?_;(case hu=>rfl);(case h1=>rfl);intro w104 pb104;have HM104:=Ak (HM103.out.put9 pb104);have HR104:=Ak (HR103.out.put pb104 (by have:=OR.out;omega));(try clear z0 z1 z2 z3 z4 z5 z6 z7 z8 z9);obtain ⟨z0,z1,z2,z3,z4,z5,z6,z7,z8,z9⟩:=HM104.out.cells;clear pb104 HM103 HR103)
     | ((with_reducible refine gate_store (t:=30) (p:=170) rfl ?_);refine cell_put (t:=30) (p:=170) (g:=g9) (j:=3) (u := .float .f64 0) (cs := #[.int .i64 1, .string r, .string ByteArray.empty,x3,x4, .slice none 0 0]) (cs' := #[.int .i64 1, .string r, .string ByteArray.empty, .float .f64 0,x4, .slice none 0 0]) (tb:=62) rfl rfl rfl rfl rfl ?hu HM104.out.b9 (Nat.le_of_ble_eq_true rfl) rfl (by kernel_rfl) ?h1 ?_;(case hu=>rfl);(case h1=>rfl);intro w105 pb105;have HM105:=Ak (HM104.out.put9 pb105);have HR105:=Ak (HR104.out.put pb105 (by have:=OR.out;omega));(try clear z0 z1 z2 z3 z4 z5 z6 z7 z8 z9);obtain ⟨z0,z1,z2,z3,z4,z5,z6,z7,z8,z9⟩:=HM105.out.cells;clear pb105 HM104 HR104))
    go_meet
    case rel=>exact ⟨1,r,ByteArray.empty,0,rfl,rfl,HR105,HM105⟩
  | @json k r hb hq =>
   have hn:=Ak hq
   clear hq hsz
   rcases hb with hb|hb
   ·
    obtain rfl:=hc.symm.trans hb
    clear hb
    go_wp2_with (first
     | ((with_reducible refine gate_store (t:=59) (p:=133) rfl ?_);refine cell_put (t:=59) (p:=133) (g:=g9) (j:=0) (u := .int .i64 5) (cs := #[x0,x1,x2,x3,x4, .slice none 0 0]) (cs' := #[.int .i64 5,x1,x2,x3,x4, .slice none 0 0]) (tb:=62) rfl rfl rfl rfl rfl ?hu HM.out.b9 (Nat.le_of_ble_eq_true rfl) rfl (by kernel_rfl) ?h1 ?_;(case hu=>rfl);(case h1=>rfl);intro w101 pb101;have HM101:=Ak (HM.out.put9 pb101);have HR101:=Ak (HR.out.put pb101 (by have:=OR.out;omega));(try clear z0 z1 z2 z3 z4 z5 z6 z7 z8 z9);obtain ⟨z0,z1,z2,z3,z4,z5,z6,z7,z8,z9⟩:=HM101.out.cells;clear pb101 HM HR)
     | (go_at_call 107;(refine (gS.calls k (s.extract i s.size) r _ hn.out).mono ?_);rintro e w102 ⟨rfl,hd102⟩;have hb102:=hd102.below;clear hd102;have HM102:=Ak (HM101.out.step hb102);have HR102:=Ak (HR101.out.below hb102);clear z0 z1 z2 z3 z4 z5 z6 z7 z8 z9;obtain ⟨z0,z1,z2,z3,z4,z5,z6,z7,z8,z9⟩:=HM102.out.cells;clear hb102 HM101 HR101)
     | ((with_reducible refine gate_store (t:=9) (p:=138) rfl ?_);refine cell_put (t:=9) (p:=138) (g:=g9) (j:=1) (u := .string r) (cs := #[.int .i64 5,x1,x2,x3,x4, .slice none 0 0]) (cs' := #[.int .i64 5, .string r,x2,x3,x4, .slice none 0 0]) (tb:=62) rfl rfl rfl rfl rfl ?hu HM102.out.b9 (Nat.le_of_ble_eq_true rfl) rfl (by kernel_rfl) ?h1 ?_;(case hu=>rfl);(case h1=>rfl);intro w103 pb103;have HM103:=Ak (HM102.out.put9 pb103);have HR103:=Ak (HR102.out.put pb103 (by have:=OR.out;omega));(try clear z0 z1 z2 z3 z4 z5 z6 z7 z8 z9);obtain ⟨z0,z1,z2,z3,z4,z5,z6,z7,z8,z9⟩:=HM103.out.cells;clear pb103 HM102 HR102)
     | ((with_reducible refine gate_store (t:=9) (p:=139) rfl ?_);refine cell_put (t:=9) (p:=139) (g:=g9) (j:=2) (u := .string ByteArray.empty) (cs := #[.int .i64 5, .string r,x2,x3,x4, .slice none 0 0]) (cs' := #[.int .i64 5, .string r, .string ByteArray.empty,x3,x4, .slice none 0 0]) (tb:=62) rfl rfl rfl rfl rfl ?hu HM103.out.b9 (Nat.le_of_ble_eq_true rfl) rfl (by kernel_rfl) ?h1 ?_;(case hu=>rfl);(case h1=>rfl);intro w104 pb104;have HM104:=Ak (HM103.out.put9 pb104);have HR104:=Ak (HR103.out.put pb104 (by have:=OR.out;omega));(try clear z0 z1 z2 z3 z4 z5 z6 z7 z8 z9);obtain ⟨z0,z1,z2,z3,z4,z5,z6,z7,z8,z9⟩:=HM104.out.cells;clear pb104 HM103 HR103)
     | ((with_reducible refine gate_store (t:=30) (p:=140) rfl ?_);refine cell_put (t:=30) (p:=140) (g:=g9) (j:=3) (u := .float .f64 0) (cs := #[.int .i64 5, .string r, .string ByteArray.empty,x3,x4, .slice none 0 0]) (cs' := #[.int .i64 5, .string r, .string ByteArray.empty, .float .f64 0,x4, .slice none 0 0]) (tb:=62) rfl rfl rfl rfl rfl ?hu HM104.out.b9 (Nat.le_of_ble_eq_true rfl) rfl (by kernel_rfl) ?h1 ?_;(case hu=>rfl);(case h1=>rfl);intro w105 pb105;have HM105:=Ak (HM104.out.put9 pb105);have HR105:=Ak (HR104.out.put pb105 (by have:=OR.out;omega));(try clear z0 z1 z2 z3 z4 z5 z6 z7 z8 z9);obtain ⟨z0,z1,z2,z3,z4,z5,z6,z7,z8,z9⟩:=HM105.out.cells;clear pb105 HM104 HR104))
    go_meet
    case rel=>exact ⟨5,r,ByteArray.empty,0,rfl,rfl,HR105,HM105⟩
   obtain rfl:=hc.symm.trans hb
   clear hb
   go_wp2_with (first
    | ((with_reducible refine gate_store (t:=59) (p:=133) rfl ?_);refine cell_put (t:=59) (p:=133) (g:=g9) (j:=0) (u := .int .i64 5) (cs := #[x0,x1,x2,x3,x4, .slice none 0 0]) (cs' := #[.int .i64 5,x1,x2,x3,x4, .slice none 0 0]) (tb:=62) rfl rfl rfl rfl rfl ?hu HM.out.b9 (Nat.le_of_ble_eq_true rfl) rfl (by kernel_rfl) ?h1 ?_;(case hu=>rfl);(case h1=>rfl);intro w101 pb101;have HM101:=Ak (HM.out.put9 pb101);have HR101:=Ak (HR.out.put pb101 (by have:=OR.out;omega));(try clear z0 z1 z2 z3 z4 z5 z6 z7 z8 z9);obtain ⟨z0,z1,z2,z3,z4,z5,z6,z7,z8,z9⟩:=HM101.out.cells;clear pb101 HM HR)
    | (go_at_call 107;(refine (gS.calls k (s.extract i s.size) r _ hn.out).mono ?_);rintro e w102 ⟨rfl,hd102⟩;have hb102:=hd102.below;clear hd102;have HM102:=Ak (HM101.out.step hb102);have HR102:=Ak (HR101.out.below hb102);clear z0 z1 z2 z3 z4 z5 z6 z7 z8 z9;obtain ⟨z0,z1,z2,z3,z4,z5,z6,z7,z8,z9⟩:=HM102.out.cells;clear hb102 HM101 HR101)
    | ((with_reducible refine gate_store (t:=9) (p:=138) rfl ?_);refine cell_put (t:=9) (p:=138) (g:=g9) (j:=1) (u := .string r) (cs := #[.int .i64 5,x1,x2,x3,x4, .slice none 0 0]) (cs' := #[.int .i64 5, .string r,x2,x3,x4, .slice none 0 0]) (tb:=62) rfl rfl rfl rfl rfl ?hu HM102.out.b9 (Nat.le_of_ble_eq_true rfl) rfl (by kernel_rfl) ?h1 ?_;(case hu=>rfl);(case h1=>rfl);intro w103 pb103;have HM103:=Ak (HM102.out.put9 pb103);have HR103:=Ak (HR102.out.put pb103 (by have:=OR.out;omega));(try clear z0 z1 z2 z3 z4 z5 z6 z7 z8 z9);obtain ⟨z0,z1,z2,z3,z4,z5,z6,z7,z8,z9⟩:=HM103.out.cells;clear pb103 HM102 HR102)
    | ((with_reducible refine gate_store (t:=9) (p:=139) rfl ?_);refine cell_put (t:=9) (p:=139) (g:=g9) (j:=2) (u := .string ByteArray.empty) (cs := #[.int .i64 5, .string r,x2,x3,x4, .slice none 0 0]) (cs' := #[.int .i64 5, .string r, .string ByteArray.empty,x3,x4, .slice none 0 0]) (tb:=62) rfl rfl rfl rfl rfl ?hu HM103.out.b9 (Nat.le_of_ble_eq_true rfl) rfl (by kernel_rfl) ?h1 ?_;(case hu=>rfl);(case h1=>rfl);intro w104 pb104;have HM104:=Ak (HM103.out.put9 pb104);have HR104:=Ak (HR103.out.put pb104 (by have:=OR.out;omega));(try clear z0 z1 z2 z3 z4 z5 z6 z7 z8 z9);obtain ⟨z0,z1,z2,z3,z4,z5,z6,z7,z8,z9⟩:=HM104.out.cells;clear pb104 HM103 HR103)
    | ((with_reducible refine gate_store (t:=30) (p:=140) rfl ?_);refine cell_put (t:=30) (p:=140) (g:=g9) (j:=3) (u := .float .f64 0) (cs := #[.int .i64 5, .string r, .string ByteArray.empty,x3,x4, .slice none 0 0]) (cs' := #[.int .i64 5, .string r, .string ByteArray.empty, .float .f64 0,x4, .slice none 0 0]) (tb:=62) rfl rfl rfl rfl rfl ?hu HM104.out.b9 (Nat.le_of_ble_eq_true rfl) rfl (by kernel_rfl) ?h1 ?_;(case hu=>rfl);(case h1=>rfl);intro w105 pb105;have HM105:=Ak (HM104.out.put9 pb105);have HR105:=Ak (HR104.out.put pb105 (by have:=OR.out;omega));(try clear z0 z1 z2 z3 z4 z5 z6 z7 z8 z9);obtain ⟨z0,z1,z2,z3,z4,z5,z6,z7,z8,z9⟩:=HM105.out.cells;clear pb105 HM104 HR104))
   go_meet
   case rel=>exact ⟨5,r,ByteArray.empty,0,rfl,rfl,HR105,HM105⟩
  | @num _ hN =>
   have HT:=Ak (fun W h1 h2=>gjson_tonum.calls (s.extract i s.size) n hN (by rw [ByteArray.size_extract];omega) W h1 h2)
   have hhd:=hN.head
   have hbt:bt (s.extract i s.size) 0=bt s i:=bt_from hi
   rw [hbt] at hhd
   clear hbt hN
   dsimp only at hsz
   generalize hraw:(s.extract i s.size).extract 0 n=raw at HT hsz HX
   have HRAW:=Ak hraw
   clear hraw
   rw [hc] at hhd
   rcases hhd with ⟨q1,q2⟩|⟨rfl, -⟩
   ·
    have p1:decide (c≤32)=false:=decide_eq_false (by omega)
    have p2:(c == 93)=false:=by simp;omega
    have p3:(c == 125)=false:=by simp;omega
    have p4:(c == 123)=false:=by simp;omega
    have p5:(c == 91)=false:=by simp;omega
    have p6:(c == 110)=false:=by simp;omega
    have p7:(c == 116)=false:=by simp;omega
    have p8:(c == 102)=false:=by simp;omega
    have p9:(c == 34)=false:=by simp;omega
    have p10:decide (48≤c)=true:=decide_eq_true q1
    have p11:decide (c≤57)=true:=decide_eq_true q2
    go_wp2_with (first
     | ((with_reducible refine gate_store (t:=59) (p:=119) rfl ?_);refine cell_put (t:=59) (p:=119) (g:=g9) (j:=0) (u := .int .i64 2) (cs := #[x0,x1,x2,x3,x4, .slice none 0 0]) (cs' := #[.int .i64 2,x1,x2,x3,x4, .slice none 0 0]) (tb:=62) rfl rfl rfl rfl rfl ?hu HM.out.b9 (Nat.le_of_ble_eq_true rfl) rfl (by kernel_rfl) ?h1 ?_;(case hu=>rfl);(case h1=>rfl);intro w101 pb101;have HM101:=Ak (HM.out.put9 pb101);have HR101:=Ak (HR.out.put pb101 (by have:=OR.out;omega));(try clear z0 z1 z2 z3 z4 z5 z6 z7 z8 z9);obtain ⟨z0,z1,z2,z3,z4,z5,z6,z7,z8,z9⟩:=HM101.out.cells;clear pb101 HM HR)
     | (go_at_call 93;(refine (HT.out _ (HP.out.up HM101.out.below.size HM101.out.below) (HPE.out.up HM101.out.below.size HM101.out.below)).mono ?_);rintro e w102 ⟨⟨f,rfl⟩,hb102⟩;have HM102:=Ak (HM101.out.step hb102);have HR102:=Ak (HR101.out.below hb102);clear z0 z1 z2 z3 z4 z5 z6 z7 z8 z9;obtain ⟨z0,z1,z2,z3,z4,z5,z6,z7,z8,z9⟩:=HM102.out.cells;clear hb102 HM101 HR101)
     | ((with_reducible refine gate_store (t:=9) (p:=127) rfl ?_);refine cell_put (t:=9) (p:=127) (g:=g9) (j:=1) (u := .string raw) (cs := #[.int .i64 2,x1,x2,x3,x4, .slice none 0 0]) (cs' := #[.int .i64 2, .string raw,x2,x3,x4, .slice none 0 0]) (tb:=62) rfl rfl rfl rfl rfl ?hu HM102.out.b9 (Nat.le_of_ble_eq_true rfl) rfl (by kernel_rfl) ?h1 ?_;(case hu=>rfl);(case h1=>rfl);intro w103 pb103;have HM103:=Ak (HM102.out.put9 pb103);have HR103:=Ak (HR102.out.put pb103 (by have:=OR.out;omega));(try clear z0 z1 z2 z3 z4 z5 z6 z7 z8 z9);obtain ⟨z0,z1,z2,z3,z4,z5,z6,z7,z8,z9⟩:=HM103.out.cells;clear pb103 HM102 HR102)
     | ((with_reducible refine gate_store (t:=30) (p:=128) rfl ?_);refine cell_put (t:=30) (p:=128) (g:=g9) (j:=3) (u := .float .f64 f) (cs := #[.int .i64 2, .string raw,x2,x3,x4, .slice none 0 0]) (cs' := #[.int .i64 2, .string raw,x2, .float .f64 f,x4, .slice none 0 0]) (tb:=62) rfl rfl rfl rfl rfl ?hu HM103.out.b9 (Nat.le_of_ble_eq_true rfl) rfl (by kernel_rfl) ?h1 ?_;(case hu=>rfl);(case h1=>rfl);intro w104 pb104;have HM104:=Ak (HM103.out.put9 pb104);have HR104:=Ak (HR103.out.put pb104 (by have:=OR.out;omega));(try clear z0 z1 z2 z3 z4 z5 z6 z7 z8 z9);obtain ⟨z0,z1,z2,z3,z4,z5,z6,z7,z8,z9⟩:=HM104.out.cells;clear pb104 HM103 HR103)
     | ((with_reducible refine gate_store (t:=9) (p:=129) rfl ?_);refine cell_put (t:=9) (p:=129) (g:=g9) (j:=2) (u := .string ByteArray.empty) (cs := #[.int .i64 2, .string raw,x2, .float .f64 f,x4, .slice none 0 0]) (cs' := #[.int .i64 2, .string raw, .string ByteArray.empty, .float .f64 f,x4, .slice none 0 0]) (tb:=62) rfl rfl rfl rfl rfl ?hu HM104.out.b9 (Nat.le_of_ble_eq_true rfl) rfl (by kernel_rfl) ?h1 ?_;(case hu=>rfl);(case h1=>rfl);intro w105 pb105;have HM105:=Ak (HM104.out.put9 pb105);have HR105:=Ak (HR104.out.put pb105 (by have:=OR.out;omega));(try clear z0 z1 z2 z3 z4 z5 z6 z7 z8 z9);obtain ⟨z0,z1,z2,z3,z4,z5,z6,z7,z8,z9⟩:=HM105.out.cells;clear pb105 HM104 HR104))
    go_meet
    case rel=>exact ⟨2,raw,ByteArray.empty,f,by rw [HRAW.out],hsz,HR105,HM105⟩
   skip
   go_wp2_with (first
    | ((with_reducible refine gate_store (t:=59) (p:=119) rfl ?_);refine cell_put (t:=59) (p:=119) (g:=g9) (j:=0) (u := .int .i64 2) (cs := #[x0,x1,x2,x3,x4, .slice none 0 0]) (cs' := #[.int .i64 2,x1,x2,x3,x4, .slice none 0 0]) (tb:=62) rfl rfl rfl rfl rfl ?hu HM.out.b9 (Nat.le_of_ble_eq_true rfl) rfl (by kernel_rfl) ?h1 ?_;(case hu=>rfl);(case h1=>rfl);intro w101 pb101;have HM101:=Ak (HM.out.put9 pb101);have HR101:=Ak (HR.out.put pb101 (by have:=OR.out;omega));(try clear z0 z1 z2 z3 z4 z5 z6 z7 z8 z9);obtain ⟨z0,z1,z2,z3,z4,z5,z6,z7,z8,z9⟩:=HM101.out.cells;clear pb101 HM HR)
    | (go_at_call 93;(refine (HT.out _ (HP.out.up HM101.out.below.size HM101.out.below) (HPE.out.up HM101.out.below.size HM101.out.below)).mono ?_);rintro e w102 ⟨⟨f,rfl⟩,hb102⟩;have HM102:=Ak (HM101.out.step hb102);have HR102:=Ak (HR101.out.below hb102);clear z0 z1 z2 z3 z4 z5 z6 z7 z8 z9;obtain ⟨z0,z1,z2,z3,z4,z5,z6,z7,z8,z9⟩:=HM102.out.cells;clear hb102 HM101 HR101)
    | ((with_reducible refine gate_store (t:=9) (p:=127) rfl ?_);refine cell_put (t:=9) (p:=127) (g:=g9) (j:=1) (u := .string raw) (cs := #[.int .i64 2,x1,x2,x3,x4, .slice none 0 0]) (cs' := #[.int .i64 2, .string raw,x2,x3,x4, .slice none 0 0]) (tb:=62) rfl rfl rfl rfl rfl ?hu HM102.out.b9 (Nat.le_of_ble_eq_true rfl) rfl (by kernel_rfl) ?h1 ?_;(case hu=>rfl);(case h1=>rfl);intro w103 pb103;have HM103:=Ak (HM102.out.put9 pb103);have HR103:=Ak (HR102.out.put pb103 (by have:=OR.out;omega));(try clear z0 z1 z2 z3 z4 z5 z6 z7 z8 z9);obtain ⟨z0,z1,z2,z3,z4,z5,z6,z7,z8,z9⟩:=HM103.out.cells;clear pb103 HM102 HR102)
    | ((with_reducible refine gate_store (t:=30) (p:=128) rfl ?_);refine cell_put (t:=30) (p:=128) (g:=g9) (j:=3) (u := .float .f64 f) (cs := #[.int .i64 2, .string raw,x2,x3,x4, .slice none 0 0]) (cs' := #[.int .i64 2, .string raw,x2, .float .f64 f,x4, .slice none 0 0]) (tb:=62) rfl rfl rfl rfl rfl ?hu HM103.out.b9 (Nat.le_of_ble_eq_true rfl) rfl (by kernel_rfl) ?h1 ?_;(case hu=>rfl);(case h1=>rfl);intro w104 pb104;have HM104:=Ak (HM103.out.put9 pb104);have HR104:=Ak (HR103.out.put pb104 (by have:=OR.out;omega));(try clear z0 z1 z2 z3 z4 z5 z6 z7 z8 z9);obtain ⟨z0,z1,z2,z3,z4,z5,z6,z7,z8,z9⟩:=HM104.out.cells;clear pb104 HM103 HR103)
    | ((with_reducible refine gate_store (t:=9) (p:=129) rfl ?_);refine cell_put (t:=9) (p:=129) (g:=g9) (j:=2) (u := .string ByteArray.empty) (cs := #[.int .i64 2, .string raw,x2, .float .f64 f,x4, .slice none 0 0]) (cs' := #[.int .i64 2, .string raw, .string ByteArray.empty, .float .f64 f,x4, .slice none 0 0]) (tb:=62) rfl rfl rfl rfl rfl ?hu HM104.out.b9 (Nat.le_of_ble_eq_true rfl) rfl (by kernel_rfl) ?h1 ?_;(case hu=>rfl);(case h1=>rfl);intro w105 pb105;have HM105:=Ak (HM104.out.put9 pb105);have HR105:=Ak (HR104.out.put pb105 (by have:=OR.out;omega));(try clear z0 z1 z2 z3 z4 z5 z6 z7 z8 z9);obtain ⟨z0,z1,z2,z3,z4,z5,z6,z7,z8,z9⟩:=HM105.out.cells;clear pb105 HM104 HR104))
   go_meet
   case rel=>exact ⟨2,raw,ByteArray.empty,f,by rw [HRAW.out],hsz,HR105,HM105⟩
  | @str B O rest hS =>
   have HT:=Ak (fun W=>gjson_tostr.calls (s.extract i s.size) B O rest hS (by rw [ByteArray.size_extract];omega) W)
   have hbt:bt (s.extract i s.size) 0=bt s i:=bt_from hi
   obtain rfl:=hc.symm.trans (hbt.symm.trans (drop_cons (i:=0) (by rw [List.drop_zero];exact hS.eq)).2.1)
   clear hbt hS
   dsimp only at hsz
   generalize hnn:B.length+2=n at HT hsz HX HE h0n hin
   generalize hraw:(s.extract i s.size).extract 0 n=raw at HT hsz HX
   have HRAW:=Ak hraw
   have HNN:=Ak hnn
   clear hraw hnn
   ·
    skip
    go_wp2_with (first
     | ((with_reducible refine gate_store (t:=59) (p:=173) rfl ?_);refine cell_put (t:=59) (p:=173) (g:=g9) (j:=0) (u := .int .i64 3) (cs := #[x0,x1,x2,x3,x4, .slice none 0 0]) (cs' := #[.int .i64 3,x1,x2,x3,x4, .slice none 0 0]) (tb:=62) rfl rfl rfl rfl rfl ?hu HM.out.b9 (Nat.le_of_ble_eq_true rfl) rfl (by kernel_rfl) ?h1 ?_;(case hu=>rfl);(case h1=>rfl);intro w101 pb101;have HM101:=Ak (HM.out.put9 pb101);have HR101:=Ak (HR.out.put pb101 (by have:=OR.out;omega));(try clear z0 z1 z2 z3 z4 z5 z6 z7 z8 z9);obtain ⟨z0,z1,z2,z3,z4,z5,z6,z7,z8,z9⟩:=HM101.out.cells;clear pb101 HM HR)
     | (go_at_call 95;(refine (HT.out _).mono ?_);rintro e w102 ⟨rfl,hb102⟩;have HM102:=Ak (HM101.out.step hb102);have HR102:=Ak (HR101.out.below hb102);clear z0 z1 z2 z3 z4 z5 z6 z7 z8 z9;obtain ⟨z0,z1,z2,z3,z4,z5,z6,z7,z8,z9⟩:=HM102.out.cells;clear hb102 HM101 HR101)
     | ((with_reducible refine gate_store (t:=9) (p:=181) rfl ?_);refine cell_put (t:=9) (p:=181) (g:=g9) (j:=1) (u := .string raw) (cs := #[.int .i64 3,x1,x2,x3,x4, .slice none 0 0]) (cs' := #[.int .i64 3, .string raw,x2,x3,x4, .slice none 0 0]) (tb:=62) rfl rfl rfl rfl rfl ?hu HM102.out.b9 (Nat.le_of_ble_eq_true rfl) rfl (by kernel_rfl) ?h1 ?_;(case hu=>rfl);(case h1=>rfl);intro w103 pb103;have HM103:=Ak (HM102.out.put9 pb103);have HR103:=Ak (HR102.out.put pb103 (by have:=OR.out;omega));(try clear z0 z1 z2 z3 z4 z5 z6 z7 z8 z9);obtain ⟨z0,z1,z2,z3,z4,z5,z6,z7,z8,z9⟩:=HM103.out.cells;clear pb103 HM102 HR102)
     | ((with_reducible refine gate_store (t:=9) (p:=182) rfl ?_);refine cell_put (t:=9) (p:=182) (g:=g9) (j:=2) (u := .string (strOfNums O)) (cs := #[.int .i64 3, .string raw,x2,x3,x4, .slice none 0 0]) (cs' := #[.int .i64 3, .string raw, .string (strOfNums O),x3,x4, .slice none 0 0]) (tb:=62) rfl rfl rfl rfl rfl ?hu HM103.out.b9 (Nat.le_of_ble_eq_true rfl) rfl (by kernel_rfl) ?h1 ?_;(case hu=>rfl);(case h1=>rfl);intro w104 pb104;have HM104:=Ak (HM103.out.put9 pb104);have HR104:=Ak (HR103.out.put pb104 (by have:=OR.out;omega));(try clear z0 z1 z2 z3 z4 z5 z6 z7 z8 z9);obtain ⟨z0,z1,z2,z3,z4,z5,z6,z7,z8,z9⟩:=HM104.out.cells;clear pb104 HM103 HR103)
     | ((with_reducible refine gate_store (t:=30) (p:=183) rfl ?_);refine cell_put (t:=30) (p:=183) (g:=g9) (j:=3) (u := .float .f64 0) (cs := #[.int .i64 3, .string raw, .string (strOfNums O),x3,x4, .slice none 0 0]) (cs' := #[.int .i64 3, .string raw, .string (strOfNums O), .float .f64 0,x4, .slice none 0 0]) (tb:=62) rfl rfl rfl rfl rfl ?hu HM104.out.b9 (Nat.le_of_ble_eq_true rfl) rfl (by kernel_rfl) ?h1 ?_;(case hu=>rfl);(case h1=>rfl);intro w105 pb105;have HM105:=Ak (HM104.out.put9 pb105);have HR105:=Ak (HR104.out.put pb105 (by have:=OR.out;omega));(try clear z0 z1 z2 z3 z4 z5 z6 z7 z8 z9);obtain ⟨z0,z1,z2,z3,z4,z5,z6,z7,z8,z9⟩:=HM105.out.cells;clear pb105 HM104 HR104))
    go_meet
    case rel=>exact ⟨3,raw,(strOfNums O),0,by rw [HNN.out,HRAW.out],by rw [HNN.out];exact hsz,HR105,HM105⟩
end Go.Proofs.YtnejkimpkaopoaaGreatDoor.Q

/- gjson's Result and impl's: Exists, IsArray, gj, gjOf. -/
import Derived.Test.YtnejkimpkaopoaaGreatDoorX1
import Derived.Test.YtnejkimpkaopoaaGreatDoorDg
import Derived.Deep.RegionWith
section
namespace Go.Proofs.YtnejkimpkaopoaaGreatDoor.Q
open RowKit YtnejkimpkaopoaaGreatDoorW.PrintWords YtnejkimpkaopoaaGreatDoorW.PrintLast YtnejkimpkaopoaaGreatDoorW.PrintMore
set_option maxHeartbeats 8000000
set_option maxRecDepth 100000
attribute [local go_sem] max2_int min2_int max_two min_two max_three min_three max_four min_four
set_option linter.unusedVariables false
set_option linter.unusedSimpArgs false
structure GRes where
  ty:Int
  raw:ByteArray
  str:ByteArray
  num:Nat
  idx:Int
def GRes.cells (r:GRes):Array Value := #[.int .i64 r.ty, .string r.raw, .string r.str, .float .f64 r.num, .int .i64 r.idx, .slice none 0 0]
structure IRes where
  kd:Int
  raw:ByteArray
  str:ByteArray
  num:Nat
  ex:Bool
def IRes.cells (r:IRes):Array Value := #[.int .i64 r.kd, .string r.raw, .string r.str, .float .f64 r.num, .bool r.ex]
def BoP (w:World) (b:Bool) (e:Ending) (w':World):Prop:=e = .returned (.bool b)∧Below w.heap.size w w'
theorem gjson_Exists.calls (r:GRes) (h:r.ty≠0∨0<r.raw.size) (w:World) :
 Calls Tryz.prog 96 #[.agg r.cells] w fun e w'=>BoP w true e w':=by
 obtain ⟨ty,raw,str,num,idx⟩:=r
 dsimp only at h
 unfold GRes.cells
 dsimp only
 by_cases c:ty=0
 rotate_left
 ·
  have c1:(ty != 0)=true:=by simpa using c
  clear h
  go_enter Tryz.func96,Tryz.ntmps96
  go_wp2
  go_ret
  exact ⟨rfl,(Below.refl _ w).alloc (Nat.le_refl _) _⟩
 subst c
 have hr:0<raw.size:=by rcases h with h|h;exact absurd rfl h;exact h
 have hz:((raw.size:Int) != 0)=true:=bne_iff_ne.2 (by omega)
 have hne:(raw=ByteArray.empty)=False:=eq_false (by rintro rfl;exact absurd hr (by decide))
 clear h hr
 go_enter Tryz.func96,Tryz.ntmps96
 go_wp2
 go_ret
 exact ⟨rfl,(Below.refl _ w).alloc (Nat.le_refl _) _⟩
theorem gjson_IsArray.calls (raw str:ByteArray) (num:Nat) (idx:Int) (h:0<raw.size) (h0:bt raw 0=91) (w:World) :
 Calls Tryz.prog 76 #[.agg (GRes.cells ⟨5,raw,str,num,idx⟩)] w fun e w'=>BoP w true e w':=by
 unfold GRes.cells
 dsimp only
 have hz:decide ((0:Int)<(raw.size:Int))=true:=decide_eq_true (by omega)
 have hI:((0:Int)<(raw.size:Int))=True:=eq_true (by omega)
 have hne:(raw=ByteArray.empty)=False:=eq_false (by rintro rfl;exact absurd h (by decide))
 have e0:=(bt_nat h).trans h0
 go_enter Tryz.func76,Tryz.ntmps76
 go_wp2
 go_ret
 exact ⟨rfl,(Below.refl _ w).alloc (Nat.le_refl _) _⟩
def GjP (w:World) (r:IRes) (e:Ending) (w':World):Prop:=e = .returned (.agg r.cells)∧Below w.heap.size w w'
theorem impl_gjOf.calls (r:IRes) (w:World) :
 Calls Tryz.prog 38 #[.agg r.cells] w fun e w'=>e = .returned (.agg (GRes.cells ⟨r.kd,r.raw,r.str,r.num,0⟩))∧Below w.heap.size w w':=by
 obtain ⟨kd,raw,str,num,ex⟩:=r
 unfold GRes.cells IRes.cells
 dsimp only
 have hu62:=Tryz.underlying62
 have hu32:=Tryz.underlying32
 go_enter Tryz.func38,Tryz.ntmps38
 have HB:=Ak (Below.refl w.heap.size w)
 go_upto_region 1 with (first
  | ((with_reducible refine gate_dst (N:=1) rfl ?_);refine box_event ?hg (N:=1) ?hd (cs := #[.int .i64 kd, .string raw, .string str, .float .f64 num, .bool ex]) (t:=32) ?hr ?_;(case hd=>rfl);(case hg=>rfl);(case hr=>first|(go_simp;done)|(go_simp;rfl));intro g1 hg1 w1 hb1 hB1;have GE1:=Ak (by rw [hg1];exact HB.out.size:w.heap.size≤g1);have HB1:=Ak (below_step HB.out hB1);have BK1:=Ak hb1;clear hg1 hb1 hB1)
  | ((with_reducible refine gate_dst (N:=2) rfl ?_);refine box_event ?hg (N:=2) ?hd (cs := #[.int .i64 0, .string ByteArray.empty, .string ByteArray.empty, .float .f64 0, .int .i64 0, .slice none 0 0]) (t:=62) ?hr ?_;(case hd=>rfl);(case hg=>rfl);(case hr=>first|(go_simp;done)|(go_simp;rfl));intro g2 hg2 w2 hb2 hB2;have GE2:=Ak (by rw [hg2];exact HB1.out.size:w.heap.size≤g2);have HB2:=Ak (below_step HB1.out hB2);have BK2:=Ak hb2;have BK12:=Ak (blk_below BK1.out hB2);clear hg2 hb2 hB2))
 have hld:=BK12.out
 have hz0:=(blk_cell hld 0).trans rfl
 have hz1:=(blk_cell hld 1).trans rfl
 have hz2:=(blk_cell hld 2).trans rfl
 have hz3:=(blk_cell hld 3).trans rfl
 go_wp2_with (first|((with_reducible refine gate_store (t:=62) (p:=2) rfl ?_);refine box_put (g:=g2) (cs := #[.int .i64 0, .string ByteArray.empty, .string ByteArray.empty, .float .f64 0, .int .i64 0, .slice none 0 0]) (cs' := #[.int .i64 kd, .string raw, .string str, .float .f64 num, .int .i64 0, .slice none 0 0]) rfl rfl rfl rfl rfl rfl BK2.out rfl (by kernel_rfl) ?h1 ?_;(case h1=>intro q hq;simp only [List.mem_cons,List.not_mem_nil,or_false] at hq;rcases hq with rfl|rfl|rfl|rfl|rfl|rfl <;> rfl);intro w8 pb8;have PB8:=Ak pb8;clear pb8))
 refine bodyPost_ret (results_cell_row rfl _ _ g2 62 #[.int .i64 kd, .string raw, .string str, .float .f64 num, .int .i64 0, .slice none 0 0] (0,0) _ rfl PB8.out.blk Tryz.underlying62 rfl (by kernel_rfl)) rfl ?_
 exact ⟨rfl,PB8.out.below HB2.out GE2.out⟩
end Go.Proofs.YtnejkimpkaopoaaGreatDoor.Q
end
section
/- impl.gj (65). -/
namespace Go.Proofs.YtnejkimpkaopoaaGreatDoorW.PrintLast
open Go.Proofs.YtnejkimpkaopoaaGreatDoorW.PrintWords
section
variable {P:Program} {ops:Array Oper} {Q:Exit→Act→World→Prop}
theorem box_put_ {oi:Oper} {a:Act} {W:World} {K:Act→World→Prop} (hw:Region.wanted oi (yielded ops a.tmps)=true) {t:TypeId} {p:Tmp} {v:Operand} (ho:oi.op = .store t (.tmp p) v) (hN:oi.dst=none) {g:Nat} {u:Value} {cs cs':Array Value}
 (hp:a.eval (.tmp p) = .pointer (some ⟨g,0,none⟩)) (hv:a.eval v=u) (hu:u.cells=cs') (hb:W.heap[g]? = some (.cells cs t (0,0))) (hs:cs'.size=cs.size)
 (ht:(P.info? t).map (·.size)=some cs'.size) (h1 : ∀ q ∈ cs'.toList,q.oneCell'=true) (h : ∀ w1,PutBox W w1 g cs' t→K a w1):if Region.wanted oi (yielded ops a.tmps)=true then Oper.wp P oi a W K Q else K (a.put none undef) W:=by
 obtain ⟨cur',hc1,hc2,hc3⟩:=setCells_row (g:=g) (e:=t) cs'.toList 0 W cs hb (by rw [Array.length_toList,hs];omega)
 have hce:cur'=cs':=by
  apply Array.ext'
  rw [hc3]
  simp [hs]
 rw [hce] at hc1
 obtain ⟨s1,s2,s3,s4⟩:=setCells_same g cs'.toList 0 W
 have hrun:(Instr.storeAt t (.pointer (some ⟨g,0,none⟩)) u).run P W = .ok () (W.setCells g 0 cs'.toList) :=
  run_store_run t u cs'.toList hb (by rw [hu]) (by rw [ht,Array.length_toList]) (by rw [Array.length_toList,hs];omega) h1
 rw [if_pos hw]
 unfold Oper.wp execOp
 simp only [ho,hp,hv,Sem.run_bind,Sem.run_pure,Result.andThen_ok,hrun]
 show K (a.put oi.dst undef) _
 rw [hN]
 exact h _ ⟨hc1,s1,s2,s3,s4,fun k hk=>setCells_far cs'.toList 0 k hk⟩
end
end Go.Proofs.YtnejkimpkaopoaaGreatDoorW.PrintLast
namespace Go.Proofs.YtnejkimpkaopoaaGreatDoor.Q
open RowKit YtnejkimpkaopoaaGreatDoorW.PrintWords YtnejkimpkaopoaaGreatDoorW.PrintLast YtnejkimpkaopoaaGreatDoorW.PrintMore
attribute [local go_sem] max2_int min2_int max_two min_two max_three min_three max_four min_four
set_option linter.unusedVariables false
set_option linter.unusedSimpArgs false
noncomputable def gjT1:Bool × List (List Nat × List Nat):=rtab .any (opsOf Tryz.f65 1)
def gjB1:List Nat:=[0,1,0,4,0,16,0,64,0,256,1023,2047]
theorem gjtab1:rtab .any (opsOf Tryz.f65 1)=gjT1:=rfl
theorem gjbits1:waitsOk gjT1.2 gjB1=true:=by kernel_rfl
set_option maxHeartbeats 8000000 in
set_option maxRecDepth 100000 in
theorem impl_gj.calls (r:GRes) (h:r.ty≠0∨0<r.raw.size) (w:World) :
 Calls Tryz.prog 65 #[.agg r.cells] w fun e w'=>GjP w ⟨r.ty,r.raw,r.str,r.num,true⟩ e w':=by
 have H96:=Ak (fun W=>gjson_Exists.calls r h W)
 obtain ⟨ty,raw,str,num,idx⟩:=r
 unfold GRes.cells at H96 ⊢
 dsimp only at H96 ⊢
 clear h
 have hu62:=Tryz.underlying62
 have hu32:=Tryz.underlying32
 go_enter Tryz.func65,Tryz.ntmps65
 have HB:=Ak (Below.refl w.heap.size w)
 go_upto_region 1 with (first
  | ((with_reducible refine gate_dst (N:=1) rfl ?_);refine box_event ?hg (N:=1) ?hd (cs := #[.int .i64 ty, .string raw, .string str, .float .f64 num, .int .i64 idx, .slice none 0 0]) (t:=62) ?hr ?_;(case hd=>rfl);(case hg=>rfl);(case hr=>first|(go_simp;done)|(go_simp;rfl));intro g1 hg1 w1 hb1 hB1;have GE1:=Ak (by rw [hg1];exact HB.out.size:w.heap.size≤g1);have HB1:=Ak (below_step HB.out hB1);have BK1:=Ak hb1;clear hg1 hb1 hB1)
  | ((with_reducible refine gate_dst (N:=2) rfl ?_);refine box_event ?hg (N:=2) ?hd (cs := #[.int .i64 0, .string ByteArray.empty, .string ByteArray.empty, .float .f64 0, .bool false]) (t:=32) ?hr ?_;(case hd=>rfl);(case hg=>rfl);(case hr=>first|(go_simp;done)|(go_simp;rfl));intro g2 hg2 w2 hb2 hB2;have GE2:=Ak (by rw [hg2];exact HB1.out.size:w.heap.size≤g2);have HB2:=Ak (below_step HB1.out hB2);have BK2:=Ak hb2;have BK12:=Ak (blk_below BK1.out hB2);clear hg2 hb2 hB2))
 have hld:=BK12.out
 have hz0:=(blk_cell hld 0).trans rfl
 have hz1:=(blk_cell hld 1).trans rfl
 have hz2:=(blk_cell hld 2).trans rfl
 have hz3:=(blk_cell hld 3).trans rfl
 have hz4:=(blk_cell hld 4).trans rfl
 have hz5:=(blk_cell hld 5).trans rfl
 have hy0:=(blk_cell (show w2.drew.heap[g1]? = _ from hld) 0).trans rfl
 have hy1:=(blk_cell (show w2.drew.heap[g1]? = _ from hld) 1).trans rfl
 have hy2:=(blk_cell (show w2.drew.heap[g1]? = _ from hld) 2).trans rfl
 have hy3:=(blk_cell (show w2.drew.heap[g1]? = _ from hld) 3).trans rfl
 have hy4:=(blk_cell (show w2.drew.heap[g1]? = _ from hld) 4).trans rfl
 have hy5:=(blk_cell (show w2.drew.heap[g1]? = _ from hld) 5).trans rfl
 refine start_ (n:=12) (S:=fun w'=>w'.cell? ⟨g1,0,none⟩=some (.int .i64 ty)∧w'.cell? ⟨g1,1,none⟩=some (.string raw)∧w'.cell? ⟨g1,2,none⟩=some (.string str)∧w'.cell? ⟨g1,3,none⟩=some (.float .f64 num)∧w'.cell? ⟨g1,4,none⟩=some (.int .i64 idx)∧w'.cell? ⟨g1,5,none⟩=some (.slice none 0 0)∧w'.heap[g1]? = some (.cells #[.int .i64 ty, .string raw, .string str, .float .f64 num, .int .i64 idx, .slice none 0 0] 62 (0,0))) (ds:=[11]) #[false,false,false,false,false,false,false,false,false,false,false,false] (by kernel_rfl) rfl rfl ⟨hy0,hy1,hy2,hy3,hy4,hy5,hld⟩ (fun hHeld=>?_);refine with_tabW gjtab1 gjbits1 (fun HT_ HW_=>?_)
 have HB2:=Ak (below_drew1 HB2.out)
 have BK2:=Ak (blk_drew BK2.out)
 have hld:=blk_drew hld
 clear hy0 hy1 hy2 hy3 hy4 hy5 hz0 hz1 hz2 hz3 hz4 hz5
 generalize World.drew _=wd at HB2 BK2 hld hHeld ⊢
 refine zP 0 (some 3) (mA 12 1) ?_
 refine zP 2 (some 5) (mA 12 5) ?_
 refine zP 4 (some 7) (mA 12 21) ?_
 refine zP 6 (some 9) (mA 12 85) ?_
 refine zT 1 (some 4) (mA 12 87) ?_
 refine zT 3 (some 6) (mA 12 95) ?_
 refine zT 5 (some 8) (mA 12 127) ?_
 refine zT 7 (some 10) (mA 12 255) ?_
 refine zT 8 (some 11) (mA 12 511) ?_
 refine zO 9 (some 12) (mA 12 1023) (fun K hK=>?_)
 refine goes_ Tryz.func96 (by kernel_rfl) rfl #[.agg #[.int .i64 ty, .string raw, .string str, .float .f64 num, .int .i64 idx, .slice none 0 0]] (by rfl) rfl rfl (by (try simp only [List.map_toArray,List.map_cons,List.map_nil]);first|done|rfl) ?_
 refine (H96.out _).mono ?_
 rintro e w5 ⟨rfl,hb5⟩
 refine ⟨_,rfl,?_⟩
 have hld5:=blk_below hld hb5
 have HB5:=Ak (below_step HB2.out hb5)
 have BK5:=Ak (blk_below BK2.out hb5)
 refine hK.out _ _ ⟨(blk_cell hld5 0).trans rfl,(blk_cell hld5 1).trans rfl,(blk_cell hld5 2).trans rfl,(blk_cell hld5 3).trans rfl,(blk_cell hld5 4).trans rfl,(blk_cell hld5 5).trans rfl,hld5⟩ (fun hHeld=>?_)
 clear hK K hb5
 refine norm_ (a':=?_) ?_ ?_
 rotate_left
 ·
  show Act.put _ (some 12) _=_
  simp only [Act.put,List.setIfInBounds_toArray,List.set_cons_zero,List.set_cons_succ,i64_w,i32_w]
  rfl
 refine zP 10 (some 13) (mA 12 2047) ?_
 refine last_ (i:=11) (N:=none) #[true,true,true,true,true,true,true,true,true,true,true,true] rfl rfl (one_of HT_.out (by kernel_rfl)) (by decide) (fun K hK=>?_)
 refine box_put_ (t:=32) (p:=2) (g:=g2) (cs := #[.int .i64 0, .string ByteArray.empty, .string ByteArray.empty, .float .f64 0, .bool false]) (cs' := #[.int .i64 ty, .string raw, .string str, .float .f64 num, .bool true]) rfl rfl rfl rfl rfl rfl BK5.out rfl (by kernel_rfl) ?h1 ?_
 case h1=>intro q hq;simp only [List.mem_cons,List.not_mem_nil,or_false] at hq;rcases hq with rfl|rfl|rfl|rfl|rfl <;> rfl
 intro w8 pb8;have PB8:=Ak pb8;clear pb8
 refine hK.out _ _ ?_
 clear hK K
 refine done_ (done_of HT_.out (by kernel_rfl)) ?_
 clear HT_ HW_ hHeld
 go_wp2
 refine bodyPost_ret (results_cell_row rfl _ _ g2 32 #[.int .i64 ty, .string raw, .string str, .float .f64 num, .bool true] (0,0) _ rfl PB8.out.blk Tryz.underlying32 rfl (by kernel_rfl)) rfl ?_
 exact ⟨rfl,PB8.out.below HB5.out GE2.out⟩
end Go.Proofs.YtnejkimpkaopoaaGreatDoor.Q
end
section
/- Rows of gjson Results (62) and of impl Results (32): kinds, appends. -/
namespace Go.Proofs.YtnejkimpkaopoaaGreatDoor.Q
open RowKit YtnejkimpkaopoaaGreatDoorW.PrintWords YtnejkimpkaopoaaGreatDoorW.PrintLast YtnejkimpkaopoaaGreatDoorW.PrintMore
set_option linter.unusedVariables false
set_option linter.unusedSimpArgs false
def kflt:Kd Nat:=Kd.scalar (Value.float .f64) (fun _=>rfl)
def knil:Kd Unit:=Kd.scalar (fun _=>Value.slice none 0 0) (fun _=>rfl)
theorem info62:(Tryz.prog.info? 62).map (fun i=>(i.zero,i.size,i.bytes))=some (some (.agg #[.int .i64 0, .string ⟨#[]⟩, .string ⟨#[]⟩, .float .f64 0, .int .i64 0, .slice none 0 0]),6,80):=by kernel_rfl
theorem info32:(Tryz.prog.info? 32).map (fun i=>(i.zero,i.size,i.bytes))=some (some (.agg #[.int .i64 0, .string ⟨#[]⟩, .string ⟨#[]⟩, .float .f64 0, .bool false]),5,56):=by kernel_rfl
def k62:Kd GRes:=Kd.iso (Kd.pair (Kd.int .i64) (Kd.pair Kd.string (Kd.pair Kd.string (Kd.pair kflt (Kd.pair (Kd.int .i64) knil))))) (fun x:GRes=>(x.ty,x.raw,x.str,x.num,x.idx,()))
def k32:Kd IRes:=Kd.iso (Kd.pair (Kd.int .i64) (Kd.pair Kd.string (Kd.pair Kd.string (Kd.pair kflt Kd.bool)))) (fun x:IRes=>(x.kd,x.raw,x.str,x.num,x.ex))
theorem k62_open {w:World} {x:GRes} {cs:List Value} (h:k62.K w x cs):cs=x.cells.toList:=by
 obtain ⟨_,_,rfl,rfl,⟨_,_,rfl,rfl,⟨_,_,rfl,rfl,⟨_,_,rfl,rfl,⟨_,_,rfl,rfl,rfl⟩⟩⟩⟩⟩:=h
 exact rfl
theorem k62_mkM (w:World) (base:Nat) (ok:Nat→Prop) (x:GRes):k62.M w base ok x x.cells.toList :=
  ⟨[_],[_,_,_,_,_],rfl,rfl,⟨[_],[_,_,_,_],rfl,rfl,⟨[_],[_,_,_],rfl,rfl,⟨[_],[_,_],rfl,rfl,⟨[_],[_],rfl,rfl,rfl⟩⟩⟩⟩⟩
theorem k32_open {w:World} {x:IRes} {cs:List Value} (h:k32.K w x cs):cs=x.cells.toList:=by
 obtain ⟨_,_,rfl,rfl,⟨_,_,rfl,rfl,⟨_,_,rfl,rfl,⟨_,_,rfl,rfl,rfl⟩⟩⟩⟩:=h
 exact rfl
theorem k32_mkM (w:World) (base:Nat) (ok:Nat→Prop) (x:IRes):k32.M w base ok x x.cells.toList :=
  ⟨[_],[_,_,_,_],rfl,rfl,⟨[_],[_,_,_],rfl,rfl,⟨[_],[_,_],rfl,rfl,⟨[_],[_],rfl,rfl,rfl⟩⟩⟩⟩
def RG (w0 W:World) (b:Nat) (v:Value) (xs:List GRes):Prop:=Kd.R k62 62 W w0.heap.size (fun k=>b≤k) v xs
def RI (w0 W:World) (b:Nat) (v:Value) (xs:List IRes):Prop:=Kd.R k32 32 W w0.heap.size (fun k=>b≤k) v xs
theorem RG.below {w0 W W1:World} {b:Nat} {v:Value} {xs:List GRes} (h:RG w0 W b v xs) (hb:Below W.heap.size W W1):RG w0 W1 b v xs:=Kd.R_below h hb
theorem RI.below {w0 W W1:World} {b:Nat} {v:Value} {xs:List IRes} (h:RI w0 W b v xs) (hb:Below W.heap.size W W1):RI w0 W1 b v xs:=Kd.R_below h hb
theorem RG.far {w0 W W1:World} {b:Nat} {v:Value} {xs:List GRes} (h:RG w0 W b v xs) (hf : ∀ k,b≤k→W1.heap[k]? = W.heap[k]?):RG w0 W1 b v xs:=Kd.R_move h hf
theorem RI.nil (w0 W:World) (b:Nat):RI w0 W b (.slice none 0 0) []:=Kd.R_nil _ _ _ _ _
def rdG (xs:List GRes) (i:Int):GRes:=xs.getD i.toNat ⟨0,⟨#[]⟩,⟨#[]⟩,0,0⟩
def rdI (xs:List IRes) (i:Int):IRes:=xs.getD i.toNat ⟨0,⟨#[]⟩,⟨#[]⟩,0,false⟩
theorem at62 {w:World} {A:Option Addr} {n:Nat} {xs:List GRes} (h:Kd.C k62 w A n xs) (i:Int) (h0:0≤i) (h1:i<n) : ∃ ad,A=some ad ∧ ∀ j u,(rdG xs i).cells.toList[j]? = some u→w.cell? (ad.add (i.toNat*6+j))=some u:=by
 obtain ⟨ad,c,e,_,hK,hc0⟩:=Kd.C_get h ⟨0,⟨#[]⟩,⟨#[]⟩,0,0⟩ i h0 h1
 have hc : ∀ j u,c[j]? = some u→w.cell? (ad.add (i.toNat*6+j))=some u:=hc0
 obtain rfl:=k62_open hK
 exact ⟨ad,e,hc⟩
theorem at32 {w:World} {A:Option Addr} {n:Nat} {xs:List IRes} (h:Kd.C k32 w A n xs) (i:Int) (h0:0≤i) (h1:i<n) : ∃ ad,A=some ad ∧ ∀ j u,(rdI xs i).cells.toList[j]? = some u→w.cell? (ad.add (i.toNat*5+j))=some u:=by
 obtain ⟨ad,c,e,_,hK,hc0⟩:=Kd.C_get h ⟨0,⟨#[]⟩,⟨#[]⟩,0,false⟩ i h0 h1
 have hc : ∀ j u,c[j]? = some u→w.cell? (ad.add (i.toNat*5+j))=some u:=hc0
 obtain rfl:=k32_open hK
 exact ⟨ad,e,hc⟩
section
variable {ops:Array Oper} {rest:List Oper} {o:Oper} {a:Act} {Q:Exit→Act→World→Prop} {w0 W:World}
theorem ap62 (b:Nat) (hgd:o.guard=none) (s x:Operand) (ho:o.op = .call { callee := .builtin .append,args := #[s,x],argTypes := #[58,58] })
    (v:Value) (xs:List GRes) (p:GRes) (hs:a.eval s=v) (hx:a.eval x = .slice (some ⟨W.heap.size,0,none⟩) 1 1)
    (HO:RG w0 W b v xs) (HB:Below w0.heap.size w0 W) (hb:b≤W.heap.size) (hl:xs.length<100000000)
    (h : ∀ v1 w1,RG w0 w1 b v1 (xs++[p])→Below w0.heap.size w0 w1→(∀ k,k<b→w1.heap[k]? = W.heap[k]?)→wpList Tryz.prog ops Q rest (a.put o.dst v1) w1) :
    wpList Tryz.prog ops Q (o :: rest) a (W.alloc (.cells p.cells 62)) :=
  Kd.R_append k62 (w0:=w0) w0.heap.size hgd s x 58 62 _ 80 ho Tryz.underlying58 info62 rfl (by decide) (by omega) v xs p p.cells.toList (fun k=>b≤k) (fun _=>False) hs hx (k62_mkM _ _ _ p) (fun _ hk=>hk.elim) (fun k hk=>Nat.le_trans hb hk) HO HB HB.size (by omega)
    (fun v1 w1 h1 h2 h3 h4=>h v1 w1 h1 h2 (fun k hk=>h3.block k (Nat.lt_of_lt_of_le hk hb) (fun e=>absurd (HO.1 k e.symm) (by omega))))
theorem ap32 (b:Nat) (hgd:o.guard=none) (s x:Operand) (ho:o.op = .call { callee := .builtin .append,args := #[s,x],argTypes := #[28,28] })
    (v:Value) (xs:List IRes) (p:IRes) (hs:a.eval s=v) (hx:a.eval x = .slice (some ⟨W.heap.size,0,none⟩) 1 1)
    (HO:RI w0 W b v xs) (HB:Below w0.heap.size w0 W) (hb:b≤W.heap.size) (hl:xs.length<100000000)
    (h : ∀ v1 w1,RI w0 w1 b v1 (xs++[p])→Below w0.heap.size w0 w1→(∀ k,k<b→w1.heap[k]? = W.heap[k]?)→wpList Tryz.prog ops Q rest (a.put o.dst v1) w1) :
    wpList Tryz.prog ops Q (o :: rest) a (W.alloc (.cells p.cells 32)) :=
  Kd.R_append k32 (w0:=w0) w0.heap.size hgd s x 28 32 _ 56 ho Tryz.underlying28 info32 rfl (by decide) (by omega) v xs p p.cells.toList (fun k=>b≤k) (fun _=>False) hs hx (k32_mkM _ _ _ p) (fun _ hk=>hk.elim) (fun k hk=>Nat.le_trans hb hk) HO HB HB.size (by omega)
    (fun v1 w1 h1 h2 h3 h4=>h v1 w1 h1 h2 (fun k hk=>h3.block k (Nat.lt_of_lt_of_le hk hb) (fun e=>absurd (HO.1 k e.symm) (by omega))))
end
end Go.Proofs.YtnejkimpkaopoaaGreatDoor.Q
end
section
/- impl.gjAll (37). -/
namespace Go.Proofs.YtnejkimpkaopoaaGreatDoor.Q
open RowKit YtnejkimpkaopoaaGreatDoorW.PrintWords YtnejkimpkaopoaaGreatDoorW.PrintLast YtnejkimpkaopoaaGreatDoorW.PrintMore
attribute [local go_sem] max2_int min2_int max_two min_two max_three min_three max_four min_four
set_option linter.unusedVariables false
set_option linter.unusedSimpArgs false
def GRes.imp (r:GRes):IRes:=⟨r.ty,r.raw,r.str,r.num,true⟩
theorem RI.box {w0 W w1 w8:World} {b g:Nat} {v:Value} {xs:List IRes} {cs:Array Value} {t:TypeId} (h:RI w0 W b v xs) (hg:g=W.heap.size) (hB:Below W.heap.size W w1) (hp:PutBox w1 w8 g cs t):RI w0 w8 b v xs :=
  Kd.R_mono (Kd.R_move (Kd.R_bound h) (fun k hk=>(hp.far k (by have:=hk.2.2.1;omega)).trans (hB.block k hk.2.2.1))) (fun k hk=>hk.1)
def RIP (w:World) (ys:List IRes) (e:Ending) (w':World):Prop := ∃ v,e = .returned v∧RI w w' w.heap.size v ys∧Below w.heap.size w w'
set_option maxHeartbeats 8000000 in
set_option maxRecDepth 100000 in
theorem impl_gjAll.calls (xs:List GRes) (A:Option Addr) (c:Nat) (hx : ∀ x ∈ xs,x.ty≠0∨0<x.raw.size) (hl:xs.length≤100000) (w:World) (hC:Kd.C k62 w A xs.length xs) (hc:xs.length≤c) :
 Calls Tryz.prog 37 #[.slice A xs.length c] w fun e w'=>RIP w (xs.map GRes.imp) e w':=by
 have HX:=Ak hx
 have HC:=Ak hC
 have HR:=Ak (RI.nil w w w.heap.size)
 have HB:=Ak (Below.refl w.heap.size w)
 clear hx hC
 have hu62:=Tryz.underlying62
 have hu32:=Tryz.underlying32
 go_enter Tryz.func37,Tryz.ntmps37
 go_wp2
 go_loopg [3,8] (xs.length+1) (fun kq v3 v8 wl => ∃ i:Nat,v8 = .int .i64 (i:Int)∧Aside0 (i≤xs.length∧xs.length - i<kq)∧Aside0 (RI w wl w.heap.size v3 ((xs.take i).map GRes.imp))∧Aside0 (Below w.heap.size w wl))
 case atStart=>exact ⟨0,rfl,⟨by omega,by omega⟩,by simpa using HR,HB⟩
 case round =>
 clear HR HB
 obtain ⟨i,rfl,HA,HR,HB⟩:=hrel
 obtain ⟨a1,a2⟩:=HA.out
 clear HA
 cases gk with
 | zero=>omega
 | succ k1 =>
 by_cases hi:i=xs.length
 ·
  subst hi
  have cI:((xs.length:Int)<(xs.length:Int))=False:=eq_false (by omega)
  go_wp2
  go_ret
  exact ⟨_,rfl,by simpa using HR.out,HB.out⟩
 have hi':i<xs.length:=by omega
 have cI:((i:Int)<(xs.length:Int))=True:=eq_true (by omega)
 obtain ⟨ad,rfl,hcells⟩:=at62 HC.out (i:Int) (by omega) (by omega)
 have hm:rdG xs i ∈ xs:=by
  unfold rdG
  rw [Int.toNat_natCast,List.getD_eq_getElem?_getD,List.getElem?_eq_getElem hi']
  exact List.getElem_mem hi'
 have HM:=Ak (HX.out _ hm)
 have htk:(xs.take (i+1)).map GRes.imp=(xs.take i).map GRes.imp++[(rdG xs i).imp]:=by
  unfold rdG
  rw [Int.toNat_natCast,List.getD_eq_getElem?_getD,List.getElem?_eq_getElem hi',List.take_succ_eq_append_getElem hi',List.map_append]
  rfl
 have HT:=Ak htk
 clear hm htk
 rw [Int.toNat_natCast] at hcells
 have hcw : ∀ j u,(rdG xs i).cells.toList[j]? = some u→wr.cell? (ad.add (i*6+j))=some u:=fun j u h=>(HB.out.cell (World.block_lt_of_cell? _ _ (hcells j u h))).trans (hcells j u h)
 clear hcells
 generalize hq:rdG xs i=q at HM HT hcw
 obtain ⟨ty,raw,str,num,idx⟩:=q
 have h0:wr.cell? (ad.add (i*6))=some (.int .i64 ty):=hcw 0 _ rfl
 have h1:wr.cell? ⟨(ad.add (i*6)).block,(ad.add (i*6)).off+1,none⟩=some (.string raw):=by rw [← add_field _ _ 1 (by omega)];exact hcw 1 _ rfl
 have h2:wr.cell? ⟨(ad.add (i*6)).block,(ad.add (i*6)).off+2,none⟩=some (.string str):=by rw [← add_field _ _ 2 (by omega)];exact hcw 2 _ rfl
 have h3:wr.cell? ⟨(ad.add (i*6)).block,(ad.add (i*6)).off+3,none⟩=some (.float .f64 num):=by rw [← add_field _ _ 3 (by omega)];exact hcw 3 _ rfl
 have h4:wr.cell? ⟨(ad.add (i*6)).block,(ad.add (i*6)).off+4,none⟩=some (.int .i64 idx):=by rw [← add_field _ _ 4 (by omega)];exact hcw 4 _ rfl
 have h5:wr.cell? ⟨(ad.add (i*6)).block,(ad.add (i*6)).off+5,none⟩=some (.slice none 0 0):=by rw [← add_field _ _ 5 (by omega)];exact hcw 5 _ rfl
 clear hcw
 go_wp2_with (first
  | ((with_reducible refine gate_dst (N:=5) rfl ?_);refine box_event ?hg (N:=5) ?hd (cs := #[.int .i64 0, .string ByteArray.empty, .string ByteArray.empty, .float .f64 0, .int .i64 0, .slice none 0 0]) (t:=62) ?hr ?_;(case hd=>rfl);(case hg=>rfl);(case hr=>first|(go_simp;done)|(go_simp;rfl));intro g1 hg1 w1 hb1 hB1;have GE1:=Ak (by rw [hg1];exact HB.out.size:w.heap.size≤g1);have HB1:=Ak (below_step HB.out hB1);have G1:=Ak hg1;have B1:=Ak hB1;have BK1:=Ak hb1;clear hg1 hb1 hB1)
  | ((with_reducible refine gate_store (t:=62) (p:=5) rfl ?_);refine box_put (g:=g1) (cs := #[.int .i64 0, .string ByteArray.empty, .string ByteArray.empty, .float .f64 0, .int .i64 0, .slice none 0 0]) (cs' := #[.int .i64 ty, .string raw, .string str, .float .f64 num, .int .i64 idx, .slice none 0 0]) rfl rfl rfl rfl rfl rfl BK1.out rfl (by kernel_rfl) ?h1 ?_;(case h1=>intro q hq;simp only [List.mem_cons,List.not_mem_nil,or_false] at hq;rcases hq with rfl|rfl|rfl|rfl|rfl|rfl <;> rfl);intro w8 pb8;have HR8:=Ak (HR.out.box G1.out B1.out pb8);have HB8:=Ak (pb8.below HB1.out GE1.out);have hz0:=(blk_cell pb8.blk 0).trans rfl;have hz1:=(blk_cell pb8.blk 1).trans rfl;have hz2:=(blk_cell pb8.blk 2).trans rfl;have hz3:=(blk_cell pb8.blk 3).trans rfl;have hz4:=(blk_cell pb8.blk 4).trans rfl;have hz5:=(blk_cell pb8.blk 5).trans rfl;clear pb8 HR HB HB1 BK1 GE1 G1 B1 h0 h1 h2 h3 h4 h5)
  | (go_at_call 65;(refine (impl_gj.calls ⟨ty,raw,str,num,idx⟩ HM.out _).mono ?_);rintro e w9 ⟨he,hb9⟩;obtain rfl:e = .returned (.agg #[.int .i64 ty, .string raw, .string str, .float .f64 num, .bool true]):=he;have HB9:=Ak (below_step HB8.out hb9);have HR9:=Ak (HR8.out.below hb9);clear hb9 HB8 HR8 hz0 hz1 hz2 hz3 hz4 hz5)
  | ((with_reducible refine gate_builtin (b := .append) (xs := #[.tmp 12, .tmp 15]) rfl ?_);at_builtin;refine ap32 (w0:=w) w.heap.size rfl (.tmp 12) (.tmp 15) rfl u3 ((xs.take i).map GRes.imp) (GRes.imp ⟨ty,raw,str,num,idx⟩) rfl rfl HR9.out HB9.out HB9.out.size (by simp;omega) ?_;intro v5 w5 hR5 hB5 _;rw [← HT.out] at hR5;have HR5:=Ak hR5;have HB5:=Ak hB5;clear hR5 hB5 HR9 HB9))
 go_roundg k1
 case measure=>omega
 case rel=>exact ⟨i+1,by congr 1,⟨by omega,by omega⟩,HR5,HB5⟩
end Go.Proofs.YtnejkimpkaopoaaGreatDoor.Q
end

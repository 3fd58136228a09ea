/- laws.FnGjResultArrayOf (3). -/
import Derived.Test.YtnejkimpkaopoaaGreatDoorHk
import Derived.Test.YtnejkimpkaopoaaGreatDoorJ9
namespace Go.Proofs.YtnejkimpkaopoaaGreatDoor.Q
open RowKit YtnejkimpkaopoaaGreatDoorW.PrintWords YtnejkimpkaopoaaGreatDoorW.PrintLast YtnejkimpkaopoaaGreatDoorW.PrintMore
attribute [local go_sem] max2_int min2_int max_two min_two max_three min_three max_four min_four
set_option linter.unusedVariables false
set_option linter.unusedSimpArgs false
theorem prs_len {l:List (Int × ByteArray × ByteArray)} {ns:List S25} (h:U.Prs l ns):l.length=ns.length:=by
 induction h with
 | nil=>rfl
 | cons _ _ ih=>simp [ih]
theorem prs_at {l:List (Int × ByteArray × ByteArray)} {ns:List S25} (h:U.Prs l ns) : ∀ i:Nat,i<l.length→U.Same1 (l.getD i (0,ByteArray.empty,ByteArray.empty)) (ns.getD i z25):=by
 induction h with
 | nil=>intro i hi;simp at hi
 | cons h1 _ ih =>
  intro i hi
  cases i with
  | zero=>exact h1
  | succ i=>exact ih i (by simpa using hi)
structure LwI (w W:World) (g3:Nat) (n0:Int) (n1:ByteArray) (v2:Value) (ys:List IRes) (ns:List S25) (A5:Option Addr) (c5:Nat) (A6:Option Addr) (c6:Nat):Prop where
  blk:W.heap[g3]? = some (.cells #[.int .i64 n0, .string n1,v2, .slice A6 ns.length c6] 25 (0,0))
  got:Kd.C k32 W A5 ys.length ys
  kids:Kd.C k25 W A6 ns.length ns
  below:Below w.heap.size w W
theorem LwI.step {w W W1:World} {g3:Nat} {n0:Int} {n1:ByteArray} {v2:Value} {ys:List IRes} {ns:List S25} {A5:Option Addr} {c5:Nat} {A6:Option Addr} {c6:Nat} (h:LwI w W g3 n0 n1 v2 ys ns A5 c5 A6 c6) (hb:Below W.heap.size W W1):LwI w W1 g3 n0 n1 v2 ys ns A5 c5 A6 c6 :=
  ⟨blk_below h.blk hb,Kd.C_below h.got hb,Kd.C_below h.kids hb,below_step h.below hb⟩
theorem LwI.drew {w W:World} {g3:Nat} {n0:Int} {n1:ByteArray} {v2:Value} {ys:List IRes} {ns:List S25} {A5:Option Addr} {c5:Nat} {A6:Option Addr} {c6:Nat} (h:LwI w W g3 n0 n1 v2 ys ns A5 c5 A6 c6):LwI w W.drew g3 n0 n1 v2 ys ns A5 c5 A6 c6 :=
  ⟨blk_drew h.blk,Kd.C_drew h.got,Kd.C_drew h.kids,below_drew1 h.below⟩
noncomputable def hlT:Bool × List (List Nat × List Nat):=rtab .any (opsOf Tryz.f3 12)
def hlB:List Nat:=[0,0,3,7,0,16,0,112,240,511,1023]
theorem hltab:rtab .any (opsOf Tryz.f3 12)=hlT:=rfl
theorem hlbits:waitsOk hlT.2 hlB=true:=by kernel_rfl
set_option maxHeartbeats 8000000 in
set_option maxRecDepth 100000 in
theorem laws_FnGjResultArrayOf.calls (s:ByteArray) (w:World) (hP:PF w.heap.size w) (hPE:PE w.heap.size w) :
 Calls Tryz.prog 3 #[.string s] w fun e w'=>BoP w true e w':=by
 have hu25:=Tryz.underlying25
 have hu32:=Tryz.underlying32
 have hu23:=Tryz.underlying23
 have hu28:=Tryz.underlying28
 by_cases big:2147483647<s.size
 ·
  have cB:decide ((s.size:Int)>2147483647)=true:=decide_eq_true (by omega)
  have cB':((2147483647:Int)<(s.size:Int))=True:=eq_true (by omega)
  go_enter Tryz.func3,Tryz.ntmps3
  go_wp2
  go_ret
  exact ⟨rfl,Below.refl _ _⟩
 have cB':((2147483647:Int)<(s.size:Int))=False:=eq_false (by omega)
 obtain ⟨⟨n0,n1,n2,n3⟩,ok,k,hT,hL⟩:=U.array_law s
 have H7:=Ak (fun W=>laws_gjText.calls k s ⟨n0,n1,n2,n3⟩ ok W hT)
 have HL:=Ak hL
 have HP:=Ak hP
 have HPE:=Ak hPE
 clear hT hL hP hPE
 go_enter Tryz.func3,Tryz.ntmps3
 have HB0:=Ak (Below.refl w.heap.size w)
 go_upto_region 4 with (first
  | (go_at_call 7;(refine (H7.out _).mono ?_);rintro e w2 ⟨v,rfl,⟨v2,v3,rfl,ho2,ho3⟩,hb⟩;have HB2:=Ak (below_step HB0.out hb);have HO2:=Ak ho2;have HO3:=Ak ho3;clear hb ho2 ho3 HB0)
  | ((with_reducible refine gate_dst (N:=3) rfl ?_);refine box_event ?hg (N:=3) ?hd (cs := #[.int .i64 0, .string ByteArray.empty, .slice none 0 0, .slice none 0 0]) (t:=25) ?hr ?_;(case hd=>rfl);(case hg=>rfl);(case hr=>first|(go_simp;done)|(go_simp;rfl));intro g3 hg3 w3 hb3 hB3;have G3:=Ak hg3;have B3:=Ak hB3;have HB3:=Ak (below_step HB2.out hB3);have BK3:=Ak hb3;clear hg3 hb3 hB3)
  | ((with_reducible refine gate_store (t:=25) (p:=3) rfl ?_);refine box_put (g:=g3) (cs := #[.int .i64 0, .string ByteArray.empty, .slice none 0 0, .slice none 0 0]) (cs' := #[.int .i64 n0, .string n1,v2,v3]) rfl rfl rfl rfl rfl rfl BK3.out rfl (by kernel_rfl) ?h1 ?_;(case h1=>intro q hq;simp only [List.mem_cons,List.not_mem_nil,or_false] at hq;rcases hq with rfl|rfl|rfl|rfl;exact rfl;exact rfl;exact (Kd.R_val HO2.out).2;exact (Kd.R_val HO3.out).2);intro w4 pb4;have PB4:=Ak pb4;clear pb4))
 have HB4:=Ak (PB4.out.below HB3.out (by have:=HB2.out.size;rw [G3.out];exact this))
 have BK4:=Ak PB4.out.blk
 have C3:=Ak (Kd.R_reads (Kd.R_step HO3.out (fun k _ hk=>(PB4.out.far k (by have:=G3.out;omega)).trans (B3.out.block k hk))))
 clear G3 B3 HB3 HB2 BK3 PB4 HO2 HO3 H7
 have z0:=(blk_cell BK4.out 0).trans rfl
 cases ok with
 | false =>
  go_wp2
  go_ret
  exact ⟨rfl,HB4.out⟩
 | true =>
 by_cases c5:n0=5
 case neg =>
  have c5':(n0 != 5)=true:=by simpa using c5
  go_wp2
  go_ret
  exact ⟨rfl,HB4.out⟩
 subst c5
 obtain ⟨hs,hpos,hE⟩:=HL.out rfl rfl
 have cI:((0:Int)<(s.size:Int))=True:=eq_true (by omega)
 have e0:=bt_nat hpos
 by_cases c91:bt s 0=91
 case neg =>
  have c91':(bt s 0 != 91)=true:=by simpa using c91
  go_wp2
  go_ret
  exact ⟨rfl,HB4.out⟩
 have e0:=(bt_nat hpos).trans c91
 have hlast:s.size - 1<s.size:=by omega
 have e9:=bt_nat hlast
 have hw1:IntKind.i64.wrap ((s.size:Int) - 1)=((s.size - 1:Nat):Int):=(IntWalk.i64_in _ (by omega)).trans (by omega)
 have cJ:(((s.size - 1:Nat):Int)<(s.size:Int))=True:=eq_true (by omega)
 by_cases c93:bt s ((s.size - 1:Nat):Int)=93
 case neg =>
  have c93':(bt s ((s.size - 1:Nat):Int) != 93)=true:=by simpa using c93
  go_wp2
  go_ret
  exact ⟨rfl,HB4.out⟩
 have e9:=(bt_nat hlast).trans c93
 obtain ⟨l,hEl,hPr⟩:=hE c91
 have hN3:n3.length≤100000:=by have h5:=hEl.length;have h6:=prs_len hPr;omega
 obtain ⟨A6,c6,rfl,l6,hC6⟩:=C3.out
 have H8:=Ak (fun W h2 h3=>impl_GjResultArray.calls s l c91 hpos hEl (by omega) W h2 h3)
 have HPr:=Ak hPr
 have HC6:=Ak hC6
 clear hE hEl hPr hC6 C3 HL
 go_upto_region 7 with (first
  | (go_at_call 8;(refine (H8.out _ (HP.out.up HB4.out.size HB4.out) (HPE.out.up HB4.out.size HB4.out)).mono ?_);rintro e w5 ⟨v,ys,rfl,hR,hX,hEx,hb5⟩;have HR5:=Ak hR;have HX:=Ak hX;have HEx:=Ak hEx;have HB5:=Ak hb5;clear hR hX hEx hb5))
 --LOOP
 obtain ⟨A5,c5,rfl,l5,hC5⟩:=Kd.R_reads HR5.out
 have LW:Aside0 (LwI w w5 g3 5 n1 v2 ys n3 A5 c5 A6 c6):=⟨⟨blk_below BK4.out HB5.out,hC5,Kd.C_below HC6.out HB5.out,below_step HB4.out HB5.out⟩⟩
 have hlen:ys.length=n3.length:=(by have h5:=prs_len HPr.out;rw [← HX.out,List.length_map] at h5;exact h5)
 have z3:=(blk_cell LW.out.blk 3).trans rfl
 have hln:((ys.length:Int) != (n3.length:Int))=false:=by rw [hlen];exact bne_self_eq_false _
 clear hC5 z0 BK4 HB4 HC6 H8 HP HPE HR5 HB5 hw1 cJ cI
 go_wp2
 clear z3 hln
 go_loopg [46] (n3.length+1) (fun kq v46 wl => ∃ i:Nat,v46 = .int .i64 (i:Int)∧Aside0 (i≤n3.length∧n3.length - i<kq)∧Aside0 (LwI w wl g3 5 n1 v2 ys n3 A5 c5 A6 c6))
 case atStart=>exact ⟨0,rfl,⟨by omega,by omega⟩,LW⟩
 case round =>
 clear LW
 obtain ⟨i,rfl,HA,LW⟩:=hrel
 obtain ⟨a1,a2⟩:=HA.out
 clear HA
 cases gk with
 | zero=>omega
 | succ k1 =>
 by_cases hi:i=n3.length
 ·
  have cI:((i:Int)<(ys.length:Int))=False:=eq_false (by omega)
  go_wp2
  go_ret
  exact ⟨rfl,LW.out.below⟩
 have hi':i<n3.length:=by omega
 have cI:((i:Int)<(ys.length:Int))=True:=eq_true (by omega)
 have cI2:((i:Int)<(n3.length:Int))=True:=eq_true (by omega)
 have cI0:((0:Int)≤(i:Int))=True:=eq_true (by omega)
 have hs1:=prs_at HPr.out i (by have:=prs_len HPr.out;omega)
 rw [← HX.out] at hs1
 have hex:(rdI ys i).ex=true:=HEx.out _ (by
  unfold rdI
  rw [Int.toNat_natCast,List.getD_eq_getElem?_getD,List.getElem?_eq_getElem (by omega)]
  exact List.getElem_mem _)
 have hrd1:(List.map (fun r=>(r.kd,r.raw,r.str)) ys).getD i (0,ByteArray.empty,ByteArray.empty)=((rdI ys i).kd,(rdI ys i).raw,(rdI ys i).str):=by
  unfold rdI
  rw [Int.toNat_natCast,List.getD_eq_getElem?_getD,List.getElem?_map,List.getElem?_eq_getElem (by omega),List.getD_eq_getElem?_getD,List.getElem?_eq_getElem (by omega)]
  rfl
 rw [hrd1] at hs1
 clear hrd1
 have hsn:n3.getD i z25=rd_T25 n3 i:=by unfold rd_T25;rw [Int.toNat_natCast]
 rw [hsn] at hs1
 clear hsn
 obtain ⟨ad,rfl,hq⟩:=at32 LW.out.got (i:Int) (by omega) (by omega)
 obtain ⟨ad2,A2,c2,A3,c3,rfl,t0,t1,t2,t3,ul2,u2,ul3,u3⟩:=at_T25 LW.out.kids (i:Int) (by omega) (by omega)
 rw [Int.toNat_natCast] at hq t0 t1 t2 t3
 obtain ⟨⟨kr,hrd⟩,hkd,hst,⟨ks,hsm⟩⟩:=hs1
 generalize rdI ys i=q at hq hex hrd hkd hst
 obtain ⟨kd,raw,str,num,ex⟩:=q
 obtain rfl:ex=true:=hex
 generalize rd_T25 n3 i=qn at t0 t1 t2 t3 ul2 u2 ul3 u3 hrd hkd hst hsm
 obtain ⟨f0,f1,f2,f3⟩:=qn
 dsimp only at hrd hkd hst hsm t0 t1 t2 t3 ul2 u2 ul3 u3
 have q0:wr.cell? (ad.add (i*5))=some (.int .i64 kd):=hq 0 _ rfl
 have q1:wr.cell? ⟨(ad.add (i*5)).block,(ad.add (i*5)).off+1,none⟩=some (.string raw):=by rw [← add_field _ _ 1 (by omega)];exact hq 1 _ rfl
 have q2:wr.cell? ⟨(ad.add (i*5)).block,(ad.add (i*5)).off+2,none⟩=some (.string str):=by rw [← add_field _ _ 2 (by omega)];exact hq 2 _ rfl
 have q3:wr.cell? ⟨(ad.add (i*5)).block,(ad.add (i*5)).off+3,none⟩=some (.float .f64 num):=by rw [← add_field _ _ 3 (by omega)];exact hq 3 _ rfl
 have q4:wr.cell? ⟨(ad.add (i*5)).block,(ad.add (i*5)).off+4,none⟩=some (.bool true):=by rw [← add_field _ _ 4 (by omega)];exact hq 4 _ rfl
 have r3:wr.cell? ⟨g3,3,none⟩=some (.slice (some ad2) n3.length c6):=(blk_cell LW.out.blk 3).trans rfl
 clear hq
 go_upto_region 12 with (fail)
 refine start_ (n:=11) (S:=fun w'=>w'.cell? (ad.add (i*5))=some (.int .i64 kd)∧w'.cell? (⟨(ad.add (i*5)).block,(ad.add (i*5)).off+1,none⟩)=some (.string raw)∧w'.cell? (⟨(ad.add (i*5)).block,(ad.add (i*5)).off+2,none⟩)=some (.string str)∧w'.cell? (⟨(ad.add (i*5)).block,(ad.add (i*5)).off+3,none⟩)=some (.float .f64 num)∧w'.cell? (⟨(ad.add (i*5)).block,(ad.add (i*5)).off+4,none⟩)=some (.bool true)∧w'.cell? (⟨g3,3,none⟩)=some (.slice (some ad2) n3.length c6)∧w'.cell? (ad2.add (i*4))=some (.int .i64 f0)∧w'.cell? (⟨(ad2.add (i*4)).block,(ad2.add (i*4)).off+1,none⟩)=some (.string f1)∧w'.cell? (⟨(ad2.add (i*4)).block,(ad2.add (i*4)).off+2,none⟩)=some (.slice A2 f2.length c2)∧w'.cell? (⟨(ad2.add (i*4)).block,(ad2.add (i*4)).off+3,none⟩)=some (.slice A3 f3.length c3)) (ds:=[]) #[false,false,false,false,false,false,false,false,false,false,false] (by kernel_rfl) rfl rfl ⟨q0,q1,q2,q3,q4,r3,t0,t1,t2,t3⟩ (fun hHeld=>?_);refine with_tabW hltab hlbits (fun HT_ HW_=>?_)
 refine zP 0 (some 49) (mA 11 1) ?_
 refine zP 1 (some 50) (mA 11 3) ?_
 refine zP 2 (some 51) (mA 11 7) ?_
 refine zP 4 (some 53) (mA 11 23) ?_
 refine zP 6 (some 55) (mA 11 87) ?_
 refine zT 3 (some 52) (mA 11 95) ?_
 refine zT 5 (some 54) (mA 11 127) ?_
 refine zP 7 (some 56) (mA 11 255) ?_
 refine zT 8 (some 57) (mA 11 511) ?_
 refine zO 9 (some 58) (mA 11 1023) (fun K hK=>?_)
 refine goes_ Tryz.func9 (by kernel_rfl) rfl #[.agg #[.int .i64 kd, .string raw, .string str, .float .f64 num, .bool true], .agg #[.int .i64 f0, .string f1, .slice A2 f2.length c2, .slice A3 f3.length c3]] (by rfl) rfl rfl (by (try simp only [List.map_toArray,List.map_cons,List.map_nil]);first|done|rfl) ?_
 refine (laws_gjIs.calls kd raw str num f0 f1 f2 f3 A2 c2 A3 c3 kr ks _ (Kd.C_drew u2) ul2 (Kd.C_drew u3) ul3 hrd hkd hsm hst).mono ?_
 rintro e w7 ⟨rfl,hb7⟩
 refine ⟨_,rfl,?_⟩
 have LW7:=Ak (LW.out.drew.step hb7)
 have tr : ∀ p u,wr.cell? p=some u→w7.cell? p=some u:=fun p u h=>(Below.cell hb7 (World.block_lt_of_cell? _ _ h)).trans h
 refine hK.out _ _ ⟨tr _ _ q0,tr _ _ q1,tr _ _ q2,tr _ _ q3,tr _ _ q4,tr _ _ r3,tr _ _ t0,tr _ _ t1,tr _ _ t2,tr _ _ t3⟩ (fun hHeld=>?_)
 clear hK K tr hb7
 refine norm_ (a':=?_) ?_ ?_
 rotate_left
 ·
  show Act.put _ (some 58) _=_
  simp only [Act.put,List.setIfInBounds_toArray,List.set_cons_zero,List.set_cons_succ,i64_w,i32_w]
  rfl
 refine zP 10 (some 59) (mA 11 2047) ?_
 refine done_ (done_of HT_.out (by kernel_rfl)) ?_
 clear HT_ HW_ hHeld
 go_wp2
 go_roundg k1
 case measure=>omega
 case rel=>exact ⟨i+1,by congr 1,⟨by omega,by omega⟩,LW7⟩
end Go.Proofs.YtnejkimpkaopoaaGreatDoor.Q

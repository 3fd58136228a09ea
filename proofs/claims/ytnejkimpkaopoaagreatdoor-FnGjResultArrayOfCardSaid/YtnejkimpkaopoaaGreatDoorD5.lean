/- The decimal of internal/strconv as it lies in memory: 800 digits, nd, dp, neg, trunc. -/
import Derived.Test.YtnejkimpkaopoaaGreatDoorQ0
import Derived.Test.YtnejkimpkaopoaaGreatDoorX1
import Derived.BigRegion
import Derived.Deep.QuietTactic
import Derived.BigQuiet
section
namespace Go.Proofs.YtnejkimpkaopoaaGreatDoor.Q
open RowKit YtnejkimpkaopoaaGreatDoorW.PrintWords YtnejkimpkaopoaaGreatDoorW.PrintLast YtnejkimpkaopoaaGreatDoorW.PrintMore
attribute [local go_sem] max2_int min2_int max_two min_two max_three min_three max_four min_four
set_option linter.unusedVariables false
set_option linter.unusedSimpArgs false
def upd (d:Nat→Int) (i:Nat) (x:Int):Nat→Int:=fun j=>if j=i then x else d j
theorem upd_same (d:Nat→Int) (i:Nat) (x:Int):upd d i x i=x:=if_pos rfl
theorem upd_ne (d:Nat→Int) {i j:Nat} (x:Int) (h:j≠i):upd d i x j=d j:=if_neg h
def DecB (cs:Array Value) (d:Nat→Int) (nd dp:Int) (neg tr:Bool):Prop :=
  cs.size=804∧(∀ i:Nat,i<800→cs[i]? = some (.int .u8 (d i)))∧cs[800]? = some (.int .i64 nd)∧cs[801]? = some (.int .i64 dp)∧cs[802]? = some (.bool neg)∧cs[803]? = some (.bool tr)
def Dec (W:World) (g:Nat) (d:Nat→Int) (nd dp:Int) (neg tr:Bool):Prop := ∃ cs,W.heap[g]? = some (.cells cs 253 (0,0))∧DecB cs d nd dp neg tr
section
variable {W:World} {g:Nat} {d:Nat→Int} {nd dp:Int} {neg tr:Bool}
theorem Dec.digit (h:Dec W g d nd dp neg tr) (i:Nat) (hi:i<800):W.cell? ⟨g,i,none⟩=some (.int .u8 (d i)):=by
 obtain ⟨cs,h1,h2⟩:=h;exact (blk_cell h1 i).trans (h2.2.1 i hi)
theorem Dec.c800 (h:Dec W g d nd dp neg tr):W.cell? ⟨g,800,none⟩=some (.int .i64 nd):=by
 obtain ⟨cs,h1,h2⟩:=h;exact (blk_cell h1 800).trans h2.2.2.1
theorem Dec.c801 (h:Dec W g d nd dp neg tr):W.cell? ⟨g,801,none⟩=some (.int .i64 dp):=by
 obtain ⟨cs,h1,h2⟩:=h;exact (blk_cell h1 801).trans h2.2.2.2.1
theorem Dec.c802 (h:Dec W g d nd dp neg tr):W.cell? ⟨g,802,none⟩=some (.bool neg):=by
 obtain ⟨cs,h1,h2⟩:=h;exact (blk_cell h1 802).trans h2.2.2.2.2.1
theorem Dec.c803 (h:Dec W g d nd dp neg tr):W.cell? ⟨g,803,none⟩=some (.bool tr):=by
 obtain ⟨cs,h1,h2⟩:=h;exact (blk_cell h1 803).trans h2.2.2.2.2.2
theorem Dec.frozen (h:Dec W g d nd dp neg tr) (i:Nat):W.frozen? ⟨g,i,none⟩=false:=by
 obtain ⟨cs,h1,h2⟩:=h;exact blk_frozen h1 i
theorem Dec.setD (h:Dec W g d nd dp neg tr) (i:Nat) (hi:i<800) (x:Int):Dec (W.setCell ⟨g,i,none⟩ (.int .u8 x)) g (upd d i x) nd dp neg tr:=by
 obtain ⟨cs,h1,s,a,b,c,e,f⟩:=h
 refine ⟨cs.setIfInBounds i (.int .u8 x),blk_set h1 i _,by simpa using s,fun j hj=>?_,?_,?_,?_,?_⟩
 ·
  by_cases hij:i=j
  ·
   subst hij;rw [upd_same,Array.getElem?_setIfInBounds_self_of_lt (by omega)]
  rw [Array.getElem?_setIfInBounds_ne hij,upd_ne _ _ (Ne.symm hij)];exact a j hj
 all_goals (rw [Array.getElem?_setIfInBounds_ne (by omega)];assumption)
theorem Dec.setN (h:Dec W g d nd dp neg tr) (x:Int):Dec (W.setCell ⟨g,800,none⟩ (.int .i64 x)) g d x dp neg tr:=by
 obtain ⟨cs,h1,s,a,b,c,e,f⟩:=h
 refine ⟨cs.setIfInBounds 800 (.int .i64 x),blk_set h1 800 _,by simpa using s,fun j hj=>?_,?_,?_,?_,?_⟩
 ·
  rw [Array.getElem?_setIfInBounds_ne (by omega)];exact a j hj
 ·
  rw [Array.getElem?_setIfInBounds_self_of_lt (by omega)]
 all_goals (rw [Array.getElem?_setIfInBounds_ne (by omega)];assumption)
theorem Dec.setP (h:Dec W g d nd dp neg tr) (x:Int):Dec (W.setCell ⟨g,801,none⟩ (.int .i64 x)) g d nd x neg tr:=by
 obtain ⟨cs,h1,s,a,b,c,e,f⟩:=h
 refine ⟨cs.setIfInBounds 801 (.int .i64 x),blk_set h1 801 _,by simpa using s,fun j hj=>?_,?_,?_,?_,?_⟩
 ·
  rw [Array.getElem?_setIfInBounds_ne (by omega)];exact a j hj
 ·
  rw [Array.getElem?_setIfInBounds_ne (by omega)];assumption
 ·
  rw [Array.getElem?_setIfInBounds_self_of_lt (by omega)]
 all_goals (rw [Array.getElem?_setIfInBounds_ne (by omega)];assumption)
theorem Dec.setS (h:Dec W g d nd dp neg tr) (x:Bool):Dec (W.setCell ⟨g,802,none⟩ (.bool x)) g d nd dp x tr:=by
 obtain ⟨cs,h1,s,a,b,c,e,f⟩:=h
 refine ⟨cs.setIfInBounds 802 (.bool x),blk_set h1 802 _,by simpa using s,fun j hj=>?_,?_,?_,?_,?_⟩
 ·
  rw [Array.getElem?_setIfInBounds_ne (by omega)];exact a j hj
 ·
  rw [Array.getElem?_setIfInBounds_ne (by omega)];assumption
 ·
  rw [Array.getElem?_setIfInBounds_ne (by omega)];assumption
 ·
  rw [Array.getElem?_setIfInBounds_self_of_lt (by omega)]
 rw [Array.getElem?_setIfInBounds_ne (by omega)];assumption
theorem Dec.setT (h:Dec W g d nd dp neg tr) (x:Bool):Dec (W.setCell ⟨g,803,none⟩ (.bool x)) g d nd dp neg x:=by
 obtain ⟨cs,h1,s,a,b,c,e,f⟩:=h
 refine ⟨cs.setIfInBounds 803 (.bool x),blk_set h1 803 _,by simpa using s,fun j hj=>?_,?_,?_,?_,?_⟩
 ·
  rw [Array.getElem?_setIfInBounds_ne (by omega)];exact a j hj
 ·
  rw [Array.getElem?_setIfInBounds_ne (by omega)];assumption
 ·
  rw [Array.getElem?_setIfInBounds_ne (by omega)];assumption
 ·
  rw [Array.getElem?_setIfInBounds_ne (by omega)];assumption
 rw [Array.getElem?_setIfInBounds_self_of_lt (by omega)]
theorem Dec.drewN (h:Dec W g d nd dp neg tr) (n:Nat):Dec (W.drewN n) g d nd dp neg tr:=h
theorem Dec.drew (h:Dec W g d nd dp neg tr):Dec W.drew g d nd dp neg tr:=h
end
structure KB (b g:Nat) (w w':World):Prop where
  keep:KeepBut w w' g none
  below:Below b w w'
  ge:b≤g
theorem KB.refl {b g:Nat} (w:World) (h:b≤g):KB b g w w:=⟨KeepBut.refl w g none,Below.refl b w,h⟩
theorem KB.set_ {b g:Nat} {w W:World} (h:KB b g w W) (i:Nat) (u:Value):KB b g w (W.setCell ⟨g,i,none⟩ u):=⟨h.keep.set_ i u,h.below.setCell h.ge u,h.ge⟩
theorem KB.drewN {b g:Nat} {w W:World} (h:KB b g w W) (n:Nat):KB b g w (W.drewN n):=⟨keep_drewN h.keep n,pw_below_drewN h.below n,h.ge⟩
theorem KB.drew {b g:Nat} {w W:World} (h:KB b g w W):KB b g w W.drew:=⟨keep_drew h.keep,below_drew1 h.below,h.ge⟩
theorem KB.trans {b g:Nat} {w W V:World} (h:KB b g w W) (k:KB b g W V):KB b g w V:=⟨h.keep.trans k.keep (.inl rfl),h.below.trans k.below,h.ge⟩
def Dig (d:Nat→Int) (nd:Nat):Prop:=nd≤800∧(∀ i,i<nd→48≤d i∧d i≤57)∧(0<nd→49≤d 0)
set_option maxHeartbeats 8000000 in
set_option maxRecDepth 100000 in
theorem strconv_trim.calls (b g nd:Nat) (d:Nat→Int) (dp:Int) (neg tr:Bool) (w:World) (hD:Dec w g d nd dp neg tr) (hn:0<nd) (hd:Dig d nd) (hb:b≤g) :
 Calls Tryz.prog 262 #[.pointer (some ⟨g,0,none⟩)] w fun e w'=>e = .returned (.tuple #[]) ∧ ∃ m:Nat,0<m∧m≤nd∧Dec w' g d m dp neg tr∧KB b g w w':=by
 have HD:=Ak hD
 have Hd:=Ak hd
 clear hD hd
 go_enter Tryz.func262,Tryz.ntmps262
 go_wp2
 go_loopg [] (nd+1) (fun kq wl => ∃ m:Nat,Aside0 (0<m∧m≤nd∧m<kq)∧Aside0 (Dec wl g d m dp neg tr)∧Aside0 (KB b g w wl))
 case atStart=>exact ⟨nd,⟨hn,Nat.le_refl _,by omega⟩,HD,⟨KB.refl w hb⟩⟩
 case round =>
 clear HD
 obtain ⟨m,HA,HD,HK⟩:=hrel
 obtain ⟨hm0,hm,hmk⟩:=HA.out
 clear HA
 have h800:nd≤800:=Hd.out.1
 cases gk with
 | zero=>omega
 | succ k1 =>
  have hc0:=HD.out.c800
  have hc1:=HD.out.c801
  have hf0:=HD.out.frozen 800
  have hf1:=HD.out.frozen 801
  have hcd:=HD.out.digit (m - 1) (by omega)
  have c1:decide ((0:Int)<(m:Int))=true:=decide_eq_true (by omega)
  have p1:((0:Int)<(m:Int))=True:=eq_true (by omega)
  have wm1:wrap64 ((m:Int) - 1)=(m:Int) - 1:=by unfold wrap64;omega
  have pm1:((1:Int)≤(m:Int))=True:=eq_true (by omega)
  have qm1:((m:Int) - 1<800)=True:=eq_true (by omega)
  have tm1:((m:Int) - 1).toNat=m - 1:=by omega
  by_cases c4:d (m - 1)=48
  rotate_left
  ·
   obtain ⟨x,hx⟩ : ∃ x,d (m - 1)=x:=⟨_,rfl⟩
   rw [hx] at hcd c4
   have c42:(x == 48)=false:=by simpa using c4
   clear hx c4
   have z0:((m:Int) == 0)=false:=beq_eq_false_iff_ne.2 (by omega)
   go_wp2
   go_quiet (fail)
   go_wp2
   refine bodyPost_end (v := .tuple #[]) (results_none rfl _ _ _) rfl ⟨rfl,m,hm0,hm,HD.out.drewN _,HK.out.drewN _⟩
  have hm2:0<m - 1:=by
   by_cases h:m=1
   rotate_left
   ·
    omega
   have h0:=Hd.out.2.2 (by omega)
   rw [h] at c4
   have c4:d 0=48:=c4
   omega
  rw [c4] at hcd
  clear c4
  go_wp2
  go_quiet (fail)
  go_wp2
  go_roundg k1
  case measure=>omega
  case rel=>exact ⟨m - 1,⟨hm2,by omega,by omega⟩,⟨by rw [show ((m - 1:Nat):Int)=(m:Int) - 1 by omega];exact (HD.out.drewN _).setN _⟩,⟨(HK.out.drewN _).set_ _ _⟩⟩
end Go.Proofs.YtnejkimpkaopoaaGreatDoor.Q
end
section
/- shouldRoundUp, RoundedInteger of internal/strconv's decimal: they return, and the world stays. -/
namespace Go.Proofs.YtnejkimpkaopoaaGreatDoor.Q
open RowKit YtnejkimpkaopoaaGreatDoorW.PrintWords YtnejkimpkaopoaaGreatDoorW.PrintLast YtnejkimpkaopoaaGreatDoorW.PrintMore
set_option maxHeartbeats 8000000
set_option maxRecDepth 100000
attribute [local go_sem] max2_int min2_int max_two min_two max_three min_three max_four min_four
set_option linter.unusedVariables false
set_option linter.unusedSimpArgs false
def BoolP (e:Ending):Prop := ∃ b:Bool,e = .returned (.bool b)
def U64P (e:Ending):Prop := ∃ n:Nat,n<18446744073709551616∧e = .returned (.int .u64 (n:Int))
theorem BoolP.mk (b:Bool):BoolP (.returned (.bool b)):=⟨b,rfl⟩
theorem U64P.mk {n:Int} (h0:0≤n) (h1:n<18446744073709551616):U64P (.returned (.int .u64 n)):=⟨n.toNat,by omega,by rw [show ((n.toNat:Nat):Int)=n by omega]⟩
theorem strconv_shouldRoundUp.calls (g nd:Nat) (i:Int) (d:Nat→Int) (dp:Int) (neg tr:Bool) (w:World) (hD:Dec w g d nd dp neg tr) (hd:Dig d nd) :
 Calls Tryz.prog 265 #[.pointer (some ⟨g,0,none⟩), .int .i64 i] w fun e w'=>BoolP e∧w=w':=by
 have HD:=Ak hD
 have Hd:=Ak hd
 have hc0:=HD.out.c800
 have hct:=HD.out.c803
 have h800:=hd.1
 clear hD hd
 go_enter Tryz.func265,Tryz.ntmps265
 by_cases c0:i<0
 ·
  go_wp2
  go_ret
  exact ⟨BoolP.mk _,rfl⟩
 by_cases c1:(nd:Int)≤i
 ·
  have c1t:((nd:Int)≤i)=True:=eq_true c1
  go_wp2
  go_ret
  exact ⟨BoolP.mk _,rfl⟩
 obtain ⟨j,rfl⟩ : ∃ j:Nat,i=(j:Int):=⟨i.toNat,by omega⟩
 have hj:j<nd:=by omega
 have c1t:((nd:Int)≤(j:Int))=False:=eq_false c1
 have hcj:=HD.out.digit j (by omega)
 have hdj:=Hd.out.2.1 j hj
 have hw1:wrap64 ((j:Int)+1)=(j:Int)+1:=by unfold wrap64;omega
 have hwm:wrap64 ((j:Int) - 1)=(j:Int) - 1:=by unfold wrap64;omega
 obtain ⟨x,hx⟩ : ∃ x,d j=x:=⟨_,rfl⟩
 rw [hx] at hcj hdj
 clear hx
 by_cases c5:x=53
 rotate_left
 ·
  go_wp2
  go_ret
  exact ⟨BoolP.mk _,rfl⟩
 subst c5
 by_cases c6:(j:Int)+1=(nd:Int)
 ·
  cases tr with
  | true =>
   go_wp2
   go_ret
   exact ⟨BoolP.mk _,rfl⟩
  | false =>
   by_cases c7:j=0
   ·
    subst c7
    go_wp2
    go_ret
    exact ⟨BoolP.mk _,rfl⟩
   have hcp:=HD.out.digit (j - 1) (by omega)
   have hdq:=Hd.out.2.1 (j - 1) (by omega)
   obtain ⟨y,hy⟩ : ∃ y,d (j - 1)=y:=⟨_,rfl⟩
   rw [hy] at hcp hdq
   clear hy
   have c7t:decide ((0:Int)<(j:Int))=true:=decide_eq_true (by omega)
   have pm1:((1:Int)≤(j:Int))=True:=eq_true (by omega)
   have qm1:((j:Int) - 1<800)=True:=eq_true (by omega)
   have tm1:((j:Int) - 1).toNat=j - 1:=by omega
   go_wp2
   go_ret
   exact ⟨BoolP.mk _,rfl⟩
 go_wp2
 go_ret
 exact ⟨BoolP.mk _,rfl⟩
theorem u64_lo (x:Int):0≤IntKind.u64.wrap x:=by rw [IntKind.wrap_u64];omega
theorem u64_hi (x:Int):IntKind.u64.wrap x<18446744073709551616:=by rw [IntKind.wrap_u64];omega
theorem strconv_RoundedInteger.calls (g nd:Nat) (d:Nat→Int) (dp:Int) (neg tr:Bool) (w:World) (hD:Dec w g d nd dp neg tr) (hd:Dig d nd) :
 Calls Tryz.prog 252 #[.pointer (some ⟨g,0,none⟩)] w fun e w'=>U64P e∧w=w':=by
 have HD:=Ak hD
 have Hd:=Ak hd
 have hc0:=HD.out.c800
 have hc1:=HD.out.c801
 have h800:=hd.1
 clear hD hd
 go_enter Tryz.func252,Tryz.ntmps252
 by_cases c0:20<dp
 ·
  go_wp2
  go_ret
  exact ⟨U64P.mk (by decide) (by decide),rfl⟩
 go_upto_block 0 with (fail)
 go_cut [3,4] (fun v3 v4 wc => ∃ (i:Nat) (n:Int),v3 = .int .i64 (i:Int)∧v4 = .int .u64 n∧Aside0 (i≤800∧0≤n∧n<18446744073709551616)∧w=wc)
 case first =>
  go_wp2
  go_loopg [3,4] (nd+1) (fun kq v3 v4 wl => ∃ (i:Nat) (n:Int),v3 = .int .i64 (i:Int)∧v4 = .int .u64 n∧Aside0 (i≤nd∧nd - i<kq∧0≤n∧n<18446744073709551616)∧w=wl)
  case atStart=>exact ⟨0,0,rfl,rfl,⟨by omega,by omega,by omega,by omega⟩,rfl⟩
  case round =>
  obtain ⟨i,n,rfl,rfl,HA,rfl⟩:=hrel
  obtain ⟨f1,f2,f3,f4⟩:=HA.out
  clear HA
  cases gk with
  | zero=>omega
  | succ k1 =>
  by_cases c:(i:Int)<dp
  rotate_left
  ·
   go_wp2
   go_meet
   case rel=>exact ⟨i,n,rfl,rfl,⟨by omega,by omega,by omega⟩,rfl⟩
  by_cases c2:i<nd
  ·
   have hci:=HD.out.digit i (by omega)
   have hdi:=Hd.out.2.1 i c2
   have c2t:((i:Int)<(nd:Int))=True:=eq_true (by omega)
   have hw1:wrap64 ((i:Int)+1)=(i:Int)+1:=by unfold wrap64;omega
   obtain ⟨x,hx⟩ : ∃ x,d i=x:=⟨_,rfl⟩
   rw [hx] at hci hdi
   clear hx
   go_wp2
   go_roundg k1
   case measure=>omega
   case rel=>exact ⟨i+1,_,by congr 1,rfl,⟨by omega,by omega,u64_lo _,u64_hi _⟩,rfl⟩
  have c2t:((i:Int)<(nd:Int))=False:=eq_false (by omega)
  go_wp2
  go_meet
  case rel=>exact ⟨i,n,rfl,rfl,⟨by omega,by omega,by omega⟩,rfl⟩
 case rest =>
 obtain ⟨i0,n0,rfl,rfl,HA,rfl⟩:=hcut
 obtain ⟨e1,e2,e3⟩:=HA.out
 clear HA
 go_upto_block 2 with (fail)
 go_cut [3,4] (fun v3 v4 wc => ∃ (i:Int) (n:Int),v3 = .int .i64 i∧v4 = .int .u64 n∧Aside0 (0≤n∧n<18446744073709551616)∧w=wc)
 case first =>
  go_wp2
  go_loopg [3,4] (30+1) (fun kq v3 v4 wl => ∃ (i:Nat) (n:Int),v3 = .int .i64 (i:Int)∧v4 = .int .u64 n∧Aside0 (i≤800∧30<kq+i∧0≤n∧n<18446744073709551616)∧w=wl)
  case atStart=>exact ⟨i0,n0,rfl,rfl,⟨by omega,by omega,by omega,by omega⟩,rfl⟩
  case round =>
  clear e1 e2 e3
  obtain ⟨i,n,rfl,rfl,HA,rfl⟩:=hrel
  obtain ⟨f1,f2,f3,f4⟩:=HA.out
  clear HA
  by_cases c:(i:Int)<dp
  rotate_left
  ·
   go_wp2
   go_meet
   case rel=>exact ⟨i,n,rfl,rfl,⟨by omega,by omega⟩,rfl⟩
  cases gk with
  | zero=>omega
  | succ k1 =>
  have hw1:wrap64 ((i:Int)+1)=(i:Int)+1:=by unfold wrap64;omega
  go_wp2
  go_roundg k1
  case measure=>omega
  case rel=>exact ⟨i+1,_,by congr 1,rfl,⟨by omega,by omega,u64_lo _,u64_hi _⟩,rfl⟩
 case rest =>
 clear e1 e2 e3
 obtain ⟨i1,n1,rfl,rfl,HA,rfl⟩:=hcut
 obtain ⟨e1,e2⟩:=HA.out
 clear HA
 have H101:=Ak (strconv_shouldRoundUp.calls g nd dp d dp neg tr _ HD.out Hd.out)
 go_upto_region 12 with (fail)
 go_cut [52] (fun v52 wc => ∃ b:Bool,v52 = .bool b∧w=wc)
 case first =>
  go_wp2_with (first|(go_at_call 265;(refine H101.out.mono ?_);rintro e w9 ⟨⟨bb,rfl⟩,rfl⟩))
  go_meet
  case rel=>exact ⟨bb,rfl,rfl⟩
 case rest =>
 obtain ⟨bb,rfl,rfl⟩:=hcut
 cases bb with
 | true =>
  go_wp2
  go_ret
  exact ⟨U64P.mk (u64_lo _) (u64_hi _),rfl⟩
 | false =>
  go_wp2
  go_ret
  exact ⟨U64P.mk (by omega) (by omega),rfl⟩
end Go.Proofs.YtnejkimpkaopoaaGreatDoor.Q
end

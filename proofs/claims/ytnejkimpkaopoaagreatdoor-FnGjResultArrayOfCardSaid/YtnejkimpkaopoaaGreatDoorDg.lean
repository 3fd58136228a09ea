/- set of internal/strconv's decimal: it returns, and leaves a decimal. -/
import Derived.Test.YtnejkimpkaopoaaGreatDoorD5
import Derived.Test.YtnejkimpkaopoaaGreatDoorQ9
import Derived.BigGuard
import Derived.Deep.DeepMust
import Derived.StillTailTactics
namespace Go.Proofs.YtnejkimpkaopoaaGreatDoor.Q
open RowKit YtnejkimpkaopoaaGreatDoorW.PrintWords YtnejkimpkaopoaaGreatDoorW.PrintLast YtnejkimpkaopoaaGreatDoorW.PrintMore
attribute [local go_sem] max2_int min2_int max_two min_two max_three min_three max_four min_four
set_option linter.unusedVariables false
set_option linter.unusedSimpArgs false
def numB (x:Int):Prop:=(48≤x∧x≤57)∨x=43∨x=45∨x=46∨x=101∨x=69
def NumT (s:ByteArray):Prop := ∀ (i:Nat) (h:i<s.size),numB ((s[i]'h).toNat:Int)
def DecS (b g:Nat) (w w':World):Prop := ∃ (d:Nat→Int) (nd:Nat) (dp:Int) (neg tr:Bool),Dec w' g d nd dp neg tr∧Dig d nd∧(-2000000≤dp∧dp≤2000000)∧KB b g w w'
def SetP (b g:Nat) (w:World) (e:Ending) (w':World):Prop:=BoolP e∧DecS b g w w'
theorem DecS.of {b g:Nat} {w w':World} {d:Nat→Int} {nd:Nat} {dp:Int} {neg tr:Bool} (h1:Dec w' g d nd dp neg tr) (h2:Dig d nd) (h3 : -2000000≤dp∧dp≤2000000) (h4:KB b g w w'):DecS b g w w':=⟨d,nd,dp,neg,tr,h1,h2,h3,h4⟩
theorem bt_nat {s:ByteArray} {i:Nat} (h:i<s.size):((s[i]'h).toNat:Int)=bt s i:=by
 unfold bt;rw [dif_pos (show (i:Int).toNat<s.size from h)];rfl
theorem Dig.snoc {d:Nat→Int} {nd:Nat} (h:Dig d nd) (h8:nd<800) {x:Int} (hx:48≤x∧x≤57) (h0:nd=0→49≤x):Dig (upd d nd x) (nd+1):=by
 refine ⟨by omega,fun i hi=>?_,fun _=>?_⟩
 ·
  by_cases e:i=nd
  ·
   subst e;rw [upd_same];exact hx
  rw [upd_ne _ _ e];exact h.2.1 i (by omega)
 by_cases e:nd=0
 ·
  subst e;rw [upd_same];exact h0 rfl
 rw [upd_ne _ _ (by omega)];exact h.2.2 (by omega)
theorem Dig.zero (d:Nat→Int):Dig d 0:=⟨by omega,fun i hi=>by omega,fun h=>by omega⟩
def SetI (b g:Nat) (w wl:World) (k:Nat):Prop := ∃ (d:Nat→Int) (nd:Nat) (dp:Int) (neg tr:Bool),Dec wl g d nd dp neg tr∧Dig d nd∧(-(k:Int)≤dp∧dp≤800)∧KB b g w wl
theorem low_e {x:Int} (h:numB x) : ∃ y:Int,strconv_lower.f x=some y∧((x=101∨x=69)→y=101)∧(¬ (x=101∨x=69)→(y == 101)=false):=by
 refine ⟨_,rfl,?_,?_⟩
 ·
  rintro (rfl|rfl) <;> decide
 intro hn
 have h2:x=43∨x=45∨x=46∨x=48∨x=49∨x=50∨x=51∨x=52∨x=53∨x=54∨x=55∨x=56∨x=57:=by
  rcases h with h|h|h|h|h|h <;> omega
 clear h hn
 rcases h2 with rfl|rfl|rfl|rfl|rfl|rfl|rfl|rfl|rfl|rfl|rfl|rfl|rfl <;> decide
set_option maxHeartbeats 16000000 in
set_option maxRecDepth 100000 in
theorem strconv_set.calls (b g:Nat) (d0:Nat→Int) (s:ByteArray) (w:World) (hD:Dec w g d0 (0:Nat) 0 false false) (hs:0<s.size∧s.size≤100000) (hn:NumT s) (hb:b≤g) :
 Calls Tryz.prog 220 #[.pointer (some ⟨g,0,none⟩), .string s] w fun e w'=>SetP b g w e w':=by
 have HD:=Ak hD
 have HN:=Ak hn
 clear hD hn
 have hc2:=HD.out.c802
 have hc3:=HD.out.c803
 have hf2:=HD.out.frozen 802
 have hf3:=HD.out.frozen 803
 have hne:(s=ByteArray.empty)=False:=eq_false (by rintro rfl;exact absurd hs.1 (by decide))
 have hpI:((0:Int)<(s.size:Int))=True:=eq_true (by omega)
 obtain ⟨x,hx⟩ : ∃ x,bt s 0=x:=⟨_,rfl⟩
 have hb0:((s[0]'hs.1).toNat:Int)=x:=by rw [← hx];exact bt_nat hs.1
 clear hx
 go_enter Tryz.func220,Tryz.ntmps220
 go_upto_block 0 with (fail)
 go_cut [5] from 10 to 33 (fun v5 wc => ∃ i0:Nat,v5 = .int .i64 (i0:Int)∧Aside0 (i0≤1)∧Aside0 (SetI b g w wc i0))
 case first =>
  by_cases c1:x=43
  ·
   subst c1
   go_wp2
   go_meet
   case rel=>exact ⟨1,rfl,⟨by omega⟩,⟨d0,0,0,false,false,(HD.out.setS false).setT false,Dig.zero _,by omega,((KB.refl w hb).set_ _ _).set_ _ _⟩⟩
  have e1:(x == 43)=false:=by simpa using c1
  by_cases c2:x=45
  ·
   subst c2
   go_wp2
   go_meet
   case rel=>exact ⟨1,rfl,⟨by omega⟩,⟨d0,0,0,true,false,((HD.out.setS false).setT false).setS true,Dig.zero _,by omega,(((KB.refl w hb).set_ _ _).set_ _ _).set_ _ _⟩⟩
  have e2:(x == 45)=false:=by simpa using c2
  go_wp2
  go_meet
  case rel=>exact ⟨0,rfl,⟨by omega⟩,⟨d0,0,0,false,false,(HD.out.setS false).setT false,Dig.zero _,by omega,((KB.refl w hb).set_ _ _).set_ _ _⟩⟩
 case rest =>
 obtain ⟨i0,rfl,H0,HI⟩:=hcut
 clear HD hc2 hc3 hf2 hf3 hb0 hpI
 have h01:=H0.out
 clear H0
 go_upto_block 1 with (fail)
 go_cut [5,6,7] from 34 to 116 (fun v5 v6 v7 wc => ∃ (i:Nat) (c6 c7:Bool),v5 = .int .i64 (i:Int)∧v6 = .bool c6∧v7 = .bool c7∧Aside0 (i≤s.size)∧Aside0 (SetI b g w wc i))
 case first =>
  go_wp2
  go_loopg [5,6,7] (s.size+1) (fun kq v5 v6 v7 wl => ∃ (i:Nat) (c6 c7:Bool),v5 = .int .i64 (i:Int)∧v6 = .bool c6∧v7 = .bool c7∧Aside0 (i≤s.size∧s.size - i<kq)∧Aside0 (SetI b g w wl i))
  case atStart=>exact ⟨i0,false,false,rfl,rfl,rfl,⟨by omega,by omega⟩,HI⟩
  case round =>
  clear HI h01
  obtain ⟨i,c6,c7,rfl,rfl,rfl,HA,HI⟩:=hrel
  obtain ⟨a1,a2⟩:=HA.out
  clear HA
  cases gk with
  | zero=>omega
  | succ k1 =>
  by_cases c:i<s.size
  rotate_left
  ·
   have cI:((i:Int)<(s.size:Int))=False:=eq_false (by omega)
   go_wp2
   go_meet
   case rel=>exact ⟨i,c6,c7,rfl,rfl,rfl,⟨a1⟩,HI⟩
  have cI:((i:Int)<(s.size:Int))=True:=eq_true (by omega)
  have hx0:=HN.out i c
  have e0:=bt_nat c
  obtain ⟨x,hx⟩ : ∃ x,bt s i=x:=⟨_,rfl⟩
  rw [e0,hx] at hx0
  rw [hx] at e0
  clear hx
  have q95:(x == 95)=false:=by simp;rcases hx0 with h|h|h|h|h|h <;> omega
  obtain ⟨d,nd,dp,neg,tr,hD,hd,hdp,hK⟩:=HI.out
  have HD:=Ak hD
  have Hd:=Ak hd
  have HK:=Ak hK
  clear HI hD hd hK
  have hc0:=HD.out.c800
  have hc1:=HD.out.c801
  have hf0:=HD.out.frozen 800
  have hf1:=HD.out.frozen 801
  have hn8:=Hd.out.1
  by_cases c46:x=46
  ·
   subst c46
   cases c6 with
   | true =>
    go_wp2
    go_ret
    exact ⟨BoolP.mk _,DecS.of HD.out Hd.out (by omega) HK.out⟩
   | false =>
    go_wp2
    go_roundg k1
    case measure=>omega
    case rel=>exact ⟨i+1,true,c7,by congr 1,rfl,rfl,⟨by omega,by omega⟩,⟨d,nd,nd,neg,tr,HD.out.setP _,Hd.out,by omega,HK.out.set_ _ _⟩⟩
  have q46:(x == 46)=false:=by simpa using c46
  by_cases cd:48≤x∧x≤57
  ·
   have d1:decide ((48:Int)≤x)=true:=decide_eq_true cd.1
   have d2:decide (x≤57)=true:=decide_eq_true cd.2
   by_cases cz:x=48∧nd=0
   ·
    obtain ⟨rfl,rfl⟩:=cz
    go_wp2
    go_roundg k1
    case measure=>omega
    case rel=>exact ⟨i+1,c6,true,by congr 1,rfl,rfl,⟨by omega,by omega⟩,⟨d,0,dp - 1,neg,tr,HD.out.setP _,Hd.out,by omega,HK.out.set_ _ _⟩⟩
   by_cases c8:nd<800
   ·
    have c8t:((nd:Int)<800)=True:=eq_true (by omega)
    have hfd:=HD.out.frozen nd
    have hcd:=HD.out.digit nd c8
    obtain ⟨y,hy⟩ : ∃ y,d nd=y:=⟨_,rfl⟩
    rw [hy] at hcd
    clear hy
    have hz:=Ak (show nd=0→49≤x from fun h=>by
     by_cases e:x=48
     ·
      exact absurd ⟨e,h⟩ cz
     omega)
    by_cases c48:x=48
    ·
     subst c48
     have z0:((nd:Int) == 0)=false:=beq_eq_false_iff_ne.2 (by omega)
     go_wp2
     go_region
     have HD2:=Ak ((HD.out.setD nd c8 48).drew)
     have HK2:=Ak ((HK.out.set_ nd (.int .u8 48)).drew)
     generalize World.drew _=W2 at HD2 HK2 ⊢
     have hc02:=HD2.out.c800
     have hf02:=HD2.out.frozen 800
     go_wp2
     go_roundg k1
     case measure=>omega
     case rel=>exact ⟨i+1,c6,true,by congr 1,rfl,rfl,⟨by omega,by omega⟩,⟨_,nd+1,dp,neg,tr,HD2.out.setN _,Hd.out.snoc c8 (by omega) hz.out,by omega,HK2.out.set_ _ _⟩⟩
    have q48:(x == 48)=false:=by simpa using c48
    go_wp2
    go_region
    have HD2:=Ak ((HD.out.setD nd c8 x).drew)
    have HK2:=Ak ((HK.out.set_ nd (.int .u8 x)).drew)
    generalize World.drew _=W2 at HD2 HK2 ⊢
    have hc02:=HD2.out.c800
    have hf02:=HD2.out.frozen 800
    go_wp2
    go_roundg k1
    case measure=>omega
    case rel=>exact ⟨i+1,c6,true,by congr 1,rfl,rfl,⟨by omega,by omega⟩,⟨_,nd+1,dp,neg,tr,HD2.out.setN _,Hd.out.snoc c8 (by omega) hz.out,by omega,HK2.out.set_ _ _⟩⟩
   have c8t:((nd:Int)<800)=False:=eq_false (by omega)
   have z0:((nd:Int) == 0)=false:=beq_eq_false_iff_ne.2 (by omega)
   have hf4:=HD.out.frozen 803
   have hc4:=HD.out.c803
   by_cases c48:x=48
   ·
    subst c48
    go_wp2
    go_roundg k1
    case measure=>omega
    case rel=>exact ⟨i+1,c6,true,by congr 1,rfl,rfl,⟨by omega,by omega⟩,⟨d,nd,dp,neg,tr,HD.out,Hd.out,by omega,HK.out⟩⟩
   have q48:(x == 48)=false:=by simpa using c48
   have p48:(x != 48)=true:=by simpa using c48
   go_wp2
   go_roundg k1
   case measure=>omega
   case rel=>exact ⟨i+1,c6,true,by congr 1,rfl,rfl,⟨by omega,by omega⟩,⟨d,nd,dp,neg,true,HD.out.setT _,Hd.out,by omega,HK.out.set_ _ _⟩⟩
  by_cases cl:48≤x
  ·
   have d1:decide ((48:Int)≤x)=true:=decide_eq_true cl
   have d2:decide (x≤57)=false:=decide_eq_false (by omega)
   go_wp2
   go_meet
   case rel=>exact ⟨i,c6,c7,rfl,rfl,rfl,⟨a1⟩,⟨d,nd,dp,neg,tr,HD.out,Hd.out,by omega,HK.out⟩⟩
  have d1:decide ((48:Int)≤x)=false:=decide_eq_false cl
  go_wp2
  go_meet
  case rel=>exact ⟨i,c6,c7,rfl,rfl,rfl,⟨a1⟩,⟨d,nd,dp,neg,tr,HD.out,Hd.out,by omega,HK.out⟩⟩
 case rest =>
 clear HI h01
 obtain ⟨i,c6,c7,rfl,rfl,rfl,HA,HI⟩:=hcut
 have a1:=HA.out
 clear HA
 obtain ⟨d,nd,dp,neg,tr,hD,hd,hdp,hK⟩:=HI.out
 have HD:=Ak hD
 have Hd:=Ak hd
 have HK:=Ak hK
 clear HI hD hd hK
 have hn8:=Hd.out.1
 cases c7 with
 | false =>
  go_wp2
  go_ret
  exact ⟨BoolP.mk _,DecS.of HD.out Hd.out (by omega) HK.out⟩
 | true =>
 go_upto_if 120 with (fail)
 go_cut [] from 117 to 127 (fun wc => ∃ dp:Int,Aside0 (Dec wc g d nd dp neg tr)∧Aside0 (-(i:Int)≤dp∧dp≤800)∧Aside0 (KB b g w wc))
 case first =>
  have hc0:=HD.out.c800
  have hc1:=HD.out.c801
  have hf0:=HD.out.frozen 800
  have hf1:=HD.out.frozen 801
  cases c6 with
  | true =>
   go_wp2
   go_meet
   case rel=>exact ⟨dp,HD,⟨hdp⟩,HK⟩
  | false =>
   go_wp2
   go_meet
   case rel=>exact ⟨nd,⟨HD.out.setP _⟩,⟨by omega⟩,⟨HK.out.set_ _ _⟩⟩
 case rest =>
 clear HD HK hdp
 obtain ⟨dp,HD,HP,HK⟩:=hcut
 have hdp:=HP.out
 clear HP
 have hc0:=HD.out.c800
 have hc1:=HD.out.c801
 have hf0:=HD.out.frozen 800
 have hf1:=HD.out.frozen 801
 by_cases c:i<s.size
 rotate_left
 ·
  have cI:((i:Int)<(s.size:Int))=False:=eq_false (by omega)
  have cD:decide ((i:Int)<(s.size:Int))=false:=decide_eq_false (by omega)
  have cE:(i:Int)=(s.size:Int):=by omega
  go_wp2
  go_ret
  exact ⟨BoolP.mk _,DecS.of HD.out Hd.out (by omega) HK.out⟩
 have cI:((i:Int)<(s.size:Int))=True:=eq_true (by omega)
 have cD:decide ((i:Int)<(s.size:Int))=true:=decide_eq_true (by omega)
 have hx0:=HN.out i c
 have e0:=bt_nat c
 obtain ⟨x,hx⟩ : ∃ x,bt s i=x:=⟨_,rfl⟩
 rw [e0,hx] at hx0
 rw [hx] at e0
 clear hx
 obtain ⟨y,hy,hy1,hy2⟩:=low_e hx0
 have H205:=Ak (fun W=>strconv_lower.calls x y W hy)
 clear hy
 by_cases ce:x=101∨x=69
 ·
  obtain rfl:=hy1 ce
  clear hy1 hy2 hx0
  by_cases ci:i+1<s.size
  rotate_left
  ·
   have ciI:((s.size:Int)≤(i:Int)+1)=True:=eq_true (by omega)
   go_wp2_with (first|(go_at_call 205;(refine (H205.out _).mono ?_);rintro e w9 ⟨rfl,⟨m9,rfl⟩⟩))
   go_ret
   exact ⟨BoolP.mk _,DecS.of (HD.out.drewN _) Hd.out (by omega) (HK.out.drewN _)⟩
  have ciI:((s.size:Int)≤(i:Int)+1)=False:=eq_false (by omega)
  have ciJ:((i:Int)+1<(s.size:Int))=True:=eq_true (by omega)
  have e1:=bt_nat ci
  obtain ⟨z,hz⟩ : ∃ z,bt s (i+1)=z:=⟨_,rfl⟩
  rw [show ((i+1:Nat):Int)=(i:Int)+1 by omega,hz] at e1
  clear hz
  go_upto_block 4 with (first|(go_at_call 205;(refine (H205.out _).mono ?_);rintro e w9 ⟨rfl,⟨m9,rfl⟩⟩))
  go_cut [5,8] from 128 to 155 (fun v5 v8 wc => ∃ (j:Nat) (sg:Int),v5 = .int .i64 (j:Int)∧v8 = .int .i64 sg∧Aside0 (j≤s.size∧(sg=1∨sg = -1))∧Aside0 (Dec wc g d nd dp neg tr)∧Aside0 (KB b g w wc))
  case first =>
   by_cases c43:z=43
   ·
    subst c43
    go_wp2
    go_meet
    case rel=>exact ⟨i+2,1,by congr 1,rfl,⟨by omega, .inl rfl⟩,⟨HD.out.drewN _⟩,⟨HK.out.drewN _⟩⟩
   have q43:(z == 43)=false:=by simpa using c43
   by_cases c45:z=45
   ·
    subst c45
    go_wp2
    go_meet
    case rel=>exact ⟨i+2, -1,by congr 1,rfl,⟨by omega, .inr rfl⟩,⟨HD.out.drewN _⟩,⟨HK.out.drewN _⟩⟩
   have q45:(z == 45)=false:=by simpa using c45
   go_wp2
   go_meet
   case rel=>exact ⟨i+1,1,by congr 1,rfl,⟨by omega, .inl rfl⟩,⟨HD.out.drewN _⟩,⟨HK.out.drewN _⟩⟩
  case rest =>
  clear HD HK ciI ciJ e1 e0 cI cD hc0 hc1 hf0 hf1 c ci H205
  obtain ⟨j,sg,rfl,rfl,HA,HD,HK⟩:=hcut
  obtain ⟨b1,b2⟩:=HA.out
  clear HA
  have hc0:=HD.out.c800
  have hc1:=HD.out.c801
  have hf0:=HD.out.frozen 800
  have hf1:=HD.out.frozen 801
  by_cases cj:j<s.size
  rotate_left
  ·
   have cjT:((s.size:Int)≤(j:Int))=True:=eq_true (by omega)
   have cjD:decide ((s.size:Int)≤(j:Int))=true:=decide_eq_true (by omega)
   go_wp2
   go_ret
   exact ⟨BoolP.mk _,DecS.of HD.out Hd.out (by omega) HK.out⟩
  have cjT:((s.size:Int)≤(j:Int))=False:=eq_false (by omega)
  have cjD:decide ((s.size:Int)≤(j:Int))=false:=decide_eq_false (by omega)
  have cjI:((j:Int)<(s.size:Int))=True:=eq_true (by omega)
  have e2:=bt_nat cj
  obtain ⟨z2,hz2⟩ : ∃ z2,bt s j=z2:=⟨_,rfl⟩
  rw [hz2] at e2
  clear hz2
  by_cases c48:z2<48
  ·
   have t48:decide (z2<48)=true:=decide_eq_true c48
   go_wp2
   go_ret
   exact ⟨BoolP.mk _,DecS.of HD.out Hd.out (by omega) HK.out⟩
  have t48:decide (z2<48)=false:=decide_eq_false c48
  by_cases c57:57<z2
  ·
   have t57:decide (57<z2)=true:=decide_eq_true c57
   go_wp2
   go_ret
   exact ⟨BoolP.mk _,DecS.of HD.out Hd.out (by omega) HK.out⟩
  have t57:decide (57<z2)=false:=decide_eq_false c57
  go_upto_block 5 with (fail)
  go_cut [5,9] from 156 to 209 (fun v5 v9 wc2 => ∃ (k:Nat) (e:Int),v5 = .int .i64 (k:Int)∧v9 = .int .i64 e∧Aside0 (k≤s.size∧0≤e∧e≤200000)∧wc=wc2)
  case first =>
   go_wp2
   clear e2 t57 t48 c48 c57 cjD cjT cjI
   go_loopg [5,9] (s.size+1) (fun kq v5 v9 wl => ∃ (k:Nat) (e:Int),v5 = .int .i64 (k:Int)∧v9 = .int .i64 e∧Aside0 (k≤s.size∧s.size - k<kq∧0≤e∧e≤200000)∧wc=wl)
   case atStart=>exact ⟨j,0,rfl,rfl,⟨by omega,by omega,by omega,by omega⟩,rfl⟩
   case round =>
   obtain ⟨k,e,rfl,rfl,HA,rfl⟩:=hrel
   obtain ⟨a1,a2,a3,a4⟩:=HA.out
   clear HA b1 b2 cj
   cases gk with
   | zero=>omega
   | succ k1 =>
   by_cases c:k<s.size
   rotate_left
   ·
    have cI:((k:Int)<(s.size:Int))=False:=eq_false (by omega)
    have cD:decide ((k:Int)<(s.size:Int))=false:=decide_eq_false (by omega)
    go_wp2
    go_meet
    case rel=>exact ⟨k,e,rfl,rfl,⟨by omega,by omega,by omega⟩,rfl⟩
   have cI:((k:Int)<(s.size:Int))=True:=eq_true (by omega)
   have cD:decide ((k:Int)<(s.size:Int))=true:=decide_eq_true (by omega)
   have hx0:=HN.out k c
   have e0:=bt_nat c
   obtain ⟨x,hx⟩ : ∃ x,bt s k=x:=⟨_,rfl⟩
   rw [e0,hx] at hx0
   rw [hx] at e0
   clear hx
   have q95:(x == 95)=false:=by simp;rcases hx0 with h|h|h|h|h|h <;> omega
   by_cases l48:48≤x
   ·
    have t48:decide (48≤x)=true:=decide_eq_true l48
    by_cases l57:x≤57
    rotate_left
    ·
     have t57:decide (x≤57)=false:=decide_eq_false l57
     go_wp2
     go_meet
     case rel=>exact ⟨k,e,rfl,rfl,⟨by omega,by omega,by omega⟩,rfl⟩
    have t57:decide (x≤57)=true:=decide_eq_true l57
    by_cases le:e<10000
    ·
     go_wp2
     go_roundg k1
     case measure=>omega
     case rel=>exact ⟨k+1,_,by congr 1,rfl,⟨by omega,by omega,by omega,by omega⟩,rfl⟩
    go_wp2
    go_roundg k1
    case measure=>omega
    case rel=>exact ⟨k+1,e,by congr 1,rfl,⟨by omega,by omega,by omega,by omega⟩,rfl⟩
   have t48:decide (48≤x)=false:=decide_eq_false l48
   go_wp2
   go_meet
   case rel=>exact ⟨k,e,rfl,rfl,⟨by omega,by omega,by omega⟩,rfl⟩
  case rest =>
  obtain ⟨k,e,rfl,rfl,HA,rfl⟩:=hcut
  obtain ⟨a1,a2,a3⟩:=HA.out
  clear HA e2 t57 t48 c48 c57 cjD cjT cjI
  have HB2:=Ak b2
  rcases b2 with rfl|rfl
  all_goals
   by_cases ck:k=s.size
   ·
    have ckT:((k:Int) != (s.size:Int))=false:=by simp;omega
    have ckI:((k:Int)=(s.size:Int))=True:=eq_true (by omega)
    go_wp2
    go_ret
    exact ⟨BoolP.mk _,DecS.of (HD.out.setP _) Hd.out (by omega) (HK.out.set_ _ _)⟩
   have ckT:((k:Int) != (s.size:Int))=true:=by simp;omega
   have ckI:((k:Int)=(s.size:Int))=False:=eq_false (by omega)
   go_wp2
   go_ret
   exact ⟨BoolP.mk _,DecS.of (HD.out.setP _) Hd.out (by omega) (HK.out.set_ _ _)⟩
 have hy2:=hy2 ce
 clear hy1 hx0
 go_wp2_with (first|(go_at_call 205;(refine (H205.out _).mono ?_);rintro e w9 ⟨rfl,⟨m9,rfl⟩⟩))
 go_ret
 exact ⟨BoolP.mk _,DecS.of (HD.out.drewN _) Hd.out (by omega) (HK.out.drewN _)⟩
end Go.Proofs.YtnejkimpkaopoaaGreatDoor.Q

/- readFloat of internal/strconv on a text of digits, signs, dots and e: what it gives. -/
import Derived.Test.YtnejkimpkaopoaaGreatDoorDg
namespace Go.Proofs.YtnejkimpkaopoaaGreatDoor.Q
open RowKit YtnejkimpkaopoaaGreatDoorW.PrintWords YtnejkimpkaopoaaGreatDoorW.PrintLast YtnejkimpkaopoaaGreatDoorW.PrintMore
attribute [local go_sem] max2_int min2_int max_two min_two max_three min_three max_four min_four
set_option linter.unusedVariables false
set_option linter.unusedSimpArgs false
def rfL (s:ByteArray):Nat→Nat→Nat→Int→Nat→Nat→Bool→Bool→Bool→Nat × Nat × Int × Nat × Nat × Bool × Bool × Bool
  | 0,i,m,dp,nd,nm,dot,dig,tr=>(i,m,dp,nd,nm,dot,dig,tr)
  | k+1,i,m,dp,nd,nm,dot,dig,tr =>
    if bt s i=46 then (if dot then (i,m,dp,nd,nm,dot,dig,tr) else rfL s k (i+1) m nd nd nm true dig tr)
    else if 48≤bt s i∧bt s i≤57 then
      (if bt s i=48∧nd=0 then rfL s k (i+1) m (dp - 1) nd nm dot true tr
       else if nm<19 then rfL s k (i+1) (m*10+(bt s i - 48).toNat) dp (nd+1) (nm+1) dot true tr
       else if bt s i=48 then rfL s k (i+1) m dp (nd+1) nm dot true tr
       else rfL s k (i+1) m dp (nd+1) nm dot true true)
    else (i,m,dp,nd,nm,dot,dig,tr)
def exL (s:ByteArray):Nat→Nat→Nat→Nat × Nat
  | 0,i,e=>(i,e)
  | k+1,i,e=>if 48≤bt s i∧bt s i≤57 then (if e<10000 then exL s k (i+1) (e*10+(bt s i - 48).toNat) else exL s k (i+1) e) else (i,e)
def rfT (s:ByteArray) (neg:Bool):Nat × Nat × Int × Nat × Nat × Bool × Bool × Bool→Nat × Int × Bool × Bool × Nat × Bool
  | (i,m,dp,nd,nm,dot,dig,tr) =>
    if dig=false then (m,0,neg,tr,i,false)
    else if i<s.size∧(bt s i=101∨bt s i=69) then
      (if s.size≤i+1 then (m,0,neg,tr,i+1,false)
       else
        let j:=if bt s ((i+1:Nat):Int)=43∨bt s ((i+1:Nat):Int)=45 then i+2 else i+1
        let sg:Int:=if bt s ((i+1:Nat):Int)=45 then -1 else 1
        if j<s.size∧48≤bt s j∧bt s j≤57 then
          (m,if m=0 then 0 else (if dot then dp else nd)+(exL s (s.size - j) j 0).2*sg - nm,neg,tr,(exL s (s.size - j) j 0).1,true)
        else (m,0,neg,tr,j,false))
    else (m,if m=0 then 0 else (if dot then dp else nd) - nm,neg,tr,i,true)
def rfF (s:ByteArray):Nat × Int × Bool × Bool × Nat × Bool :=
  rfT s (decide (bt s 0=45)) (rfL s (s.size - if bt s 0=43∨bt s 0=45 then 1 else 0) (if bt s 0=43∨bt s 0=45 then 1 else 0) 0 0 0 0 false false false)
section
variable {s:ByteArray} {i m nd nm:Nat} {dp:Int} {dot tr neg:Bool}
theorem rfT_dig:rfT s neg (i,m,dp,nd,nm,dot,false,tr)=(m,0,neg,tr,i,false):=rfl
theorem rfT_no (h : ¬ (i<s.size∧(bt s i=101∨bt s i=69))) {d1 p:Int} (hd:d1=if dot then dp else nd) (hp:p=if m=0 then 0 else d1 - nm):rfT s neg (i,m,dp,nd,nm,dot,true,tr)=(m,p,neg,tr,i,true):=by
 subst hp hd;rw [rfT,if_neg (by decide),if_neg h]
theorem rfT_e0 (h:i<s.size∧(bt s i=101∨bt s i=69)) (h1:s.size≤i+1):rfT s neg (i,m,dp,nd,nm,dot,true,tr)=(m,0,neg,tr,i+1,false):=by
 rw [rfT,if_neg (by decide),if_pos h,if_pos h1]
theorem rfT_e1 (h:i<s.size∧(bt s i=101∨bt s i=69)) (h1:i+1<s.size) {j:Nat} {z:Int} (hz:bt s ((i+1:Nat):Int)=z) (hj:j=if z=43∨z=45 then i+2 else i+1) (h2 : ¬ (j<s.size∧48≤bt s j∧bt s j≤57)):rfT s neg (i,m,dp,nd,nm,dot,true,tr)=(m,0,neg,tr,j,false):=by
 subst hj hz;rw [rfT,if_neg (by decide),if_pos h,if_neg (by omega)];exact if_neg h2
theorem rfT_e2 (h:i<s.size∧(bt s i=101∨bt s i=69)) (h1:i+1<s.size) {j:Nat} {z sg:Int} (hz:bt s ((i+1:Nat):Int)=z) (hj:j=if z=43∨z=45 then i+2 else i+1) (hg:sg=if z=45 then -1 else 1) (h2:j<s.size∧48≤bt s j∧bt s j≤57) {k e:Nat} (he:exL s (s.size - j) j 0=(k,e)) {d1 p:Int} (hd:d1=if dot then dp else nd) (hp:p=if m=0 then 0 else d1+e*sg - nm):rfT s neg (i,m,dp,nd,nm,dot,true,tr)=(m,p,neg,tr,k,true):=by
 subst hp hd hg hj hz
 rw [rfT,if_neg (by decide),if_pos h,if_neg (by omega)]
 refine (if_pos h2).trans ?_
 rw [he]
end
section
variable {s:ByteArray} {i m nd nm:Nat} {dp:Int} {dot dig tr:Bool}
theorem rfL_end (h : ¬ i<s.size):rfL s (s.size - i) i m dp nd nm dot dig tr=(i,m,dp,nd,nm,dot,dig,tr):=by
 rw [show s.size - i=0 by omega];rfl
theorem size_sub (h:i<s.size):s.size - i=(s.size - (i+1))+1:=by omega
theorem rfL_dot (h:i<s.size) (hx:bt s i=46):rfL s (s.size - i) i m dp nd nm false dig tr=rfL s (s.size - (i+1)) (i+1) m nd nd nm true dig tr:=by
 rw [size_sub h,rfL,if_pos hx];rfl
theorem rfL_dot2 (h:i<s.size) (hx:bt s i=46):rfL s (s.size - i) i m dp nd nm true dig tr=(i,m,dp,nd,nm,true,dig,tr):=by
 rw [size_sub h,rfL,if_pos hx];rfl
theorem rfL_zero (h:i<s.size) (hx:bt s i=48) (hn:nd=0):rfL s (s.size - i) i m dp nd nm dot dig tr=rfL s (s.size - (i+1)) (i+1) m (dp - 1) nd nm dot true tr:=by
 rw [size_sub h,rfL,if_neg (by omega),if_pos (by omega),if_pos ⟨hx,hn⟩]
theorem rfL_dig (h:i<s.size) {x:Int} (hx:bt s i=x) (h0:48≤x∧x≤57) (hz : ¬ (x=48∧nd=0)) (hm:nm<19):rfL s (s.size - i) i m dp nd nm dot dig tr=rfL s (s.size - (i+1)) (i+1) (m*10+(x - 48).toNat) dp (nd+1) (nm+1) dot true tr:=by
 subst hx;rw [size_sub h,rfL,if_neg (by omega),if_pos h0,if_neg hz,if_pos hm]
theorem rfL_more0 (h:i<s.size) (hx:bt s i=48) (hz:nd≠0) (hm : ¬ nm<19):rfL s (s.size - i) i m dp nd nm dot dig tr=rfL s (s.size - (i+1)) (i+1) m dp (nd+1) nm dot true tr:=by
 rw [size_sub h,rfL,if_neg (by omega),if_pos (by omega),if_neg (by omega),if_neg hm,if_pos hx]
theorem rfL_more (h:i<s.size) {x:Int} (hx:bt s i=x) (h0:48≤x∧x≤57) (h48:x≠48) (hm : ¬ nm<19):rfL s (s.size - i) i m dp nd nm dot dig tr=rfL s (s.size - (i+1)) (i+1) m dp (nd+1) nm dot true true:=by
 subst hx;rw [size_sub h,rfL,if_neg (by omega),if_pos h0,if_neg (by omega),if_neg hm,if_neg h48]
theorem rfL_no (h:i<s.size) {x:Int} (hx:bt s i=x) (h1:x≠46) (h2 : ¬ (48≤x∧x≤57)):rfL s (s.size - i) i m dp nd nm dot dig tr=(i,m,dp,nd,nm,dot,dig,tr):=by
 subst hx;rw [size_sub h,rfL,if_neg h1,if_neg h2]
variable {e:Nat}
theorem exL_end (h : ¬ i<s.size):exL s (s.size - i) i e=(i,e):=by
 rw [show s.size - i=0 by omega];rfl
theorem exL_no (h:i<s.size) {x:Int} (hx:bt s i=x) (h2 : ¬ (48≤x∧x≤57)):exL s (s.size - i) i e=(i,e):=by
 subst hx;rw [size_sub h,exL,if_neg h2]
theorem exL_lo (h:i<s.size) {x:Int} (hx:bt s i=x) (h2:48≤x∧x≤57) (he:e<10000):exL s (s.size - i) i e=exL s (s.size - (i+1)) (i+1) (e*10+(x - 48).toNat):=by
 subst hx;rw [size_sub h,exL,if_pos h2,if_pos he]
theorem exL_hi (h:i<s.size) {x:Int} (hx:bt s i=x) (h2:48≤x∧x≤57) (he : ¬ e<10000):exL s (s.size - i) i e=exL s (s.size - (i+1)) (i+1) e:=by
 subst hx;rw [size_sub h,exL,if_pos h2,if_neg he]
end
theorem low_x {x:Int} (h:numB x) : ∃ y:Int,strconv_lower.f x=some y∧(y == 120)=false:=by
 refine ⟨_,rfl,?_⟩
 have h2:x=43∨x=45∨x=46∨x=101∨x=69∨x=48∨x=49∨x=50∨x=51∨x=52∨x=53∨x=54∨x=55∨x=56∨x=57:=by
  rcases h with h|h|h|h|h|h <;> omega
 clear h
 rcases h2 with rfl|rfl|rfl|rfl|rfl|rfl|rfl|rfl|rfl|rfl|rfl|rfl|rfl|rfl|rfl <;> decide
def RfV (R:Nat × Int × Bool × Bool × Nat × Bool):Value := .tuple #[.int .u64 R.1, .int .i64 R.2.1, .bool R.2.2.1, .bool R.2.2.2.1, .bool false, .int .i64 R.2.2.2.2.1, .bool R.2.2.2.2.2]
def RfP (s:ByteArray) (w:World) (e:Ending) (w':World):Prop:=e = .returned (RfV (rfF s))∧Drawn0 w w'
def RfI (s:ByteArray) (R:Nat × Nat × Int × Nat × Nat × Bool × Bool × Bool) (i m:Nat) (dp:Int) (nd nm:Nat) (dot dig tr:Bool):Prop:=rfL s (s.size - i) i m dp nd nm dot dig tr=R∧m<10 ^ nm
theorem drawn_trans {a b c:World} (h:Drawn0 a b) (k:Drawn0 b c):Drawn0 a c:=by
 obtain ⟨n,rfl⟩:=k.out
 exact h.step n
theorem results_tmp7 {fn:Func} {t0 t1 t2 t3 t4 t5 t6:Tmp} (h:fn.results = #[.tmp t0, .tmp t1, .tmp t2, .tmp t3, .tmp t4, .tmp t5, .tmp t6]) (tmps:Array Value) (P:Program) (w:World) :
 (results fn tmps).run P w = .ok (.tuple #[tmps.getD t0 undef,tmps.getD t1 undef,tmps.getD t2 undef,tmps.getD t3 undef,tmps.getD t4 undef,tmps.getD t5 undef,tmps.getD t6 undef]) w:=by
 simp [results,h]
theorem rf_end {s:ByteArray} {w w':World} {m n:Nat} {p n':Int} {neg tr ok:Bool} {R:Nat × Int × Bool × Bool × Nat × Bool} (h:rfF s=R) (h2:R=(m,p,neg,tr,n,ok)) (hn:n'=(n:Int)) (hw:Drawn0 w w') :
 RfP s w (.returned (.tuple #[.int .u64 (m:Int), .int .i64 p, .bool neg, .bool tr, .bool false, .int .i64 n', .bool ok])) w':=by
 subst hn h2;exact ⟨by rw [h];rfl,hw⟩
set_option maxHeartbeats 16000000 in
set_option maxRecDepth 100000 in
theorem strconv_readFloat.calls (s:ByteArray) (w:World) (hs:0<s.size∧s.size≤100000) (hn:NumT s) :
 Calls Tryz.prog 214 #[.string s] w fun e w'=>RfP s w e w':=by
 have HN:=Ak hn
 clear hn
 have hne:(s=ByteArray.empty)=False:=eq_false (by rintro rfl;exact absurd hs.1 (by decide))
 have hpI:((0:Int)<(s.size:Int))=True:=eq_true (by omega)
 obtain ⟨x,hx⟩ : ∃ x,bt s 0=x:=⟨_,rfl⟩
 have hb0:((s[0]'hs.1).toNat:Int)=x:=by rw [← hx];exact bt_nat hs.1
 have HX:=Ak hx
 clear hx
 go_enter Tryz.func214,Tryz.ntmps214
 go_wp2
 go_step3
 go_upto_block 0 with (fail)
 go_cut [4,7] from 21 to 35 (fun v4 v7 wc => ∃ (i0:Nat) (neg:Bool),v4 = .bool neg∧v7 = .int .i64 (i0:Int)∧Aside0 (i0≤1)∧Aside0 (i0=(if bt s 0=43∨bt s 0=45 then 1 else 0)∧neg=decide (bt s 0=45))∧w=wc)
 case first =>
  by_cases c1:x=43
  ·
   subst c1
   go_wp2
   go_meet
   case rel=>exact ⟨1,false,rfl,rfl,⟨by omega⟩,⟨by rw [HX.out];exact ⟨rfl,rfl⟩⟩,rfl⟩
  have e1:(x == 43)=false:=by simpa using c1
  by_cases c2:x=45
  ·
   subst c2
   go_wp2
   go_meet
   case rel=>exact ⟨1,true,rfl,rfl,⟨by omega⟩,⟨by rw [HX.out];exact ⟨rfl,rfl⟩⟩,rfl⟩
  have e2:(x == 45)=false:=by simpa using c2
  go_wp2
  go_meet
  case rel=>exact ⟨0,false,rfl,rfl,⟨by omega⟩,⟨by rw [HX.out];exact ⟨(if_neg (by omega)).symm,(decide_eq_false c2).symm⟩⟩,rfl⟩
 case rest =>
 obtain ⟨i0,neg,rfl,rfl,H0,HS,rfl⟩:=hcut
 clear hb0 hpI HX
 have h01:=H0.out
 clear H0
 go_upto_region 12 with (fail)
 go_cut [54] from 36 to 54 (fun v54 wc=>v54 = .bool false∧Aside0 (Drawn0 w wc))
 case first =>
  by_cases c2:i0+2<s.size
  rotate_left
  ·
   have c2D:decide ((i0:Int)+2<(s.size:Int))=false:=decide_eq_false (by omega)
   go_wp2
   go_meet
   case rel=>exact ⟨rfl,⟨Drawn0.refl _⟩⟩
  have c2D:decide ((i0:Int)+2<(s.size:Int))=true:=decide_eq_true (by omega)
  have cI:((i0:Int)<(s.size:Int))=True:=eq_true (by omega)
  have cJ:((i0:Int)+1<(s.size:Int))=True:=eq_true (by omega)
  have e0:=bt_nat (show i0<s.size by omega)
  have e1:=bt_nat (show i0+1<s.size by omega)
  have hx1:=HN.out (i0+1) (by omega)
  rw [e1] at hx1
  obtain ⟨x0,hx0⟩ : ∃ x0,bt s i0=x0:=⟨_,rfl⟩
  obtain ⟨x1,hx1e⟩ : ∃ x1,bt s ((i0+1:Nat):Int)=x1:=⟨_,rfl⟩
  rw [hx0] at e0
  rw [hx1e] at e1 hx1
  clear hx0 hx1e
  obtain ⟨y,hy,hy1⟩:=low_x hx1
  have H205:=Ak (fun W=>strconv_lower.calls x1 y W hy)
  clear hy hx1
  by_cases c48:x0=48
  ·
   subst c48
   go_wp2_with (first|(go_at_call 205;(refine (H205.out _).mono ?_);rintro e w9 ⟨rfl,hd9⟩;have HD9:=Ak hd9;clear hd9))
   go_meet
   case rel=>exact ⟨rfl,HD9⟩
  have q48:(x0 == 48)=false:=by simpa using c48
  go_wp2
  go_meet
  case rel=>exact ⟨rfl,⟨Drawn0.refl _⟩⟩
 case rest =>
 obtain ⟨rfl,HW⟩:=hcut
 go_wp2
 go_step3
 go_upto_block 1 with (fail)
 obtain ⟨R,hR⟩ : ∃ R,rfL s (s.size - i0) i0 0 0 0 0 false false false=R:=⟨_,rfl⟩
 have HR:=Ak hR
 have HI:Aside0 (RfI s R i0 0 0 0 0 false false false):=⟨hR,by decide⟩
 clear hR
 go_cut [2,5,7,9,13,14,15,16,17,18] from 57 to 138 (fun v2 v5 v7 v9 v13 v14 v15 v16 v17 v18 wc2 => ∃ (i m:Nat) (dp:Int) (nd nm:Nat) (dot dig tr:Bool),v2 = .int .u64 (m:Int)∧v5 = .bool tr∧v7 = .int .i64 (i:Int)∧v9 = .bool false∧v13 = .bool dot∧v14 = .bool dig∧v15 = .int .i64 (nd:Int)∧v16 = .int .i64 (nm:Int)∧v17 = .int .i64 dp∧Aside0 (i≤s.size∧nd≤i∧nm≤19 ∧ -(i:Int)≤dp∧dp≤(i:Int))∧Aside0 (R=(i,m,dp,nd,nm,dot,dig,tr))∧wc=wc2)
 case first =>
  go_wp2
  go_loopg [2,5,7,9,13,14,15,16,17,18] (s.size+1) (fun kq v2 v5 v7 v9 v13 v14 v15 v16 v17 v18 wl => ∃ (i m:Nat) (dp:Int) (nd nm:Nat) (dot dig tr:Bool),v2 = .int .u64 (m:Int)∧v5 = .bool tr∧v7 = .int .i64 (i:Int)∧v9 = .bool false∧v13 = .bool dot∧v14 = .bool dig∧v15 = .int .i64 (nd:Int)∧v16 = .int .i64 (nm:Int)∧v17 = .int .i64 dp∧Aside0 (i≤s.size∧nd≤i∧nm≤19 ∧ -(i:Int)≤dp∧dp≤(i:Int)∧s.size - i<kq)∧Aside0 (RfI s R i m dp nd nm dot dig tr)∧wc=wl)
  case atStart=>exact ⟨i0,0,0,0,0,false,false,false,rfl,rfl,rfl,rfl,rfl,rfl,rfl,rfl,rfl,⟨by omega,by omega,by omega,by omega,by omega,by omega⟩,HI,rfl⟩
  case round =>
  clear HI h01 HR
  obtain ⟨i,m,dp,nd,nm,dot,dig,tr,rfl,rfl,rfl,rfl,rfl,rfl,rfl,rfl,rfl,HA,HI,rfl⟩:=hrel
  obtain ⟨a1,a2,a3,a4,a5,a6⟩:=HA.out
  clear HA
  cases gk with
  | zero=>omega
  | succ k1 =>
  by_cases c:i<s.size
  rotate_left
  ·
   have cI:((i:Int)<(s.size:Int))=False:=eq_false (by omega)
   go_wp2
   go_meet
   case rel=>exact ⟨i,m,dp,nd,nm,dot,dig,tr,rfl,rfl,rfl,rfl,rfl,rfl,rfl,rfl,rfl,⟨a1,a2,a3,a4,a5⟩,⟨by rw [← HI.out.1,rfL_end c]⟩,rfl⟩
  have cI:((i:Int)<(s.size:Int))=True:=eq_true (by omega)
  have hx0:=HN.out i c
  have e0:=bt_nat c
  obtain ⟨x,hx⟩ : ∃ x,bt s i=x:=⟨_,rfl⟩
  rw [e0,hx] at hx0
  rw [hx] at e0
  have HX:=Ak hx
  clear hx
  have q95:(x == 95)=false:=by simp;rcases hx0 with h|h|h|h|h|h <;> omega
  by_cases c46:x=46
  ·
   subst c46
   cases dot with
   | true =>
    go_wp2
    go_meet
    case rel=>exact ⟨i,m,dp,nd,nm,true,dig,tr,rfl,rfl,rfl,rfl,rfl,rfl,rfl,rfl,rfl,⟨a1,a2,a3,a4,a5⟩,⟨by rw [← HI.out.1,rfL_dot2 c HX.out]⟩,rfl⟩
   | false =>
    go_wp2
    go_roundg k1
    case measure=>omega
    case rel=>exact ⟨i+1,m,nd,nd,nm,true,dig,tr,rfl,rfl,by congr 1,rfl,rfl,rfl,rfl,rfl,rfl,⟨by omega,by omega,by omega,by omega,by omega,by omega⟩,⟨by rw [← HI.out.1,rfL_dot c HX.out],HI.out.2⟩,rfl⟩
  have q46:(x == 46)=false:=by simpa using c46
  by_cases cd:48≤x∧x≤57
  ·
   have d1:decide ((48:Int)≤x)=true:=decide_eq_true cd.1
   have d2:decide (x≤57)=true:=decide_eq_true cd.2
   by_cases cz:x=48∧nd=0
   ·
    obtain ⟨rfl,rfl⟩:=cz
    go_wp2
    go_roundg k1
    case measure=>omega
    case rel=>exact ⟨i+1,m,dp - 1,0,nm,dot,true,tr,rfl,rfl,by congr 1,rfl,rfl,rfl,rfl,rfl,rfl,⟨by omega,by omega,by omega,by omega,by omega,by omega⟩,⟨by rw [← HI.out.1,rfL_zero c HX.out rfl],HI.out.2⟩,rfl⟩
   have hz:=Ak (show x=48→nd≠0 from fun h1 h2=>cz ⟨h1,h2⟩)
   by_cases c19:nm<19
   ·
    have cmI:((nm:Int)<19)=True:=eq_true (by omega)
    have hm1:m<1000000000000000000:=Nat.lt_of_lt_of_le HI.out.2 (Nat.le_trans (Nat.pow_le_pow_right (by decide) (show nm≤18 by omega)) (by decide))
    have hr:Aside0 (RfI s R (i+1) (m*10+(x - 48).toNat) dp (nd+1) (nm+1) dot true tr):=⟨by rw [← HI.out.1,rfL_dig c HX.out cd cz c19],by have:=HI.out.2;rw [Nat.pow_succ];omega⟩
    by_cases c48:x=48
    rotate_left
    ·
     have q48:(x == 48)=false:=by simpa using c48
     go_wp2
     go_roundg k1
     case measure=>omega
     case rel=>exact ⟨i+1,_,dp,nd+1,nm+1,dot,true,tr,by congr 1 <;> omega,rfl,by congr 1,rfl,rfl,rfl,by congr 1,by congr 1,rfl,⟨by omega,by omega,by omega,by omega,by omega,by omega⟩,hr,rfl⟩
    subst c48
    have hnz:=Ak (hz.out rfl)
    clear hz
    have z0:((nd:Int) == 0)=false:=beq_eq_false_iff_ne.2 (by have:=hnz.out;omega)
    go_wp2
    go_roundg k1
    case measure=>omega
    case rel=>exact ⟨i+1,_,dp,nd+1,nm+1,dot,true,tr,by congr 1 <;> omega,rfl,by congr 1,rfl,rfl,rfl,by congr 1,by congr 1,rfl,⟨by omega,by omega,by omega,by omega,by omega,by omega⟩,hr,rfl⟩
   have cmI:((nm:Int)<19)=False:=eq_false (by omega)
   by_cases c48:x=48
   ·
    subst c48
    have hnz:=Ak (hz.out rfl)
    clear hz
    have z0:((nd:Int) == 0)=false:=beq_eq_false_iff_ne.2 (by have:=hnz.out;omega)
    go_wp2
    go_roundg k1
    case measure=>omega
    case rel=>exact ⟨i+1,m,dp,nd+1,nm,dot,true,tr,rfl,rfl,by congr 1,rfl,rfl,rfl,by congr 1,rfl,rfl,⟨by omega,by omega,by omega,by omega,by omega,by omega⟩,⟨by rw [← HI.out.1,rfL_more0 c HX.out hnz.out c19],HI.out.2⟩,rfl⟩
   have q48:(x == 48)=false:=by simpa using c48
   have p48:(x != 48)=true:=by simpa using c48
   go_wp2
   go_roundg k1
   case measure=>omega
   case rel=>exact ⟨i+1,m,dp,nd+1,nm,dot,true,true,rfl,rfl,by congr 1,rfl,rfl,rfl,by congr 1,rfl,rfl,⟨by omega,by omega,by omega,by omega,by omega,by omega⟩,⟨by rw [← HI.out.1,rfL_more c HX.out cd c48 c19],HI.out.2⟩,rfl⟩
  have hr:Aside0 (R=(i,m,dp,nd,nm,dot,dig,tr)):=⟨by rw [← HI.out.1,rfL_no c HX.out c46 cd]⟩
  by_cases cl:48≤x
  ·
   have d1:decide ((48:Int)≤x)=true:=decide_eq_true cl
   have d2:decide (x≤57)=false:=decide_eq_false (by omega)
   go_wp2
   go_meet
   case rel=>exact ⟨i,m,dp,nd,nm,dot,dig,tr,rfl,rfl,rfl,rfl,rfl,rfl,rfl,rfl,rfl,⟨a1,a2,a3,a4,a5⟩,hr,rfl⟩
  have d1:decide ((48:Int)≤x)=false:=decide_eq_false cl
  go_wp2
  go_meet
  case rel=>exact ⟨i,m,dp,nd,nm,dot,dig,tr,rfl,rfl,rfl,rfl,rfl,rfl,rfl,rfl,rfl,⟨a1,a2,a3,a4,a5⟩,hr,rfl⟩
 case rest =>
 clear HI h01
 obtain ⟨i,m,dp,nd,nm,dot,dig,tr,rfl,rfl,rfl,rfl,rfl,rfl,rfl,rfl,rfl,HA,HE,rfl⟩:=hcut
 obtain ⟨a1,a2,a3,a4,a5⟩:=HA.out
 clear HA
 have HF:Aside0 (rfF s=rfT s neg (i,m,dp,nd,nm,dot,dig,tr)):=⟨by unfold rfF;rw [← HS.out.1, ← HS.out.2,HR.out,HE.out]⟩
 clear HR HE HS
 cases dig with
 | false =>
  go_wp2
  (try simp only [Exit.inBlock,Exit.then]);(try rw [Exit.noGoto_ret]);refine bodyPost_ret (results_tmp7 rfl _ _ _) rfl ?_
  exact rf_end HF.out rfT_dig rfl HW.out
 | true =>
 go_upto_if 142 with (fail)
 go_cut [17] from 139 to 142 (fun v17 wc2 => ∃ d1:Int,v17 = .int .i64 d1∧Aside0 (d1=if dot then dp else (nd:Int))∧wc=wc2)
 case first =>
  cases dot with
  | true =>
   go_wp2
   go_meet
   case rel=>exact ⟨dp,rfl,⟨rfl⟩,rfl⟩
  | false =>
   go_wp2
   go_meet
   case rel=>exact ⟨nd,rfl,⟨rfl⟩,rfl⟩
 case rest =>
 obtain ⟨d1,rfl,HD1,rfl⟩:=hcut
 have hd1 : -100000≤d1∧d1≤100000:=by
  have:=HD1.out
  split at this <;> omega
 by_cases c:i<s.size
 rotate_left
 ·
  have cI:((i:Int)<(s.size:Int))=False:=eq_false (by omega)
  have cD:decide ((i:Int)<(s.size:Int))=false:=decide_eq_false (by omega)
  have HC:Aside0 (¬ (i<s.size∧(bt s i=101∨bt s i=69))):=⟨fun h=>c h.1⟩
  by_cases cm:m=0
  ·
   subst cm
   go_wp2
   (try simp only [Exit.inBlock,Exit.then]);(try rw [Exit.noGoto_ret]);refine bodyPost_ret (results_tmp7 rfl _ _ _) rfl ?_
   exact rf_end HF.out (rfT_no HC.out HD1.out rfl) rfl HW.out
  have cmT:((m:Int) != 0)=true:=by simp;omega
  go_wp2
  (try simp only [Exit.inBlock,Exit.then]);(try rw [Exit.noGoto_ret]);refine bodyPost_ret (results_tmp7 rfl _ _ _) rfl ?_
  exact rf_end HF.out (rfT_no HC.out HD1.out (if_neg cm).symm) rfl HW.out
 have cI:((i:Int)<(s.size:Int))=True:=eq_true (by omega)
 have cD:decide ((i:Int)<(s.size:Int))=true:=decide_eq_true (by omega)
 have hx0:=HN.out i c
 have e0:=bt_nat c
 obtain ⟨x,hx⟩ : ∃ x,bt s i=x:=⟨_,rfl⟩
 rw [e0,hx] at hx0
 rw [hx] at e0
 have HX:=Ak hx
 clear hx
 obtain ⟨y,hy,hy1,hy2⟩:=low_e hx0
 have H205:=Ak (fun W=>strconv_lower.calls x y W hy)
 clear hy
 by_cases ce:x=101∨x=69
 ·
  obtain rfl:=hy1 ce
  clear hy1 hy2 hx0
  have HC:Aside0 (i<s.size∧(bt s i=101∨bt s i=69)):=⟨c,by rw [HX.out];exact ce⟩
  clear ce
  by_cases ci:i+1<s.size
  rotate_left
  ·
   have ciI:((s.size:Int)≤(i:Int)+1)=True:=eq_true (by omega)
   go_wp2_with (first|(go_at_call 205;(refine (H205.out _).mono ?_);rintro e w9 ⟨rfl,hd9⟩;have HD9:=Ak hd9;clear hd9))
   (try simp only [Exit.inBlock,Exit.then]);(try rw [Exit.noGoto_ret]);refine bodyPost_ret (results_tmp7 rfl _ _ _) rfl ?_
   exact rf_end HF.out (rfT_e0 HC.out (by omega)) (by omega) (drawn_trans HW.out HD9.out)
  have ciI:((s.size:Int)≤(i:Int)+1)=False:=eq_false (by omega)
  have ciJ:((i:Int)+1<(s.size:Int))=True:=eq_true (by omega)
  have e1:=bt_nat ci
  obtain ⟨z,hz⟩ : ∃ z,bt s ((i+1:Nat):Int)=z:=⟨_,rfl⟩
  rw [hz] at e1
  have HZ:=Ak hz
  clear hz
  go_upto_block 4 with (first|(go_at_call 205;(refine (H205.out _).mono ?_);rintro e w9 ⟨rfl,hd9⟩;have HD9:=Ak hd9;clear hd9))
  go_cut [7,19] from 162 to 178 (fun v7 v19 wc2 => ∃ (j:Nat) (sg:Int),v7 = .int .i64 (j:Int)∧v19 = .int .i64 sg∧Aside0 (j≤s.size∧(sg=1∨sg = -1))∧Aside0 (j=(if z=43∨z=45 then i+2 else i+1)∧sg=(if z=45 then -1 else 1))∧w9=wc2)
  case first =>
   by_cases c43:z=43
   ·
    subst c43
    go_wp2
    go_meet
    case rel=>exact ⟨i+2,1,by congr 1,rfl,⟨by omega, .inl rfl⟩,⟨rfl,rfl⟩,rfl⟩
   have q43:(z == 43)=false:=by simpa using c43
   by_cases c45:z=45
   ·
    subst c45
    go_wp2
    go_meet
    case rel=>exact ⟨i+2, -1,by congr 1,rfl,⟨by omega, .inr rfl⟩,⟨rfl,rfl⟩,rfl⟩
   have q45:(z == 45)=false:=by simpa using c45
   go_wp2
   go_meet
   case rel=>exact ⟨i+1,1,by congr 1,rfl,⟨by omega, .inl rfl⟩,⟨(if_neg (by omega)).symm,(if_neg c45).symm⟩,rfl⟩
  case rest =>
  have HW2:=Ak (drawn_trans HW.out HD9.out)
  clear HW HD9 ciI ciJ e1 e0 cI cD c H205
  obtain ⟨j,sg,rfl,rfl,HA,HJ,rfl⟩:=hcut
  obtain ⟨b1,b2⟩:=HA.out
  clear HA
  by_cases cj:j<s.size
  rotate_left
  ·
   have cjT:((s.size:Int)≤(j:Int))=True:=eq_true (by omega)
   have cjD:decide ((s.size:Int)≤(j:Int))=true:=decide_eq_true (by omega)
   have HN2:Aside0 (¬ (j<s.size∧48≤bt s j∧bt s j≤57)):=⟨fun h=>cj h.1⟩
   go_wp2
   (try simp only [Exit.inBlock,Exit.then]);(try rw [Exit.noGoto_ret]);refine bodyPost_ret (results_tmp7 rfl _ _ _) rfl ?_
   exact rf_end HF.out (rfT_e1 HC.out ci HZ.out HJ.out.1 HN2.out) rfl HW2.out
  have cjT:((s.size:Int)≤(j:Int))=False:=eq_false (by omega)
  have cjD:decide ((s.size:Int)≤(j:Int))=false:=decide_eq_false (by omega)
  have cjI:((j:Int)<(s.size:Int))=True:=eq_true (by omega)
  have e2:=bt_nat cj
  obtain ⟨z2,hz2⟩ : ∃ z2,bt s j=z2:=⟨_,rfl⟩
  rw [hz2] at e2
  have HZ2:=Ak hz2
  clear hz2
  by_cases c48:z2<48
  ·
   have t48:decide (z2<48)=true:=decide_eq_true c48
   have HN2:Aside0 (¬ (j<s.size∧48≤bt s j∧bt s j≤57)):=⟨fun h=>by have:=h.2.1;rw [HZ2.out] at this;omega⟩
   go_wp2
   (try simp only [Exit.inBlock,Exit.then]);(try rw [Exit.noGoto_ret]);refine bodyPost_ret (results_tmp7 rfl _ _ _) rfl ?_
   exact rf_end HF.out (rfT_e1 HC.out ci HZ.out HJ.out.1 HN2.out) rfl HW2.out
  have t48:decide (z2<48)=false:=decide_eq_false c48
  by_cases c57:57<z2
  ·
   have t57:decide (57<z2)=true:=decide_eq_true c57
   have HN2:Aside0 (¬ (j<s.size∧48≤bt s j∧bt s j≤57)):=⟨fun h=>by have:=h.2.2;rw [HZ2.out] at this;omega⟩
   go_wp2
   (try simp only [Exit.inBlock,Exit.then]);(try rw [Exit.noGoto_ret]);refine bodyPost_ret (results_tmp7 rfl _ _ _) rfl ?_
   exact rf_end HF.out (rfT_e1 HC.out ci HZ.out HJ.out.1 HN2.out) rfl HW2.out
  have t57:decide (57<z2)=false:=decide_eq_false c57
  have HP2:Aside0 (j<s.size∧48≤bt s j∧bt s j≤57):=⟨cj,by rw [HZ2.out];omega⟩
  go_upto_block 5 with (fail)
  obtain ⟨E,hE⟩ : ∃ E,exL s (s.size - j) j 0=E:=⟨_,rfl⟩
  have HE:=Ak hE
  clear hE
  go_cut [7,9,20] from 179 to 232 (fun v7 v9 v20 wc2 => ∃ (k:Nat) (e:Nat),v7 = .int .i64 (k:Int)∧v9 = .bool false∧v20 = .int .i64 (e:Int)∧Aside0 (k≤s.size∧e≤200000)∧Aside0 (E=(k,e))∧w9=wc2)
  case first =>
   go_wp2
   clear e2 t57 t48 c48 c57 cjD cjT cjI
   go_loopg [7,9,20] (s.size+1) (fun kq v7 v9 v20 wl => ∃ (k:Nat) (e:Nat),v7 = .int .i64 (k:Int)∧v9 = .bool false∧v20 = .int .i64 (e:Int)∧Aside0 (k≤s.size∧s.size - k<kq∧e≤200000)∧Aside0 (exL s (s.size - k) k e=E)∧w9=wl)
   case atStart=>exact ⟨j,0,rfl,rfl,rfl,⟨by omega,by omega,by omega⟩,HE,rfl⟩
   case round =>
   obtain ⟨k,e,rfl,rfl,rfl,HA,HI,rfl⟩:=hrel
   obtain ⟨f1,f2,f4⟩:=HA.out
   clear HA b1 b2 cj
   cases gk with
   | zero=>omega
   | succ k1 =>
   by_cases c:k<s.size
   rotate_left
   ·
    have cI:((k:Int)<(s.size:Int))=False:=eq_false (by omega)
    have cD:decide ((k:Int)<(s.size:Int))=false:=decide_eq_false (by omega)
    have hr:Aside0 (E=(k,e)):=⟨by rw [← HI.out,exL_end c]⟩
    go_wp2
    go_meet
    case rel=>exact ⟨k,e,rfl,rfl,rfl,⟨by omega,by omega⟩,hr,rfl⟩
   have cI:((k:Int)<(s.size:Int))=True:=eq_true (by omega)
   have cD:decide ((k:Int)<(s.size:Int))=true:=decide_eq_true (by omega)
   have hx0:=HN.out k c
   have e0:=bt_nat c
   obtain ⟨x,hx⟩ : ∃ x,bt s k=x:=⟨_,rfl⟩
   rw [e0,hx] at hx0
   rw [hx] at e0
   have HX:=Ak hx
   clear hx
   have q95:(x == 95)=false:=by simp;rcases hx0 with h|h|h|h|h|h <;> omega
   by_cases l48:48≤x
   ·
    have t48:decide (48≤x)=true:=decide_eq_true l48
    by_cases l57:x≤57
    rotate_left
    ·
     have t57:decide (x≤57)=false:=decide_eq_false l57
     have hr:Aside0 (E=(k,e)):=⟨by rw [← HI.out,exL_no c HX.out (by omega)]⟩
     go_wp2
     go_meet
     case rel=>exact ⟨k,e,rfl,rfl,rfl,⟨by omega,by omega⟩,hr,rfl⟩
    have t57:decide (x≤57)=true:=decide_eq_true l57
    by_cases le:e<10000
    ·
     have leT:((e:Int)<10000)=True:=eq_true (by omega)
     have hr:Aside0 (exL s (s.size - (k+1)) (k+1) (e*10+(x - 48).toNat)=E):=⟨by rw [← HI.out,exL_lo c HX.out ⟨l48,l57⟩ le]⟩
     go_wp2
     go_roundg k1
     case measure=>omega
     case rel=>exact ⟨k+1,_,by congr 1,rfl,by congr 1 <;> omega,⟨by omega,by omega,by omega⟩,hr,rfl⟩
    have leT:((e:Int)<10000)=False:=eq_false (by omega)
    have hr:Aside0 (exL s (s.size - (k+1)) (k+1) e=E):=⟨by rw [← HI.out,exL_hi c HX.out ⟨l48,l57⟩ le]⟩
    go_wp2
    go_roundg k1
    case measure=>omega
    case rel=>exact ⟨k+1,e,by congr 1,rfl,rfl,⟨by omega,by omega,by omega⟩,hr,rfl⟩
   have t48:decide (48≤x)=false:=decide_eq_false l48
   have hr:Aside0 (E=(k,e)):=⟨by rw [← HI.out,exL_no c HX.out (by omega)]⟩
   go_wp2
   go_meet
   case rel=>exact ⟨k,e,rfl,rfl,rfl,⟨by omega,by omega⟩,hr,rfl⟩
  case rest =>
  obtain ⟨k,e,rfl,rfl,rfl,HA,HE2,rfl⟩:=hcut
  obtain ⟨f1,f2⟩:=HA.out
  clear HA e2 t57 t48 c48 c57 cjD cjT cjI
  have HE3:=Ak (HE.out.trans HE2.out)
  clear HE HE2
  have hpr:Aside0 (∀ p,p=(if m=0 then 0 else d1+e*sg - nm)→rfT s neg (i,m,dp,nd,nm,dot,true,tr)=(m,p,neg,tr,k,true)):=⟨fun p hp=>rfT_e2 HC.out ci HZ.out HJ.out.1 HJ.out.2 HP2.out HE3.out HD1.out hp⟩
  by_cases cm:m=0
  ·
   subst cm
   rcases b2 with rfl|rfl
   all_goals
    go_wp2
    (try simp only [Exit.inBlock,Exit.then]);(try rw [Exit.noGoto_ret]);refine bodyPost_ret (results_tmp7 rfl _ _ _) rfl ?_
    exact rf_end HF.out (hpr.out _ rfl) rfl HW2.out
  have cmT:((m:Int) != 0)=true:=by simp;omega
  rcases b2 with rfl|rfl
  all_goals
   go_wp2
   (try simp only [Exit.inBlock,Exit.then]);(try rw [Exit.noGoto_ret]);refine bodyPost_ret (results_tmp7 rfl _ _ _) rfl ?_
   exact rf_end HF.out (hpr.out _ (by rw [if_neg cm];omega)) rfl HW2.out
 have hy2:=hy2 ce
 clear hy1 hx0
 have HC:Aside0 (¬ (i<s.size∧(bt s i=101∨bt s i=69))):=⟨fun h=>ce (by have:=h.2;rw [HX.out] at this;exact this)⟩
 clear ce
 by_cases cm:m=0
 ·
  subst cm
  go_wp2_with (first|(go_at_call 205;(refine (H205.out _).mono ?_);rintro e w9 ⟨rfl,hd9⟩;have HD9:=Ak hd9;clear hd9))
  (try simp only [Exit.inBlock,Exit.then]);(try rw [Exit.noGoto_ret]);refine bodyPost_ret (results_tmp7 rfl _ _ _) rfl ?_
  exact rf_end HF.out (rfT_no HC.out HD1.out rfl) rfl (drawn_trans HW.out HD9.out)
 have cmT:((m:Int) != 0)=true:=by simp;omega
 go_wp2_with (first|(go_at_call 205;(refine (H205.out _).mono ?_);rintro e w9 ⟨rfl,hd9⟩;have HD9:=Ak hd9;clear hd9))
 (try simp only [Exit.inBlock,Exit.then]);(try rw [Exit.noGoto_ret]);refine bodyPost_ret (results_tmp7 rfl _ _ _) rfl ?_
 exact rf_end HF.out (rfT_no HC.out HD1.out (if_neg cm).symm) rfl (drawn_trans HW.out HD9.out)
theorem rfL_bound (s:ByteArray) : ∀ (k i m:Nat) (dp:Int) (nd nm:Nat) (dot dig tr:Bool),i+k=s.size→m<10 ^ nm→nm≤19→(rfL s k i m dp nd nm dot dig tr).1≤s.size∧(rfL s k i m dp nd nm dot dig tr).2.1<10 ^ 19
  | 0,i,m,dp,nd,nm,dot,dig,tr,hi,hm,hn=>⟨by show i≤s.size;omega,Nat.lt_of_lt_of_le hm (Nat.pow_le_pow_right (by decide) hn)⟩
  | k+1,i,m,dp,nd,nm,dot,dig,tr,hi,hm,hn=>by
    have h0:i≤s.size∧m<10 ^ 19:=⟨by omega,Nat.lt_of_lt_of_le hm (Nat.pow_le_pow_right (by decide) hn)⟩
    rw [rfL]
    split
    · split
      · exact h0
      · exact rfL_bound s k _ _ _ _ _ _ _ _ (by omega) hm hn
    · split
      · rename_i hx
        split
        · exact rfL_bound s k _ _ _ _ _ _ _ _ (by omega) hm hn
        · split
          · exact rfL_bound s k _ _ _ _ _ _ _ _ (by omega) (by rw [Nat.pow_succ];omega) (by omega)
          · split
            · exact rfL_bound s k _ _ _ _ _ _ _ _ (by omega) hm hn
            · exact rfL_bound s k _ _ _ _ _ _ _ _ (by omega) hm hn
      · exact h0
theorem exL_bound (s:ByteArray) : ∀ (k i e:Nat),i+k=s.size→(exL s k i e).1≤s.size
  | 0,i,e,hi=>by show i≤s.size;omega
  | k+1,i,e,hi=>by
    rw [exL]
    split
    · split
      · exact exL_bound s k _ _ (by omega)
      · exact exL_bound s k _ _ (by omega)
    · show i≤s.size;omega
theorem rfF_bound {s:ByteArray} (h:0<s.size):(rfF s).1<10 ^ 19∧(rfF s).2.2.2.2.1≤s.size:=by
 unfold rfF
 obtain ⟨i0,hi0⟩ : ∃ i0:Nat,(if bt s 0=43∨bt s 0=45 then 1 else 0)=i0:=⟨_,rfl⟩
 rw [hi0]
 have h1:i0≤1:=by rw [← hi0];split <;> omega
 have hb:=rfL_bound s (s.size - i0) i0 0 0 0 0 false false false (by omega) (by decide) (by decide)
 obtain ⟨R,hR⟩ : ∃ R,rfL s (s.size - i0) i0 0 0 0 0 false false false=R:=⟨_,rfl⟩
 rw [hR] at hb ⊢
 obtain ⟨i,m,dp,nd,nm,dot,dig,tr⟩:=R
 obtain ⟨b1,b2⟩:=hb
 simp only at b1 b2
 rw [rfT]
 split
 ·
  exact ⟨b2,b1⟩
 split
 ·
  rename_i hc
  split
  ·
   exact ⟨b2,by show i+1≤s.size;omega⟩
  rename_i h2
  simp only
  obtain ⟨j,hj⟩ : ∃ j:Nat,(if bt s ((i+1:Nat):Int)=43∨bt s ((i+1:Nat):Int)=45 then i+2 else i+1)=j:=⟨_,rfl⟩
  rw [hj]
  have hj2:j≤s.size:=by rw [← hj];split <;> omega
  split
  ·
   exact ⟨b2,exL_bound s _ _ _ (by omega)⟩
  exact ⟨b2,hj2⟩
 exact ⟨b2,b1⟩
end Go.Proofs.YtnejkimpkaopoaaGreatDoor.Q

import Derived.Test.YtnejkimpkaopoaaGreatDoorD5
namespace Go.Proofs.YtnejkimpkaopoaaGreatDoor.Q
open RowKit YtnejkimpkaopoaaGreatDoorW.PrintWords YtnejkimpkaopoaaGreatDoorW.PrintLast YtnejkimpkaopoaaGreatDoorW.PrintMore
attribute [local go_sem] max2_int min2_int max_two min_two max_three min_three max_four min_four
set_option linter.unusedVariables false
set_option linter.unusedSimpArgs false
theorem pow_small {r n P:Nat} (h:10 ^ (r - 1)≤n) (hn:n<P) (hP:P≤1152921504606846976):r≤19:=by
 apply Classical.byContradiction
 intro hr
 have:=Nat.pow_le_pow_right (n:=10) (i:=19) (j:=r - 1) (by omega) (by omega)
 omega
set_option maxHeartbeats 8000000 in
set_option maxRecDepth 100000 in
theorem strconv_rightShift.calls (b g nd k:Nat) (d:Nat→Int) (dp:Int) (neg tr:Bool) (w:World) (hD:Dec w g d nd dp neg tr) (hn:0<nd) (hd:Dig d nd) (hb:b≤g) (hk:1≤k∧k≤60) (hdp : -100000000≤dp∧dp≤100000000) :
 Calls Tryz.prog 264 #[.pointer (some ⟨g,0,none⟩), .int .u64 (k:Int)] w fun e w'=>e = .returned (.tuple #[]) ∧ ∃ (d2:Nat→Int) (m:Nat) (dp2:Int) (tr2:Bool),Dec w' g d2 m dp2 neg tr2∧0<m∧Dig d2 m∧KB b g w w'∧dp - 20≤dp2∧dp2≤dp∧(dp2=dp→d2 0<d 0):=by
 have HD:=Ak hD
 have Hd:=Ak hd
 have hnd8:=hd.1
 clear hD hd
 have hk0:(0:Int)≤(k:Int):=by omega
 have hk64:(k:Int)<64:=by omega
 obtain ⟨P,hP⟩ : ∃ P:Nat,2 ^ k=P:=⟨_,rfl⟩
 have hP0:2≤P:=by rw [← hP];exact Nat.pow_le_pow_right (n:=2) (i:=1) (by omega) (by omega)
 have hP1:P≤1152921504606846976:=by rw [← hP];exact Nat.pow_le_pow_right (n:=2) (j:=60) (by omega) (by omega)
 have h2k:(2:Int) ^ k=(P:Int):=by rw [← hP];simp
 have HP:=Ak hP
 clear hP
 go_enter Tryz.func264,Tryz.ntmps264
 go_upto_block 0 with (fail)
 go_cut [4,6] (fun v4 v6 wc => ∃ r n:Nat,v4 = .int .i64 (r:Int)∧v6 = .int .u64 (n:Int)∧Aside0 (1≤r∧r≤20∧P≤n∧n<10*P∧(r=1→(n:Int)=d 0 - 48))∧w=wc)
 case first =>
  go_wp2
  go_loopg [4,6,7] (nd+1) (fun kq v4 v6 v7 wl => ∃ r n:Nat,v4 = .int .i64 (r:Int)∧v6 = .int .u64 (n:Int)∧Aside0 (r≤nd∧nd - r<kq∧(r=0→n=0)∧(1≤r→10 ^ (r - 1)≤n)∧n<10*P∧r≤20∧(r=1→(n:Int)=d 0 - 48))∧w=wl)
  case atStart=>exact ⟨0,0,rfl,rfl,⟨by omega,by omega,fun _=>rfl,fun h=>by omega,by omega,by omega,fun h=>by omega⟩,rfl⟩
  case round =>
  obtain ⟨r,n,rfl,rfl,HA,rfl⟩:=hrel
  obtain ⟨a1,a2,a3,a4,a5,a6,a7⟩:=HA.out
  clear HA
  have a3:=Ak a3
  have a4:=Ak a4
  have a7:=Ak a7
  cases gk with
  | zero=>omega
  | succ k1 =>
  have hc0:=HD.out.c800
  obtain ⟨q,hq⟩ : ∃ q:Nat,(n:Int) / (P:Int)=(q:Int):=⟨n / P,by rw [Int.natCast_ediv]⟩
  have hqn:n / P=q:=by
   have h:((n / P:Nat):Int)=(q:Int):=by rw [Int.natCast_ediv];exact hq
   exact_mod_cast h
  by_cases c:n<P
  rotate_left
  ·
   have hq0:((q:Int) == 0)=false:=by
    have:1≤q:=by rw [← hqn];exact (Nat.le_div_iff_mul_le (by omega)).2 (by omega)
    exact beq_eq_false_iff_ne.2 (by omega)
   clear hqn
   have hr1:1≤r:=by
    apply Classical.byContradiction
    intro h
    have:=a3.out (by omega)
    omega
   go_wp2
   go_meet
   case rel=>exact ⟨r,n,rfl,rfl,⟨by omega,by omega,by omega,by omega,a7.out⟩,rfl⟩
  have hq0:q=0:=by rw [← hqn];exact Nat.div_eq_of_lt c
  subst hq0
  clear hqn
  have hr19:r≤19:=by
   by_cases h:1≤r
   ·
    exact pow_small (a4.out h) c hP1
   omega
  by_cases c2:nd≤r
  ·
   -- the digits are used up
   have hr:r=nd:=by omega
   have hn1:1≤n:=Nat.le_trans (Nat.pow_pos (by decide)) (a4.out (by omega))
   have hz:((n:Int) == 0)=false:=beq_eq_false_iff_ne.2 (by omega)
   go_wp2
   clear hq hz
   go_loopg [4,6] (21 - r) (fun kq v4 v6 wl => ∃ r n:Nat,v4 = .int .i64 (r:Int)∧v6 = .int .u64 (n:Int)∧Aside0 (1≤r∧r≤20∧20 - r<kq∧10 ^ (r - 1)≤n∧n<10*P∧(r=1→(n:Int)=d 0 - 48))∧w=wl)
   case atStart=>exact ⟨r,n,rfl,rfl,⟨by omega,by omega,by omega,a4.out (by omega),by omega,a7.out⟩,rfl⟩
   case round =>
   clear a1 a2 a3 a4 a5 a6 a7 hn1 hr hr19 c c2
   obtain ⟨r,n,rfl,rfl,HA,rfl⟩:=hrel
   obtain ⟨a1,a2,a3,a4,a5,a7⟩:=HA.out
   clear HA
   have a4:=Ak a4
   have a7:=Ak a7
   cases gk with
   | zero=>omega
   | succ k2 =>
   obtain ⟨q,hq⟩ : ∃ q:Nat,(n:Int) / (P:Int)=(q:Int):=⟨n / P,by rw [Int.natCast_ediv]⟩
   have hqn:n / P=q:=by
    have h:((n / P:Nat):Int)=(q:Int):=by rw [Int.natCast_ediv];exact hq
    exact_mod_cast h
   by_cases c:n<P
   rotate_left
   ·
    have hq0:((q:Int) == 0)=false:=by
     have:1≤q:=by rw [← hqn];exact (Nat.le_div_iff_mul_le (by omega)).2 (by omega)
     exact beq_eq_false_iff_ne.2 (by omega)
    clear hqn
    go_wp2
    go_meet
    case rel=>exact ⟨r,n,rfl,rfl,⟨by omega,by omega,by omega,by omega,a7.out⟩,rfl⟩
   have hq0:q=0:=by rw [← hqn];exact Nat.div_eq_of_lt c
   subst hq0
   clear hqn
   have hr19:=pow_small a4.out c hP1
   have b1:Aside0 (10 ^ (r+1 - 1)≤n*10):=⟨by rw [show r+1 - 1=(r - 1)+1 by omega,Nat.pow_succ];exact Nat.mul_le_mul_right _ a4.out⟩
   have hw10:IntKind.u64.wrap ((n:Int)*10)=((n*10:Nat):Int):=by rw [IntKind.wrap_u64];omega
   have hz:(((0:Nat):Int) == 0)=true:=rfl
   go_wp2
   go_roundg k2
   case measure=>omega
   case rel=>exact ⟨r+1,n*10,by congr 1,by congr 1,⟨by omega,by omega,by omega,b1.out,by omega,fun h=>by omega⟩,rfl⟩
  have hcd:=HD.out.digit r (by omega)
  have hdg:=Hd.out.2.1 r (by omega)
  obtain ⟨x,hx⟩ : ∃ x,d r=x:=⟨_,rfl⟩
  rw [hx] at hcd hdg
  have hx:=Ak hx
  obtain ⟨y,rfl⟩ : ∃ y:Nat,x=48+(y:Int):=⟨(x - 48).toNat,by omega⟩
  have b0:Aside0 (r=0→1≤y):=⟨fun h=>by
   have h1:=Hd.out.2.2 hn
   have h2:=hx.out
   rw [h] at h2
   omega⟩
  have b1:Aside0 (10 ^ (r+1 - 1)≤n*10+y):=⟨by
   by_cases h:r=0
   ·
    have:=b0.out h
    rw [h];simp;omega
   rw [show r+1 - 1=(r - 1)+1 by omega,Nat.pow_succ]
   exact Nat.le_trans (Nat.mul_le_mul_right _ (a4.out (by omega))) (Nat.le_add_right _ _)⟩
  have b2:Aside0 (r+1=1→((n*10+y:Nat):Int)=d 0 - 48):=⟨fun h=>by
   have h0:r=0:=by omega
   have h1:=a3.out h0
   have h2:=hx.out
   rw [h0] at h2
   omega⟩
  have hz:(((0:Nat):Int) == 0)=true:=rfl
  go_wp2
  go_roundg k1
  case measure=>omega
  case rel=>exact ⟨r+1,n*10+y,by congr 1,by congr 1;omega,⟨by omega,by omega,fun h=>by omega,fun _=>b1.out,by omega,by omega,b2.out⟩,rfl⟩
 case rest =>
 obtain ⟨r0,n0,rfl,rfl,HA0,hw0⟩:=hcut
 subst hw0
 obtain ⟨e1,e2,e3,e4,e5⟩:=HA0.out
 clear HA0
 have e5:=Ak e5
 have hc1:=HD.out.c801
 have hf1:=HD.out.frozen 801
 obtain ⟨dp1,hdp1⟩ : ∃ dp1,dp - ((r0:Int) - 1)=dp1:=⟨_,rfl⟩
 have hwr:wrap64 (dp - ((r0:Int) - 1))=dp1:=by rw [← hdp1];unfold wrap64;omega
 go_upto_block 4 with (fail)
 have HDz:=Ak (HD.out.setP dp1)
 have HKz:=Ak ((KB.refl w hb).set_ 801 (.int .i64 dp1))
 clear hc1 hf1 hwr HD
 generalize World.setCell _ _ _=wz at HDz HKz ⊢
 go_cut [5,6] (fun v5 v6 wc => ∃ (wi n:Nat) (d2:Nat→Int),v5 = .int .i64 (wi:Int)∧v6 = .int .u64 (n:Int)∧Aside0 (wi≤800∧n<10*P∧(wi=0→n=n0)∧(∀ i,i<wi→48≤d2 i∧d2 i≤57)∧(0<wi→d2 0=48+((n0 / P:Nat):Int)))∧Aside0 (Dec wc g d2 nd dp1 neg tr)∧Aside0 (KB b g w wc))
 case first =>
  go_wp2
  go_loopg [4,5,6,9,10] (nd+1) (fun kq v4 v5 v6 v9 v10 wl => ∃ (r wi n:Nat) (d2:Nat→Int),v4 = .int .i64 (r:Int)∧v5 = .int .i64 (wi:Int)∧v6 = .int .u64 (n:Int) ∧
   Aside0 (wi<r∧(wi≤800∧(r≤nd∨nd<r))∧nd - r<kq∧n<10*P∧(wi=0→n=n0)∧(∀ i,i<wi→48≤d2 i∧d2 i≤57)∧(0<wi→d2 0=48+((n0 / P:Nat):Int))∧(∀ i,r≤i→i<nd→48≤d2 i∧d2 i≤57))∧Aside0 (Dec wl g d2 nd dp1 neg tr)∧Aside0 (KB b g w wl))
  case atStart=>exact ⟨r0,0,n0,d,rfl,rfl,rfl,⟨by omega,⟨by omega,by omega⟩,by omega,e4,fun _=>rfl,fun i h=>by omega,fun h=>by omega,fun i _ h=>Hd.out.2.1 i h⟩,HDz,HKz⟩
  case round =>
  clear HDz HKz e3 e4
  obtain ⟨r,wi,n,d2,rfl,rfl,rfl,HA,HD2,HK2⟩:=hrel
  obtain ⟨f1,f2,f3,f4,f5,f6,f7,f8⟩:=HA.out
  clear HA
  have f5:=Ak f5
  have f6:=Ak f6
  have f7:=Ak f7
  have f8:=Ak f8
  have hc0:=HD2.out.c800
  obtain ⟨f2a,f2b⟩:=f2
  cases gk with
  | zero=>omega
  | succ k1 =>
  by_cases c:r<nd
  rotate_left
  ·
   go_wp2
   go_meet
   case rel=>exact ⟨wi,n,d2,rfl,rfl,⟨by omega,by omega,f5.out,f6.out,f7.out⟩,HD2,HK2⟩
  have hcd:=HD2.out.digit r (by omega)
  have hcw:=HD2.out.digit wi (by omega)
  have hfw:=HD2.out.frozen wi
  have hdg:=f8.out r (Nat.le_refl _) c
  obtain ⟨x,hx⟩ : ∃ x,d2 r=x:=⟨_,rfl⟩
  rw [hx] at hcd hdg
  clear hx
  obtain ⟨y,rfl⟩ : ∃ y:Nat,x=48+(y:Int):=⟨(x - 48).toNat,by omega⟩
  obtain ⟨q,hq⟩ : ∃ q:Nat,(n:Int) / (P:Int)=(q:Int):=⟨n / P,by rw [Int.natCast_ediv]⟩
  have hqn:n / P=q:=by
   have h:((n / P:Nat):Int)=(q:Int):=by rw [Int.natCast_ediv];exact hq
   exact_mod_cast h
  have hq9:q<10:=by rw [← hqn];exact (Nat.div_lt_iff_lt_mul (by omega)).2 (by omega)
  obtain ⟨m,hm⟩ : ∃ m,n % P=m:=⟨_,rfl⟩
  have hmP:m<P:=by rw [← hm];exact Nat.mod_lt _ (by omega)
  have hand:Go.bits .and .u64 (n:Int) ((P:Int) - 1)=(m:Int):=by
   have h:=bits_mask .u64 64 (by decide) (fun x h0 h1=>by rw [IntKind.wrap_u64];omega) k (by omega) (n:Int) (by omega) (by omega)
   rw [h2k] at h
   rw [h, ← hm];simp
  have b6:Aside0 (∀ i,i<wi+1→48≤upd d2 wi ((q:Int)+48) i∧upd d2 wi ((q:Int)+48) i≤57):=⟨fun i h=>by
   by_cases e:i=wi
   ·
    rw [e,upd_same];omega
   rw [upd_ne _ _ e];exact f6.out i (by omega)⟩
  have b7:Aside0 (0<wi+1→upd d2 wi ((q:Int)+48) 0=48+((n0 / P:Nat):Int)):=⟨fun _=>by
   by_cases e:wi=0
   ·
    rw [e,upd_same, ← hqn,f5.out e];omega
   rw [upd_ne _ _ (Ne.symm e)];exact f7.out (by omega)⟩
  have b8:Aside0 (∀ i,r+1≤i→i<nd→48≤upd d2 wi ((q:Int)+48) i∧upd d2 wi ((q:Int)+48) i≤57):=⟨fun i h1 h2=>by
   rw [upd_ne _ _ (by omega)];exact f8.out i (by omega) h2⟩
  have HDs:=Ak (HD2.out.setD wi (by omega) ((q:Int)+48))
  have HKs:=Ak (HK2.out.set_ wi (.int .u8 ((q:Int)+48)))
  have hst:(((q:Int)+48) % 256)=(q:Int)+48:=by omega
  clear hqn hm
  go_wp2
  go_roundg k1
  case measure=>omega
  case rel=>exact ⟨r+1,wi+1,m*10+y,upd d2 wi ((q:Int)+48),by congr 1,by congr 1,by congr 1;omega,⟨by omega,⟨by omega,by omega⟩,by omega,by omega,fun h=>by omega,b6.out,b7.out,b8.out⟩,HDs,HKs⟩
 case rest =>
 clear HDz HKz
 obtain ⟨w1,n1,d1,rfl,rfl,HA1,HD1,HK1⟩:=hcut
 obtain ⟨g1,g2,g3,g4,g5⟩:=HA1.out
 clear HA1
 have g3:=Ak g3
 have g4:=Ak g4
 have g5:=Ak g5
 go_upto_block 6 with (fail)
 go_cut [5] (fun v5 wc => ∃ (wi:Nat) (d2:Nat→Int) (tr2:Bool),v5 = .int .i64 (wi:Int)∧Aside0 (0<wi∧wi≤800∧(∀ i,i<wi→48≤d2 i∧d2 i≤57)∧d2 0=48+((n0 / P:Nat):Int))∧Aside0 (Dec wc g d2 nd dp1 neg tr2)∧Aside0 (KB b g w wc))
 case first =>
  go_wp2
  go_loopg [5,6,11] (k+2) (fun kq v5 v6 v11 wl => ∃ (wi n:Nat) (d2:Nat→Int) (tr2:Bool),v5 = .int .i64 (wi:Int)∧v6 = .int .u64 (n:Int) ∧
   Aside0 (wi≤800∧n<10*P∧(wi=0→n=n0)∧(∀ i,i<wi→48≤d2 i∧d2 i≤57)∧(0<wi→d2 0=48+((n0 / P:Nat):Int))∧((n=0∧0<kq) ∨ ∃ j,kq=j+2∧n*2 ^ j % P=0))∧Aside0 (Dec wl g d2 nd dp1 neg tr2)∧Aside0 (KB b g w wl))
  case atStart=>exact ⟨w1,n1,d1,tr,rfl,rfl,⟨g1,g2,g3.out,g4.out,g5.out, .inr ⟨k,rfl,by rw [HP.out];exact Nat.mul_mod_left _ _⟩⟩,HD1,HK1⟩
  case round =>
  clear HD1 HK1 g1 g2 g3 g4 g5
  obtain ⟨wi,n,d2,tr2,rfl,rfl,HA,HD2,HK2⟩:=hrel
  obtain ⟨f1,f2,f3,f4,f5,f6⟩:=HA.out
  clear HA
  have f3:=Ak f3
  have f4:=Ak f4
  have f5:=Ak f5
  have f6:=Ak f6
  cases gk with
  | zero =>
   exfalso
   rcases f6.out with ⟨_,h⟩|⟨j,h,_⟩ <;> omega
  | succ k1 =>
  by_cases c:n=0
  ·
   subst c
   have hw0:0<wi:=by
    apply Classical.byContradiction
    intro h
    have:=f3.out (by omega)
    omega
   have hz:decide ((0:Int)<((0:Nat):Int))=false:=rfl
   go_wp2
   go_meet
   case rel=>exact ⟨wi,d2,tr2,rfl,⟨hw0,f1,f4.out,f5.out hw0⟩,HD2,HK2⟩
  have hcw:=fun h:wi<800=>HD2.out.digit wi h
  have hct:=HD2.out.c803
  have hft:=HD2.out.frozen 803
  have hfw:=HD2.out.frozen wi
  obtain ⟨q,hq⟩ : ∃ q:Nat,(n:Int) / (P:Int)=(q:Int):=⟨n / P,by rw [Int.natCast_ediv]⟩
  have hqn:n / P=q:=by
   have h:((n / P:Nat):Int)=(q:Int):=by rw [Int.natCast_ediv];exact hq
   exact_mod_cast h
  have hq9:q<10:=by rw [← hqn];exact (Nat.div_lt_iff_lt_mul (by omega)).2 (by omega)
  obtain ⟨m,hm⟩ : ∃ m,n % P=m:=⟨_,rfl⟩
  have hmP:m<P:=by rw [← hm];exact Nat.mod_lt _ (by omega)
  have hand:Go.bits .and .u64 (n:Int) ((P:Int) - 1)=(m:Int):=by
   have h:=bits_mask .u64 64 (by decide) (fun x h0 h1=>by rw [IntKind.wrap_u64];omega) k (by omega) (n:Int) (by omega) (by omega)
   rw [h2k] at h
   rw [h, ← hm];simp
  have b6:Aside0 (∀ i,i<wi+1→48≤upd d2 wi ((q:Int)+48) i∧upd d2 wi ((q:Int)+48) i≤57):=⟨fun i h=>by
   by_cases e:i=wi
   ·
    rw [e,upd_same];omega
   rw [upd_ne _ _ e];exact f4.out i (by omega)⟩
  have b7:Aside0 (0<wi+1→upd d2 wi ((q:Int)+48) 0=48+((n0 / P:Nat):Int)):=⟨fun _=>by
   by_cases e:wi=0
   ·
    rw [e,upd_same, ← hqn,f3.out e];omega
   rw [upd_ne _ _ (Ne.symm e)];exact f5.out (by omega)⟩
  have b9:Aside0 ((m*10=0∧0<k1) ∨ ∃ j,k1=j+2∧m*10*2 ^ j % P=0):=⟨by
   rcases f6.out with ⟨h,_⟩|⟨j,h1,h2⟩
   ·
    exact absurd h c
   cases j with
   | zero =>
    left
    rw [Nat.pow_zero,Nat.mul_one,hm] at h2
    exact ⟨by omega,by omega⟩
   | succ j =>
    right
    refine ⟨j,by omega,?_⟩
    have h3:m*10*2 ^ j=5*(m*2 ^ (j+1)):=by rw [Nat.pow_succ,show (10:Nat)=5*2 by rfl];simp only [Nat.mul_comm,Nat.mul_left_comm,Nat.mul_assoc]
    rw [h3, ← hm,Nat.mul_mod,show (n % P*2 ^ (j+1)) % P=n*2 ^ (j+1) % P by rw [Nat.mul_mod,Nat.mod_mod, ← Nat.mul_mod],h2,Nat.mul_zero,Nat.zero_mod]⟩
  have hst:(((q:Int)+48) % 256)=(q:Int)+48:=by omega
  have hnz:decide ((0:Int)<(n:Int))=true:=decide_eq_true (by omega)
  have hn1:0<n:=by omega
  have hnp:(0<n)=True:=eq_true hn1
  clear hqn hm c
  by_cases c2:wi<800
  ·
   have hcw:=hcw c2
   have HDs:=Ak (HD2.out.setD wi c2 ((q:Int)+48))
   have HKs:=Ak (HK2.out.set_ wi (.int .u8 ((q:Int)+48)))
   go_wp2
   go_roundg k1
   case measure=>omega
   case rel=>exact ⟨wi+1,m*10,upd d2 wi ((q:Int)+48),tr2,by congr 1,by congr 1,⟨by omega,by omega,fun h=>by omega,b6.out,b7.out,b9.out⟩,HDs,HKs⟩
  clear hcw
  by_cases c3:0<q
  ·
   have HDs:=Ak (HD2.out.setT true)
   have HKs:=Ak (HK2.out.set_ 803 (.bool true))
   go_wp2
   go_roundg k1
   case measure=>omega
   case rel=>exact ⟨wi,m*10,d2,true,rfl,by congr 1,⟨by omega,by omega,fun h=>by omega,f4.out,f5.out,b9.out⟩,HDs,HKs⟩
  obtain rfl:q=0:=by omega
  go_wp2
  go_roundg k1
  case measure=>omega
  case rel=>exact ⟨wi,m*10,d2,tr2,rfl,by congr 1,⟨by omega,by omega,fun h=>by omega,f4.out,f5.out,b9.out⟩,HD2,HK2⟩
 case rest =>
 clear HD1 HK1 g1 g2 g3 g4 g5
 obtain ⟨wi,d2,tr2,rfl,HA,HD2,HK2⟩:=hcut
 obtain ⟨f1,f2,f3,f4⟩:=HA.out
 clear HA
 have hn0P:1≤n0 / P:=(Nat.le_div_iff_mul_le (by omega)).2 (by omega)
 have hdig:Aside0 (Dig d2 wi):=⟨⟨f2,f3,fun _=>by rw [f4];omega⟩⟩
 have hfin:Aside0 (dp1=dp→d2 0<d 0):=⟨fun h=>by
  have h1:=e5.out (by omega)
  have h2:n0 / P<n0:=Nat.div_lt_self (by omega) (by omega)
  rw [f4];omega⟩
 have f3:=Ak f3
 clear f4 hn0P
 have hc0:=HD2.out.c800
 have hf0:=HD2.out.frozen 800
 have HDs:=Ak (HD2.out.setN (wi:Int))
 have HKs:=Ak (HK2.out.set_ 800 (.int .i64 (wi:Int)))
 clear HD2 HK2
 go_wp2_with (first|(go_at_call 262;(refine (strconv_trim.calls b g wi d2 dp1 neg tr2 _ HDs.out f1 hdig.out hb).mono ?_);rintro e w9 ⟨rfl,m,m1,m2,HD9,HK9⟩;have HD9:=Ak HD9;have HK9:=Ak (HKs.out.trans HK9)))
 refine bodyPost_end (v := .tuple #[]) (results_none rfl _ _ _) rfl ⟨rfl,d2,m,dp1,tr2,HD9.out,m1,?_,HK9.out,by omega,by omega,hfin.out⟩
 exact ⟨by omega,fun i h=>f3.out i (by omega),fun _=>hdig.out.2.2 f1⟩
end Go.Proofs.YtnejkimpkaopoaaGreatDoor.Q

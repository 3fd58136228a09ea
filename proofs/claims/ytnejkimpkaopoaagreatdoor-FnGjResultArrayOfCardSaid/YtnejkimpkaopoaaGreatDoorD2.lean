import Derived.Test.YtnejkimpkaopoaaGreatDoorD1
import Derived.Test.YtnejkimpkaopoaaGreatDoorQ11
import GoSem.PinnedTables
namespace Go.Proofs.YtnejkimpkaopoaaGreatDoor.Q
open RowKit YtnejkimpkaopoaaGreatDoorW.PrintWords YtnejkimpkaopoaaGreatDoorW.PrintLast YtnejkimpkaopoaaGreatDoorW.PrintMore
attribute [local go_sem] max2_int min2_int max_two min_two max_three min_three max_four min_four
set_option linter.unusedVariables false
set_option linter.unusedSimpArgs false
def chD (k:Nat):Int:=(Go.Pinned.cheatRows.getD k (0,[])).1
def chS (k:Nat):ByteArray:=⟨(Go.Pinned.cheatRows.getD k (0,[])).2.toArray⟩
def Tv (d:Nat→Int) (nd:Nat):Nat→Nat
  | 0=>0
  | s+1=>Tv d nd s+(d (nd - 1 - s) - 48).toNat*10 ^ s
theorem Tv_lt {d:Nat→Int} {nd:Nat} (hd : ∀ i,i<nd→48≤d i∧d i≤57) : ∀ s,s≤nd→Tv d nd s<10 ^ s:=by
 intro s
 induction s with
 | zero=>intro _;simp [Tv]
 | succ s ih =>
  intro hs
  have h1:=ih (by omega)
  have h2:=hd (nd - 1 - s) (by omega)
  have h3:(d (nd - 1 - s) - 48).toNat*10 ^ s≤9*10 ^ s:=Nat.mul_le_mul_right _ (by omega)
  rw [Tv,Nat.pow_succ];omega
theorem Dec.C {W:World} {g:Nat} {d:Nat→Int} {nd dp:Int} {neg tr:Bool} (h:Dec W g d nd dp neg tr) (n:Nat) (hn:n≤800):Kd.C (Kd.int .u8) W (some ⟨g,0,none⟩) n ((List.range n).map d):=by
 refine ⟨by simp,by omega,fun _=>⟨_,rfl,fun j p hj=>⟨[.int .u8 p],rfl,rfl,fun i u hu=>?_⟩⟩⟩
 obtain ⟨hl,hp⟩:=List.getElem?_eq_some_iff.1 hj
 have hjn:j<n:=by simpa using hl
 have hpj:d j=p:=by simpa using hp
 cases i with
 | zero =>
  have hu2:Value.int .u8 p=u:=by simpa using hu
  have:=Dec.digit h j (by omega)
  rw [hpj] at this
  rw [← hu2]
  have e:(⟨g,0,none⟩:Addr).add (j*1+0)=⟨g,j,none⟩:=by simp [Addr.add];try omega
  rw [show (Kd.int .u8).sz=1 from rfl,e]
  exact this
 | succ i=>simp at hu
set_option maxHeartbeats 8000000 in
set_option maxRecDepth 100000 in
theorem strconv_leftShift.calls (b g nd k kf dl:Nat) (r:Bool) (d:Nat→Int) (dp:Int) (neg tr:Bool) (w:World) (a:Addr) (cap:Nat) (hD:Dec w g d nd dp neg tr) (hn:0<nd) (hd:Dig d nd) (hb:b≤g) (hk:1≤k∧k≤60) (hdp : -100000000≤dp∧dp≤100000000)
 (h9:w.cell? ⟨19,0,none⟩=some (.slice (some a) 61 cap)) (hc0:w.cell? (a.add (k*2))=some (.int .i64 (chD k))) (hc1:w.cell? ⟨(a.add (k*2)).block,(a.add (k*2)).off+1,none⟩=some (.string (chS k)))
 (hr:strconv_prefixIsLessThan.f kf ((List.range nd).map d) (chS k)=some r) (hdl:chD k=(dl:Int)+if r=true then 1 else 0) (hdl2:dl≤20)
 (hB1:10 ^ (nd+dl - 1)≤Tv d nd nd*2 ^ k) (hB2:Tv d nd nd*2 ^ k<10 ^ (nd+dl)) :
 Calls Tryz.prog 263 #[.pointer (some ⟨g,0,none⟩), .int .u64 (k:Int)] w fun e w'=>e = .returned (.tuple #[]) ∧ ∃ (d2:Nat→Int) (m:Nat) (dp2:Int) (tr2:Bool),Dec w' g d2 m dp2 neg tr2∧0<m∧Dig d2 m∧KB b g w w'∧dp≤dp2∧dp2≤dp+20∧(dp2=dp→d 0<d2 0):=by
 have HD:=Ak hD
 have Hd:=Ak hd
 have hnd8:=hd.1
 clear hD hd
 have hk0:(0:Int)≤(k:Int):=by omega
 have hk64:(k:Int)<64:=by omega
 have hk61:(k:Int)<61:=by omega
 have hc8:=HD.out.c800
 have HR:=Ak hr
 have HDL:=Ak hdl
 have HB1:=Ak hB1
 have HB2:=Ak hB2
 clear hr hdl hB1 hB2
 obtain ⟨e0,he0⟩ : ∃ e0,chD k=e0:=⟨_,rfl⟩
 rw [he0] at hc0 HDL
 clear he0
 obtain ⟨P,hP⟩ : ∃ P:Nat,2 ^ k=P:=⟨_,rfl⟩
 have hP0:2≤P:=by rw [← hP];exact Nat.pow_le_pow_right (n:=2) (i:=1) (by omega) (by omega)
 have hP1:P≤1152921504606846976:=by rw [← hP];exact Nat.pow_le_pow_right (n:=2) (j:=60) (by omega) (by omega)
 have h2k:(2:Int) ^ k=(P:Int):=by rw [← hP];simp
 rw [hP] at HB1 HB2
 clear hP
 have hndI:(nd:Int)≤800:=by omega
 have H106:Aside0 (∀ n,Calls Tryz.prog 272 #[.slice (some ⟨g,0,none⟩) nd 800, .string (chS k)] (w.drewN n) fun e w'=>e = .returned (.bool r) ∧ ∃ m,w'=w.drewN m):=⟨fun n=>by
  have h:=strconv_prefixIsLessThan.calls kf (some ⟨g,0,none⟩) 800 ((List.range nd).map d) (chS k) r (w.drewN n) (by rw [List.length_map,List.length_range];exact (HD.out.drewN n).C nd hnd8) (by simpa using hnd8) HR.out
  rw [List.length_map,List.length_range] at h
  refine h.mono ?_
  rintro e w' ⟨rfl,⟨m,hm⟩⟩
  exact ⟨rfl,n+m,by rw [hm,World.drewN_drewN]⟩⟩
 go_enter Tryz.func263,Tryz.ntmps263
 go_upto_region 1 with (fail)
 go_quiet ((go_at_call 272;exact H106.out _))
 go_upto_if 30 with (fail)
 go_cut [4] (fun v4 wc=>v4 = .int .i64 (dl:Int)∧Aside0 (Dec wc g d nd dp neg tr)∧Aside0 (KB b g w wc))
 case first =>
  have h:=HDL.out
  cases r with
  | true =>
   have hw:wrap64 (e0 - 1)=(dl:Int):=by
    rw [if_pos rfl] at h
    unfold wrap64;omega
   clear h
   go_wp2
   go_meet
   case rel=>exact ⟨rfl,⟨HD.out.drewN _⟩,⟨(KB.refl w hb).drewN _⟩⟩
  | false =>
   rw [if_neg (by decide)] at h
   have he:e0=(dl:Int):=by omega
   subst he
   clear h
   go_wp2
   go_meet
   case rel=>exact ⟨rfl,⟨HD.out.drewN _⟩,⟨(KB.refl w hb).drewN _⟩⟩
 case rest =>
 obtain ⟨rfl,HDc,HKc⟩:=hcut
 clear hc0 hc1 h9 hc8 H106 HR HDL
 have hc8:=HDc.out.c800
 have hwd:wrap64 ((nd:Int)+(dl:Int))=((nd+dl:Nat):Int):=by unfold wrap64;omega
 go_upto_block 0 with (fail)
 go_cut [6,7] (fun v6 v7 wc2 => ∃ (c:Nat) (d2:Nat→Int) (tr2:Bool),v6 = .int .i64 (dl:Int)∧v7 = .int .u64 (c:Int)∧Aside0 (c<P∧c<10 ^ dl∧(dl≠0→10 ^ (dl - 1)≤c)∧(∀ i,dl≤i→i<nd+dl→i<800→48≤d2 i∧d2 i≤57)∧(dl=0→d 0<d2 0))∧Aside0 (Dec wc2 g d2 nd dp neg tr2)∧Aside0 (KB b g w wc2))
 case first =>
  go_wp2
  go_loopg [5,6,7,8,9] (nd+1) (fun kq v5 v6 v7 v8 v9 wl => ∃ (m c:Nat) (d2:Nat→Int) (tr2:Bool),v5 = .int .i64 ((m:Int) - 1)∧v6 = .int .i64 ((m:Int)+(dl:Int))∧v7 = .int .u64 (c:Int) ∧
   Aside0 (m≤nd∧m<kq∧c<P∧c*10 ^ (nd - m)≤Tv d nd (nd - m)*P∧Tv d nd (nd - m)*P<(c+1)*10 ^ (nd - m)∧(∀ i,i<m→d2 i=d i)∧(∀ i,m+dl≤i→i<nd+dl→i<800→48≤d2 i∧d2 i≤57)∧(m=0→dl=0→d 0<d2 0))∧Aside0 (Dec wl g d2 nd dp neg tr2)∧Aside0 (KB b g w wl))
  case atStart=>exact ⟨nd,0,d,tr,rfl,rfl,rfl,⟨by omega,by omega,by omega,by simp [Tv],by simp [Tv],fun _ _=>rfl,fun i h1 h2=>by omega,fun h=>by omega⟩,HDc,HKc⟩
  case round =>
  clear HDc HKc hc8
  obtain ⟨m,c,d2,tr2,rfl,rfl,rfl,HA,HD2,HK2⟩:=hrel
  obtain ⟨f1,f2,f3,f4,f5,f6,f7,f8⟩:=HA.out
  clear HA
  have f4:=Ak f4
  have f5:=Ak f5
  have f6:=Ak f6
  have f7:=Ak f7
  have f8:=Ak f8
  cases gk with
  | zero=>omega
  | succ k1 =>
  by_cases hm:0<m
  rotate_left
  ·
   obtain rfl:m=0:=by omega
   have g1:=f4.out
   have g2:=f5.out
   rw [Nat.sub_zero] at g1 g2
   have b1:Aside0 (c<10 ^ dl):=⟨by
    have h1:=HB2.out
    rw [Nat.pow_add,Nat.mul_comm (10 ^ nd)] at h1
    exact Nat.lt_of_mul_lt_mul_right (Nat.lt_of_le_of_lt g1 h1)⟩
   have b2:Aside0 (dl≠0→10 ^ (dl - 1)≤c):=⟨fun h=>by
    have h1:=HB1.out
    rw [show nd+dl - 1=(dl - 1)+nd by omega,Nat.pow_add] at h1
    have h2:=Nat.lt_of_mul_lt_mul_right (Nat.lt_of_le_of_lt h1 g2)
    omega⟩
   clear g1 g2
   have pc:((1:Int)≤((0:Nat):Int))=False:=eq_false (by omega)
   go_wp2
   go_meet
   case rel=>exact ⟨c,d2,tr2,(by first|rfl|(congr 1;omega)),rfl,⟨f3,b1.out,b2.out,fun i g1 g2 g3=>f7.out i (by omega) g2 g3,fun h=>f8.out (by trivial) h⟩,HD2,HK2⟩
  have hcd:=HD2.out.digit (m - 1) (by omega)
  have hdg:=Hd.out.2.1 (m - 1) (by omega)
  rw [f6.out (m - 1) (by omega)] at hcd
  obtain ⟨x,hx⟩ : ∃ x,d (m - 1)=x:=⟨_,rfl⟩
  rw [hx] at hcd hdg
  obtain ⟨y,rfl⟩ : ∃ y:Nat,x=48+(y:Int):=⟨(x - 48).toNat,by omega⟩
  have hx:=Ak hx
  have hcw:=fun h:m+dl - 1<800=>HD2.out.digit (m+dl - 1) h
  have hct:=HD2.out.c803
  have hft:=HD2.out.frozen 803
  have hfw:=HD2.out.frozen (m+dl - 1)
  have p1:((0:Int)≤(m:Int) - 1)=True:=eq_true (by omega)
  have q1:((m:Int) - 1<800)=True:=eq_true (by omega)
  have t1:((m:Int) - 1).toNat=m - 1:=by omega
  obtain ⟨z,hz⟩ : ∃ z,y*P=z:=⟨_,rfl⟩
  have hz9:z≤9*P:=by rw [← hz];exact Nat.mul_le_mul_right _ (by omega)
  have h1:IntKind.u64.wrap ((48+(y:Int) - 48)*(P:Int))=(z:Int):=by
   rw [show (48+(y:Int) - 48)=(y:Int) by omega,show (y:Int)*(P:Int)=(z:Int) by rw [← hz];simp,IntKind.wrap_u64];omega
  obtain ⟨n,hn'⟩ : ∃ n,c+z=n:=⟨_,rfl⟩
  have h2:(c:Int)+(z:Int)=(n:Int):=by omega
  have hnP:n<10*P:=by omega
  obtain ⟨q,hq⟩ : ∃ q,n / 10=q:=⟨_,rfl⟩
  have h3:(n:Int) / 10=(q:Int):=by omega
  obtain ⟨e,he⟩ : ∃ e,n % 10=e:=⟨_,rfl⟩
  have h4:(n:Int) - 10*(q:Int)=(e:Int):=by omega
  have he9:e≤9:=by omega
  have h5:((e:Int)+48) % 256=(e:Int)+48:=by omega
  have hqP:q<P:=by omega
  -- the carry
  have hs1:nd - (m - 1)=(nd - m)+1:=by omega
  have hT:Tv d nd (nd - (m - 1))=Tv d nd (nd - m)+y*10 ^ (nd - m):=by
   rw [hs1,Tv,show nd - 1 - (nd - m)=m - 1 by omega,hx.out];congr 2;omega
  have hTP:Tv d nd (nd - (m - 1))*P=Tv d nd (nd - m)*P+z*10 ^ (nd - m):=by
   rw [hT,Nat.add_mul, ← hz];congr 1;simp only [Nat.mul_comm,Nat.mul_left_comm,Nat.mul_assoc]
  have b4:Aside0 (q*10 ^ (nd - (m - 1))≤Tv d nd (nd - (m - 1))*P):=⟨by
   rw [hTP,hs1,Nat.pow_succ]
   have g1:q*10*10 ^ (nd - m)≤n*10 ^ (nd - m):=Nat.mul_le_mul_right _ (by omega)
   have g2:n*10 ^ (nd - m)=c*10 ^ (nd - m)+z*10 ^ (nd - m):=by rw [← hn',Nat.add_mul]
   have g3:q*(10 ^ (nd - m)*10)=q*10*10 ^ (nd - m):=by simp only [Nat.mul_comm,Nat.mul_left_comm,Nat.mul_assoc]
   have:=f4.out
   omega⟩
  have b5:Aside0 (Tv d nd (nd - (m - 1))*P<(q+1)*10 ^ (nd - (m - 1))):=⟨by
   rw [hTP,hs1,Nat.pow_succ]
   have g1:(n+1)*10 ^ (nd - m)≤(q+1)*10*10 ^ (nd - m):=Nat.mul_le_mul_right _ (by omega)
   have g2:(n+1)*10 ^ (nd - m)=(c+1)*10 ^ (nd - m)+z*10 ^ (nd - m):=by rw [← hn', ← Nat.add_mul];congr 1;omega
   have g3:(q+1)*(10 ^ (nd - m)*10)=(q+1)*10*10 ^ (nd - m):=by simp only [Nat.mul_comm,Nat.mul_left_comm,Nat.mul_assoc]
   have:=f5.out
   omega⟩
  have b8:m - 1=0→dl=0→d 0<(e:Int)+48:=fun h0 h1=>by
   have g1:=b4.out
   have g2:=HB2.out
   rw [h0,Nat.sub_zero] at g1
   rw [h1,Nat.add_zero] at g2
   have g3:q*10 ^ nd<1*10 ^ nd:=by omega
   have g4:=Nat.lt_of_mul_lt_mul_right g3
   have g5:=hx.out
   rw [h0] at g5
   have g6:=Hd.out.2.2 (by omega)
   have g7:2*y≤z:=by rw [← hz,Nat.mul_comm];exact Nat.mul_le_mul_left _ hP0
   omega
  have b6:Aside0 (∀ i,i<m - 1→upd d2 (m+dl - 1) ((e:Int)+48) i=d i):=⟨fun i h=>by rw [upd_ne _ _ (by omega)];exact f6.out i (by omega)⟩
  have b6':Aside0 (∀ i,i<m - 1→d2 i=d i):=⟨fun i h=>f6.out i (by omega)⟩
  have b7:Aside0 (∀ i,m - 1+dl≤i→i<nd+dl→i<800→48≤upd d2 (m+dl - 1) ((e:Int)+48) i∧upd d2 (m+dl - 1) ((e:Int)+48) i≤57):=⟨fun i g1 g2 g3=>by
   by_cases hi:i=m+dl - 1
   ·
    rw [hi,upd_same];omega
   rw [upd_ne _ _ hi];exact f7.out i (by omega) g2 g3⟩
  have b9:Aside0 (m - 1=0→dl=0→d 0<upd d2 (m+dl - 1) ((e:Int)+48) 0):=⟨fun h0 h1=>by
   rw [show m+dl - 1=0 by omega,upd_same];exact b8 h0 h1⟩
  clear hz hn' hq he hs1 hT hTP b8 hx
  have pc:((1:Int)≤(m:Int))=True:=eq_true (by omega)
  by_cases c2:m+dl - 1<800
  ·
   have hcw:=hcw c2
   have HDs:=Ak (HD2.out.setD (m+dl - 1) c2 ((e:Int)+48))
   have HKs:=Ak (HK2.out.set_ (m+dl - 1) (.int .u8 ((e:Int)+48)))
   have pc2:((m:Int)+(dl:Int) - 1<800)=True:=eq_true (by omega)
   go_wp2
   go_roundg k1
   case measure=>omega
   case rel=>exact ⟨m - 1,q,upd d2 (m+dl - 1) ((e:Int)+48),tr2,by congr 1;omega,by congr 1;omega,rfl,⟨by omega,by omega,hqP,b4.out,b5.out,b6.out,b7.out,b9.out⟩,HDs,HKs⟩
  clear hcw
  have pc2:((m:Int)+(dl:Int) - 1<800)=False:=eq_false (by omega)
  by_cases c3:e=0
  ·
   subst c3
   go_wp2
   go_roundg k1
   case measure=>omega
   case rel=>exact ⟨m - 1,q,d2,tr2,by congr 1;omega,by congr 1;omega,rfl,⟨by omega,by omega,hqP,b4.out,b5.out,b6'.out,fun i g1 g2 g3=>by omega,fun h0 h1=>by omega⟩,HD2,HK2⟩
  have c3b:((e:Int) != 0)=true:=bne_iff_ne.2 (by omega)
  have c3c:((e:Int) == 0)=false:=beq_eq_false_iff_ne.2 (by omega)
  clear c3
  go_wp2
  go_roundg k1
  case measure=>omega
  case rel=>exact ⟨m - 1,q,d2,true,by congr 1;omega,by congr 1;omega,rfl,⟨by omega,by omega,hqP,b4.out,b5.out,b6'.out,fun i g1 g2 g3=>by omega,fun h0 h1=>by omega⟩,⟨HD2.out.setT true⟩,⟨HK2.out.set_ _ _⟩⟩
 case rest =>
 clear HDc HKc hc8
 obtain ⟨c1,d1,tr1,rfl,rfl,HA1,HD1,HK1⟩:=hcut
 obtain ⟨e1,e2,e3,e4,e5⟩:=HA1.out
 clear HA1
 have e3:=Ak e3
 have e4:=Ak e4
 have e5:=Ak e5
 go_upto_block 2 with (fail)
 go_cut [] (fun wc2 => ∃ (d2:Nat→Int) (tr2:Bool),Aside0 ((∀ i,i<nd+dl→i<800→48≤d2 i∧d2 i≤57)∧(dl=0→d 0<d2 0)∧(dl≠0→49≤d2 0))∧Aside0 (Dec wc2 g d2 nd dp neg tr2)∧Aside0 (KB b g w wc2))
 case first =>
  go_wp2
  go_loopg [6,7,10,11] (dl+1) (fun kq v6 v7 v10 v11 wl => ∃ (wi c:Nat) (d2:Nat→Int) (tr2:Bool),v6 = .int .i64 (wi:Int)∧v7 = .int .u64 (c:Int) ∧
   Aside0 (wi≤dl∧wi<kq∧c<P∧c<10 ^ wi∧(wi≠0→10 ^ (wi - 1)≤c)∧(∀ i,wi≤i→i<nd+dl→i<800→48≤d2 i∧d2 i≤57)∧(dl=0→d 0<d2 0)∧(wi=0→dl≠0→49≤d2 0))∧Aside0 (Dec wl g d2 nd dp neg tr2)∧Aside0 (KB b g w wl))
  case atStart=>exact ⟨dl,c1,d1,tr1,rfl,rfl,⟨by omega,by omega,e1,e2,e3.out,e4.out,e5.out,fun h1 h2=>absurd h1 h2⟩,HD1,HK1⟩
  case round =>
  clear HD1 HK1 e1 e2 e3 e4 e5
  obtain ⟨wi,c,d2,tr2,rfl,rfl,HA,HD2,HK2⟩:=hrel
  obtain ⟨f1,f2,f3,f4,f5,f6,f7,f8⟩:=HA.out
  clear HA
  have f4:=Ak f4
  have f5:=Ak f5
  have f6:=Ak f6
  have f7:=Ak f7
  have f8:=Ak f8
  cases gk with
  | zero=>omega
  | succ k1 =>
  by_cases h0:c=0
  ·
   subst h0
   have hwi:wi=0:=by
    apply Classical.byContradiction
    intro h
    have h1:=f5.out h
    have h2:0<10 ^ (wi - 1):=Nat.pow_pos (by decide)
    omega
   subst hwi
   have hz:decide ((0:Int)<((0:Nat):Int))=false:=rfl
   go_wp2
   go_meet
   case rel=>exact ⟨d2,tr2,⟨fun i h1 h2=>f6.out i (by omega) h1 h2,f7.out,fun h=>f8.out (by trivial) h⟩,HD2,HK2⟩
  have hwi:wi≠0:=by
   intro h
   have h1:=f4.out
   rw [h] at h1
   simp at h1
   exact h0 h1
  have hc10:=f5.out hwi
  have hcw:=fun h:wi - 1<800=>HD2.out.digit (wi - 1) h
  have hct:=HD2.out.c803
  have hft:=HD2.out.frozen 803
  have hfw:=HD2.out.frozen (wi - 1)
  obtain ⟨q,hq⟩ : ∃ q,c / 10=q:=⟨_,rfl⟩
  have h3:(c:Int) / 10=(q:Int):=by omega
  obtain ⟨e,he⟩ : ∃ e,c % 10=e:=⟨_,rfl⟩
  have h4:(c:Int) - 10*(q:Int)=(e:Int):=by omega
  have he9:e≤9:=by omega
  have h5:((e:Int)+48) % 256=(e:Int)+48:=by omega
  have hqP:q<P:=by omega
  have b1:Aside0 (q<10 ^ (wi - 1)):=⟨by
   have h1:=f4.out
   rw [show wi=(wi - 1)+1 by omega,Nat.pow_succ] at h1
   omega⟩
  have b2:Aside0 (wi - 1≠0→10 ^ (wi - 1 - 1)≤q):=⟨fun h=>by
   have h1:=hc10
   rw [show wi - 1=(wi - 1 - 1)+1 by omega,Nat.pow_succ] at h1
   omega⟩
  have b3:Aside0 (∀ i,wi - 1≤i→i<nd+dl→i<800→48≤upd d2 (wi - 1) ((e:Int)+48) i∧upd d2 (wi - 1) ((e:Int)+48) i≤57):=⟨fun i g1 g2 g3=>by
   by_cases hi:i=wi - 1
   ·
    rw [hi,upd_same];omega
   rw [upd_ne _ _ hi];exact f6.out i (by omega) g2 g3⟩
  have b4:Aside0 (dl=0→d 0<upd d2 (wi - 1) ((e:Int)+48) 0):=⟨fun h=>by omega⟩
  have b5:Aside0 (wi - 1=0→dl≠0→49≤upd d2 (wi - 1) ((e:Int)+48) 0):=⟨fun h _=>by
   have g1:=b1.out
   rw [h] at g1
   simp at g1
   rw [h,upd_same]
   omega⟩
  clear hq he hc10
  have hnz:decide ((0:Int)<(c:Int))=true:=decide_eq_true (by omega)
  have hn1:0<c:=by omega
  have hnp:(0<c)=True:=eq_true hn1
  clear h0
  have c2:wi - 1<800:=by omega
  have hcw:=hcw c2
  have HDs:=Ak (HD2.out.setD (wi - 1) c2 ((e:Int)+48))
  have HKs:=Ak (HK2.out.set_ (wi - 1) (.int .u8 ((e:Int)+48)))
  have pc2:((wi:Int) - 1<800)=True:=eq_true (by omega)
  have pc1:((1:Int)≤(wi:Int))=True:=eq_true (by omega)
  go_wp2
  go_roundg k1
  case measure=>omega
  case rel=>exact ⟨wi - 1,q,upd d2 (wi - 1) ((e:Int)+48),tr2,by congr 1;omega,rfl,⟨by omega,by omega,hqP,b1.out,b2.out,b3.out,b4.out,b5.out⟩,HDs,HKs⟩
 case rest =>
 clear HD1 HK1 e1 e2 e3 e4 e5
 obtain ⟨d2,tr2,HA,HD2,HK2⟩:=hcut
 obtain ⟨f1,f2,f3⟩:=HA.out
 clear HA
 have h0:=Hd.out.2.2 hn
 have hlead:Aside0 (49≤d2 0):=⟨by
  by_cases h:dl=0
  ·
   have:=f2 h;omega
  exact f3 h⟩
 have f1:=Ak f1
 have f2:=Ak f2
 clear f3 h0
 have hc0:=HD2.out.c800
 have hc1:=HD2.out.c801
 have hf0:=HD2.out.frozen 800
 have hf1:=HD2.out.frozen 801
 have hw1:wrap64 ((nd:Int)+(dl:Int))=((nd+dl:Nat):Int):=by unfold wrap64;omega
 have hw2:wrap64 (dp+(dl:Int))=dp+(dl:Int):=by unfold wrap64;omega
 have HDs:=Ak ((HD2.out.setN ((nd+dl:Nat):Int)).setP (dp+(dl:Int)))
 have HKs:=Ak ((HK2.out.set_ 800 (.int .i64 ((nd+dl:Nat):Int))).set_ 801 (.int .i64 (dp+(dl:Int))))
 have HDt:=Ak (((HD2.out.setN ((nd+dl:Nat):Int)).setN 800).setP (dp+(dl:Int)))
 have HKt:=Ak (((HK2.out.set_ 800 (.int .i64 ((nd+dl:Nat):Int))).set_ 800 (.int .i64 800)).set_ 801 (.int .i64 (dp+(dl:Int))))
 by_cases c8:800≤nd+dl
 ·
  have hdig:Aside0 (Dig d2 800):=⟨⟨Nat.le_refl _,fun i h=>f1.out i (by omega) h,fun _=>hlead.out⟩⟩
  have p8:((800:Int)≤((nd+dl:Nat):Int))=True:=eq_true (by omega)
  go_wp2_with (first|(go_at_call 262;(refine (strconv_trim.calls b g 800 d2 (dp+(dl:Int)) neg tr2 _ HDt.out (by omega) hdig.out hb).mono ?_);rintro e w9 ⟨rfl,m,m1,m2,HD9,HK9⟩;have HD9:=Ak HD9;have HK9:=Ak (HKt.out.trans HK9)))
  refine bodyPost_end (v := .tuple #[]) (results_none rfl _ _ _) rfl ⟨rfl,d2,m,dp+(dl:Int),tr2,HD9.out,m1,?_,HK9.out,by omega,by omega,fun h=>f2.out (by omega)⟩
  exact ⟨by omega,fun i h=>f1.out i (by omega) (by omega),fun _=>hlead.out⟩
 have hdig:Aside0 (Dig d2 (nd+dl)):=⟨⟨by omega,fun i h=>f1.out i h (by omega),fun _=>hlead.out⟩⟩
 have p8:((800:Int)≤((nd+dl:Nat):Int))=False:=eq_false (by omega)
 go_wp2_with (first|(go_at_call 262;(refine (strconv_trim.calls b g (nd+dl) d2 (dp+(dl:Int)) neg tr2 _ HDs.out (by omega) hdig.out hb).mono ?_);rintro e w9 ⟨rfl,m,m1,m2,HD9,HK9⟩;have HD9:=Ak HD9;have HK9:=Ak (HKs.out.trans HK9)))
 refine bodyPost_end (v := .tuple #[]) (results_none rfl _ _ _) rfl ⟨rfl,d2,m,dp+(dl:Int),tr2,HD9.out,m1,?_,HK9.out,by omega,by omega,fun h=>f2.out (by omega)⟩
 exact ⟨by omega,fun i h=>f1.out i (by omega) (by omega),fun _=>hlead.out⟩
end Go.Proofs.YtnejkimpkaopoaaGreatDoor.Q

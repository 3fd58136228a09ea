/- The cheat table of the left shift tells how many digits come: what leftShift asks, for every row of digits and every shift up to 60. -/
import Derived.Test.YtnejkimpkaopoaaGreatDoorD2
import Derived.Test.YtnejkimpkaopoaaGreatDoorD1
section
namespace Go.Proofs.YtnejkimpkaopoaaGreatDoor.Q
open RowKit YtnejkimpkaopoaaGreatDoorW.PrintWords YtnejkimpkaopoaaGreatDoorW.PrintLast YtnejkimpkaopoaaGreatDoorW.PrintMore
set_option linter.unusedVariables false
def dv:List Int→Nat
  | []=>0
  | c :: l=>(c - 48).toNat*10 ^ l.length+dv l
def cmpP:List Int→List Int→Bool
  | _,[]=>false
  | [],_ :: _=>true
  | a :: x,b :: s=>if a=b then cmpP x s else decide (a<b)
def okD (l:List Int):Prop := ∀ c,c ∈ l→48≤c∧c≤57
theorem dv_lt : ∀ (l:List Int),okD l→dv l<10 ^ l.length:=by
 intro l
 induction l with
 | nil=>intro _;simp [dv]
 | cons c l ih =>
  intro h
  have h0:=h c List.mem_cons_self
  have h1:=ih (fun d hd=>h d (List.mem_cons_of_mem _ hd))
  have h2:(c - 48).toNat*10 ^ l.length≤9*10 ^ l.length:=Nat.mul_le_mul_right _ (by omega)
  rw [dv,List.length_cons,Nat.pow_succ];omega
def goodS:List Int→Prop
  | []=>True
  | [c]=>c≠48
  | _ :: b :: s=>goodS (b :: s)
theorem goodS_tail {c:Int} {s:List Int} (h:goodS (c :: s)):goodS s:=by
 cases s with
 | nil=>trivial
 | cons b s=>exact h
theorem goodS_pos : ∀ {s:List Int}, okD s→goodS s→s≠[]→0<dv s:=by
 intro s
 induction s with
 | nil=>intro _ _ h;exact absurd rfl h
 | cons c s ih =>
  intro hd hg _
  cases s with
  | nil =>
   have h1:=hd c List.mem_cons_self
   have h2:c≠48:=hg
   simp [dv];omega
  | cons b s =>
   have:=ih (fun d h=>hd d (List.mem_cons_of_mem _ h)) hg (by simp)
   rw [dv];omega
theorem cmpP_spec : ∀ (s x:List Int),okD s→okD x→goodS s→(cmpP x s=true ↔ dv x*10 ^ s.length<dv s*10 ^ x.length):=by
 intro s
 induction s with
 | nil=>intro x _ _ _;simp [cmpP,dv]
 | cons b s ih =>
  intro x hs hx hg
  cases x with
  | nil =>
   have:=goodS_pos hs hg (by simp)
   simp [cmpP,dv] at this ⊢
   omega
  | cons a x =>
   have ha:=hx a List.mem_cons_self
   have hb:=hs b List.mem_cons_self
   have hx':okD x:=fun d h=>hx d (List.mem_cons_of_mem _ h)
   have hs':okD s:=fun d h=>hs d (List.mem_cons_of_mem _ h)
   have l1:=dv_lt x hx'
   have l2:=dv_lt s hs'
   have hih:=ih x hs' hx' (goodS_tail hg)
   obtain ⟨a',rfl⟩ : ∃ a':Nat,a=48+(a':Int):=⟨(a - 48).toNat,by omega⟩
   obtain ⟨b',rfl⟩ : ∃ b':Nat,b=48+(b':Int):=⟨(b - 48).toNat,by omega⟩
   have e1:dv ((48+(a':Int)) :: x)=a'*10 ^ x.length+dv x:=by rw [dv];congr 2;omega
   have e2:dv ((48+(b':Int)) :: s)=b'*10 ^ s.length+dv s:=by rw [dv];congr 2;omega
   rw [e1,e2,List.length_cons,List.length_cons,Nat.pow_succ,Nat.pow_succ]
   obtain ⟨X,hX⟩ : ∃ X,X=10 ^ x.length:=⟨_,rfl⟩
   obtain ⟨S,hS⟩ : ∃ S,S=10 ^ s.length:=⟨_,rfl⟩
   have hX0:0<X:=hX ▸ Nat.pow_pos (by decide)
   have hS0:0<S:=hS ▸ Nat.pow_pos (by decide)
   rw [← hX] at l1 hih ⊢
   rw [← hS] at l2 hih ⊢
   have r1:(a'*X+dv x)*(S*10)=(a'*(X*S)+dv x*S)*10:=by rw [← Nat.mul_assoc,Nat.add_mul,Nat.mul_assoc a']
   have r2:(b'*S+dv s)*(X*10)=(b'*(X*S)+dv s*X)*10:=by rw [← Nat.mul_assoc,Nat.add_mul,Nat.mul_assoc b',Nat.mul_comm S X]
   have m1:dv x*S<X*S:=Nat.mul_lt_mul_of_pos_right l1 hS0
   have m2:dv s*X<S*X:=Nat.mul_lt_mul_of_pos_right l2 hX0
   rw [Nat.mul_comm S X] at m2
   rw [r1,r2,cmpP]
   by_cases c:a'=b'
   ·
    subst c
    rw [if_pos rfl,hih];omega
   rw [if_neg (by omega),decide_eq_true_eq]
   rcases Nat.lt_or_gt_of_ne c with h|h
   ·
    have:=Nat.mul_le_mul_right (X*S) (show a'+1≤b' by omega)
    rw [Nat.add_mul,Nat.one_mul] at this
    constructor
    ·
     intro _;omega
    intro _;omega
   have:=Nat.mul_le_mul_right (X*S) (show b'+1≤a' by omega)
   rw [Nat.add_mul,Nat.one_mul] at this
   constructor
   ·
    intro _;omega
   intro _;omega
theorem prefix_loop (x:List Int) (s:ByteArray) (hx:x.length≤1000) (hs:s.size≤1000) (d:Nat) : ∀ (k i:Nat),s.size - i=d→d<k→strconv_prefixIsLessThan.l0 k x s (i:Int)=some (cmpP (x.drop i) ((bytesOf s).drop i)):=by
 induction d with
 | zero =>
  intro k i hd hk
  obtain ⟨k,rfl⟩ : ∃ m,k=m+1:=⟨k - 1,by omega⟩
  simp only [strconv_prefixIsLessThan.l0]
  rw [if_neg (by omega),List.drop_of_length_le (l:=bytesOf s) (by rw [bytesOf_length];omega)]
  simp [cmpP]
 | succ d ih =>
  intro k i hd hk
  obtain ⟨k,rfl⟩ : ∃ m,k=m+1:=⟨k - 1,by omega⟩
  have hb:(bytesOf s).drop i=bt s (i:Int) :: (bytesOf s).drop (i+1):=by
   rw [List.drop_eq_getElem_cons (by rw [bytesOf_length];omega), ← rd_bytesOf]
   unfold rd
   rw [Int.toNat_natCast,List.getD_eq_getElem?_getD,List.getElem?_eq_getElem (by rw [bytesOf_length];omega)];rfl
  simp only [strconv_prefixIsLessThan.l0]
  rw [if_pos (by omega),hb]
  by_cases c:x.length≤i
  ·
   rw [if_pos (by omega),List.drop_of_length_le c,cmpP]
  rw [if_neg (by omega),if_pos (by omega),if_pos (by omega)]
  have hx1:x.drop i=rd x (i:Int) :: x.drop (i+1):=by
   rw [List.drop_eq_getElem_cons (by omega)]
   unfold rd
   rw [Int.toNat_natCast,List.getD_eq_getElem?_getD,List.getElem?_eq_getElem (by omega)];rfl
  rw [hx1,cmpP]
  by_cases c2:rd x (i:Int)=bt s (i:Int)
  ·
   rw [if_pos c2,if_pos c2,show wrap64 ((i:Int)+1)=((i+1:Nat):Int) by unfold wrap64;omega]
   exact ih k (i+1) (by omega) (by omega)
  rw [if_neg c2,if_neg c2]
theorem prefix_eq (x:List Int) (s:ByteArray) (hx:x.length≤1000) (hs:s.size≤1000):strconv_prefixIsLessThan.f (s.size+1) x s=some (cmpP x (bytesOf s)):=by
 have:=prefix_loop x s hx hs s.size (s.size+1) 0 (by omega) (by omega)
 simpa [strconv_prefixIsLessThan.f] using this
def chB (k:Nat):Bool :=
  let l:=bytesOf (chS k)
  let D:=(chD k).toNat
  decide (chD k=(D:Int)) && decide (dv l=5 ^ k) && l.all (fun c=>decide (48≤c) && decide (c≤57)) && decide (l.getLast? ≠ some 48) && decide (k+1=l.length+D) && decide (1≤D) && decide (D≤20) && decide (2 ^ k≤10 ^ D) && decide (10 ^ (D - 1)≤2 ^ k)
theorem ch_all:(List.range 60).all (fun k=>chB (k+1))=true:=by decide+kernel
theorem goodS_of : ∀ {l:List Int}, l.getLast? ≠ some 48→goodS l:=by
 intro l
 induction l with
 | nil=>intro _;trivial
 | cons c l ih =>
  intro h
  cases l with
  | nil=>intro e;apply h;rw [e];rfl
  | cons b l=>exact ih (by simpa using h)
theorem dv_range {d:Nat→Int} {nd:Nat} : ∀ s,s≤nd→dv (((List.range nd).map d).drop (nd - s))=Tv d nd s:=by
 intro s
 induction s with
 | zero=>intro _;rw [List.drop_of_length_le (by simp)];rfl
 | succ s ih =>
  intro hs
  rw [List.drop_eq_getElem_cons (by simp;omega),dv,show nd - (s+1)+1=nd - s by omega,ih (by omega),Tv]
  simp only [List.getElem_map,List.getElem_range,List.length_drop,List.length_map,List.length_range]
  rw [show nd - (s+1)=nd - 1 - s by omega,show nd - (nd - s)=s by omega,Nat.add_comm]
theorem left_facts {d:Nat→Int} {nd k:Nat} (hd:Dig d nd) (hn:0<nd) (hk:1≤k∧k≤60) :
 ∃ (kf dl:Nat) (r:Bool),strconv_prefixIsLessThan.f kf ((List.range nd).map d) (chS k)=some r∧chD k=(dl:Int)+(if r=true then 1 else 0)∧dl≤20∧10 ^ (nd+dl - 1)≤Tv d nd nd*2 ^ k∧Tv d nd nd*2 ^ k<10 ^ (nd+dl):=by
 have hc:chB k=true:=by
  have h:=List.all_eq_true.1 ch_all (k - 1) (List.mem_range.2 (by omega))
  simpa [show k - 1+1=k by omega] using h
 unfold chB at hc
 simp only [Bool.and_eq_true,decide_eq_true_eq,List.all_eq_true] at hc
 obtain ⟨⟨⟨⟨⟨⟨⟨⟨c1,c2⟩,c3⟩,c4⟩,c5⟩,c6⟩,c7⟩,c8⟩,c9⟩:=hc
 obtain ⟨D,hD⟩ : ∃ D,D=(chD k).toNat:=⟨_,rfl⟩
 rw [← hD] at c1 c5 c6 c7 c8 c9
 have hL:(bytesOf (chS k)).length=(chS k).size:=bytesOf_length _
 have hA:dv ((List.range nd).map d)=Tv d nd nd:=by
  have:=dv_range (d:=d) (nd:=nd) nd (Nat.le_refl _)
  rwa [Nat.sub_self,List.drop_zero] at this
 have hokx:okD ((List.range nd).map d):=by
  intro c h
  obtain ⟨i,hi,rfl⟩:=List.mem_map.1 h
  exact hd.2.1 i (List.mem_range.1 hi)
 have hoks:okD (bytesOf (chS k)):=fun c h=>c3 c h
 have hspec:=cmpP_spec (bytesOf (chS k)) ((List.range nd).map d) hoks hokx (goodS_of c4)
 rw [hA,c2,List.length_map,List.length_range] at hspec
 have hlo:10 ^ (nd - 1)≤Tv d nd nd:=by
  have h0:=hd.2.2 hn
  obtain ⟨m,rfl⟩ : ∃ m,nd=m+1:=⟨nd - 1,by omega⟩
  rw [Tv,show m+1 - 1 - m=0 by omega,Nat.add_sub_cancel]
  have:=Nat.mul_le_mul_right (10 ^ m) (show 1≤(d 0 - 48).toNat by omega)
  omega
 have hhi:=Tv_lt (d:=d) (nd:=nd) hd.2.1 nd (Nat.le_refl _)
 have h10:(5:Nat) ^ k*2 ^ k=10 ^ k:=by rw [← Nat.mul_pow]
 have hpre:=prefix_eq ((List.range nd).map d) (chS k) (by simp;have:=hd.1;omega) (by omega)
 obtain ⟨L,hLe⟩ : ∃ L,L=(bytesOf (chS k)).length:=⟨_,rfl⟩
 rw [← hLe] at c5 hspec
 cases hr:cmpP ((List.range nd).map d) (bytesOf (chS k)) with
 | true =>
  rw [hr] at hpre
  have h1:=hspec.1 hr
  refine ⟨_,D - 1,true,hpre,by rw [if_pos rfl,c1];omega,by omega,?_,?_⟩
  ·
   have h2:10 ^ (nd - 1)*10 ^ (D - 1)≤Tv d nd nd*2 ^ k:=Nat.mul_le_mul hlo c9
   rw [← Nat.pow_add] at h2
   rwa [show nd+(D - 1) - 1=nd - 1+(D - 1) by omega]
  have h2:Tv d nd nd*10 ^ L*2 ^ k<5 ^ k*10 ^ nd*2 ^ k:=Nat.mul_lt_mul_of_pos_right h1 (Nat.two_pow_pos _)
  have h3:Tv d nd nd*10 ^ L*2 ^ k=Tv d nd nd*2 ^ k*10 ^ L:=Nat.mul_right_comm ..
  have h4:5 ^ k*10 ^ nd*2 ^ k=10 ^ (nd+(D - 1))*10 ^ L:=by
   rw [Nat.mul_right_comm,h10, ← Nat.pow_add, ← Nat.pow_add];congr 1;omega
  rw [h3,h4] at h2
  exact Nat.lt_of_mul_lt_mul_right h2
 | false =>
  rw [hr] at hpre
  have h1 : ¬ Tv d nd nd*10 ^ L<5 ^ k*10 ^ nd:=fun h=>by have:=hspec.2 h;rw [hr] at this;cases this
  refine ⟨_,D,false,hpre,by rw [if_neg (by decide),c1];omega,c7,?_,?_⟩
  ·
   have h2:5 ^ k*10 ^ nd*2 ^ k≤Tv d nd nd*10 ^ L*2 ^ k:=Nat.mul_le_mul_right _ (by omega)
   have h3:Tv d nd nd*10 ^ L*2 ^ k=Tv d nd nd*2 ^ k*10 ^ L:=Nat.mul_right_comm ..
   have h4:5 ^ k*10 ^ nd*2 ^ k=10 ^ (nd+D - 1)*10 ^ L:=by
    rw [Nat.mul_right_comm,h10, ← Nat.pow_add, ← Nat.pow_add];congr 1;omega
   rw [h3,h4] at h2
   exact Nat.le_of_mul_le_mul_right h2 (Nat.pow_pos (by decide))
  rw [Nat.pow_add]
  exact Nat.mul_lt_mul_of_lt_of_le hhi c8 (Nat.pow_pos (by decide))
end Go.Proofs.YtnejkimpkaopoaaGreatDoor.Q
end
section
/- Shift, shouldRoundUp, RoundedInteger of internal/strconv's decimal: they return. -/
namespace Go.Proofs.YtnejkimpkaopoaaGreatDoor.Q
open RowKit YtnejkimpkaopoaaGreatDoorW.PrintWords YtnejkimpkaopoaaGreatDoorW.PrintLast YtnejkimpkaopoaaGreatDoorW.PrintMore
attribute [local go_sem] max2_int min2_int max_two min_two max_three min_three max_four min_four
set_option linter.unusedVariables false
set_option linter.unusedSimpArgs false
structure LC (b:Nat) (w:World):Prop where
  lt:19<b
  ex : ∃ (a:Addr) (cap:Nat),w.cell? ⟨19,0,none⟩=some (.slice (some a) 61 cap)∧a.block<b ∧ ∀ k:Nat,1≤k→k≤60→w.cell? (a.add (k*2))=some (.int .i64 (chD k))∧w.cell? ⟨(a.add (k*2)).block,(a.add (k*2)).off+1,none⟩=some (.string (chS k))
theorem LC.below {b:Nat} {w w':World} (h:LC b w) (k:Below b w w'):LC b w':=by
 obtain ⟨lt,a,cap,h1,h2,h3⟩:=h
 refine ⟨lt,a,cap,(k.cell (p:=⟨19,0,none⟩) lt).trans h1,h2,fun i i1 i2=>?_⟩
 obtain ⟨e1,e2⟩:=h3 i i1 i2
 refine ⟨(k.cell (p:=a.add (i*2)) ?_).trans e1,(k.cell (p:=⟨(a.add (i*2)).block,(a.add (i*2)).off+1,none⟩) ?_).trans e2⟩
 ·
  unfold Addr.add;split <;> exact h2
 show (a.add (i*2)).block<b
 unfold Addr.add;split <;> exact h2
theorem LC.kb {b g:Nat} {w w':World} (h:LC b w) (k:KB b g w w'):LC b w':=h.below k.below
theorem strconv_left.calls (b g nd k:Nat) (d:Nat→Int) (dp:Int) (neg tr:Bool) (w:World) (hL:LC b w) (hD:Dec w g d nd dp neg tr) (hn:0<nd) (hd:Dig d nd) (hb:b≤g) (hk:1≤k∧k≤60) (hdp : -100000000≤dp∧dp≤100000000) :
 Calls Tryz.prog 263 #[.pointer (some ⟨g,0,none⟩), .int .u64 (k:Int)] w fun e w'=>e = .returned (.tuple #[]) ∧ ∃ (d2:Nat→Int) (m:Nat) (dp2:Int) (tr2:Bool),Dec w' g d2 m dp2 neg tr2∧0<m∧Dig d2 m∧KB b g w w'∧dp≤dp2∧dp2≤dp+20∧(dp2=dp→d 0<d2 0):=by
 obtain ⟨kf,dl,r,h1,h2,h3,h4,h5⟩:=left_facts hd hn hk
 obtain ⟨lt,a,cap,g1,g2,g3⟩:=hL
 obtain ⟨e1,e2⟩:=g3 k hk.1 hk.2
 exact strconv_leftShift.calls b g nd k kf dl r d dp neg tr w a cap hD hn hd hb hk hdp g1 e1 e2 h1 h2 h3 h4 h5
def ShP (b g nd:Nat) (k:Int) (d:Nat→Int) (dp:Int) (neg:Bool) (w w':World):Prop :=
  ∃ (d2:Nat→Int) (m:Nat) (dp2:Int) (tr2:Bool),Dec w' g d2 m dp2 neg tr2∧(0<nd→0<m)∧(nd=0→m=0)∧Dig d2 m∧KB b g w w' ∧
      dp - 1000020≤dp2∧dp2≤dp+1000020∧(0<nd→1≤k→k≤60→dp≤dp2∧dp2≤dp+20∧(dp2=dp→d 0<d2 0))∧(0<nd → -60≤k→k ≤ -1→dp - 20≤dp2∧dp2≤dp∧(dp2=dp→d2 0<d 0))
set_option maxHeartbeats 8000000 in
set_option maxRecDepth 100000 in
theorem strconv_Shift.calls (b g nd:Nat) (k:Int) (d:Nat→Int) (dp:Int) (neg tr:Bool) (w:World) (hL:LC b w) (hD:Dec w g d nd dp neg tr) (hd:Dig d nd) (hb:b≤g) (hk : -1000000≤k∧k≤1000000) (hdp : -50000000≤dp∧dp≤50000000) :
 Calls Tryz.prog 238 #[.pointer (some ⟨g,0,none⟩), .int .i64 k] w fun e w'=>e = .returned (.tuple #[])∧ShP b g nd k d dp neg w w':=by
 have HD:=Ak hD
 have Hd:=Ak hd
 have HL:=Ak hL
 clear hD hd hL
 have hc0:=HD.out.c800
 go_enter Tryz.func238,Tryz.ntmps238
 by_cases c0:nd=0
 ·
  subst c0
  go_wp2
  exact bodyPost_end (v := .tuple #[]) (results_none rfl _ _ _) rfl ⟨rfl,d,0,dp,tr,HD.out,fun h=>h,fun _=>rfl,Hd.out,KB.refl w hb,by omega,by omega,fun h=>absurd h (by decide),fun h=>absurd h (by decide)⟩
 have hn:0<nd:=by omega
 have cb:((nd:Int) == 0)=false:=by simp;omega
 by_cases c1:0<k
 ·
  go_upto_block 1 with (fail)
  go_cut [1] (fun v1 wc => ∃ (kk:Int) (d2:Nat→Int) (m:Nat) (dp2:Int) (tr2:Bool),v1 = .int .i64 kk∧Aside0 (1≤kk∧kk≤60∧dp - (k - kk)≤dp2∧dp2≤dp+(k - kk)∧0<m∧Dig d2 m∧((kk=k∧d2=d∧dp2=dp)∨60<k))∧Aside0 (Dec wc g d2 m dp2 neg tr2)∧Aside0 (KB b g w wc))
  case first =>
   go_wp2
   go_loopg [1] (k.toNat+1) (fun kq v1 wl => ∃ (kk:Int) (d2:Nat→Int) (m:Nat) (dp2:Int) (tr2:Bool),v1 = .int .i64 kk∧Aside0 (1≤kk∧kk≤k∧kk<kq∧dp - (k - kk)≤dp2∧dp2≤dp+(k - kk)∧0<m∧Dig d2 m∧((kk=k∧d2=d∧dp2=dp)∨60<k))∧Aside0 (Dec wl g d2 m dp2 neg tr2)∧Aside0 (KB b g w wl))
   case atStart=>exact ⟨k,d,nd,dp,tr,rfl,⟨by omega,by omega,by omega,by omega,by omega,hn,Hd.out, .inl ⟨rfl,rfl,rfl⟩⟩,HD,⟨KB.refl w hb⟩⟩
   case round =>
   clear HD hc0
   obtain ⟨kk,d2,m,dp2,tr2,rfl,HA,HD2,HK2⟩:=hrel
   obtain ⟨f1,f2,f3,f4,f5,f6,f7,f8⟩:=HA.out
   clear HA
   have f7:=Ak f7
   have f8:=Ak f8
   cases gk with
   | zero=>omega
   | succ k1 =>
   by_cases c:60<kk
   rotate_left
   ·
    go_wp2
    go_meet
    case rel=>exact ⟨kk,d2,m,dp2,tr2,rfl,⟨f1,by omega,f4,f5,f6,f7.out,f8.out⟩,HD2,HK2⟩
   have hws:wrap64 (kk - 60)=kk - 60:=by unfold wrap64;omega
   have H99:=Ak (strconv_left.calls b g m 60 d2 dp2 neg tr2 _ (HL.out.kb HK2.out) HD2.out f6 f7.out hb ⟨by omega,by omega⟩ ⟨by omega,by omega⟩)
   go_wp2_with (first|(go_at_call 263;(refine H99.out.mono ?_);rintro e w9 ⟨rfl,d3,m3,dp3,tr3,HD3,m1,Hd3,HK3,q1,q2,q3⟩;have HD3:=Ak HD3;have HK3:=Ak (HK2.out.trans HK3);have Hd3:=Ak Hd3;clear q3))
   go_roundg k1
   case measure=>omega
   case rel=>exact ⟨kk - 60,d3,m3,dp3,tr3,rfl,⟨by omega,by omega,by omega,by omega,by omega,m1,Hd3.out, .inr (by omega)⟩,HD3,HK3⟩
  case rest =>
  clear HD hc0
  obtain ⟨kk,d2,m,dp2,tr2,rfl,HA,HD2,HK2⟩:=hcut
  obtain ⟨f1,f2,f4,f5,f6,f7,f8⟩:=HA.out
  clear HA
  have f7:=Ak f7
  have f8:=Ak f8
  obtain ⟨j,rfl⟩ : ∃ j:Nat,kk=(j:Int):=⟨kk.toNat,by omega⟩
  have H99:=Ak (strconv_left.calls b g m j d2 dp2 neg tr2 _ (HL.out.kb HK2.out) HD2.out f6 f7.out hb ⟨by omega,by omega⟩ ⟨by omega,by omega⟩)
  have hwj:IntKind.u64.wrap (j:Int)=(j:Int):=by rw [IntKind.wrap_u64];omega
  go_wp2_with (first|(go_at_call 263;(refine H99.out.mono ?_);rintro e w9 ⟨rfl,d3,m3,dp3,tr3,HD3,m1,Hd3,HK3,q1,q2,q3⟩;have HD3:=Ak HD3;have HK3:=Ak (HK2.out.trans HK3);have Hd3:=Ak Hd3;have q3:=Ak q3))
  refine bodyPost_end (v := .tuple #[]) (results_none rfl _ _ _) rfl ⟨rfl,d3,m3,dp3,tr3,HD3.out,fun _=>m1,fun h=>absurd h c0,Hd3.out,HK3.out,by omega,by omega,fun _ _ h6=>?_,fun _ _ h=>by omega⟩
  rcases f8.out with ⟨e1,e2,e3⟩|h
  ·
   subst e2;subst e3;exact ⟨q1,q2,q3.out⟩
  omega
 by_cases c2:k<0
 ·
  go_upto_block 3 with (fail)
  go_cut [1] (fun v1 wc => ∃ (kk:Int) (d2:Nat→Int) (m:Nat) (dp2:Int) (tr2:Bool),v1 = .int .i64 kk∧Aside0 (kk ≤ -1 ∧ -60≤kk∧dp - (kk - k)≤dp2∧dp2≤dp+(kk - k)∧0<m∧Dig d2 m∧((kk=k∧d2=d∧dp2=dp)∨k < -60))∧Aside0 (Dec wc g d2 m dp2 neg tr2)∧Aside0 (KB b g w wc))
  case first =>
   go_wp2
   go_loopg [1] ((-k).toNat+1) (fun kq v1 wl => ∃ (kk:Int) (d2:Nat→Int) (m:Nat) (dp2:Int) (tr2:Bool),v1 = .int .i64 kk∧Aside0 (kk ≤ -1∧k≤kk ∧ -kk<kq∧dp - (kk - k)≤dp2∧dp2≤dp+(kk - k)∧0<m∧Dig d2 m∧((kk=k∧d2=d∧dp2=dp)∨k < -60))∧Aside0 (Dec wl g d2 m dp2 neg tr2)∧Aside0 (KB b g w wl))
   case atStart=>exact ⟨k,d,nd,dp,tr,rfl,⟨by omega,by omega,by omega,by omega,by omega,hn,Hd.out, .inl ⟨rfl,rfl,rfl⟩⟩,HD,⟨KB.refl w hb⟩⟩
   case round =>
   clear HD hc0
   obtain ⟨kk,d2,m,dp2,tr2,rfl,HA,HD2,HK2⟩:=hrel
   obtain ⟨f1,f2,f3,f4,f5,f6,f7,f8⟩:=HA.out
   clear HA
   have f7:=Ak f7
   have f8:=Ak f8
   cases gk with
   | zero=>omega
   | succ k1 =>
   by_cases c:kk < -60
   rotate_left
   ·
    go_wp2
    go_meet
    case rel=>exact ⟨kk,d2,m,dp2,tr2,rfl,⟨f1,by omega,f4,f5,f6,f7.out,f8.out⟩,HD2,HK2⟩
   have hws:wrap64 (kk+60)=kk+60:=by unfold wrap64;omega
   have H99:=Ak (strconv_rightShift.calls b g m 60 d2 dp2 neg tr2 _ HD2.out f6 f7.out hb ⟨by omega,by omega⟩ ⟨by omega,by omega⟩)
   go_wp2_with (first|(go_at_call 264;(refine H99.out.mono ?_);rintro e w9 ⟨rfl,d3,m3,dp3,tr3,HD3,m1,Hd3,HK3,q1,q2,q3⟩;have HD3:=Ak HD3;have HK3:=Ak (HK2.out.trans HK3);have Hd3:=Ak Hd3;clear q3))
   go_roundg k1
   case measure=>omega
   case rel=>exact ⟨kk+60,d3,m3,dp3,tr3,rfl,⟨by omega,by omega,by omega,by omega,by omega,m1,Hd3.out, .inr (by omega)⟩,HD3,HK3⟩
  case rest =>
  clear HD hc0
  obtain ⟨kk,d2,m,dp2,tr2,rfl,HA,HD2,HK2⟩:=hcut
  obtain ⟨f1,f2,f4,f5,f6,f7,f8⟩:=HA.out
  clear HA
  have f7:=Ak f7
  have f8:=Ak f8
  obtain ⟨j,rfl⟩ : ∃ j:Nat,kk = -(j:Int):=⟨(-kk).toNat,by omega⟩
  have H99:=Ak (strconv_rightShift.calls b g m j d2 dp2 neg tr2 _ HD2.out f6 f7.out hb ⟨by omega,by omega⟩ ⟨by omega,by omega⟩)
  have hwj:IntKind.u64.wrap (j:Int)=(j:Int):=by rw [IntKind.wrap_u64];omega
  have hnj:wrap64 (j:Int)=(j:Int):=by unfold wrap64;omega
  go_wp2_with (first|(go_at_call 264;(refine H99.out.mono ?_);rintro e w9 ⟨rfl,d3,m3,dp3,tr3,HD3,m1,Hd3,HK3,q1,q2,q3⟩;have HD3:=Ak HD3;have HK3:=Ak (HK2.out.trans HK3);have Hd3:=Ak Hd3;have q3:=Ak q3))
  refine bodyPost_end (v := .tuple #[]) (results_none rfl _ _ _) rfl ⟨rfl,d3,m3,dp3,tr3,HD3.out,fun _=>m1,fun h=>absurd h c0,Hd3.out,HK3.out,by omega,by omega,fun _ _ h6=>by omega,fun _ h6 _=>?_⟩
  rcases f8.out with ⟨e1,e2,e3⟩|h
  ·
   subst e2;subst e3;exact ⟨q1,q2,q3.out⟩
  omega
 obtain rfl:k=0:=by omega
 go_wp2
 exact bodyPost_end (v := .tuple #[]) (results_none rfl _ _ _) rfl ⟨rfl,d,nd,dp,tr,HD.out,fun h=>h,fun h=>h,Hd.out,KB.refl w hb,by omega,by omega,fun _ h _=>by omega,fun _ _ h=>by omega⟩
end Go.Proofs.YtnejkimpkaopoaaGreatDoor.Q
end

/- The reference's reader: an object's members, and the whole. -/
import Derived.Test.YtbkgoccnegjdhaaU4
namespace Go.Proofs.Ytbkgoccnegjdhaa.U
open Go.RowKit Go.Proofs.YtbkgoccnegjdhaaW.PrintWords Go.Proofs.Ytbkgoccnegjdhaa.Q
/-- What the reader does behind a member's value, ps and ks what it has so far. -/
def mTail (y:List S52) (x:List S28) (k:Nat) (s:ByteArray) (e:Int):Option ((List S52) × (List S28) × Bool × ByteArray × Int) :=
  (rB.f k s e).bind fun t2=>(rT.f t2.1 t2.2 125).bind fun t3=>if t3.1=true then some (y,x,true,t3.2.1,t3.2.2) else (rT.f t3.2.1 t3.2.2 44).bind fun t4=>if t4.1=true then (rB.f k t4.2.1 t4.2.2).bind fun t5=>rM.l0 k y x t5.1 t5.2 else some (([]:List S52),([]:List S28),false,t4.2.1,t4.2.2)
theorem mTail_ev {s:ByteArray} (hn:s.size≤4096) {d:Nat} (hM:PM s d) (y:List S52) (x:List S28) {e:Int} (h0:0≤e) (h1:e≤s.size) (hd:(s.size:Int) - e<d+1) (hx:(x.length:Int)≤e) (hy:(y.length:Int)≤e) :
    ∃ ns ks ok e',Ev (fun k=>mTail y x k s e) (ns,ks,ok,s,e')∧e≤e'∧e'≤s.size∧(ok=true → ∃ mm p q,ns=y++p∧ks=x++q∧RdM (bytesOf s) mm e e'∧RepM s mm p q):=by
  obtain ⟨a,ha,hw,hle, -⟩:=blanks_ev s om ((s.size:Int) - e).toNat e om om om
  have hea:=hw.1
  have wl:=ws_wl om hle hw
  rcases take_any s a 125 om om (by decide) with ⟨hb,hlt,ht⟩|⟨hb,ht⟩
  · refine ⟨y,x,true,a+1,Ev.bind ha (Ev.congr (fun k=>by rw [ht,Option.bind_some,if_pos rfl]) (Ev.now _)),by omega,by omega,fun _=>⟨.nil,[],[],by simp,by simp,?_,by simp only [RepM];exact ⟨trivial,trivial⟩⟩⟩
    simp only [RdM];exact ⟨a,wl,at_one om hlt hb,rfl⟩
  · rcases take_any s a 44 om om (by decide) with ⟨hb4,hlt4,ht4⟩|⟨hb4,ht4⟩
    · obtain ⟨a2,ha2,hw2,hle2, -⟩:=blanks_ev s om ((s.size:Int) - (a+1)).toNat (a+1) om om om
      have hea2:=hw2.1
      obtain ⟨ns',ks',ok',e',he',hie',hes',hok'⟩:=hM y x a2 om hle2 om om om
      refine ⟨ns',ks',ok',e',Ev.bind ha (Ev.congr (f:=fun k=>(rB.f k s (a+1)).bind fun t5=>rM.l0 k y x t5.1 t5.2) (fun k=>by rw [ht,Option.bind_some,if_neg (by simp),ht4,Option.bind_some,if_pos rfl]) (Ev.bind ha2 he')),by omega,hes',fun h=>?_⟩
      obtain ⟨n',t',mm,p,q,hp,hq,hr',hp'⟩:=hok' h
      exact ⟨.cons n' t' mm,p,q,hp,hq,RdG.comma wl (at_one om hlt4 hb4) (hr'.ahead (ws_wl om hle2 hw2)),hp'⟩
    · exact ⟨[],[],false,a,Ev.bind ha (Ev.congr (fun k=>by rw [ht,Option.bind_some,if_neg (by simp),ht4,Option.bind_some,if_neg (by simp)]) (Ev.now _)),by omega,by omega,fun h=>by cases h⟩
/-- What the reader does behind a member's colon. -/
def mVal (y:List S52) (x:List S28) (k:Nat) (s:ByteArray) (e:Int):Option ((List S52) × (List S28) × Bool × ByteArray × Int) :=
  (rB.f k s e).bind fun t2=>(rV.f k t2.1 t2.2).bind fun t=>if t.2.2.2.2.2.1=true then (if x.length<1954687338268 then mTail y (x++[(⟨t.1,t.2.1,t.2.2.1,t.2.2.2.1,t.2.2.2.2.1⟩:S28)]) k t.2.2.2.2.2.2.1 t.2.2.2.2.2.2.2 else none) else some (([]:List S52),([]:List S28),false,t.2.2.2.2.2.2.1,t.2.2.2.2.2.2.2)
theorem mVal_ev {s:ByteArray} (hn:s.size≤4096) {d:Nat} (hV:PV s (d+1)) (hM:PM s d) (y:List S52) (x:List S28) {e:Int} (h0:0≤e) (h1:e≤s.size) (hd:(s.size:Int) - e<d+1) (hx:(x.length:Int)<e) (hy:(y.length:Int)≤e) :
    ∃ ns ks ok e',Ev (fun k=>mVal y x k s e) (ns,ks,ok,s,e')∧e≤e'∧e'≤s.size∧(ok=true → ∃ t mm v p q c f,ns=y++p∧ks=x++v :: q∧Wl (bytesOf s) e c∧Rd (bytesOf s) t c f∧RdM (bytesOf s) mm f e'∧Rep s t v∧RepM s mm p q):=by
  obtain ⟨c,hc,hw,hle, -⟩:=blanks_ev s om ((s.size:Int) - e).toNat e om om om
  have hec:=hw.1
  obtain ⟨kd,b,f,ns,ks,ok,hv,hie,hes,hok⟩:=hV c om hle om
  cases ok with
  | false=>exact ⟨[],[],false,f,Ev.bind hc (Ev.bind hv (Ev.congr (fun k=>by rw [if_neg (by simp)]) (Ev.now _))),by omega,hes,fun h=>by cases h⟩
  | true =>
    obtain ⟨hlt,t,hr,hp⟩:=hok rfl
    obtain ⟨ns',ks',ok',e',he',hie',hes',hok'⟩:=mTail_ev hn hM y (x++[(⟨kd,b,f,ns,ks⟩:S28)]) (e:=f) om hes om (by simp;omega) om
    refine ⟨ns',ks',ok',e',Ev.bind hc (Ev.bind hv (Ev.congr (fun k=>by rw [if_pos (by trivial),if_pos om]) he')),by omega,hes',fun h=>?_⟩
    obtain ⟨mm,p,q,hp1,hq1,hr1,hp2⟩:=hok' h
    exact ⟨t,mm,_,p,q,c,f,hp1,by rw [hq1];simp,ws_wl om hle hw,hr,hr1,hp,hp2⟩
/-- What the reader does behind a member's name. -/
def mName (y:List S52) (x:List S28) (k:Nat) (s:ByteArray) (e:Int):Option ((List S52) × (List S28) × Bool × ByteArray × Int) :=
  (rB.f k s e).bind fun t2=>(rT.f t2.1 t2.2 58).bind fun t3=>if t3.1=true then mVal y x k t3.2.1 t3.2.2 else some (([]:List S52),([]:List S28),false,t3.2.1,t3.2.2)
theorem j1_eq (y:List S52) (x:List S28) (b:Int) (k:Nat) (s:ByteArray) (e:Int) (hy:y.length<8796093022208):rM.j1 (k+1) y x b false s e=mName (y++[⟨b,e⟩]) x k s e:=by
  simp only [rM.j1,mName,mVal,mTail]
  rw [if_neg (by simp),if_pos hy,Option.bind_some]
  rfl
theorem mName_ev {s:ByteArray} (hn:s.size≤4096) {d:Nat} (hV:PV s (d+1)) (hM:PM s d) (y:List S52) (x:List S28) {e:Int} (h0:0≤e) (h1:e≤s.size) (hd:(s.size:Int) - e<d+1) (hx:(x.length:Int)≤e) (hy:(y.length:Int)≤e) :
    ∃ ns ks ok e',Ev (fun k=>mName y x k s e) (ns,ks,ok,s,e')∧e≤e'∧e'≤s.size∧(ok=true → ∃ t mm v p q g c f,ns=y++p∧ks=x++v :: q∧Wl (bytesOf s) e g∧At (bytesOf s) g [58]∧Wl (bytesOf s) (g+1) c∧Rd (bytesOf s) t c f∧RdM (bytesOf s) mm f e'∧Rep s t v∧RepM s mm p q):=by
  obtain ⟨g,hg,hw,hle, -⟩:=blanks_ev s om ((s.size:Int) - e).toNat e om om om
  have hec:=hw.1
  rcases take_any s g 58 om om (by decide) with ⟨hb,hlt,ht⟩|⟨hb,ht⟩
  · obtain ⟨ns',ks',ok',e',he',hie',hes',hok'⟩:=mVal_ev hn hV hM y x (e:=g+1) om om om om om
    refine ⟨ns',ks',ok',e',Ev.bind hg (Ev.congr (fun k=>by rw [ht,Option.bind_some,if_pos rfl]) he'),by omega,hes',fun h=>?_⟩
    obtain ⟨t,mm,v,p,q,c,f,hp1,hq1,hwc,hr,hr2,hp2,hp3⟩:=hok' h
    exact ⟨t,mm,v,p,q,g,c,f,hp1,hq1,ws_wl om hle hw,at_one om hlt hb,hwc,hr,hr2,hp2,hp3⟩
  · exact ⟨[],[],false,g,Ev.bind hg (Ev.congr (fun k=>by rw [ht,Option.bind_some,if_neg (by simp)]) (Ev.now _)),by omega,by omega,fun h=>by cases h⟩
theorem members_step {s:ByteArray} (hn:s.size≤4096) {d:Nat} (hV:PV s (d+1)) (hM:PM s d):PM s (d+1):=by
  intro y x i h0 h1 hd hx hy
  by_cases h34:bt s i=34
  · obtain ⟨ok,e,he,hle,hie,hok⟩:=quoted_ev s om i h0 h34
    have first : ∀ k,rM.l0 (k+1) y x s i=(rQ.f k s i).bind fun t=>rM.j1 k y x i (!t.1) t.2.1 t.2.2:=fun k=>by
      simp only [rM.l0];rw [here_in h0,Option.bind_some,if_pos h34]
    cases ok with
    | false =>
      refine ⟨[],[],false,e,Ev.step first (Ev.bind he (Ev.const _ fun k=>?_)),by omega,hle,fun h=>by cases h⟩
      simp only [rM.j1];rw [if_pos (by trivial)]
    | true =>
      obtain ⟨ns',ks',ok',e',he',hie',hes',hok'⟩:=mName_ev hn hV hM (y++[⟨i,e⟩]) x (e:=e) om hle om om (by simp;omega)
      refine ⟨ns',ks',ok',e',Ev.step first (Ev.bind he (Ev.step (fun k=>j1_eq y x i k s e om) he')),by omega,hes',fun h=>?_⟩
      obtain ⟨t,mm,v,p,q,g,c,f,hp1,hq1,hwg,hag,hwc,hr,hr2,hp2,hp3⟩:=hok' h
      refine ⟨sl s i e,t,mm,⟨i,e⟩ :: p,v :: q,by rw [hp1];simp,hq1,?_,?_⟩
      · simp only [RdG]
        exact ⟨i,g,c,f,Wl.refl h0 (by rw [bytesOf_length];exact h1),sl_at h0 om hle,hok rfl,by rw [sl_len h0 om hle,show i+(e - i)=e by omega];exact hwg,hag,hwc,hr,hr2⟩
      · simp only [RepM]
        exact ⟨_,p,v,q,rfl,rfl,h0,by simp;omega,hle,rfl,hp2,hp3⟩
  · refine ⟨[],[],false,i,Ev.step (f:=fun k=>rM.j1 k y x i true s i) (fun k=>?_) (Ev.const _ fun k=>?_),Int.le_refl _,h1,fun h=>by cases h⟩
    · simp only [rM.l0];rw [here_in h0,Option.bind_some,if_neg h34]
    · simp only [rM.j1];rw [if_pos (by trivial)]
theorem reader_all {s:ByteArray} (hn:s.size≤4096) (d:Nat):PV s d∧PE s d∧PM s d:=by
  induction d with
  | zero=>exact ⟨fun i h0 h1 hd=>by omega,fun x i h0 h1 hd=>by omega,fun y x i h0 h1 hd=>by omega⟩
  | succ d ih =>
    have hV:=value_step hn ih.2.1 ih.2.2
    exact ⟨hV,elements_step hn hV ih.2.1,members_step hn hV ih.2.2⟩
/-- The whole text: what Places says of it. -/
def places (k:Nat) (s:ByteArray):Option (S28 × Bool) :=
  (rB.f k s 0).bind fun t1=>(rV.f k t1.1 t1.2).bind fun t=>if t.2.2.2.2.2.1=true then ((rB.f k t.2.2.2.2.2.2.1 t.2.2.2.2.2.2.2).bind fun t3=>if t3.2=(s.size:Int) then some (⟨t.1,t.2.1,t.2.2.1,t.2.2.2.1,t.2.2.2.2.1⟩,true) else some (z28,false)) else some (z28,false)
theorem places_ev {s:ByteArray} (hn:s.size≤4096) : ∃ p ok,Ev (fun k=>places k s) (p,ok)∧(ok=true → ∃ t a e,Wl (bytesOf s) 0 a∧Rd (bytesOf s) t a e∧Wl (bytesOf s) e s.size∧Rep s t p):=by
  obtain ⟨a,ha,hw,hle, -⟩:=blanks_ev s om s.size 0 om om om
  have ha0:=hw.1
  obtain ⟨kd,b,e,ns,ks,ok,hv,hie,hes,hok⟩:=(reader_all hn (s.size+1)).1 a om hle om
  cases ok with
  | false=>exact ⟨z28,false,Ev.bind ha (Ev.bind hv (Ev.congr (fun k=>by rw [if_neg (by simp)]) (Ev.now _))),fun h=>by cases h⟩
  | true =>
    obtain ⟨hlt,t,hr,hp⟩:=hok rfl
    obtain ⟨c,hc,hw2,hle2, -⟩:=blanks_ev s om ((s.size:Int) - e).toNat e om om om
    by_cases h:c=(s.size:Int)
    · refine ⟨_,true,Ev.bind ha (Ev.bind hv (Ev.congr (fun k=>by rw [if_pos (by trivial)]) (Ev.bind hc (Ev.congr (fun k=>by rw [if_pos h]) (Ev.now _))))),fun _=>⟨t,a,e,ws_wl om hle hw,hr,?_,hp⟩⟩
      rw [← h];exact ws_wl om hle2 hw2
    · exact ⟨z28,false,Ev.bind ha (Ev.bind hv (Ev.congr (fun k=>by rw [if_pos (by trivial)]) (Ev.bind hc (Ev.congr (fun k=>by rw [if_neg h]) (Ev.now _))))),fun h=>by cases h⟩
end Go.Proofs.Ytbkgoccnegjdhaa.U

/- The reference's reader: what it takes for a value is one, and its place reads so. -/
import Derived.Test.YtnejkimpkaopoaaGreatDoorJ3
import Derived.Test.YtnejkimpkaopoaaGreatDoorHc
namespace Go.Proofs.YtnejkimpkaopoaaGreatDoor.U
open RowKit YtnejkimpkaopoaaGreatDoorW.PrintWords YtnejkimpkaopoaaGreatDoor.Q
set_option linter.unusedVariables false
set_option linter.unusedSimpArgs false
mutual
def Rep (s:ByteArray):T→S102→Prop
  | .leaf kd b,p=>p.f0=kd∧0≤p.f1∧p.f1≤p.f2∧p.f2≤s.size∧sl s p.f1 p.f2=b∧p.f4=[]∧p.f3=[]
  | .arr k,p=>p.f0=5∧p.f3=[]∧RepL s k p.f4
  | .obj m,p=>p.f0=6∧RepM s m p.f3 p.f4
def RepL (s:ByteArray):TL→List S102→Prop
  | .nil,ps=>ps=[]
  | .cons t k,ps => ∃ p qs,ps=p :: qs∧Rep s t p∧RepL s k qs
def RepM (s:ByteArray):TM→List S155→List S102→Prop
  | .nil,ns,ps=>ns=[]∧ps=[]
  | .cons n t m,ns,ps => ∃ y ms p qs,ns=y :: ms∧ps=p :: qs∧0≤y.f0∧y.f0≤y.f1∧y.f1≤s.size∧sl s y.f0 y.f1=n∧Rep s t p∧RepM s m ms qs
end
theorem at_one {s:ByteArray} {a c:Int} (h0:0≤a) (h1:a<s.size) (h:bt s a=c):At (bytesOf s) a [c]:=by
 refine ⟨h0,by rw [bytesOf_length];exact h1,by rw [rd_bytesOf];exact h,by omega,by rw [bytesOf_length];omega⟩
theorem ws_wl {s:ByteArray} {i j:Int} (h0:0≤i) (h1:j≤s.size) (h:Ws s i j):Wl (bytesOf s) i j :=
  ⟨h0,h.1,by rw [bytesOf_length];exact h1,fun q h2 h3=>by rw [rd_bytesOf];exact h.2 q h2 h3⟩
theorem Wl.refl {l:List Int} {i:Int} (h0:0≤i) (h1:i≤l.length):Wl l i i:=⟨h0,Int.le_refl _,h1,fun q h2 h3=>by omega⟩
theorem Wl.trans {l:List Int} {i j m:Int} (h:Wl l i j) (g:Wl l j m):Wl l i m :=
  ⟨h.1,by have:=h.2.1;have:=g.2.1;omega,g.2.2.1,fun q h1 h2=>by
    by_cases e:q<j
    · exact h.2.2.2 q h1 e
    · exact g.2.2.2 q (by omega) h2⟩
theorem RdG.ahead {l:List Int} {m:TM} {i j e:Int} (h:Wl l i j) (g:RdG l m j e):RdG l m i e:=by
 cases m with
 | nil=>simp only [RdG] at g ⊢; obtain ⟨a,hw,r⟩:=g;exact ⟨a,h.trans hw,r⟩
 | cons n t m=>simp only [RdG] at g ⊢; obtain ⟨a,b,c,d,hw,r⟩:=g;exact ⟨a,b,c,d,h.trans hw,r⟩
theorem RdG.comma {l:List Int} {n:List Int} {t:T} {m:TM} {i z e:Int} (h:Wl l i z) (hz:At l z [44]) (g:RdG l (.cons n t m) (z+1) e):RdM l (.cons n t m) i e:=by
 simp only [RdG] at g;simp only [RdM];obtain ⟨a,b,c,d,r⟩:=g;exact ⟨z,a,b,c,d,h,hz,r⟩
theorem RdF.ahead {l:List Int} {k:TL} {i j e:Int} (h:Wl l i j) (g:RdF l k j e):RdF l k i e:=by
 cases k with
 | nil=>simp only [RdF] at g ⊢; obtain ⟨a,hw,r⟩:=g;exact ⟨a,h.trans hw,r⟩
 | cons t k=>simp only [RdF] at g ⊢; obtain ⟨a,c,hw,r⟩:=g;exact ⟨a,c,h.trans hw,r⟩
theorem RdF.comma {l:List Int} {t:T} {k:TL} {i z e:Int} (h:Wl l i z) (hz:At l z [44]) (g:RdF l (.cons t k) (z+1) e):RdT l (.cons t k) i e:=by
 simp only [RdF] at g;simp only [RdT];obtain ⟨a,c,r⟩:=g;exact ⟨z,a,c,h,hz,r⟩
theorem leaf_rd {s:ByteArray} {kd i e:Int} (h0:0≤i) (h1:i≤e) (h2:e≤s.size) (hl:LeafOK kd (sl s i e)) : ∃ t,Rd (bytesOf s) t i e∧Rep s t ⟨kd,i,e,[],[]⟩ :=
  ⟨.leaf kd (sl s i e),by simp only [Rd];exact ⟨sl_at h0 h1 h2,by rw [sl_len h0 h1 h2];omega,hl⟩,by simp only [Rep];exact ⟨trivial,h0,h1,h2,by trivial,by trivial,by trivial⟩⟩
def PV (s:ByteArray) (d:Nat):Prop := ∀ i:Int,0≤i→i≤s.size→(s.size:Int) - i<d → ∃ kd b e ns ks ok,Ev (fun k=>rV.f k s i) (kd,b,e,ns,ks,ok,s,e)∧i≤e∧e≤s.size∧(ok=true→i<e ∧ ∃ t,Rd (bytesOf s) t i e∧Rep s t ⟨kd,b,e,ns,ks⟩)
def PE (s:ByteArray) (d:Nat):Prop := ∀ (x:List S102) (i:Int),0≤i→i≤s.size→(s.size:Int) - i<d→(x.length:Int)≤i → ∃ ks ok e,Ev (fun k=>rE.l0 k x s i) (ks,ok,s,e)∧i≤e∧e≤s.size∧(ok=true → ∃ t kk q,ks=x++q∧RdF (bytesOf s) (.cons t kk) i e∧RepL s (.cons t kk) q)
def PM (s:ByteArray) (d:Nat):Prop := ∀ (y:List S155) (x:List S102) (i:Int),0≤i→i≤s.size→(s.size:Int) - i<d→(x.length:Int)≤i→(y.length:Int)≤i → ∃ ns ks ok e,Ev (fun k=>rM.l0 k y x s i) (ns,ks,ok,s,e)∧i≤e∧e≤s.size∧(ok=true → ∃ n t mm p q,ns=y++p∧ks=x++q∧RdG (bytesOf s) (.cons n t mm) i e∧RepM s (.cons n t mm) p q)
theorem elements_ev {s:ByteArray} (hn:s.size≤65536) {d:Nat} (hE:PE s d) {i:Int} (h0:0≤i) (hi:i<s.size) (hd:(s.size:Int) - i<d+1) :
 ∃ ks ok e,Ev (fun k=>rE.f k s i) (ks,ok,s,e)∧i≤e∧e≤s.size∧(ok=true → ∃ k,RdF (bytesOf s) k (i+1) e∧RepL s k ks):=by
 obtain ⟨a,ha,hw,hle, -⟩:=blanks_ev s (by omega) ((s.size:Int) - (i+1)).toNat (i+1) (by omega) (by omega) (by omega)
 have hia:=hw.1
 rcases take_any s a 93 (by omega) (by omega) (by decide) with ⟨hb,hlt,ht⟩|⟨hb,ht⟩
 ·
  refine ⟨[],true,a+1,Ev.step (f:=fun k=>(rB.f k s (i+1)).bind fun t=>(rT.f t.1 t.2 93).bind fun t3=>if t3.1=true then some (([]:List S102),true,t3.2.1,t3.2.2) else rE.l0 k [] t3.2.1 t3.2.2) (fun k=>?_) (Ev.bind ha (Ev.congr (fun k=>?_) (Ev.now _))),by omega,by omega,fun _=>⟨.nil,?_,?_⟩⟩
  ·
   simp only [rE.f];rw [wr (by omega) (by omega)]
  ·
   rw [ht,Option.bind_some,if_pos rfl]
  ·
   simp only [RdF];exact ⟨a,ws_wl (by omega) hle hw,at_one (by omega) hlt hb,rfl⟩
  simp only [RepL]
 obtain ⟨ks,ok,e,he,hie,hes,hok⟩:=hE [] a (by omega) hle (by omega) (by simp;omega)
 refine ⟨ks,ok,e,Ev.step (f:=fun k=>(rB.f k s (i+1)).bind fun t=>(rT.f t.1 t.2 93).bind fun t3=>if t3.1=true then some (([]:List S102),true,t3.2.1,t3.2.2) else rE.l0 k [] t3.2.1 t3.2.2) (fun k=>?_) (Ev.bind ha (Ev.congr (fun k=>?_) he)),by omega,by omega,fun h=>?_⟩
 ·
  simp only [rE.f];rw [wr (by omega) (by omega)]
 ·
  rw [ht,Option.bind_some,if_neg (by simp)]
 obtain ⟨t,kk,q,hq,hr,hp⟩:=hok h
 rw [List.nil_append] at hq;subst hq
 exact ⟨.cons t kk,hr.ahead (ws_wl (by omega) hle hw),hp⟩
theorem members_ev {s:ByteArray} (hn:s.size≤65536) {d:Nat} (hM:PM s d) {i:Int} (h0:0≤i) (hi:i<s.size) (hd:(s.size:Int) - i<d+1) :
 ∃ ns ks ok e,Ev (fun k=>rM.f k s i) (ns,ks,ok,s,e)∧i≤e∧e≤s.size∧(ok=true → ∃ m,RdG (bytesOf s) m (i+1) e∧RepM s m ns ks):=by
 obtain ⟨a,ha,hw,hle, -⟩:=blanks_ev s (by omega) ((s.size:Int) - (i+1)).toNat (i+1) (by omega) (by omega) (by omega)
 have hia:=hw.1
 rcases take_any s a 125 (by omega) (by omega) (by decide) with ⟨hb,hlt,ht⟩|⟨hb,ht⟩
 ·
  refine ⟨[],[],true,a+1,Ev.step (f:=fun k=>(rB.f k s (i+1)).bind fun t=>(rT.f t.1 t.2 125).bind fun t3=>if t3.1=true then some (([]:List S155),([]:List S102),true,t3.2.1,t3.2.2) else rM.l0 k [] [] t3.2.1 t3.2.2) (fun k=>?_) (Ev.bind ha (Ev.congr (fun k=>?_) (Ev.now _))),by omega,by omega,fun _=>⟨.nil,?_,?_⟩⟩
  ·
   simp only [rM.f];rw [wr (by omega) (by omega)]
  ·
   rw [ht,Option.bind_some,if_pos rfl]
  ·
   simp only [RdG];exact ⟨a,ws_wl (by omega) hle hw,at_one (by omega) hlt hb,rfl⟩
  simp only [RepM];exact ⟨trivial,trivial⟩
 obtain ⟨ns,ks,ok,e,he,hie,hes,hok⟩:=hM [] [] a (by omega) hle (by omega) (by simp;omega) (by simp;omega)
 refine ⟨ns,ks,ok,e,Ev.step (f:=fun k=>(rB.f k s (i+1)).bind fun t=>(rT.f t.1 t.2 125).bind fun t3=>if t3.1=true then some (([]:List S155),([]:List S102),true,t3.2.1,t3.2.2) else rM.l0 k [] [] t3.2.1 t3.2.2) (fun k=>?_) (Ev.bind ha (Ev.congr (fun k=>?_) he)),by omega,by omega,fun h=>?_⟩
 ·
  simp only [rM.f];rw [wr (by omega) (by omega)]
 ·
  rw [ht,Option.bind_some,if_neg (by simp)]
 obtain ⟨n,t,mm,p,q,hp,hq,hr,hrep⟩:=hok h
 rw [List.nil_append] at hq hp;subst hq;subst hp
 exact ⟨.cons n t mm,hr.ahead (ws_wl (by omega) hle hw),hrep⟩
theorem value_j0 {s:ByteArray} (hn:s.size≤65536) {i:Int} (h0:0≤i) (h1:i≤s.size) (b:Bool) (hb:b=true→bt s i=45∨(48≤bt s i∧bt s i≤57)) :
 ∃ kd e ok,Ev (fun k=>rV.j0 k true b s i 0 i 0) (kd,i,e,[],[],ok,s,e)∧i≤e∧e≤s.size∧(ok=true→i<e ∧ ∃ t,Rd (bytesOf s) t i e∧Rep s t ⟨kd,i,e,[],[]⟩):=by
 cases b with
 | true =>
  obtain ⟨ok,e,he,hle,hie,hok,hhd⟩:=number_ev s (by omega) i h0 h1
  refine ⟨3,e,ok,Ev.step (f:=fun k=>(rN.f k s i).bind fun t=>some (3,i,t.2.2,[],[],t.1,t.2.1,t.2.2)) (fun k=>by simp only [rV.j0];rw [if_pos (by trivial)]) (Ev.bind he (Ev.now _)),hie,hle,fun h=>⟨(hhd h).1,leaf_rd h0 hie hle (.inr (.inl ⟨rfl,num_leaf h0 (hhd h).1 hle (hok h).1 (hhd h).2 (hok h).2⟩))⟩⟩
 | false =>
  rcases word_ev s (⟨#[110,117,108,108]⟩:ByteArray) (by omega) (by decide) i h0 h1 with ⟨e,hw,hie,hle,hs⟩|hw
  ·
   have hl:(sl s i e).length=4:=by rw [hs];rfl
   have:=sl_len h0 hie hle
   refine ⟨0,e,true,Ev.const _ fun k=>?_,hie,hle,fun _=>⟨by omega,leaf_rd h0 hie hle (.inr (.inr (.inr (.inr ⟨rfl,?_⟩))))⟩⟩
   ·
    simp only [rV.j0];rw [if_neg (by simp),hw,Option.bind_some,if_pos rfl]
   rw [hs];rfl
  rcases word_ev s (⟨#[102,97,108,115,101]⟩:ByteArray) (by omega) (by decide) i h0 h1 with ⟨e,hw2,hie,hle,hs⟩|hw2
  ·
   have hl:(sl s i e).length=5:=by rw [hs];rfl
   have:=sl_len h0 hie hle
   refine ⟨1,e,true,Ev.const _ fun k=>?_,hie,hle,fun _=>⟨by omega,leaf_rd h0 hie hle (.inr (.inr (.inr (.inl ⟨rfl,?_⟩))))⟩⟩
   ·
    simp only [rV.j0];rw [if_neg (by simp),hw,Option.bind_some,if_neg (by simp),hw2,Option.bind_some,if_pos rfl]
   rw [hs];rfl
  rcases word_ev s (⟨#[116,114,117,101]⟩:ByteArray) (by omega) (by decide) i h0 h1 with ⟨e,hw3,hie,hle,hs⟩|hw3
  ·
   have hl:(sl s i e).length=4:=by rw [hs];rfl
   have:=sl_len h0 hie hle
   refine ⟨2,e,true,Ev.const _ fun k=>?_,hie,hle,fun _=>⟨by omega,leaf_rd h0 hie hle (.inr (.inr (.inl ⟨rfl,?_⟩)))⟩⟩
   ·
    simp only [rV.j0];rw [if_neg (by simp),hw,Option.bind_some,if_neg (by simp),hw2,Option.bind_some,if_neg (by simp),hw3,Option.bind_some,if_pos rfl]
   rw [hs];rfl
  refine ⟨0,i,false,Ev.const _ fun k=>?_,Int.le_refl _,h1,fun h=>by cases h⟩
  simp only [rV.j0];rw [if_neg (by simp),hw,Option.bind_some,if_neg (by simp),hw2,Option.bind_some,if_neg (by simp),hw3,Option.bind_some,if_neg (by simp)]
theorem value_step {s:ByteArray} (hn:s.size≤65536) {d:Nat} (hE:PE s d) (hM:PM s d):PV s (d+1):=by
  intro i h0 h1 hd
  by_cases h123:bt s i=123
  · have hi:=bt_in (s:=s) (i:=i) (by omega)
    obtain ⟨ns,ks,ok,e,he,hie,hes,hok⟩:=members_ev hn hM h0 hi (by omega)
    refine ⟨6,i,e,ns,ks,ok,Ev.step (f:=fun k=>(rM.f k s i).bind fun t=>some (6,i,t.2.2.2.2,t.1,t.2.1,t.2.2.1,t.2.2.2.1,t.2.2.2.2)) (fun k=>?_) (Ev.bind he (Ev.now _)),hie,hes,fun h=>?_⟩
    · simp only [rV.f];rw [here_in h0,Option.bind_some,if_pos h123]
    · obtain ⟨m,hr,hp⟩:=hok h
      have:=TM.szF_le m hr
      exact ⟨by omega, .obj m,by simp only [Rd];exact ⟨at_one h0 hi h123,hr⟩,by simp only [Rep];exact ⟨trivial,hp⟩⟩
  by_cases h91:bt s i=91
  · have hi:=bt_in (s:=s) (i:=i) (by omega)
    obtain ⟨ks,ok,e,he,hie,hes,hok⟩:=elements_ev hn hE h0 hi (by omega)
    refine ⟨5,i,e,[],ks,ok,Ev.step (f:=fun k=>(rE.f k s i).bind fun t=>some (5,i,t.2.2.2,([]:List S155),t.1,t.2.1,t.2.2.1,t.2.2.2)) (fun k=>?_) (Ev.bind he (Ev.now _)),hie,hes,fun h=>?_⟩
    · simp only [rV.f];rw [here_in h0,Option.bind_some,if_neg h123,if_pos h91]
    · obtain ⟨m,hr,hp⟩:=hok h
      have:=TL.szF_le m hr
      exact ⟨by omega, .arr m,by simp only [Rd];exact ⟨at_one h0 hi h91,hr⟩,by simp only [Rep];exact ⟨trivial,trivial,hp⟩⟩
  by_cases h34:bt s i=34
  · obtain ⟨ok,e,he,hle,hie,hok⟩:=quoted_ev s (by omega) i h0 h34
    refine ⟨4,i,e,[],[],ok,Ev.step (f:=fun k=>(rQ.f k s i).bind fun t=>some (4,i,t.2.2,([]:List S155),([]:List S102),t.1,t.2.1,t.2.2)) (fun k=>?_) (Ev.bind he (Ev.now _)),by omega,hle,fun h=>⟨hie,leaf_rd h0 (by omega) hle (.inl ⟨rfl,hok h⟩)⟩⟩
    simp only [rV.f];rw [here_in h0,Option.bind_some,if_neg h123,if_neg h91,if_pos h34]
  have tail : ∀ b:Bool,(b=true→bt s i=45∨(48≤bt s i∧bt s i≤57))→(∀ k,rV.f (k+1) s i=rV.j0 k true b s i 0 i 0) →
      ∃ kd b e ns ks ok,Ev (fun k=>rV.f k s i) (kd,b,e,ns,ks,ok,s,e)∧i≤e∧e≤s.size∧(ok=true→i<e ∧ ∃ t,Rd (bytesOf s) t i e∧Rep s t ⟨kd,b,e,ns,ks⟩):=by
    intro b hb hk
    obtain ⟨kd,e,ok,he,hie,hes,hok⟩:=value_j0 hn h0 h1 b hb
    exact ⟨kd,i,e,[],[],ok,Ev.step hk he,hie,hes,hok⟩
  by_cases h45:bt s i=45
  · exact tail true (fun _ => .inl h45) fun k=>by simp only [rV.f];rw [here_in h0,Option.bind_some,if_neg h123,if_neg h91,if_neg h34,if_pos h45]
  by_cases h48:48≤bt s i
  · by_cases h57:bt s i≤57
    · exact tail true (fun _ => .inr ⟨h48,h57⟩) fun k=>by simp only [rV.f];rw [here_in h0,Option.bind_some,if_neg h123,if_neg h91,if_neg h34,if_neg h45,if_pos h48,decide_eq_true h57]
    · exact tail false (fun h=>by cases h) fun k=>by simp only [rV.f];rw [here_in h0,Option.bind_some,if_neg h123,if_neg h91,if_neg h34,if_neg h45,if_pos h48,decide_eq_false h57]
  · exact tail false (fun h=>by cases h) fun k=>by simp only [rV.f];rw [here_in h0,Option.bind_some,if_neg h123,if_neg h91,if_neg h34,if_neg h45,if_neg h48]
theorem elements_step {s:ByteArray} (hn:s.size≤65536) {d:Nat} (hV:PV s (d+1)) (hE:PE s d):PE s (d+1):=by
 intro x i h0 h1 hd hx
 obtain ⟨kd,b,e,ns,ks,ok,hv,hie,hes,hok⟩:=hV i h0 h1 hd
 cases ok with
 | false =>
  refine ⟨[],false,e,Ev.step (f:=fun k=>(rV.f k s i).bind fun t=>if t.2.2.2.2.2.1=true then (if x.length<1954687338268 then ((some (x++[(⟨t.1,t.2.1,t.2.2.1,t.2.2.2.1,t.2.2.2.2.1⟩:S102)]:List (S102))).bind fun y202019=>((rB.f k t.2.2.2.2.2.2.1 t.2.2.2.2.2.2.2).bind fun bt202022=>((rT.f bt202022.1 bt202022.2 93).bind fun bt202024=>(if bt202024.1=true then (some (y202019,true,bt202024.2.1,bt202024.2.2)) else ((rT.f bt202024.2.1 bt202024.2.2 44).bind fun bt202027=>(if bt202027.1=true then ((rB.f k bt202027.2.1 bt202027.2.2).bind fun bt202030=>(rE.l0 k y202019 bt202030.1 bt202030.2)) else (some (([]:List (S102)),false,bt202027.2.1,bt202027.2.2)))))))) else (none)) else (some (([]:List (S102)),false,t.2.2.2.2.2.2.1,t.2.2.2.2.2.2.2))) (fun k=>by simp only [rE.l0]) (Ev.bind hv (Ev.congr (fun k=>by rw [if_neg (by simp)]) (Ev.now _))),hie,hes,fun h=>by cases h⟩
 | true =>
  obtain ⟨hlt,t,hr,hp⟩:=hok rfl
  obtain ⟨a,ha,hw,hle, -⟩:=blanks_ev s (by omega) ((s.size:Int) - e).toNat e (by omega) (by omega) (by omega)
  have hea:=hw.1
  have wl:=ws_wl (by omega) hle hw
  -- behind the value
  have main : ∃ ks' ok e',Ev (fun k=>(rT.f s a 93).bind fun t3=>if t3.1=true then some (x++[(⟨kd,b,e,ns,ks⟩:S102)],true,t3.2.1,t3.2.2) else (rT.f t3.2.1 t3.2.2 44).bind fun t4=>if t4.1=true then (rB.f k t4.2.1 t4.2.2).bind fun t5=>rE.l0 k (x++[(⟨kd,b,e,ns,ks⟩:S102)]) t5.1 t5.2 else some (([]:List S102),false,t4.2.1,t4.2.2)) (ks',ok,s,e')∧i≤e'∧e'≤s.size∧(ok=true → ∃ kk q,ks'=x++⟨kd,b,e,ns,ks⟩ :: q∧RdT (bytesOf s) kk e e'∧RepL s kk q):=by
   rcases take_any s a 93 (by omega) (by omega) (by decide) with ⟨hb,hlt,ht⟩|⟨hb,ht⟩
   ·
    refine ⟨_,true,a+1,Ev.congr (fun k=>by rw [ht,Option.bind_some,if_pos rfl]) (Ev.now _),by omega,by omega,fun _=>⟨.nil,[],by simp,?_,by simp only [RepL]⟩⟩
    simp only [RdT];exact ⟨a,wl,at_one (by omega) hlt hb,rfl⟩
   rcases take_any s a 44 (by omega) (by omega) (by decide) with ⟨hb4,hlt4,ht4⟩|⟨hb4,ht4⟩
   ·
    obtain ⟨a2,ha2,hw2,hle2, -⟩:=blanks_ev s (by omega) ((s.size:Int) - (a+1)).toNat (a+1) (by omega) (by omega) (by omega)
    have hea2:=hw2.1
    obtain ⟨ks',ok',e',he',hie',hes',hok'⟩:=hE (x++[⟨kd,b,e,ns,ks⟩]) a2 (by omega) hle2 (by omega) (by simp;omega)
    refine ⟨ks',ok',e',Ev.congr (f:=fun k=>(rB.f k s (a+1)).bind fun t5=>rE.l0 k (x++[(⟨kd,b,e,ns,ks⟩:S102)]) t5.1 t5.2) (fun k=>by rw [ht,Option.bind_some,if_neg (by simp),ht4,Option.bind_some,if_pos rfl]) (Ev.bind ha2 he'),by omega,hes',fun h=>?_⟩
    obtain ⟨t',kk,q,hq,hr',hp'⟩:=hok' h
    exact ⟨.cons t' kk,q,by rw [hq];simp,RdF.comma wl (at_one (by omega) hlt4 hb4) (hr'.ahead (ws_wl (by omega) hle2 hw2)),hp'⟩
   exact ⟨[],false,a,Ev.congr (fun k=>by rw [ht,Option.bind_some,if_neg (by simp),ht4,Option.bind_some,if_neg (by simp)]) (Ev.now _),by omega,by omega,fun h=>by cases h⟩
  obtain ⟨ks',ok',e',he',hie',hes',hok'⟩:=main
  refine ⟨ks',ok',e',Ev.step (f:=fun k=>(rV.f k s i).bind fun t=>if t.2.2.2.2.2.1=true then (if x.length<1954687338268 then ((some (x++[(⟨t.1,t.2.1,t.2.2.1,t.2.2.2.1,t.2.2.2.2.1⟩:S102)]:List (S102))).bind fun y202019=>((rB.f k t.2.2.2.2.2.2.1 t.2.2.2.2.2.2.2).bind fun bt202022=>((rT.f bt202022.1 bt202022.2 93).bind fun bt202024=>(if bt202024.1=true then (some (y202019,true,bt202024.2.1,bt202024.2.2)) else ((rT.f bt202024.2.1 bt202024.2.2 44).bind fun bt202027=>(if bt202027.1=true then ((rB.f k bt202027.2.1 bt202027.2.2).bind fun bt202030=>(rE.l0 k y202019 bt202030.1 bt202030.2)) else (some (([]:List (S102)),false,bt202027.2.1,bt202027.2.2)))))))) else (none)) else (some (([]:List (S102)),false,t.2.2.2.2.2.2.1,t.2.2.2.2.2.2.2))) (fun k=>by simp only [rE.l0]) (Ev.bind hv ?_),hie',hes',fun h=>?_⟩
  ·
   refine Ev.congr (f:=fun k=>(rB.f k s e).bind fun t2=>(rT.f t2.1 t2.2 93).bind fun t3=>if t3.1=true then some (x++[(⟨kd,b,e,ns,ks⟩:S102)],true,t3.2.1,t3.2.2) else (rT.f t3.2.1 t3.2.2 44).bind fun t4=>if t4.1=true then (rB.f k t4.2.1 t4.2.2).bind fun t5=>rE.l0 k (x++[(⟨kd,b,e,ns,ks⟩:S102)]) t5.1 t5.2 else some (([]:List S102),false,t4.2.1,t4.2.2)) (fun k=>by rw [if_pos (by trivial),if_pos (by omega),Option.bind_some]) (Ev.bind ha he')
  obtain ⟨kk,q,hq,hr',hp'⟩:=hok' h
  refine ⟨t,kk,⟨kd,b,e,ns,ks⟩ :: q,hq,?_,?_⟩
  ·
   simp only [RdF];exact ⟨i,e,Wl.refl h0 (by rw [bytesOf_length];exact h1),hr,hr'⟩
  simp only [RepL];exact ⟨_,q,rfl,hp,hp'⟩
def mTail (y:List S155) (x:List S102) (k:Nat) (s:ByteArray) (e:Int):Option ((List S155) × (List S102) × Bool × ByteArray × Int) :=
  (rB.f k s e).bind fun t2=>(rT.f t2.1 t2.2 125).bind fun t3=>if t3.1=true then some (y,x,true,t3.2.1,t3.2.2) else (rT.f t3.2.1 t3.2.2 44).bind fun t4=>if t4.1=true then (rB.f k t4.2.1 t4.2.2).bind fun t5=>rM.l0 k y x t5.1 t5.2 else some (([]:List S155),([]:List S102),false,t4.2.1,t4.2.2)
theorem mTail_ev {s:ByteArray} (hn:s.size≤65536) {d:Nat} (hM:PM s d) (y:List S155) (x:List S102) {e:Int} (h0:0≤e) (h1:e≤s.size) (hd:(s.size:Int) - e<d+1) (hx:(x.length:Int)≤e) (hy:(y.length:Int)≤e) :
 ∃ ns ks ok e',Ev (fun k=>mTail y x k s e) (ns,ks,ok,s,e')∧e≤e'∧e'≤s.size∧(ok=true → ∃ mm p q,ns=y++p∧ks=x++q∧RdM (bytesOf s) mm e e'∧RepM s mm p q):=by
 obtain ⟨a,ha,hw,hle, -⟩:=blanks_ev s (by omega) ((s.size:Int) - e).toNat e (by omega) (by omega) (by omega)
 have hea:=hw.1
 have wl:=ws_wl (by omega) hle hw
 rcases take_any s a 125 (by omega) (by omega) (by decide) with ⟨hb,hlt,ht⟩|⟨hb,ht⟩
 ·
  refine ⟨y,x,true,a+1,Ev.bind ha (Ev.congr (fun k=>by rw [ht,Option.bind_some,if_pos rfl]) (Ev.now _)),by omega,by omega,fun _=>⟨.nil,[],[],by simp,by simp,?_,by simp only [RepM];exact ⟨trivial,trivial⟩⟩⟩
  simp only [RdM];exact ⟨a,wl,at_one (by omega) hlt hb,rfl⟩
 rcases take_any s a 44 (by omega) (by omega) (by decide) with ⟨hb4,hlt4,ht4⟩|⟨hb4,ht4⟩
 ·
  obtain ⟨a2,ha2,hw2,hle2, -⟩:=blanks_ev s (by omega) ((s.size:Int) - (a+1)).toNat (a+1) (by omega) (by omega) (by omega)
  have hea2:=hw2.1
  obtain ⟨ns',ks',ok',e',he',hie',hes',hok'⟩:=hM y x a2 (by omega) hle2 (by omega) (by omega) (by omega)
  refine ⟨ns',ks',ok',e',Ev.bind ha (Ev.congr (f:=fun k=>(rB.f k s (a+1)).bind fun t5=>rM.l0 k y x t5.1 t5.2) (fun k=>by rw [ht,Option.bind_some,if_neg (by simp),ht4,Option.bind_some,if_pos rfl]) (Ev.bind ha2 he')),by omega,hes',fun h=>?_⟩
  obtain ⟨n',t',mm,p,q,hp,hq,hr',hp'⟩:=hok' h
  exact ⟨.cons n' t' mm,p,q,hp,hq,RdG.comma wl (at_one (by omega) hlt4 hb4) (hr'.ahead (ws_wl (by omega) hle2 hw2)),hp'⟩
 exact ⟨[],[],false,a,Ev.bind ha (Ev.congr (fun k=>by rw [ht,Option.bind_some,if_neg (by simp),ht4,Option.bind_some,if_neg (by simp)]) (Ev.now _)),by omega,by omega,fun h=>by cases h⟩
def mVal (y:List S155) (x:List S102) (k:Nat) (s:ByteArray) (e:Int):Option ((List S155) × (List S102) × Bool × ByteArray × Int) :=
  (rB.f k s e).bind fun t2=>(rV.f k t2.1 t2.2).bind fun t=>if t.2.2.2.2.2.1=true then (if x.length<1954687338268 then mTail y (x++[(⟨t.1,t.2.1,t.2.2.1,t.2.2.2.1,t.2.2.2.2.1⟩:S102)]) k t.2.2.2.2.2.2.1 t.2.2.2.2.2.2.2 else none) else some (([]:List S155),([]:List S102),false,t.2.2.2.2.2.2.1,t.2.2.2.2.2.2.2)
theorem mVal_ev {s:ByteArray} (hn:s.size≤65536) {d:Nat} (hV:PV s (d+1)) (hM:PM s d) (y:List S155) (x:List S102) {e:Int} (h0:0≤e) (h1:e≤s.size) (hd:(s.size:Int) - e<d+1) (hx:(x.length:Int)<e) (hy:(y.length:Int)≤e) :
 ∃ ns ks ok e',Ev (fun k=>mVal y x k s e) (ns,ks,ok,s,e')∧e≤e'∧e'≤s.size∧(ok=true → ∃ t mm v p q c f,ns=y++p∧ks=x++v :: q∧Wl (bytesOf s) e c∧Rd (bytesOf s) t c f∧RdM (bytesOf s) mm f e'∧Rep s t v∧RepM s mm p q):=by
 obtain ⟨c,hc,hw,hle, -⟩:=blanks_ev s (by omega) ((s.size:Int) - e).toNat e (by omega) (by omega) (by omega)
 have hec:=hw.1
 obtain ⟨kd,b,f,ns,ks,ok,hv,hie,hes,hok⟩:=hV c (by omega) hle (by omega)
 cases ok with
 | false=>exact ⟨[],[],false,f,Ev.bind hc (Ev.bind hv (Ev.congr (fun k=>by rw [if_neg (by simp)]) (Ev.now _))),by omega,hes,fun h=>by cases h⟩
 | true =>
  obtain ⟨hlt,t,hr,hp⟩:=hok rfl
  obtain ⟨ns',ks',ok',e',he',hie',hes',hok'⟩:=mTail_ev hn hM y (x++[(⟨kd,b,f,ns,ks⟩:S102)]) (e:=f) (by omega) hes (by omega) (by simp;omega) (by omega)
  refine ⟨ns',ks',ok',e',Ev.bind hc (Ev.bind hv (Ev.congr (fun k=>by rw [if_pos (by trivial),if_pos (by omega)]) he')),by omega,hes',fun h=>?_⟩
  obtain ⟨mm,p,q,hp1,hq1,hr1,hp2⟩:=hok' h
  exact ⟨t,mm,_,p,q,c,f,hp1,by rw [hq1];simp,ws_wl (by omega) hle hw,hr,hr1,hp,hp2⟩
def mName (y:List S155) (x:List S102) (k:Nat) (s:ByteArray) (e:Int):Option ((List S155) × (List S102) × Bool × ByteArray × Int) :=
  (rB.f k s e).bind fun t2=>(rT.f t2.1 t2.2 58).bind fun t3=>if t3.1=true then mVal y x k t3.2.1 t3.2.2 else some (([]:List S155),([]:List S102),false,t3.2.1,t3.2.2)
theorem j1_eq (y:List S155) (x:List S102) (b:Int) (k:Nat) (s:ByteArray) (e:Int) (hy:y.length<8796093022208):rM.j1 (k+1) y x b false s e=mName (y++[⟨b,e⟩]) x k s e:=by
 simp only [rM.j1,mName,mVal,mTail]
 rw [if_neg (by simp),if_pos hy,Option.bind_some]
 rfl
theorem mName_ev {s:ByteArray} (hn:s.size≤65536) {d:Nat} (hV:PV s (d+1)) (hM:PM s d) (y:List S155) (x:List S102) {e:Int} (h0:0≤e) (h1:e≤s.size) (hd:(s.size:Int) - e<d+1) (hx:(x.length:Int)≤e) (hy:(y.length:Int)≤e) :
 ∃ ns ks ok e',Ev (fun k=>mName y x k s e) (ns,ks,ok,s,e')∧e≤e'∧e'≤s.size∧(ok=true → ∃ t mm v p q g c f,ns=y++p∧ks=x++v :: q∧Wl (bytesOf s) e g∧At (bytesOf s) g [58]∧Wl (bytesOf s) (g+1) c∧Rd (bytesOf s) t c f∧RdM (bytesOf s) mm f e'∧Rep s t v∧RepM s mm p q):=by
 obtain ⟨g,hg,hw,hle, -⟩:=blanks_ev s (by omega) ((s.size:Int) - e).toNat e (by omega) (by omega) (by omega)
 have hec:=hw.1
 rcases take_any s g 58 (by omega) (by omega) (by decide) with ⟨hb,hlt,ht⟩|⟨hb,ht⟩
 ·
  obtain ⟨ns',ks',ok',e',he',hie',hes',hok'⟩:=mVal_ev hn hV hM y x (e:=g+1) (by omega) (by omega) (by omega) (by omega) (by omega)
  refine ⟨ns',ks',ok',e',Ev.bind hg (Ev.congr (fun k=>by rw [ht,Option.bind_some,if_pos rfl]) he'),by omega,hes',fun h=>?_⟩
  obtain ⟨t,mm,v,p,q,c,f,hp1,hq1,hwc,hr,hr2,hp2,hp3⟩:=hok' h
  exact ⟨t,mm,v,p,q,g,c,f,hp1,hq1,ws_wl (by omega) hle hw,at_one (by omega) hlt hb,hwc,hr,hr2,hp2,hp3⟩
 exact ⟨[],[],false,g,Ev.bind hg (Ev.congr (fun k=>by rw [ht,Option.bind_some,if_neg (by simp)]) (Ev.now _)),by omega,by omega,fun h=>by cases h⟩
theorem members_step {s:ByteArray} (hn:s.size≤65536) {d:Nat} (hV:PV s (d+1)) (hM:PM s d):PM s (d+1):=by
 intro y x i h0 h1 hd hx hy
 by_cases h34:bt s i=34
 rotate_left
 ·
  refine ⟨[],[],false,i,Ev.step (f:=fun k=>rM.j1 k y x i true s i) (fun k=>?_) (Ev.const _ fun k=>?_),Int.le_refl _,h1,fun h=>by cases h⟩
  ·
   simp only [rM.l0];rw [here_in h0,Option.bind_some,if_neg h34]
  simp only [rM.j1];rw [if_pos (by trivial)]
 obtain ⟨ok,e,he,hle,hie,hok⟩:=quoted_ev s (by omega) i h0 h34
 have first : ∀ k,rM.l0 (k+1) y x s i=(rQ.f k s i).bind fun t=>rM.j1 k y x i (!t.1) t.2.1 t.2.2:=fun k=>by
  simp only [rM.l0];rw [here_in h0,Option.bind_some,if_pos h34]
 cases ok with
 | false =>
  refine ⟨[],[],false,e,Ev.step first (Ev.bind he (Ev.const _ fun k=>?_)),by omega,hle,fun h=>by cases h⟩
  simp only [rM.j1];rw [if_pos (by trivial)]
 | true =>
  obtain ⟨ns',ks',ok',e',he',hie',hes',hok'⟩:=mName_ev hn hV hM (y++[⟨i,e⟩]) x (e:=e) (by omega) hle (by omega) (by omega) (by simp;omega)
  refine ⟨ns',ks',ok',e',Ev.step first (Ev.bind he (Ev.step (fun k=>j1_eq y x i k s e (by omega)) he')),by omega,hes',fun h=>?_⟩
  obtain ⟨t,mm,v,p,q,g,c,f,hp1,hq1,hwg,hag,hwc,hr,hr2,hp2,hp3⟩:=hok' h
  refine ⟨sl s i e,t,mm,⟨i,e⟩ :: p,v :: q,by rw [hp1];simp,hq1,?_,?_⟩
  ·
   simp only [RdG]
   exact ⟨i,g,c,f,Wl.refl h0 (by rw [bytesOf_length];exact h1),sl_at h0 (by omega) hle,hok rfl,by rw [sl_len h0 (by omega) hle,show i+(e - i)=e by omega];exact hwg,hag,hwc,hr,hr2⟩
  simp only [RepM]
  exact ⟨_,p,v,q,rfl,rfl,h0,by simp;omega,hle,rfl,hp2,hp3⟩
theorem reader_all {s:ByteArray} (hn:s.size≤65536) (d:Nat):PV s d∧PE s d∧PM s d:=by
 induction d with
 | zero=>exact ⟨fun i h0 h1 hd=>by omega,fun x i h0 h1 hd=>by omega,fun y x i h0 h1 hd=>by omega⟩
 | succ d ih =>
  have hV:=value_step hn ih.2.1 ih.2.2
  exact ⟨hV,elements_step hn hV ih.2.1,members_step hn hV ih.2.2⟩
theorem places_ev {s:ByteArray} (hn:s.size≤65536) : ∃ p ok,Ev (fun k=>places k s) (p,ok)∧(ok=true → ∃ t a e,Wl (bytesOf s) 0 a∧Rd (bytesOf s) t a e∧Wl (bytesOf s) e s.size∧Rep s t p):=by
 obtain ⟨a,ha,hw,hle, -⟩:=blanks_ev s (by omega) s.size 0 (by omega) (by omega) (by omega)
 have ha0:=hw.1
 obtain ⟨kd,b,e,ns,ks,ok,hv,hie,hes,hok⟩:=(reader_all hn (s.size+1)).1 a (by omega) hle (by omega)
 cases ok with
 | false=>exact ⟨z102,false,Ev.bind ha (Ev.bind hv (Ev.congr (fun k=>by rw [if_neg (by simp)]) (Ev.now _))),fun h=>by cases h⟩
 | true =>
  obtain ⟨hlt,t,hr,hp⟩:=hok rfl
  obtain ⟨c,hc,hw2,hle2, -⟩:=blanks_ev s (by omega) ((s.size:Int) - e).toNat e (by omega) (by omega) (by omega)
  by_cases h:c=(s.size:Int)
  ·
   refine ⟨_,true,Ev.bind ha (Ev.bind hv (Ev.congr (fun k=>by rw [if_pos (by trivial)]) (Ev.bind hc (Ev.congr (fun k=>by rw [if_pos h]) (Ev.now _))))),fun _=>⟨t,a,e,ws_wl (by omega) hle hw,hr,?_,hp⟩⟩
   rw [← h];exact ws_wl (by omega) hle2 hw2
  exact ⟨z102,false,Ev.bind ha (Ev.bind hv (Ev.congr (fun k=>by rw [if_pos (by trivial)]) (Ev.bind hc (Ev.congr (fun k=>by rw [if_neg h]) (Ev.now _))))),fun h=>by cases h⟩
end Go.Proofs.YtnejkimpkaopoaaGreatDoor.U

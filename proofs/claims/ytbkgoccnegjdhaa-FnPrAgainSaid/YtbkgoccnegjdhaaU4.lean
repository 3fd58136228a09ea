/- The reference's reader: what it takes for a value is one, and its place reads so. -/
import Derived.Test.YtbkgoccnegjdhaaU3
namespace Go.Proofs.Ytbkgoccnegjdhaa.U
open Go.RowKit Go.Proofs.YtbkgoccnegjdhaaW.PrintWords Go.Proofs.Ytbkgoccnegjdhaa.Q
mutual
def Rep (s:ByteArray):T→S28→Prop
  | .leaf b,p=>p.f0≠5∧p.f0≠6∧0≤p.f1∧p.f1≤p.f2∧p.f2≤s.size∧sl s p.f1 p.f2=b∧p.f4=[]∧p.f3=[]∧(p.f0=4→StrOK b)
  | .arr k,p=>p.f0=5∧p.f3=[]∧RepL s k p.f4
  | .obj m,p=>p.f0=6∧RepM s m p.f3 p.f4
def RepL (s:ByteArray):TL→List S28→Prop
  | .nil,ps=>ps=[]
  | .cons t k,ps => ∃ p qs,ps=p :: qs∧Rep s t p∧RepL s k qs
def RepM (s:ByteArray):TM→List S52→List S28→Prop
  | .nil,ns,ps=>ns=[]∧ps=[]
  | .cons n t m,ns,ps => ∃ y ms p qs,ns=y :: ms∧ps=p :: qs∧0≤y.f0∧y.f0≤y.f1∧y.f1≤s.size∧sl s y.f0 y.f1=n∧Rep s t p∧RepM s m ms qs
end
theorem at_one {s:ByteArray} {a c:Int} (h0:0≤a) (h1:a<s.size) (h:bt s a=c):At (bytesOf s) a [c]:=by
  refine ⟨h0,by rw [bytesOf_length];exact h1,by rw [rd_bytesOf];exact h,by omega,by rw [bytesOf_length];omega⟩
theorem ws_wl {s:ByteArray} {i j:Int} (h0:0≤i) (h1:j≤s.size) (h:Ws s i j):Wl (bytesOf s) i j :=
  ⟨h0,h.1,by rw [bytesOf_length];exact h1,fun q h2 h3=>by rw [rd_bytesOf];have:=h.2 q h2 h3;unfold blank at this;omega⟩
theorem Wl.refl {l:List Int} {i:Int} (h0:0≤i) (h1:i≤l.length):Wl l i i:=⟨h0,Int.le_refl _,h1,fun q h2 h3=>by omega⟩
theorem Wl.trans {l:List Int} {i j m:Int} (h:Wl l i j) (g:Wl l j m):Wl l i m :=
  ⟨h.1,by have:=h.2.1;have:=g.2.1;omega,g.2.2.1,fun q h1 h2=>by
    by_cases e:q<j
    · exact h.2.2.2 q h1 e
    · exact g.2.2.2 q om h2⟩
theorem RdG.ahead {l:List Int} {m:TM} {i j e:Int} (h:Wl l i j) (g:RdG l m j e):RdG l m i e:=by
  cases m with
  | nil=>simp only [RdG] at g ⊢; obtain ⟨a,hw,r⟩:=g;exact ⟨a,h.trans hw,r⟩
  | cons n t m=>simp only [RdG] at g ⊢; obtain ⟨a,b,c,d,hw,r⟩:=g;exact ⟨a,b,c,d,h.trans hw,r⟩
theorem RdG.comma {l:List Int} {n:List Int} {t:T} {m:TM} {i z e:Int} (h:Wl l i z) (hz:At l z [44]) (g:RdG l (.cons n t m) (z+1) e):RdM l (.cons n t m) i e:=by
  simp only [RdG] at g;simp only [RdM];obtain ⟨a,b,c,d,r⟩:=g;exact ⟨z,a,b,c,d,h,hz,r⟩
theorem RdF.ahead {l:List Int} {k:TL} {i j e:Int} (h:Wl l i j) (g:RdF l k j e):RdF l k i e:=by
  cases k with
  | nil=>simp only [RdF] at g ⊢; obtain ⟨a,hw,r⟩:=g;exact ⟨a,h.trans hw,r⟩
  | cons t k=>simp only [RdF] at g ⊢; obtain ⟨a,c,hw,r⟩:=g;exact ⟨a,c,h.trans hw,r⟩
theorem RdF.comma {l:List Int} {t:T} {k:TL} {i z e:Int} (h:Wl l i z) (hz:At l z [44]) (g:RdF l (.cons t k) (z+1) e):RdT l (.cons t k) i e:=by
  simp only [RdF] at g;simp only [RdT];obtain ⟨a,c,r⟩:=g;exact ⟨z,a,c,h,hz,r⟩
theorem mem_sl {s:ByteArray} (d:Nat) : ∀ {i e:Int}, 0≤i→e - i=d→e≤s.size → ∀ x ∈ sl s i e, ∃ q,i≤q∧q<e∧x=bt s q:=by
  induction d with
  | zero=>intro i e h0 hd h1 x hx;rw [show i=e by omega,sl_nil] at hx;cases hx
  | succ d ih =>
    intro i e h0 hd h1 x hx
    rw [sl_cons h0 om h1] at hx
    rcases List.mem_cons.mp hx with h|h
    · exact ⟨i,Int.le_refl _,by omega,h⟩
    · obtain ⟨q,h2,h3,h4⟩:=ih om om h1 x h
      exact ⟨q,by omega,h3,h4⟩
theorem nums_leaf {s:ByteArray} {i e:Int} (h0:0≤i) (h1:i<e) (h2:e≤s.size) (hn:Nums s i e) (hc:bt s i=45∨(48≤bt s i∧bt s i≤57)):NumB (sl s i e):=by
  refine ⟨bt s i,sl s (i+1) e,sl_cons h0 h1 h2,hc,fun x hx=>?_⟩
  obtain ⟨q,h3,h4,h5⟩:=mem_sl (e - (i+1)).toNat om om h2 x hx
  have:=hn.2 q om h4
  unfold numc dig at this
  rw [h5];omega
theorem leaf_rd {s:ByteArray} {kd i e:Int} (h0:0≤i) (h1:i≤e) (h2:e≤s.size) (hl:LeafOK (sl s i e)) (h5:kd≠5) (h6:kd≠6) (h4:kd=4→StrOK (sl s i e)) : ∃ t,Rd (bytesOf s) t i e∧Rep s t ⟨kd,i,e,[],[]⟩ :=
  ⟨.leaf (sl s i e),by simp only [Rd];exact ⟨sl_at h0 h1 h2,by rw [sl_len h0 h1 h2];omega,hl⟩,by simp only [Rep];exact ⟨h5,h6,h0,h1,h2,by trivial,by trivial,by trivial,h4⟩⟩
def PV (s:ByteArray) (d:Nat):Prop := ∀ i:Int,0≤i→i≤s.size→(s.size:Int) - i<d → ∃ kd b e ns ks ok,Ev (fun k=>rV.f k s i) (kd,b,e,ns,ks,ok,s,e)∧i≤e∧e≤s.size∧(ok=true→i<e ∧ ∃ t,Rd (bytesOf s) t i e∧Rep s t ⟨kd,b,e,ns,ks⟩)
def PE (s:ByteArray) (d:Nat):Prop := ∀ (x:List S28) (i:Int),0≤i→i≤s.size→(s.size:Int) - i<d→(x.length:Int)≤i → ∃ ks ok e,Ev (fun k=>rE.l0 k x s i) (ks,ok,s,e)∧i≤e∧e≤s.size∧(ok=true → ∃ t kk q,ks=x++q∧RdF (bytesOf s) (.cons t kk) i e∧RepL s (.cons t kk) q)
def PM (s:ByteArray) (d:Nat):Prop := ∀ (y:List S52) (x:List S28) (i:Int),0≤i→i≤s.size→(s.size:Int) - i<d→(x.length:Int)≤i→(y.length:Int)≤i → ∃ ns ks ok e,Ev (fun k=>rM.l0 k y x s i) (ns,ks,ok,s,e)∧i≤e∧e≤s.size∧(ok=true → ∃ n t mm p q,ns=y++p∧ks=x++q∧RdG (bytesOf s) (.cons n t mm) i e∧RepM s (.cons n t mm) p q)
theorem elements_ev {s:ByteArray} (hn:s.size≤4096) {d:Nat} (hE:PE s d) {i:Int} (h0:0≤i) (hi:i<s.size) (hd:(s.size:Int) - i<d+1) :
    ∃ ks ok e,Ev (fun k=>rE.f k s i) (ks,ok,s,e)∧i≤e∧e≤s.size∧(ok=true → ∃ k,RdF (bytesOf s) k (i+1) e∧RepL s k ks):=by
  obtain ⟨a,ha,hw,hle, -⟩:=blanks_ev s om ((s.size:Int) - (i+1)).toNat (i+1) om om om
  have hia:=hw.1
  rcases take_any s a 93 om om (by decide) with ⟨hb,hlt,ht⟩|⟨hb,ht⟩
  · refine ⟨[],true,a+1,Ev.step (f:=fun k=>(rB.f k s (i+1)).bind fun t=>(rT.f t.1 t.2 93).bind fun t3=>if t3.1=true then some (([]:List S28),true,t3.2.1,t3.2.2) else rE.l0 k [] t3.2.1 t3.2.2) (fun k=>?_) (Ev.bind ha (Ev.congr (fun k=>?_) (Ev.now _))),by omega,by omega,fun _=>⟨.nil,?_,?_⟩⟩
    · simp only [rE.f];rw [wr om om]
    · rw [ht,Option.bind_some,if_pos rfl]
    · simp only [RdF];exact ⟨a,ws_wl om hle hw,at_one om hlt hb,rfl⟩
    · simp only [RepL]
  · obtain ⟨ks,ok,e,he,hie,hes,hok⟩:=hE [] a om hle om (by simp;omega)
    refine ⟨ks,ok,e,Ev.step (f:=fun k=>(rB.f k s (i+1)).bind fun t=>(rT.f t.1 t.2 93).bind fun t3=>if t3.1=true then some (([]:List S28),true,t3.2.1,t3.2.2) else rE.l0 k [] t3.2.1 t3.2.2) (fun k=>?_) (Ev.bind ha (Ev.congr (fun k=>?_) he)),by omega,by omega,fun h=>?_⟩
    · simp only [rE.f];rw [wr om om]
    · rw [ht,Option.bind_some,if_neg (by simp)]
    · obtain ⟨t,kk,q,hq,hr,hp⟩:=hok h
      rw [List.nil_append] at hq;subst hq
      exact ⟨.cons t kk,hr.ahead (ws_wl om hle hw),hp⟩
theorem members_ev {s:ByteArray} (hn:s.size≤4096) {d:Nat} (hM:PM s d) {i:Int} (h0:0≤i) (hi:i<s.size) (hd:(s.size:Int) - i<d+1) :
    ∃ ns ks ok e,Ev (fun k=>rM.f k s i) (ns,ks,ok,s,e)∧i≤e∧e≤s.size∧(ok=true → ∃ m,RdG (bytesOf s) m (i+1) e∧RepM s m ns ks):=by
  obtain ⟨a,ha,hw,hle, -⟩:=blanks_ev s om ((s.size:Int) - (i+1)).toNat (i+1) om om om
  have hia:=hw.1
  rcases take_any s a 125 om om (by decide) with ⟨hb,hlt,ht⟩|⟨hb,ht⟩
  · refine ⟨[],[],true,a+1,Ev.step (f:=fun k=>(rB.f k s (i+1)).bind fun t=>(rT.f t.1 t.2 125).bind fun t3=>if t3.1=true then some (([]:List S52),([]:List S28),true,t3.2.1,t3.2.2) else rM.l0 k [] [] t3.2.1 t3.2.2) (fun k=>?_) (Ev.bind ha (Ev.congr (fun k=>?_) (Ev.now _))),by omega,by omega,fun _=>⟨.nil,?_,?_⟩⟩
    · simp only [rM.f];rw [wr om om]
    · rw [ht,Option.bind_some,if_pos rfl]
    · simp only [RdG];exact ⟨a,ws_wl om hle hw,at_one om hlt hb,rfl⟩
    · simp only [RepM];exact ⟨trivial,trivial⟩
  · obtain ⟨ns,ks,ok,e,he,hie,hes,hok⟩:=hM [] [] a om hle om (by simp;omega) (by simp;omega)
    refine ⟨ns,ks,ok,e,Ev.step (f:=fun k=>(rB.f k s (i+1)).bind fun t=>(rT.f t.1 t.2 125).bind fun t3=>if t3.1=true then some (([]:List S52),([]:List S28),true,t3.2.1,t3.2.2) else rM.l0 k [] [] t3.2.1 t3.2.2) (fun k=>?_) (Ev.bind ha (Ev.congr (fun k=>?_) he)),by omega,by omega,fun h=>?_⟩
    · simp only [rM.f];rw [wr om om]
    · rw [ht,Option.bind_some,if_neg (by simp)]
    · obtain ⟨n,t,mm,p,q,hp,hq,hr,hrep⟩:=hok h
      rw [List.nil_append] at hq hp;subst hq;subst hp
      exact ⟨.cons n t mm,hr.ahead (ws_wl om hle hw),hrep⟩
/-- value's last part: a number or a word. -/
theorem value_j0 {s:ByteArray} (hn:s.size≤4096) {i:Int} (h0:0≤i) (h1:i≤s.size) (b:Bool) (hb:b=true→bt s i=45∨(48≤bt s i∧bt s i≤57)) :
    ∃ kd e ok,Ev (fun k=>rV.j0 k true b s i 0 i 0) (kd,i,e,[],[],ok,s,e)∧i≤e∧e≤s.size∧(ok=true→i<e ∧ ∃ t,Rd (bytesOf s) t i e∧Rep s t ⟨kd,i,e,[],[]⟩):=by
  cases b with
  | true =>
    obtain ⟨ok,e,he,hle,hie,hok⟩:=number_ev s om i h0 h1
    refine ⟨3,e,ok,Ev.step (f:=fun k=>(rN.f k s i).bind fun t=>some (3,i,t.2.2,[],[],t.1,t.2.1,t.2.2)) (fun k=>by simp only [rV.j0];rw [if_pos (by trivial)]) (Ev.bind he (Ev.now _)),hie,hle,fun h=>⟨(hok h).2,leaf_rd h0 hie hle (.inr (.inl (nums_leaf h0 (hok h).2 hle (hok h).1 (hb rfl)))) (by decide) (by decide) (fun h=>absurd h (by decide))⟩⟩
  | false =>
    rcases word_ev s (⟨#[110,117,108,108]⟩:ByteArray) om (by decide) i h0 h1 with ⟨e,hw,hie,hle,hs⟩|hw
    · have hl:(sl s i e).length=4:=by rw [hs];rfl
      have:=sl_len h0 hie hle
      refine ⟨0,e,true,Ev.const _ fun k=>?_,hie,hle,fun _=>⟨by omega,leaf_rd h0 hie hle (.inr (.inr (.inr (.inr ?_)))) (by decide) (by decide) (fun h=>absurd h (by decide))⟩⟩
      · simp only [rV.j0];rw [if_neg (by simp),hw,Option.bind_some,if_pos rfl]
      · rw [hs];rfl
    rcases word_ev s (⟨#[102,97,108,115,101]⟩:ByteArray) om (by decide) i h0 h1 with ⟨e,hw2,hie,hle,hs⟩|hw2
    · have hl:(sl s i e).length=5:=by rw [hs];rfl
      have:=sl_len h0 hie hle
      refine ⟨1,e,true,Ev.const _ fun k=>?_,hie,hle,fun _=>⟨by omega,leaf_rd h0 hie hle (.inr (.inr (.inr (.inl ?_)))) (by decide) (by decide) (fun h=>absurd h (by decide))⟩⟩
      · simp only [rV.j0];rw [if_neg (by simp),hw,Option.bind_some,if_neg (by simp),hw2,Option.bind_some,if_pos rfl]
      · rw [hs];rfl
    rcases word_ev s (⟨#[116,114,117,101]⟩:ByteArray) om (by decide) i h0 h1 with ⟨e,hw3,hie,hle,hs⟩|hw3
    · have hl:(sl s i e).length=4:=by rw [hs];rfl
      have:=sl_len h0 hie hle
      refine ⟨2,e,true,Ev.const _ fun k=>?_,hie,hle,fun _=>⟨by omega,leaf_rd h0 hie hle (.inr (.inr (.inl ?_))) (by decide) (by decide) (fun h=>absurd h (by decide))⟩⟩
      · simp only [rV.j0];rw [if_neg (by simp),hw,Option.bind_some,if_neg (by simp),hw2,Option.bind_some,if_neg (by simp),hw3,Option.bind_some,if_pos rfl]
      · rw [hs];rfl
    · refine ⟨0,i,false,Ev.const _ fun k=>?_,Int.le_refl _,h1,fun h=>by cases h⟩
      simp only [rV.j0];rw [if_neg (by simp),hw,Option.bind_some,if_neg (by simp),hw2,Option.bind_some,if_neg (by simp),hw3,Option.bind_some,if_neg (by simp)]
theorem value_step {s:ByteArray} (hn:s.size≤4096) {d:Nat} (hE:PE s d) (hM:PM s d):PV s (d+1):=by
  intro i h0 h1 hd
  by_cases h123:bt s i=123
  · have hi:=bt_in (s:=s) (i:=i) om
    obtain ⟨ns,ks,ok,e,he,hie,hes,hok⟩:=members_ev hn hM h0 hi om
    refine ⟨6,i,e,ns,ks,ok,Ev.step (f:=fun k=>(rM.f k s i).bind fun t=>some (6,i,t.2.2.2.2,t.1,t.2.1,t.2.2.1,t.2.2.2.1,t.2.2.2.2)) (fun k=>?_) (Ev.bind he (Ev.now _)),hie,hes,fun h=>?_⟩
    · simp only [rV.f];rw [here_in h0,Option.bind_some,if_pos h123]
    · obtain ⟨m,hr,hp⟩:=hok h
      have:=TM.szF_le m hr
      exact ⟨by omega, .obj m,by simp only [Rd];exact ⟨at_one h0 hi h123,hr⟩,by simp only [Rep];exact ⟨trivial,hp⟩⟩
  by_cases h91:bt s i=91
  · have hi:=bt_in (s:=s) (i:=i) om
    obtain ⟨ks,ok,e,he,hie,hes,hok⟩:=elements_ev hn hE h0 hi om
    refine ⟨5,i,e,[],ks,ok,Ev.step (f:=fun k=>(rE.f k s i).bind fun t=>some (5,i,t.2.2.2,([]:List S52),t.1,t.2.1,t.2.2.1,t.2.2.2)) (fun k=>?_) (Ev.bind he (Ev.now _)),hie,hes,fun h=>?_⟩
    · simp only [rV.f];rw [here_in h0,Option.bind_some,if_neg h123,if_pos h91]
    · obtain ⟨m,hr,hp⟩:=hok h
      have:=TL.szF_le m hr
      exact ⟨by omega, .arr m,by simp only [Rd];exact ⟨at_one h0 hi h91,hr⟩,by simp only [Rep];exact ⟨trivial,trivial,hp⟩⟩
  by_cases h34:bt s i=34
  · obtain ⟨ok,e,he,hle,hie,hok⟩:=quoted_ev s om i h0 h34
    refine ⟨4,i,e,[],[],ok,Ev.step (f:=fun k=>(rQ.f k s i).bind fun t=>some (4,i,t.2.2,([]:List S52),([]:List S28),t.1,t.2.1,t.2.2)) (fun k=>?_) (Ev.bind he (Ev.now _)),by omega,hle,fun h=>⟨hie,leaf_rd h0 om hle (.inl (hok h)) (by decide) (by decide) (fun _=>hok h)⟩⟩
    simp only [rV.f];rw [here_in h0,Option.bind_some,if_neg h123,if_neg h91,if_pos h34]
  have tail : ∀ b:Bool,(b=true→bt s i=45∨(48≤bt s i∧bt s i≤57))→(∀ k,rV.f (k+1) s i=rV.j0 k true b s i 0 i 0) →
      ∃ kd b e ns ks ok,Ev (fun k=>rV.f k s i) (kd,b,e,ns,ks,ok,s,e)∧i≤e∧e≤s.size∧(ok=true→i<e ∧ ∃ t,Rd (bytesOf s) t i e∧Rep s t ⟨kd,b,e,ns,ks⟩):=by
    intro b hb hk
    obtain ⟨kd,e,ok,he,hie,hes,hok⟩:=value_j0 hn h0 h1 b hb
    exact ⟨kd,i,e,[],[],ok,Ev.step hk he,hie,hes,hok⟩
  by_cases h45:bt s i=45
  · exact tail true (fun _ => .inl h45) fun k=>by simp only [rV.f];rw [here_in h0,Option.bind_some,if_neg h123,if_neg h91,if_neg h34,if_pos h45]
  by_cases h48:48≤bt s i
  · by_cases h57:bt s i≤57
    · exact tail true (fun _ => .inr ⟨h48,h57⟩) fun k=>by simp only [rV.f];rw [here_in h0,Option.bind_some,if_neg h123,if_neg h91,if_neg h34,if_neg h45,if_pos h48,decide_eq_true h57]
    · exact tail false (fun h=>by cases h) fun k=>by simp only [rV.f];rw [here_in h0,Option.bind_some,if_neg h123,if_neg h91,if_neg h34,if_neg h45,if_pos h48,decide_eq_false h57]
  · exact tail false (fun h=>by cases h) fun k=>by simp only [rV.f];rw [here_in h0,Option.bind_some,if_neg h123,if_neg h91,if_neg h34,if_neg h45,if_neg h48]
theorem elements_step {s:ByteArray} (hn:s.size≤4096) {d:Nat} (hV:PV s (d+1)) (hE:PE s d):PE s (d+1):=by
  intro x i h0 h1 hd hx
  obtain ⟨kd,b,e,ns,ks,ok,hv,hie,hes,hok⟩:=hV i h0 h1 hd
  cases ok with
  | false =>
    refine ⟨[],false,e,Ev.step (f:=fun k=>(rV.f k s i).bind fun t=>if t.2.2.2.2.2.1=true then (if x.length<1954687338268 then ((some (x++[(⟨t.1,t.2.1,t.2.2.1,t.2.2.2.1,t.2.2.2.2.1⟩:S28)]:List (S28))).bind fun yz0=>((rB.f k t.2.2.2.2.2.2.1 t.2.2.2.2.2.2.2).bind fun btz1=>((rT.f btz1.1 btz1.2 93).bind fun btz2=>(if btz2.1=true then (some (yz0,true,btz2.2.1,btz2.2.2)) else ((rT.f btz2.2.1 btz2.2.2 44).bind fun btz3=>(if btz3.1=true then ((rB.f k btz3.2.1 btz3.2.2).bind fun btz4=>(rE.l0 k yz0 btz4.1 btz4.2)) else (some (([]:List (S28)),false,btz3.2.1,btz3.2.2)))))))) else (none)) else (some (([]:List (S28)),false,t.2.2.2.2.2.2.1,t.2.2.2.2.2.2.2))) (fun k=>by simp only [rE.l0]) (Ev.bind hv (Ev.congr (fun k=>by rw [if_neg (by simp)]) (Ev.now _))),hie,hes,fun h=>by cases h⟩
  | true =>
    obtain ⟨hlt,t,hr,hp⟩:=hok rfl
    obtain ⟨a,ha,hw,hle, -⟩:=blanks_ev s om ((s.size:Int) - e).toNat e om om om
    have hea:=hw.1
    have wl:=ws_wl om hle hw
    -- behind the value
    have main : ∃ ks' ok e',Ev (fun k=>(rT.f s a 93).bind fun t3=>if t3.1=true then some (x++[(⟨kd,b,e,ns,ks⟩:S28)],true,t3.2.1,t3.2.2) else (rT.f t3.2.1 t3.2.2 44).bind fun t4=>if t4.1=true then (rB.f k t4.2.1 t4.2.2).bind fun t5=>rE.l0 k (x++[(⟨kd,b,e,ns,ks⟩:S28)]) t5.1 t5.2 else some (([]:List S28),false,t4.2.1,t4.2.2)) (ks',ok,s,e')∧i≤e'∧e'≤s.size∧(ok=true → ∃ kk q,ks'=x++⟨kd,b,e,ns,ks⟩ :: q∧RdT (bytesOf s) kk e e'∧RepL s kk q):=by
      rcases take_any s a 93 om om (by decide) with ⟨hb,hlt,ht⟩|⟨hb,ht⟩
      · refine ⟨_,true,a+1,Ev.congr (fun k=>by rw [ht,Option.bind_some,if_pos rfl]) (Ev.now _),by omega,by omega,fun _=>⟨.nil,[],by simp,?_,by simp only [RepL]⟩⟩
        simp only [RdT];exact ⟨a,wl,at_one om hlt hb,rfl⟩
      · rcases take_any s a 44 om om (by decide) with ⟨hb4,hlt4,ht4⟩|⟨hb4,ht4⟩
        · obtain ⟨a2,ha2,hw2,hle2, -⟩:=blanks_ev s om ((s.size:Int) - (a+1)).toNat (a+1) om om om
          have hea2:=hw2.1
          obtain ⟨ks',ok',e',he',hie',hes',hok'⟩:=hE (x++[⟨kd,b,e,ns,ks⟩]) a2 om hle2 om (by simp;omega)
          refine ⟨ks',ok',e',Ev.congr (f:=fun k=>(rB.f k s (a+1)).bind fun t5=>rE.l0 k (x++[(⟨kd,b,e,ns,ks⟩:S28)]) t5.1 t5.2) (fun k=>by rw [ht,Option.bind_some,if_neg (by simp),ht4,Option.bind_some,if_pos rfl]) (Ev.bind ha2 he'),by omega,hes',fun h=>?_⟩
          obtain ⟨t',kk,q,hq,hr',hp'⟩:=hok' h
          exact ⟨.cons t' kk,q,by rw [hq];simp,RdF.comma wl (at_one om hlt4 hb4) (hr'.ahead (ws_wl om hle2 hw2)),hp'⟩
        · exact ⟨[],false,a,Ev.congr (fun k=>by rw [ht,Option.bind_some,if_neg (by simp),ht4,Option.bind_some,if_neg (by simp)]) (Ev.now _),by omega,by omega,fun h=>by cases h⟩
    obtain ⟨ks',ok',e',he',hie',hes',hok'⟩:=main
    refine ⟨ks',ok',e',Ev.step (f:=fun k=>(rV.f k s i).bind fun t=>if t.2.2.2.2.2.1=true then (if x.length<1954687338268 then ((some (x++[(⟨t.1,t.2.1,t.2.2.1,t.2.2.2.1,t.2.2.2.2.1⟩:S28)]:List (S28))).bind fun yz0=>((rB.f k t.2.2.2.2.2.2.1 t.2.2.2.2.2.2.2).bind fun btz1=>((rT.f btz1.1 btz1.2 93).bind fun btz2=>(if btz2.1=true then (some (yz0,true,btz2.2.1,btz2.2.2)) else ((rT.f btz2.2.1 btz2.2.2 44).bind fun btz3=>(if btz3.1=true then ((rB.f k btz3.2.1 btz3.2.2).bind fun btz4=>(rE.l0 k yz0 btz4.1 btz4.2)) else (some (([]:List (S28)),false,btz3.2.1,btz3.2.2)))))))) else (none)) else (some (([]:List (S28)),false,t.2.2.2.2.2.2.1,t.2.2.2.2.2.2.2))) (fun k=>by simp only [rE.l0]) (Ev.bind hv ?_),hie',hes',fun h=>?_⟩
    · refine Ev.congr (f:=fun k=>(rB.f k s e).bind fun t2=>(rT.f t2.1 t2.2 93).bind fun t3=>if t3.1=true then some (x++[(⟨kd,b,e,ns,ks⟩:S28)],true,t3.2.1,t3.2.2) else (rT.f t3.2.1 t3.2.2 44).bind fun t4=>if t4.1=true then (rB.f k t4.2.1 t4.2.2).bind fun t5=>rE.l0 k (x++[(⟨kd,b,e,ns,ks⟩:S28)]) t5.1 t5.2 else some (([]:List S28),false,t4.2.1,t4.2.2)) (fun k=>by rw [if_pos (by trivial),if_pos om,Option.bind_some]) (Ev.bind ha he')
    · obtain ⟨kk,q,hq,hr',hp'⟩:=hok' h
      refine ⟨t,kk,⟨kd,b,e,ns,ks⟩ :: q,hq,?_,?_⟩
      · simp only [RdF];exact ⟨i,e,Wl.refl h0 (by rw [bytesOf_length];exact h1),hr,hr'⟩
      · simp only [RepL];exact ⟨_,q,rfl,hp,hp'⟩
end Go.Proofs.Ytbkgoccnegjdhaa.U

/- The reference's reader, the other way: where a tree stands in a text, the reader takes it. -/
import Derived.Test.YtnejkimpkaopoaaGreatDoorJ4
namespace Go.Proofs.YtnejkimpkaopoaaGreatDoor.U
open RowKit YtnejkimpkaopoaaGreatDoorW.PrintWords YtnejkimpkaopoaaGreatDoor.Q
set_option linter.unusedVariables false
set_option linter.unusedSimpArgs false
theorem stp_of {s:ByteArray} {e:Int} (h:blank (bt s e)∨bt s e=44∨bt s e=93∨bt s e=125∨bt s e=0):Stp s e:=by
 unfold Stp dig
 unfold blank at h
 omega
theorem wl_byte {s:ByteArray} {i a c:Int} (h:Wl (bytesOf s) i a) (ha:At (bytesOf s) a [c]):blank (bt s i)∨bt s i=c:=by
 by_cases e:i=a
 ·
  right;rw [e];exact at_head ha
 left;rw [← rd_bytesOf];exact h.2.2.2 i (Int.le_refl _) (by have:=h.2.1;omega)
theorem RdT.stop {s:ByteArray} {k:TL} {i e:Int} (h:RdT (bytesOf s) k i e):Stp s i:=by
 cases k with
 | nil =>
  simp only [RdT] at h
  obtain ⟨a,hw,ha,_⟩:=h
  rcases wl_byte hw ha with h|h <;> exact stp_of (by simp [h])
 | cons t k =>
  simp only [RdT] at h
  obtain ⟨a,b,c,hw,ha,_⟩:=h
  rcases wl_byte hw ha with h|h <;> exact stp_of (by simp [h])
theorem RdM.stop {s:ByteArray} {k:TM} {i e:Int} (h:RdM (bytesOf s) k i e):Stp s i:=by
 cases k with
 | nil =>
  simp only [RdM] at h
  obtain ⟨a,hw,ha,_⟩:=h
  rcases wl_byte hw ha with h|h <;> exact stp_of (by simp [h])
 | cons n t k =>
  simp only [RdM] at h
  obtain ⟨a,_,_,_,_,hw,ha,_⟩:=h
  rcases wl_byte hw ha with h|h <;> exact stp_of (by simp [h])
theorem at_lt {s:ByteArray} {i c:Int} {b:List Int} (h:At (bytesOf s) i (c :: b)):0≤i∧i<(s.size:Int):=⟨h.1,by have:=h.2.1;rwa [bytesOf_length] at this⟩
theorem Rd.head {s:ByteArray} {t:T} {i e:Int} (h:Rd (bytesOf s) t i e):0≤i∧i<(s.size:Int)∧32<bt s i∧bt s i≠93∧bt s i≠125∧bt s i≠44∧bt s i≠58:=by
 cases t with
 | leaf kd b =>
  simp only [Rd] at h
  obtain ⟨ha,_,hl⟩:=h
  rcases hl with ⟨_,B,rfl,_⟩|⟨_,_,⟨c,r,rfl,hc⟩,_⟩|⟨_,rfl⟩|⟨_,rfl⟩|⟨_,rfl⟩
  ·
   have h1:=at_head ha;have:=at_lt ha;omega
  ·
   have h1:=at_head ha;have:=at_lt ha;rw [h1];unfold dig at hc;omega
  ·
   have h1:=at_head ha;have:=at_lt ha;omega
  ·
   have h1:=at_head ha;have:=at_lt ha;omega
  have h1:=at_head ha;have:=at_lt ha;omega
 | arr k=>simp only [Rd] at h;have h1:=at_head h.1;have:=at_lt h.1;omega
 | obj m=>simp only [Rd] at h;have h1:=at_head h.1;have:=at_lt h.1;omega
theorem not_blank {c:Int} (h:32<c) : ¬ blank c:=by unfold blank;omega
theorem wl_ws {s:ByteArray} {i a:Int} (h:Wl (bytesOf s) i a):Ws s i a:=⟨h.2.1,fun q h1 h2=>by rw [← rd_bytesOf];exact h.2.2.2 q h1 h2⟩
theorem blanks_wl {s:ByteArray} (hn:s.size≤65536) {i a:Int} (h:Wl (bytesOf s) i a) (hb:32<bt s a):Ev (fun k=>rB.f k s i) (s,a) :=
  blanks_back s (by omega) i a h.1 (wl_ws h) (by have:=h.2.2.1;rwa [bytesOf_length] at this) (not_blank hb)
theorem take_one {s:ByteArray} (hn:s.size≤65536) {a c:Int} (hc:c≠0) (h:At (bytesOf s) a [c]):rT.f s a c=some (true,s,a+1):=(take_yes h.1 (by omega) hc (at_head h)).2
def eTail (x:List S102) (k:Nat) (s:ByteArray) (e:Int):Option ((List S102) × Bool × ByteArray × Int) :=
  (rB.f k s e).bind fun t2=>(rT.f t2.1 t2.2 93).bind fun t3=>if t3.1=true then some (x,true,t3.2.1,t3.2.2) else (rT.f t3.2.1 t3.2.2 44).bind fun t4=>if t4.1=true then (rB.f k t4.2.1 t4.2.2).bind fun t5=>rE.l0 k x t5.1 t5.2 else some (([]:List S102),false,t4.2.1,t4.2.2)
theorem els_l0 (x:List S102) (k:Nat) (s:ByteArray) (i:Int):rE.l0 (k+1) x s i=(rV.f k s i).bind fun t=>if t.2.2.2.2.2.1=true then (if x.length<1954687338268 then eTail (x++[(⟨t.1,t.2.1,t.2.2.1,t.2.2.2.1,t.2.2.2.2.1⟩:S102)]) k t.2.2.2.2.2.2.1 t.2.2.2.2.2.2.2 else none) else some (([]:List S102),false,t.2.2.2.2.2.2.1,t.2.2.2.2.2.2.2):=by
 simp only [rE.l0,eTail,Option.bind_some]
theorem value_leaf {s:ByteArray} (hn:s.size≤65536) {kd:Int} {b:List Int} {i:Int} (ha:At (bytesOf s) i b) (hl:LeafOK kd b) (hst:Stp s (i+b.length)) :
 Ev (fun k=>rV.f k s i) (kd,i,i+b.length,[],[],true,s,i+b.length):=by
 have h0:=ha.bound
 rw [bytesOf_length] at h0
 rcases hl with ⟨rfl,hs⟩|⟨rfl,hN,⟨c,r,rfl,hc⟩,hsem⟩|⟨rfl,rfl⟩|⟨rfl,rfl⟩|⟨rfl,rfl⟩
 ·
  have hq:=quoted_back s (by omega) hs i ha
  obtain ⟨B,rfl,_⟩:=hs
  have h34:=at_head ha
  refine Ev.step (f:=fun k=>(rQ.f k s i).bind fun t=>some (4,i,t.2.2,([]:List S155),([]:List S102),t.1,t.2.1,t.2.2)) (fun k=>?_) (Ev.bind hq (Ev.now _))
  simp only [rV.f];rw [here_in h0.1,Option.bind_some,if_neg (by rw [h34];simp),if_neg (by rw [h34];simp),if_pos h34]
 ·
  have hb:=at_head ha
  have hv:=hsem s i (by omega) ha hst
  have hj:Ev (fun k=>rV.j0 k true true s i 0 i 0) (3,i,i+((c :: r).length:Int),[],[],true,s,i+((c :: r).length:Int)) :=
   Ev.step (f:=fun k=>(rN.f k s i).bind fun t=>some (3,i,t.2.2,[],[],t.1,t.2.1,t.2.2)) (fun k=>by simp only [rV.j0];rw [if_pos (by trivial)]) (Ev.bind hv (Ev.now _))
  refine Ev.step (fun k=>?_) hj
  rcases hc with hc|⟨rfl, -⟩
  ·
   unfold dig at hc
   simp only [rV.f];rw [here_in h0.1,Option.bind_some,hb,if_neg (by omega),if_neg (by omega),if_neg (by omega),if_neg (by omega),if_pos hc.1,decide_eq_true hc.2]
  simp only [rV.f];rw [here_in h0.1,Option.bind_some,hb,if_neg (by simp),if_neg (by simp),if_neg (by simp),if_pos rfl]
 ·
  have hb:=at_head ha
  have h1:=word_no s [110,117,108,108] (by omega) (by decide) i h0.1 (by omega) (c:=110) (r:=[117,108,108]) rfl (by omega)
  have h2:=word_no s [102,97,108,115,101] (by omega) (by decide) i h0.1 (by omega) (c:=102) (r:=[97,108,115,101]) rfl (by omega)
  have h3:=word_back s (⟨#[116,114,117,101]⟩:ByteArray) (by omega) (by decide) i ha
  refine Ev.step (f:=fun k=>rV.j0 k true false s i 0 i 0) (fun k=>?_) (Ev.const _ fun k=>?_)
  ·
   simp only [rV.f];rw [here_in h0.1,Option.bind_some,hb,if_neg (by simp),if_neg (by simp),if_neg (by simp),if_neg (by simp),if_pos (by simp)];rfl
  simp only [rV.j0];rw [if_neg (by simp),h1,Option.bind_some,if_neg (by simp),h2,Option.bind_some,if_neg (by simp),h3,Option.bind_some,if_pos rfl];rfl
 ·
  have hb:=at_head ha
  have h1:=word_no s [110,117,108,108] (by omega) (by decide) i h0.1 (by omega) (c:=110) (r:=[117,108,108]) rfl (by omega)
  have h2:=word_back s (⟨#[102,97,108,115,101]⟩:ByteArray) (by omega) (by decide) i ha
  refine Ev.step (f:=fun k=>rV.j0 k true false s i 0 i 0) (fun k=>?_) (Ev.const _ fun k=>?_)
  ·
   simp only [rV.f];rw [here_in h0.1,Option.bind_some,hb,if_neg (by simp),if_neg (by simp),if_neg (by simp),if_neg (by simp),if_pos (by simp)];rfl
  simp only [rV.j0];rw [if_neg (by simp),h1,Option.bind_some,if_neg (by simp),h2,Option.bind_some,if_pos rfl];rfl
 have hb:=at_head ha
 have h1:=word_back s (⟨#[110,117,108,108]⟩:ByteArray) (by omega) (by decide) i ha
 refine Ev.step (f:=fun k=>rV.j0 k true false s i 0 i 0) (fun k=>?_) (Ev.const _ fun k=>?_)
 ·
  simp only [rV.f];rw [here_in h0.1,Option.bind_some,hb,if_neg (by simp),if_neg (by simp),if_neg (by simp),if_neg (by simp),if_pos (by simp)];rfl
 simp only [rV.j0];rw [if_neg (by simp),h1,Option.bind_some,if_pos rfl];rfl
theorem name_back {s:ByteArray} (hn:s.size≤65536) {y:List S155} {x:List S102} {n:List Int} {a b c d e:Int} {p0 p1 p2:Int} {p3:List S155} {p4:List S102} {rn:List S155} {rk:List S102} (hy:y.length≤65536) (hx:x.length≤65536) (ha:At (bytesOf s) a n) (hok:StrOK n) (hw1:Wl (bytesOf s) (a+n.length) b) (hb:At (bytesOf s) b [58]) (hw2:Wl (bytesOf s) (b+1) c) (hc:32<bt s c)
 (hv:Ev (fun k=>rV.f k s c) (p0,p1,p2,p3,p4,true,s,d)) (ht:Ev (fun k=>mTail (y++[⟨a,a+n.length⟩]) (x++[⟨p0,p1,p2,p3,p4⟩]) k s d) (rn,rk,true,s,e)) :
 Ev (fun k=>rM.l0 k y x s a) (rn,rk,true,s,e):=by
 have hq:=quoted_back s (by omega) hok a ha
 have h34:bt s a=34:=by obtain ⟨B,rfl,_⟩:=hok;exact at_head ha
 have h0:=ha.bound.1
 have hbb:32<bt s b:=by rw [at_head hb];decide
 have hnb:=ha.bound
 rw [bytesOf_length] at hnb
 generalize a+(n.length:Int)=z at hq hw1 ht hnb
 have h1:Ev (fun k=>mVal (y++[⟨a,z⟩]) x k s (b+1)) (rn,rk,true,s,e):=by
  unfold mVal
  refine Ev.bind (blanks_wl hn hw2 hc) (Ev.bind hv (Ev.congr (fun k=>?_) ht))
  rw [if_pos (by trivial),if_pos (by omega)]
 have h2:Ev (fun k=>mName (y++[⟨a,z⟩]) x k s z) (rn,rk,true,s,e):=by
  unfold mName
  refine Ev.bind (blanks_wl hn hw1 hbb) (Ev.congr (fun k=>?_) h1)
  rw [take_one hn (by decide) hb,Option.bind_some,if_pos rfl]
 have h3:Ev (fun k=>rM.j1 k y x a false s z) (rn,rk,true,s,e):=Ev.step (fun k=>j1_eq y x a k s z (by omega)) h2
 refine Ev.step (f:=fun k=>(rQ.f k s a).bind fun t=>rM.j1 k y x a (!t.1) t.2.1 t.2.2) (fun k=>?_) (Ev.bind hq h3)
 simp only [rM.l0];rw [here_in h0,Option.bind_some,if_pos h34]
variable {s:ByteArray}
mutual
theorem value_back (hn:s.size≤65536) : ∀ (t:T) (i e:Int),Rd (bytesOf s) t i e→Stp s e → ∃ p:S102,Ev (fun k=>rV.f k s i) (p.f0,p.f1,p.f2,p.f3,p.f4,true,s,e)∧Rep s t p
  | .leaf kd b,i,e,h,hst=>by
    simp only [Rd] at h
    obtain ⟨ha,rfl,hl⟩:=h
    have h0:=ha.bound
    rw [bytesOf_length] at h0
    exact ⟨⟨kd,i,i+b.length,[],[]⟩,value_leaf hn ha hl hst,by simp only [Rep];exact ⟨trivial,h0.1,by omega,h0.2,ha.slice,by trivial,by trivial⟩⟩
  | .arr .nil,i,e,h,hst=>by
    simp only [Rd,RdF] at h
    obtain ⟨h91,a,hw,ha,rfl⟩:=h
    have hi:=at_lt h91
    have hb:32<bt s a:=by rw [at_head ha];decide
    refine ⟨⟨5,i,a+1,[],[]⟩,Ev.step (f:=fun k=>(rE.f k s i).bind fun t=>some (5,i,t.2.2.2,([]:List S155),t.1,t.2.1,t.2.2.1,t.2.2.2)) (fun k=>?_) (Ev.bind (a:=([],true,s,a+1)) (Ev.step (f:=fun k=>(rB.f k s (i+1)).bind fun t=>(rT.f t.1 t.2 93).bind fun t3=>if t3.1=true then some (([]:List S102),true,t3.2.1,t3.2.2) else rE.l0 k [] t3.2.1 t3.2.2) (fun k=>?_) (Ev.bind (blanks_wl hn hw hb) (Ev.congr (fun k=>?_) (Ev.now _)))) (Ev.now _)),by simp only [Rep,RepL];exact ⟨trivial,trivial,trivial⟩⟩
    · simp only [rV.f];rw [here_in hi.1,Option.bind_some,at_head h91,if_neg (by simp),if_pos rfl]
    · simp only [rE.f];rw [wr (by omega) (by omega)]
    · rw [take_one hn (by decide) ha,Option.bind_some,if_pos rfl]
  | .arr (.cons t k),i,e,h,hst=>by
    simp only [Rd,RdF] at h
    obtain ⟨h91,a,c,hw,ht,hk⟩:=h
    have hi:=at_lt h91
    have hh:=ht.head
    obtain ⟨⟨p0,p1,p2,p3,p4⟩,hv,hp⟩:=value_back hn t a c ht hk.stop
    have hc:=(T.sz_le t ht)
    rw [bytesOf_length] at hc
    obtain ⟨ps,he,hps⟩:=els_back hn k [⟨p0,p1,p2,p3,p4⟩] c e hk (by have:=hw.2.1;simp;omega)
    refine ⟨⟨5,i,e,[],⟨p0,p1,p2,p3,p4⟩ :: ps⟩,Ev.step (f:=fun k=>(rE.f k s i).bind fun t=>some (5,i,t.2.2.2,([]:List S155),t.1,t.2.1,t.2.2.1,t.2.2.2)) (fun k=>?_) (Ev.bind (a:=(⟨p0,p1,p2,p3,p4⟩ :: ps,true,s,e)) (Ev.step (f:=fun k=>(rB.f k s (i+1)).bind fun t=>(rT.f t.1 t.2 93).bind fun t3=>if t3.1=true then some (([]:List S102),true,t3.2.1,t3.2.2) else rE.l0 k [] t3.2.1 t3.2.2) (fun k=>?_) (Ev.bind (blanks_wl hn hw hh.2.2.1) (Ev.congr (f:=fun k=>rE.l0 k [] s a) (fun k=>?_) (Ev.step (fun k=>els_l0 [] k s a) (Ev.bind hv (Ev.congr (fun k=>?_) he)))))) (Ev.now _)),by simp only [Rep,RepL];exact ⟨trivial,trivial,_,_,rfl,hp,hps⟩⟩
    · simp only [rV.f];rw [here_in hi.1,Option.bind_some,at_head h91,if_neg (by simp),if_pos rfl]
    · simp only [rE.f];rw [wr (by omega) (by omega)]
    · rw [take_no (by omega) hh.2.2.2.1,Option.bind_some,if_neg (by simp)]
    · rw [if_pos (by trivial),if_pos (by simp)];rfl
  | .obj .nil,i,e,h,hst=>by
    simp only [Rd,RdG] at h
    obtain ⟨h91,a,hw,ha,rfl⟩:=h
    have hi:=at_lt h91
    have hb:32<bt s a:=by rw [at_head ha];decide
    refine ⟨⟨6,i,a+1,[],[]⟩,Ev.step (f:=fun k=>(rM.f k s i).bind fun t=>some (6,i,t.2.2.2.2,t.1,t.2.1,t.2.2.1,t.2.2.2.1,t.2.2.2.2)) (fun k=>?_) (Ev.bind (a:=([],[],true,s,a+1)) (Ev.step (f:=fun k=>(rB.f k s (i+1)).bind fun t=>(rT.f t.1 t.2 125).bind fun t3=>if t3.1=true then some (([]:List S155),([]:List S102),true,t3.2.1,t3.2.2) else rM.l0 k [] [] t3.2.1 t3.2.2) (fun k=>?_) (Ev.bind (blanks_wl hn hw hb) (Ev.congr (fun k=>?_) (Ev.now _)))) (Ev.now _)),by simp only [Rep,RepM];exact ⟨trivial,trivial,trivial⟩⟩
    · simp only [rV.f];rw [here_in hi.1,Option.bind_some,at_head h91,if_pos rfl]
    · simp only [rM.f];rw [wr (by omega) (by omega)]
    · rw [take_one hn (by decide) ha,Option.bind_some,if_pos rfl]
  | .obj (.cons n t m),i,e,h,hst=>by
    simp only [Rd,RdG] at h
    obtain ⟨h123,a,b,c,d,hw,hna,hok,hw1,hb,hw2,ht,hm⟩:=h
    have hi:=at_lt h123
    have hh:=ht.head
    have h34:bt s a=34:=by obtain ⟨B,rfl,_⟩:=hok;exact at_head hna
    obtain ⟨⟨p0,p1,p2,p3,p4⟩,hv,hp⟩:=value_back hn t c d ht hm.stop
    have hsz:=T.sz_le t ht
    have hnb:=hna.bound
    rw [bytesOf_length] at hsz hnb
    have o1:=hw.2.1
    have o2:=hw1.2.1
    have o3:=hw2.2.1
    obtain ⟨ns,ps,he,hps⟩:=mem_back hn m [⟨a,a+n.length⟩] [⟨p0,p1,p2,p3,p4⟩] d e hm (by simp;omega) (by simp;omega)
    refine ⟨⟨6,i,e,⟨a,a+n.length⟩ :: ns,⟨p0,p1,p2,p3,p4⟩ :: ps⟩,Ev.step (f:=fun k=>(rM.f k s i).bind fun t=>some (6,i,t.2.2.2.2,t.1,t.2.1,t.2.2.1,t.2.2.2.1,t.2.2.2.2)) (fun k=>?_) (Ev.bind (a:=(⟨a,a+n.length⟩ :: ns,⟨p0,p1,p2,p3,p4⟩ :: ps,true,s,e)) (Ev.step (f:=fun k=>(rB.f k s (i+1)).bind fun t=>(rT.f t.1 t.2 125).bind fun t3=>if t3.1=true then some (([]:List S155),([]:List S102),true,t3.2.1,t3.2.2) else rM.l0 k [] [] t3.2.1 t3.2.2) (fun k=>?_) (Ev.bind (blanks_wl hn hw (by rw [h34];decide)) (Ev.congr (f:=fun k=>rM.l0 k [] [] s a) (fun k=>?_) (name_back hn (by simp) (by simp) hna hok hw1 hb hw2 hh.2.2.1 hv he)))) (Ev.now _)),by simp only [Rep,RepM];exact ⟨trivial,_,_,_,_,rfl,rfl,hnb.1,by simp only [];omega,hnb.2,hna.slice,hp,hps⟩⟩
    · simp only [rV.f];rw [here_in hi.1,Option.bind_some,at_head h123,if_pos rfl]
    · simp only [rM.f];rw [wr (by omega) (by omega)]
    · rw [take_no hnb.1 (by rw [h34];decide),Option.bind_some,if_neg (by simp)]
theorem els_back (hn:s.size≤65536) : ∀ (k:TL) (x:List S102) (c e:Int),RdT (bytesOf s) k c e→(x.length:Int)≤c → ∃ ps,Ev (fun j=>eTail x j s c) (x++ps,true,s,e)∧RepL s k ps
  | .nil,x,c,e,h,hx=>by
    simp only [RdT] at h
    obtain ⟨a,hw,ha,rfl⟩:=h
    refine ⟨[],?_,by simp only [RepL]⟩
    rw [List.append_nil]
    refine Ev.bind (blanks_wl hn hw (by rw [at_head ha];decide)) (Ev.congr (fun k=>?_) (Ev.now _))
    rw [take_one hn (by decide) ha,Option.bind_some,if_pos rfl]
  | .cons t k,x,c,e,h,hx=>by
    simp only [RdT] at h
    obtain ⟨a,b,d,hw,ha,hw2,ht,hk⟩:=h
    have hh:=ht.head
    obtain ⟨⟨p0,p1,p2,p3,p4⟩,hv,hp⟩:=value_back hn t b d ht hk.stop
    have hsz:=T.sz_le t ht
    rw [bytesOf_length] at hsz
    have o1:=hw.2.1
    have o2:=hw2.2.1
    obtain ⟨ps,he,hps⟩:=els_back hn k (x++[⟨p0,p1,p2,p3,p4⟩]) d e hk (by simp;omega)
    refine ⟨⟨p0,p1,p2,p3,p4⟩ :: ps,?_,by simp only [RepL];exact ⟨_,_,rfl,hp,hps⟩⟩
    rw [List.append_assoc] at he
    have ha1:=at_lt ha
    refine Ev.bind (blanks_wl hn hw (by rw [at_head ha];decide)) (Ev.congr (f:=fun j=>(rB.f j s (a+1)).bind fun t5=>rE.l0 j x t5.1 t5.2) (fun k=>?_) (Ev.bind (blanks_wl hn hw2 hh.2.2.1) (Ev.step (fun k=>els_l0 x k s b) (Ev.bind hv (Ev.congr (fun k=>?_) he)))))
    · rw [take_no ha1.1 (by rw [at_head ha];decide),Option.bind_some,if_neg (by simp),take_one hn (by decide) ha,Option.bind_some,if_pos rfl]
    · rw [if_pos (by trivial),if_pos (by omega)]
theorem mem_back (hn:s.size≤65536) : ∀ (m:TM) (y:List S155) (x:List S102) (c e:Int),RdM (bytesOf s) m c e→(x.length:Int)≤c→(y.length:Int)≤c → ∃ ns ps,Ev (fun j=>mTail y x j s c) (y++ns,x++ps,true,s,e)∧RepM s m ns ps
  | .nil,y,x,c,e,h,hx,hy=>by
    simp only [RdM] at h
    obtain ⟨a,hw,ha,rfl⟩:=h
    refine ⟨[],[],?_,by simp only [RepM];exact ⟨trivial,trivial⟩⟩
    rw [List.append_nil,List.append_nil]
    refine Ev.bind (blanks_wl hn hw (by rw [at_head ha];decide)) (Ev.congr (fun k=>?_) (Ev.now _))
    rw [take_one hn (by decide) ha,Option.bind_some,if_pos rfl]
  | .cons n t m,y,x,c,e,h,hx,hy=>by
    simp only [RdM] at h
    obtain ⟨z,a,b,c2,d,hw0,hz,hw,hna,hok,hw1,hb,hw2,ht,hm⟩:=h
    have hh:=ht.head
    have h34:bt s a=34:=by obtain ⟨B,rfl,_⟩:=hok;exact at_head hna
    obtain ⟨⟨p0,p1,p2,p3,p4⟩,hv,hp⟩:=value_back hn t c2 d ht hm.stop
    have hsz:=T.sz_le t ht
    have hnb:=hna.bound
    rw [bytesOf_length] at hsz hnb
    have o0:=hw0.2.1
    have o1:=hw.2.1
    have o2:=hw1.2.1
    have o3:=hw2.2.1
    obtain ⟨ns,ps,he,hps⟩:=mem_back hn m (y++[⟨a,a+n.length⟩]) (x++[⟨p0,p1,p2,p3,p4⟩]) d e hm (by simp;omega) (by simp;omega)
    refine ⟨⟨a,a+n.length⟩ :: ns,⟨p0,p1,p2,p3,p4⟩ :: ps,?_,by simp only [RepM];exact ⟨_,_,_,_,rfl,rfl,hnb.1,by simp only [];omega,hnb.2,hna.slice,hp,hps⟩⟩
    have hz1:=at_lt hz
    rw [List.append_assoc,List.append_assoc] at he
    refine Ev.bind (blanks_wl hn hw0 (by rw [at_head hz];decide)) (Ev.congr (f:=fun j=>(rB.f j s (z+1)).bind fun t5=>rM.l0 j y x t5.1 t5.2) (fun k=>?_) (Ev.bind (blanks_wl hn hw (by rw [h34];decide)) (name_back hn (by omega) (by omega) hna hok hw1 hb hw2 hh.2.2.1 hv he)))
    rw [take_no hz1.1 (by rw [at_head hz];decide),Option.bind_some,if_neg (by simp),take_one hn (by decide) hz,Option.bind_some,if_pos rfl]
end
theorem Rd.pos {s:ByteArray} {t:T} {i e:Int} (h:Rd (bytesOf s) t i e):i<e:=by
 cases t with
 | leaf kd b =>
  simp only [Rd] at h
  obtain ⟨_,rfl,hl⟩:=h
  have:0<b.length:=by
   rcases hl with ⟨_,B,rfl,_⟩|⟨_,_,⟨c,r,rfl,_⟩,_⟩|⟨_,rfl⟩|⟨_,rfl⟩|⟨_,rfl⟩ <;> simp
  omega
 | arr k=>simp only [Rd] at h;have:=TL.szF_le k h.2;omega
 | obj m=>simp only [Rd] at h;have:=TM.szF_le m h.2;omega
theorem places_back (hn:s.size≤65536) {t:T} (h:Rd (bytesOf s) t 0 s.size) : ∃ p,Ev (fun k=>places k s) (p,true)∧Rep s t p:=by
 have hs:Stp s s.size:=stp_of (by rw [bt_out (Int.le_refl _)];simp)
 obtain ⟨⟨p0,p1,p2,p3,p4⟩,hv,hp⟩:=value_back hn t 0 s.size h hs
 have hh:=h.head
 have w0:Wl (bytesOf s) 0 0:=Wl.refl (Int.le_refl _) (by omega)
 have hb2:=blanks_back s (by omega) s.size s.size (by omega) (Ws.refl _ _) (Int.le_refl _) (by rw [bt_out (Int.le_refl _)];unfold blank;omega)
 refine ⟨⟨p0,p1,p2,p3,p4⟩,Ev.bind (blanks_wl hn w0 hh.2.2.1) (Ev.bind hv (Ev.congr (fun k=>by rw [if_pos (by trivial)]) (Ev.bind hb2 (Ev.congr (fun k=>?_) (Ev.now _))))),hp⟩
 rw [if_pos rfl]
end Go.Proofs.YtnejkimpkaopoaaGreatDoor.U

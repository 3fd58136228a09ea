/- UTF8 and Paired end; a text that is Paired has strings with characters. -/
import Derived.Test.YtnejkimpkaopoaaGreatDoorJb
import Derived.Test.YtnejkimpkaopoaaGreatDoorQ8
import Derived.Test.YtnejkimpkaopoaaGreatDoorJ8
import Derived.Test.YtnejkimpkaopoaaGreatDoorHh
import Derived.Test.YtnejkimpkaopoaaGreatDoorQ15
import Derived.Test.YtnejkimpkaopoaaGreatDoorHc
section
namespace Go.Proofs.YtnejkimpkaopoaaGreatDoor.U
open RowKit YtnejkimpkaopoaaGreatDoorW.PrintWords YtnejkimpkaopoaaGreatDoor.Q
set_option linter.unusedVariables false
set_option linter.unusedSimpArgs false
theorem high_ev (c:Int) : ∃ b,spec_high.f c=some b:=by unfold spec_high.f;split <;> exact ⟨_,rfl⟩
theorem low_ev (c:Int) : ∃ b,spec_low.f c=some b:=by unfold spec_low.f;split <;> exact ⟨_,rfl⟩
def ChR (g:Nat→Option (Int × Int × Bool)):Prop := ∃ v n ok,Ev g (v,n,ok)∧1≤n∧n≤4
theorem ChR.step {g f:Nat→Option (Int × Int × Bool)} (h : ∀ k,g (k+1)=f k) (k:ChR f):ChR g:=by
 obtain ⟨v,n,ok,he,hb⟩:=k;exact ⟨v,n,ok,Ev.step h he,hb⟩
theorem ChR.congr {g f:Nat→Option (Int × Int × Bool)} (h : ∀ k,g k=f k) (k:ChR f):ChR g:=by
 obtain ⟨v,n,ok,he,hb⟩:=k;exact ⟨v,n,ok,Ev.congr h he,hb⟩
theorem ChR.bad {g:Nat→Option (Int × Int × Bool)} (h : ∀ k,g (k+1)=some (65533,1,false)):ChR g:=⟨_,_,_,Ev.const _ h,by omega,by omega⟩
variable {s:ByteArray}
theorem char_l0 (hs:s.size≤65536) {i more least:Int} (h0:0≤i) (hm:0≤more∧more≤3) (hlt:more<s.size - i) (d:Nat) : ∀ x c:Int,1≤x→more+1 - x=d→ChR (fun k=>sC.l0 k s i c more least x):=by
 induction d with
 | zero =>
  intro x c hx hd
  have e1 : ∀ k,sC.l0 (k+1) s i c more least x=if c<least then some (65533,1,false) else if c>1114111 then some (65533,1,false) else ((spec_high.f c).bind fun t=>if t=true then some (65533,1,false) else ((spec_low.f c).bind fun t2=>if t2=true then some (65533,1,false) else some (c,more+1,true))):=fun k=>by
   simp only [sC.l0]
   rw [if_neg (by omega),wr (i:=more+1) (by omega) (by omega)]
  obtain ⟨b1,hb1⟩:=high_ev c
  obtain ⟨b2,hb2⟩:=low_ev c
  by_cases c1:c<least
  ·
   exact ChR.bad fun k=>by rw [e1,if_pos c1]
  by_cases c2:c>1114111
  ·
   exact ChR.bad fun k=>by rw [e1,if_neg c1,if_pos c2]
  cases b1 with
  | true=>exact ChR.bad fun k=>by rw [e1,if_neg c1,if_neg c2,hb1,Option.bind_some,if_pos rfl]
  | false =>
   cases b2 with
   | true=>exact ChR.bad fun k=>by rw [e1,if_neg c1,if_neg c2,hb1,Option.bind_some,if_neg (by simp),hb2,Option.bind_some,if_pos rfl]
   | false=>exact ⟨_,_,_,Ev.const _ fun k=>by rw [e1,if_neg c1,if_neg c2,hb1,Option.bind_some,if_neg (by simp),hb2,Option.bind_some,if_neg (by simp)],by omega,by omega⟩
 | succ d ih =>
  intro x c hx hd
  have e1 : ∀ k,sC.l0 (k+1) s i c more least x=if (wrap64 (bt s (i+x)))<128 then some (65533,1,false) else if (wrap64 (bt s (i+x)))>191 then some (65533,1,false) else sC.l0 k s i (wrap64 ((wrap64 ((wrap64 (c*64))+(wrap64 (bt s (i+x))))) - 128)) more least (x+1):=fun k=>by
   simp only [sC.l0]
   rw [if_pos (by omega),wr (i:=i+x) (by omega) (by omega),if_pos (by omega),if_pos (by omega),wr (i:=x+1) (by omega) (by omega)]
  by_cases c1:wrap64 (bt s (i+x))<128
  ·
   exact ChR.bad fun k=>by rw [e1,if_pos c1]
  by_cases c2:wrap64 (bt s (i+x))>191
  ·
   exact ChR.bad fun k=>by rw [e1,if_neg c1,if_pos c2]
  exact ChR.step (fun k=>by rw [e1,if_neg c1,if_neg c2]) (ih (x+1) (wrap64 ((wrap64 ((wrap64 (c*64))+(wrap64 (bt s (i+x))))) - 128)) (by omega) (by omega))
theorem char_j2 (hs:s.size≤65536) {i more least c:Int} (h0:0≤i) (hi:i<s.size) (hm:1≤more∧more≤3):ChR (fun k=>sC.j2 k s i c more least):=by
 by_cases h:(s.size:Int) - i≤more
 ·
  exact ChR.bad fun k=>by simp only [sC.j2];rw [wr (by omega) (by omega),if_pos h]
 refine ChR.step (fun k=>?_) (char_l0 (least:=least) hs h0 ⟨by omega,hm.2⟩ (by omega) (more.toNat) 1 c (by omega) (by omega))
 show sC.j2 (k+1) s i c more least=_
 simp only [sC.j2];rw [wr (by omega) (by omega),if_neg h]
theorem char_ev (hs:s.size≤65536) {i:Int} (h0:0≤i) (hi:i<s.size):ChR (fun k=>sC.f k s i):=by
 have hj1 : ∀ b:Bool,ChR (fun k=>sC.j1 k s i (wrap64 (bt s i)) b):=fun b=>by
  cases b with
  | true=>exact ChR.step (fun k=>by simp only [sC.j1];rw [if_pos (by trivial)]) (char_j2 (more:=2) (least:=2048) (c:=wrap64 (wrap64 (bt s i) - 224)) hs h0 hi (by omega))
  | false =>
   by_cases c1:240≤wrap64 (bt s i)
   rotate_left
   ·
    exact ChR.bad fun k=>by simp only [sC.j1];rw [if_neg (by simp),if_neg c1]
   by_cases c2:wrap64 (bt s i)≤244
   ·
    exact ChR.step (fun k=>by simp only [sC.j1];rw [if_neg (by simp),if_pos c1,if_pos c2]) (char_j2 (more:=3) (least:=65536) (c:=wrap64 (wrap64 (bt s i) - 240)) hs h0 hi (by omega))
   exact ChR.bad fun k=>by simp only [sC.j1];rw [if_neg (by simp),if_pos c1,if_neg c2]
 have hj0 : ∀ b:Bool,ChR (fun k=>sC.j0 k s i (wrap64 (bt s i)) b):=fun b=>by
  cases b with
  | true=>exact ChR.step (fun k=>by simp only [sC.j0];rw [if_pos (by trivial)]) (char_j2 (more:=1) (least:=128) (c:=wrap64 (wrap64 (bt s i) - 192)) hs h0 hi (by omega))
  | false =>
   by_cases c1:224≤wrap64 (bt s i)
   ·
    exact ChR.step (fun k=>by simp only [sC.j0];rw [if_neg (by simp),if_pos c1]) (hj1 _)
   exact ChR.step (fun k=>by simp only [sC.j0];rw [if_neg (by simp),if_neg c1]) (hj1 _)
 by_cases c1:wrap64 (bt s i)<128
 ·
  exact ⟨_,1,true,Ev.const _ fun k=>by unfold sC.f;rw [if_pos h0,if_pos hi,if_pos c1],by omega,by omega⟩
 by_cases c2:194≤wrap64 (bt s i)
 ·
  exact ChR.congr (fun k=>by unfold sC.f;rw [if_pos h0,if_pos hi,if_neg c1,if_pos c2]) (hj0 _)
 exact ChR.congr (fun k=>by unfold sC.f;rw [if_pos h0,if_pos hi,if_neg c1,if_neg c2]) (hj0 _)
theorem utf8_ev (hs:s.size≤65536) : ∃ b,Ev (fun k=>spec_UTF8.f k s) b:=by
 have main : ∀ (d:Nat) (i:Int),0≤i→i≤s.size+4→(s.size:Int) - i≤d → ∃ b,Ev (fun k=>spec_UTF8.l0 k s i) b:=by
  intro d
  induction d with
  | zero =>
   intro i h0 h1 hd
   exact ⟨true,Ev.const _ fun k=>by simp only [spec_UTF8.l0];rw [if_neg (by omega)]⟩
  | succ d ih =>
   intro i h0 h1 hd
   by_cases hi:i<(s.size:Int)
   rotate_left
   ·
    exact ⟨true,Ev.const _ fun k=>by simp only [spec_UTF8.l0];rw [if_neg hi]⟩
   obtain ⟨v,n,ok,he,hn1,hn2⟩:=char_ev hs h0 hi
   cases ok with
   | false =>
    refine ⟨false,Ev.step (f:=fun k=>(sC.f k s i).bind fun t=>if t.2.2=true then spec_UTF8.l0 k s (wrap64 (i+t.2.1)) else some false) (fun k=>?_) (Ev.bind he (Ev.congr (fun k=>by rw [if_neg (by simp)]) (Ev.now _)))⟩
    simp only [spec_UTF8.l0];rw [if_pos hi]
   | true =>
    obtain ⟨b,hb⟩:=ih (i+n) (by omega) (by omega) (by omega)
    refine ⟨b,Ev.step (f:=fun k=>(sC.f k s i).bind fun t=>if t.2.2=true then spec_UTF8.l0 k s (wrap64 (i+t.2.1)) else some false) (fun k=>?_) (Ev.bind he (Ev.congr (fun k=>by rw [if_pos (by trivial)];show spec_UTF8.l0 k s (wrap64 (i+n))=_;rw [wr (by omega) (by omega)]) hb))⟩
    simp only [spec_UTF8.l0];rw [if_pos hi]
 obtain ⟨b,hb⟩:=main s.size 0 (by omega) (by omega) (by omega)
 exact ⟨b,Ev.congr (fun k=>by unfold spec_UTF8.f;rfl) hb⟩
/-! ### Paired -/
theorem Ev.unique {α:Type} {g:Nat→Option α} {r r':α} (h:Ev g r) (k:Ev g r'):r=r':=by
 obtain ⟨K,hK⟩:=h
 obtain ⟨L,hL⟩:=k
 have h1:=hK (max K L) (by omega)
 rw [hL (max K L) (by omega)] at h1
 exact (Option.some.inj h1).symm
theorem Ev.unstep {α:Type} {g f:Nat→Option α} {r:α} {K:Nat} (h : ∀ k,K≤k→g (k+1)=f k) (k:Ev g r):Ev f r:=by
 obtain ⟨L,hL⟩:=k
 exact ⟨max K L,fun k hk=>by rw [← h k (by omega)];exact hL (k+1) (by omega)⟩
theorem unit_ev (hs:s.size≤65536) {i:Int} (h0:0≤i) (hi:i≤s.size) : ∃ n ok,Ev (fun k=>sN.f k s i) (n,ok):=by
 obtain ⟨n,ok,h⟩:=unit_any (s:=s) (by omega) (i:=i.toNat) (by omega) 0
 rw [show ((i.toNat:Nat):Int)=i by omega] at h
 exact ⟨n,ok,Ev.of (fun k=>sN.mono s i k) h⟩
theorem unit_no (hs:s.size≤65536) {i:Int} (h0:0≤i) (hi:i≤s.size) (h92:bt s i≠92):Ev (fun k=>sN.f k s i) (0,false):=by
 refine Ev.congr (f:=fun k=>sN.j0 k s i true) (fun k=>?_) (Ev.const _ fun k=>by simp only [sN.j0];rw [if_pos (by trivial)])
 unfold sN.f
 rw [wr (i:=(s.size:Int) - i) (by omega) (by omega)]
 by_cases h6:(s.size:Int) - i<6
 ·
  rw [if_pos h6]
 rw [if_neg h6,if_pos h0,if_pos (by omega),if_neg h92]
theorem unit_six (hs:s.size≤65536) {i n:Int} (h0:0≤i) (hi:i≤s.size) (h:Ev (fun k=>sN.f k s i) (n,true)):i+6≤s.size:=by
 apply Int.le_of_not_gt
 intro hh
 have h2:Ev (fun k=>sN.f k s i) (0,false):=by
  refine Ev.congr (f:=fun k=>sN.j0 k s i true) (fun k=>?_) (Ev.const _ fun k=>by simp only [sN.j0];rw [if_pos (by trivial)])
  unfold sN.f
  rw [wr (i:=(s.size:Int) - i) (by omega) (by omega),if_pos (by omega)]
 have:=Ev.unique h h2
 simp at this
theorem paired_ev (hs:s.size≤65536) : ∀ (d:Nat) (i:Int),0≤i→i≤s.size+20→(s.size:Int) - i≤d → ∃ b,Ev (fun k=>sD.l0 k s i) b:=by
 intro d
 induction d with
 | zero =>
  intro i h0 h1 hd
  exact ⟨true,Ev.const _ fun k=>by simp only [sD.l0];rw [if_neg (by omega)]⟩
 | succ d ih =>
  intro i h0 h1 hd
  by_cases hi:i<(s.size:Int)
  rotate_left
  ·
   exact ⟨true,Ev.const _ fun k=>by simp only [sD.l0];rw [if_neg hi]⟩
  by_cases h92:bt s i=92
  ·
   have e1 : ∀ k,sD.l0 (k+1) s i=(sN.f k s i).bind fun t=>if t.2=true then ((spec_high.f t.1).bind fun t1=>if t1=true then ((sN.f k s (i+6)).bind fun t2=>if t2.2=true then ((spec_low.f t2.1).bind fun t3=>if t3=true then sD.l0 k s (i+12) else some false) else some false) else ((spec_low.f t.1).bind fun t4=>if t4=true then some false else sD.l0 k s (i+6))) else sD.l0 k s (i+2):=fun k=>by
    simp only [sD.l0]
    rw [if_pos hi,if_pos h0,if_pos h92,wr (i:=i+6) (by omega) (by omega),wr (i:=i+12) (by omega) (by omega),wr (i:=i+2) (by omega) (by omega)]
   obtain ⟨n,ok,hu⟩:=unit_ev hs h0 (by omega)
   cases ok with
   | false =>
    obtain ⟨b,hb⟩:=ih (i+2) (by omega) (by omega) (by omega)
    exact ⟨b,Ev.step e1 (Ev.bind hu (Ev.congr (fun k=>by rw [if_neg (by simp)]) hb))⟩
   | true =>
    have h6:=unit_six hs h0 (by omega) hu
    obtain ⟨b1,hb1⟩:=high_ev n
    cases b1 with
    | true =>
     obtain ⟨m,ok2,hu2⟩:=unit_ev (s:=s) hs (i:=i+6) (by omega) h6
     cases ok2 with
     | false =>
      exact ⟨false,Ev.step e1 (Ev.bind hu (Ev.congr (f:=fun k=>(sN.f k s (i+6)).bind fun t2=>if t2.2=true then ((spec_low.f t2.1).bind fun t3=>if t3=true then sD.l0 k s (i+12) else some false) else some false) (fun k=>by rw [if_pos (by trivial),hb1,Option.bind_some,if_pos rfl]) (Ev.bind hu2 (Ev.congr (fun k=>by rw [if_neg (by simp)]) (Ev.now _)))))⟩
     | true =>
      have h12:=unit_six hs (by omega) h6 hu2
      obtain ⟨b2,hb2⟩:=low_ev m
      obtain ⟨b,hb⟩:=ih (i+12) (by omega) (by omega) (by omega)
      cases b2 with
      | true=>exact ⟨b,Ev.step e1 (Ev.bind hu (Ev.congr (f:=fun k=>(sN.f k s (i+6)).bind fun t2=>if t2.2=true then ((spec_low.f t2.1).bind fun t3=>if t3=true then sD.l0 k s (i+12) else some false) else some false) (fun k=>by rw [if_pos (by trivial),hb1,Option.bind_some,if_pos rfl]) (Ev.bind hu2 (Ev.congr (fun k=>by rw [if_pos (by trivial),hb2,Option.bind_some,if_pos rfl]) hb))))⟩
      | false=>exact ⟨false,Ev.step e1 (Ev.bind hu (Ev.congr (f:=fun k=>(sN.f k s (i+6)).bind fun t2=>if t2.2=true then ((spec_low.f t2.1).bind fun t3=>if t3=true then sD.l0 k s (i+12) else some false) else some false) (fun k=>by rw [if_pos (by trivial),hb1,Option.bind_some,if_pos rfl]) (Ev.bind hu2 (Ev.congr (fun k=>by rw [if_pos (by trivial),hb2,Option.bind_some,if_neg (by simp)]) (Ev.now _)))))⟩
    | false =>
     obtain ⟨b2,hb2⟩:=low_ev n
     obtain ⟨b,hb⟩:=ih (i+6) (by omega) (by omega) (by omega)
     cases b2 with
     | true=>exact ⟨false,Ev.step e1 (Ev.bind hu (Ev.congr (fun k=>by rw [if_pos (by trivial),hb1,Option.bind_some,if_neg (by simp),hb2,Option.bind_some,if_pos rfl]) (Ev.now _)))⟩
     | false=>exact ⟨b,Ev.step e1 (Ev.bind hu (Ev.congr (fun k=>by rw [if_pos (by trivial),hb1,Option.bind_some,if_neg (by simp),hb2,Option.bind_some,if_neg (by simp)]) hb))⟩
  obtain ⟨b,hb⟩:=ih (i+1) (by omega) (by omega) (by omega)
  refine ⟨b,Ev.step (fun k=>?_) hb⟩
  simp only [sD.l0];rw [if_pos hi,if_pos h0,if_neg h92,wr (by omega) (by omega)]
def PFr (s:ByteArray) (i:Int):Prop:=Ev (fun k=>sD.l0 k s i) true
theorem pf_one (hs:s.size≤65536) {i:Int} (h0:0≤i) (hi:i<s.size) (h92:bt s i≠92) (h:PFr s i):PFr s (i+1) :=
  Ev.unstep (K:=0) (fun k _=>by simp only [sD.l0];rw [if_pos hi,if_pos h0,if_neg h92,wr (by omega) (by omega)]) h
theorem pf_range (hs:s.size≤65536) (d:Nat) : ∀ i e:Int,0≤i→e - i=d→e≤s.size→(∀ q,i≤q→q<e→bt s q≠92)→PFr s i→PFr s e:=by
 induction d with
 | zero=>intro i e h0 hd he hq h;rwa [show e=i by omega]
 | succ d ih=>intro i e h0 hd he hq h;exact ih (i+1) e (by omega) (by omega) he (fun q h1 h2=>hq q (by omega) h2) (pf_one hs h0 (by omega) (hq i (Int.le_refl _) (by omega)) h)
theorem pf_unit (hs:s.size≤65536) {i n:Int} {ok:Bool} (h0:0≤i) (hi:i<s.size) (h92:bt s i=92) (hu:Ev (fun k=>sN.f k s i) (n,ok)) (h:PFr s i) :
 (ok=false∧PFr s (i+2))∨(ok=true∧spec_high.f n=some false∧spec_low.f n=some false∧PFr s (i+6))∨(ok=true∧spec_high.f n=some true ∧ ∃ m,Ev (fun k=>sN.f k s (i+6)) (m,true)∧spec_low.f m=some true∧PFr s (i+12)):=by
 have e1 : ∀ k,sD.l0 (k+1) s i=(sN.f k s i).bind fun t=>if t.2=true then ((spec_high.f t.1).bind fun t1=>if t1=true then ((sN.f k s (i+6)).bind fun t2=>if t2.2=true then ((spec_low.f t2.1).bind fun t3=>if t3=true then sD.l0 k s (i+12) else some false) else some false) else ((spec_low.f t.1).bind fun t4=>if t4=true then some false else sD.l0 k s (i+6))) else sD.l0 k s (i+2):=fun k=>by
  simp only [sD.l0]
  rw [if_pos hi,if_pos h0,if_pos h92,wr (i:=i+6) (by omega) (by omega),wr (i:=i+12) (by omega) (by omega),wr (i:=i+2) (by omega) (by omega)]
 obtain ⟨K,hK⟩:=id hu
 have hK : ∀ k,K≤k→sN.f k s i=some (n,ok):=hK
 have hf : ∀ {g:Nat→Option Bool}, (∀ k,sD.l0 (k+1) s i=g k)→Ev g false→False:=fun hg hh=>by
  have:=Ev.unique h (Ev.step hg hh);cases this
 cases ok with
 | false=>exact .inl ⟨rfl,Ev.unstep (K:=K) (fun k hk=>by rw [e1,hK k hk,Option.bind_some,if_neg (by simp)]) h⟩
 | true =>
  have h6:=unit_six hs h0 (by omega) hu
  obtain ⟨b1,hb1⟩:=high_ev n
  cases b1 with
  | false =>
   obtain ⟨b2,hb2⟩:=low_ev n
   cases b2 with
   | true=>exact (hf e1 (Ev.bind hu (Ev.congr (fun k=>by rw [if_pos (by trivial),hb1,Option.bind_some,if_neg (by simp),hb2,Option.bind_some,if_pos rfl]) (Ev.now _)))).elim
   | false=>exact .inr (.inl ⟨rfl,hb1,hb2,Ev.unstep (K:=K) (fun k hk=>by rw [e1,hK k hk,Option.bind_some,if_pos (by trivial),hb1,Option.bind_some,if_neg (by simp),hb2,Option.bind_some,if_neg (by simp)]) h⟩)
  | true =>
   obtain ⟨m,ok2,hu2⟩:=unit_ev (s:=s) hs (i:=i+6) (by omega) h6
   obtain ⟨L,hL⟩:=id hu2
   have hL : ∀ k,L≤k→sN.f k s (i+6)=some (m,ok2):=hL
   have e2 : ∀ k,max K L≤k→sD.l0 (k+1) s i=if ok2=true then ((spec_low.f m).bind fun t3=>if t3=true then sD.l0 k s (i+12) else some false) else some false:=fun k hk=>by
    rw [e1,hK k (by omega),Option.bind_some,if_pos (by trivial),hb1,Option.bind_some,if_pos rfl,hL k (by omega),Option.bind_some]
   have hf2 : ¬ (∀ k,max K L≤k→sD.l0 (k+1) s i=some false):=fun hh=>by
    obtain ⟨M,hM⟩:=id h
    have h3:sD.l0 (max (max K L) M+1) s i=some true:=hM (max (max K L) M+1) (by omega)
    rw [hh _ (by omega)] at h3
    cases h3
   cases ok2 with
   | false=>exact (hf2 fun k hk=>by rw [e2 k hk,if_neg (by simp)]).elim
   | true =>
    obtain ⟨b2,hb2⟩:=low_ev m
    cases b2 with
    | false=>exact (hf2 fun k hk=>by rw [e2 k hk,if_pos rfl,hb2,Option.bind_some,if_neg (by simp)]).elim
    | true=>exact .inr (.inr ⟨rfl,hb1,m,hu2,hb2,Ev.unstep (K:=max K L) (fun k hk=>by rw [e2 k hk,if_pos rfl,hb2,Option.bind_some,if_pos rfl]) h⟩)
theorem simple_short {x:Int} (h:simple x) : ∃ y,Short x y:=by
 rcases h with h|h|h|h|h|h|h|h <;> subst h
 ·
  exact ⟨_, .quote⟩
 ·
  exact ⟨_, .back⟩
 ·
  exact ⟨_, .slash⟩
 ·
  exact ⟨_, .b⟩
 ·
  exact ⟨_, .f⟩
 ·
  exact ⟨_, .n⟩
 ·
  exact ⟨_, .r⟩
 exact ⟨_, .t⟩
theorem unit_of_hex (hs:s.size≤65536) {i:Int} {a b c d:Int} {r:List Int} (h:At (bytesOf s) i (92 :: 117 :: a :: b :: c :: d :: r)) (xa:hexB a) (xb:hexB b) (xc:hexB c) (xd:hexB d):Ev (fun k=>sN.f k s i) (hex4 a b c d,true):=by
 obtain ⟨-, -, -, a1⟩:=id h
 obtain ⟨-, -, -, a2⟩:=id a1
 obtain ⟨-, -, -, a3⟩:=id a2
 obtain ⟨-, -, -, a4⟩:=id a3
 obtain ⟨-, -, -, a5⟩:=id a4
 have h0:=at_lt h
 have h5:=at_lt a5
 have k0:=at_head h;have k1:=at_head a1;have k2:=at_head a2;have k3:=at_head a3;have k4:=at_head a4;have k5:=at_head a5
 have hx:=fun k=>unit_hex (s:=s) (by omega) (i:=i.toNat) (a:=a) (b:=b) (c:=c) (d:=d) (by omega) (by rw [show ((i.toNat:Nat):Int)=i by omega];exact k0) (by rw [show ((i.toNat+1:Nat):Int)=i+1 by omega];exact k1) (by rw [show ((i.toNat+2:Nat):Int)=i+1+1 by omega];exact k2) (by rw [show ((i.toNat+3:Nat):Int)=i+1+1+1 by omega];exact k3) (by rw [show ((i.toNat+4:Nat):Int)=i+1+1+1+1 by omega];exact k4) (by rw [show ((i.toNat+5:Nat):Int)=i+1+1+1+1+1 by omega];exact k5) xa xb xc xd k
 rw [show ((i.toNat:Nat):Int)=i by omega] at hx
 exact Ev.of (fun k=>sN.mono s i k) (hx 0)
theorem unit_of_esc (hs:s.size≤65536) {i x:Int} {r:List Int} (h:At (bytesOf s) i (92 :: x :: r)) (hx:x≠117):Ev (fun k=>sN.f k s i) (0,false):=by
 have h0:=at_lt h
 have a1:=h.2.2.2
 have h1:=at_lt a1
 have hu:=unit_esc (s:=s) (by omega) (i:=i.toNat) (by omega) (by rw [show ((i.toNat:Nat):Int)=i by omega];exact at_head h) (by rw [show ((i.toNat+1:Nat):Int)=i+1 by omega,at_head a1];exact hx) 0
 rw [show ((i.toNat:Nat):Int)=i by omega] at hu
 exact Ev.of (fun k=>sN.mono s i k) hu
theorem high_val {n:Int} {b:Bool} (h:spec_high.f n=some b):b=decide (55296≤n∧n≤56319):=by
 unfold spec_high.f at h
 split at h
 ·
  rename_i c;rw [← Option.some.inj h];congr 1;simp [c]
 rename_i c;rw [← Option.some.inj h];simp [c]
theorem low_val {n:Int} {b:Bool} (h:spec_low.f n=some b):b=decide (56320≤n∧n≤57343):=by
 unfold spec_low.f at h
 split at h
 ·
  rename_i c;rw [← Option.some.inj h];congr 1;simp [c]
 rename_i c;rw [← Option.some.inj h];simp [c]
theorem pf_str (hs:s.size≤65536) (N:Nat) : ∀ (B:List Int),B.length≤N→SB B → ∀ i:Int,At (bytesOf s) i (B++[34])→PFr s i→(∃ O,Uq B O)∧PFr s (i+B.length):=by
 induction N with
 | zero =>
  intro B hN hB i ha h
  obtain rfl:B=[]:=List.length_eq_zero_iff.1 (by omega)
  exact ⟨⟨[], .nil⟩,by simpa using h⟩
 | succ N ih =>
  intro B hN hB i ha h
  cases hB with
  | nil=>exact ⟨⟨[], .nil⟩,by simpa using h⟩
  | @plain c r h1 h2 h3 h4 hr =>
   have h0:=at_lt ha
   obtain ⟨⟨O,hO⟩,hp⟩:=ih r (by simpa using hN) hr (i+1) ha.2.2.2 (pf_one hs h0.1 h0.2 (by rw [at_head ha];exact h4) h)
   exact ⟨⟨_, .plain h1 h2 h3 h4 hO⟩,by rw [show i+((c :: r).length:Int)=i+1+(r.length:Int) by simp only [List.length_cons];omega];exact hp⟩
  | @esc x r hx hr =>
   have h0:=at_lt ha
   have hu:=unit_of_esc hs ha (by unfold simple at hx;omega)
   obtain ⟨y,hy⟩:=simple_short hx
   rcases pf_unit hs h0.1 h0.2 (at_head ha) hu h with ⟨_,hp⟩|⟨hh,_⟩|⟨hh,_⟩
   ·
    rw [show i+2=i+1+1 by omega] at hp
    obtain ⟨⟨O,hO⟩,hp2⟩:=ih r (by simp only [List.length_cons] at hN;omega) hr (i+1+1) ha.2.2.2.2.2.2 hp
    exact ⟨⟨_, .esc hy hO⟩,by rw [show i+((92 :: x :: r).length:Int)=i+1+1+(r.length:Int) by simp only [List.length_cons];omega];exact hp2⟩
   ·
    cases hh
   cases hh
  | @uni a b c d r xa xb xc xd hr =>
   have h0:=at_lt ha
   have hu:=unit_of_hex hs ha xa xb xc xd
   obtain ⟨-, -, -, a1⟩:=id ha
   obtain ⟨-, -, -, a2⟩:=id a1
   obtain ⟨-, -, -, a3⟩:=id a2
   obtain ⟨-, -, -, a4⟩:=id a3
   obtain ⟨-, -, -, a5⟩:=id a4
   obtain ⟨-, -, -, a6⟩:=id a5
   have e6:i+1+1+1+1+1+1=i+6:=by omega
   rw [e6] at a6
   rcases pf_unit hs h0.1 h0.2 (at_head ha) hu h with ⟨hh,_⟩|⟨_,hhi,hlo,hp⟩|⟨_,hhi,m,hum,hlm,hp⟩
   ·
    cases hh
   ·
    have q1:=high_val hhi
    have q2:=low_val hlo
    obtain ⟨⟨O,hO⟩,hp2⟩:=ih r (by simp only [List.length_cons] at hN;omega) hr (i+6) a6 hp
    have q3 : ¬ (55296≤hex4 a b c d∧hex4 a b c d≤56319):=by simpa using q1
    have q4 : ¬ (56320≤hex4 a b c d∧hex4 a b c d≤57343):=by simpa using q2
    exact ⟨⟨_, .uni xa xb xc xd rfl (by omega) hO⟩,by rw [show i+((92 :: 117 :: a :: b :: c :: d :: r).length:Int)=i+6+(r.length:Int) by simp only [List.length_cons];omega];exact hp2⟩
   have q1:55296≤hex4 a b c d∧hex4 a b c d≤56319:=by simpa using (high_val hhi).symm
   have q2:56320≤m∧m≤57343:=by simpa using (low_val hlm).symm
   have h6:=a6.bound
   rw [bytesOf_length] at h6
   have no:Ev (fun k=>sN.f k s (i+6)) (0,false)→False:=fun hh=>by have:=Ev.unique hum hh;simp at this
   cases hr with
   | nil=>exact (no (unit_no hs h6.1 (by omega) (by rw [at_head a6];decide))).elim
   | @plain c' r' _ _ _ h4 _=>exact (no (unit_no hs h6.1 (by omega) (by rw [at_head a6];exact h4))).elim
   | @esc x r' hx _=>exact (no (unit_of_esc hs a6 (by unfold simple at hx;omega))).elim
   | @uni a' b' c' d' r' xa' xb' xc' xd' hr' =>
    have hm:=Ev.unique hum (unit_of_hex hs a6 xa' xb' xc' xd')
    have hm:m=hex4 a' b' c' d':=by simpa using hm
    have a12:=a6.2.2.2.2.2.2.2.2.2.2.2.2.2.2.2.2.2.2
    rw [show i+6+1+1+1+1+1+1=i+12 by omega] at a12
    obtain ⟨⟨O,hO⟩,hp2⟩:=ih r' (by simp only [List.length_cons] at hN;omega) hr' (i+12) a12 hp
    exact ⟨⟨_, .pair xa xb xc xd xa' xb' xc' xd' rfl hm q1 q2 hO⟩,by rw [show i+((92 :: 117 :: a :: b :: c :: d :: 92 :: 117 :: a' :: b' :: c' :: d' :: r').length:Int)=i+12+(r'.length:Int) by simp only [List.length_cons];omega];exact hp2⟩
theorem pf_name (hs:s.size≤65536) {n:List Int} {i:Int} (ha:At (bytesOf s) i n) (hok:StrOK n) (h:PFr s i):Qs n∧PFr s (i+n.length):=by
 obtain ⟨B,rfl,hB⟩:=hok
 have h0:=at_lt ha
 have h1:=pf_one hs h0.1 h0.2 (by rw [at_head ha];decide) h
 obtain ⟨⟨O,hO⟩,h2⟩:=pf_str hs B.length B (Nat.le_refl _) hB (i+1) ha.2.2.2 h1
 have a2:=(At.append (a:=B) (b:=[34]) (i:=i+1)).1 ha.2.2.2
 have h3:=at_lt a2.2
 have h4:=pf_one hs h3.1 h3.2 (by rw [at_head a2.2];decide) h2
 refine ⟨⟨B,O,rfl,hO⟩,?_⟩
 rw [show i+((34 :: (B++[34])).length:Int)=i+1+(B.length:Int)+1 by simp only [List.length_cons,List.length_append,List.length_nil];omega];exact h4
theorem pf_bytes (hs:s.size≤65536) {b:List Int} {i:Int} (ha:At (bytesOf s) i b) (h92 : ∀ c ∈ b,c≠92) (h:PFr s i):PFr s (i+b.length):=by
 have hb:=ha.bound
 rw [bytesOf_length] at hb
 refine pf_range hs b.length i _ hb.1 (by omega) hb.2 (fun q h1 h2=>?_) h
 have h3:=at_bt ha (q - i).toNat (by omega)
 rw [show i+(((q - i).toNat:Nat):Int)=q by omega] at h3
 rw [h3]
 refine h92 _ ?_
 rw [List.getD_eq_getElem?_getD,List.getElem?_eq_getElem (by omega)]
 exact List.getElem_mem _
theorem pf_wl (hs:s.size≤65536) {i a:Int} (hw:Wl (bytesOf s) i a) (h:PFr s i):PFr s a:=by
 have h2:=hw.2.2.1
 rw [bytesOf_length] at h2
 refine pf_range hs (a - i).toNat i a hw.1 (by have:=hw.2.1;omega) h2 (fun q h1 h3=>?_) h
 have:=hw.2.2.2 q h1 h3
 rw [rd_bytesOf] at this
 unfold blank at this;omega
theorem pf_c (hs:s.size≤65536) {i c:Int} (ha:At (bytesOf s) i [c]) (hc:c≠92) (h:PFr s i):PFr s (i+1):=pf_one hs (at_lt ha).1 (at_lt ha).2 (by rw [at_head ha];exact hc) h
mutual
theorem pf_val (hs:s.size≤65536) : ∀ (t:T) (i e:Int),Rd (bytesOf s) t i e→PFr s i→t.uq∧PFr s e
  | .leaf kd b,i,e,h,hp=>by
    simp only [Rd] at h
    obtain ⟨ha,rfl,hl⟩:=h
    simp only [T.uq]
    rcases hl with ⟨_,hok⟩|⟨rfl,hN,_⟩|⟨rfl,rfl⟩|⟨rfl,rfl⟩|⟨rfl,rfl⟩
    · have:=pf_name hs ha hok hp;exact ⟨fun _=>this.1,this.2⟩
    · exact ⟨fun h=>by omega,pf_bytes hs ha (fun c hc=>by have:=hN c hc;unfold numc dig at this;omega) hp⟩
    · exact ⟨fun h=>by omega,pf_bytes hs ha (by decide) hp⟩
    · exact ⟨fun h=>by omega,pf_bytes hs ha (by decide) hp⟩
    · exact ⟨fun h=>by omega,pf_bytes hs ha (by decide) hp⟩
  | .arr k,i,e,h,hp=>by
    simp only [Rd] at h
    simp only [T.uq]
    exact pf_F hs k (i+1) e h.2 (pf_c hs h.1 (by decide) hp)
  | .obj m,i,e,h,hp=>by
    simp only [Rd] at h
    simp only [T.uq]
    exact pf_G hs m (i+1) e h.2 (pf_c hs h.1 (by decide) hp)
theorem pf_F (hs:s.size≤65536) : ∀ (k:TL) (i e:Int),RdF (bytesOf s) k i e→PFr s i→k.uq∧PFr s e
  | .nil,i,e,h,hp=>by
    simp only [RdF] at h
    obtain ⟨a,hw,ha,rfl⟩:=h
    simp only [TL.uq]
    exact ⟨trivial,pf_c hs ha (by decide) (pf_wl hs hw hp)⟩
  | .cons t k,i,e,h,hp=>by
    simp only [RdF] at h
    obtain ⟨a,c,hw,ht,hk⟩:=h
    simp only [TL.uq]
    have h1:=pf_val hs t a c ht (pf_wl hs hw hp)
    have h2:=pf_T hs k c e hk h1.2
    exact ⟨⟨h1.1,h2.1⟩,h2.2⟩
theorem pf_T (hs:s.size≤65536) : ∀ (k:TL) (i e:Int),RdT (bytesOf s) k i e→PFr s i→k.uq∧PFr s e
  | .nil,i,e,h,hp=>by
    simp only [RdT] at h
    obtain ⟨a,hw,ha,rfl⟩:=h
    simp only [TL.uq]
    exact ⟨trivial,pf_c hs ha (by decide) (pf_wl hs hw hp)⟩
  | .cons t k,i,e,h,hp=>by
    simp only [RdT] at h
    obtain ⟨a,b,c,hw,ha,hw2,ht,hk⟩:=h
    simp only [TL.uq]
    have h1:=pf_val hs t b c ht (pf_wl hs hw2 (pf_c hs ha (by decide) (pf_wl hs hw hp)))
    have h2:=pf_T hs k c e hk h1.2
    exact ⟨⟨h1.1,h2.1⟩,h2.2⟩
theorem pf_G (hs:s.size≤65536) : ∀ (m:TM) (i e:Int),RdG (bytesOf s) m i e→PFr s i→m.uq∧PFr s e
  | .nil,i,e,h,hp=>by
    simp only [RdG] at h
    obtain ⟨a,hw,ha,rfl⟩:=h
    simp only [TM.uq]
    exact ⟨trivial,pf_c hs ha (by decide) (pf_wl hs hw hp)⟩
  | .cons n t m,i,e,h,hp=>by
    simp only [RdG] at h
    obtain ⟨a,b,c,d,hw,hna,hok,hw1,hb,hw2,ht,hm⟩:=h
    simp only [TM.uq]
    have h0:=pf_name hs hna hok (pf_wl hs hw hp)
    have h1:=pf_val hs t c d ht (pf_wl hs hw2 (pf_c hs hb (by decide) (pf_wl hs hw1 h0.2)))
    have h2:=pf_M hs m d e hm h1.2
    exact ⟨⟨h0.1,h1.1,h2.1⟩,h2.2⟩
theorem pf_M (hs:s.size≤65536) : ∀ (m:TM) (i e:Int),RdM (bytesOf s) m i e→PFr s i→m.uq∧PFr s e
  | .nil,i,e,h,hp=>by
    simp only [RdM] at h
    obtain ⟨a,hw,ha,rfl⟩:=h
    simp only [TM.uq]
    exact ⟨trivial,pf_c hs ha (by decide) (pf_wl hs hw hp)⟩
  | .cons n t m,i,e,h,hp=>by
    simp only [RdM] at h
    obtain ⟨z,a,b,c,d,hw0,hz,hw,hna,hok,hw1,hb,hw2,ht,hm⟩:=h
    simp only [TM.uq]
    have h0:=pf_name hs hna hok (pf_wl hs hw (pf_c hs hz (by decide) (pf_wl hs hw0 hp)))
    have h1:=pf_val hs t c d ht (pf_wl hs hw2 (pf_c hs hb (by decide) (pf_wl hs hw1 h0.2)))
    have h2:=pf_M hs m d e hm h1.2
    exact ⟨⟨h0.1,h1.1,h2.1⟩,h2.2⟩
end
end Go.Proofs.YtnejkimpkaopoaaGreatDoor.U
end
section
/- The elements of an array's text, as gjson reads them, and the kids of its tree. -/
namespace Go.Proofs.YtnejkimpkaopoaaGreatDoor.U
open RowKit YtnejkimpkaopoaaGreatDoorW.PrintWords YtnejkimpkaopoaaGreatDoor.Q
set_option linter.unusedVariables false
set_option linter.unusedSimpArgs false
structure Same1 (x:Int × ByteArray × ByteArray) (n:S25):Prop where
  read : ∃ k,readF k x.2.1=some (n,true)
  kind:laws_gjKind.f n.f0=some x.1
  str:n.f0=4→x.2.2=n.f1
  same : ∃ k,sE.f k n.f0 n.f1 n.f2 n.f3 n.f0 n.f1 n.f2 n.f3=some true
theorem same1 {t:T} (hsm:t.sz≤65536) {x:Int × ByteArray × ByteArray} (hrd : ∃ k,readF k x.2.1=some (t.node,true)) (kd:Int) (hk:t.node.f0=kd) (hg:laws_gjKind.f kd=some x.1) (hs:kd=4→x.2.2=t.node.f1):Same1 x t.node:=⟨hrd,by rw [hk];exact hg,fun h=>hs (by rw [← hk];exact h),(same_val t hsm).rounds⟩
inductive Prs:List (Int × ByteArray × ByteArray)→List S25→Prop
  | nil:Prs [] []
  | cons {x n l m} : Same1 x n→Prs l m→Prs (x :: l) (n :: m)
variable {s:ByteArray}
theorem extract2 {a n:Nat} (h:a+n≤s.size):(s.extract a s.size).extract 0 n=s.extract a (a+n):=by
 rw [ByteArray.extract_extract]
 congr 1 <;> omega
theorem stopB_wl {i a c:Int} (h:Wl (bytesOf s) i a) (ha:At (bytesOf s) a [c]) (hc:c=44∨c=93∨c=125):stopB (bt s i)∧i<s.size:=by
 have h1:=wl_byte h ha
 have h2:=at_lt ha
 have h3:=h.2.1
 refine ⟨?_,by omega⟩
 unfold stopB
 rcases h1 with h1|h1
 ·
  unfold blank at h1;omega
 omega
theorem RdT.stopB {k:TL} {i e:Int} (h:RdT (bytesOf s) k i e):stopB (bt s i)∧i<s.size:=by
 cases k with
 | nil=>simp only [RdT] at h;obtain ⟨a,hw,ha,_⟩:=h;exact stopB_wl hw ha (by simp)
 | cons t k=>simp only [RdT] at h;obtain ⟨a,b,c,hw,ha,_⟩:=h;exact stopB_wl hw ha (by simp)
theorem raw_size {a n:Nat} (h:a+n≤s.size):((s.extract a s.size).extract 0 n).size=n:=by
 rw [ByteArray.size_extract,ByteArray.size_extract];omega
theorem at_drop {b:List Int} {i:Nat} (h:At (bytesOf s) i b) : ∃ r,(bytesOf s).drop i=b++r:=by
 have h1:=h.slice
 have hb:=h.bound
 refine ⟨(bytesOf s).drop (i+b.length),?_⟩
 rw [show ((i:Int)+b.length).toNat=i+b.length by omega,Int.toNat_natCast] at h1
 rw [← List.take_append_drop b.length ((bytesOf s).drop i),List.drop_drop]
 congr 1
 rw [List.drop_take] at h1
 rw [show i+b.length - i=b.length by omega] at h1
 exact h1
theorem el_at (hn:s.size≤65536) {t:T} {a c:Nat} (h:Rd (bytesOf s) t a c) (hu:t.uq) (hst:stopB (bt s c)∧(c:Int)<s.size) :
 ∃ x,El s a (c - a) x∧Same1 x t.node∧x.2.1.size=c - a∧0<c - a∧a+(c - a)≤s.size:=by
 have hz:=T.sz_le t h
 rw [bytesOf_length] at hz
 have hsm:t.sz≤65536:=by omega
 have hh:=h.head
 have hac:a<c:=by
  have:=h.pos
  omega
 have hN:a+(c - a)=c:=by omega
 have hsz:=raw_size (s:=s) (a:=a) (n:=c - a) (by omega)
 have hraw:(s.extract a s.size).extract 0 (c - a)=s.extract a c:=by rw [extract2 (by omega),hN]
 have hrd : ∃ k,readF k ((s.extract a s.size).extract 0 (c - a))=some (t.node,true):=by
  rw [hraw]
  obtain ⟨K,hK⟩:=read_back (s:=s.extract a c) (by rw [ByteArray.size_extract];omega) h.own hu
  exact ⟨K,hK K (Nat.le_refl _)⟩
 cases t with
 | leaf kd b =>
  simp only [Rd] at h
  obtain ⟨ha,hcb,hl⟩:=h
  have hlen:b.length=c - a:=by omega
  obtain ⟨rest,hdr⟩:=at_drop ha
  have hj:bytesOf (s.extract a s.size)=b++rest:=by
   rw [bytesOf_extract',List.take_of_length_le (by rw [bytesOf_length];omega),hdr]
  simp only [T.uq] at hu
  rcases hl with ⟨rfl,hs⟩|⟨rfl,hnum⟩|⟨rfl,rfl⟩|⟨rfl,rfl⟩|⟨rfl,rfl⟩
  ·
   obtain ⟨B,O,hB,hU⟩:=hu rfl
   have hS:StrAt (s.extract a s.size) B O rest:=⟨by rw [hj,hB];simp,hU⟩
   have hl2:B.length+2=c - a:=by rw [← hlen,hB];simp
   refine ⟨(3,(s.extract a s.size).extract 0 (B.length+2),strOfNums O),?_,same1 (t := .leaf 4 b) hsm (by rw [hl2];exact hrd) 4 (by simp only [T.node]) (by simp [laws_gjKind.f]) (fun _=>?_),by rw [hl2];exact hsz,by omega,by omega⟩
   ·
    rw [← hl2];exact .str hS
   simp only [T.node]
   rw [if_neg (by decide),if_pos trivial]
   unfold chr
   have hx:bytesOf (strOfNums b)=b:=by
    have:strOfNums b=s.extract a c:=by
     rw [← strOfNums_bytesOf (s.extract a c),bytesOf_extract',List.drop_take,hdr, ← hlen,List.take_left]
    rw [this,bytesOf_extract',List.drop_take,hdr, ← hlen,List.take_left]
   have hsz2:(strOfNums b).size≤100000:=by rw [← bytesOf_length,hx];omega
   rw [unquote_f (by rw [hx];exact hB) hU hsz2 0]
   rfl
  ·
   refine ⟨(2,(s.extract a s.size).extract 0 (c - a),ByteArray.empty), .num ⟨by omega,by rw [ByteArray.size_extract];omega,fun i h hi=>?_,?_,fun h=>?_⟩,same1 (t := .leaf 3 b) hsm hrd 3 (by simp only [T.node]) (by simp [laws_gjKind.f]) (fun h=>by omega),hsz,by omega,by omega⟩
   ·
    rw [bt_nat h]
    have h1:=bt_drop (s:=s) (i:=a) (by omega) i (by rw [ByteArray.size_extract] at h;omega)
    rw [h1]
    have h2:=at_bt ha i (by omega)
    rw [show ((a+i:Nat):Int)=(a:Int)+(i:Int) by omega,h2]
    have h3:=hnum.1 (b.getD i 0) (by rw [List.getD_eq_getElem?_getD,List.getElem?_eq_getElem (by omega)];exact List.getElem_mem _)
    unfold numc dig at h3
    unfold numB
    omega
   ·
    obtain ⟨_,⟨c0,r,rfl,hc⟩,_⟩:=hnum
    have h0:=at_head ha
    have h1:=bt_from (s:=s) (i:=a) (by omega)
    rw [h1,h0]
    rcases hc with hc|⟨rfl,x,r',rfl,hx⟩
    ·
     exact .inl hc
    refine .inr ⟨rfl,fun _=>?_⟩
    have h2:=bt_drop (s:=s) (i:=a) (by omega) 1 (by simp only [List.length_cons] at hlen;omega)
    rw [show ((1:Nat):Int)=1 from rfl] at h2
    rw [h2,show ((a+1:Nat):Int)=(a:Int)+1 by omega,at_head ha.2.2.2]
    exact hx
   have h2:=bt_drop (s:=s) (i:=a) (by omega) (c - a) (by omega)
   rw [h2,hN];exact hst.1
  ·
   obtain ⟨k,hk⟩:=tolit_at (j:=s.extract a s.size) (b:=[116,114,117,101]) (rest:=rest) (by rw [ByteArray.size_extract];omega) hj (by decide) (by decide) (by
    have h2:=bt_drop (s:=s) (i:=a) (by omega) (c - a) (by omega)
    rw [hlen,h2,hN];exact hst.1) (by rw [hlen,ByteArray.size_extract];omega)
   rw [hlen] at hk
   have hel:=El.true_ (s:=s) (i:=a) (at_head ha) hk
   rw [hsz] at hel
   exact ⟨(4,(s.extract a s.size).extract 0 (c - a),ByteArray.empty),hel,same1 (t := .leaf 2 [116,114,117,101]) hsm hrd 2 (by simp only [T.node]) (by simp [laws_gjKind.f]) (fun h=>by omega),hsz,by omega,by omega⟩
  ·
   obtain ⟨k,hk⟩:=tolit_at (j:=s.extract a s.size) (b:=[102,97,108,115,101]) (rest:=rest) (by rw [ByteArray.size_extract];omega) hj (by decide) (by decide) (by
    have h2:=bt_drop (s:=s) (i:=a) (by omega) (c - a) (by omega)
    rw [hlen,h2,hN];exact hst.1) (by rw [hlen,ByteArray.size_extract];omega)
   rw [hlen] at hk
   have hel:=El.false_ (s:=s) (i:=a) (at_head ha) hk
   rw [hsz] at hel
   exact ⟨(1,(s.extract a s.size).extract 0 (c - a),ByteArray.empty),hel,same1 (t := .leaf 1 [102,97,108,115,101]) hsm hrd 1 (by simp only [T.node]) (by simp [laws_gjKind.f]) (fun h=>by omega),hsz,by omega,by omega⟩
  obtain ⟨k,hk⟩:=tolit_at (j:=s.extract a s.size) (b:=[110,117,108,108]) (rest:=rest) (by rw [ByteArray.size_extract];omega) hj (by decide) (by decide) (by
   have h2:=bt_drop (s:=s) (i:=a) (by omega) (c - a) (by omega)
   rw [hlen,h2,hN];exact hst.1) (by rw [hlen,ByteArray.size_extract];omega)
  rw [hlen] at hk
  have hel:=El.null (s:=s) (i:=a) (at_head ha) hk
  rw [hsz] at hel
  exact ⟨(0,(s.extract a s.size).extract 0 (c - a),ByteArray.empty),hel,same1 (t := .leaf 0 [110,117,108,108]) hsm hrd 0 (by simp only [T.node]) (by simp [laws_gjKind.f]) (fun h=>by omega),hsz,by omega,by omega⟩
 | arr k =>
  obtain ⟨K,hK⟩:=squash_at (j:=s.extract a s.size) (by rw [ByteArray.size_extract];omega) (.arr k) h.from (.inl ⟨k,rfl⟩)
  simp only [Rd] at h
  have hel:=El.json (s:=s) (i:=a) (.inl (at_head h.1)) hK
  rw [hsz] at hel
  exact ⟨(5,(s.extract a s.size).extract 0 (c - a),ByteArray.empty),hel,same1 (t := .arr k) hsm hrd 5 (by simp only [T.node]) (by simp [laws_gjKind.f]) (fun h=>by omega),hsz,by omega,by omega⟩
 | obj m =>
  obtain ⟨K,hK⟩:=squash_at (j:=s.extract a s.size) (by rw [ByteArray.size_extract];omega) (.obj m) h.from (.inr ⟨m,rfl⟩)
  simp only [Rd] at h
  have hel:=El.json (s:=s) (i:=a) (.inr (at_head h.1)) hK
  rw [hsz] at hel
  exact ⟨(5,(s.extract a s.size).extract 0 (c - a),ByteArray.empty),hel,same1 (t := .obj m) hsm hrd 6 (by simp only [T.node]) (by simp [laws_gjKind.f]) (fun h=>by omega),hsz,by omega,by omega⟩
theorem els_wl (d:Nat) : ∀ {i a:Nat} {l:List (Int × ByteArray × ByteArray)}, a - i=d→Wl (bytesOf s) i a→(a:Int)<s.size→Els s a l→Els s i l:=by
 induction d with
 | zero=>intro i a l hd hw ha h;have:=hw.2.1;rwa [show i=a by omega]
 | succ d ih =>
  intro i a l hd hw ha h
  have h1:=hw.2.2.2 i (Int.le_refl _) (by omega)
  rw [rd_bytesOf] at h1
  refine .blank (by omega) (by unfold blank at h1;omega) (ih (a:=a) (by omega) ⟨by omega,by omega,hw.2.2.1,fun q h2 h3=>hw.2.2.2 q (by omega) h3⟩ ha h)
theorem els_T (hn:s.size≤65536) : ∀ (k:TL) (i:Nat) (e:Int),RdT (bytesOf s) k i e→k.uq → ∃ l,Els s i l∧Prs l k.nodes
  | .nil,i,e,h,hu=>by
    simp only [RdT] at h
    obtain ⟨a,hw,ha,_⟩:=h
    have h1:=at_lt ha
    obtain ⟨a,rfl⟩ : ∃ m:Nat,a=m:=⟨a.toNat,by omega⟩
    refine ⟨[],els_wl _ rfl hw h1.2 (.stop (by omega) (at_head ha)), .nil⟩
  | .cons t k,i,e,h,hu=>by
    simp only [RdT] at h
    simp only [TL.uq] at hu
    obtain ⟨a,b,c,hw,ha,hw2,ht,hk⟩:=h
    have h1:=at_lt ha
    have h2:=hw2.2.1
    have h3:=T.sz_le t ht
    obtain ⟨a,rfl⟩ : ∃ m:Nat,a=m:=⟨a.toNat,by omega⟩
    obtain ⟨b,rfl⟩ : ∃ m:Nat,b=m:=⟨b.toNat,by omega⟩
    obtain ⟨c,rfl⟩ : ∃ m:Nat,c=m:=⟨c.toNat,by omega⟩
    have hh:=ht.head
    obtain ⟨l,hl,hp⟩:=els_T hn k c e hk hu.2
    obtain ⟨x,hx,hs,hz,hz0,hz1⟩:=el_at hn ht hu.1 hk.stopB
    have hbc:b+(c - b)=c:=by omega
    refine ⟨x :: l,els_wl _ rfl hw h1.2 (.comma (by omega) (at_head ha) (els_wl (a:=b) _ rfl ?_ hh.2.1 (.elem hx hz0 hz1 hz (by rw [hbc];exact hl)))),?_⟩
    · push_cast;exact hw2
    · simp only [TL.nodes];exact .cons hs hp
theorem els_F (hn:s.size≤65536) : ∀ (k:TL) (i:Nat) (e:Int),RdF (bytesOf s) k i e→k.uq → ∃ l,Els s i l∧Prs l k.nodes
  | .nil,i,e,h,hu=>by
    simp only [RdF] at h
    exact els_T hn .nil i e (by simp only [RdT];exact h) hu
  | .cons t k,i,e,h,hu=>by
    simp only [RdF] at h
    simp only [TL.uq] at hu
    obtain ⟨b,c,hw2,ht,hk⟩:=h
    have h2:=hw2.2.1
    have h3:=T.sz_le t ht
    obtain ⟨b,rfl⟩ : ∃ m:Nat,b=m:=⟨b.toNat,by omega⟩
    obtain ⟨c,rfl⟩ : ∃ m:Nat,c=m:=⟨c.toNat,by omega⟩
    have hh:=ht.head
    obtain ⟨l,hl,hp⟩:=els_T hn k c e hk hu.2
    obtain ⟨x,hx,hs,hz,hz0,hz1⟩:=el_at hn ht hu.1 hk.stopB
    have hbc:b+(c - b)=c:=by omega
    refine ⟨x :: l,els_wl _ rfl hw2 hh.2.1 (.elem hx hz0 hz1 hz (by rw [hbc];exact hl)),?_⟩
    simp only [TL.nodes];exact .cons hs hp
theorem array_law (s:ByteArray) : ∃ n ok k,textF k s=some (n,ok)∧(ok=true→n.f0=5→s.size≤65536∧0<s.size∧(bt s 0=91 → ∃ l,Els s 1 l∧Prs l n.f3)):=by
 by_cases hsz:65536<s.size
 ·
  exact ⟨z25,false,0,by unfold textF;rw [if_pos hsz],fun h=>by cases h⟩
 have hs:s.size≤65536:=by omega
 have e0 : ∀ k,textF k s=(spec_UTF8.f k s).bind fun u=>if u=false then some (z25,false) else (sD.f k s).bind fun p=>if p=false then some (z25,false) else readF k s:=fun k=>by unfold textF;rw [if_neg hsz]
 obtain ⟨u,hu⟩:=utf8_ev hs
 cases u with
 | false =>
  have h1:Ev (fun k=>textF k s) (z25,false):=Ev.congr e0 (Ev.bind hu (Ev.congr (fun k=>by rw [if_pos rfl]) (Ev.now _)))
  obtain ⟨k,hk⟩:=h1.rounds
  exact ⟨z25,false,k,hk,fun h=>by cases h⟩
 | true =>
 obtain ⟨p,hp⟩:=paired_ev hs s.size 0 (by omega) (by omega) (by omega)
 have hp':Ev (fun k=>sD.f k s) p:=Ev.congr (fun k=>by unfold sD.f;rfl) hp
 cases p with
 | false =>
  have h1:Ev (fun k=>textF k s) (z25,false):=Ev.congr e0 (Ev.bind hu (Ev.congr (f:=fun k=>(sD.f k s).bind fun p=>if p=false then some (z25,false) else readF k s) (fun k=>by rw [if_neg (by simp)]) (Ev.bind hp' (Ev.congr (fun k=>by rw [if_pos rfl]) (Ev.now _)))))
  obtain ⟨k,hk⟩:=h1.rounds
  exact ⟨z25,false,k,hk,fun h=>by cases h⟩
 | true =>
 have go : ∀ r,Ev (fun k=>readF k s) r → ∃ k,textF k s=some r:=fun r hr=>by
  have h1:Ev (fun k=>textF k s) r:=Ev.congr e0 (Ev.bind hu (Ev.congr (f:=fun k=>(sD.f k s).bind fun p=>if p=false then some (z25,false) else readF k s) (fun k=>by rw [if_neg (by simp)]) (Ev.bind hp' (Ev.congr (fun k=>by rw [if_neg (by simp)]) hr))))
  exact h1.rounds
 obtain ⟨pl,ok,hpl,hok⟩:=places_ev hs
 cases ok with
 | false =>
  obtain ⟨k,hk⟩:=go (z25,false) (Ev.bind hpl (Ev.congr (fun k=>by rw [if_neg (by simp)]) (Ev.now _)))
  exact ⟨z25,false,k,hk,fun h=>by cases h⟩
 | true =>
 obtain ⟨t,a,e,hw0,hr,hw1,hrep⟩:=hok rfl
 obtain ⟨huq, -⟩:=pf_val hs t a e hr (pf_wl hs hw0 hp)
 have hz:=T.sz_le t hr
 rw [bytesOf_length] at hz
 have ht:=tree_ev hs t pl hrep huq (by omega)
 obtain ⟨k,hk⟩:=go (t.node,true) (by
  generalize t.node=nd at ht ⊢
  obtain ⟨n0,n1,n2,n3⟩:=nd
  refine Ev.bind hpl (Ev.congr (f:=fun k=>(sT.f k s pl.f0 pl.f1 pl.f2 pl.f3 pl.f4).bind fun t=>some ((⟨t.1,t.2.1,t.2.2.1,t.2.2.2⟩:S25),true)) (fun k=>?_) (Ev.bind ht (Ev.now _)))
  rw [if_pos rfl])
 refine ⟨t.node,true,k,hk,fun _ h5=>?_⟩
 have hh:=hr.head
 refine ⟨hs,by omega,fun h91=>?_⟩
 have ha:a=0:=by
  apply Int.le_antisymm _ hh.1
  apply Int.le_of_not_gt
  intro hpos
  have:=hw0.2.2.2 0 (Int.le_refl _) hpos
  rw [rd_bytesOf,h91] at this
  unfold blank at this;omega
 subst ha
 cases t with
 | leaf kd b =>
  simp only [T.node] at h5
  simp only [Rd] at hr
  rcases hr.2.2 with ⟨h,_⟩|⟨h,_⟩|⟨h,_⟩|⟨h,_⟩|⟨h,_⟩ <;> omega
 | obj m=>simp only [T.node] at h5;omega
 | arr kk =>
  simp only [Rd] at hr
  simp only [T.uq] at huq
  simp only [T.node]
  exact els_F hs kk 1 e hr.2 huq
end Go.Proofs.YtnejkimpkaopoaaGreatDoor.U
end

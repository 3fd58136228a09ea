/- The package's appendPrettyAny and appendPrettyObject in plain words: leaves, and what is tried on one line. -/
import Derived.Test.YtbkgoccnegjdhaaU8
import Derived.Test.YtbkgoccnegjdhaaU4
import Derived.Test.YtbkgoccnegjdhaaB9
namespace Go.Proofs.Ytbkgoccnegjdhaa.U
open Go.RowKit Go.Proofs.YtbkgoccnegjdhaaW.PrintWords Go.Proofs.Ytbkgoccnegjdhaa.Q
variable {x l:List Int} {W:Int} {P I:ByteArray} {sk:Bool} {tb nl mx:Int} {pr:Bool} {r:List Int × Int × Int × Bool}
/-! ### appendPrettyAny, by what stands there -/
theorem any_j1_skip {i:Int} (h0:0≤i) (hi:i<l.length) (hl:l.length≤4611686018427387904) (h1:rd l i≠123) (h2:rd l i≠91) (h3:rd l i≠116) (h4:rd l i≠102) (h5:rd l i≠110)
    (h:Ev (fun k=>pA.l0 k x l (i+1) pr W P I sk tb nl mx) r):Ev (fun k=>pA.j1 k x l i pr W P I sk tb nl mx false) r:=by
  refine Ev.step (fun k=>?_) h
  simp only [pA.j1]
  rw [if_neg (by simp),if_pos h0,if_pos hi,if_neg h1,if_neg h2,if_neg h3,if_neg h4,if_neg h5,wr om om]
/-- From a byte that is no blank and no quotation mark: a number's way, or the other's. -/
theorem any_other {i:Int} (h0:0≤i) (hi:i<l.length) (h32 : ¬ rd l i≤32) (h34:rd l i≠34) (hd : ¬ (48≤rd l i∧rd l i≤57)) (h45:rd l i≠45) (hnan:pF.f (l.drop i.toNat)=some false)
    (h:Ev (fun k=>pA.j1 k x l i pr W P I sk tb nl mx false) r):Ev (fun k=>pA.l0 k x l i pr W P I sk tb nl mx) r:=by
  refine Ev.step (fun k=>?_) h
  simp only [pA.l0]
  rw [if_pos hi,if_pos h0,if_neg h32,if_neg h34]
  by_cases h48:rd l i ≥ 48
  · rw [if_pos h48,if_neg (fun h=>hd ⟨h48,h⟩),if_neg h45,if_pos om,hnan,Option.bind_some]
  · rw [if_neg h48,if_neg h45,if_pos om,hnan,Option.bind_some]
theorem any_skip1 {i:Int} (h0:0≤i) (hi:i<l.length) (hl:l.length≤4611686018427387904) (hc:rd l i≤32∨rd l i=44∨rd l i=58)
    (h:Ev (fun k=>pA.l0 k x l (i+1) pr W P I sk tb nl mx) r):Ev (fun k=>pA.l0 k x l i pr W P I sk tb nl mx) r:=by
  by_cases h32:rd l i≤32
  · refine Ev.step (fun k=>?_) h
    simp only [pA.l0]
    rw [if_pos hi,if_pos h0,if_pos h32,wr om om]
  · exact any_other h0 hi h32 om om om (nan_no h0 hi om om om om (fun h=>by omega)) (any_j1_skip h0 hi hl om om om om om h)
def Sk (l:List Int) (i j:Int):Prop:=0≤i∧i≤j∧j≤l.length ∧ ∀ q,i≤q→q<j→rd l q≤32∨rd l q=44∨rd l q=58
theorem Wl.toSk {l:List Int} {i j:Int} (h:Wl l i j):Sk l i j:=⟨h.1,h.2.1,h.2.2.1,fun q h1 h2 => .inl (h.2.2.2 q h1 h2)⟩
theorem Sk.one {l:List Int} {i c:Int} (h:At l i [c]) (hc:c=44∨c=58):Sk l i (i+1) :=
  ⟨h.1,by omega,by have:=h.2.1;omega,fun q h1 h2=>by rw [show q=i by omega,h.2.2.1];omega⟩
theorem Sk.trans {l:List Int} {i j m:Int} (h:Sk l i j) (g:Sk l j m):Sk l i m :=
  ⟨h.1,by have:=h.2.1;have:=g.2.1;omega,g.2.2.1,fun q h1 h2=>by
    by_cases e:q<j
    · exact h.2.2.2 q h1 e
    · exact g.2.2.2 q om h2⟩
theorem any_skip_n (hl:l.length≤4611686018427387904) (d:Nat) : ∀ i j:Int,j - i=d→Sk l i j→Ev (fun k=>pA.l0 k x l j pr W P I sk tb nl mx) r→Ev (fun k=>pA.l0 k x l i pr W P I sk tb nl mx) r:=by
  induction d with
  | zero=>intro i j hd hs h;rwa [show i=j by omega]
  | succ d ih =>
    intro i j hd hs h
    obtain ⟨h0,h1,h2,h3⟩:=hs
    exact any_skip1 h0 om hl (h3 i om om) (ih (i+1) j om ⟨by omega,by omega,h2,fun q h4 h5=>h3 q om h5⟩ h)
theorem any_skip {i j:Int} (hl:l.length≤4611686018427387904) (hs:Sk l i j) (h:Ev (fun k=>pA.l0 k x l j pr W P I sk tb nl mx) r):Ev (fun k=>pA.l0 k x l i pr W P I sk tb nl mx) r :=
  any_skip_n hl (j - i).toNat i j (by have:=hs.2.1;omega) hs h
theorem any_leaf {i:Int} {b:List Int} (hl:l.length≤4611686018427387904) (ha:At l i b) (hb:LeafOK b) (hst:StopAt l (i+b.length)) (hx:(x.length:Int)+b.length<lim) :
    Ev (fun k=>pA.l0 k x l i pr W P I sk tb nl mx) (x++b,i+b.length,nl,true):=by
  rcases hb with hb|hb|hb|hb|hb
  · have h:=string_ev (nl:=nl) hl ha hb hx
    obtain ⟨r,hr, -⟩:=hb
    subst hr
    obtain ⟨h1,h2,h3,h4⟩:=ha
    refine Ev.step (f:=fun k=>(pS.f k x l i nl).bind fun t=>some (t.1,t.2.1,t.2.2.1,t.2.2.2)) (fun k=>?_) (Ev.bind h (Ev.now _))
    simp only [pA.l0]
    rw [if_pos h2,if_pos h1,if_neg om,if_pos h3]
  · have h:=number_app (nl:=nl) hl ha hb hst hx
    obtain ⟨c,r,hr,hc, -⟩:=hb
    subst hr
    obtain ⟨h1,h2,h3,h4⟩:=ha
    have hj:Ev (fun k=>pA.j1 k x l i pr W P I sk tb nl mx true) (x++c :: r,i+((c :: r).length:Int),nl,true):=by
      refine Ev.step (f:=fun k=>(pN.f k x l i nl).bind fun t=>some (t.1,t.2.1,t.2.2.1,t.2.2.2)) (fun k=>?_) (Ev.bind h (Ev.now _))
      simp only [pA.j1]
      rw [if_pos (by trivial)]
    refine Ev.step (fun k=>?_) hj
    simp only [pA.l0]
    rw [if_pos h2,if_pos h1,if_neg om,if_neg om]
    rcases hc with hc|hc
    · rw [if_neg om,if_pos om]
    · rw [if_pos om,if_pos om]
  · subst hb
    obtain ⟨h1,h2,h3,h4⟩:=ha
    refine any_other h1 h2 om om om om (nan_no h1 h2 om om om om (fun h=>by omega)) (Ev.const _ fun k=>?_)
    simp only [pA.j1]
    rw [if_neg (by simp),if_pos h1,if_pos h2,if_neg om,if_neg om,if_pos om,Option.bind_some,if_pos (by unfold lim at hx;omega),wr om om];rfl
  · subst hb
    obtain ⟨h1,h2,h3,h4⟩:=ha
    refine any_other h1 h2 om om om om (nan_no h1 h2 om om om om (fun h=>by omega)) (Ev.const _ fun k=>?_)
    simp only [pA.j1]
    rw [if_neg (by simp),if_pos h1,if_pos h2,if_neg om,if_neg om,if_neg om,if_pos om,Option.bind_some,if_pos (by unfold lim at hx;omega),wr om om];rfl
  · subst hb
    obtain ⟨h1,h2,h3,h4⟩:=ha
    refine any_other h1 h2 om om om om (nan_no h1 h2 om om om om (fun h=>h4.2.2.1)) (Ev.const _ fun k=>?_)
    simp only [pA.j1]
    rw [if_neg (by simp),if_pos h1,if_pos h2,if_neg om,if_neg om,if_neg om,if_neg om,if_pos om,Option.bind_some,if_pos (by unfold lim at hx;omega),wr om om];rfl
theorem any_arr {i:Int} (ha:At l i [91]) (h:Ev (fun k=>pO.f k x l i 91 93 pr W P I sk tb nl mx) r):Ev (fun k=>pA.l0 k x l i pr W P I sk tb nl mx) r:=by
  obtain ⟨h1,h2,h3,h4⟩:=ha
  refine any_other h1 h2 om om om om (nan_no h1 h2 om om om om (fun h=>by omega)) (Ev.step (f:=fun k=>(pO.f k x l i 91 93 pr W P I sk tb nl mx).bind fun t=>some (t.1,t.2.1,t.2.2.1,t.2.2.2)) (fun k=>?_) (Ev.bind h (Ev.now _)))
  simp only [pA.j1]
  rw [if_neg (by simp),if_pos h1,if_pos h2,if_neg om,if_pos h3]
theorem any_obj {i:Int} (ha:At l i [123]) (h:Ev (fun k=>pO.f k x l i 123 125 pr W P I sk tb nl mx) r):Ev (fun k=>pA.l0 k x l i pr W P I sk tb nl mx) r:=by
  obtain ⟨h1,h2,h3,h4⟩:=ha
  refine any_other h1 h2 om om om om (nan_no h1 h2 om om om om (fun h=>by omega)) (Ev.step (f:=fun k=>(pO.f k x l i 123 125 pr W P I sk tb nl mx).bind fun t=>some (t.1,t.2.1,t.2.2.1,t.2.2.2)) (fun k=>?_) (Ev.bind h (Ev.now _)))
  simp only [pA.j1]
  rw [if_neg (by simp),if_pos h1,if_pos h2,if_pos h3]
theorem any_f {i:Int} (h:Ev (fun k=>pA.l0 k x l i pr W P I sk tb nl mx) r):Ev (fun k=>pA.f k x l i pr W P I sk tb nl mx) r :=
  Ev.step (fun k=>by simp only [pA.f]) h
/-! ### where a value ends -/
theorem stop_wl {l:List Int} {e a c:Int} (h:Wl l e a) (ha:At l a [c]) (hc:c=93∨c=44∨c=125):StopAt l e:=by
  obtain ⟨h0,h1,h2,h3⟩:=h
  by_cases he:e=a
  · subst he;right;unfold isStop;rw [ha.2.2.1];omega
  · right;left;exact h3 e om om
theorem RdT.stop {l:List Int} {k:TL} {i e:Int} (h:RdT l k i e):StopAt l i:=by
  cases k with
  | nil=>simp only [RdT] at h;obtain ⟨a,hw,ha, -⟩:=h;exact stop_wl hw ha om
  | cons t k=>simp only [RdT] at h;obtain ⟨a,b,c,hw,ha, -⟩:=h;exact stop_wl hw ha om
theorem RdM.stop {l:List Int} {m:TM} {i e:Int} (h:RdM l m i e):StopAt l i:=by
  cases m with
  | nil=>simp only [RdM] at h;obtain ⟨a,hw,ha, -⟩:=h;exact stop_wl hw ha om
  | cons n t m=>simp only [RdM] at h;obtain ⟨z,a,b,c,d,hw,ha, -⟩:=h;exact stop_wl hw ha om
/-! ### appendPrettyObject: blanks ahead -/
variable {op cl:Int} {ps:List S82} {n:Int}
theorem obj_skip_n (hl:l.length≤4611686018427387904) (d:Nat) : ∀ i j:Int,j - i=d→Wl l i j→Ev (fun k=>pO.l0 k x l j op cl pr W P I sk tb nl mx ps n) r→Ev (fun k=>pO.l0 k x l i op cl pr W P I sk tb nl mx ps n) r:=by
  induction d with
  | zero=>intro i j hd hs h;rwa [show i=j by omega]
  | succ d ih =>
    intro i j hd hs h
    obtain ⟨h0,h1,h2,h3⟩:=hs
    refine Ev.step (fun k=>?_) (ih (i+1) j om ⟨by omega,by omega,h2,fun q h4 h5=>h3 q om h5⟩ h)
    simp only [pO.l0]
    rw [if_pos om,if_pos h0,if_pos (h3 i om om),wr om om]
theorem obj_skip {i j:Int} (hl:l.length≤4611686018427387904) (hs:Wl l i j) (h:Ev (fun k=>pO.l0 k x l j op cl pr W P I sk tb nl mx ps n) r):Ev (fun k=>pO.l0 k x l i op cl pr W P I sk tb nl mx ps n) r :=
  obj_skip_n hl (j - i).toNat i j (by have:=hs.2.1;omega) hs h
/-! ### on one line -/
/-- An array's end. -/
theorem line_end {i:Int} (ha:At l i [93]) (hl:l.length≤4611686018427387904) (hx:(x.length:Int)<lim):Ev (fun k=>pO.l0 k x l i 91 93 false W P I sk tb nl mx ps n) (x++[93],i+1,nl,true):=by
  obtain ⟨h1,h2,h3,h4⟩:=ha
  refine Ev.const _ fun k=>?_
  simp only [pO.l0]
  rw [if_pos h2,if_pos h1,if_neg om,if_pos h3,if_neg (by simp),if_pos (by unfold lim at hx;omega),wr om om];rfl
/-- What follows an element that was tried on one line. -/
theorem line_call {i:Int} (hm:mx ≠ -1) {y:List Int} {a nl2:Int} {ok:Bool}
    (h:Ev (fun k=>pA.f k x l i false W P I sk (wrap64 (tb+1)) nl mx) (y,a,nl2,ok))
    (hr:Ev (fun k=>pO.j11 k y l a 91 93 false W P I sk tb nl2 mx ps n (!ok) 0 0 0 0) r) :
    Ev (fun k=>pO.j8 k x l i 91 93 false W P I sk tb nl mx ps n) r:=by
  refine Ev.step (f:=fun k=>pO.j9 k x l i 91 93 false W P I sk tb nl mx ps n 0 0 0 0) (fun k=>by simp only [pO.j8];rw [if_neg (by simp)]) ?_
  refine Ev.step (f:=fun k=>pO.j10 k x l i 91 93 false W P I sk tb nl mx ps n 0 0 0 0) (fun k=>by simp only [pO.j9];rw [if_neg (by decide)]) ?_
  exact Ev.step (f:=fun k=>(pA.f k x l i false W P I sk (wrap64 (tb+1)) nl mx).bind fun t=>pO.j11 k t.1 l t.2.1 91 93 false W P I sk tb t.2.2.1 mx ps n (!t.2.2.2) 0 0 0 0) (fun k=>by simp only [pO.j10,if_neg hm]) (Ev.bind h hr)
theorem line_no {i:Int} (hm:mx ≠ -1) {y:List Int} {a nl2:Int}
    (h:Ev (fun k=>pA.f k x l i false W P I sk (wrap64 (tb+1)) nl mx) (y,a,nl2,false)) :
    Ev (fun k=>pO.j8 k x l i 91 93 false W P I sk tb nl mx ps n) (y,a,nl2,false) :=
  line_call hm h (Ev.const _ fun k=>by simp only [pO.j11];rw [if_pos (by trivial)])
theorem line_yes {i:Int} (hm:mx ≠ -1) {y:List Int} {a nl2:Int} (ha:0≤a) (hal:a≤4611686018427387904) (hn:0≤n∧n≤4611686018427387905)
    (h:Ev (fun k=>pA.f k x l i false W P I sk (wrap64 (tb+1)) nl mx) (y,a,nl2,true))
    (hr:Ev (fun k=>pO.l0 k y l a 91 93 false W P I sk tb nl2 mx ps (n+1)) r) :
    Ev (fun k=>pO.j8 k x l i 91 93 false W P I sk tb nl mx ps n) r:=by
  refine line_call hm h ?_
  refine Ev.step (f:=fun k=>pO.j12 k y l a 91 93 false W P I sk tb nl2 mx ps n false 0 0 0 0) (fun k=>by simp only [pO.j11];rw [if_neg (by simp),if_neg (by simp)]) ?_
  refine Ev.step (fun k=>?_) hr
  simp only [pO.j12]
  rw [if_neg (by simp),wr (i:=a - 1) om om,wr (i:=a - 1+1) om om,wr om om,show a - 1+1=a by omega]
theorem first_byte {l:List Int} {t:T} {a c:Int} (hr:Rd l t a c):0≤a ∧ ¬ rd l a≤32∧rd l a≠93∧rd l a≠125∧rd l a≠44∧rd l a≠58∧a<l.length:=by
  cases t with
  | leaf b =>
    simp only [Rd] at hr
    obtain ⟨hat,_,hok⟩:=hr
    rcases hok with h|h|h|h|h
    · obtain ⟨r,e, -⟩:=h;subst e;have h1:=hat.1;have h2:=hat.2.1;have h3:=hat.2.2.1;omega
    · obtain ⟨c',r,e,hc, -⟩:=h;subst e;have h1:=hat.1;have h2:=hat.2.1;have h3:=hat.2.2.1;omega
    · subst h;have h1:=hat.1;have h2:=hat.2.1;have h3:=hat.2.2.1;omega
    · subst h;have h1:=hat.1;have h2:=hat.2.1;have h3:=hat.2.2.1;omega
    · subst h;have h1:=hat.1;have h2:=hat.2.1;have h3:=hat.2.2.1;omega
  | arr k=>simp only [Rd] at hr;have h1:=hr.1.1;have h2:=hr.1.2.1;have h3:=hr.1.2.2.1;omega
  | obj m=>simp only [Rd] at hr;have h1:=hr.1.1;have h2:=hr.1.2.1;have h3:=hr.1.2.2.1;omega
mutual
theorem any_line (hW:0<W) (hm:mx ≠ -1) (hl:l.length≤4611686018427387904) : ∀ (t:T) (x:List Int) (i e tb nl:Int),Rd l t i e→StopAt l e→(x.length:Int)+3*t.sz+10<lim →
    ∃ z i' nl',Ev (fun k=>pA.l0 k x l i false W P I sk tb nl mx) (x++z,i',nl', !t.objs)∧z.length≤3*t.sz∧(t.objs=false→z=t.line∧i'=e)
  | .leaf b,x,i,e,tb,nl,h,hst,hx=>by
    simp only [Rd] at h
    obtain ⟨ha,he,hb⟩:=h
    simp only [T.sz] at hx ⊢
    subst he
    exact ⟨b,i+b.length,nl,any_leaf hl ha hb hst om,by omega,fun _=>⟨rfl,rfl⟩⟩
  | .arr kk,x,i,e,tb,nl,h,hst,hx=>by
    simp only [Rd] at h
    obtain ⟨ha,hr⟩:=h
    simp only [T.sz] at hx ⊢
    have hab:=ha.bound
    simp only [List.length_cons,List.length_nil] at hab
    obtain ⟨z,i',nl',hz,hlen,hq⟩:=line_F hW hm hl kk (x++[91]) (i+1) e tb nl [] hr oJ
    refine ⟨91 :: z,i',nl',any_arr ha ?_,by simp only [List.length_cons];omega,fun ho=>?_⟩
    · rw [List.append_assoc] at hz
      refine Ev.step (f:=fun k=>pO.j0 k x l i 91 93 false W P I sk tb nl mx false) (fun k=>by simp only [pO.f];rw [if_pos om,if_neg (by simp)]) ?_
      refine Ev.step (f:=fun k=>pO.j1 k x l i 91 93 false W P I sk tb nl mx) (fun k=>by simp only [pO.j0];rw [if_neg (by simp),if_neg hm,if_neg (by decide)]) ?_
      refine Ev.step (f:=fun k=>pO.j2 k (x++[91]) l (i+1) 91 93 false W P I sk tb nl mx [] false) (fun k=>by simp only [pO.j1];rw [if_pos (by unfold lim at hx;omega),Option.bind_some,if_neg (by decide),wr om om]) ?_
      refine Ev.step (f:=fun k=>pO.j3 k (x++[91]) l (i+1) 91 93 false W P I sk tb nl mx []) (fun k=>by simp only [pO.j2];rw [if_neg (by simp)]) ?_
      refine Ev.step (fun k=>by simp only [pO.j3]) hz
    · obtain ⟨h1,h2⟩:=hq ho
      exact ⟨by simp only [T.line];rw [h1],h2⟩
  | .obj m,x,i,e,tb,nl,h,hst,hx=>by
    simp only [Rd] at h
    obtain ⟨ha,hr⟩:=h
    refine ⟨[],i,nl,any_obj ha ?_,by simp,fun ho=>by simp only [T.objs] at ho;cases ho⟩
    refine Ev.step (f:=fun k=>pO.j0 k x l i 123 125 false W P I sk tb nl mx false) (fun k=>by simp only [pO.f];rw [if_pos om,if_neg (by simp)]) ?_
    exact Ev.const _ fun k=>by simp only [pO.j0,T.objs];rw [if_neg (by simp),if_neg hm,if_pos (by trivial),List.append_nil];rfl
theorem line_F (hW:0<W) (hm:mx ≠ -1) (hl:l.length≤4611686018427387904) : ∀ (kk:TL) (x:List Int) (i e tb nl:Int) (ps:List S82),RdF l kk i e→(x.length:Int)+3*kk.sz+10<lim →
    ∃ z i' nl',Ev (fun k=>pO.l0 k x l i 91 93 false W P I sk tb nl mx ps 0) (x++z,i',nl', !kk.objs)∧z.length≤3*kk.sz+1∧(kk.objs=false→z=kk.line0∧i'=e)
  | .nil,x,i,e,tb,nl,ps,h,hx=>by
    simp only [RdF] at h
    obtain ⟨a,hw,ha,he⟩:=h
    simp only [TL.sz] at hx ⊢
    exact ⟨[93],a+1,nl,obj_skip hl hw (line_end ha hl om),by simp,fun _=>⟨rfl,he.symm⟩⟩
  | .cons t kk,x,i,e,tb,nl,ps,h,hx=>by
    simp only [RdF] at h
    obtain ⟨a,c,hw,hr,hk⟩:=h
    simp only [TL.sz] at hx ⊢
    have hb:=T.sz_le t hr
    have hb2:=TL.szT_le kk hk
    have hi0:=hw.1
    have hi1:=hw.2.1
    have hne:=first_byte hr
    obtain ⟨z,i',nl',hz,hlen,hq⟩:=any_line hW hm hl t x a c (wrap64 (tb+1)) nl hr hk.stop om
    have first : ∀ r,Ev (fun k=>pO.j8 k x l a 91 93 false W P I sk tb nl mx ps 0) r→Ev (fun k=>pO.l0 k x l i 91 93 false W P I sk tb nl mx ps 0) r:=by
      intro r h
      refine obj_skip hl hw (Ev.step (f:=fun k=>pO.j7 k x l a 91 93 false W P I sk tb nl mx ps 0 true) (fun k=>?_) (Ev.step (fun k=>?_) h))
      · simp only [pO.l0]
        rw [if_pos hne.2.2.2.2.2.2,if_pos hne.1,if_neg hne.2.1,if_neg hne.2.2.1,if_pos (by trivial)]
      · simp only [pO.j7]
        rw [if_pos (by trivial),if_neg om]
    cases ho:t.objs with
    | true =>
      rw [ho] at hz
      refine ⟨z,i',nl',first _ ?_,by omega,fun h=>?_⟩
      · simp only [TL.objs,ho,Bool.true_or]
        exact line_no hm (any_f hz)
      · simp only [TL.objs,ho,Bool.true_or] at h;cases h
    | false =>
      obtain ⟨h1,h2⟩:=hq ho
      subst h1;subst h2
      rw [ho] at hz
      obtain ⟨z2,i2,nl2,hz2,hlen2,hq2⟩:=line_T hW hm hl kk (x++t.line) i' e tb nl' ps 1 om om hk (by have:=T.line_len t;simp only [List.length_append];omega)
      refine ⟨t.line++z2,i2,nl2,first _ (line_yes hm om om ⟨by omega,by omega⟩ (any_f hz) ?_),by simp only [List.length_append];omega,fun h=>?_⟩
      · simp only [TL.objs,ho,Bool.false_or]
        rw [List.append_assoc] at hz2
        exact hz2
      · simp only [TL.objs,ho,Bool.false_or] at h
        obtain ⟨h1,h2⟩:=hq2 h
        exact ⟨by simp only [TL.line0];rw [h1],h2⟩
theorem line_T (hW:0<W) (hm:mx ≠ -1) (hl:l.length≤4611686018427387904) : ∀ (kk:TL) (x:List Int) (i e tb nl:Int) (ps:List S82) (n:Int),0<n→n≤1+i→RdT l kk i e→(x.length:Int)+3*kk.sz+10<lim →
    ∃ z i' nl',Ev (fun k=>pO.l0 k x l i 91 93 false W P I sk tb nl mx ps n) (x++z,i',nl', !kk.objs)∧z.length≤3*kk.sz+1∧(kk.objs=false→z=kk.line1∧i'=e)
  | .nil,x,i,e,tb,nl,ps,n,hn0,hn1,h,hx=>by
    simp only [RdT] at h
    obtain ⟨a,hw,ha,he⟩:=h
    simp only [TL.sz] at hx ⊢
    exact ⟨[93],a+1,nl,obj_skip hl hw (line_end ha hl om),by simp,fun _=>⟨rfl,he.symm⟩⟩
  | .cons t kk,x,i,e,tb,nl,ps,n,hn0,hn1,h,hx=>by
    simp only [RdT] at h
    obtain ⟨a,b,c,hw,ha,hw2,hr,hk⟩:=h
    simp only [TL.sz] at hx ⊢
    have hb:=T.sz_le t hr
    have hb2:=TL.szT_le kk hk
    have hi0:=hw.1
    have hi1:=hw.2.1
    have hi2:=hw2.2.1
    have ha1:=ha.1
    have ha2:=ha.2.1
    have ha3:=ha.2.2.1
    obtain ⟨z,i',nl',hz',hlen,hq⟩:=any_line hW hm hl t (x++[44,32]) b c (wrap64 (tb+1)) nl hr hk.stop oJ
    have hz:=any_skip hl ((Sk.one ha om).trans hw2.toSk) hz'
    have first : ∀ r,Ev (fun k=>pO.j8 k (x++[44,32]) l a 91 93 false W P I sk tb nl mx ps n) r→Ev (fun k=>pO.l0 k x l i 91 93 false W P I sk tb nl mx ps n) r:=by
      intro r h
      refine obj_skip hl hw (Ev.step (f:=fun k=>pO.j7 k x l a 91 93 false W P I sk tb nl mx ps n true) (fun k=>?_) (Ev.step (fun k=>?_) h))
      · simp only [pO.l0]
        rw [if_pos ha2,if_pos ha1,if_neg om,if_neg om,if_pos (by trivial)]
      · simp only [pO.j7]
        rw [if_pos (by trivial),if_pos om,if_pos (by unfold lim at hx;omega),Option.bind_some,if_neg om,if_pos (by trivial),if_pos (by simp only [List.length_append,List.length_cons,List.length_nil];unfold lim at hx;omega),List.append_assoc];rfl
    cases ho:t.objs with
    | true =>
      rw [ho] at hz
      refine ⟨44 :: 32 :: z,i',nl',first _ ?_,by simp only [List.length_cons];omega,fun h=>?_⟩
      · simp only [TL.objs,ho,Bool.true_or]
        have e:x++44 :: 32 :: z=x++[44,32]++z:=by simp
        rw [e]
        exact line_no hm (any_f hz)
      · simp only [TL.objs,ho,Bool.true_or] at h;cases h
    | false =>
      obtain ⟨h1,h2⟩:=hq ho
      subst h1;subst h2
      rw [ho] at hz
      obtain ⟨z2,i2,nl2,hz2,hlen2,hq2⟩:=line_T hW hm hl kk (x++[44,32]++t.line) i' e tb nl' ps (n+1) om om hk (by have:=T.line_len t;simp only [List.length_append,List.length_cons,List.length_nil];omega)
      refine ⟨44 :: 32 :: (t.line++z2),i2,nl2,first _ (line_yes hm om om ⟨by omega,by omega⟩ (any_f hz) ?_),by simp only [List.length_append,List.length_cons];omega,fun h=>?_⟩
      · simp only [TL.objs,ho,Bool.false_or]
        have e:x++44 :: 32 :: (t.line++z2)=x++[44,32]++t.line++z2:=by simp
        rw [e]
        exact hz2
      · simp only [TL.objs,ho,Bool.false_or] at h
        obtain ⟨h1,h2⟩:=hq2 h
        exact ⟨by simp only [TL.line1];rw [h1],h2⟩
end
end Go.Proofs.Ytbkgoccnegjdhaa.U

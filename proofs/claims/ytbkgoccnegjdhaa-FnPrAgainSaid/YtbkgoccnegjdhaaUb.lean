/- The package's appendPrettyAny and appendPrettyObject in plain words: what they write of a tree, with its members as they stand or sorted. -/
import Derived.Test.YtbkgoccnegjdhaaUg
namespace Go.Proofs.Ytbkgoccnegjdhaa.U
open Go.RowKit Go.Proofs.YtbkgoccnegjdhaaW.PrintWords Go.Proofs.YtbkgoccnegjdhaaW.PrintLast Go.Proofs.YtbkgoccnegjdhaaW.PrintMore Go.Proofs.Ytbkgoccnegjdhaa.M Go.Proofs.Ytbkgoccnegjdhaa.Q
set_option linter.unusedVariables false
variable {l:List Int} {W:Int} {P I:ByteArray} {sk:Bool}
@[irreducible] def lim2:Int:=1300000000
theorem lim2_eq:lim2=1300000000:=by unfold lim2;rfl
theorem lim_big:(1300000000:Int)<lim:=by unfold lim;omega
theorem sx_t (hs:sk=true) {t:T} : t.sx sk=t.srt:=by subst hs;rfl
theorem sx_obj_t (hs:sk=true) {m:TM} : (T.obj m).sx sk = .obj m.srt:=by subst hs;rfl
theorem sx_f (hs:sk=false) {t:T} : t.sx sk=t:=by subst hs;rfl
/-- What the try of an array on one line comes to. -/
theorem obj_line {x:List Int} {mx i e tb nl:Int} {kk:TL} (hW:0<W) (hm:mx ≠ -1) (hl:l.length≤4611686018427387904) (h0:0≤i) (hi:i<l.length) (sk:Bool) (hr:RdF l kk (i+1) e) (hx:(x.length:Int)+3*kk.sz+13<lim) :
    ∃ z i' nl',Ev (fun k=>pO.f k x l i 91 93 false W P I sk tb nl mx) (x++91 :: z,i',nl', !kk.objs)∧z.length≤3*kk.sz+1∧(kk.objs=false→z=kk.line0∧i'=e):=by
  obtain ⟨z,i',nl',hz,hlen,hq⟩:=line_F (P:=P) (I:=I) (sk:=sk) hW hm hl kk (x++[91]) (i+1) e tb nl [] hr oJ
  refine ⟨z,i',nl',?_,hlen,hq⟩
  rw [List.append_assoc] at hz
  refine Ev.step (f:=fun k=>pO.j0 k x l i 91 93 false W P I sk tb nl mx false) (fun k=>by simp only [pO.f];rw [if_pos om,if_neg (by simp)]) ?_
  refine Ev.step (f:=fun k=>pO.j1 k x l i 91 93 false W P I sk tb nl mx) (fun k=>by simp only [pO.j0];rw [if_neg (by simp),if_neg hm,if_neg (by decide)]) ?_
  refine Ev.step (f:=fun k=>pO.j2 k (x++[91]) l (i+1) 91 93 false W P I sk tb nl mx [] false) (fun k=>by simp only [pO.j1];rw [if_pos (by unfold lim at hx;omega),Option.bind_some,if_neg (by decide),wr om om]) ?_
  refine Ev.step (f:=fun k=>pO.j3 k (x++[91]) l (i+1) 91 93 false W P I sk tb nl mx []) (fun k=>by simp only [pO.j2];rw [if_neg (by simp)]) ?_
  exact Ev.step (fun k=>by simp only [pO.j3]) hz
theorem j1_go {x:List Int} {i nl op cl:Int} {m:Nat} {r:List Int × Int × Int × Bool} (h0:0≤i) (hi:i<l.length) (hl:l.length≤4611686018427387904) (hx:(x.length:Int)<lim)
    (h:Ev (fun k=>pO.l0 k (x++[op]) l (i+1) op cl true W P I sk m nl (-1) [] 0) r):Ev (fun k=>pO.j1 k x l i op cl true W P I sk m nl (-1)) r:=by
  have h2 : ∀ b:Bool,Ev (fun k=>pO.j2 k (x++[op]) l (i+1) op cl true W P I sk m nl (-1) [] b) r:=fun b=>by
    refine Ev.step (f:=fun k=>pO.j3 k (x++[op]) l (i+1) op cl true W P I sk m nl (-1) []) (fun k=>?_) (Ev.step (fun k=>by simp only [pO.j3]) h)
    simp only [pO.j2]
    cases b
    · rw [if_neg (by simp)]
    · rw [if_pos (by trivial),if_pos om]
  by_cases ho:op=123
  · refine Ev.step (fun k=>?_) (h2 sk)
    simp only [pO.j1]
    rw [if_pos (by unfold lim at hx;omega),Option.bind_some,wr om om,if_pos ho]
  · refine Ev.step (fun k=>?_) (h2 false)
    simp only [pO.j1]
    rw [if_pos (by unfold lim at hx;omega),Option.bind_some,wr om om,if_neg ho]
/-- A member's name. -/
theorem p_name {x:List Int} {i nl mx n cl k0 k1 k2 k3:Int} {m:Nat} {ps:List S82} {nm:List Int} {r:List Int × Int × Int × Bool} (hl:l.length≤4611686018427387904) (hn:At l i nm) (hok:StrOK nm) (hx:(x.length:Int)+nm.length+10<lim)
    (h:Ev (fun k=>pO.j10 k (x++nm++[58]++[32]) l (i+nm.length) 123 cl true W P I sk m nl mx ps n k0 (if sk=true then i+nm.length else k1) k2 k3) r) :
    Ev (fun k=>pO.j9 k x l i 123 cl true W P I sk m nl mx ps n k0 k1 k2 k3) r:=by
  have hs:=string_ev (x:=x) (nl:=nl) hl hn hok om
  have hxx:=hx
  unfold lim at hxx
  cases sk with
  | true =>
    refine Ev.step (f:=fun k=>(pS.f k x l i nl).bind fun t=>if t.1.length<140737488355328 then (if (t.1++[58]).length<140737488355328 then pO.j10 k (t.1++[58]++[32]) l t.2.1 123 cl true W P I true m t.2.2.1 mx ps n k0 t.2.1 k2 k3 else none) else none) (fun k=>?_) (Ev.bind hs (Ev.congr (fun k=>?_) h))
    · simp only [pO.j9]
      rw [if_pos (by trivial)]
      rfl
    · dsimp only
      rw [if_pos (by simp only [List.length_append];omega),if_pos oJ]
      rfl
  | false =>
    refine Ev.step (f:=fun k=>(pS.f k x l i nl).bind fun t=>if t.1.length<140737488355328 then (if (t.1++[58]).length<140737488355328 then pO.j10 k (t.1++[58]++[32]) l t.2.1 123 cl true W P I false m t.2.2.1 mx ps n k0 k1 k2 k3 else none) else none) (fun k=>?_) (Ev.bind hs (Ev.congr (fun k=>?_) h))
    · simp only [pO.j9]
      rw [if_pos (by trivial)]
      rfl
    · dsimp only
      rw [if_pos (by simp only [List.length_append];omega),if_pos oJ]
      rfl
mutual
theorem any_lay (hI:I.size≤64) (hW : -9223372036854775808≤W∧W≤9223372036854775807) (hl2:l.length≤2000000000) (hq:sk=true → ∀ c,c ∈ l→c≠92) : ∀ (t:T) (x:List Int) (i e:Int) (m:Nat) (nl col:Int),Rd l t i e→(sk=true→t.uq)→StopAt l e→0≤nl→nl≤x.length→(0<W→col=x.length - nl)→t.sz≤4096→P.size+64*m+64*t.sz≤262208→(x.length:Int)+262300*t.sz+1000000<lim2 →
    ∃ nl' ok,Ev (fun k=>pA.l0 k x l i true W P I sk m nl (-1)) (x++(t.sx sk).lay W (bytesOf I) (ahd (bytesOf P) (bytesOf I) m) col,e,nl',ok)
  | .leaf b,x,i,e,m,nl,col,h,hu,hst,hn0,hn1,hc,hz,hm,hx=>by
    have hl:l.length≤4611686018427387904:=by omega
    have hlm:=lim_big
    have hl3:=lim2_eq
    simp only [Rd] at h
    obtain ⟨ha,he,hb⟩:=h
    simp only [T.sz] at hx
    subst he
    rw [sx_leaf]
    simp only [T.lay]
    exact ⟨nl,true,any_leaf hl ha hb hst om⟩
  | .arr kk,x,i,e,m,nl,col,h,hu,hst,hn0,hn1,hc,hz,hm,hx=>by
    have hl:l.length≤4611686018427387904:=by omega
    have hlm:=lim_big
    have hl3:=lim2_eq
    simp only [Rd] at h
    obtain ⟨ha,hr⟩:=h
    simp only [T.sz] at hz hm hx
    have ha0:=ha.1
    have ha1:=ha.2.1
    have hb:=hx
    obtain ⟨nlm,okm,hmul'⟩:=lay_F hI hW hl2 hq kk x (i+1) e m nl hr (fun hs=>by have:=hu hs;simp only [T.uq] at this;exact this) om om om
    have hmul:Ev (fun k=>pO.j1 k x l i 91 93 true W P I sk m nl (-1)) (x++91 :: (kk.sx sk).layF W (bytesOf I) (ahd (bytesOf P) (bytesOf I) m),e,nlm,okm):=by
      refine j1_go ha0 ha1 hl om ?_
      rw [List.append_assoc] at hmul'
      exact hmul'
    by_cases hw:0<W
    · have hcc:=hc hw
      have hf : ∀ r,Ev (fun k=>pO.j0 k x l i 91 93 true W P I sk m nl (-1) true) r→Ev (fun k=>pA.l0 k x l i true W P I sk m nl (-1)) r:=by
        intro r h
        refine any_arr ha (Ev.step (fun k=>?_) h)
        simp only [pO.f]
        rw [if_pos om,if_pos (by trivial),if_pos (by trivial)];rfl
      have hwr:wrap64 (W - (wrap64 ((x.length:Int) - nl)))=W - col:=by
        rw [wr (i:=(x.length:Int) - nl) om om,wr om om,hcc]
      by_cases h3:3<W - col
      · obtain ⟨z,i',nl',hz',hlen,hq⟩:=obj_line (P:=P) (I:=⟨#[]⟩) (x:=x) (mx:=W - col) (tb:=0) (nl:=0) hw om hl ha0 ha1 sk hr om
        have hcut:(x++91 :: z).take ((x.length:Int)).toNat=x:=by
          rw [Int.toNat_natCast,List.take_left]
        have hgo : ∀ r,(if kk.objs=false∧(kk.line0.length:Int)+1≤W - col then r=(x++91 :: kk.line0,e,nl,true) else Ev (fun k=>pO.j1 k x l i 91 93 true W P I sk m nl (-1)) r)→Ev (fun k=>pO.j0 k x l i 91 93 true W P I sk m nl (-1) true) r:=by
          intro r hr'
          refine Ev.step (f:=fun k=>(pO.f k x l i 91 93 false W P (⟨#[]⟩:ByteArray) sk 0 0 (W - col)).bind fun t=>if t.2.2.2=true then (if wrap64 ((t.1.length:Int) - (x.length:Int))≤W - col then some (t.1,t.2.1,nl,true) else if 0≤(x.length:Int) then if (x.length:Int)≤(t.1.length:Int) then pO.j1 k (t.1.take ((x.length:Int):Int).toNat) l i 91 93 true W P I sk m nl (-1) else none else none) else if 0≤(x.length:Int) then if (x.length:Int)≤(t.1.length:Int) then pO.j1 k (t.1.take ((x.length:Int):Int).toNat) l i 91 93 true W P I sk m nl (-1) else none else none) (fun k=>?_) (Ev.bind hz' ?_)
          · simp only [pO.j0]
            rw [if_pos (by trivial),hwr,if_pos h3]
          · have hl1:((x++91 :: z).length:Int)=(x.length:Int)+(z.length+1):=by simp
            cases ho:kk.objs with
            | true =>
              rw [ho,if_neg (by simp)] at hr'
              refine Ev.congr (fun k=>?_) hr'
              dsimp only
              rw [if_neg (by simp),if_pos om,if_pos om,hcut]
            | false =>
              obtain ⟨e1,e2⟩:=hq ho
              subst e1;subst e2
              by_cases hfit:(kk.line0.length:Int)+1≤W - col
              · rw [if_pos ⟨ho,hfit⟩] at hr'
                subst hr'
                refine Ev.congr (fun k=>?_) (Ev.now _)
                dsimp only
                rw [if_pos (by simp),hl1,wr om om,if_pos om]
              · rw [if_neg (fun h=>hfit h.2)] at hr'
                refine Ev.congr (fun k=>?_) hr'
                dsimp only
                rw [if_pos (by simp),hl1,wr om om,if_neg om,if_pos om,if_pos om,hcut]
        by_cases hfit:kk.objs=false∧(kk.line0.length:Int)+1≤W - col
        · have el:((T.arr kk).sx sk).lay W (bytesOf I) (ahd (bytesOf P) (bytesOf I) m) col=91 :: kk.line0:=by
            rw [sx_arr,sxL_line hfit.1];simp only [T.lay];rw [if_pos ⟨hw,h3,hfit.1,hfit.2⟩]
          rw [el]
          exact ⟨nl,true,hf _ (hgo _ (by rw [if_pos hfit]))⟩
        · have el:((T.arr kk).sx sk).lay W (bytesOf I) (ahd (bytesOf P) (bytesOf I) m) col=91 :: (kk.sx sk).layF W (bytesOf I) (ahd (bytesOf P) (bytesOf I) m):=by
            rw [sx_arr];simp only [T.lay];rw [if_neg (fun h=>hfit (by
                      have ho:kk.objs=false:=by rw [← sxL_objs (sk:=sk)];exact h.2.2.1
                      have h4:=h.2.2.2
                      rw [sxL_line ho] at h4
                      exact ⟨ho,h4⟩))]
          rw [el]
          exact ⟨nlm,okm,hf _ (hgo _ (by rw [if_neg hfit];exact hmul))⟩
      · have el:((T.arr kk).sx sk).lay W (bytesOf I) (ahd (bytesOf P) (bytesOf I) m) col=91 :: (kk.sx sk).layF W (bytesOf I) (ahd (bytesOf P) (bytesOf I) m):=by
          rw [sx_arr];simp only [T.lay];rw [if_neg (fun h=>h3 h.2.1)]
        rw [el]
        refine ⟨nlm,okm,hf _ (Ev.step (fun k=>?_) hmul)⟩
        simp only [pO.j0]
        rw [if_pos (by trivial),hwr,if_neg om]
    · have el:((T.arr kk).sx sk).lay W (bytesOf I) (ahd (bytesOf P) (bytesOf I) m) col=91 :: (kk.sx sk).layF W (bytesOf I) (ahd (bytesOf P) (bytesOf I) m):=by
        rw [sx_arr];simp only [T.lay];rw [if_neg (fun h=>hw h.1)]
      rw [el]
      refine ⟨nlm,okm,any_arr ha (Ev.step (fun k=>?_) hmul)⟩
      simp only [pO.f]
      rw [if_neg om]
  | .obj mm,x,i,e,m,nl,col,h,hu,hst,hn0,hn1,hc,hz,hm,hx=>by
    have hl:l.length≤4611686018427387904:=by omega
    have hlm:=lim_big
    have hl3:=lim2_eq
    simp only [Rd] at h
    obtain ⟨ha,hr⟩:=h
    simp only [T.sz] at hz hm hx
    have ha0:=ha.1
    have ha1:=ha.2.1
    have huu:sk=true→mm.uq:=fun hs=>by have:=hu hs;simp only [T.uq] at this;exact this
    have hgo : ∀ mx:TM,(T.obj mm).sx sk = .obj mx→(∃ nl' ok,Ev (fun k=>pO.l0 k (x++[123]) l (i+1) 123 125 true W P I sk m nl (-1) [] 0) (x++[123]++mx.layF W (bytesOf I) (ahd (bytesOf P) (bytesOf I) m),e,nl',ok)) → ∃ nl' ok,Ev (fun k=>pA.l0 k x l i true W P I sk m nl (-1)) (x++((T.obj mm).sx sk).lay W (bytesOf I) (ahd (bytesOf P) (bytesOf I) m) col,e,nl',ok):=by
      rintro mx hmx ⟨nlm,okm,hmul'⟩
      have hmul:Ev (fun k=>pO.j1 k x l i 123 125 true W P I sk m nl (-1)) (x++123 :: mx.layF W (bytesOf I) (ahd (bytesOf P) (bytesOf I) m),e,nlm,okm):=by
        refine j1_go ha0 ha1 hl om ?_
        rw [List.append_assoc] at hmul'
        exact hmul'
      rw [hmx]
      simp only [T.lay]
      refine ⟨nlm,okm,any_obj ha ?_⟩
      by_cases hw:0<W
      · refine Ev.step (f:=fun k=>pO.j0 k x l i 123 125 true W P I sk m nl (-1) false) (fun k=>?_) (Ev.step (fun k=>?_) hmul)
        · simp only [pO.f]
          rw [if_pos om,if_pos (by trivial),if_neg (by decide)]
        · simp only [pO.j0]
          rw [if_neg (by simp),if_pos (by trivial)]
      · refine Ev.step (fun k=>?_) hmul
        simp only [pO.f]
        rw [if_neg om]
    by_cases hs:sk=true
    · exact hgo _ (sx_obj_t hs) (lay_Gs hI hW hl2 hq hs mm x (i+1) e m nl hr (huu hs) om om om)
    · exact hgo _ (sx_f (by simpa using hs)) (lay_G hI hW hl2 hq (by simpa using hs) mm x (i+1) e m nl hr om om om)
theorem lay_F (hI:I.size≤64) (hW : -9223372036854775808≤W∧W≤9223372036854775807) (hl2:l.length≤2000000000) (hq:sk=true → ∀ c,c ∈ l→c≠92) : ∀ (kk:TL) (y:List Int) (i e:Int) (m:Nat) (nl:Int),RdF l kk i e→(sk=true→kk.uq)→kk.sz≤4095→P.size+64*m+64*kk.sz+64≤262208→(y.length:Int)+262300*kk.sz+1200000<lim2 →
    ∃ nl' ok,Ev (fun k=>pO.l0 k (y++[91]) l i 91 93 true W P I sk m nl (-1) [] 0) (y++[91]++(kk.sx sk).layF W (bytesOf I) (ahd (bytesOf P) (bytesOf I) m),e,nl',ok)
  | .nil,y,i,e,m,nl,h,hu,hz,hm,hx=>by
    have hl:l.length≤4611686018427387904:=by omega
    have hlm:=lim_big
    have hl3:=lim2_eq
    simp only [RdF] at h
    obtain ⟨a,hw,ha,he⟩:=h
    subst he
    rw [sx_nil]
    simp only [TL.layF]
    exact ⟨nl,_,obj_skip hl hw (p_nil (by decide) ha hl om)⟩
  | .cons t kk,y,i,e,m,nl,h,hu,hz,hm,hx=>by
    have hl:l.length≤4611686018427387904:=by omega
    have hlm:=lim_big
    have hl3:=lim2_eq
    simp only [RdF] at h
    obtain ⟨a,c,hw,hr,hk⟩:=h
    simp only [TL.sz] at hz hm hx
    have hut:sk=true→t.uq:=fun hs=>by have:=hu hs;simp only [TL.uq] at this;exact this.1
    have huk:sk=true→kk.uq:=fun hs=>by have:=hu hs;simp only [TL.uq] at this;exact this.2
    have hb:=T.sz_le t hr
    have hb2:=TL.szT_le kk hk
    have hi0:=hw.1
    have hi1:=hw.2.1
    have hne:=first_byte hr
    have hPl:=ahd_le (p:=bytesOf P) (ind:=bytesOf I) (by rw [bytesOf_length];exact hI) (m+1)
    rw [bytesOf_length] at hPl
    have hlay:=T.lay_len W (ind:=bytesOf I) (by rw [bytesOf_length];exact hI) (t.sx sk) (ahd (bytesOf P) (bytesOf I) (m+1)) (((ahd (bytesOf P) (bytesOf I) (m+1)).length:Int)+1) (by rw [sx_sz];omega)
    rw [sx_sz] at hlay
    obtain ⟨z,d,hzd,hd⟩:=T.lay_last_sx hr sk W (bytesOf I) (ahd (bytesOf P) (bytesOf I) (m+1)) (((ahd (bytesOf P) (bytesOf I) (m+1)).length:Int)+1)
    obtain ⟨nl1,ok1,h1⟩:=any_lay hI hW hl2 hq t (y++[91]++[10]++ahd (bytesOf P) (bytesOf I) (m+1)) a c (m+1) ((y.length:Int)+1) (((ahd (bytesOf P) (bytesOf I) (m+1)).length:Int)+1) hr hut hk.stop om oJ (fun _=>by simp only [List.length_append,List.length_cons,List.length_nil];omega) om om oJ
    rw [hzd] at hlay
    simp only [List.length_append,List.length_cons,List.length_nil] at hlay
    obtain ⟨nl2,ok2,h2⟩:=lay_T hI hW hl2 hq kk (y++[91]++[10]++ahd (bytesOf P) (bytesOf I) (m+1)++z) d c e m nl1 (0+1) hd om om hk huk om om oJ
    refine ⟨nl2,ok2,obj_skip hl hw ?_⟩
    have e3:y++[91]++[10]++ahd (bytesOf P) (bytesOf I) (m+1)++z++[d]++(kk.sx sk).layT W (bytesOf I) (ahd (bytesOf P) (bytesOf I) m)=y++[91]++((TL.cons t kk).sx sk).layF W (bytesOf I) (ahd (bytesOf P) (bytesOf I) m):=by
      rw [sx_cons]
      simp only [TL.layF]
      show _=y++[91]++10 :: (ahd (bytesOf P) (bytesOf I) (m+1)++((t.sx sk).lay W (bytesOf I) (ahd (bytesOf P) (bytesOf I) (m+1)) (((ahd (bytesOf P) (bytesOf I) (m+1)).length:Int)+1)++(kk.sx sk).layT W (bytesOf I) (ahd (bytesOf P) (bytesOf I) m)))
      rw [hzd];simp
    rw [e3] at h2
    rw [hzd, ← List.append_assoc] at h1
    refine Ev.step (f:=fun k=>pO.j7 k (y++[91]) l a 91 93 true W P I sk m nl (-1) [] 0 true) (fun k=>?_) (Ev.step (f:=fun k=>pO.j8 k (y++[91]) l a 91 93 true W P I sk m nl (-1) [] 0) (fun k=>?_) ?_)
    · simp only [pO.l0]
      rw [if_pos hne.2.2.2.2.2.2,if_pos hne.1,if_neg hne.2.1,if_neg hne.2.2.1,if_pos (by trivial)]
    · simp only [pO.j7]
      rw [if_pos (by trivial),if_neg om]
    · refine p_j8 hI om (.inl rfl) (by decide) (by push_cast;omega) ?_
      refine Ev.step (fun k=>?_) (p_val (cl:=93) (.inl rfl) om om om ⟨by omega,by omega⟩ (any_f h1) h2)
      simp only [pO.j9];rw [if_neg (by decide)]
theorem lay_T (hI:I.size≤64) (hW : -9223372036854775808≤W∧W≤9223372036854775807) (hl2:l.length≤2000000000) (hq:sk=true → ∀ c,c ∈ l→c≠92) : ∀ (kk:TL) (y:List Int) (c i e:Int) (m:Nat) (nl n:Int),c≠32→0<n→n≤1+i→RdT l kk i e→(sk=true→kk.uq)→kk.sz≤4095→P.size+64*m+64*kk.sz+64≤262208→(y.length:Int)+262300*kk.sz+1000000<lim2 →
    ∃ nl' ok,Ev (fun k=>pO.l0 k (y++[c]) l i 91 93 true W P I sk m nl (-1) [] n) (y++[c]++(kk.sx sk).layT W (bytesOf I) (ahd (bytesOf P) (bytesOf I) m),e,nl',ok)
  | .nil,y,c,i,e,m,nl,n,hc,hn0,hn1,h,hu,hz,hm,hx=>by
    have hl:l.length≤4611686018427387904:=by omega
    have hlm:=lim_big
    have hl3:=lim2_eq
    simp only [RdT] at h
    obtain ⟨a,hw,ha,he⟩:=h
    subst he
    rw [sx_nil]
    simp only [TL.layT]
    exact ⟨_,_,obj_skip hl hw (p_end hI om om (by decide) hc ha hl hn0 om (by rw [if_neg (fun h=>absurd h.1 (by decide))]))⟩
  | .cons t kk,y,c,i,e,m,nl,n,hc,hn0,hn1,h,hu,hz,hm,hx=>by
    have hl:l.length≤4611686018427387904:=by omega
    have hlm:=lim_big
    have hl3:=lim2_eq
    simp only [RdT] at h
    obtain ⟨a,b,c',hw,ha,hw2,hr,hk⟩:=h
    simp only [TL.sz] at hz hm hx
    have hut:sk=true→t.uq:=fun hs=>by have:=hu hs;simp only [TL.uq] at this;exact this.1
    have huk:sk=true→kk.uq:=fun hs=>by have:=hu hs;simp only [TL.uq] at this;exact this.2
    have hb:=T.sz_le t hr
    have hb2:=TL.szT_le kk hk
    have hi0:=hw.1
    have hi1:=hw.2.1
    have hi2:=hw2.2.1
    have ha1:=ha.1
    have ha2:=ha.2.1
    have ha3:=ha.2.2.1
    have hxx:=hx
    have hPl:=ahd_le (p:=bytesOf P) (ind:=bytesOf I) (by rw [bytesOf_length];exact hI) (m+1)
    rw [bytesOf_length] at hPl
    have hlay:=T.lay_len W (ind:=bytesOf I) (by rw [bytesOf_length];exact hI) (t.sx sk) (ahd (bytesOf P) (bytesOf I) (m+1)) ((ahd (bytesOf P) (bytesOf I) (m+1)).length:Int) (by rw [sx_sz];omega)
    rw [sx_sz] at hlay
    obtain ⟨z,d,hzd,hd⟩:=T.lay_last_sx hr sk W (bytesOf I) (ahd (bytesOf P) (bytesOf I) (m+1)) ((ahd (bytesOf P) (bytesOf I) (m+1)).length:Int)
    rw [hzd] at hlay
    simp only [List.length_append,List.length_cons,List.length_nil] at hlay
    -- the line's beginning: where the column counts from
    have main : ∀ nl0:Int,0≤nl0→nl0≤(y.length:Int)+3→(0<W→nl0=(y.length:Int)+3) → ∃ nl' ok,Ev (fun k=>pO.j9 k (y++[c]++[44]++[10]++ahd (bytesOf P) (bytesOf I) (m+1)) l a 91 93 true W P I sk m nl0 (-1) [] n 0 0 0 0) (y++[c]++((TL.cons t kk).sx sk).layT W (bytesOf I) (ahd (bytesOf P) (bytesOf I) m),e,nl',ok):=by
      intro nl0 hl0 hl1 hl4
      obtain ⟨nl1,ok1,h1'⟩:=any_lay hI hW hl2 hq t (y++[c]++[44]++[10]++ahd (bytesOf P) (bytesOf I) (m+1)) b c' (m+1) nl0 ((ahd (bytesOf P) (bytesOf I) (m+1)).length:Int) hr hut hk.stop hl0 oJ (fun hw=>by have:=hl4 hw;simp only [List.length_append,List.length_cons,List.length_nil];omega) om om oJ
      have h1:=any_skip hl ((Sk.one ha om).trans hw2.toSk) h1'
      obtain ⟨nl2,ok2,h2⟩:=lay_T hI hW hl2 hq kk (y++[c]++[44]++[10]++ahd (bytesOf P) (bytesOf I) (m+1)++z) d c' e m nl1 (n+1) hd om om hk huk om om oJ
      refine ⟨nl2,ok2,?_⟩
      have e3:y++[c]++[44]++[10]++ahd (bytesOf P) (bytesOf I) (m+1)++z++[d]++(kk.sx sk).layT W (bytesOf I) (ahd (bytesOf P) (bytesOf I) m)=y++[c]++((TL.cons t kk).sx sk).layT W (bytesOf I) (ahd (bytesOf P) (bytesOf I) m):=by
        rw [sx_cons]
        simp only [TL.layT]
        show _=y++[c]++44 :: 10 :: (ahd (bytesOf P) (bytesOf I) (m+1)++((t.sx sk).lay W (bytesOf I) (ahd (bytesOf P) (bytesOf I) (m+1)) ((ahd (bytesOf P) (bytesOf I) (m+1)).length:Int)++(kk.sx sk).layT W (bytesOf I) (ahd (bytesOf P) (bytesOf I) m)))
        rw [hzd];simp
      rw [e3] at h2
      rw [hzd, ← List.append_assoc] at h1
      refine Ev.step (fun k=>?_) (p_val (cl:=93) (.inl rfl) om om om ⟨by omega,by omega⟩ (any_f h1) h2)
      simp only [pO.j9];rw [if_neg (by decide)]
    have first : ∀ r,(if W = -1 then Ev (fun k=>pO.j8 k (y++[c]++[44]) l a 91 93 true W P I sk m nl (-1) [] n) r else Ev (fun k=>pO.j8 k (y++[c]++[44]++[32]) l a 91 93 true W P I sk m nl (-1) [] n) r)→Ev (fun k=>pO.l0 k (y++[c]) l i 91 93 true W P I sk m nl (-1) [] n) r:=by
      intro r hr'
      refine obj_skip hl hw (Ev.step (f:=fun k=>pO.j7 k (y++[c]) l a 91 93 true W P I sk m nl (-1) [] n true) (fun k=>?_) ?_)
      · simp only [pO.l0]
        rw [if_pos ha2,if_pos ha1,if_neg om,if_neg om,if_pos (by trivial)]
      · by_cases hw1:W = -1
        · rw [if_pos hw1] at hr'
          refine Ev.step (fun k=>?_) hr'
          simp only [pO.j7]
          rw [if_pos (by trivial),if_pos om,if_pos oJ,Option.bind_some,if_pos hw1]
        · rw [if_neg hw1] at hr'
          refine Ev.step (fun k=>?_) hr'
          simp only [pO.j7]
          rw [if_pos (by trivial),if_pos om,if_pos oJ,Option.bind_some,if_neg hw1,if_pos (by trivial),if_pos oJ]
    by_cases hw1:W = -1
    · obtain ⟨nl',ok,h⟩:=main ((y++[c]).length+1) oJ oJ (fun h=>by omega)
      refine ⟨nl',ok,first _ ?_⟩
      rw [if_pos hw1]
      exact p_j8 hI om (.inl rfl) (by decide) oj h
    · obtain ⟨nl',ok,h⟩:=main ((y++[c]++[44]).length+1) oJ oJ (fun h=>by simp only [List.length_append,List.length_cons,List.length_nil];omega)
      refine ⟨nl',ok,first _ ?_⟩
      rw [if_neg hw1]
      exact p_j8' hI om (.inl rfl) oj h
theorem lay_G (hI:I.size≤64) (hW : -9223372036854775808≤W∧W≤9223372036854775807) (hl2:l.length≤2000000000) (hq:sk=true → ∀ c,c ∈ l→c≠92) (hs:sk=false) : ∀ (mm:TM) (y:List Int) (i e:Int) (m:Nat) (nl:Int),RdG l mm i e→mm.sz≤4095→P.size+64*m+64*mm.sz+64≤262208→(y.length:Int)+262300*mm.sz+1200000<lim2 →
    ∃ nl' ok,Ev (fun k=>pO.l0 k (y++[123]) l i 123 125 true W P I sk m nl (-1) [] 0) (y++[123]++mm.layF W (bytesOf I) (ahd (bytesOf P) (bytesOf I) m),e,nl',ok)
  | .nil,y,i,e,m,nl,h,hz,hm,hx=>by
    have hl:l.length≤4611686018427387904:=by omega
    have hlm:=lim_big
    have hl3:=lim2_eq
    have hu0 : ∀ {t:T}, sk=true→t.uq:=fun h=>by rw [hs] at h;cases h
    simp only [RdG] at h
    obtain ⟨a,hw,ha,he⟩:=h
    subst he
    simp only [TM.layF]
    exact ⟨nl,_,obj_skip hl hw (p_nil (by decide) ha hl om)⟩
  | .cons nm t mm,y,i,e,m,nl,h,hz,hm,hx=>by
    have hl:l.length≤4611686018427387904:=by omega
    have hlm:=lim_big
    have hl3:=lim2_eq
    have hu0 : ∀ {t:T}, sk=true→t.uq:=fun h=>by rw [hs] at h;cases h
    simp only [RdG] at h
    obtain ⟨a,b,c2,e2,hw,hn,hok,hw2,hc0,hw3,hr,hk⟩:=h
    simp only [TM.sz] at hz hm hx
    have hxx:=hx
    obtain ⟨nr,hnr,hns⟩:=hok
    have hn1:rd l a=34∧a<l.length∧0≤a:=by subst hnr;exact ⟨hn.2.2.1,hn.2.1,hn.1⟩
    have hb:=T.sz_le t hr
    have hb2:=TM.szT_le mm hk
    have hnb:=hn.bound
    have hi0:=hw.1
    have hi1:=hw.2.1
    have hi2:=hw2.2.1
    have hi3:=hw3.2.1
    have hPl:=ahd_le (p:=bytesOf P) (ind:=bytesOf I) (by rw [bytesOf_length];exact hI) (m+1)
    rw [bytesOf_length] at hPl
    have hlay:=T.lay_len W (ind:=bytesOf I) (by rw [bytesOf_length];exact hI) t (ahd (bytesOf P) (bytesOf I) (m+1)) (((ahd (bytesOf P) (bytesOf I) (m+1)).length:Int)+nm.length+3) om
    obtain ⟨z,d,hzd,hd⟩:=T.lay_last hr W (bytesOf I) (ahd (bytesOf P) (bytesOf I) (m+1)) (((ahd (bytesOf P) (bytesOf I) (m+1)).length:Int)+nm.length+3)
    rw [hzd] at hlay
    simp only [List.length_append,List.length_cons,List.length_nil] at hlay
    obtain ⟨nl1,ok1,h1'⟩:=any_lay hI hW hl2 hq t (y++[123]++[10]++ahd (bytesOf P) (bytesOf I) (m+1)++nm++[58]++[32]) c2 e2 (m+1) ((y.length:Int)+1) (((ahd (bytesOf P) (bytesOf I) (m+1)).length:Int)+nm.length+3) hr hu0 hk.stop om oJ (fun _=>by simp only [List.length_append,List.length_cons,List.length_nil];omega) om om oJ
    rw [sx_f hs] at h1'
    have h1:=any_skip hl (hw2.toSk.trans ((Sk.one hc0 om).trans hw3.toSk)) h1'
    obtain ⟨nl2,ok2,h2⟩:=lay_M hI hW hl2 hq hs mm (y++[123]++[10]++ahd (bytesOf P) (bytesOf I) (m+1)++nm++[58]++[32]++z) d e2 e m nl1 (0+1) hd om om hk om om oJ
    refine ⟨nl2,ok2,?_⟩
    have e3:y++[123]++[10]++ahd (bytesOf P) (bytesOf I) (m+1)++nm++[58]++[32]++z++[d]++mm.layT W (bytesOf I) (ahd (bytesOf P) (bytesOf I) m)=y++[123]++(TM.cons nm t mm).layF W (bytesOf I) (ahd (bytesOf P) (bytesOf I) m):=by
      simp only [TM.layF]
      show _=y++[123]++10 :: (ahd (bytesOf P) (bytesOf I) (m+1)++(nm++58 :: 32 :: (t.lay W (bytesOf I) (ahd (bytesOf P) (bytesOf I) (m+1)) (((ahd (bytesOf P) (bytesOf I) (m+1)).length:Int)+nm.length+3)++mm.layT W (bytesOf I) (ahd (bytesOf P) (bytesOf I) m))))
      rw [hzd];simp
    rw [e3] at h2
    rw [hzd, ← List.append_assoc] at h1
    have h10:Ev (fun k=>pO.j9 k (y++[123]++[10]++ahd (bytesOf P) (bytesOf I) (m+1)) l a 123 125 true W P I sk m ((y.length:Int)+1) (-1) [] (0) 0 0 0 0) (y++[123]++(TM.cons nm t mm).layF W (bytesOf I) (ahd (bytesOf P) (bytesOf I) m),e,nl2,ok2):=by
      refine p_name hl hn ⟨nr,hnr,hns⟩ oJ ?_
      rw [hs] at h1 h2 ⊢
      exact p_val (cl:=125) (.inr ⟨rfl,rfl⟩) om om om ⟨by omega,by omega⟩ (any_f h1) h2
    refine obj_skip hl hw (Ev.step (f:=fun k=>pO.j7 k (y++[123]) l a 123 125 true W P I sk m nl (-1) [] 0 true) (fun k=>?_) (Ev.step (f:=fun k=>pO.j8 k (y++[123]) l a 123 125 true W P I sk m nl (-1) [] 0) (fun k=>?_) ?_))
    · simp only [pO.l0]
      rw [if_pos hn1.2.1,if_pos hn1.2.2,if_neg om,if_neg om,if_neg (by decide),hn1.1];rfl
    · simp only [pO.j7]
      rw [if_pos (by trivial),if_neg om]
    · exact p_j8 hI om (.inr ⟨rfl,hs⟩) (by decide) (by push_cast;omega) h10
theorem lay_M (hI:I.size≤64) (hW : -9223372036854775808≤W∧W≤9223372036854775807) (hl2:l.length≤2000000000) (hq:sk=true → ∀ c,c ∈ l→c≠92) (hs:sk=false) : ∀ (mm:TM) (y:List Int) (c i e:Int) (m:Nat) (nl n:Int),c≠32→0<n→n≤1+i→RdM l mm i e→mm.sz≤4095→P.size+64*m+64*mm.sz+64≤262208→(y.length:Int)+262300*mm.sz+1000000<lim2 →
    ∃ nl' ok,Ev (fun k=>pO.l0 k (y++[c]) l i 123 125 true W P I sk m nl (-1) [] n) (y++[c]++mm.layT W (bytesOf I) (ahd (bytesOf P) (bytesOf I) m),e,nl',ok)
  | .nil,y,c,i,e,m,nl,n,hc,hn0,hn1,h,hz,hm,hx=>by
    have hl:l.length≤4611686018427387904:=by omega
    have hlm:=lim_big
    have hl3:=lim2_eq
    have hu0 : ∀ {t:T}, sk=true→t.uq:=fun h=>by rw [hs] at h;cases h
    simp only [RdM] at h
    obtain ⟨a,hw,ha,he⟩:=h
    subst he
    simp only [TM.layT]
    exact ⟨_,_,obj_skip hl hw (p_end hI om om (by decide) hc ha hl hn0 om (by rw [if_neg (fun h=>by rw [hs] at h;exact absurd h.2 (by decide))]))⟩
  | .cons nm t mm,y,c,i,e,m,nl,n,hc,hn0,hn1,h,hz,hm,hx=>by
    have hl:l.length≤4611686018427387904:=by omega
    have hlm:=lim_big
    have hl3:=lim2_eq
    have hu0 : ∀ {t:T}, sk=true→t.uq:=fun h=>by rw [hs] at h;cases h
    simp only [RdM] at h
    obtain ⟨z0,a,b,c2,e2,hw0,hz0,hw,hn,hok,hw2,hc0,hw3,hr,hk⟩:=h
    simp only [TM.sz] at hz hm hx
    have hz1:=hz0.1
    have hz2:=hz0.2.1
    have hz3:=hz0.2.2.1
    have hw01:=hw0.2.1
    have hxx:=hx
    obtain ⟨nr,hnr,hns⟩:=hok
    have hn1:rd l a=34∧a<l.length∧0≤a:=by subst hnr;exact ⟨hn.2.2.1,hn.2.1,hn.1⟩
    have hb:=T.sz_le t hr
    have hb2:=TM.szT_le mm hk
    have hnb:=hn.bound
    have hi0:=hw.1
    have hi1:=hw.2.1
    have hi2:=hw2.2.1
    have hi3:=hw3.2.1
    have hPl:=ahd_le (p:=bytesOf P) (ind:=bytesOf I) (by rw [bytesOf_length];exact hI) (m+1)
    rw [bytesOf_length] at hPl
    have hlay:=T.lay_len W (ind:=bytesOf I) (by rw [bytesOf_length];exact hI) t (ahd (bytesOf P) (bytesOf I) (m+1)) (((ahd (bytesOf P) (bytesOf I) (m+1)).length:Int)+nm.length+3) om
    obtain ⟨z,d,hzd,hd⟩:=T.lay_last hr W (bytesOf I) (ahd (bytesOf P) (bytesOf I) (m+1)) (((ahd (bytesOf P) (bytesOf I) (m+1)).length:Int)+nm.length+3)
    rw [hzd] at hlay
    simp only [List.length_append,List.length_cons,List.length_nil] at hlay
    have hyl:((y++[c]).length:Int)=(y.length:Int)+1:=by simp
    obtain ⟨nl1,ok1,h1'⟩:=any_lay hI hW hl2 hq t (y++[c]++[44]++[10]++ahd (bytesOf P) (bytesOf I) (m+1)++nm++[58]++[32]) c2 e2 (m+1) (((y++[c]).length:Int)+1) (((ahd (bytesOf P) (bytesOf I) (m+1)).length:Int)+nm.length+3) hr hu0 hk.stop om oJ (fun _=>by simp only [List.length_append,List.length_cons,List.length_nil];omega) om om oJ
    rw [sx_f hs] at h1'
    have h1:=any_skip hl (hw2.toSk.trans ((Sk.one hc0 om).trans hw3.toSk)) h1'
    obtain ⟨nl2,ok2,h2⟩:=lay_M hI hW hl2 hq hs mm (y++[c]++[44]++[10]++ahd (bytesOf P) (bytesOf I) (m+1)++nm++[58]++[32]++z) d e2 e m nl1 (n+1) hd om om hk om om oJ
    refine ⟨nl2,ok2,?_⟩
    have e3:y++[c]++[44]++[10]++ahd (bytesOf P) (bytesOf I) (m+1)++nm++[58]++[32]++z++[d]++mm.layT W (bytesOf I) (ahd (bytesOf P) (bytesOf I) m)=y++[c]++(TM.cons nm t mm).layT W (bytesOf I) (ahd (bytesOf P) (bytesOf I) m):=by
      simp only [TM.layT]
      show _=y++[c]++44 :: 10 :: (ahd (bytesOf P) (bytesOf I) (m+1)++(nm++58 :: 32 :: (t.lay W (bytesOf I) (ahd (bytesOf P) (bytesOf I) (m+1)) (((ahd (bytesOf P) (bytesOf I) (m+1)).length:Int)+nm.length+3)++mm.layT W (bytesOf I) (ahd (bytesOf P) (bytesOf I) m))))
      rw [hzd];simp
    rw [e3] at h2
    rw [hzd, ← List.append_assoc] at h1
    have h10:Ev (fun k=>pO.j9 k (y++[c]++[44]++[10]++ahd (bytesOf P) (bytesOf I) (m+1)) l a 123 125 true W P I sk m (((y++[c]).length:Int)+1) (-1) [] (n) 0 0 0 0) (y++[c]++(TM.cons nm t mm).layT W (bytesOf I) (ahd (bytesOf P) (bytesOf I) m),e,nl2,ok2):=by
      refine p_name hl hn ⟨nr,hnr,hns⟩ oJ ?_
      rw [hs] at h1 h2 ⊢
      exact p_val (cl:=125) (.inr ⟨rfl,rfl⟩) om om om ⟨by omega,by omega⟩ (any_f h1) h2
    refine obj_skip hl hw0 (Ev.step (f:=fun k=>pO.j7 k (y++[c]) l z0 123 125 true W P I sk m nl (-1) [] n false) (fun k=>?_) (Ev.step (f:=fun k=>pO.l0 k (y++[c]) l (z0+1) 123 125 true W P I sk m nl (-1) [] n) (fun k=>?_) ?_))
    · simp only [pO.l0]
      rw [if_pos hz2,if_pos hz1,if_neg om,if_neg om,if_neg (by decide),hz3];rfl
    · simp only [pO.j7]
      rw [if_neg (by simp),wr om om]
    refine obj_skip hl hw (Ev.step (f:=fun k=>pO.j7 k (y++[c]) l a 123 125 true W P I sk m nl (-1) [] n true) (fun k=>?_) (Ev.step (f:=fun k=>pO.j8 k (y++[c]++[44]) l a 123 125 true W P I sk m nl (-1) [] n) (fun k=>?_) ?_))
    · simp only [pO.l0]
      rw [if_pos hn1.2.1,if_pos hn1.2.2,if_neg om,if_neg om,if_neg (by decide),hn1.1];rfl
    · simp only [pO.j7]
      rw [if_pos (by trivial),if_pos om,if_pos oJ,Option.bind_some]
      by_cases hw1:W = -1
      · rw [if_pos hw1]
      · rw [if_neg hw1,if_neg (by decide)]
    · exact p_j8 hI om (.inr ⟨rfl,hs⟩) (by decide) oj h10
theorem lay_Gs (hI:I.size≤64) (hW : -9223372036854775808≤W∧W≤9223372036854775807) (hl2:l.length≤2000000000) (hq:sk=true → ∀ c,c ∈ l→c≠92) (hs:sk=true) : ∀ (mm:TM) (y:List Int) (i e:Int) (m:Nat) (nl:Int),RdG l mm i e→mm.uq→mm.sz≤4095→P.size+64*m+64*mm.sz+64≤262208→(y.length:Int)+262300*mm.sz+1200000<lim2 →
    ∃ nl' ok,Ev (fun k=>pO.l0 k (y++[123]) l i 123 125 true W P I sk m nl (-1) [] 0) (y++[123]++mm.srt.layF W (bytesOf I) (ahd (bytesOf P) (bytesOf I) m),e,nl',ok)
  | .nil,y,i,e,m,nl,h,hu,hz,hm,hx=>by
    have hl:l.length≤4611686018427387904:=by omega
    have hlm:=lim_big
    have hl3:=lim2_eq
    simp only [RdG] at h
    obtain ⟨a,hw,ha,he⟩:=h
    subst he
    rw [show TM.nil.srt = .nil from rfl]
    simp only [TM.layF]
    exact ⟨nl,_,obj_skip hl hw (p_nil (by decide) ha hl om)⟩
  | .cons nm t mm,y,i,e,m,nl,h,hu,hz,hm,hx=>by
    have hl:l.length≤4611686018427387904:=by omega
    have hlm:=lim_big
    have hl3:=lim2_eq
    have hap:=ks_apart (W:=W) (ind:=bytesOf I) (ah:=ahd (bytesOf P) (bytesOf I) m) hu
    simp only [TM.uq] at hu
    simp only [RdG] at h
    obtain ⟨a,b,c2,e2,hw,hn,hok,hw2,hc0,hw3,hr,hk⟩:=h
    have htold:=ToldS.one (Y:=y++[123]++[10]) hn hok (hq hs) (sgt W (bytesOf I) (ahd (bytesOf P) (bytesOf I) m) nm t.srt)
    simp only [TM.sz] at hz hm hx
    have hxx:=hx
    have hok':=hok
    obtain ⟨nr,hnr,hns⟩:=hok
    have hn1:rd l a=34∧a<l.length∧0≤a:=by subst hnr;exact ⟨hn.2.2.1,hn.2.1,hn.1⟩
    have hb:=T.sz_le t hr
    have hb2:=TM.szT_le mm hk
    have hnb:=hn.bound
    have hi0:=hw.1
    have hi1:=hw.2.1
    have hi2:=hw2.2.1
    have hi3:=hw3.2.1
    have hPl:=ahd_le (p:=bytesOf P) (ind:=bytesOf I) (by rw [bytesOf_length];exact hI) (m+1)
    rw [bytesOf_length] at hPl
    have hlay:=T.lay_len W (ind:=bytesOf I) (by rw [bytesOf_length];exact hI) (t.sx sk) (ahd (bytesOf P) (bytesOf I) (m+1)) (((ahd (bytesOf P) (bytesOf I) (m+1)).length:Int)+nm.length+3) (by rw [sx_sz];omega)
    rw [sx_sz] at hlay
    obtain ⟨z,d,hzd,hd⟩:=T.lay_last_sx hr sk W (bytesOf I) (ahd (bytesOf P) (bytesOf I) (m+1)) (((ahd (bytesOf P) (bytesOf I) (m+1)).length:Int)+nm.length+3)
    rw [hzd] at hlay
    simp only [List.length_append,List.length_cons,List.length_nil] at hlay
    obtain ⟨nl1,ok1,h1'⟩:=any_lay hI hW hl2 hq t (y++[123]++[10]++ahd (bytesOf P) (bytesOf I) (m+1)++nm++[58]++[32]) c2 e2 (m+1) ((y.length:Int)+1) (((ahd (bytesOf P) (bytesOf I) (m+1)).length:Int)+nm.length+3) hr (fun _=>hu.2.1) hk.stop om oJ (fun _=>by simp only [List.length_append,List.length_cons,List.length_nil];omega) om om oJ
    have h1:=any_skip hl (hw2.toSk.trans ((Sk.one hc0 om).trans hw3.toSk)) h1'
    have hsg:sgt W (bytesOf I) (ahd (bytesOf P) (bytesOf I) m) nm t.srt=ahd (bytesOf P) (bytesOf I) (m+1)++nm++[58]++[32]++z++[d]:=by
      show ahd (bytesOf P) (bytesOf I) (m+1)++(nm++58 :: 32 :: t.srt.lay W (bytesOf I) (ahd (bytesOf P) (bytesOf I) (m+1)) (((ahd (bytesOf P) (bytesOf I) (m+1)).length:Int)+nm.length+3))=_
      rw [sx_t hs] at hzd
      rw [hzd];simp
    have hbuf:y++[123]++[10]++sgt W (bytesOf I) (ahd (bytesOf P) (bytesOf I) m) nm t.srt=y++[123]++[10]++ahd (bytesOf P) (bytesOf I) (m+1)++nm++[58]++[32]++z++[d]:=by
      rw [hsg];simp
    rw [hbuf] at htold
    obtain ⟨nl2,ok2,h2⟩:=lay_Ms hI hW hl2 hq hs mm (y++[123]++[10]) (y++[123]++[10]++ahd (bytesOf P) (bytesOf I) (m+1)++nm++[58]++[32]++z) d e2 e m nl1 (0+1) _ _ hd om om hk hu.2.2 htold (by simp) (fun s hs'=>by rw [List.mem_singleton] at hs';subst hs';exact ⟨_,d,hsg,hd⟩)
      (by simpa only [TM.ks,TM.segs,List.cons_append,List.nil_append] using hap) (by simp only [List.length_cons,List.length_nil];omega) om om oJ
    refine ⟨nl2,ok2,?_⟩
    have e3:y++[123]++[10]++joinS ((isort dlt ([(inner nm,sgt W (bytesOf I) (ahd (bytesOf P) (bytesOf I) m) nm t.srt)]++mm.ks.segs W (bytesOf I) (ahd (bytesOf P) (bytesOf I) m))).map (·.2))++10 :: (ahd (bytesOf P) (bytesOf I) m++[125])=y++[123]++(TM.cons nm t mm).srt.layF W (bytesOf I) (ahd (bytesOf P) (bytesOf I) m):=by
      rw [layF_segs (by rw [TM.srt];exact put_ne),srt_segs,TM.ks,TM.segs]
      simp
    rw [e3] at h2
    rw [hzd, ← List.append_assoc] at h1
    have h9:Ev (fun k=>pO.j9 k (y++[123]++[10]++ahd (bytesOf P) (bytesOf I) (m+1)) l a 123 125 true W P I sk m ((y.length:Int)+1) (-1) [] 0 a 0 ((y.length:Int)+2) 0) (y++[123]++(TM.cons nm t mm).srt.layF W (bytesOf I) (ahd (bytesOf P) (bytesOf I) m),e,nl2,ok2):=by
      refine p_name hl hn hok' oJ ?_
      rw [if_pos hs]
      have hyy:((y++[123]++[10]).length:Int)=(y.length:Int)+2:=by simp only [List.length_append,List.length_cons,List.length_nil];omega
      rw [hyy] at h2
      rw [hs] at h1 h2 ⊢
      exact p_vals om om om ⟨by omega,by omega⟩ om oJ (by simp) (any_f h1) h2
    refine obj_skip hl hw (Ev.step (f:=fun k=>pO.j7 k (y++[123]) l a 123 125 true W P I sk m nl (-1) [] 0 true) (fun k=>?_) (Ev.step (f:=fun k=>pO.j8 k (y++[123]) l a 123 125 true W P I sk m nl (-1) [] 0) (fun k=>?_) ?_))
    · simp only [pO.l0]
      rw [if_pos hn1.2.1,if_pos hn1.2.2,if_neg om,if_neg om,if_neg (by decide),hn1.1];rfl
    · simp only [pO.j7]
      rw [if_pos (by trivial),if_neg om]
    · rw [hs] at h9 ⊢
      exact p_j8s hI om (by decide) (by push_cast;omega) h9
theorem lay_Ms (hI:I.size≤64) (hW : -9223372036854775808≤W∧W≤9223372036854775807) (hl2:l.length≤2000000000) (hq:sk=true → ∀ c,c ∈ l→c≠92) (hs:sk=true) : ∀ (mm:TM) (Y y:List Int) (c i e:Int) (m:Nat) (nl n:Int) (ps:List S82) (D:List (List Int × List Int)),c≠32→0<n→n≤1+i→RdM l mm i e→mm.uq→ToldS l (y++[c]) Y ps D→D≠[]→Ends D→(D++mm.ks.segs W (bytesOf I) (ahd (bytesOf P) (bytesOf I) m)).Pairwise (fun a b=>dlt a b=true∨dlt b a=true)→D.length+mm.sz≤4096→mm.sz≤4095→P.size+64*m+64*mm.sz+64≤262208→(y.length:Int)+262300*mm.sz+1000000<lim2 →
    ∃ nl' ok,Ev (fun k=>pO.l0 k (y++[c]) l i 123 125 true W P I sk m nl (-1) ps n) (Y++joinS ((isort dlt (D++mm.ks.segs W (bytesOf I) (ahd (bytesOf P) (bytesOf I) m))).map (·.2))++10 :: (ahd (bytesOf P) (bytesOf I) m++[125]),e,nl',ok)
  | .nil,Y,y,c,i,e,m,nl,n,ps,D,hc,hn0,hn1,h,hu,ht,hD,hE,hP,hd,hz,hm,hx=>by
    have hl:l.length≤4611686018427387904:=by omega
    have hlm:=lim_big
    have hl3:=lim2_eq
    simp only [RdM] at h
    obtain ⟨a,hw,ha,he⟩:=h
    subst he
    have eD:D++TM.nil.ks.segs W (bytesOf I) (ahd (bytesOf P) (bytesOf I) m)=D:=by simp [TM.ks,TM.segs]
    rw [eD] at hP ⊢
    have hsb:=sorted_buf ht hD hP (by rw [ht.len];omega) hl2 oJ
    have hne:isort dlt D≠[]:=fun e=>hD (by have:=isort_length (lt:=dlt) (r:=D);rw [e] at this;exact List.length_eq_zero_iff.1 this.symm)
    obtain ⟨z,d,hzd,hd2⟩:=joinS_last hne hE.isort
    have hlen:(Y++joinS ((isort dlt D).map (·.2))).length=(y++[c]).length:=by
      have h1:=joinS_len hne
      have h2:=joinS_len hD
      rw [tot_isort] at h1
      rw [ht.buf,List.length_append,List.length_append]
      omega
    rw [hzd] at hsb hlen ⊢
    rw [← List.append_assoc] at hsb hlen ⊢
    simp only [List.length_append,List.length_cons,List.length_nil] at hlen
    exact ⟨_,_,obj_skip hl hw (p_end hI om om (by decide) hd2 ha hl hn0 (by simp only [List.length_append];omega) (by rw [if_pos ⟨rfl,hs⟩];exact hsb))⟩
  | .cons nm t mm,Y,y,c,i,e,m,nl,n,ps,D,hc,hn0,hn1,h,hu,ht,hD,hE,hP,hd',hz,hm,hx=>by
    have hl:l.length≤4611686018427387904:=by omega
    have hlm:=lim_big
    have hl3:=lim2_eq
    simp only [TM.uq] at hu
    simp only [RdM] at h
    obtain ⟨z0,a,b,c2,e2,hw0,hz0,hw,hn,hok,hw2,hc0,hw3,hr,hk⟩:=h
    have htold:=ht.snoc hn hok (hq hs) (sgt W (bytesOf I) (ahd (bytesOf P) (bytesOf I) m) nm t.srt) hD
    simp only [TM.sz] at hz hm hx hd'
    have hz1:=hz0.1
    have hz2:=hz0.2.1
    have hz3:=hz0.2.2.1
    have hw01:=hw0.2.1
    have hxx:=hx
    have hok':=hok
    obtain ⟨nr,hnr,hns⟩:=hok
    have hn1:rd l a=34∧a<l.length∧0≤a:=by subst hnr;exact ⟨hn.2.2.1,hn.2.1,hn.1⟩
    have hb:=T.sz_le t hr
    have hb2:=TM.szT_le mm hk
    have hnb:=hn.bound
    have hi0:=hw.1
    have hi1:=hw.2.1
    have hi2:=hw2.2.1
    have hi3:=hw3.2.1
    have hPl:=ahd_le (p:=bytesOf P) (ind:=bytesOf I) (by rw [bytesOf_length];exact hI) (m+1)
    rw [bytesOf_length] at hPl
    have hlay:=T.lay_len W (ind:=bytesOf I) (by rw [bytesOf_length];exact hI) (t.sx sk) (ahd (bytesOf P) (bytesOf I) (m+1)) (((ahd (bytesOf P) (bytesOf I) (m+1)).length:Int)+nm.length+3) (by rw [sx_sz];omega)
    rw [sx_sz] at hlay
    obtain ⟨z,d,hzd,hd⟩:=T.lay_last_sx hr sk W (bytesOf I) (ahd (bytesOf P) (bytesOf I) (m+1)) (((ahd (bytesOf P) (bytesOf I) (m+1)).length:Int)+nm.length+3)
    rw [hzd] at hlay
    simp only [List.length_append,List.length_cons,List.length_nil] at hlay
    have hyl:((y++[c]).length:Int)=(y.length:Int)+1:=by simp
    obtain ⟨nl1,ok1,h1'⟩:=any_lay hI hW hl2 hq t (y++[c]++[44]++[10]++ahd (bytesOf P) (bytesOf I) (m+1)++nm++[58]++[32]) c2 e2 (m+1) (((y++[c]).length:Int)+1) (((ahd (bytesOf P) (bytesOf I) (m+1)).length:Int)+nm.length+3) hr (fun _=>hu.2.1) hk.stop om oJ (fun _=>by simp only [List.length_append,List.length_cons,List.length_nil];omega) om om oJ
    have h1:=any_skip hl (hw2.toSk.trans ((Sk.one hc0 om).trans hw3.toSk)) h1'
    have hsg:sgt W (bytesOf I) (ahd (bytesOf P) (bytesOf I) m) nm t.srt=ahd (bytesOf P) (bytesOf I) (m+1)++nm++[58]++[32]++z++[d]:=by
      show ahd (bytesOf P) (bytesOf I) (m+1)++(nm++58 :: 32 :: t.srt.lay W (bytesOf I) (ahd (bytesOf P) (bytesOf I) (m+1)) (((ahd (bytesOf P) (bytesOf I) (m+1)).length:Int)+nm.length+3))=_
      rw [sx_t hs] at hzd
      rw [hzd];simp
    have hbuf:y++[c]++[44,10]++sgt W (bytesOf I) (ahd (bytesOf P) (bytesOf I) m) nm t.srt=y++[c]++[44]++[10]++ahd (bytesOf P) (bytesOf I) (m+1)++nm++[58]++[32]++z++[d]:=by
      rw [hsg];simp
    rw [hbuf] at htold
    have eD:D++[(inner nm,sgt W (bytesOf I) (ahd (bytesOf P) (bytesOf I) m) nm t.srt)]++mm.ks.segs W (bytesOf I) (ahd (bytesOf P) (bytesOf I) m)=D++(TM.cons nm t mm).ks.segs W (bytesOf I) (ahd (bytesOf P) (bytesOf I) m):=by
      rw [TM.ks,TM.segs];simp
    obtain ⟨nl2,ok2,h2⟩:=lay_Ms hI hW hl2 hq hs mm Y (y++[c]++[44]++[10]++ahd (bytesOf P) (bytesOf I) (m+1)++nm++[58]++[32]++z) d e2 e m nl1 (n+1) _ _ hd om om hk hu.2.2 htold (by simp)
      (fun s hs'=>by
        rcases List.mem_append.1 hs' with h|h
        · exact hE s h
        · rw [List.mem_singleton] at h;subst h;exact ⟨_,d,hsg,hd⟩)
      (by rw [eD];exact hP) oJ om om oJ
    rw [eD] at h2
    refine ⟨nl2,ok2,?_⟩
    rw [hzd, ← List.append_assoc] at h1
    have h9:Ev (fun k=>pO.j9 k (y++[c]++[44]++[10]++ahd (bytesOf P) (bytesOf I) (m+1)) l a 123 125 true W P I sk m (((y++[c]).length:Int)+1) (-1) ps n a 0 (((y++[c]).length:Int)+2) 0) (Y++joinS ((isort dlt (D++(TM.cons nm t mm).ks.segs W (bytesOf I) (ahd (bytesOf P) (bytesOf I) m))).map (·.2))++10 :: (ahd (bytesOf P) (bytesOf I) m++[125]),e,nl2,ok2):=by
      refine p_name hl hn hok' oJ ?_
      rw [if_pos hs]
      rw [hs] at h1 h2 ⊢
      exact p_vals om om om ⟨by omega,by omega⟩ om oJ (by rw [ht.len];omega) (any_f h1) h2
    refine obj_skip hl hw0 (Ev.step (f:=fun k=>pO.j7 k (y++[c]) l z0 123 125 true W P I sk m nl (-1) ps n false) (fun k=>?_) (Ev.step (f:=fun k=>pO.l0 k (y++[c]) l (z0+1) 123 125 true W P I sk m nl (-1) ps n) (fun k=>?_) ?_))
    · simp only [pO.l0]
      rw [if_pos hz2,if_pos hz1,if_neg om,if_neg om,if_neg (by decide),hz3];rfl
    · simp only [pO.j7]
      rw [if_neg (by simp),wr om om]
    refine obj_skip hl hw (Ev.step (f:=fun k=>pO.j7 k (y++[c]) l a 123 125 true W P I sk m nl (-1) ps n true) (fun k=>?_) (Ev.step (f:=fun k=>pO.j8 k (y++[c]++[44]) l a 123 125 true W P I sk m nl (-1) ps n) (fun k=>?_) ?_))
    · simp only [pO.l0]
      rw [if_pos hn1.2.1,if_pos hn1.2.2,if_neg om,if_neg om,if_neg (by decide),hn1.1];rfl
    · simp only [pO.j7]
      rw [if_pos (by trivial),if_pos om,if_pos oJ,Option.bind_some]
      by_cases hw1:W = -1
      · rw [if_pos hw1]
      · rw [if_neg hw1,if_neg (by decide)]
    · rw [hs] at h9 ⊢
      exact p_j8s hI om (by decide) oj h9
end
end Go.Proofs.Ytbkgoccnegjdhaa.U

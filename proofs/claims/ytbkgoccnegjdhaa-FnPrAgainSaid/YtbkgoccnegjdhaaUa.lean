/- The package's appendPrettyAny and appendPrettyObject in plain words: by lines. -/
import Derived.Test.YtbkgoccnegjdhaaU9
namespace Go.Proofs.Ytbkgoccnegjdhaa.U
open Go.RowKit Go.Proofs.YtbkgoccnegjdhaaW.PrintWords Go.Proofs.Ytbkgoccnegjdhaa.Q
theorem rd_last {y:List Int} {c:Int} : rd (y++[c]) (y.length:Int)=c:=by
  unfold rd
  rw [List.getD_eq_getElem?_getD,List.getElem?_append_right om]
  simp
theorem set_last {y:List Int} {c d:Int} : (y++[c]).set (y.length:Int).toNat d=y++[d]:=by
  rw [List.set_append_right _ _ om]
  simp
/-! ### the last byte -/
theorem ScanB.last {r:List Int} (h:ScanB r) : ∃ z,r=z++[34]:=by
  induction h with
  | stop=>exact ⟨[],rfl⟩
  | @plain c r _ _ _ ih=>obtain ⟨z,e⟩:=ih;exact ⟨c :: z,by rw [e];rfl⟩
  | @esc c r _ ih=>obtain ⟨z,e⟩:=ih;exact ⟨92 :: c :: z,by rw [e];rfl⟩
theorem LeafOK.last {b:List Int} (h:LeafOK b) : ∃ z c,b=z++[c]∧c≠32:=by
  rcases h with h|h|h|h|h
  · obtain ⟨r,e,hs⟩:=h;obtain ⟨z,e2⟩:=hs.last;exact ⟨34 :: z,34,by rw [e,e2];rfl,by decide⟩
  · obtain ⟨c,r,e,hc,hr⟩:=h
    rcases List.eq_nil_or_concat r with h|⟨z,d,h⟩
    · subst h;exact ⟨[],c,e,by omega⟩
    · subst h;exact ⟨c :: z,d,by rw [e];simp,by have:=(hr d (by simp)).1;omega⟩
  · exact ⟨[116,114,117],101,h,by decide⟩
  · exact ⟨[102,97,108,115],101,h,by decide⟩
  · exact ⟨[110,117,108],108,h,by decide⟩
theorem TL.line1_last : ∀ k:TL, ∃ z,k.line1=z++[93]
  | .nil=>⟨[],rfl⟩
  | .cons t k=>by obtain ⟨z,e⟩:=TL.line1_last k;exact ⟨44 :: 32 :: (t.line++z),by simp only [TL.line1];rw [e];simp⟩
theorem TL.line0_last : ∀ k:TL, ∃ z,k.line0=z++[93]
  | .nil=>⟨[],rfl⟩
  | .cons t k=>by obtain ⟨z,e⟩:=TL.line1_last k;exact ⟨t.line++z,by simp only [TL.line0];rw [e];simp⟩
theorem TL.layT_last (W:Int) (ind:List Int) : ∀ (k:TL) (ah:List Int), ∃ z,k.layT W ind ah=z++[93]
  | .nil,ah=>⟨10 :: ah,rfl⟩
  | .cons t k,ah=>by
    obtain ⟨z,e⟩:=TL.layT_last W ind k ah
    exact ⟨44 :: 10 :: ((ah++ind)++(t.lay W ind (ah++ind) ((ah++ind).length:Int)++z)),by simp only [TL.layT];rw [e];simp⟩
theorem TL.layF_last (W:Int) (ind:List Int) : ∀ (k:TL) (ah:List Int), ∃ z,k.layF W ind ah=z++[93]
  | .nil,ah=>⟨[],rfl⟩
  | .cons t k,ah=>by
    obtain ⟨z,e⟩:=TL.layT_last W ind k ah
    exact ⟨10 :: ((ah++ind)++(t.lay W ind (ah++ind) (((ah++ind).length:Int)+1)++z)),by simp only [TL.layF];rw [e];simp⟩
theorem TM.layT_last (W:Int) (ind:List Int) : ∀ (m:TM) (ah:List Int), ∃ z,m.layT W ind ah=z++[125]
  | .nil,ah=>⟨10 :: ah,rfl⟩
  | .cons n t m,ah=>by
    obtain ⟨z,e⟩:=TM.layT_last W ind m ah
    exact ⟨44 :: 10 :: ((ah++ind)++(n++58 :: 32 :: (t.lay W ind (ah++ind) (((ah++ind).length:Int)+n.length+3)++z))),by simp only [TM.layT];rw [e];simp⟩
theorem TM.layF_last (W:Int) (ind:List Int) : ∀ (m:TM) (ah:List Int), ∃ z,m.layF W ind ah=z++[125]
  | .nil,ah=>⟨[],rfl⟩
  | .cons n t m,ah=>by
    obtain ⟨z,e⟩:=TM.layT_last W ind m ah
    exact ⟨10 :: ((ah++ind)++(n++58 :: 32 :: (t.lay W ind (ah++ind) (((ah++ind).length:Int)+n.length+3)++z))),by simp only [TM.layF];rw [e];simp⟩
theorem T.lay_last {l:List Int} {t:T} {i e:Int} (h:Rd l t i e) (W:Int) (ind ah:List Int) (col:Int) : ∃ z c,t.lay W ind ah col=z++[c]∧c≠32:=by
  cases t with
  | leaf b=>simp only [Rd] at h;simp only [T.lay];exact h.2.2.last
  | arr k =>
    simp only [T.lay]
    split
    · obtain ⟨z,e⟩:=TL.line0_last k;exact ⟨91 :: z,93,by rw [e];rfl,by decide⟩
    · obtain ⟨z,e⟩:=TL.layF_last W ind k ah;exact ⟨91 :: z,93,by rw [e];rfl,by decide⟩
  | obj m=>obtain ⟨z,e⟩:=TM.layF_last W ind m ah;exact ⟨123 :: z,125,by simp only [T.lay];rw [e];rfl,by decide⟩
variable {x l:List Int} {W:Int} {P I:ByteArray} {sk:Bool} {tb nl mx:Int} {r:List Int × Int × Int × Bool} {op cl:Int} {ps:List S82} {n:Int}
/-! ### the steps of a line -/
theorem p_j8 {i:Int} {m:Nat} {y:List Int} {c:Int} (hI:I.size≤64) (hm:m≤10000) (hop:op=91∨op=123∧sk=false) (hc:c≠32) (hx:(y.length:Int)+P.size+64*(m+1:Nat)+10<lim)
    (h:Ev (fun k=>pO.j9 k (y++[c]++[10]++ahd (bytesOf P) (bytesOf I) (m+1)) l i op cl true W P I sk m ((y.length:Int)+1) mx ps n 0 0 0 0) r) :
    Ev (fun k=>pO.j8 k (y++[c]) l i op cl true W P I sk m nl mx ps n) r:=by
  have ht:=tabs_ev (x:=y++[c]++[10]) (P:=P) hI (n:=m+1) om oj
  have hl:((y++[c]).length:Int)=(y.length:Int)+1:=by simp
  have hb:=hx
  unfold lim at hb
  refine Ev.step (f:=fun k=>(pT.f k (y++[c]++[10]) P I ((m+1:Nat):Int)).bind fun t=>pO.j9 k t l i op cl true W P I sk m ((y.length:Int)+1) mx ps n 0 0 0 0) (fun k=>?_) (Ev.bind ht h)
  simp only [pO.j8]
  rw [if_pos (by trivial),hl,wr (i:=(y.length:Int)+1 - 1) om om,show (y.length:Int)+1 - 1=y.length by omega,if_pos om,if_pos om,rd_last,if_neg hc,if_pos oJ,wr (i:=(m:Int)+1) om om]
  rcases hop with h|⟨h,h2⟩
  · subst h;rw [Option.bind_some,if_neg (by decide)];rfl
  · subst h;subst h2;rw [Option.bind_some,if_pos (by trivial),if_neg (by simp)];rfl
theorem p_j8' {i:Int} {m:Nat} {y:List Int} (hI:I.size≤64) (hm:m≤10000) (hop:op=91∨op=123∧sk=false) (hx:(y.length:Int)+P.size+64*(m+1:Nat)+10<lim)
    (h:Ev (fun k=>pO.j9 k (y++[10]++ahd (bytesOf P) (bytesOf I) (m+1)) l i op cl true W P I sk m ((y.length:Int)+1) mx ps n 0 0 0 0) r) :
    Ev (fun k=>pO.j8 k (y++[32]) l i op cl true W P I sk m nl mx ps n) r:=by
  have ht:=tabs_ev (x:=y++[10]) (P:=P) hI (n:=m+1) om oj
  have hl:((y++[32]).length:Int)=(y.length:Int)+1:=by simp
  have hb:=hx
  unfold lim at hb
  refine Ev.step (f:=fun k=>(pT.f k (y++[10]) P I ((m+1:Nat):Int)).bind fun t=>pO.j9 k t l i op cl true W P I sk m ((y.length:Int)+1) mx ps n 0 0 0 0) (fun k=>?_) (Ev.bind ht h)
  simp only [pO.j8]
  rw [if_pos (by trivial),hl,wr (i:=(y.length:Int)+1 - 1) om om,show (y.length:Int)+1 - 1=y.length by omega,if_pos om,if_pos om,rd_last,if_pos (by trivial),set_last,wr (i:=(m:Int)+1) om om]
  rcases hop with h|⟨h,h2⟩
  · subst h;rw [Option.bind_some,if_neg (by decide)];rfl
  · subst h;subst h2;rw [Option.bind_some,if_pos (by trivial),if_neg (by simp)];rfl
/-- A member's line, where the members are sorted: where its name begins and where its text does. -/
theorem p_j8s {i:Int} {m:Nat} {y:List Int} {c:Int} (hI:I.size≤64) (hm:m≤10000) (hc:c≠32) (hx:(y.length:Int)+P.size+64*(m+1:Nat)+10<lim)
    (h:Ev (fun k=>pO.j9 k (y++[c]++[10]++ahd (bytesOf P) (bytesOf I) (m+1)) l i 123 cl true W P I true m ((y.length:Int)+1) mx ps n i 0 ((y.length:Int)+2) 0) r) :
    Ev (fun k=>pO.j8 k (y++[c]) l i 123 cl true W P I true m nl mx ps n) r:=by
  have ht:=tabs_ev (x:=y++[c]++[10]) (P:=P) hI (n:=m+1) om oj
  have hl:((y++[c]).length:Int)=(y.length:Int)+1:=by simp
  have hl3:((y++[c]++[10]).length:Int)=(y.length:Int)+2:=by simp only [List.length_append,List.length_cons,List.length_nil];omega
  have hb:=hx
  unfold lim at hb
  refine Ev.step (f:=fun k=>(pT.f k (y++[c]++[10]) P I ((m+1:Nat):Int)).bind fun t=>pO.j9 k t l i 123 cl true W P I true m ((y.length:Int)+1) mx ps n i 0 ((y.length:Int)+2) 0) (fun k=>?_) (Ev.bind ht h)
  simp only [pO.j8]
  rw [if_pos (by trivial),hl,wr (i:=(y.length:Int)+1 - 1) om om,show (y.length:Int)+1 - 1=y.length by omega,if_pos om,if_pos om,rd_last,if_neg hc,if_pos oJ,wr (i:=(m:Int)+1) om om]
  rw [Option.bind_some,hl3];rfl
/-- From an element's or a member's value on to the rest. -/
theorem p_val {i:Int} {m:Nat} {y:List Int} {a nl2:Int} {ok:Bool} (hop:op=91∨op=123∧sk=false) (hm:m≤10000) (ha:0≤a) (hal:a≤4611686018427387904) (hn:0≤n∧n≤4611686018427387905)
    (h:Ev (fun k=>pA.f k x l i true W P I sk ((m+1:Nat):Int) nl (-1)) (y,a,nl2,ok))
    (hr:Ev (fun k=>pO.l0 k y l a op cl true W P I sk m nl2 (-1) ps (n+1)) r) :
    Ev (fun k=>pO.j10 k x l i op cl true W P I sk m nl (-1) ps n 0 0 0 0) r:=by
  have h14:Ev (fun k=>pO.j12 k y l a op cl true W P I sk m nl2 (-1) ps n false 0 0 0 0) r:=by
    refine Ev.step (fun k=>?_) hr
    simp only [pO.j12]
    rw [if_neg (by simp),wr (i:=a - 1) om om,wr (i:=a - 1+1) om om,wr om om,show a - 1+1=a by omega]
  refine Ev.step (f:=fun k=>(pA.f k x l i true W P I sk ((m+1:Nat):Int) nl (-1)).bind fun t=>pO.j11 k t.1 l t.2.1 op cl true W P I sk m t.2.2.1 (-1) ps n false 0 0 0 0) (fun k=>?_) (Ev.bind h (Ev.step (fun k=>?_) h14))
  · simp only [pO.j10]
    rw [wr om om];rfl
  · simp only [pO.j11]
    rw [if_neg (by simp),if_pos (by trivial)]
    rcases hop with ho|⟨ho,h2⟩
    · rw [if_neg om]
    · rw [if_pos ho,h2]
/-- The same where the members are sorted: the pair is kept. -/
theorem p_vals {i:Int} {m:Nat} {y:List Int} {a nl2 k0 k1 v0:Int} {ok:Bool} (hm:m≤10000) (ha:0≤a) (hal:a≤4611686018427387904) (hn:0≤n∧n≤4611686018427387905) (hk:k0≤k1) (hv:v0≤(y.length:Int)) (hps:ps.length<4398046511104)
    (h:Ev (fun k=>pA.f k x l i true W P I true ((m+1:Nat):Int) nl (-1)) (y,a,nl2,ok))
    (hr:Ev (fun k=>pO.l0 k y l a 123 cl true W P I true m nl2 (-1) (ps++[⟨k0,k1,v0,y.length⟩]) (n+1)) r) :
    Ev (fun k=>pO.j10 k x l i 123 cl true W P I true m nl (-1) ps n k0 k1 v0 0) r:=by
  have h14:Ev (fun k=>pO.j12 k y l a 123 cl true W P I true m nl2 (-1) ps n true k0 k1 v0 0) r:=by
    refine Ev.step (fun k=>?_) hr
    simp only [pO.j12]
    rw [if_pos (by trivial),if_neg om,if_neg om,if_pos hps,wr (i:=a - 1) om om,wr (i:=a - 1+1) om om,wr (i:=n+1) om om,show a - 1+1=a by omega]
  refine Ev.step (f:=fun k=>(pA.f k x l i true W P I true ((m+1:Nat):Int) nl (-1)).bind fun t=>pO.j11 k t.1 l t.2.1 123 cl true W P I true m t.2.2.1 (-1) ps n false k0 k1 v0 0) (fun k=>?_) (Ev.bind h (Ev.step (fun k=>?_) h14))
  · simp only [pO.j10]
    rw [wr om om];rfl
  · simp only [pO.j11]
    rw [if_neg (by simp),if_pos (by trivial),if_pos (by trivial)]
/-- The end of an array or object that has something in it: what sortPairs made of the buffer, if it is called, is y ++ [c]. -/
theorem p_end {i:Int} {m:Nat} {x y:List Int} {c:Int} (hI:I.size≤64) (hm:m≤10000) (hop:op=91∨op=123) (hcl:32<cl) (hc:c≠32) (ha:At l i [cl]) (hl:l.length≤4611686018427387904) (hn:0<n) (hx:(y.length:Int)+P.size+64*m+100<lim)
    (hs:if op=123∧sk=true then pQ.f l x ps=some (y++[c]) else x=y++[c]) :
    Ev (fun k=>pO.l0 k x l i op cl true W P I sk m nl mx ps n) (y++[c]++10 :: (ahd (bytesOf P) (bytesOf I) m++[cl]),i+1,(y.length:Int)+1,op != 123):=by
  obtain ⟨h1,h2,h3,h4⟩:=ha
  have hb:=hx
  unfold lim at hb
  have ht:=tabs_ev (x:=y++[c]++[10]) (P:=P) hI (n:=m) om oj
  have hle:=ahd_le (p:=bytesOf P) (ind:=bytesOf I) (by rw [bytesOf_length];exact hI) m
  rw [bytesOf_length] at hle
  have e:y++[c]++10 :: (ahd (bytesOf P) (bytesOf I) m++[cl])=y++[c]++[10]++ahd (bytesOf P) (bytesOf I) m++[cl]:=by simp
  rw [e]
  have h6:Ev (fun k=>pO.j6 k (y++[c]) i op cl P I m nl n) (y++[c]++[10]++ahd (bytesOf P) (bytesOf I) m++[cl],i+1,(y.length:Int)+1,op != 123):=by
    have hl1:((y++[c]).length:Int)=(y.length:Int)+1:=by simp
    refine Ev.step (f:=fun k=>(pT.f k (y++[c]++[10]) P I m).bind fun t=>if t.length<140737488355328 then some (t++[cl],wrap64 (i+1),(y.length:Int)+1,op != 123) else none) (fun k=>?_) (Ev.bind ht (Ev.congr (fun k=>?_) (Ev.now _)))
    · have hl2:((y++[c]++[10]).length:Int)=((y++[c]).length:Int)+1:=by simp;omega
      simp only [pO.j6]
      rw [if_pos hn,hl1,wr (i:=(y.length:Int)+1 - 1) om om,show (y.length:Int)+1 - 1=y.length by omega,if_pos om,if_pos om,rd_last,if_neg hc,if_pos oJ,Option.bind_some,
        hl2,wr (i:=((y++[c]).length:Int)+1 - 1) (by rw [hl1];omega) (by rw [hl1];omega),show ((y++[c]).length:Int)+1 - 1=(y++[c]).length by omega,if_pos om,if_pos om,rd_last,if_neg om]
    · rw [if_pos oJ,wr om om]
  have h5:Ev (fun k=>pO.j5 k x l i op cl P I m nl ps n (if op=123 then sk else false)) (y++[c]++[10]++ahd (bytesOf P) (bytesOf I) m++[cl],i+1,(y.length:Int)+1,op != 123):=by
    refine Ev.step (fun k=>?_) h6
    simp only [pO.j5]
    by_cases c1:op=123∧sk=true
    · rw [if_pos c1] at hs
      rw [if_pos c1.1,if_pos c1.2,hs,Option.bind_some]
    · rw [if_neg c1] at hs
      rw [if_neg (by intro h;apply c1;by_cases ho:op=123;exact ⟨ho,by rw [if_pos ho] at h;exact h⟩;rw [if_neg ho] at h;cases h),hs]
  refine Ev.step (fun k=>?_) h5
  simp only [pO.l0]
  rw [if_pos h2,if_pos h1,if_neg om,if_pos h3,if_pos (by trivial)]
  by_cases ho:op=123
  · rw [if_pos ho,if_pos ho]
  · rw [if_neg ho,if_neg ho]
/-- The end of an empty one. -/
theorem p_nil {i:Int} {m:Nat} {y:List Int} (hcl:32<cl) (ha:At l i [cl]) (hl:l.length≤4611686018427387904) (hx:(y.length:Int)+100<lim) :
    Ev (fun k=>pO.l0 k (y++[op]) l i op cl true W P I sk m nl mx [] 0) (y++[op]++[cl],i+1,nl,op != 123):=by
  obtain ⟨h1,h2,h3,h4⟩:=ha
  have hb:=hx
  unfold lim at hb
  have h6:Ev (fun k=>pO.j6 k (y++[op]) i op cl P I m nl 0) (y++[op]++[cl],i+1,nl,op != 123):=by
    refine Ev.const _ fun k=>?_
    have hl2:((y++[op]).length:Int)=(y.length:Int)+1:=by simp
    simp only [pO.j6]
    rw [if_neg om,hl2,wr om om,show (y.length:Int)+1 - 1=y.length by omega,if_pos om,if_pos om,rd_last,if_pos rfl,if_pos oJ,wr om om]
  have h5 : ∀ b:Bool,Ev (fun k=>pO.j5 k (y++[op]) l i op cl P I m nl [] 0 b) (y++[op]++[cl],i+1,nl,op != 123):=fun b=>by
    refine Ev.step (fun k=>?_) h6
    simp only [pO.j5]
    cases b
    · rw [if_neg (by simp)]
    · rw [if_pos (by trivial),show pQ.f l (y++[op]) []=some (y++[op]) from by unfold pQ.f;rw [if_pos rfl],Option.bind_some]
  refine Ev.step (fun k=>?_) (h5 (if op=123 then sk else false))
  simp only [pO.l0]
  rw [if_pos h2,if_pos h1,if_neg om,if_pos h3,if_pos (by trivial)]
  by_cases ho:op=123
  · rw [if_pos ho,if_pos ho]
  · rw [if_neg ho,if_neg ho]
end Go.Proofs.Ytbkgoccnegjdhaa.U

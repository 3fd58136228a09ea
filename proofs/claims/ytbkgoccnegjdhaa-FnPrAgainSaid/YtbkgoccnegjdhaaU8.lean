/- The package's smaller functions in plain words: strings, numbers, tabs. -/
import Derived.Test.YtbkgoccnegjdhaaU2
import Derived.Test.YtbkgoccnegjdhaaB6
import Derived.Test.YtbkgoccnegjdhaaB8
import Derived.Test.YtbkgoccnegjdhaaB5
namespace Go.Proofs.Ytbkgoccnegjdhaa.U
open Go.RowKit Go.Proofs.YtbkgoccnegjdhaaW.PrintWords Go.Proofs.Ytbkgoccnegjdhaa.Q
@[irreducible] def lim:Int:=140737488355328
/-! ### appendPrettyString -/
theorem bk_loop {x l:List Int} {p nl s:Int} {r:List Int × Int × Int × Bool} (h0:0≤s) (hl:l.length≤4611686018427387904) (m:Nat) : ∀ (c j:Int),s≤j - m→j<l.length→(∀ q,j - m<q→q≤j→rd l q=92)→(j - m=s∨rd l (j - m)≠92)→0≤c→c+m≤4611686018427387904 →
    Ev (fun k=>pS.j2 k x l p nl s (c+m)) r→Ev (fun k=>pS.l1 k x l p nl s c j) r:=by
  induction m with
  | zero =>
    intro c j hj hlt _ hend hc hcm h
    refine Ev.step (f:=fun k=>pS.j2 k x l p nl s c) (fun k=>?_) (by simpa using h)
    simp only [pS.l1]
    by_cases hjs:j>s
    · rw [if_pos hjs,if_pos om,if_pos hlt,if_neg (by rcases hend with h|h <;> simp at h <;> omega)]
    · rw [if_neg hjs]
  | succ m ih =>
    intro c j hj hlt hq hend hc hcm h
    have hq0:=hq j om om
    have hbnd:0≤j - 1∨j - 1 = -1:=by omega
    refine Ev.step (f:=fun k=>pS.l1 k x l p nl s (c+1) (j - 1)) (fun k=>?_) (ih (c+1) (j - 1) (by push_cast at hj;omega) om (fun q h1 h2=>hq q (by push_cast;omega) om) (by rw [show j - 1 - (m:Int)=j - ((m+1:Nat):Int) by push_cast;omega];exact hend) om (by push_cast at hcm;omega) (by rw [show c+1+(m:Int)=c+((m+1:Nat):Int) by push_cast;omega];exact h))
    simp only [pS.l1]
    rw [if_pos (by push_cast at hj;omega),if_pos om,if_pos hlt,if_pos hq0,wr om (by push_cast at hcm;omega),wr om om]
/-- So many backslashes stand ahead of a place, behind s. -/
def Bk (l:List Int) (s i:Int) (m:Nat):Prop:=s+m<i∧(∀ q,i - m≤q→q<i→rd l q=92)∧(i - m - 1=s∨rd l (i - m - 1)≠92)
theorem j2_even {x l:List Int} {p nl s:Int} {m:Nat} (hm:m % 2=0) (h0:0≤s) (hs:s≤p) (hp:p<l.length) (hl:l.length≤4611686018427387904) (hx:(x.length:Int)+(p+1 - s)<lim) :
    Ev (fun k=>pS.j2 k x l p nl s m) (x++(l.take (p+1).toNat).drop s.toNat,p+1,nl,true):=by
  refine Ev.const _ fun k=>?_
  have ht : ¬ Int.tmod (m:Int) 2=1:=by rw [Int.tmod_eq_emod_of_nonneg om];omega
  have hll:((l.take (p+1).toNat).drop s.toNat).length=(p+1 - s).toNat:=by rw [List.length_drop,List.length_take];omega
  simp only [pS.j2]
  rw [if_neg ht,if_pos h0,wr om om,if_pos om,if_pos om,Option.bind_some,if_pos (by rw [hll];unfold lim at hx;omega)]
theorem j2_odd {x l:List Int} {p nl s:Int} {m:Nat} {r:List Int × Int × Int × Bool} (hm:m % 2=1) (h0:0≤p) (hp:p<l.length) (hl:l.length≤4611686018427387904) (h:Ev (fun k=>pS.l0 k x l (p+1) nl s) r) :
    Ev (fun k=>pS.j2 k x l p nl s m) r:=by
  refine Ev.step (fun k=>?_) h
  have ht:Int.tmod (m:Int) 2=1:=by rw [Int.tmod_eq_emod_of_nonneg om];omega
  simp only [pS.j2]
  rw [if_pos ht,wr om om]
theorem str_quote {x l:List Int} {i nl s:Int} {m:Nat} {r:List Int × Int × Int × Bool} (h0:0≤s) (hl:l.length≤4611686018427387904) (hi:i<l.length) (h34:rd l i=34) (hb:Bk l s i m)
    (h:Ev (fun k=>pS.j2 k x l i nl s m) r):Ev (fun k=>pS.l0 k x l i nl s) r:=by
  obtain ⟨h1,h2,h3⟩:=hb
  refine Ev.step (fun k=>?_) (bk_loop h0 hl m 0 (i - 1) om om (fun q h4 h5=>h2 q om om) (by rw [show i - 1 - (m:Int)=i - m - 1 by omega];exact h3) om om (by simpa using h))
  simp only [pS.l0]
  rw [if_pos hi,if_pos om,if_pos h34,wr om om]
theorem str_other {x l:List Int} {i nl s:Int} {r:List Int × Int × Int × Bool} (h0:0≤i) (hl:l.length≤4611686018427387904) (hi:i<l.length) (h34:rd l i≠34)
    (h:Ev (fun k=>pS.l0 k x l (i+1) nl s) r):Ev (fun k=>pS.l0 k x l i nl s) r:=by
  refine Ev.step (fun k=>?_) h
  simp only [pS.l0]
  rw [if_pos hi,if_pos h0,if_neg h34,wr om om]
theorem str_loop {x l:List Int} {nl s:Int} (h0:0≤s) (hl:l.length≤4611686018427387904) {r:List Int} (hr:ScanB r) : ∀ (i:Int) (m:Nat),m % 2=0→Bk l s i m→At l i r→(x.length:Int)+(i+r.length - s)<lim →
    Ev (fun k=>pS.l0 k x l i nl s) (x++(l.take (i+r.length).toNat).drop s.toNat,i+r.length,nl,true):=by
  induction hr with
  | stop =>
    intro i m hm hb ha hx
    obtain ⟨h1,h2,h3, -⟩:=ha
    have:=hb.1
    exact str_quote h0 hl h2 h3 hb (j2_even hm h0 om h2 hl (by simpa using hx))
  | @plain c r h34 h92 hr ih =>
    intro i m hm hb ha hx
    obtain ⟨h1,h2,h3,h4⟩:=ha
    have:=hb.1
    have e:i+((c :: r).length:Int)=i+1+r.length:=by simp only [List.length_cons];push_cast;omega
    rw [e] at hx ⊢
    refine str_other h1 hl h2 (by rw [h3];exact h34) (ih (i+1) 0 rfl ⟨by omega,fun q h5 h6=>by omega, .inr ?_⟩ h4 hx)
    rw [show i+1 - ((0:Nat):Int) - 1=i by simp,h3];exact h92
  | @esc c r hr ih =>
    intro i m hm hb ha hx
    obtain ⟨h1,h2,h3,h4,h5,h6,h7⟩:=ha
    have hbs:=hb.1
    have e:i+((92 :: c :: r).length:Int)=i+1+1+r.length:=by simp only [List.length_cons];push_cast;omega
    rw [e] at hx ⊢
    have hb1:Bk l s (i+1) (m+1):=⟨by push_cast;omega,fun q h8 h9=>by
      by_cases hq:q=i
      · rw [hq];exact h3
      · exact hb.2.1 q (by push_cast at h8;omega) om,by
      rw [show i+1 - ((m+1:Nat):Int) - 1=i - m - 1 by push_cast;omega];exact hb.2.2⟩
    refine str_other h1 hl h2 (by rw [h3];decide) ?_
    by_cases hc34:c=34
    · refine str_quote h0 hl h5 (by rw [h6];exact hc34) hb1 (j2_odd om h4 h5 hl (ih (i+1+1) 0 rfl ⟨by omega,fun q h8 h9=>by omega, .inr ?_⟩ h7 hx))
      rw [show i+1+1 - ((0:Nat):Int) - 1=i+1 by simp,h6,hc34];decide
    · refine str_other h4 hl h5 (by rw [h6];exact hc34) ?_
      by_cases hc92:c=92
      · refine ih (i+1+1) (m+2) om ⟨by push_cast;omega,fun q h8 h9=>?_,?_⟩ h7 hx
        · by_cases hq:q=i+1
          · rw [hq,h6];exact hc92
          · by_cases hq:q=i
            · rw [hq];exact h3
            · exact hb.2.1 q (by push_cast at h8;omega) om
        · rw [show i+1+1 - ((m+2:Nat):Int) - 1=i - m - 1 by push_cast;omega];exact hb.2.2
      · refine ih (i+1+1) 0 rfl ⟨by omega,fun q h8 h9=>by omega, .inr ?_⟩ h7 hx
        rw [show i+1+1 - ((0:Nat):Int) - 1=i+1 by simp,h6];exact hc92
/-- appendPrettyString: a string's bytes are put to what stands there. -/
theorem string_ev {x l:List Int} {nl i:Int} {b:List Int} (hl:l.length≤4611686018427387904) (ha:At l i b) (hb:StrOK b) (hx:(x.length:Int)+b.length<lim) :
    Ev (fun k=>pS.f k x l i nl) (x++b,i+b.length,nl,true):=by
  obtain ⟨r,hr,hs⟩:=hb
  have hsl:=ha.slice
  subst hr
  obtain ⟨h1,h2,h3,h4⟩:=ha
  have e:i+((34 :: r).length:Int)=i+1+r.length:=by simp only [List.length_cons];push_cast;omega
  rw [e] at hsl ⊢
  have h:=str_loop (x:=x) (nl:=nl) h1 hl hs (i+1) 0 rfl ⟨by omega,fun q h5 h6=>by omega, .inl (by simp)⟩ h4 (by simp only [List.length_cons] at hx;push_cast at hx;omega)
  rw [hsl] at h
  refine Ev.congr (fun k=>?_) h
  unfold pS.f
  rw [wr om om]
/-! ### appendPrettyNumber -/
def isStop (c:Int):Prop:=c≤32∨c=44∨c=58∨c=93∨c=125
def StopAt (l:List Int) (e:Int):Prop:=e=l.length∨isStop (rd l e)
theorem num_end {x l:List Int} {nl s i:Int} (h0:0≤s) (h1:s≤i) (hi:i≤l.length) (hst:StopAt l i) (hx:(x.length:Int)+(i - s)<lim) :
    Ev (fun k=>pN.l0 k x l i nl s) (x++(l.take i.toNat).drop s.toNat,i,nl,true):=by
  have hll:((l.take i.toNat).drop s.toNat).length=(i - s).toNat:=by rw [List.length_drop,List.length_take];omega
  have hx':x.length+((l.take i.toNat).drop s.toNat).length<140737488355328:=by rw [hll];unfold lim at hx;omega
  by_cases hlt:i<(l.length:Int)
  · have hc:isStop (rd l i):=by rcases hst with h|h; · omega
                                · exact h
    refine Ev.step (f:=fun k=>pN.j1 k x l i nl s true) (fun k=>?_) (Ev.const _ fun k=>?_)
    · simp only [pN.l0]
      rw [if_pos hlt,if_pos om]
      unfold isStop at hc
      by_cases h1:rd l i≤32
      · rw [if_pos h1]
      by_cases h2:rd l i=44
      · rw [if_neg h1,if_pos h2]
      by_cases h3:rd l i=58
      · rw [if_neg h1,if_neg h2,if_pos h3]
      by_cases h4:rd l i=93
      · rw [if_neg h1,if_neg h2,if_neg h3,if_pos h4]
      · rw [if_neg h1,if_neg h2,if_neg h3,if_neg h4,show (rd l i == 125)=true by simp;omega]
    · simp only [pN.j1]
      rw [if_pos (by trivial),if_pos h0,if_pos h1,if_pos hi,Option.bind_some,if_pos hx']
  · refine Ev.const _ fun k=>?_
    simp only [pN.l0]
    rw [if_neg hlt,if_pos h0,if_pos h1,if_pos hi,Option.bind_some,if_pos hx']
theorem num_loop {x l:List Int} {nl s:Int} (h0:0≤s) (hl:l.length≤4611686018427387904) : ∀ (r:List Int) (i:Int),s≤i→At l i r→(∀ c ∈ r,32<c∧c≠44∧c≠58∧c≠93∧c≠125)→StopAt l (i+r.length)→(x.length:Int)+(i+r.length - s)<lim →
    Ev (fun k=>pN.l0 k x l i nl s) (x++(l.take (i+r.length).toNat).drop s.toNat,i+r.length,nl,true)
  | [],i,hs,ha,_,hst,hx=>by
    have e:i+(([]:List Int).length:Int)=i:=by simp
    rw [e] at hst hx ⊢
    exact num_end h0 hs ha.2 hst hx
  | c :: r,i,hs,ha,hc,hst,hx=>by
    obtain ⟨h1,h2,h3,h4⟩:=ha
    have e:i+((c :: r).length:Int)=i+1+r.length:=by simp only [List.length_cons];push_cast;omega
    rw [e] at hst hx ⊢
    have hcc:=hc c (by simp)
    refine Ev.step (f:=fun k=>pN.j1 k x l i nl s false) (fun k=>?_) (Ev.step (fun k=>?_) (num_loop h0 hl r (i+1) om h4 (fun d hd=>hc d (List.mem_cons_of_mem _ hd)) hst hx))
    · simp only [pN.l0]
      rw [if_pos h2,if_pos h1,h3,if_neg om,if_neg hcc.2.1,if_neg hcc.2.2.1,if_neg hcc.2.2.2.1,show (c == 125)=false by simp;exact hcc.2.2.2.2]
    · simp only [pN.j1]
      rw [if_neg (by simp),wr om om]
/-- appendPrettyNumber: a number's bytes are put to what stands there. -/
theorem number_app {x l:List Int} {nl i:Int} {b:List Int} (hl:l.length≤4611686018427387904) (ha:At l i b) (hb:NumB b) (hst:StopAt l (i+b.length)) (hx:(x.length:Int)+b.length<lim) :
    Ev (fun k=>pN.f k x l i nl) (x++b,i+b.length,nl,true):=by
  obtain ⟨c,r,hr, -, hc⟩:=hb
  have hsl:=ha.slice
  subst hr
  obtain ⟨h1,h2,h3,h4⟩:=ha
  have e:i+((c :: r).length:Int)=i+1+r.length:=by simp only [List.length_cons];push_cast;omega
  rw [e] at hsl hst ⊢
  have h:=num_loop (x:=x) (nl:=nl) h1 hl r (i+1) om h4 hc hst (by simp only [List.length_cons] at hx;push_cast at hx;omega)
  rw [hsl] at h
  refine Ev.congr (fun k=>?_) h
  unfold pN.f
  rw [wr om om]
/-! ### isNaNOrInf -/
theorem rd_drop {l:List Int} {i:Int} (h0:0≤i) (j:Nat):rd (l.drop i.toNat) (j:Int)=rd l (i+j):=by
  unfold rd
  rw [List.getD_eq_getElem?_getD,List.getD_eq_getElem?_getD,List.getElem?_drop,show (i+(j:Int)).toNat=i.toNat+(j:Int).toNat by omega]
theorem nan_no {l:List Int} {i:Int} (h0:0≤i) (hi:i<l.length) (h105:rd l i≠105) (h73:rd l i≠73) (h43:rd l i≠43) (h78:rd l i≠78) (h110:rd l i=110→rd l (i+1)=117):pF.f (l.drop i.toNat)=some false:=by
  have e0:rd (l.drop i.toNat) 0=rd l i:=by have:=rd_drop (l:=l) h0 0;simpa using this
  have e1:rd (l.drop i.toNat) 1=rd l (i+1):=rd_drop (l:=l) h0 1
  have hlen:(l.drop i.toNat).length=l.length - i.toNat:=List.length_drop
  unfold pF.f
  rw [if_pos (by rw [hlen];omega),e0,if_neg h105,if_neg h73,if_neg h43,if_neg h78]
  by_cases h:rd l i=110
  · rw [if_pos h]
    by_cases h1:((l.drop i.toNat).length:Int)>1
    · rw [if_pos h1,if_pos om,e1,h110 h];rfl
    · rw [if_neg h1]
  · rw [if_neg h]
/-! ### appendTabs -/
def ahd (p ind:List Int):Nat→List Int
  | 0=>p
  | n+1=>ahd p ind n++ind
theorem ahd_len {p ind:List Int} : ∀ n,(ahd p ind n).length=p.length+n*ind.length
  | 0=>by simp [ahd]
  | n+1=>by rw [ahd,List.length_append,ahd_len n];rw [Nat.add_mul];omega
theorem ahd_le {p ind:List Int} (hi:ind.length≤64) (n:Nat):(ahd p ind n).length≤p.length+64*n:=by
  rw [ahd_len];have:=Nat.mul_le_mul_left n hi;omega
theorem tabs_l0 {x p:List Int} {n:Nat} (hn:n≤100000) (d:Nat) : ∀ j:Nat,j+d=n→(x.length:Int)+(ahd p [32,32] n).length<lim→Ev (fun k=>pT.l0 k (x++ahd p [32,32] j) n j) (x++ahd p [32,32] n):=by
  induction d with
  | zero =>
    intro j hj hx
    refine Ev.const _ fun k=>?_
    simp only [pT.l0]
    rw [if_neg om,show j=n by omega]
  | succ d ih =>
    intro j hj hx
    have h:=ih (j+1) om hx
    have e:x++ahd p [32,32] (j+1)=x++ahd p [32,32] j++[32,32]:=by rw [ahd];simp
    rw [e] at h
    refine Ev.step (fun k=>?_) h
    have h1:=ahd_len (p:=p) (ind:=[32,32]) n
    have h2:=ahd_len (p:=p) (ind:=[32,32]) j
    simp only [List.length_cons,List.length_nil] at h1 h2
    simp only [pT.l0]
    rw [if_pos om,Option.bind_some,if_pos (by simp only [List.length_append,List.length_cons,List.length_nil];unfold lim at hx;omega),wr om om]
    rfl
theorem tabs_l1 {x p:List Int} {I:ByteArray} (hI:I.size≤64) {n:Nat} (hn:n≤100000) (d:Nat) : ∀ j:Nat,j+d=n→(x.length:Int)+p.length+64*n<lim→Ev (fun k=>pT.l1 k (x++ahd p (bytesOf I) j) I n j) (x++ahd p (bytesOf I) n):=by
  induction d with
  | zero =>
    intro j hj hx
    refine Ev.const _ fun k=>?_
    simp only [pT.l1]
    rw [if_neg om,show j=n by omega]
  | succ d ih =>
    intro j hj hx
    have h:=ih (j+1) om hx
    have e:x++ahd p (bytesOf I) (j+1)=x++ahd p (bytesOf I) j++bytesOf I:=by rw [ahd];simp
    rw [e] at h
    refine Ev.step (fun k=>?_) h
    have h2:=ahd_le (p:=p) (ind:=bytesOf I) (by rw [bytesOf_length];exact hI) j
    simp only [pT.l1]
    rw [if_pos om,if_pos (by rw [List.length_append];unfold lim at hx;omega),wr om om]
    rfl
theorem tabs_ev {x:List Int} {P I:ByteArray} (hI:I.size≤64) {n:Nat} (hn:n≤100000) (hx:(x.length:Int)+P.size+64*n<lim):Ev (fun k=>pT.f k x P I n) (x++ahd (bytesOf P) (bytesOf I) n):=by
  have h1:Ev (fun k=>pT.j1 k (x++bytesOf P) I n false) (x++ahd (bytesOf P) (bytesOf I) n):=by
    refine Ev.step (f:=fun k=>pT.l1 k (x++bytesOf P) I n 0) (fun k=>?_) (tabs_l1 (p:=bytesOf P) hI hn n 0 om (by rw [bytesOf_length];exact hx))
    simp only [pT.j1];rw [if_neg (by simp)]
  have h2:Ev (fun k=>pT.j0 k (x++bytesOf P) I n) (x++ahd (bytesOf P) (bytesOf I) n):=by
    by_cases hs:(I.size:Int)=2
    · by_cases h32:bt I 0=32
      · by_cases h33:bt I 1=32
        · have hb:bytesOf I=[32,32]:=by
            have hl:(bytesOf I).length=2:=by rw [bytesOf_length];omega
            rw [← rd_bytesOf] at h32 h33
            match hbb:bytesOf I,hl with
            | [a,b],_=>rw [hbb] at h32 h33;have e1:a=32:=h32;have e2:b=32:=h33;rw [e1,e2]
          have h3:=tabs_l0 (x:=x) (p:=bytesOf P) hn n 0 om (by
            have:=ahd_le (p:=bytesOf P) (ind:=[32,32]) (by simp) n
            rw [bytesOf_length] at this;omega)
          rw [← hb] at h3
          refine Ev.step (f:=fun k=>pT.j1 k (x++bytesOf P) I n true) (fun k=>?_) (Ev.step (f:=fun k=>pT.l0 k (x++bytesOf P) n 0) (fun k=>?_) h3)
          · simp only [pT.j0];rw [if_pos hs,if_pos om,if_pos h32,if_pos om,h33];rfl
          · simp only [pT.j1];rw [if_pos (by trivial)]
        · refine Ev.step (fun k=>?_) h1
          simp only [pT.j0];rw [if_pos hs,if_pos om,if_pos h32,if_pos om,show (bt I 1 == 32)=false by simpa using h33]
      · refine Ev.step (fun k=>?_) h1
        simp only [pT.j0];rw [if_pos hs,if_pos om,if_neg h32]
    · refine Ev.step (fun k=>?_) h1
      simp only [pT.j0];rw [if_neg hs]
  by_cases hP:(P.size:Int)=0
  · have e:bytesOf P=[]:=List.length_eq_zero_iff.mp (by rw [bytesOf_length];omega)
    refine Ev.congr (f:=fun k=>pT.j0 k (x++bytesOf P) I n) (fun k=>?_) h2
    unfold pT.f;rw [if_pos hP,e,List.append_nil]
  · refine Ev.congr (f:=fun k=>pT.j0 k (x++bytesOf P) I n) (fun k=>?_) h2
    unfold pT.f;rw [if_neg hP,if_pos (by unfold lim at hx;omega)]
end Go.Proofs.Ytbkgoccnegjdhaa.U

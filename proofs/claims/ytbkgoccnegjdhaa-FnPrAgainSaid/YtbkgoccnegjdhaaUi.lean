/- The reference's Escaped, Unquote, Tree and Unique in plain words: where no byte is a backslash, Unique says that the names of each object differ. -/
import Derived.Test.YtbkgoccnegjdhaaUh
import Derived.Test.YtbkgoccnegjdhaaBg
import Derived.Test.YtbkgoccnegjdhaaB14
import Derived.Test.YtbkgoccnegjdhaaB15
namespace Go.Proofs.Ytbkgoccnegjdhaa.U
open Go.RowKit Go.Proofs.YtbkgoccnegjdhaaW.PrintWords Go.Proofs.YtbkgoccnegjdhaaW.PrintLast Go.Proofs.YtbkgoccnegjdhaaW.PrintMore Go.Proofs.Ytbkgoccnegjdhaa.M Go.Proofs.Ytbkgoccnegjdhaa.Q
set_option linter.unusedVariables false
theorem bytesOf_at {s:ByteArray} {c:Int} (h:c ∈ bytesOf s) : ∃ q:Int,0≤q∧q<s.size∧bt s q=c:=by
  obtain ⟨k,hk,e⟩:=List.mem_iff_getElem.1 h
  rw [bytesOf_length] at hk
  refine ⟨k,by omega,by omega,?_⟩
  rw [← rd_bytesOf]
  unfold rd
  rw [Int.toNat_natCast,List.getD_eq_getElem?_getD,List.getElem?_eq_getElem (by rw [bytesOf_length];exact hk)]
  exact e
theorem bt_mem {s:ByteArray} {q:Int} (h0:0≤q) (h1:q<s.size):bt s q ∈ bytesOf s:=by
  rw [← rd_bytesOf]
  unfold rd
  rw [List.getD_eq_getElem?_getD,List.getElem?_eq_getElem (by rw [bytesOf_length];omega)]
  exact List.getElem_mem _
/-! ### Escaped -/
theorem escaped_loop (s:ByteArray) (hn:s.size≤4611686018427387904) (d:Nat) : ∀ i:Int,0≤i→i≤s.size→(s.size:Int) - i=d →
    ∃ b,Ev (fun k=>sE.l0 k s i) b∧(b=false → ∀ q,i≤q→q<s.size→bt s q≠92):=by
  induction d with
  | zero=>intro i h0 h1 hd;exact ⟨false,Ev.const _ fun k=>by simp only [sE.l0];rw [if_neg om],fun _ q h2 h3=>by omega⟩
  | succ d ih =>
    intro i h0 h1 hd
    by_cases h:bt s i=92
    · exact ⟨true,Ev.const _ fun k=>by simp only [sE.l0];rw [if_pos om,if_pos h0,if_pos h],fun h=>by cases h⟩
    · obtain ⟨b,hb,hq⟩:=ih (i+1) om om om
      refine ⟨b,Ev.step (fun k=>?_) hb,fun hb q h2 h3=>?_⟩
      · simp only [sE.l0];rw [if_pos om,if_pos h0,if_neg h,wr om om]
      · by_cases e:q=i
        · subst e;exact h
        · exact hq hb q om h3
theorem escaped_ev (s:ByteArray) (hn:s.size≤4611686018427387904) : ∃ b,Ev (fun k=>sE.f k s) b∧(b=false → ∀ c,c ∈ bytesOf s→c≠92):=by
  obtain ⟨b,hb,hq⟩:=escaped_loop s hn s.size 0 om om om
  refine ⟨b,hb,fun h c hc=>?_⟩
  obtain ⟨q,h0,h1,e⟩:=bytesOf_at hc
  rw [← e];exact hq h q h0 h1
/-! ### Unquote -/
theorem take_succ_bt {s:ByteArray} {i:Nat} (h:i<s.size):(bytesOf s).take (i+1)=(bytesOf s).take i++[bt s i]:=by
  rw [List.take_succ_eq_append_getElem (by rw [bytesOf_length];exact h)]
  congr 2
  rw [← rd_bytesOf]
  unfold rd
  rw [Int.toNat_natCast,List.getD_eq_getElem?_getD,List.getElem?_eq_getElem (by rw [bytesOf_length];exact h)]
  rfl
theorem unquote_loop (s:ByteArray) (hn:s.size≤100000) (h92 : ∀ c,c ∈ bytesOf s→c≠92) (d:Nat) : ∀ i:Nat,i≤s.size→s.size - i=d →
    Ev (fun k=>sU.l0 k ((bytesOf s).take i) s i) (strOfNums (bytesOf s)):=by
  induction d with
  | zero =>
    intro i h1 hd
    refine Ev.const _ fun k=>?_
    simp only [sU.l0]
    rw [if_neg om,List.take_of_length_le (by rw [bytesOf_length];omega)]
  | succ d ih =>
    intro i h1 hd
    have h:=ih (i+1) om om
    rw [take_succ_bt om] at h
    refine Ev.step (fun k=>?_) h
    simp only [sU.l0]
    rw [if_pos om,if_pos om,if_neg (h92 _ (bt_mem om om)),if_pos (by rw [List.length_take,bytesOf_length];omega),wr om om]
    rfl
theorem sl_inner {s:ByteArray} {i e:Int} (h0:0≤i) (h2:i+2≤e) (he:e≤s.size):sl s (i+1) (e - 1)=inner (sl s i e):=by
  have hl:=sl_len h0 om he
  unfold inner
  rw [show (sl s i e).length=(e - i).toNat by omega]
  unfold sl
  rw [List.drop_drop,show (i+1).toNat=i.toNat+1 by omega]
  apply List.ext_getElem?
  intro k
  rw [List.getElem?_drop,List.getElem?_take,List.getElem?_take,List.getElem?_drop,List.getElem?_take]
  split <;> split <;> first|rfl|omega|skip
  · rw [if_pos om]
theorem unquote_ev (s:ByteArray) {i e:Int} (hn:s.size≤4096) (h0:0≤i) (h1:i≤e) (he:e≤s.size) (hok:StrOK (sl s i e)) (h92 : ∀ c,c ∈ bytesOf s→c≠92) :
    Ev (fun k=>sU.f k (s.extract i.toNat e.toNat)) (strOfNums (inner (sl s i e))):=by
  have hl:=sl_len h0 h1 he
  have hb:=bytesOf_extract s (i:=i) (e:=e)
  have hm : ∀ c,c ∈ sl s i e→c≠92:=fun c hc=>h92 c (by
    unfold sl at hc
    exact List.mem_of_mem_take (List.mem_of_mem_drop hc))
  obtain ⟨ec,hc⟩:=hok.clean hm
  have h2:2≤(sl s i e).length:=by rw [ec];simp
  generalize s.extract i.toNat e.toNat=x at hb ⊢
  have hxs:(x.size:Int)=e - i:=by rw [← hl, ← hb,bytesOf_length]
  have hx:bytesOf (x.extract 1 (wrap64 ((x.size:Int) - 1)).toNat)=inner (sl s i e):=by
    rw [wr om om]
    have h3:=bytesOf_extract x (i:=1) (e:=(x.size:Int) - 1)
    rw [show ((1:Int)).toNat=1 from rfl] at h3
    rw [h3]
    have h4:=sl_inner (s:=x) (i:=0) (e:=x.size) om om om
    rw [show (0:Int)+1=1 by omega] at h4
    rw [h4]
    have h5:sl x 0 x.size=bytesOf x:=by
      unfold sl
      rw [Int.toNat_natCast,List.take_of_length_le (by rw [bytesOf_length];omega)];rfl
    rw [h5,hb]
  have hxm : ∀ c,c ∈ bytesOf (x.extract 1 (wrap64 ((x.size:Int) - 1)).toNat)→c≠92:=fun c h=>by rw [hx] at h;exact (hc c h).2
  have hsz:(x.extract 1 (wrap64 ((x.size:Int) - 1)).toNat).size≤100000:=by
    rw [← bytesOf_length,hx];unfold inner;rw [List.length_take];omega
  have h:=unquote_loop _ hsz hxm _ 0 om rfl
  rw [hx] at h
  refine Ev.congr (fun k=>?_) h
  unfold sU.f
  rw [wr om om] at *
  rw [if_pos om,if_pos om]
  rfl
/-! ### Tree -/
/-- The names of a row of members. -/
def keysOf:TM→List ByteArray
  | .nil=>[]
  | .cons n _ m=>strOfNums (inner n) :: keysOf m
mutual
/-- A tree of the reference for this tree. -/
def Nd:T→S42→Prop
  | .leaf _,n=>n.f2=[]∧n.f3=[]
  | .arr k,n=>n.f2=[]∧NdL k n.f3
  | .obj m,n=>n.f2=keysOf m∧NdM m n.f3
def NdL:TL→List S42→Prop
  | .nil,ns=>ns=[]
  | .cons t k,ns => ∃ p qs,ns=p :: qs∧Nd t p∧NdL k qs
def NdM:TM→List S42→Prop
  | .nil,ns=>ns=[]
  | .cons n t m,ns => ∃ p qs,ns=p :: qs∧Nd t p∧NdM m qs
end
theorem RepL.len {s:ByteArray} : ∀ {k:TL} {ps:List S28}, RepL s k ps→ps.length≤k.sz
  | .nil,ps,h=>by simp only [RepL] at h;subst h;simp
  | .cons t k,ps,h=>by
    simp only [RepL] at h;obtain ⟨p,qs,e,h1,h2⟩:=h;subst e
    have:=RepL.len h2;simp only [TL.sz,List.length_cons];omega
theorem RepM.len {s:ByteArray} : ∀ {m:TM} {ns:List S52} {ps:List S28}, RepM s m ns ps→ns.length≤m.sz∧ps.length≤m.sz
  | .nil,ns,ps,h=>by simp only [RepM] at h;obtain ⟨h1,h2⟩:=h;subst h1;subst h2;simp
  | .cons n t m,ns,ps,h=>by
    simp only [RepM] at h;obtain ⟨y,ms,p,qs,e1,e2,_,_,_,_,_,h2⟩:=h;subst e1;subst e2
    have:=RepM.len h2;simp only [TM.sz,List.length_cons];omega
variable {s:ByteArray}
theorem keys_ev (hn:s.size≤4096) (h92 : ∀ c,c ∈ bytesOf s→c≠92) {kd b e kd2:Int} {tx:ByteArray} {kids:List S28} {full:List S52} (hf:full.length≤4096) {r:Int × ByteArray × List ByteArray × List S42} : ∀ (m:TM) (dn rest:List S52) (ps:List S28) (acc:List ByteArray),RepM s m rest ps→m.ok→full=dn++rest→acc.length=dn.length →
    Ev (fun k=>sT.l1 k s 0 kd b e full kids kd2 tx (acc++keysOf m) []) r→Ev (fun k=>sT.l0 k s (dn.length:Int) kd b e full kids kd2 tx acc) r
  | .nil,dn,rest,ps,acc,h,hok,hfull,hacc,hr=>by
    simp only [RepM] at h
    obtain ⟨h1,h2⟩:=h
    subst h1;subst h2
    rw [List.append_nil] at hfull
    subst hfull
    simp only [keysOf,List.append_nil] at hr
    refine Ev.step (fun k=>?_) hr
    simp only [sT.l0]
    rw [if_neg om]
  | .cons n t m,dn,rest,ps,acc,h,hok,hfull,hacc,hr=>by
    simp only [RepM] at h
    obtain ⟨y,ms,p,qs,e1,e2,hy0,hy1,hy2,hy3,hp,hm⟩:=h
    subst e1;subst e2
    simp only [TM.ok] at hok
    have hlen:full.length=dn.length+(ms.length+1):=by rw [hfull];simp
    have hrd:rd_T52 full (dn.length:Int)=y:=by
      unfold rd_T52
      rw [hfull,Int.toNat_natCast,List.getD_eq_getElem?_getD,List.getElem?_append_right (Nat.le_refl _),Nat.sub_self];rfl
    have hu:=unquote_ev s (i:=y.f0) (e:=y.f1) hn hy0 hy1 hy2 (by rw [hy3];exact hok.1) h92
    rw [hy3] at hu
    have ih:=keys_ev hn h92 hf (kd:=kd) (b:=b) (e:=e) (kd2:=kd2) (tx:=tx) (kids:=kids) (r:=r) m (dn++[y]) ms qs (acc++[strOfNums (inner n)]) hm hok.2.2 (by rw [hfull];simp) (by simp [hacc]) (by simpa [keysOf] using hr)
    have ha:acc.length<8796093022208:=by omega
    refine Ev.step (f:=fun k=>(sU.f k (s.extract y.f0.toNat y.f1.toNat)).bind fun t=>if acc.length<8796093022208 then sT.l0 k s (wrap64 ((dn.length:Int)+1)) kd b e full kids kd2 tx (acc++[t]) else none) (fun k=>?_) (Ev.bind hu (Ev.congr (fun k=>?_) ih))
    · simp only [sT.l0]
      rw [hrd,if_pos om,if_pos om,if_pos hy0,if_pos hy1,if_pos hy2]
    · rw [if_pos ha,wr om om,List.length_append];rfl
mutual
theorem tree_ev (hn:s.size≤4096) (h92 : ∀ c,c ∈ bytesOf s→c≠92) : ∀ (t:T) (p:S28),Rep s t p→t.ok→t.sz≤4096 → ∃ n:S42,Ev (fun k=>sT.f k s p.f0 p.f1 p.f2 p.f3 p.f4) (n.f0,n.f1,n.f2,n.f3)∧Nd t n
  | .leaf b,p,h,hok,hz=>by
    simp only [Rep] at h
    obtain ⟨h5,h6,h0,h1,h2,hb,h4,h3,hs⟩:=h
    have hgo : ∀ tx:ByteArray,Ev (fun k=>sT.j0 k s p.f0 p.f1 p.f2 p.f3 p.f4 p.f0 tx) (p.f0,tx,[],[]):=fun tx=>by
      rw [h3,h4]
      refine Ev.step (f:=fun k=>sT.l0 k s 0 p.f0 p.f1 p.f2 [] [] p.f0 tx []) (fun k=>by simp only [sT.j0]) (Ev.step (f:=fun k=>sT.l1 k s 0 p.f0 p.f1 p.f2 [] [] p.f0 tx [] []) (fun k=>?_) (Ev.const _ fun k=>?_))
      · simp only [sT.l0];rw [if_neg (by simp)]
      · simp only [sT.l1];rw [if_neg (by simp)]
    by_cases c3:p.f0=3
    · refine ⟨⟨p.f0,_,[],[]⟩,Ev.step (fun k=>?_) (hgo (s.extract p.f1.toNat p.f2.toNat)),by simp only [Nd];exact ⟨trivial,trivial⟩⟩
      simp only [sT.f];rw [if_pos c3,if_pos h0,if_pos h1,if_pos h2]
    · by_cases c4:p.f0=4
      · have hu:=unquote_ev s (i:=p.f1) (e:=p.f2) hn h0 h1 h2 (by rw [hb];exact hs c4) h92
        refine ⟨⟨p.f0,_,[],[]⟩,Ev.step (f:=fun k=>(sU.f k (s.extract p.f1.toNat p.f2.toNat)).bind fun t=>sT.j0 k s p.f0 p.f1 p.f2 p.f3 p.f4 p.f0 t) (fun k=>?_) (Ev.bind hu (hgo _)),by simp only [Nd];exact ⟨trivial,trivial⟩⟩
        simp only [sT.f];rw [if_neg c3,if_pos c4,if_pos h0,if_pos h1,if_pos h2]
      · refine ⟨⟨p.f0,_,[],[]⟩,Ev.step (fun k=>?_) (hgo (⟨#[]⟩:ByteArray)),by simp only [Nd];exact ⟨trivial,trivial⟩⟩
        simp only [sT.f];rw [if_neg c3,if_neg c4]
  | .arr k,p,h,hok,hz=>by
    simp only [Rep] at h
    obtain ⟨h5,h3,hl⟩:=h
    simp only [T.ok] at hok
    simp only [T.sz] at hz
    have hlen:=hl.len
    obtain ⟨ns,he,hd⟩:=kids_ev hn h92 (full:=p.f4) om (kd:=p.f0) (b:=p.f1) (e:=p.f2) (kd2:=p.f0) (tx:=(⟨#[]⟩:ByteArray)) (names:=p.f3) (keys:=[]) k [] p.f4 [] hl hok om rfl rfl
    refine ⟨⟨p.f0,(⟨#[]⟩:ByteArray),[],ns⟩,Ev.step (f:=fun k=>sT.j0 k s p.f0 p.f1 p.f2 p.f3 p.f4 p.f0 (⟨#[]⟩:ByteArray)) (fun k=>?_) (Ev.step (f:=fun k=>sT.l0 k s 0 p.f0 p.f1 p.f2 p.f3 p.f4 p.f0 (⟨#[]⟩:ByteArray) []) (fun k=>by simp only [sT.j0]) (Ev.step (fun k=>?_) he)),by simp only [Nd];exact ⟨trivial,hd⟩⟩
    · simp only [sT.f];rw [if_neg om,if_neg om]
    · simp only [sT.l0];rw [h3,if_neg (by simp)];rfl
  | .obj m,p,h,hok,hz=>by
    simp only [Rep] at h
    obtain ⟨h6,hl⟩:=h
    simp only [T.ok] at hok
    simp only [T.sz] at hz
    have hlen:=hl.len
    obtain ⟨ns,he,hd⟩:=mems_ev hn h92 (full:=p.f4) om (kd:=p.f0) (b:=p.f1) (e:=p.f2) (kd2:=p.f0) (tx:=(⟨#[]⟩:ByteArray)) (names:=p.f3) (keys:=keysOf m) m [] p.f3 p.f4 [] hl hok om rfl rfl
    have hk:=keys_ev hn h92 (full:=p.f3) om (kd:=p.f0) (b:=p.f1) (e:=p.f2) (kd2:=p.f0) (tx:=(⟨#[]⟩:ByteArray)) (kids:=p.f4) m [] p.f3 p.f4 [] hl hok rfl rfl he
    refine ⟨⟨p.f0,(⟨#[]⟩:ByteArray),keysOf m,ns⟩,Ev.step (f:=fun k=>sT.j0 k s p.f0 p.f1 p.f2 p.f3 p.f4 p.f0 (⟨#[]⟩:ByteArray)) (fun k=>?_) (Ev.step (fun k=>by simp only [sT.j0];rfl) hk),by simp only [Nd];exact ⟨trivial,hd⟩⟩
    simp only [sT.f];rw [if_neg om,if_neg om]
theorem kids_ev (hn:s.size≤4096) (h92 : ∀ c,c ∈ bytesOf s→c≠92) {kd b e kd2:Int} {tx:ByteArray} {names:List S52} {keys:List ByteArray} {full:List S28} (hf:full.length≤4096) : ∀ (k:TL) (dn rest:List S28) (acc:List S42),RepL s k rest→k.ok→k.sz≤4096→full=dn++rest→acc.length=dn.length →
    ∃ ns,Ev (fun j=>sT.l1 j s (dn.length:Int) kd b e names full kd2 tx keys acc) (kd2,tx,keys,acc++ns)∧NdL k ns
  | .nil,dn,rest,acc,h,hok,hz,hfull,hacc=>by
    simp only [RepL] at h
    subst h
    rw [List.append_nil] at hfull
    subst hfull
    refine ⟨[],?_,by simp only [NdL]⟩
    rw [List.append_nil]
    refine Ev.const _ fun k=>?_
    simp only [sT.l1]
    rw [if_neg om]
  | .cons t k,dn,rest,acc,h,hok,hz,hfull,hacc=>by
    simp only [RepL] at h
    obtain ⟨p,qs,e2,hp,hm⟩:=h
    subst e2
    simp only [TL.ok] at hok
    simp only [TL.sz] at hz
    have hlen:full.length=dn.length+(qs.length+1):=by rw [hfull];simp
    have hrd:rd_T28 full (dn.length:Int)=p:=by
      unfold rd_T28
      rw [hfull,Int.toNat_natCast,List.getD_eq_getElem?_getD,List.getElem?_append_right (Nat.le_refl _),Nat.sub_self];rfl
    obtain ⟨⟨n0,n1,n2,n3⟩,h1,h2⟩:=tree_ev hn h92 t p hp hok.1 om
    obtain ⟨ns,h3,h4⟩:=kids_ev hn h92 hf (kd:=kd) (b:=b) (e:=e) (kd2:=kd2) (tx:=tx) (names:=names) (keys:=keys) k (dn++[p]) qs (acc++[⟨n0,n1,n2,n3⟩]) hm hok.2 om (by rw [hfull];simp) (by simp [hacc])
    have ha:acc.length<1954687338268:=by omega
    rw [show ((dn++[p]).length:Int)=(dn.length:Int)+1 by simp] at h3
    refine ⟨⟨n0,n1,n2,n3⟩ :: ns,Ev.step (f:=fun k=>(sT.f k s p.f0 p.f1 p.f2 p.f3 p.f4).bind fun t=>if acc.length<1954687338268 then sT.l1 k s (wrap64 ((dn.length:Int)+1)) kd b e names full kd2 tx keys (acc++[(⟨t.1,t.2.1,t.2.2.1,t.2.2.2⟩:S42)]) else none) (fun k=>?_) (Ev.bind h1 (Ev.congr (fun k=>?_) (r:=(kd2,tx,keys,acc++⟨n0,n1,n2,n3⟩ :: ns)) (by rw [List.append_assoc] at h3;exact h3))),by simp only [NdL];exact ⟨_,ns,rfl,h2,h4⟩⟩
    · simp only [sT.l1]
      rw [hrd,if_pos om,if_pos om]
    · rw [if_pos ha,wr om om]
theorem mems_ev (hn:s.size≤4096) (h92 : ∀ c,c ∈ bytesOf s→c≠92) {kd b e kd2:Int} {tx:ByteArray} {names:List S52} {keys:List ByteArray} {full:List S28} (hf:full.length≤4096) : ∀ (m:TM) (dn:List S28) (ys:List S52) (rest:List S28) (acc:List S42),RepM s m ys rest→m.ok→m.sz≤4096→full=dn++rest→acc.length=dn.length →
    ∃ ns,Ev (fun j=>sT.l1 j s (dn.length:Int) kd b e names full kd2 tx keys acc) (kd2,tx,keys,acc++ns)∧NdM m ns
  | .nil,dn,ys,rest,acc,h,hok,hz,hfull,hacc=>by
    simp only [RepM] at h
    obtain ⟨h1,h⟩:=h
    subst h
    rw [List.append_nil] at hfull
    subst hfull
    refine ⟨[],?_,by simp only [NdM]⟩
    rw [List.append_nil]
    refine Ev.const _ fun k=>?_
    simp only [sT.l1]
    rw [if_neg om]
  | .cons nm t k,dn,ys,rest,acc,h,hok,hz,hfull,hacc=>by
    simp only [RepM] at h
    obtain ⟨y,ms,p,qs,e1,e2,_,_,_,_,hp,hm⟩:=h
    subst e2
    simp only [TM.ok] at hok
    simp only [TM.sz] at hz
    have hlen:full.length=dn.length+(qs.length+1):=by rw [hfull];simp
    have hrd:rd_T28 full (dn.length:Int)=p:=by
      unfold rd_T28
      rw [hfull,Int.toNat_natCast,List.getD_eq_getElem?_getD,List.getElem?_append_right (Nat.le_refl _),Nat.sub_self];rfl
    obtain ⟨⟨n0,n1,n2,n3⟩,h1,h2⟩:=tree_ev hn h92 t p hp hok.2.1 om
    obtain ⟨ns,h3,h4⟩:=mems_ev hn h92 hf (kd:=kd) (b:=b) (e:=e) (kd2:=kd2) (tx:=tx) (names:=names) (keys:=keys) k (dn++[p]) ms qs (acc++[⟨n0,n1,n2,n3⟩]) hm hok.2.2 om (by rw [hfull];simp) (by simp [hacc])
    have ha:acc.length<1954687338268:=by omega
    rw [show ((dn++[p]).length:Int)=(dn.length:Int)+1 by simp] at h3
    refine ⟨⟨n0,n1,n2,n3⟩ :: ns,Ev.step (f:=fun k=>(sT.f k s p.f0 p.f1 p.f2 p.f3 p.f4).bind fun t=>if acc.length<1954687338268 then sT.l1 k s (wrap64 ((dn.length:Int)+1)) kd b e names full kd2 tx keys (acc++[(⟨t.1,t.2.1,t.2.2.1,t.2.2.2⟩:S42)]) else none) (fun k=>?_) (Ev.bind h1 (Ev.congr (fun k=>?_) (r:=(kd2,tx,keys,acc++⟨n0,n1,n2,n3⟩ :: ns)) (by rw [List.append_assoc] at h3;exact h3))),by simp only [NdM];exact ⟨_,ns,rfl,h2,h4⟩⟩
    · simp only [sT.l1]
      rw [hrd,if_pos om,if_pos om]
    · rw [if_pos ha,wr om om]
end
/-! ### Unique -/
/-- Where a name stands last. -/
theorem at_ev {a:Int} {b:ByteArray} {ks:List ByteArray} {ns:List S42} {x:ByteArray} (hk:ks.length≤100000) (d:Nat) : ∀ i:Nat,i≤ks.length→i=d →
    ∃ r:Int,Ev (fun k=>sA.l0 k x ((i:Int) - 1) a b ks ns) r ∧ ∀ j:Nat,j<i→(ks.getD j ByteArray.empty).toList=x.toList→(j:Int)≤r:=by
  induction d with
  | zero =>
    intro i h1 hd
    subst hd
    exact ⟨-1,Ev.const _ fun k=>by simp only [sA.l0];rw [if_neg om],fun j hj=>by omega⟩
  | succ d ih =>
    intro i h1 hd
    obtain ⟨r,hr,hq⟩:=ih d om rfl
    have hrd:rdOf ByteArray.empty ks ((i:Int) - 1)=ks.getD d ByteArray.empty:=by
      unfold rdOf
      rw [show ((i:Int) - 1).toNat=d by omega]
    by_cases c:(ks.getD d ByteArray.empty).toList=x.toList
    · refine ⟨(i:Int) - 1,Ev.const _ fun k=>?_,fun j hj _=>by omega⟩
      simp only [sA.l0]
      rw [if_pos om,if_pos om,if_pos om,hrd,if_pos c]
    · refine ⟨r,Ev.step (fun k=>?_) hr,fun j hj e=>?_⟩
      · simp only [sA.l0]
        rw [if_pos om,if_pos om,if_pos om,hrd,if_neg c,wr om om,show (i:Int) - 1 - 1=(d:Int) - 1 by omega]
      · by_cases ej:j=d
        · subst ej;exact absurd e c
        · exact hq j om e
/-- No name stands once more behind. -/
theorem names_ev {a:Int} {b:ByteArray} {ks:List ByteArray} {ns:List S42} (hk:ks.length≤100000) {b0:Bool} {Y:Prop} (h0:Ev (fun k=>sV.l1 k 0 a b ks ns) b0) (hY:b0=true→Y) (d:Nat) : ∀ i:Nat,i≤ks.length→ks.length - i=d →
    ∃ r,Ev (fun k=>sV.l0 k (i:Int) a b ks ns) r∧(r=true→(∀ j q:Nat,i≤j→j<q→q<ks.length→(ks.getD q ByteArray.empty).toList≠(ks.getD j ByteArray.empty).toList)∧Y):=by
  induction d with
  | zero =>
    intro i h1 hd
    refine ⟨b0,Ev.step (fun k=>?_) h0,fun h=>⟨fun j q h2 h3 h4=>by omega,hY h⟩⟩
    simp only [sV.l0]
    rw [if_neg om]
  | succ d ih =>
    intro i h1 hd
    obtain ⟨r,hr,hq⟩:=ih (i+1) om om
    have hrd:rdOf ByteArray.empty ks (i:Int)=ks.getD i ByteArray.empty:=by
      unfold rdOf
      rw [Int.toNat_natCast]
    obtain ⟨v,hv,hvq⟩:=at_ev (a:=a) (b:=b) (ns:=ns) (x:=ks.getD i ByteArray.empty) hk ks.length ks.length (Nat.le_refl _) rfl
    have hv2:Ev (fun k=>sA.f k a b ks ns (ks.getD i ByteArray.empty)) v:=by
      refine Ev.congr (fun k=>?_) hv
      unfold sA.f
      rw [wr om om]
    by_cases c:v=(i:Int)
    · refine ⟨r,Ev.step (f:=fun k=>(sA.f k a b ks ns (ks.getD i ByteArray.empty)).bind fun t=>if t=(i:Int) then sV.l0 k (wrap64 ((i:Int)+1)) a b ks ns else some false) (fun k=>?_) (Ev.bind hv2 (Ev.congr (fun k=>?_) hr)),fun h=>⟨fun j q h2 h3 h4=>?_,(hq h).2⟩⟩
      · simp only [sV.l0]
        rw [if_pos om,if_pos om,hrd]
      · rw [if_pos c,wr om om];rfl
      · by_cases ej:j=i
        · subst ej
          intro e
          have:=hvq q h4 e
          omega
        · exact (hq h).1 j q om h3 h4
    · refine ⟨false,Ev.step (f:=fun k=>(sA.f k a b ks ns (ks.getD i ByteArray.empty)).bind fun t=>if t=(i:Int) then sV.l0 k (wrap64 ((i:Int)+1)) a b ks ns else some false) (fun k=>?_) (Ev.bind hv2 (Ev.congr (fun k=>?_) (Ev.now _))),fun h=>by cases h⟩
      · simp only [sV.l0]
        rw [if_pos om,if_pos om,hrd]
      · rw [if_neg c]
theorem klt_total {a b:List Int} (h:(strOfNums b).toList≠(strOfNums a).toList):klt a b=true∨klt b a=true:=by
  rw [klt_eq,klt_eq,decide_eq_true_eq,decide_eq_true_eq]
  by_cases c:(strOfNums a).toList<(strOfNums b).toList
  · exact .inl c
  · by_cases c2:(strOfNums b).toList<(strOfNums a).toList
    · exact .inr c2
    · exact absurd (List.le_antisymm c c2) h
theorem keysOf_away {n:List Int} : ∀ {m:TM}, (∀ x,x ∈ keysOf m→x.toList≠(strOfNums (inner n)).toList)→m.away n
  | .nil,_=>fun z hz=>by simp [TM.names] at hz
  | .cons n2 t m,h=>fun z hz=>by
    rcases List.mem_cons.1 hz with rfl|hz
    · exact klt_total (h _ (List.mem_cons_self ..))
    · exact keysOf_away (fun x hx=>h x (List.mem_cons_of_mem _ hx)) z hz
/-- The names of one row differ. -/
def apartM:TM→Prop
  | .nil=>True
  | .cons n _ m=>m.away n∧apartM m
theorem keysOf_apart : ∀ {m:TM}, (∀ j q:Nat,j<q→q<(keysOf m).length→((keysOf m).getD q ByteArray.empty).toList≠((keysOf m).getD j ByteArray.empty).toList)→apartM m
  | .nil,_=>trivial
  | .cons n t m,h=>by
    refine ⟨keysOf_away fun x hx=>?_,keysOf_apart fun j q h1 h2=>?_⟩
    · obtain ⟨k,hk,e⟩:=List.mem_iff_getElem.1 hx
      have h3:=h 0 (k+1) om (by simp only [keysOf,List.length_cons];omega)
      simp only [keysOf,List.getD_cons_succ,List.getD_cons_zero] at h3
      rw [List.getD_eq_getElem?_getD,List.getElem?_eq_getElem hk] at h3
      rw [← e];exact h3
    · have h3:=h (j+1) (q+1) om (by simp only [keysOf,List.length_cons];omega)
      simpa only [keysOf,List.getD_cons_succ] using h3
theorem keysOf_len : ∀ {m:TM}, (keysOf m).length≤m.sz
  | .nil=>by simp [keysOf]
  | .cons n t m=>by have:=keysOf_len (m:=m);simp only [keysOf,TM.sz,List.length_cons];omega
theorem NdL.len : ∀ {k:TL} {ns:List S42}, NdL k ns→ns.length≤k.sz
  | .nil,ns,h=>by simp only [NdL] at h;subst h;simp
  | .cons t k,ns,h=>by simp only [NdL] at h;obtain ⟨p,qs,e,_,h2⟩:=h;subst e;have:=NdL.len h2;simp only [TL.sz,List.length_cons];omega
theorem NdM.len : ∀ {k:TM} {ns:List S42}, NdM k ns→ns.length≤k.sz
  | .nil,ns,h=>by simp only [NdM] at h;subst h;simp
  | .cons n t k,ns,h=>by simp only [NdM] at h;obtain ⟨p,qs,e,_,h2⟩:=h;subst e;have:=NdM.len h2;simp only [TM.sz,List.length_cons];omega
/-- The trees of the members' values. -/
def TM.uqv:TM→Prop
  | .nil=>True
  | .cons _ t m=>t.uq∧m.uqv
theorem uq_of : ∀ {m:TM}, apartM m→m.uqv→m.uq
  | .nil,_,_=>trivial
  | .cons n t m,h1,h2=>by simp only [TM.uq];exact ⟨h1.1,h2.1,uq_of h1.2 h2.2⟩
mutual
theorem unique_ev : ∀ (t:T) (n:S42),Nd t n→t.sz≤4096 → ∃ b,Ev (fun k=>sV.f k n.f0 n.f1 n.f2 n.f3) b∧(b=true→t.uq)
  | .leaf b,n,h,hz=>by
    simp only [Nd] at h
    rw [h.1,h.2]
    refine ⟨true,Ev.step (f:=fun k=>sV.l0 k 0 n.f0 n.f1 [] []) (fun k=>by simp only [sV.f]) (Ev.step (f:=fun k=>sV.l1 k 0 n.f0 n.f1 [] []) (fun k=>?_) (Ev.const _ fun k=>?_)),fun _=>by simp only [T.uq]⟩
    · simp only [sV.l0];rw [if_neg (by simp)]
    · simp only [sV.l1];rw [if_neg (by simp)]
  | .arr k,n,h,hz=>by
    simp only [Nd] at h
    simp only [T.sz] at hz
    have hlen:=h.2.len
    obtain ⟨b,hb,hq⟩:=uniqueL_ev (full:=n.f3) om (a:=n.f0) (b:=n.f1) (ks:=n.f2) k [] n.f3 h.2 om rfl
    refine ⟨b,Ev.step (f:=fun k=>sV.l0 k 0 n.f0 n.f1 n.f2 n.f3) (fun k=>by simp only [sV.f]) (Ev.step (fun k=>?_) hb),fun h=>by simp only [T.uq];exact hq h⟩
    simp only [sV.l0];rw [h.1,if_neg (by simp)];rfl
  | .obj m,n,h,hz=>by
    simp only [Nd] at h
    simp only [T.sz] at hz
    have hlen:=h.2.len
    have hkl:=keysOf_len (m:=m)
    obtain ⟨b,hb,hq⟩:=uniqueM_ev (full:=n.f3) om (a:=n.f0) (b:=n.f1) (ks:=n.f2) m [] n.f3 h.2 om rfl
    rw [h.1] at hb ⊢
    obtain ⟨r,hr,hrq⟩:=names_ev (a:=n.f0) (b:=n.f1) (ks:=keysOf m) (ns:=n.f3) om hb hq _ 0 om rfl
    refine ⟨r,Ev.step (fun k=>by simp only [sV.f];rfl) hr,fun h=>?_⟩
    obtain ⟨h1,h2⟩:=hrq h
    simp only [T.uq]
    exact uq_of (keysOf_apart fun j q h3 h4=>h1 j q om h3 h4) h2
theorem uniqueL_ev {a:Int} {b:ByteArray} {ks:List ByteArray} {full:List S42} (hf:full.length≤4096) : ∀ (k:TL) (dn rest:List S42),NdL k rest→k.sz≤4096→full=dn++rest →
    ∃ r,Ev (fun j=>sV.l1 j (dn.length:Int) a b ks full) r∧(r=true→k.uq)
  | .nil,dn,rest,h,hz,hfull=>by
    simp only [NdL] at h
    subst h
    rw [List.append_nil] at hfull
    subst hfull
    refine ⟨true,Ev.const _ fun k=>?_,fun _=>by simp only [TL.uq]⟩
    simp only [sV.l1]
    rw [if_neg om]
  | .cons t k,dn,rest,h,hz,hfull=>by
    simp only [NdL] at h
    obtain ⟨p,qs,e,hp,hm⟩:=h
    subst e
    simp only [TL.sz] at hz
    have hlen:full.length=dn.length+(qs.length+1):=by rw [hfull];simp
    have hrd:rd_T42 full (dn.length:Int)=p:=by
      unfold rd_T42
      rw [hfull,Int.toNat_natCast,List.getD_eq_getElem?_getD,List.getElem?_append_right (Nat.le_refl _),Nat.sub_self];rfl
    obtain ⟨b1,h1,h2⟩:=unique_ev t p hp om
    obtain ⟨r,h3,h4⟩:=uniqueL_ev hf (a:=a) (b:=b) (ks:=ks) k (dn++[p]) qs hm om (by rw [hfull];simp)
    rw [show ((dn++[p]).length:Int)=(dn.length:Int)+1 by simp] at h3
    have hgo : ∀ r1,Ev (fun k=>if b1=true then sV.l1 k (wrap64 ((dn.length:Int)+1)) a b ks full else some false) r1→Ev (fun j=>sV.l1 j (dn.length:Int) a b ks full) r1:=fun r1 hr1=>by
      refine Ev.step (f:=fun k=>(sV.f k p.f0 p.f1 p.f2 p.f3).bind fun t=>if t=true then sV.l1 k (wrap64 ((dn.length:Int)+1)) a b ks full else some false) (fun k=>?_) (Ev.bind h1 hr1)
      simp only [sV.l1]
      rw [hrd,if_pos om,if_pos om]
    cases b1 with
    | true=>exact ⟨r,hgo r (Ev.congr (fun k=>by rw [if_pos (by trivial),wr om om]) h3),fun h=>by simp only [TL.uq];exact ⟨h2 rfl,h4 h⟩⟩
    | false=>exact ⟨false,hgo false (Ev.congr (fun k=>by rw [if_neg (by simp)]) (Ev.now _)),fun h=>by cases h⟩
theorem uniqueM_ev {a:Int} {b:ByteArray} {ks:List ByteArray} {full:List S42} (hf:full.length≤4096) : ∀ (k:TM) (dn rest:List S42),NdM k rest→k.sz≤4096→full=dn++rest →
    ∃ r,Ev (fun j=>sV.l1 j (dn.length:Int) a b ks full) r∧(r=true→k.uqv)
  | .nil,dn,rest,h,hz,hfull=>by
    simp only [NdM] at h
    subst h
    rw [List.append_nil] at hfull
    subst hfull
    refine ⟨true,Ev.const _ fun k=>?_,fun _=>trivial⟩
    simp only [sV.l1]
    rw [if_neg om]
  | .cons nm t k,dn,rest,h,hz,hfull=>by
    simp only [NdM] at h
    obtain ⟨p,qs,e,hp,hm⟩:=h
    subst e
    simp only [TM.sz] at hz
    have hlen:full.length=dn.length+(qs.length+1):=by rw [hfull];simp
    have hrd:rd_T42 full (dn.length:Int)=p:=by
      unfold rd_T42
      rw [hfull,Int.toNat_natCast,List.getD_eq_getElem?_getD,List.getElem?_append_right (Nat.le_refl _),Nat.sub_self];rfl
    obtain ⟨b1,h1,h2⟩:=unique_ev t p hp om
    obtain ⟨r,h3,h4⟩:=uniqueM_ev hf (a:=a) (b:=b) (ks:=ks) k (dn++[p]) qs hm om (by rw [hfull];simp)
    rw [show ((dn++[p]).length:Int)=(dn.length:Int)+1 by simp] at h3
    have hgo : ∀ r1,Ev (fun k=>if b1=true then sV.l1 k (wrap64 ((dn.length:Int)+1)) a b ks full else some false) r1→Ev (fun j=>sV.l1 j (dn.length:Int) a b ks full) r1:=fun r1 hr1=>by
      refine Ev.step (f:=fun k=>(sV.f k p.f0 p.f1 p.f2 p.f3).bind fun t=>if t=true then sV.l1 k (wrap64 ((dn.length:Int)+1)) a b ks full else some false) (fun k=>?_) (Ev.bind h1 hr1)
      simp only [sV.l1]
      rw [hrd,if_pos om,if_pos om]
    cases b1 with
    | true=>exact ⟨r,hgo r (Ev.congr (fun k=>by rw [if_pos (by trivial),wr om om]) h3),fun h=>⟨h2 rfl,h4 h⟩⟩
    | false=>exact ⟨false,hgo false (Ev.congr (fun k=>by rw [if_neg (by simp)]) (Ev.now _)),fun h=>by cases h⟩
end
end Go.Proofs.Ytbkgoccnegjdhaa.U

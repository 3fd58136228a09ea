/- The reference's Tree of a place is the tree's node. -/
import Derived.Test.YtnejkimpkaopoaaGreatDoorJ5
import Derived.Test.YtnejkimpkaopoaaGreatDoorQ6
import Derived.Test.YtnejkimpkaopoaaGreatDoorQ7
import Derived.Test.YtnejkimpkaopoaaGreatDoorQ15
section
namespace Go.Proofs.YtnejkimpkaopoaaGreatDoor.U
open RowKit YtnejkimpkaopoaaGreatDoorW.PrintWords YtnejkimpkaopoaaGreatDoor.Q
set_option linter.unusedVariables false
set_option linter.unusedSimpArgs false
def Qs (n:List Int):Prop := ∃ B O,n=34 :: (B++[34])∧Uq B O
noncomputable def chr (n:List Int):ByteArray:=(sU.f 0 (strOfNums n)).getD ByteArray.empty
mutual
def T.uq:T→Prop
  | .leaf kd b=>kd=4→Qs b
  | .arr k=>k.uq
  | .obj m=>m.uq
def TL.uq:TL→Prop
  | .nil=>True
  | .cons t k=>t.uq∧k.uq
def TM.uq:TM→Prop
  | .nil=>True
  | .cons n t m=>Qs n∧t.uq∧m.uq
end
noncomputable def TM.names:TM→List ByteArray
  | .nil=>[]
  | .cons n _ m=>chr n :: m.names
mutual
noncomputable def T.node:T→S25
  | .leaf kd b=>⟨kd,if kd=3 then strOfNums b else if kd=4 then chr b else ByteArray.empty,[],[]⟩
  | .arr k=>⟨5,ByteArray.empty,[],k.nodes⟩
  | .obj m=>⟨6,ByteArray.empty,m.names,m.nodes⟩
noncomputable def TL.nodes:TL→List S25
  | .nil=>[]
  | .cons t k=>t.node :: k.nodes
noncomputable def TM.nodes:TM→List S25
  | .nil=>[]
  | .cons _ t m=>t.node :: m.nodes
end
theorem unq_ev {s:ByteArray} (hn:s.size≤65536) {i e:Int} (h0:0≤i) (h1:i≤e) (he:e≤s.size) (h:Qs (sl s i e)):Ev (fun k=>sU.f k (s.extract i.toNat e.toNat)) (chr (sl s i e)):=by
 obtain ⟨B,O,hB,hU⟩:=h
 have hb:=bytesOf_extract s (i:=i) (e:=e)
 have hx:s.extract i.toNat e.toNat=strOfNums (sl s i e):=by rw [← hb,strOfNums_bytesOf]
 have hsz:(s.extract i.toNat e.toNat).size≤100000:=by rw [ByteArray.size_extract];omega
 have h2:=fun k=>unquote_f (a0:=s.extract i.toNat e.toNat) (B:=B) (O:=O) (by rw [hb,hB]) hU hsz k
 have h3:chr (sl s i e)=strOfNums O:=by unfold chr;rw [← hx,h2 0];rfl
 rw [h3]
 exact ⟨0,fun k _=>h2 k⟩
theorem RepL.len {s:ByteArray} : ∀ {k:TL} {ps:List S102}, RepL s k ps→ps.length≤k.sz
  | .nil,ps,h=>by simp only [RepL] at h;subst h;simp
  | .cons t k,ps,h=>by
    simp only [RepL] at h;obtain ⟨p,qs,e,h1,h2⟩:=h;subst e
    have:=RepL.len h2;simp only [TL.sz,List.length_cons];omega
theorem RepM.len {s:ByteArray} : ∀ {m:TM} {ns:List S155} {ps:List S102}, RepM s m ns ps→ns.length≤m.sz∧ps.length≤m.sz
  | .nil,ns,ps,h=>by simp only [RepM] at h;obtain ⟨h1,h2⟩:=h;subst h1;subst h2;simp
  | .cons n t m,ns,ps,h=>by
    simp only [RepM] at h;obtain ⟨y,ms,p,qs,e1,e2,_,_,_,_,_,h2⟩:=h;subst e1;subst e2
    have:=RepM.len h2;simp only [TM.sz,List.length_cons];omega
variable {s:ByteArray}
theorem keys_ev (hn:s.size≤65536) {kd b e kd2:Int} {tx:ByteArray} {kids:List S102} {full:List S155} (hf:full.length≤65536) {r:Int × ByteArray × List ByteArray × List S25} : ∀ (m:TM) (dn rest:List S155) (ps:List S102) (acc:List ByteArray),RepM s m rest ps→m.uq→full=dn++rest→acc.length=dn.length →
    Ev (fun k=>sT.l1 k s 0 kd b e full kids kd2 tx (acc++m.names) []) r→Ev (fun k=>sT.l0 k s (dn.length:Int) kd b e full kids kd2 tx acc) r
  | .nil,dn,rest,ps,acc,h,hok,hfull,hacc,hr=>by
    simp only [RepM] at h
    obtain ⟨h1,h2⟩:=h
    subst h1;subst h2
    rw [List.append_nil] at hfull
    subst hfull
    simp only [TM.names,List.append_nil] at hr
    refine Ev.step (fun k=>?_) hr
    simp only [sT.l0]
    rw [if_neg (by omega)]
  | .cons n t m,dn,rest,ps,acc,h,hok,hfull,hacc,hr=>by
    simp only [RepM] at h
    obtain ⟨y,ms,p,qs,e1,e2,hy0,hy1,hy2,hy3,hp,hm⟩:=h
    subst e1;subst e2
    simp only [TM.uq] at hok
    have hlen:full.length=dn.length+(ms.length+1):=by rw [hfull];simp
    have hrd:rd_T155 full (dn.length:Int)=y:=by
      unfold rd_T155
      rw [hfull,Int.toNat_natCast,List.getD_eq_getElem?_getD,List.getElem?_append_right (Nat.le_refl _),Nat.sub_self];rfl
    have hu:=unq_ev (s:=s) hn (i:=y.f0) (e:=y.f1) hy0 hy1 hy2 (by rw [hy3];exact hok.1)
    rw [hy3] at hu
    have ih:=keys_ev hn hf (kd:=kd) (b:=b) (e:=e) (kd2:=kd2) (tx:=tx) (kids:=kids) (r:=r) m (dn++[y]) ms qs (acc++[chr n]) hm hok.2.2 (by rw [hfull];simp) (by simp [hacc]) (by simpa [TM.names] using hr)
    have ha:acc.length<8796093022208:=by omega
    refine Ev.step (f:=fun k=>(sU.f k (s.extract y.f0.toNat y.f1.toNat)).bind fun t=>if acc.length<8796093022208 then sT.l0 k s (wrap64 ((dn.length:Int)+1)) kd b e full kids kd2 tx (acc++[t]) else none) (fun k=>?_) (Ev.bind hu (Ev.congr (fun k=>?_) ih))
    · simp only [sT.l0]
      rw [hrd,if_pos (by omega),if_pos (by omega),if_pos hy0,if_pos hy1,if_pos hy2]
    · rw [if_pos ha,wr (by omega) (by omega),List.length_append];rfl
mutual
theorem tree_ev (hn:s.size≤65536) : ∀ (t:T) (p:S102),Rep s t p→t.uq→t.sz≤65536→Ev (fun k=>sT.f k s p.f0 p.f1 p.f2 p.f3 p.f4) (t.node.f0,t.node.f1,t.node.f2,t.node.f3)
  | .leaf kd b,p,h,hok,hz=>by
    simp only [Rep] at h
    obtain ⟨hk,h0,h1,h2,hb,h4,h3⟩:=h
    simp only [T.uq] at hok
    have hgo : ∀ tx:ByteArray,Ev (fun k=>sT.j0 k s p.f0 p.f1 p.f2 p.f3 p.f4 p.f0 tx) (p.f0,tx,[],[]):=fun tx=>by
      rw [h3,h4]
      refine Ev.step (f:=fun k=>sT.l0 k s 0 p.f0 p.f1 p.f2 [] [] p.f0 tx []) (fun k=>by simp only [sT.j0]) (Ev.step (f:=fun k=>sT.l1 k s 0 p.f0 p.f1 p.f2 [] [] p.f0 tx [] []) (fun k=>?_) (Ev.const _ fun k=>?_))
      · simp only [sT.l0];rw [if_neg (by simp)]
      · simp only [sT.l1];rw [if_neg (by simp)]
    simp only [T.node]
    by_cases c3:p.f0=3
    · have h5:=hgo (s.extract p.f1.toNat p.f2.toNat)
      have e1:s.extract p.f1.toNat p.f2.toNat=strOfNums b:=by rw [← strOfNums_bytesOf (s.extract p.f1.toNat p.f2.toNat),bytesOf_extract,hb]
      rw [← hk,if_pos c3]
      rw [e1] at h5
      refine Ev.step (fun k=>?_) h5
      simp only [sT.f];rw [if_pos c3,if_pos h0,if_pos h1,if_pos h2,e1]
    · by_cases c4:p.f0=4
      · have hu:=unq_ev (s:=s) hn (i:=p.f1) (e:=p.f2) h0 h1 h2 (by rw [hb];exact hok (hk ▸ c4))
        rw [hb] at hu
        rw [← hk,if_neg c3,if_pos c4]
        refine Ev.step (f:=fun k=>(sU.f k (s.extract p.f1.toNat p.f2.toNat)).bind fun t=>sT.j0 k s p.f0 p.f1 p.f2 p.f3 p.f4 p.f0 t) (fun k=>?_) (Ev.bind hu (hgo _))
        simp only [sT.f];rw [if_neg c3,if_pos c4,if_pos h0,if_pos h1,if_pos h2]
      · rw [← hk,if_neg c3,if_neg c4]
        refine Ev.step (fun k=>?_) (hgo ByteArray.empty)
        simp only [sT.f];rw [if_neg c3,if_neg c4];rfl
  | .arr k,p,h,hok,hz=>by
    simp only [Rep] at h
    obtain ⟨h5,h3,hl⟩:=h
    simp only [T.uq] at hok
    simp only [T.sz] at hz
    have hlen:=hl.len
    have he:=kids_ev hn (full:=p.f4) (by omega) (kd:=p.f0) (b:=p.f1) (e:=p.f2) (kd2:=p.f0) (tx:=ByteArray.empty) (names:=p.f3) (keys:=[]) k [] p.f4 [] hl hok (by omega) rfl rfl
    simp only [T.node]
    rw [← h5]
    refine Ev.step (f:=fun k=>sT.j0 k s p.f0 p.f1 p.f2 p.f3 p.f4 p.f0 ByteArray.empty) (fun k=>?_) (Ev.step (f:=fun k=>sT.l0 k s 0 p.f0 p.f1 p.f2 p.f3 p.f4 p.f0 ByteArray.empty []) (fun k=>by simp only [sT.j0]) (Ev.step (fun k=>?_) he))
    · simp only [sT.f];rw [if_neg (by omega),if_neg (by omega)];rfl
    · simp only [sT.l0];rw [h3,if_neg (by simp)];rfl
  | .obj m,p,h,hok,hz=>by
    simp only [Rep] at h
    obtain ⟨h6,hl⟩:=h
    simp only [T.uq] at hok
    simp only [T.sz] at hz
    have hlen:=hl.len
    have he:=mems_ev hn (full:=p.f4) (by omega) (kd:=p.f0) (b:=p.f1) (e:=p.f2) (kd2:=p.f0) (tx:=ByteArray.empty) (names:=p.f3) (keys:=m.names) m [] p.f3 p.f4 [] hl hok (by omega) rfl rfl
    have hk:=keys_ev hn (full:=p.f3) (by omega) (kd:=p.f0) (b:=p.f1) (e:=p.f2) (kd2:=p.f0) (tx:=ByteArray.empty) (kids:=p.f4) m [] p.f3 p.f4 [] hl hok rfl rfl he
    simp only [T.node]
    rw [← h6]
    refine Ev.step (f:=fun k=>sT.j0 k s p.f0 p.f1 p.f2 p.f3 p.f4 p.f0 ByteArray.empty) (fun k=>?_) (Ev.step (fun k=>by simp only [sT.j0];rfl) hk)
    simp only [sT.f];rw [if_neg (by omega),if_neg (by omega)];rfl
theorem kids_ev (hn:s.size≤65536) {kd b e kd2:Int} {tx:ByteArray} {names:List S155} {keys:List ByteArray} {full:List S102} (hf:full.length≤65536) : ∀ (k:TL) (dn rest:List S102) (acc:List S25),RepL s k rest→k.uq→k.sz≤65536→full=dn++rest→acc.length=dn.length →
    Ev (fun j=>sT.l1 j s (dn.length:Int) kd b e names full kd2 tx keys acc) (kd2,tx,keys,acc++k.nodes)
  | .nil,dn,rest,acc,h,hok,hz,hfull,hacc=>by
    simp only [RepL] at h
    subst h
    rw [List.append_nil] at hfull
    subst hfull
    simp only [TL.nodes]
    rw [List.append_nil]
    refine Ev.const _ fun k=>?_
    simp only [sT.l1]
    rw [if_neg (by omega)]
  | .cons t k,dn,rest,acc,h,hok,hz,hfull,hacc=>by
    simp only [RepL] at h
    obtain ⟨p,qs,e2,hp,hm⟩:=h
    subst e2
    simp only [TL.uq] at hok
    simp only [TL.sz] at hz
    have hlen:full.length=dn.length+(qs.length+1):=by rw [hfull];simp
    have hrd:rd_T102 full (dn.length:Int)=p:=by
      unfold rd_T102
      rw [hfull,Int.toNat_natCast,List.getD_eq_getElem?_getD,List.getElem?_append_right (Nat.le_refl _),Nat.sub_self];rfl
    have h1:=tree_ev hn t p hp hok.1 (by omega)
    have h3:=kids_ev hn hf (kd:=kd) (b:=b) (e:=e) (kd2:=kd2) (tx:=tx) (names:=names) (keys:=keys) k (dn++[p]) qs (acc++[t.node]) hm hok.2 (by omega) (by rw [hfull];simp) (by simp [hacc])
    have ha:acc.length<1954687338268:=by omega
    rw [show ((dn++[p]).length:Int)=(dn.length:Int)+1 by simp] at h3
    simp only [TL.nodes]
    rw [List.append_assoc] at h3
    generalize t.node=nd at h1 h3 ⊢
    obtain ⟨n0,n1,n2,n3⟩:=nd
    refine Ev.step (f:=fun k=>(sT.f k s p.f0 p.f1 p.f2 p.f3 p.f4).bind fun t=>if acc.length<1954687338268 then sT.l1 k s (wrap64 ((dn.length:Int)+1)) kd b e names full kd2 tx keys (acc++[(⟨t.1,t.2.1,t.2.2.1,t.2.2.2⟩:S25)]) else none) (fun k=>?_) (Ev.bind h1 (Ev.congr (fun k=>?_) h3))
    · simp only [sT.l1]
      rw [hrd,if_pos (by omega),if_pos (by omega)]
    · rw [if_pos ha,wr (by omega) (by omega)]
theorem mems_ev (hn:s.size≤65536) {kd b e kd2:Int} {tx:ByteArray} {names:List S155} {keys:List ByteArray} {full:List S102} (hf:full.length≤65536) : ∀ (m:TM) (dn:List S102) (ys:List S155) (rest:List S102) (acc:List S25),RepM s m ys rest→m.uq→m.sz≤65536→full=dn++rest→acc.length=dn.length →
    Ev (fun j=>sT.l1 j s (dn.length:Int) kd b e names full kd2 tx keys acc) (kd2,tx,keys,acc++m.nodes)
  | .nil,dn,ys,rest,acc,h,hok,hz,hfull,hacc=>by
    simp only [RepM] at h
    obtain ⟨h1,h⟩:=h
    subst h
    rw [List.append_nil] at hfull
    subst hfull
    simp only [TM.nodes]
    rw [List.append_nil]
    refine Ev.const _ fun k=>?_
    simp only [sT.l1]
    rw [if_neg (by omega)]
  | .cons nm t k,dn,ys,rest,acc,h,hok,hz,hfull,hacc=>by
    simp only [RepM] at h
    obtain ⟨y,ms,p,qs,e1,e2,_,_,_,_,hp,hm⟩:=h
    subst e2
    simp only [TM.uq] at hok
    simp only [TM.sz] at hz
    have hlen:full.length=dn.length+(qs.length+1):=by rw [hfull];simp
    have hrd:rd_T102 full (dn.length:Int)=p:=by
      unfold rd_T102
      rw [hfull,Int.toNat_natCast,List.getD_eq_getElem?_getD,List.getElem?_append_right (Nat.le_refl _),Nat.sub_self];rfl
    have h1:=tree_ev hn t p hp hok.2.1 (by omega)
    have h3:=mems_ev hn hf (kd:=kd) (b:=b) (e:=e) (kd2:=kd2) (tx:=tx) (names:=names) (keys:=keys) k (dn++[p]) ms qs (acc++[t.node]) hm hok.2.2 (by omega) (by rw [hfull];simp) (by simp [hacc])
    have ha:acc.length<1954687338268:=by omega
    rw [show ((dn++[p]).length:Int)=(dn.length:Int)+1 by simp] at h3
    simp only [TM.nodes]
    rw [List.append_assoc] at h3
    generalize t.node=nd at h1 h3 ⊢
    obtain ⟨n0,n1,n2,n3⟩:=nd
    refine Ev.step (f:=fun k=>(sT.f k s p.f0 p.f1 p.f2 p.f3 p.f4).bind fun t=>if acc.length<1954687338268 then sT.l1 k s (wrap64 ((dn.length:Int)+1)) kd b e names full kd2 tx keys (acc++[(⟨t.1,t.2.1,t.2.2.1,t.2.2.2⟩:S25)]) else none) (fun k=>?_) (Ev.bind h1 (Ev.congr (fun k=>?_) h3))
    · simp only [sT.l1]
      rw [hrd,if_pos (by omega),if_pos (by omega)]
    · rw [if_pos ha,wr (by omega) (by omega)]
end
theorem read_back (hn:s.size≤65536) {t:T} (h:Rd (bytesOf s) t 0 s.size) (hu:t.uq):Ev (fun k=>readF k s) (t.node,true):=by
 obtain ⟨p,hp,hr⟩:=places_back hn h
 have hz:=T.sz_le t h
 rw [bytesOf_length] at hz
 have ht:=tree_ev hn t p hr hu (by omega)
 generalize t.node=nd at ht ⊢
 obtain ⟨n0,n1,n2,n3⟩:=nd
 refine Ev.bind hp (Ev.congr (f:=fun k=>(sT.f k s p.f0 p.f1 p.f2 p.f3 p.f4).bind fun t=>some ((⟨t.1,t.2.1,t.2.2.1,t.2.2.2⟩:S25),true)) (fun k=>?_) (Ev.bind ht (Ev.now _)))
 rw [if_pos rfl]
end Go.Proofs.YtnejkimpkaopoaaGreatDoor.U
end
section
/- The reference's Same of a tree with itself. -/
namespace Go.Proofs.YtnejkimpkaopoaaGreatDoor.U
open RowKit YtnejkimpkaopoaaGreatDoorW.PrintWords YtnejkimpkaopoaaGreatDoor.Q
set_option linter.unusedVariables false
set_option linter.unusedSimpArgs false
theorem same_l0 {a:Int} {b:ByteArray} {ks:List ByteArray} {ns:List S25} (hk:ks.length≤100000) (h:Ev (fun k=>sE.l1 k 0 a b ks ns a b ks ns) true) (d:Nat) : ∀ i:Nat,i≤ks.length→ks.length - i=d→Ev (fun k=>sE.l0 k i a b ks ns a b ks ns) true:=by
 induction d with
 | zero =>
  intro i h1 hd
  refine Ev.step (fun k=>?_) h
  show sE.l0 (k+1) i a b ks ns a b ks ns=_
  simp only [sE.l0];rw [if_neg (by omega)]
 | succ d ih =>
  intro i h1 hd
  refine Ev.step (fun k=>?_) (ih (i+1) (by omega) (by omega))
  show sE.l0 (k+1) i a b ks ns a b ks ns=_
  simp only [sE.l0];rw [if_pos (by omega),if_pos (by omega),if_pos (by omega),if_pos trivial,wr (by omega) (by omega)]
  rfl
theorem same_of {a:Int} {b:ByteArray} {ks:List ByteArray} {ns:List S25} (hk:ks.length≤100000) (h:Ev (fun k=>sE.l1 k 0 a b ks ns a b ks ns) true):Ev (fun k=>sE.f k a b ks ns a b ks ns) true:=by
 refine Ev.step (f:=fun k=>sE.j0 k false a b ks ns a b ks ns) (fun k=>?_) (Ev.step (fun k=>?_) (same_l0 hk h ks.length 0 (by omega) (by omega)))
 ·
  simp only [sE.f];rw [if_pos trivial,if_pos trivial,if_pos trivial,bne_self_eq_false]
 show sE.j0 (k+1) false a b ks ns a b ks ns=_
 simp only [sE.j0];rw [if_neg (by simp)];rfl
theorem TL.nodes_len : ∀ k:TL,k.nodes.length≤k.sz
  | .nil=>by simp [TL.nodes]
  | .cons t k=>by have:=TL.nodes_len k;simp only [TL.nodes,TL.sz,List.length_cons];omega
theorem TM.nodes_len : ∀ m:TM,m.nodes.length≤m.sz∧m.names.length≤m.sz
  | .nil=>by simp [TM.nodes,TM.names]
  | .cons n t m=>by have:=TM.nodes_len m;simp only [TM.nodes,TM.names,TM.sz,List.length_cons];omega
theorem same_end {a:Int} {b:ByteArray} {ks:List ByteArray} {ns:List S25} {i:Int} (h:(ns.length:Int)≤i):Ev (fun k=>sE.l1 k i a b ks ns a b ks ns) true:=by
 refine Ev.const _ fun k=>?_
 simp only [sE.l1];rw [if_neg (by omega)]
theorem same_next {a:Int} {b:ByteArray} {ks:List ByteArray} {dn qs:List S25} {p:S25} (hl:(dn++p :: qs).length≤100000) (h1:Ev (fun k=>sE.f k p.f0 p.f1 p.f2 p.f3 p.f0 p.f1 p.f2 p.f3) true) (h2:Ev (fun k=>sE.l1 k ((dn++[p]).length:Int) a b ks (dn++p :: qs) a b ks (dn++p :: qs)) true):Ev (fun k=>sE.l1 k (dn.length:Int) a b ks (dn++p :: qs) a b ks (dn++p :: qs)) true:=by
 have hrd:rd_T25 (dn++p :: qs) (dn.length:Int)=p:=by
  unfold rd_T25
  rw [Int.toNat_natCast,List.getD_eq_getElem?_getD,List.getElem?_append_right (Nat.le_refl _),Nat.sub_self];rfl
 have hlen:(dn++p :: qs).length=dn.length+(qs.length+1):=by simp
 generalize dn++p :: qs=full at *
 refine Ev.step (f:=fun k=>(sE.f k p.f0 p.f1 p.f2 p.f3 p.f0 p.f1 p.f2 p.f3).bind fun t=>if t=true then sE.l1 k ((dn++[p]).length:Int) a b ks full a b ks full else some false) (fun k=>?_) (Ev.bind h1 (Ev.congr (fun k=>by rw [if_pos rfl]) h2))
 simp only [sE.l1]
 rw [hrd,if_pos (by omega),if_pos (by omega),if_pos (by omega),wr (by omega) (by omega)]
 simp
mutual
theorem same_val : ∀ (t:T),t.sz≤65536→Ev (fun k=>sE.f k t.node.f0 t.node.f1 t.node.f2 t.node.f3 t.node.f0 t.node.f1 t.node.f2 t.node.f3) true
  | .leaf kd b,hz=>by
    simp only [T.node]
    exact same_of (by simp) (same_end (by simp))
  | .arr k,hz=>by
    simp only [T.sz] at hz
    simp only [T.node]
    exact same_of (by simp) (same_L 5 ByteArray.empty [] k [] (by have:=TL.nodes_len k;simp;omega) (by omega))
  | .obj m,hz=>by
    simp only [T.sz] at hz
    simp only [T.node]
    have:=TM.nodes_len m
    exact same_of (by omega) (same_M 6 ByteArray.empty m.names m [] (by simp;omega) (by omega))
theorem same_L (a:Int) (b:ByteArray) (ks:List ByteArray) : ∀ (k:TL) (dn:List S25),(dn++k.nodes).length≤100000→k.sz≤65536→Ev (fun j=>sE.l1 j (dn.length:Int) a b ks (dn++k.nodes) a b ks (dn++k.nodes)) true
  | .nil,dn,hl,hz=>by simp only [TL.nodes];exact same_end (by simp)
  | .cons t k,dn,hl,hz=>by
    simp only [TL.sz] at hz
    simp only [TL.nodes] at hl ⊢
    have h2:=same_L a b ks k (dn++[t.node]) (by simpa using hl) (by omega)
    rw [List.append_assoc] at h2
    exact same_next hl (same_val t (by omega)) h2
theorem same_M (a:Int) (b:ByteArray) (ks:List ByteArray) : ∀ (m:TM) (dn:List S25),(dn++m.nodes).length≤100000→m.sz≤65536→Ev (fun j=>sE.l1 j (dn.length:Int) a b ks (dn++m.nodes) a b ks (dn++m.nodes)) true
  | .nil,dn,hl,hz=>by simp only [TM.nodes];exact same_end (by simp)
  | .cons n t m,dn,hl,hz=>by
    simp only [TM.sz] at hz
    simp only [TM.nodes] at hl ⊢
    have h2:=same_M a b ks m (dn++[t.node]) (by simpa using hl) (by omega)
    rw [List.append_assoc] at h2
    exact same_next hl (same_val t (by omega)) h2
end
end Go.Proofs.YtnejkimpkaopoaaGreatDoor.U
end

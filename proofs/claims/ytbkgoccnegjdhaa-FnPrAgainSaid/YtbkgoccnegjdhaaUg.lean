/- What the pairs tell while an object's members are written; what sortPairs gives then. -/
import Derived.Test.YtbkgoccnegjdhaaUa
import Derived.Test.YtbkgoccnegjdhaaUe
namespace Go.Proofs.Ytbkgoccnegjdhaa.U
open Go.RowKit Go.Proofs.YtbkgoccnegjdhaaW.PrintWords Go.Proofs.YtbkgoccnegjdhaaW.PrintLast Go.Proofs.YtbkgoccnegjdhaaW.PrintMore Go.Proofs.Ytbkgoccnegjdhaa.M Go.Proofs.Ytbkgoccnegjdhaa.Q
set_option linter.unusedVariables false
theorem sg_lt {xs:List Int} {f:Nat→S82} {N:Nat} : ∀ (i:Nat) (s:List Int),i<N→sg xs f N i++s=joinS ((List.range i).map (fun k=>segOf xs (f k))++[s])
  | 0,s,_=>rfl
  | i+1,s,h=>by
    have h1:=sg_lt (xs:=xs) (f:=f) (N:=N) i (segOf xs (f i)) om
    rw [sg,if_pos h,h1,List.range_succ,List.map_append,List.map_cons,List.map_nil,joinS_snoc (s:=s) (r:=(List.range i).map (fun k=>segOf xs (f k))++[segOf xs (f i)]) (by simp)]
    simp
theorem sg_all {xs:List Int} (qs:List S82) (hn:qs≠[]):sg xs (fun k=>qs.getD k z82) qs.length qs.length=joinS (qs.map (segOf xs)):=by
  obtain ⟨i,hi⟩ : ∃ i,qs.length=i+1:=⟨qs.length - 1,by have:=List.length_pos_iff.2 hn;omega⟩
  have e:(List.range qs.length).map (fun k=>segOf xs (qs.getD k z82))=qs.map (segOf xs):=by
    apply List.ext_getElem?
    intro k
    rw [List.getElem?_map,List.getElem?_map]
    by_cases hk:k<qs.length
    · rw [List.getElem?_range hk,List.getElem?_eq_getElem hk]
      show some (segOf xs (qs.getD k z82))=some (segOf xs qs[k])
      rw [List.getD_eq_getElem?_getD,List.getElem?_eq_getElem hk];rfl
    · rw [List.getElem?_eq_none (by simp;omega),List.getElem?_eq_none om];rfl
  rw [← e,hi,sg,if_neg om,List.append_nil,List.range_succ,List.map_append]
  exact sg_lt i _ om
structure ToldS (l x Y:List Int) (ps:List S82) (D:List (List Int × List Int)):Prop where
  map:ps.map (fun p=>(Q.keyOf l p,segOf x p))=D
  buf:x=Y++joinS (D.map (·.2))
  name : ∀ p,p ∈ ps→0≤p.f0∧p.f0+2≤p.f1∧p.f1≤(l.length:Int)∧l[p.f0.toNat]? = some 34∧l[p.f1.toNat - 1]? = some 34 ∧ ∀ c,c ∈ Q.keyOf l p→c≠34∧c≠92
  seg : ∀ p,p ∈ ps→(Y.length:Int)≤p.f2∧p.f2≤p.f3∧p.f3≤(x.length:Int)
  first:(ps.getD 0 z82).f2=Y.length∨ps=[]
theorem ToldS.nil (l Y:List Int):ToldS l Y Y [] []:=⟨rfl,by simp [joinS],fun _ h=>by simp at h,fun _ h=>by simp at h, .inr rfl⟩
theorem ToldS.len {l x Y:List Int} {ps:List S82} {D:List (List Int × List Int)} (h:ToldS l x Y ps D):ps.length=D.length:=by rw [← h.map,List.length_map]
theorem sorted_buf {l x Y:List Int} {ps:List S82} {D:List (List Int × List Int)} (h:ToldS l x Y ps D) (hn:D≠[]) (hd:D.Pairwise (fun a b=>dlt a b=true∨dlt b a=true)) (hp:ps.length≤100000) (hl:l.length≤2000000000) (hx:x.length≤1300000000) :
    pQ.f l x ps=some (Y++joinS ((isort dlt D).map (·.2))):=by
  classical
  have hpn:ps≠[]:=fun e=>hn (by rw [← h.map,e];rfl)
  have hp0:0<ps.length:=List.length_pos_iff.2 hpn
  have hf:=h.first.resolve_right hpn
  have hr:Ready l x ps := {
    few:=hp
    short:=hl
    small:=hx
    name:=h.name
    seg:=fun p hq=>by have:=h.seg p hq;omega
    ends:=by rw [hf];have:=h.seg _ (getD_mem (ps:=ps) (k:=ps.length - 1) om);omega
    dist:=by
      rw [← h.map,List.pairwise_map] at hd
      exact hd }
  have hm:(isort (plt (Q.keyOf l)) ps).map (fun p=>(Q.keyOf l p,segOf x p))=isort dlt D:=by
    rw [← h.map, ← isort_map];rfl
  have hm2:(isort (plt (Q.keyOf l)) ps).map (segOf x)=(isort dlt D).map (·.2):=by rw [← hm,List.map_map];rfl
  unfold pQ.f
  rw [if_neg hpn,if_pos hr]
  by_cases c:isort (plt (Q.keyOf l)) ps=ps
  · rw [if_pos c]
    rw [c,h.map] at hm
    rw [← hm]
    exact congrArg some h.buf
  · rw [if_neg c,hf]
    have e1:x.take ((Y.length:Int)).toNat=Y:=by rw [h.buf,Int.toNat_natCast,List.take_left]
    have hil:(isort (plt (Q.keyOf l)) ps).length=ps.length:=isort_length
    rw [e1, ← hm2]
    have h5:=sg_all (xs:=x) (isort (plt (Q.keyOf l)) ps) (fun e=>by rw [e] at hil;simp at hil;omega)
    rw [hil] at h5
    rw [h5]
end Go.Proofs.Ytbkgoccnegjdhaa.U
/- A tree as it is, or sorted; one more member told. -/
namespace Go.Proofs.Ytbkgoccnegjdhaa.U
open Go.RowKit Go.Proofs.YtbkgoccnegjdhaaW.PrintWords Go.Proofs.YtbkgoccnegjdhaaW.PrintLast Go.Proofs.YtbkgoccnegjdhaaW.PrintMore Go.Proofs.Ytbkgoccnegjdhaa.M Go.Proofs.Ytbkgoccnegjdhaa.Q
set_option linter.unusedVariables false
def T.sx (sk:Bool) (t:T):T:=bif sk then t.srt else t
def TL.sx (sk:Bool) (t:TL):TL:=bif sk then t.srt else t
theorem sx_leaf {sk:Bool} {b:List Int} : (T.leaf b).sx sk = .leaf b:=by cases sk <;> rfl
theorem sx_arr {sk:Bool} {k:TL} : (T.arr k).sx sk = .arr (k.sx sk):=by cases sk <;> rfl
theorem sx_nil {sk:Bool} : TL.nil.sx sk = .nil:=by cases sk <;> rfl
theorem sx_cons {sk:Bool} {t:T} {k:TL} : (TL.cons t k).sx sk = .cons (t.sx sk) (k.sx sk):=by cases sk <;> rfl
theorem sx_sz {sk:Bool} {t:T} : (t.sx sk).sz=t.sz:=by
  cases sk
  · rfl
  · exact T.srt_sz t
theorem sxL_sz {sk:Bool} {k:TL} : (k.sx sk).sz=k.sz:=by
  cases sk
  · rfl
  · exact TL.srt_sz k
theorem sxL_objs {sk:Bool} {k:TL} : (k.sx sk).objs=k.objs:=by
  cases sk
  · rfl
  · exact TL.srt_objs k
theorem sxL_line {sk:Bool} {k:TL} (h:k.objs=false):k.sx sk=k:=by
  cases sk
  · rfl
  · exact TL.srt_line k h
theorem T.lay_last_sx {l:List Int} {t:T} {i e:Int} (h:Rd l t i e) (sk:Bool) (W:Int) (ind ah:List Int) (col:Int) : ∃ z c,(t.sx sk).lay W ind ah col=z++[c]∧c≠32:=by
  cases sk with
  | false=>exact T.lay_last h W ind ah col
  | true =>
    cases t with
    | leaf b=>simp only [Rd] at h;simp only [T.sx,cond_true,T.srt,T.lay];exact h.2.2.last
    | arr k =>
      simp only [T.sx,cond_true,T.srt,T.lay]
      split
      · obtain ⟨z,e⟩:=TL.line0_last k.srt;exact ⟨91 :: z,93,by rw [e];rfl,by decide⟩
      · obtain ⟨z,e⟩:=TL.layF_last W ind k.srt ah;exact ⟨91 :: z,93,by rw [e];rfl,by decide⟩
    | obj m=>simp only [T.sx,cond_true,T.srt,T.lay];obtain ⟨z,e⟩:=TM.layF_last W ind m.srt ah;exact ⟨123 :: z,125,by rw [e];rfl,by decide⟩
/-- Each ends with a byte that is no blank. -/
def Ends (D:List (List Int × List Int)):Prop := ∀ s,s ∈ D → ∃ z c,s.2=z++[c]∧c≠32
theorem joinS_last : ∀ {D:List (List Int × List Int)}, D≠[]→Ends D → ∃ z c,joinS (D.map (·.2))=z++[c]∧c≠32
  | [],h,_=>absurd rfl h
  | [s],_,h=>h s (by simp)
  | s :: t :: r,_,h=>by
    obtain ⟨z,c,e,hc⟩:=joinS_last (D:=t :: r) (by simp) (fun x hx=>h x (List.mem_cons_of_mem _ hx))
    refine ⟨s.2++44 :: 10 :: z,c,?_,hc⟩
    rw [List.map_cons,joinS_cons (by simp),e];simp
theorem Ends.isort {D:List (List Int × List Int)} (h:Ends D):Ends (isort dlt D):=fun s hs=>h s (mem_isort.1 hs)
theorem ScanB.clean {r:List Int} (h:ScanB r) (h92 : ∀ c,c ∈ r→c≠92) : ∃ z,r=z++[34] ∧ ∀ c,c ∈ z→c≠34∧c≠92:=by
  induction h with
  | stop=>exact ⟨[],rfl,fun _ h=>by simp at h⟩
  | @plain c r h1 h2 _ ih =>
    obtain ⟨z,e,hz⟩:=ih fun c hc=>h92 c (List.mem_cons_of_mem _ hc)
    refine ⟨c :: z,by rw [e];rfl,fun d hd=>?_⟩
    rcases List.mem_cons.1 hd with rfl|hd
    · exact ⟨h1,h2⟩
    · exact hz d hd
  | @esc c r _ _=>exact absurd rfl (h92 92 (List.mem_cons_self ..))
/-- A name without backslashes: a quotation mark, its inner bytes, a quotation mark. -/
theorem StrOK.clean {n:List Int} (h:StrOK n) (h92 : ∀ c,c ∈ n→c≠92):n=34 :: (inner n++[34]) ∧ ∀ c,c ∈ inner n→c≠34∧c≠92:=by
  obtain ⟨r,e,hs⟩:=h
  obtain ⟨z,e2,hz⟩:=hs.clean fun c hc=>h92 c (by rw [e];exact List.mem_cons_of_mem _ hc)
  have hi:inner n=z:=by
    rw [e,e2];unfold inner
    simp
  rw [hi]
  exact ⟨by rw [e,e2],hz⟩
theorem At.mem {l:List Int} : ∀ {b:List Int} {i:Int}, At l i b → ∀ c,c ∈ b→c ∈ l
  | [],_,_,c,h=>by simp at h
  | d :: b,i,h,c,hc=>by
    rcases List.mem_cons.1 hc with rfl|hc
    · obtain ⟨h0,h1,h2,h3⟩:=h
      unfold rd at h2
      rw [List.getD_eq_getElem?_getD,List.getElem?_eq_getElem om] at h2
      have h2':l[i.toNat]=c:=h2
      rw [← h2'];exact List.getElem_mem _
    · exact At.mem h.2.2.2 c hc
theorem At.get {l:List Int} {b:List Int} {i:Int} (h:At l i b) {k:Nat} (hk:k<b.length):l[i.toNat+k]? = b[k]? := by
  have h1:=h.slice
  have h2:=h.bound
  conv=>rhs;rw [← h1]
  rw [List.getElem?_drop,List.getElem?_take_of_lt om]
theorem told_name {l nm:List Int} {a v0 v1:Int} (ha:At l a nm) (hok:StrOK nm) (h92 : ∀ c,c ∈ l→c≠92) :
    Q.keyOf l ⟨a,a+nm.length,v0,v1⟩=inner nm∧0≤a∧a+2≤a+nm.length∧a+nm.length≤(l.length:Int)∧l[a.toNat]? = some 34∧l[(a+nm.length).toNat - 1]? = some 34 ∧ ∀ c,c ∈ Q.keyOf l ⟨a,a+nm.length,v0,v1⟩→c≠34∧c≠92:=by
  have hb:=ha.bound
  obtain ⟨e,hc⟩:=hok.clean fun c hc=>h92 c (ha.mem c hc)
  have hn2:2≤nm.length:=by rw [e];simp
  have hk:Q.keyOf l ⟨a,a+nm.length,v0,v1⟩=inner nm:=by
    have hs:=ha.slice
    have e1:(a+(nm.length:Int)).toNat=a.toNat+nm.length:=by omega
    rw [e1] at hs
    have hd:nm.drop 1=(l.drop (a.toNat+1)).take (nm.length - 1):=by
      conv=>lhs;rw [← hs]
      rw [List.drop_drop,List.drop_take]
      congr 1
      omega
    unfold Q.keyOf inner
    show (l.drop (a.toNat+1)).take ((a+(nm.length:Int)).toNat - a.toNat - 2)=_
    rw [hd,e1,List.take_take]
    congr 1
    omega
  refine ⟨hk,hb.1,by omega,hb.2,?_,?_,fun c h=>hc c (by rw [← hk];exact h)⟩
  · have:=ha.get (k:=0) om
    rw [Nat.add_zero] at this
    rw [this,e];rfl
  · have:=ha.get (k:=nm.length - 1) om
    rw [show (a+(nm.length:Int)).toNat - 1=a.toNat+(nm.length - 1) by omega,this,e]
    simp
/-- One more member told. -/
theorem ToldS.snoc {l x Y nm:List Int} {ps:List S82} {D:List (List Int × List Int)} {a:Int} (h:ToldS l x Y ps D) (ha:At l a nm) (hok:StrOK nm) (h92 : ∀ c,c ∈ l→c≠92) (seg:List Int) (hn:D≠[]) :
    ToldS l (x++[44,10]++seg) Y (ps++[⟨a,a+nm.length,(x.length:Int)+2,((x++[44,10]++seg).length:Int)⟩]) (D++[(inner nm,seg)]):=by
  have ht:=told_name (v0:=(x.length:Int)+2) (v1:=((x++[44,10]++seg).length:Int)) ha hok h92
  have hpn:ps≠[]:=fun e=>hn (by rw [← h.map,e];rfl)
  have hYx:Y.length≤x.length:=by rw [h.buf];simp
  refine ⟨?_,?_,fun p hp=>?_,fun p hp=>?_, .inl ?_⟩
  · rw [List.map_append, ← h.map]
    congr 1
    · apply List.map_congr_left
      intro p hp
      have h3:=h.seg p hp
      unfold segOf
      rw [List.append_assoc,List.take_append_of_le_length om]
    · rw [List.map_cons,List.map_nil,ht.1]
      unfold segOf
      show [(inner nm,((x++[44,10]++seg).take (((x++[44,10]++seg).length:Int)).toNat).drop ((x.length:Int)+2).toNat)]=_
      rw [Int.toNat_natCast,List.take_length,show ((x.length:Int)+2).toNat=(x++[44,10]).length by simp;omega,List.drop_left]
  · rw [List.map_append,List.map_cons,List.map_nil,joinS_snoc (by simpa using hn)]
    conv=>lhs;rw [h.buf]
    simp
  · rcases List.mem_append.1 hp with hp|hp
    · exact h.name p hp
    · rw [List.mem_singleton] at hp;subst hp;exact ht.2
  · rcases List.mem_append.1 hp with hp|hp
    · have h3:=h.seg p hp
      refine ⟨h3.1,h3.2.1,?_⟩
      simp only [List.length_append];omega
    · rw [List.mem_singleton] at hp;subst hp
      simp only [List.length_append,List.length_cons,List.length_nil];omega
  · rw [List.getD_eq_getElem?_getD,List.getElem?_append_left (List.length_pos_iff.2 hpn), ← List.getD_eq_getElem?_getD]
    exact h.first.resolve_right hpn
/-- The first member told. -/
theorem ToldS.one {l Y nm:List Int} {a:Int} (ha:At l a nm) (hok:StrOK nm) (h92 : ∀ c,c ∈ l→c≠92) (seg:List Int) :
    ToldS l (Y++seg) Y [⟨a,a+nm.length,Y.length,((Y++seg).length:Int)⟩] [(inner nm,seg)]:=by
  have ht:=told_name (v0:=(Y.length:Int)) (v1:=((Y++seg).length:Int)) ha hok h92
  refine ⟨?_,rfl,fun p hp=>?_,fun p hp=>?_, .inl rfl⟩
  · rw [List.map_cons,List.map_nil,ht.1]
    unfold segOf
    show [(inner nm,((Y++seg).take (((Y++seg).length:Int)).toNat).drop ((Y.length:Int)).toNat)]=_
    rw [Int.toNat_natCast,Int.toNat_natCast,List.take_length,List.drop_left]
  · rw [List.mem_singleton] at hp;subst hp;exact ht.2
  · rw [List.mem_singleton] at hp;subst hp
    simp only [List.length_append];omega
theorem ks_mem {W:Int} {ind ah:List Int} {s:List Int × List Int} : ∀ {m:TM}, s ∈ m.ks.segs W ind ah → ∃ n,n ∈ m.names∧s.1=inner n
  | .nil,h=>by simp [TM.ks,TM.segs] at h
  | .cons n t m,h=>by
    rw [TM.ks,TM.segs] at h
    rcases List.mem_cons.1 h with rfl|h
    · exact ⟨n,List.mem_cons_self .., rfl⟩
    · obtain ⟨n2,h2,e⟩:=ks_mem h
      exact ⟨n2,List.mem_cons_of_mem _ h2,e⟩
theorem ks_apart {W:Int} {ind ah:List Int} : ∀ {m:TM}, m.uq→(m.ks.segs W ind ah).Pairwise (fun a b=>dlt a b=true∨dlt b a=true)
  | .nil,_=>by simp [TM.ks,TM.segs]
  | .cons n t m,h=>by
    simp only [TM.uq] at h
    rw [TM.ks,TM.segs,List.pairwise_cons]
    refine ⟨fun s hs=>?_,ks_apart h.2.2⟩
    obtain ⟨n2,h2,e⟩:=ks_mem hs
    have h3:=h.1 n2 h2
    unfold dlt
    rw [e]
    exact h3
theorem put_ne {n:List Int} {t:T} {m:TM} : m.put n t ≠ .nil:=by
  cases m with
  | nil=>rw [TM.put];intro h;cases h
  | cons n2 t2 m=>rw [TM.put];split <;> (intro h;cases h)
end Go.Proofs.Ytbkgoccnegjdhaa.U

/- What is written of a tree reads as that tree again. -/
import Derived.Test.YtbkgoccnegjdhaaUb
import Derived.Test.YtbkgoccnegjdhaaU5
namespace Go.Proofs.Ytbkgoccnegjdhaa.U
open Go.RowKit Go.Proofs.YtbkgoccnegjdhaaW.PrintWords Go.Proofs.YtbkgoccnegjdhaaW.PrintLast Go.Proofs.YtbkgoccnegjdhaaW.PrintMore Go.Proofs.Ytbkgoccnegjdhaa.M Go.Proofs.Ytbkgoccnegjdhaa.Q
set_option linter.unusedVariables false
mutual
/-- Leaves and names are what they should be. -/
def T.ok:T→Prop
  | .leaf b=>LeafOK b
  | .arr k=>k.ok
  | .obj m=>m.ok
def TL.ok:TL→Prop
  | .nil=>True
  | .cons t k=>t.ok∧k.ok
def TM.ok:TM→Prop
  | .nil=>True
  | .cons n t m=>StrOK n∧t.ok∧m.ok
end
mutual
/-- A property of all bytes of leaves and names. -/
def T.al (p:Int→Prop):T→Prop
  | .leaf b => ∀ c,c ∈ b→p c
  | .arr k=>k.al p
  | .obj m=>m.al p
def TL.al (p:Int→Prop):TL→Prop
  | .nil=>True
  | .cons t k=>t.al p∧k.al p
def TM.al (p:Int→Prop):TM→Prop
  | .nil=>True
  | .cons n t m=>(∀ c,c ∈ n→p c)∧t.al p∧m.al p
end
variable {l:List Int} {p:Int→Prop}
mutual
theorem Rd.ok : ∀ (t:T) {i e:Int}, Rd l t i e→t.ok
  | .leaf b,i,e,h=>by simp only [Rd] at h;simp only [T.ok];exact h.2.2
  | .arr k,i,e,h=>by simp only [Rd] at h;simp only [T.ok];exact RdF.ok k h.2
  | .obj m,i,e,h=>by simp only [Rd] at h;simp only [T.ok];exact RdG.ok m h.2
theorem RdF.ok : ∀ (k:TL) {i e:Int}, RdF l k i e→k.ok
  | .nil,i,e,h=>trivial
  | .cons t k,i,e,h=>by simp only [RdF] at h;obtain ⟨a,c,hw,ht,hk⟩:=h;simp only [TL.ok];exact ⟨Rd.ok t ht,RdT.ok k hk⟩
theorem RdT.ok : ∀ (k:TL) {i e:Int}, RdT l k i e→k.ok
  | .nil,i,e,h=>trivial
  | .cons t k,i,e,h=>by simp only [RdT] at h;obtain ⟨a,b,c,hw,ha,hw2,ht,hk⟩:=h;simp only [TL.ok];exact ⟨Rd.ok t ht,RdT.ok k hk⟩
theorem RdG.ok : ∀ (m:TM) {i e:Int}, RdG l m i e→m.ok
  | .nil,i,e,h=>trivial
  | .cons n t m,i,e,h=>by simp only [RdG] at h;obtain ⟨a,b,c,d,hw,hn,hs,hw2,hb,hw3,ht,hm⟩:=h;simp only [TM.ok];exact ⟨hs,Rd.ok t ht,RdM.ok m hm⟩
theorem RdM.ok : ∀ (m:TM) {i e:Int}, RdM l m i e→m.ok
  | .nil,i,e,h=>trivial
  | .cons n t m,i,e,h=>by simp only [RdM] at h;obtain ⟨z,a,b,c,d,hw0,hz,hw,hn,hs,hw2,hb,hw3,ht,hm⟩:=h;simp only [TM.ok];exact ⟨hs,Rd.ok t ht,RdM.ok m hm⟩
end
mutual
theorem Rd.al (hp : ∀ c,c ∈ l→p c) : ∀ (t:T) {i e:Int}, Rd l t i e→t.al p
  | .leaf b,i,e,h=>by simp only [Rd] at h;simp only [T.al];exact fun c hc=>hp c (h.1.mem c hc)
  | .arr k,i,e,h=>by simp only [Rd] at h;simp only [T.al];exact RdF.al hp k h.2
  | .obj m,i,e,h=>by simp only [Rd] at h;simp only [T.al];exact RdG.al hp m h.2
theorem RdF.al (hp : ∀ c,c ∈ l→p c) : ∀ (k:TL) {i e:Int}, RdF l k i e→k.al p
  | .nil,i,e,h=>trivial
  | .cons t k,i,e,h=>by simp only [RdF] at h;obtain ⟨a,c,hw,ht,hk⟩:=h;simp only [TL.al];exact ⟨Rd.al hp t ht,RdT.al hp k hk⟩
theorem RdT.al (hp : ∀ c,c ∈ l→p c) : ∀ (k:TL) {i e:Int}, RdT l k i e→k.al p
  | .nil,i,e,h=>trivial
  | .cons t k,i,e,h=>by simp only [RdT] at h;obtain ⟨a,b,c,hw,ha,hw2,ht,hk⟩:=h;simp only [TL.al];exact ⟨Rd.al hp t ht,RdT.al hp k hk⟩
theorem RdG.al (hp : ∀ c,c ∈ l→p c) : ∀ (m:TM) {i e:Int}, RdG l m i e→m.al p
  | .nil,i,e,h=>trivial
  | .cons n t m,i,e,h=>by simp only [RdG] at h;obtain ⟨a,b,c,d,hw,hn,hs,hw2,hb,hw3,ht,hm⟩:=h;simp only [TM.al];exact ⟨fun c hc=>hp c (hn.mem c hc),Rd.al hp t ht,RdM.al hp m hm⟩
theorem RdM.al (hp : ∀ c,c ∈ l→p c) : ∀ (m:TM) {i e:Int}, RdM l m i e→m.al p
  | .nil,i,e,h=>trivial
  | .cons n t m,i,e,h=>by simp only [RdM] at h;obtain ⟨z,a,b,c,d,hw0,hz,hw,hn,hs,hw2,hb,hw3,ht,hm⟩:=h;simp only [TM.al];exact ⟨fun c hc=>hp c (hn.mem c hc),Rd.al hp t ht,RdM.al hp m hm⟩
end
theorem put_ok {n:List Int} {t:T} (hn:StrOK n) (ht:t.ok) : ∀ {m:TM}, m.ok→(m.put n t).ok
  | .nil,_=>by simp only [TM.put,TM.ok];exact ⟨hn,ht,trivial⟩
  | .cons n2 t2 m,h=>by
    simp only [TM.ok] at h
    rw [TM.put]
    split
    · simp only [TM.ok];exact ⟨h.1,h.2.1,put_ok hn ht h.2.2⟩
    · simp only [TM.ok];exact ⟨hn,ht,h⟩
theorem put_al {n:List Int} {t:T} (hn : ∀ c,c ∈ n→p c) (ht:t.al p) : ∀ {m:TM}, m.al p→(m.put n t).al p
  | .nil,_=>by simp only [TM.put,TM.al];exact ⟨hn,ht,trivial⟩
  | .cons n2 t2 m,h=>by
    simp only [TM.al] at h
    rw [TM.put]
    split
    · simp only [TM.al];exact ⟨h.1,h.2.1,put_al hn ht h.2.2⟩
    · simp only [TM.al];exact ⟨hn,ht,h⟩
mutual
theorem T.srt_ok : ∀ (t:T),t.ok→t.srt.ok
  | .leaf b,h=>h
  | .arr k,h=>by simp only [T.ok] at h;rw [T.srt];simp only [T.ok];exact TL.srt_ok k h
  | .obj m,h=>by simp only [T.ok] at h;rw [T.srt];simp only [T.ok];exact TM.srt_ok m h
theorem TL.srt_ok : ∀ (k:TL),k.ok→k.srt.ok
  | .nil,_=>trivial
  | .cons t k,h=>by simp only [TL.ok] at h;rw [TL.srt];simp only [TL.ok];exact ⟨T.srt_ok t h.1,TL.srt_ok k h.2⟩
theorem TM.srt_ok : ∀ (m:TM),m.ok→m.srt.ok
  | .nil,_=>trivial
  | .cons n t m,h=>by simp only [TM.ok] at h;rw [TM.srt];exact put_ok h.1 (T.srt_ok t h.2.1) (TM.srt_ok m h.2.2)
end
mutual
theorem T.srt_al : ∀ (t:T),t.al p→t.srt.al p
  | .leaf b,h=>h
  | .arr k,h=>by simp only [T.al] at h;rw [T.srt];simp only [T.al];exact TL.srt_al k h
  | .obj m,h=>by simp only [T.al] at h;rw [T.srt];simp only [T.al];exact TM.srt_al m h
theorem TL.srt_al : ∀ (k:TL),k.al p→k.srt.al p
  | .nil,_=>trivial
  | .cons t k,h=>by simp only [TL.al] at h;rw [TL.srt];simp only [TL.al];exact ⟨T.srt_al t h.1,TL.srt_al k h.2⟩
theorem TM.srt_al : ∀ (m:TM),m.al p→m.srt.al p
  | .nil,_=>trivial
  | .cons n t m,h=>by simp only [TM.al] at h;rw [TM.srt];exact put_al h.1 (T.srt_al t h.2.1) (TM.srt_al m h.2.2)
end
theorem sx_ok {sk:Bool} {t:T} (h:t.ok):(t.sx sk).ok:=by
  cases sk
  · exact h
  · exact T.srt_ok t h
theorem sx_al {sk:Bool} {t:T} (h:t.al p):(t.sx sk).al p:=by
  cases sk
  · exact h
  · exact T.srt_al t h
/-- The bytes that the layout itself writes. -/
def Own (p:Int→Prop):Prop:=p 10∧p 32∧p 44∧p 58∧p 91∧p 93∧p 123∧p 125
theorem all_cons {c:Int} {b:List Int} (h:p c) (g : ∀ c,c ∈ b→p c) : ∀ d,d ∈ c :: b→p d:=by
  intro d hd
  rcases List.mem_cons.1 hd with rfl|hd
  · exact h
  · exact g d hd
theorem all_app {a b:List Int} (h : ∀ c,c ∈ a→p c) (g : ∀ c,c ∈ b→p c) : ∀ d,d ∈ a++b→p d:=by
  intro d hd
  rcases List.mem_append.1 hd with hd|hd
  · exact h d hd
  · exact g d hd
theorem all_nil : ∀ d,d ∈ ([]:List Int)→p d:=fun d hd=>by simp at hd
mutual
theorem T.line_al (ho:Own p) : ∀ (t:T),t.al p → ∀ c,c ∈ t.line→p c
  | .leaf b,h=>by simp only [T.al] at h;simp only [T.line];exact h
  | .arr k,h=>by simp only [T.al] at h;simp only [T.line];exact all_cons ho.2.2.2.2.1 (TL.line0_al ho k h)
  | .obj m,h=>by simp only [T.line];exact all_nil
theorem TL.line0_al (ho:Own p) : ∀ (k:TL),k.al p → ∀ c,c ∈ k.line0→p c
  | .nil,h=>by simp only [TL.line0];exact all_cons ho.2.2.2.2.2.1 all_nil
  | .cons t k,h=>by simp only [TL.al] at h;simp only [TL.line0];exact all_app (T.line_al ho t h.1) (TL.line1_al ho k h.2)
theorem TL.line1_al (ho:Own p) : ∀ (k:TL),k.al p → ∀ c,c ∈ k.line1→p c
  | .nil,h=>by simp only [TL.line1];exact all_cons ho.2.2.2.2.2.1 all_nil
  | .cons t k,h=>by simp only [TL.al] at h;simp only [TL.line1];exact all_cons ho.2.2.1 (all_cons ho.2.1 (all_app (T.line_al ho t h.1) (TL.line1_al ho k h.2)))
end
variable {W:Int} {ind:List Int}
mutual
theorem T.lay_al (ho:Own p) (hi : ∀ c,c ∈ ind→p c) : ∀ (t:T) (ah:List Int) (col:Int),t.al p→(∀ c,c ∈ ah→p c) → ∀ c,c ∈ t.lay W ind ah col→p c
  | .leaf b,ah,col,h,ha=>by simp only [T.al] at h;simp only [T.lay];exact h
  | .arr k,ah,col,h,ha=>by
    simp only [T.al] at h;simp only [T.lay]
    split
    · exact all_cons ho.2.2.2.2.1 (TL.line0_al ho k h)
    · exact all_cons ho.2.2.2.2.1 (TL.layF_al ho hi k ah h ha)
  | .obj m,ah,col,h,ha=>by simp only [T.al] at h;simp only [T.lay];exact all_cons ho.2.2.2.2.2.2.1 (TM.layF_al ho hi m ah h ha)
theorem TL.layF_al (ho:Own p) (hi : ∀ c,c ∈ ind→p c) : ∀ (k:TL) (ah:List Int),k.al p→(∀ c,c ∈ ah→p c) → ∀ c,c ∈ k.layF W ind ah→p c
  | .nil,ah,h,ha=>by simp only [TL.layF];exact all_cons ho.2.2.2.2.2.1 all_nil
  | .cons t k,ah,h,ha=>by
    simp only [TL.al] at h;simp only [TL.layF]
    exact all_cons ho.1 (all_app (all_app ha hi) (all_app (T.lay_al ho hi t _ _ h.1 (all_app ha hi)) (TL.layT_al ho hi k ah h.2 ha)))
theorem TL.layT_al (ho:Own p) (hi : ∀ c,c ∈ ind→p c) : ∀ (k:TL) (ah:List Int),k.al p→(∀ c,c ∈ ah→p c) → ∀ c,c ∈ k.layT W ind ah→p c
  | .nil,ah,h,ha=>by simp only [TL.layT];exact all_cons ho.1 (all_app ha (all_cons ho.2.2.2.2.2.1 all_nil))
  | .cons t k,ah,h,ha=>by
    simp only [TL.al] at h;simp only [TL.layT]
    exact all_cons ho.2.2.1 (all_cons ho.1 (all_app (all_app ha hi) (all_app (T.lay_al ho hi t _ _ h.1 (all_app ha hi)) (TL.layT_al ho hi k ah h.2 ha))))
theorem TM.layF_al (ho:Own p) (hi : ∀ c,c ∈ ind→p c) : ∀ (m:TM) (ah:List Int),m.al p→(∀ c,c ∈ ah→p c) → ∀ c,c ∈ m.layF W ind ah→p c
  | .nil,ah,h,ha=>by simp only [TM.layF];exact all_cons ho.2.2.2.2.2.2.2 all_nil
  | .cons n t m,ah,h,ha=>by
    simp only [TM.al] at h;simp only [TM.layF]
    exact all_cons ho.1 (all_app (all_app ha hi) (all_app h.1 (all_cons ho.2.2.2.1 (all_cons ho.2.1 (all_app (T.lay_al ho hi t _ _ h.2.1 (all_app ha hi)) (TM.layT_al ho hi m ah h.2.2 ha))))))
theorem TM.layT_al (ho:Own p) (hi : ∀ c,c ∈ ind→p c) : ∀ (m:TM) (ah:List Int),m.al p→(∀ c,c ∈ ah→p c) → ∀ c,c ∈ m.layT W ind ah→p c
  | .nil,ah,h,ha=>by simp only [TM.layT];exact all_cons ho.1 (all_app ha (all_cons ho.2.2.2.2.2.2.2 all_nil))
  | .cons n t m,ah,h,ha=>by
    simp only [TM.al] at h;simp only [TM.layT]
    exact all_cons ho.2.2.1 (all_cons ho.1 (all_app (all_app ha hi) (all_app h.1 (all_cons ho.2.2.2.1 (all_cons ho.2.1 (all_app (T.lay_al ho hi t _ _ h.2.1 (all_app ha hi)) (TM.layT_al ho hi m ah h.2.2 ha)))))))
end
/-! ### read again -/
theorem At.wl : ∀ {b:List Int} {i:Int}, At l i b→(∀ c,c ∈ b→c≤32)→Wl l i (i+b.length)
  | [],i,h,_=>by
    have h1:=h.1;have h2:=h.2
    rw [List.length_nil]
    exact ⟨h1,by omega,by omega,fun q h3 h4=>by omega⟩
  | c :: b,i,h,hb=>by
    obtain ⟨h1,h2,h3,h4⟩:=h
    have ih:=At.wl h4 (fun c hc=>hb c (List.mem_cons_of_mem _ hc))
    obtain ⟨w1,w2,w3,w4⟩:=ih
    rw [List.length_cons]
    refine ⟨h1,by omega,by omega,fun q h5 h6=>?_⟩
    by_cases e:q=i
    · subst e;rw [h3];exact hb c (List.mem_cons_self ..)
    · exact w4 q om (by push_cast at h6;omega)
theorem At.one {c:Int} {b:List Int} {i:Int} (h:At l i (c :: b)):At l i [c]:=⟨h.1,h.2.1,h.2.2.1,by have:=h.1;omega,by have:=h.2.1;omega⟩
mutual
theorem Rd_line : ∀ (t:T) (i:Int),t.ok→t.objs=false→At l i t.line→Rd l t i (i+t.line.length)
  | .leaf b,i,h,ho,ha=>by simp only [T.ok] at h;simp only [T.line] at ha ⊢; simp only [Rd];exact ⟨ha,by trivial,h⟩
  | .arr k,i,h,ho,ha=>by
    simp only [T.ok] at h;simp only [T.objs] at ho;simp only [T.line] at ha ⊢; simp only [Rd,List.length_cons]
    have h2:=Rd_line0 k (i+1) h ho ha.2.2.2
    refine ⟨ha.one,?_⟩
    rw [show i+((k.line0.length+1:Nat):Int)=i+1+k.line0.length by push_cast;omega]
    exact h2
  | .obj m,i,h,ho,ha=>by simp only [T.objs] at ho;cases ho
theorem Rd_line0 : ∀ (k:TL) (i:Int),k.ok→k.objs=false→At l i k.line0→RdF l k i (i+k.line0.length)
  | .nil,i,h,ho,ha=>by simp only [TL.line0] at ha ⊢; simp only [RdF];exact ⟨i,Wl.refl ha.1 (by have:=ha.2.1;omega),ha,by simp⟩
  | .cons t k,i,h,ho,ha=>by
    simp only [TL.ok] at h;simp only [TL.objs,Bool.or_eq_false_iff] at ho;simp only [TL.line0] at ha ⊢; simp only [RdF]
    rw [At.append] at ha
    have h1:=Rd_line t i h.1 ho.1 ha.1
    have h2:=Rd_line1 k _ h.2 ho.2 ha.2
    have hb:=ha.1.bound
    refine ⟨i,i+t.line.length,Wl.refl hb.1 om,h1,?_⟩
    rw [List.length_append,show i+((t.line.length+k.line1.length:Nat):Int)=i+t.line.length+k.line1.length by push_cast;omega]
    exact h2
theorem Rd_line1 : ∀ (k:TL) (i:Int),k.ok→k.objs=false→At l i k.line1→RdT l k i (i+k.line1.length)
  | .nil,i,h,ho,ha=>by simp only [TL.line1] at ha ⊢; simp only [RdT];exact ⟨i,Wl.refl ha.1 (by have:=ha.2.1;omega),ha,by simp⟩
  | .cons t k,i,h,ho,ha=>by
    simp only [TL.ok] at h;simp only [TL.objs,Bool.or_eq_false_iff] at ho;simp only [TL.line1] at ha ⊢; simp only [RdT]
    have hc:=ha.one
    have hw:Wl l (i+1) (i+1+(([32]:List Int).length:Nat)):=ha.2.2.2.one.wl (fun c hc=>by rw [List.mem_singleton] at hc;omega)
    have ha2:=ha.2.2.2.2.2.2
    rw [At.append] at ha2
    have h1:=Rd_line t (i+1+1) h.1 ho.1 ha2.1
    have h2:=Rd_line1 k _ h.2 ho.2 ha2.2
    refine ⟨i,i+1+1,i+1+1+t.line.length,Wl.refl ha.1 (by have:=ha.2.1;omega),hc,hw,h1,?_⟩
    rw [List.length_cons,List.length_cons,List.length_append,show i+((t.line.length+k.line1.length+1+1:Nat):Int)=i+1+1+t.line.length+k.line1.length by push_cast;omega]
    exact h2
end
mutual
theorem Rd_lay (hi : ∀ c,c ∈ ind→c≤32) : ∀ (t:T) (ah:List Int) (col i:Int),t.ok→(∀ c,c ∈ ah→c≤32)→At l i (t.lay W ind ah col)→Rd l t i (i+(t.lay W ind ah col).length)
  | .leaf b,ah,col,i,h,hh,ha=>by simp only [T.ok] at h;simp only [T.lay] at ha ⊢; simp only [Rd];exact ⟨ha,by trivial,h⟩
  | .arr k,ah,col,i,h,hh,ha=>by
    simp only [T.ok] at h;simp only [Rd]
    by_cases c:0<W∧3<W - col∧k.objs=false∧(k.line0.length:Int)+1≤W - col
    · simp only [T.lay,if_pos c] at ha ⊢
      have h2:=Rd_line0 k (i+1) h c.2.2.1 ha.2.2.2
      refine ⟨ha.one,?_⟩
      rw [List.length_cons,show i+((k.line0.length+1:Nat):Int)=i+1+k.line0.length by push_cast;omega]
      exact h2
    · simp only [T.lay,if_neg c] at ha ⊢
      have h2:=Rd_layF hi k ah (i+1) h hh ha.2.2.2
      refine ⟨ha.one,?_⟩
      rw [List.length_cons,show i+(((k.layF W ind ah).length+1:Nat):Int)=i+1+(k.layF W ind ah).length by push_cast;omega]
      exact h2
  | .obj m,ah,col,i,h,hh,ha=>by
    simp only [T.ok] at h;simp only [Rd];simp only [T.lay] at ha ⊢
    have h2:=Rd_layG hi m ah (i+1) h hh ha.2.2.2
    refine ⟨ha.one,?_⟩
    rw [List.length_cons,show i+(((m.layF W ind ah).length+1:Nat):Int)=i+1+(m.layF W ind ah).length by push_cast;omega]
    exact h2
theorem Rd_layF (hi : ∀ c,c ∈ ind→c≤32) : ∀ (k:TL) (ah:List Int) (i:Int),k.ok→(∀ c,c ∈ ah→c≤32)→At l i (k.layF W ind ah)→RdF l k i (i+(k.layF W ind ah).length)
  | .nil,ah,i,h,hh,ha=>by simp only [TL.layF] at ha ⊢; simp only [RdF];exact ⟨i,Wl.refl ha.1 (by have:=ha.2.1;omega),ha,by simp⟩
  | .cons t k,ah,i,h,hh,ha=>by
    simp only [TL.ok] at h;simp only [TL.layF] at ha ⊢; simp only [RdF]
    rw [← List.cons_append,At.append,At.append] at ha
    have hw:=ha.1.wl (all_cons (p:=fun c=>c≤32) om (all_app hh hi))
    have h1:=Rd_lay hi t _ _ _ h.1 (all_app hh hi) ha.2.1
    have h2:=Rd_layT hi k ah _ h.2 hh ha.2.2
    refine ⟨_,_,hw,h1,?_⟩
    have e:i+((10 :: ((ah++ind)++(t.lay W ind (ah++ind) (((ah++ind).length:Int)+1)++k.layT W ind ah))).length:Nat)=i+((10 :: (ah++ind)).length:Nat)+((t.lay W ind (ah++ind) (((ah++ind).length:Int)+1)).length:Nat)+((k.layT W ind ah).length:Nat):=by
      simp only [List.length_cons,List.length_append];push_cast;omega
    rw [e]
    exact h2
theorem Rd_layT (hi : ∀ c,c ∈ ind→c≤32) : ∀ (k:TL) (ah:List Int) (i:Int),k.ok→(∀ c,c ∈ ah→c≤32)→At l i (k.layT W ind ah)→RdT l k i (i+(k.layT W ind ah).length)
  | .nil,ah,i,h,hh,ha=>by
    simp only [TL.layT] at ha ⊢; simp only [RdT]
    rw [← List.cons_append,At.append] at ha
    have hw:=ha.1.wl (all_cons (p:=fun c=>c≤32) om hh)
    refine ⟨_,hw,ha.2,?_⟩
    rw [← List.cons_append,List.length_append]
    push_cast
    rw [← Int.add_assoc];rfl
  | .cons t k,ah,i,h,hh,ha=>by
    simp only [TL.ok] at h;simp only [TL.layT] at ha ⊢; simp only [RdT]
    have hc:=ha.one
    have ha2:=ha.2.2.2
    rw [← List.cons_append,At.append,At.append] at ha2
    have hw:=ha2.1.wl (all_cons (p:=fun c=>c≤32) om (all_app hh hi))
    have h1:=Rd_lay hi t _ _ _ h.1 (all_app hh hi) ha2.2.1
    have h2:=Rd_layT hi k ah _ h.2 hh ha2.2.2
    refine ⟨i,_,_,Wl.refl ha.1 (by have:=ha.2.1;omega),hc,hw,h1,?_⟩
    have e:i+((44 :: 10 :: ((ah++ind)++(t.lay W ind (ah++ind) ((ah++ind).length:Int)++k.layT W ind ah))).length:Nat)=i+1+((10 :: (ah++ind)).length:Nat)+((t.lay W ind (ah++ind) ((ah++ind).length:Int)).length:Nat)+((k.layT W ind ah).length:Nat):=by
      simp only [List.length_cons,List.length_append];push_cast;omega
    rw [e]
    exact h2
theorem Rd_layG (hi : ∀ c,c ∈ ind→c≤32) : ∀ (m:TM) (ah:List Int) (i:Int),m.ok→(∀ c,c ∈ ah→c≤32)→At l i (m.layF W ind ah)→RdG l m i (i+(m.layF W ind ah).length)
  | .nil,ah,i,h,hh,ha=>by simp only [TM.layF] at ha ⊢; simp only [RdG];exact ⟨i,Wl.refl ha.1 (by have:=ha.2.1;omega),ha,by simp⟩
  | .cons n t m,ah,i,h,hh,ha=>by
    simp only [TM.ok] at h;simp only [TM.layF] at ha ⊢; simp only [RdG]
    rw [← List.cons_append,At.append,At.append] at ha
    have hw:=ha.1.wl (all_cons (p:=fun c=>c≤32) om (all_app hh hi))
    have hn:=ha.2.1
    have ha2:=ha.2.2
    have hc:=ha2.one
    have hb:=hn.bound
    have ha3:=ha2.2.2.2
    have hw3:=ha3.one.wl (fun c hc=>by rw [List.mem_singleton] at hc;omega)
    have ha4:=ha3.2.2.2
    rw [At.append] at ha4
    have h1:=Rd_lay hi t _ _ _ h.2.1 (all_app hh hi) ha4.1
    have h2:=Rd_layM hi m ah _ h.2.2 hh ha4.2
    refine ⟨_,_,_,_,hw,hn,h.1,Wl.refl om om,hc,hw3,h1,?_⟩
    have e:i+((10 :: ((ah++ind)++(n++58 :: 32 :: (t.lay W ind (ah++ind) (((ah++ind).length:Int)+n.length+3)++m.layT W ind ah)))).length:Nat)=i+((10 :: (ah++ind)).length:Nat)+(n.length:Nat)+1+1+((t.lay W ind (ah++ind) (((ah++ind).length:Int)+n.length+3)).length:Nat)+((m.layT W ind ah).length:Nat):=by
      simp only [List.length_cons,List.length_append];push_cast;omega
    rw [e]
    exact h2
theorem Rd_layM (hi : ∀ c,c ∈ ind→c≤32) : ∀ (m:TM) (ah:List Int) (i:Int),m.ok→(∀ c,c ∈ ah→c≤32)→At l i (m.layT W ind ah)→RdM l m i (i+(m.layT W ind ah).length)
  | .nil,ah,i,h,hh,ha=>by
    simp only [TM.layT] at ha ⊢; simp only [RdM]
    rw [← List.cons_append,At.append] at ha
    have hw:=ha.1.wl (all_cons (p:=fun c=>c≤32) om hh)
    refine ⟨_,hw,ha.2,?_⟩
    rw [← List.cons_append,List.length_append]
    push_cast
    rw [← Int.add_assoc];rfl
  | .cons n t m,ah,i,h,hh,ha=>by
    simp only [TM.ok] at h;simp only [TM.layT] at ha ⊢; simp only [RdM]
    have hz:=ha.one
    have ha1:=ha.2.2.2
    rw [← List.cons_append,At.append,At.append] at ha1
    have hw:=ha1.1.wl (all_cons (p:=fun c=>c≤32) om (all_app hh hi))
    have hn:=ha1.2.1
    have ha2:=ha1.2.2
    have hc:=ha2.one
    have hb:=hn.bound
    have ha3:=ha2.2.2.2
    have hw3:=ha3.one.wl (fun c hc=>by rw [List.mem_singleton] at hc;omega)
    have ha4:=ha3.2.2.2
    rw [At.append] at ha4
    have h1:=Rd_lay hi t _ _ _ h.2.1 (all_app hh hi) ha4.1
    have h2:=Rd_layM hi m ah _ h.2.2 hh ha4.2
    refine ⟨i,_,_,_,_,Wl.refl ha.1 (by have:=ha.2.1;omega),hz,hw,hn,h.1,Wl.refl om om,hc,hw3,h1,?_⟩
    have e:i+((44 :: 10 :: ((ah++ind)++(n++58 :: 32 :: (t.lay W ind (ah++ind) (((ah++ind).length:Int)+n.length+3)++m.layT W ind ah)))).length:Nat)=i+1+((10 :: (ah++ind)).length:Nat)+(n.length:Nat)+1+1+((t.lay W ind (ah++ind) (((ah++ind).length:Int)+n.length+3)).length:Nat)+((m.layT W ind ah).length:Nat):=by
      simp only [List.length_cons,List.length_append];push_cast;omega
    rw [e]
    exact h2
end
end Go.Proofs.Ytbkgoccnegjdhaa.U

/- Trees with their members in the order of the names. -/
import Derived.Test.YtbkgoccnegjdhaaU2
import Derived.Test.YtbkgoccnegjdhaaNd
namespace Go.Proofs.Ytbkgoccnegjdhaa.U
open Go.RowKit Go.Proofs.YtbkgoccnegjdhaaW.PrintWords Go.Proofs.YtbkgoccnegjdhaaW.PrintLast Go.Proofs.YtbkgoccnegjdhaaW.PrintMore Go.Proofs.Ytbkgoccnegjdhaa.M Go.Proofs.Ytbkgoccnegjdhaa.Q
set_option linter.unusedVariables false
/-- A name's bytes between its quotation marks. -/
def inner (n:List Int):List Int:=(n.drop 1).take (n.length - 2)
def nlt (a b:List Int):Bool:=klt (inner a) (inner b)
theorem nlt_order:Order nlt:=⟨fun _ _ h=>klt_order.asym _ _ h,fun _ _ _ h1 h2=>klt_order.tr _ _ _ h1 h2⟩
def TM.put (n:List Int) (t:T):TM→TM
  | .nil => .cons n t .nil
  | .cons n2 t2 m=>if nlt n2 n=true then .cons n2 t2 (m.put n t) else .cons n t (.cons n2 t2 m)
mutual
def T.srt:T→T
  | .leaf b => .leaf b
  | .arr k => .arr k.srt
  | .obj m => .obj m.srt
def TL.srt:TL→TL
  | .nil => .nil
  | .cons t k => .cons t.srt k.srt
def TM.srt:TM→TM
  | .nil => .nil
  | .cons n t m=>m.srt.put n t.srt
end
def TM.names:TM→List (List Int)
  | .nil=>[]
  | .cons n _ m=>n :: m.names
def TM.away (n:List Int) (m:TM):Prop := ∀ n2,n2 ∈ m.names→nlt n n2=true∨nlt n2 n=true
mutual
/-- The names of each object differ. -/
def T.uq:T→Prop
  | .leaf _=>True
  | .arr k=>k.uq
  | .obj m=>m.uq
def TL.uq:TL→Prop
  | .nil=>True
  | .cons t k=>t.uq∧k.uq
def TM.uq:TM→Prop
  | .nil=>True
  | .cons n t m=>m.away n∧t.uq∧m.uq
end
mutual
/-- The members of each object are sorted. -/
def T.ss:T→Prop
  | .leaf _=>True
  | .arr k=>k.ss
  | .obj m=>m.ss
def TL.ss:TL→Prop
  | .nil=>True
  | .cons t k=>t.ss∧k.ss
def TM.ss:TM→Prop
  | .nil=>True
  | .cons n t m=>(∀ n2,n2 ∈ m.names→nlt n n2=true)∧t.ss∧m.ss
end
theorem mem_put {n z:List Int} {t:T} : ∀ {m:TM}, z ∈ (m.put n t).names ↔ z=n∨z ∈ m.names
  | .nil=>by simp [TM.put,TM.names]
  | .cons n2 t2 m=>by
    rw [TM.put]
    split
    · rw [TM.names,List.mem_cons,mem_put,TM.names,List.mem_cons]
      constructor
      · rintro (h|h|h)
        · exact .inr (.inl h)
        · exact .inl h
        · exact .inr (.inr h)
      · rintro (h|h|h)
        · exact .inr (.inl h)
        · exact .inl h
        · exact .inr (.inr h)
    · simp [TM.names]
theorem mem_srt {z:List Int} : ∀ {m:TM}, z ∈ m.srt.names ↔ z ∈ m.names
  | .nil=>by simp [TM.srt]
  | .cons n t m=>by rw [TM.srt,mem_put,mem_srt,TM.names,List.mem_cons]
theorem put_ss {n:List Int} {t:T} (ht:t.ss) : ∀ {m:TM}, m.ss→m.away n→(m.put n t).ss
  | .nil,_,_=>by simp only [TM.put,TM.ss];exact ⟨fun _ h=>(by cases h),ht,trivial⟩
  | .cons n2 t2 m,h,ha=>by
    simp only [TM.ss] at h
    rw [TM.put]
    split
    · rename_i c
      simp only [TM.ss]
      refine ⟨fun z hz=>?_,h.2.1,put_ss ht h.2.2 fun z hz=>ha z (List.mem_cons_of_mem _ hz)⟩
      rcases mem_put.1 hz with rfl|hz
      · exact c
      · exact h.1 z hz
    · rename_i c
      have c2:nlt n n2=true:=(ha n2 (List.mem_cons_self ..)).resolve_right c
      simp only [TM.ss]
      refine ⟨fun z hz=>?_,ht,h⟩
      rcases List.mem_cons.1 hz with rfl|hz
      · exact c2
      · exact nlt_order.tr _ _ _ c2 (h.1 z hz)
mutual
theorem T.srt_ss : ∀ (t:T),t.uq→t.srt.ss
  | .leaf _,_=>trivial
  | .arr k,h=>by simp only [T.uq] at h;simp only [T.srt,T.ss];exact TL.srt_ss k h
  | .obj m,h=>by simp only [T.uq] at h;simp only [T.srt,T.ss];exact TM.srt_ss m h
theorem TL.srt_ss : ∀ (k:TL),k.uq→k.srt.ss
  | .nil,_=>trivial
  | .cons t k,h=>by simp only [TL.uq] at h;simp only [TL.srt,TL.ss];exact ⟨T.srt_ss t h.1,TL.srt_ss k h.2⟩
theorem TM.srt_ss : ∀ (m:TM),m.uq→m.srt.ss
  | .nil,_=>trivial
  | .cons n t m,h=>by
    simp only [TM.uq] at h
    rw [TM.srt]
    exact put_ss (T.srt_ss t h.2.1) (TM.srt_ss m h.2.2) fun z hz=>h.1 z (mem_srt.1 hz)
end
theorem put_first {n:List Int} {t:T} : ∀ {m:TM}, (∀ n2,n2 ∈ m.names→nlt n n2=true)→m.put n t = .cons n t m
  | .nil,_=>rfl
  | .cons n2 t2 m,h=>by
    rw [TM.put,if_neg]
    rw [nlt_order.asym _ _ (h n2 (List.mem_cons_self ..))]
    decide
mutual
theorem T.srt_id : ∀ (t:T),t.ss→t.srt=t
  | .leaf _,_=>rfl
  | .arr k,h=>by simp only [T.ss] at h;rw [T.srt,TL.srt_id k h]
  | .obj m,h=>by simp only [T.ss] at h;rw [T.srt,TM.srt_id m h]
theorem TL.srt_id : ∀ (k:TL),k.ss→k.srt=k
  | .nil,_=>rfl
  | .cons t k,h=>by simp only [TL.ss] at h;rw [TL.srt,T.srt_id t h.1,TL.srt_id k h.2]
theorem TM.srt_id : ∀ (m:TM),m.ss→m.srt=m
  | .nil,_=>rfl
  | .cons n t m,h=>by simp only [TM.ss] at h;rw [TM.srt,T.srt_id t h.2.1,TM.srt_id m h.2.2,put_first h.1]
end
mutual
theorem T.uq_of_ss : ∀ (t:T),t.ss→t.uq
  | .leaf _,_=>trivial
  | .arr k,h=>by simp only [T.ss] at h;simp only [T.uq];exact TL.uq_of_ss k h
  | .obj m,h=>by simp only [T.ss] at h;simp only [T.uq];exact TM.uq_of_ss m h
theorem TL.uq_of_ss : ∀ (k:TL),k.ss→k.uq
  | .nil,_=>trivial
  | .cons t k,h=>by simp only [TL.ss] at h;simp only [TL.uq];exact ⟨T.uq_of_ss t h.1,TL.uq_of_ss k h.2⟩
theorem TM.uq_of_ss : ∀ (m:TM),m.ss→m.uq
  | .nil,_=>trivial
  | .cons n t m,h=>by simp only [TM.ss] at h;simp only [TM.uq];exact ⟨fun z hz => .inl (h.1 z hz),T.uq_of_ss t h.2.1,TM.uq_of_ss m h.2.2⟩
end
theorem put_sz {n:List Int} {t:T} : ∀ {m:TM}, (m.put n t).sz=n.length+2+t.sz+m.sz
  | .nil=>by simp only [TM.put,TM.sz]
  | .cons n2 t2 m=>by
    rw [TM.put]
    split
    · simp only [TM.sz];rw [put_sz];omega
    · simp only [TM.sz]
mutual
theorem T.srt_sz : ∀ (t:T),t.srt.sz=t.sz
  | .leaf _=>rfl
  | .arr k=>by rw [T.srt];simp only [T.sz];rw [TL.srt_sz k]
  | .obj m=>by rw [T.srt];simp only [T.sz];rw [TM.srt_sz m]
theorem TL.srt_sz : ∀ (k:TL),k.srt.sz=k.sz
  | .nil=>rfl
  | .cons t k=>by rw [TL.srt];simp only [TL.sz];rw [T.srt_sz t,TL.srt_sz k]
theorem TM.srt_sz : ∀ (m:TM),m.srt.sz=m.sz
  | .nil=>rfl
  | .cons n t m=>by rw [TM.srt,put_sz,T.srt_sz t,TM.srt_sz m];simp only [TM.sz]
end
mutual
theorem T.srt_objs : ∀ (t:T),t.srt.objs=t.objs
  | .leaf _=>rfl
  | .arr k=>by rw [T.srt];simp only [T.objs];rw [TL.srt_objs k]
  | .obj m=>by rw [T.srt];simp only [T.objs]
theorem TL.srt_objs : ∀ (k:TL),k.srt.objs=k.objs
  | .nil=>rfl
  | .cons t k=>by rw [TL.srt];simp only [TL.objs];rw [T.srt_objs t,TL.srt_objs k]
end
mutual
theorem T.srt_line : ∀ (t:T),t.objs=false→t.srt=t
  | .leaf _,_=>rfl
  | .arr k,h=>by simp only [T.objs] at h;rw [T.srt,TL.srt_line k h]
  | .obj m,h=>by simp only [T.objs] at h;cases h
theorem TL.srt_line : ∀ (k:TL),k.objs=false→k.srt=k
  | .nil,_=>rfl
  | .cons t k,h=>by simp only [TL.objs,Bool.or_eq_false_iff] at h;rw [TL.srt,T.srt_line t h.1,TL.srt_line k h.2]
end
end Go.Proofs.Ytbkgoccnegjdhaa.U
/- Members' texts, joined; sorted. -/
namespace Go.Proofs.Ytbkgoccnegjdhaa.U
open Go.RowKit Go.Proofs.YtbkgoccnegjdhaaW.PrintWords Go.Proofs.YtbkgoccnegjdhaaW.PrintLast Go.Proofs.YtbkgoccnegjdhaaW.PrintMore Go.Proofs.Ytbkgoccnegjdhaa.M Go.Proofs.Ytbkgoccnegjdhaa.Q
set_option linter.unusedVariables false
def joinS:List (List Int)→List Int
  | []=>[]
  | [s]=>s
  | s :: t :: r=>s++44 :: 10 :: joinS (t :: r)
theorem joinS_cons {s:List Int} {r:List (List Int)} (h:r≠[]):joinS (s :: r)=s++44 :: 10 :: joinS r:=by
  cases r with
  | nil=>exact absurd rfl h
  | cons t r=>rfl
theorem joinS_snoc {s:List Int} : ∀ {r:List (List Int)}, r≠[]→joinS (r++[s])=joinS r++44 :: 10 :: s
  | [],h=>absurd rfl h
  | [t],_=>rfl
  | t :: u :: r,_=>by
    rw [List.cons_append,joinS_cons (by simp),joinS_snoc (r:=u :: r) (by simp),joinS_cons (s:=t) (r:=u :: r) (by simp)]
    simp
/-- The lengths of all, two more for each. -/
def tot:List (List Int × List Int)→Nat
  | []=>0
  | s :: r=>s.2.length+2+tot r
theorem joinS_len : ∀ {D:List (List Int × List Int)}, D≠[]→(joinS (D.map (·.2))).length+2=tot D
  | [],h=>absurd rfl h
  | [s],_=>by simp [joinS,tot]
  | s :: t :: r,_=>by
    have h:=joinS_len (D:=t :: r) (by simp)
    rw [List.map_cons,joinS_cons (by simp),tot,List.length_append,List.length_cons,List.length_cons]
    omega
theorem tot_ins {lt:List Int × List Int→List Int × List Int→Bool} {s:List Int × List Int} : ∀ {D:List (List Int × List Int)}, tot (ins lt s D)=s.2.length+2+tot D
  | []=>rfl
  | t :: r=>by
    rw [ins]
    split
    · rw [tot,tot_ins,tot];omega
    · rfl
theorem tot_isort {lt:List Int × List Int→List Int × List Int→Bool} : ∀ {D:List (List Int × List Int)}, tot (isort lt D)=tot D
  | []=>rfl
  | t :: r=>by rw [isort,tot_ins,tot_isort,tot]
theorem ins_map {α β:Type} {lt:β→β→Bool} {g:α→β} {x:α} : ∀ {r:List α}, (ins (fun a b=>lt (g a) (g b)) x r).map g=ins lt (g x) (r.map g)
  | []=>rfl
  | y :: r=>by
    rw [List.map_cons,ins,ins]
    by_cases c:lt (g y) (g x)=true
    · rw [if_pos c,if_pos c,List.map_cons,ins_map]
    · rw [if_neg c,if_neg c];rfl
theorem isort_map {α β:Type} {lt:β→β→Bool} {g:α→β} : ∀ {r:List α}, (isort (fun a b=>lt (g a) (g b)) r).map g=isort lt (r.map g)
  | []=>rfl
  | x :: r=>by rw [isort,ins_map,isort_map];rfl
/-- The order of what is told by a name's inner bytes. -/
def dlt (a b:List Int × List Int):Bool:=klt a.1 b.1
def TM.ks:TM→TM
  | .nil => .nil
  | .cons n t m => .cons n t.srt m.ks
def sgt (W:Int) (ind ah:List Int) (n:List Int) (t:T):List Int:=(ah++ind)++(n++58 :: 32 :: t.lay W ind (ah++ind) (((ah++ind).length:Int)+n.length+3))
def TM.segs (W:Int) (ind ah:List Int):TM→List (List Int × List Int)
  | .nil=>[]
  | .cons n t m=>(inner n,sgt W ind ah n t) :: m.segs W ind ah
theorem put_segs {W:Int} {ind ah n:List Int} {t:T} : ∀ {m:TM}, (m.put n t).segs W ind ah=ins dlt (inner n,sgt W ind ah n t) (m.segs W ind ah)
  | .nil=>rfl
  | .cons n2 t2 m=>by
    rw [TM.put,TM.segs,ins]
    by_cases c:nlt n2 n=true
    · rw [if_pos c,if_pos (show dlt (inner n2,sgt W ind ah n2 t2) (inner n,sgt W ind ah n t)=true from c),TM.segs,put_segs]
    · rw [if_neg c,if_neg (show ¬ dlt (inner n2,sgt W ind ah n2 t2) (inner n,sgt W ind ah n t)=true from c),TM.segs,TM.segs]
theorem srt_segs {W:Int} {ind ah:List Int} : ∀ {m:TM}, m.srt.segs W ind ah=isort dlt (m.ks.segs W ind ah)
  | .nil=>rfl
  | .cons n t m=>by rw [TM.srt,put_segs,srt_segs,TM.ks,TM.segs,isort]
theorem layT_segs {W:Int} {ind ah:List Int} : ∀ {m:TM}, m ≠ .nil→m.layT W ind ah=44 :: 10 :: (joinS ((m.segs W ind ah).map (·.2))++10 :: (ah++[125]))
  | .nil,h=>absurd rfl h
  | .cons n t .nil,_=>by
    simp only [TM.layT,TM.segs,List.map_cons,List.map_nil,joinS,sgt]
    simp
  | .cons n t (.cons n2 t2 m),_=>by
    have h:=layT_segs (W:=W) (ind:=ind) (ah:=ah) (m := .cons n2 t2 m) (by intro h;cases h)
    have e:((TM.cons n t (.cons n2 t2 m)).segs W ind ah).map (·.2)=sgt W ind ah n t :: ((TM.cons n2 t2 m).segs W ind ah).map (·.2):=rfl
    rw [TM.layT,h,e,joinS_cons (s:=sgt W ind ah n t) (r:=((TM.cons n2 t2 m).segs W ind ah).map (·.2)) (by simp [TM.segs])]
    simp only [sgt,List.append_assoc,List.cons_append]
theorem layF_segs {W:Int} {ind ah:List Int} : ∀ {m:TM}, m ≠ .nil→m.layF W ind ah=10 :: (joinS ((m.segs W ind ah).map (·.2))++10 :: (ah++[125]))
  | .nil,h=>absurd rfl h
  | .cons n t .nil,_=>by
    simp only [TM.layF,TM.layT,TM.segs,List.map_cons,List.map_nil,joinS,sgt]
    simp
  | .cons n t (.cons n2 t2 m),_=>by
    have h:=layT_segs (W:=W) (ind:=ind) (ah:=ah) (m := .cons n2 t2 m) (by intro h;cases h)
    have e:((TM.cons n t (.cons n2 t2 m)).segs W ind ah).map (·.2)=sgt W ind ah n t :: ((TM.cons n2 t2 m).segs W ind ah).map (·.2):=rfl
    rw [TM.layF,h,e,joinS_cons (s:=sgt W ind ah n t) (r:=((TM.cons n2 t2 m).segs W ind ah).map (·.2)) (by simp [TM.segs])]
    simp only [sgt,List.append_assoc,List.cons_append]
end Go.Proofs.Ytbkgoccnegjdhaa.U

/- A JSON text as a tree: what stands where in a list of bytes, and what is written of a tree. -/
import Derived.Test.YtbkgoccnegjdhaaU1
namespace Go.Proofs.Ytbkgoccnegjdhaa.U
open Go.RowKit Go.Proofs.YtbkgoccnegjdhaaW.PrintWords Go.Proofs.Ytbkgoccnegjdhaa.Q
mutual
inductive T where
  | leaf (b:List Int)
  | arr (k:TL)
  | obj (m:TM)
inductive TL where
  | nil
  | cons (t:T) (k:TL)
inductive TM where
  | nil
  | cons (n:List Int) (t:T) (m:TM)
end
/-- These bytes stand at this place. -/
def At (l:List Int):Int→List Int→Prop
  | i,[]=>0≤i∧i≤l.length
  | i,c :: b=>0≤i∧i<l.length∧rd l i=c∧At l (i+1) b
theorem At.bound {l:List Int} : ∀ {b:List Int} {i:Int}, At l i b→0≤i∧i+b.length≤l.length
  | [],i,h=>⟨h.1,by have:=h.2;simp;omega⟩
  | c :: b,i,h=>by have:=At.bound h.2.2.2;simp only [List.length_cons];refine ⟨h.1,?_⟩;push_cast;omega
theorem At.append {l:List Int} {b:List Int} : ∀ {a:List Int} {i:Int}, At l i (a++b) ↔ At l i a∧At l (i+a.length) b
  | [],i=>by
    simp only [List.nil_append,List.length_nil,At]
    constructor
    · intro h;have:=h.bound;refine ⟨by omega,by simpa using h⟩
    · intro h;simpa using h.2
  | c :: a,i=>by
    simp only [List.cons_append,At,List.length_cons]
    have ih:=At.append (l:=l) (b:=b) (a:=a) (i:=i+1)
    have e:i+((a.length+1:Nat):Int)=i+1+(a.length:Int):=by push_cast;omega
    rw [ih,e]
    constructor
    · rintro ⟨h1,h2,h3,h4,h5⟩;exact ⟨⟨h1,h2,h3,h4⟩,h5⟩
    · rintro ⟨⟨h1,h2,h3,h4⟩,h5⟩;exact ⟨h1,h2,h3,h4,h5⟩
theorem At.slice {l:List Int} : ∀ {b:List Int} {i:Int}, At l i b→(l.take (i+b.length).toNat).drop i.toNat=b
  | [],i,h=>by
    have:=h.1;have:=h.2
    simp
  | c :: b,i,h=>by
    obtain ⟨h0,h1,h2,h3⟩:=h
    have ih:=At.slice h3
    simp only [List.length_cons]
    have e1:(i+((b.length+1:Nat):Int))=i+1+(b.length:Int):=by push_cast;omega
    rw [e1]
    have hb:=h3.bound.2
    have e2:(i+1).toNat=i.toNat+1:=by omega
    rw [e2] at ih
    have hlt:i.toNat<(l.take (i+1+(b.length:Int)).toNat).length:=by rw [List.length_take];omega
    rw [List.drop_eq_getElem_cons hlt,ih]
    congr 1
    rw [List.getElem_take]
    unfold rd at h2
    rw [List.getD_eq_getElem?_getD,List.getElem?_eq_getElem om] at h2
    simpa using h2
theorem At.of_slice {l:List Int} : ∀ {b:List Int} {i:Int}, 0≤i→i+b.length≤l.length→(l.take (i+b.length).toNat).drop i.toNat=b→At l i b
  | [],i,h0,h1,_=>⟨h0,by simpa using h1⟩
  | c :: b,i,h0,h1,h=>by
    simp only [List.length_cons] at h h1
    have e1:(i+((b.length+1:Nat):Int))=i+1+(b.length:Int):=by push_cast;omega
    rw [e1] at h h1
    have hlt:i.toNat<(l.take (i+1+(b.length:Int)).toNat).length:=by rw [List.length_take];omega
    rw [List.drop_eq_getElem_cons hlt] at h
    have h2:=(List.cons.inj h).1
    have h3:=(List.cons.inj h).2
    refine ⟨h0,by omega,?_,At.of_slice om h1 ?_⟩
    · rw [List.getElem_take] at h2
      unfold rd
      rw [List.getD_eq_getElem?_getD,List.getElem?_eq_getElem om]
      simpa using h2
    · rw [show (i+1).toNat=i.toNat+1 by omega];exact h3
/-- What stands behind the first quotation mark of a string. -/
inductive ScanB:List Int→Prop
  | stop:ScanB [34]
  | plain {c:Int} {r:List Int} : c≠34→c≠92→ScanB r→ScanB (c :: r)
  | esc {x:Int} {r:List Int} : ScanB r→ScanB (92 :: x :: r)
def StrOK (n:List Int):Prop := ∃ r,n=34 :: r∧ScanB r
def NumB (b:List Int):Prop := ∃ c r,b=c :: r∧(c=45∨(48≤c∧c≤57)) ∧ ∀ x ∈ r,32<x∧x≠44∧x≠58∧x≠93∧x≠125
def LeafOK (b:List Int):Prop:=StrOK b∨NumB b∨b=[116,114,117,101]∨b=[102,97,108,115,101]∨b=[110,117,108,108]
/-- Blanks, in the wide sense of the package. -/
def Wl (l:List Int) (i j:Int):Prop:=0≤i∧i≤j∧j≤l.length ∧ ∀ q,i≤q→q<j→rd l q≤32
mutual
def Rd (l:List Int):T→Int→Int→Prop
  | .leaf b,i,e=>At l i b∧e=i+b.length∧LeafOK b
  | .arr k,i,e=>At l i [91]∧RdF l k (i+1) e
  | .obj m,i,e=>At l i [123]∧RdG l m (i+1) e
def RdF (l:List Int):TL→Int→Int→Prop
  | .nil,i,e => ∃ a,Wl l i a∧At l a [93]∧e=a+1
  | .cons t k,i,e => ∃ a c,Wl l i a∧Rd l t a c∧RdT l k c e
def RdT (l:List Int):TL→Int→Int→Prop
  | .nil,i,e => ∃ a,Wl l i a∧At l a [93]∧e=a+1
  | .cons t k,i,e => ∃ a b c,Wl l i a∧At l a [44]∧Wl l (a+1) b∧Rd l t b c∧RdT l k c e
def RdG (l:List Int):TM→Int→Int→Prop
  | .nil,i,e => ∃ a,Wl l i a∧At l a [125]∧e=a+1
  | .cons n t m,i,e => ∃ a b c d,Wl l i a∧At l a n∧StrOK n∧Wl l (a+n.length) b∧At l b [58]∧Wl l (b+1) c∧Rd l t c d∧RdM l m d e
def RdM (l:List Int):TM→Int→Int→Prop
  | .nil,i,e => ∃ a,Wl l i a∧At l a [125]∧e=a+1
  | .cons n t m,i,e => ∃ z a b c d,Wl l i z∧At l z [44]∧Wl l (z+1) a∧At l a n∧StrOK n∧Wl l (a+n.length) b∧At l b [58]∧Wl l (b+1) c∧Rd l t c d∧RdM l m d e
end
mutual
def T.line:T→List Int
  | .leaf b=>b
  | .arr k=>91 :: k.line0
  | .obj _=>[]
def TL.line0:TL→List Int
  | .nil=>[93]
  | .cons t k=>t.line++k.line1
def TL.line1:TL→List Int
  | .nil=>[93]
  | .cons t k=>44 :: 32 :: (t.line++k.line1)
end
mutual
def T.objs:T→Bool
  | .leaf _=>false
  | .arr k=>k.objs
  | .obj _=>true
def TL.objs:TL→Bool
  | .nil=>false
  | .cons t k=>t.objs || k.objs
end
mutual
def T.sz:T→Nat
  | .leaf b=>b.length
  | .arr k=>1+k.sz
  | .obj m=>1+m.sz
def TL.sz:TL→Nat
  | .nil=>0
  | .cons t k=>1+t.sz+k.sz
def TM.sz:TM→Nat
  | .nil=>0
  | .cons n t m=>n.length+2+t.sz+m.sz
end
-- What is written of a tree: W the width, ind the indent, ah what stands ahead of its line, col the column.
mutual
def T.lay (W:Int) (ind:List Int):T→List Int→Int→List Int
  | .leaf b,_,_=>b
  | .arr k,ah,col=>if 0<W∧3<W - col∧k.objs=false∧(k.line0.length:Int)+1≤W - col then 91 :: k.line0 else 91 :: k.layF W ind ah
  | .obj m,ah,_=>123 :: m.layF W ind ah
def TL.layF (W:Int) (ind:List Int):TL→List Int→List Int
  | .nil,_=>[93]
  | .cons t k,ah=>10 :: ((ah++ind)++(t.lay W ind (ah++ind) (((ah++ind).length:Int)+1)++k.layT W ind ah))
def TL.layT (W:Int) (ind:List Int):TL→List Int→List Int
  | .nil,ah=>10 :: (ah++[93])
  | .cons t k,ah=>44 :: 10 :: ((ah++ind)++(t.lay W ind (ah++ind) ((ah++ind).length:Int)++k.layT W ind ah))
def TM.layF (W:Int) (ind:List Int):TM→List Int→List Int
  | .nil,_=>[125]
  | .cons n t m,ah=>10 :: ((ah++ind)++(n++58 :: 32 :: (t.lay W ind (ah++ind) (((ah++ind).length:Int)+n.length+3)++m.layT W ind ah)))
def TM.layT (W:Int) (ind:List Int):TM→List Int→List Int
  | .nil,ah=>10 :: (ah++[125])
  | .cons n t m,ah=>44 :: 10 :: ((ah++ind)++(n++58 :: 32 :: (t.lay W ind (ah++ind) (((ah++ind).length:Int)+n.length+3)++m.layT W ind ah)))
end
mutual
theorem T.line_len : ∀ t:T,t.line.length≤3*t.sz
  | .leaf b=>by simp only [T.line,T.sz];omega
  | .arr k=>by have:=TL.line0_len k;simp only [T.line,T.sz,List.length_cons];omega
  | .obj m=>by simp only [T.line,T.sz,List.length_nil];omega
theorem TL.line0_len : ∀ k:TL,k.line0.length≤3*k.sz+1
  | .nil=>by simp only [TL.line0,TL.sz,List.length_cons,List.length_nil];omega
  | .cons t k=>by have:=T.line_len t;have:=TL.line1_len k;simp only [TL.line0,TL.sz,List.length_append];omega
theorem TL.line1_len : ∀ k:TL,k.line1.length≤3*k.sz+1
  | .nil=>by simp only [TL.line1,TL.sz,List.length_cons,List.length_nil];omega
  | .cons t k=>by have:=T.line_len t;have:=TL.line1_len k;simp only [TL.line1,TL.sz,List.length_append,List.length_cons];omega
end
mutual
theorem T.lay_len (W:Int) {ind:List Int} (hi:ind.length≤64) : ∀ (t:T) (ah:List Int) (col:Int),ah.length+64*t.sz≤262208→(t.lay W ind ah col).length≤262300*t.sz
  | .leaf b,ah,col,h=>by simp only [T.lay,T.sz];omega
  | .arr k,ah,col,h=>by
    simp only [T.sz] at h ⊢
    have h1:=TL.line0_len k
    have h2:=TL.layF_len W hi k ah om
    simp only [T.lay]
    split <;> simp only [List.length_cons] <;> omega
  | .obj m,ah,col,h=>by
    simp only [T.sz] at h ⊢
    have h2:=TM.layF_len W hi m ah om
    simp only [T.lay,List.length_cons];omega
theorem TL.layF_len (W:Int) {ind:List Int} (hi:ind.length≤64) : ∀ (k:TL) (ah:List Int),ah.length+64*k.sz+64≤262208→(k.layF W ind ah).length≤262300*k.sz+2+ah.length
  | .nil,ah,h=>by simp only [TL.layF,TL.sz,List.length_cons,List.length_nil];omega
  | .cons t k,ah,h=>by
    simp only [TL.sz] at h ⊢
    have h1:=T.lay_len W hi t (ah++ind) (((ah++ind).length:Int)+1) (by rw [List.length_append];omega)
    have h2:=TL.layT_len W hi k ah om
    simp only [TL.layF,List.length_cons,List.length_append] at h1 h2 ⊢; omega
theorem TL.layT_len (W:Int) {ind:List Int} (hi:ind.length≤64) : ∀ (k:TL) (ah:List Int),ah.length+64*k.sz+64≤262208→(k.layT W ind ah).length≤262300*k.sz+2+ah.length
  | .nil,ah,h=>by simp only [TL.layT,TL.sz,List.length_cons,List.length_nil,List.length_append];omega
  | .cons t k,ah,h=>by
    simp only [TL.sz] at h ⊢
    have h1:=T.lay_len W hi t (ah++ind) ((ah++ind).length:Int) (by rw [List.length_append];omega)
    have h2:=TL.layT_len W hi k ah om
    simp only [TL.layT,List.length_cons,List.length_append] at h1 h2 ⊢; omega
theorem TM.layF_len (W:Int) {ind:List Int} (hi:ind.length≤64) : ∀ (m:TM) (ah:List Int),ah.length+64*m.sz+64≤262208→(m.layF W ind ah).length≤262300*m.sz+2+ah.length
  | .nil,ah,h=>by simp only [TM.layF,TM.sz,List.length_cons,List.length_nil];omega
  | .cons n t m,ah,h=>by
    simp only [TM.sz] at h ⊢
    have h1:=T.lay_len W hi t (ah++ind) (((ah++ind).length:Int)+n.length+3) (by rw [List.length_append];omega)
    have h2:=TM.layT_len W hi m ah om
    simp only [TM.layF,List.length_cons,List.length_append] at h1 h2 ⊢; omega
theorem TM.layT_len (W:Int) {ind:List Int} (hi:ind.length≤64) : ∀ (m:TM) (ah:List Int),ah.length+64*m.sz+64≤262208→(m.layT W ind ah).length≤262300*m.sz+2+ah.length
  | .nil,ah,h=>by simp only [TM.layT,TM.sz,List.length_cons,List.length_nil,List.length_append];omega
  | .cons n t m,ah,h=>by
    simp only [TM.sz] at h ⊢
    have h1:=T.lay_len W hi t (ah++ind) (((ah++ind).length:Int)+n.length+3) (by rw [List.length_append];omega)
    have h2:=TM.layT_len W hi m ah om
    simp only [TM.layT,List.length_cons,List.length_append] at h1 h2 ⊢; omega
end
mutual
theorem T.sz_le {l:List Int} : ∀ (t:T) {i e:Int}, Rd l t i e→0≤i∧i+t.sz≤e∧e≤l.length
  | .leaf b,i,e,h=>by simp only [Rd] at h;have:=h.1.bound;simp only [T.sz];omega
  | .arr k,i,e,h=>by
    simp only [Rd] at h;have:=h.1.bound;have:=TL.szF_le k h.2;simp only [T.sz];omega
  | .obj m,i,e,h=>by
    simp only [Rd] at h;have:=h.1.bound;have:=TM.szF_le m h.2;simp only [T.sz];omega
theorem TL.szF_le {l:List Int} : ∀ (k:TL) {i e:Int}, RdF l k i e→i+k.sz≤e∧e≤l.length
  | .nil,i,e,h=>by
    simp only [RdF] at h;obtain ⟨a,hw,ha,he⟩:=h;have:=ha.bound;have:=hw.2.1;simp only [TL.sz,List.length_cons,List.length_nil] at *; omega
  | .cons t k,i,e,h=>by
    simp only [RdF] at h;obtain ⟨a,c,hw,ht,hk⟩:=h
    have:=T.sz_le t ht;have:=TL.szT_le k hk;have:=hw.2.1;simp only [TL.sz];omega
theorem TL.szT_le {l:List Int} : ∀ (k:TL) {i e:Int}, RdT l k i e→i+k.sz+1≤e∧e≤l.length
  | .nil,i,e,h=>by
    simp only [RdT] at h;obtain ⟨a,hw,ha,he⟩:=h;have:=ha.bound;have:=hw.2.1;simp only [TL.sz,List.length_cons,List.length_nil] at *; omega
  | .cons t k,i,e,h=>by
    simp only [RdT] at h;obtain ⟨a,b,c,hw,ha,hw2,ht,hk⟩:=h
    have:=T.sz_le t ht;have:=TL.szT_le k hk;have:=hw.2.1;have:=hw2.2.1;simp only [TL.sz];omega
theorem TM.szF_le {l:List Int} : ∀ (m:TM) {i e:Int}, RdG l m i e→i+m.sz≤e∧e≤l.length
  | .nil,i,e,h=>by
    simp only [RdG] at h;obtain ⟨a,hw,ha,he⟩:=h;have:=ha.bound;have:=hw.2.1;simp only [TM.sz,List.length_cons,List.length_nil] at *; omega
  | .cons n t m,i,e,h=>by
    simp only [RdG] at h;obtain ⟨a,b,c,d,hw,hn,_,hw2,hb,hw3,ht,hm⟩:=h
    have:=T.sz_le t ht;have:=TM.szT_le m hm;have:=hw.2.1;have:=hw2.2.1;have:=hw3.2.1;simp only [TM.sz];push_cast;omega
theorem TM.szT_le {l:List Int} : ∀ (m:TM) {i e:Int}, RdM l m i e→i+m.sz+1≤e∧e≤l.length
  | .nil,i,e,h=>by
    simp only [RdM] at h;obtain ⟨a,hw,ha,he⟩:=h;have:=ha.bound;have:=hw.2.1;simp only [TM.sz,List.length_cons,List.length_nil] at *; omega
  | .cons n t m,i,e,h=>by
    simp only [RdM] at h;obtain ⟨z,a,b,c,d,hw0,hz,hw,hn,_,hw2,hb,hw3,ht,hm⟩:=h
    have:=T.sz_le t ht;have:=TM.szT_le m hm;have:=hw0.2.1;have:=hw.2.1;have:=hw2.2.1;have:=hw3.2.1;simp only [TM.sz];push_cast;omega
end
end Go.Proofs.Ytbkgoccnegjdhaa.U

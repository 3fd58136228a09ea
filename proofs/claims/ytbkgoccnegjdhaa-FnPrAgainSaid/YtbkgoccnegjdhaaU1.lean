/- The reference's reader in plain words: what it says of a text, for each of its functions: it ends, and what it takes for a value is one. -/
import Derived.Test.YtbkgoccnegjdhaaU0
import Derived.Test.YtbkgoccnegjdhaaB1
import Derived.Test.YtbkgoccnegjdhaaB2
import Derived.Test.YtbkgoccnegjdhaaB3
namespace Go.Proofs.Ytbkgoccnegjdhaa.U
open Go.RowKit Go.Proofs.YtbkgoccnegjdhaaW.PrintWords Go.Proofs.Ytbkgoccnegjdhaa.Q
def blank (c:Int):Prop:=c=32∨c=9∨c=10∨c=13
instance (c:Int):Decidable (blank c):=by unfold blank;infer_instance
def Ws (s:ByteArray) (i j:Int):Prop:=i≤j ∧ ∀ q,i≤q→q<j→blank (bt s q)
theorem Ws.refl (s:ByteArray) (i:Int):Ws s i i:=⟨by omega,fun q h1 h2=>by omega⟩
theorem Ws.cons {s:ByteArray} {i j:Int} (h:blank (bt s i)) (w:Ws s (i+1) j):Ws s i j :=
  ⟨by have:=w.1;omega,fun q h1 h2=>by
    by_cases e:q=i
    · subst e;exact h
    · exact w.2 q om h2⟩
theorem Ev.const {α:Type} (r:α) {g:Nat→Option α} (h : ∀ k,g (k+1)=some r):Ev g r:=Ev.step (f:=fun _=>some r) h (Ev.now r)
theorem Blank_yes {c:Int} (h:blank c):sB.f c=some true:=by
  unfold sB.f
  rcases h with h|h|h|h <;> subst h <;> decide
theorem Blank_no {c:Int} (h : ¬ blank c):sB.f c=some false:=by
  unfold blank at h
  unfold sB.f
  rw [if_neg om,if_neg om,if_neg om]
  simp;omega
theorem bt_out {s:ByteArray} {i:Int} (h:(s.size:Int)≤i):bt s i=0:=by
  unfold bt
  rw [dif_neg om]
theorem blanks_ev (s:ByteArray) (hn:s.size≤4611686018427387904) (d:Nat) : ∀ i:Int,0≤i→i≤s.size→(s.size:Int) - i=d →
    ∃ e,Ev (fun k=>rB.f k s i) (s,e)∧Ws s i e∧e≤s.size ∧ ¬ blank (bt s e):=by
  induction d with
  | zero =>
    intro i h0 h1 hd
    refine ⟨i,Ev.const _ fun k=>?_,Ws.refl _ _,h1,?_⟩
    · unfold rB.f
      simp only [rB.l0]
      rw [if_neg om]
    · rw [bt_out om]
      unfold blank;omega
  | succ d ih =>
    intro i h0 h1 hd
    by_cases hb:blank (bt s i)
    · obtain ⟨e,he,hw,hle,hnb⟩:=ih (i+1) om om om
      refine ⟨e,Ev.step (fun k=>?_) he,Ws.cons hb hw,hle,hnb⟩
      show rB.f (k+1) s i=_
      unfold rB.f
      simp only [rB.l0]
      rw [if_pos om,if_pos h0,Blank_yes hb,Option.bind_some,if_pos rfl,wr om om]
    · refine ⟨i,Ev.const _ fun k=>?_,Ws.refl _ _,h1,hb⟩
      unfold rB.f
      simp only [rB.l0]
      rw [if_pos om,if_pos h0,Blank_no hb,Option.bind_some,if_neg (by decide)]
theorem here_in {s:ByteArray} {i:Int} (h0:0≤i):rH.f s i=some (bt s i,s,i):=by
  unfold rH.f
  by_cases h:i<(s.size:Int)
  · rw [if_pos h,if_pos h0]
  · rw [if_neg h,bt_out om]
theorem take_yes {s:ByteArray} {i c:Int} (h0:0≤i) (hn:s.size≤4611686018427387904) (hc:c≠0) (h:bt s i=c):i<(s.size:Int)∧rT.f s i c=some (true,s,i+1):=by
  have hi:i<(s.size:Int):=by
    apply Int.lt_of_not_ge
    intro hh
    rw [bt_out hh] at h
    exact hc h.symm
  refine ⟨hi,?_⟩
  unfold rT.f
  rw [if_pos hi,if_pos h0,if_pos h,wr om om]
theorem take_no {s:ByteArray} {i c:Int} (h0:0≤i) (h:bt s i≠c):rT.f s i c=some (false,s,i):=by
  unfold rT.f
  by_cases hi:i<(s.size:Int)
  · rw [if_pos hi,if_pos h0,if_neg h]
  · rw [if_neg hi]
/-- What take says, either way. -/
theorem take_any (s:ByteArray) (i c:Int) (h0:0≤i) (hn:s.size≤4611686018427387904) (hc:c≠0) :
    (bt s i=c∧i<(s.size:Int)∧rT.f s i c=some (true,s,i+1))∨(bt s i≠c∧rT.f s i c=some (false,s,i)):=by
  by_cases h:bt s i=c
  · exact .inl ⟨h,(take_yes h0 hn hc h).1,(take_yes h0 hn hc h).2⟩
  · exact .inr ⟨h,take_no h0 h⟩
def dig (c:Int):Prop:=48≤c∧c≤57
/-- Bytes of a number. -/
def numc (c:Int):Prop:=dig c∨c=43∨c=45∨c=46∨c=69∨c=101
def Nums (s:ByteArray) (i j:Int):Prop:=i≤j ∧ ∀ q,i≤q→q<j→numc (bt s q)
theorem Nums.refl (s:ByteArray) (i:Int):Nums s i i:=⟨by omega,fun q h1 h2=>by omega⟩
theorem Nums.one {s:ByteArray} {i:Int} (h:numc (bt s i)):Nums s i (i+1):=⟨by omega,fun q h1 h2=>by
  have e:q=i:=by omega
  rw [e];exact h⟩
theorem Nums.trans {s:ByteArray} {i j l:Int} (h:Nums s i j) (h':Nums s j l):Nums s i l :=
  ⟨by have:=h.1;have:=h'.1;omega,fun q h1 h2=>by
    by_cases e:q<j
    · exact h.2 q h1 e
    · exact h'.2 q om h2⟩
theorem digits_loop (s:ByteArray) (b:Int) (hn:s.size≤4611686018427387904) (d:Nat) : ∀ i:Int,0≤i→i≤s.size→(s.size:Int) - i=d →
    ∃ e,Ev (fun k=>rD.l0 k b (bt s i) s i) (decide (e>b),s,e)∧Nums s i e∧e≤s.size:=by
  induction d with
  | zero =>
    intro i h0 h1 hd
    refine ⟨i,Ev.const _ fun k=>?_,Nums.refl _ _,h1⟩
    simp only [rD.l0]
    rw [bt_out om,if_neg om]
  | succ d ih =>
    intro i h0 h1 hd
    by_cases hb:dig (bt s i)
    · obtain ⟨e,he,hw,hle⟩:=ih (i+1) om om om
      refine ⟨e,Ev.step (fun k=>?_) he,(Nums.one (.inl hb)).trans hw,hle⟩
      simp only [rD.l0]
      rw [if_pos hb.1,if_pos hb.2,wr om om,here_in om,Option.bind_some]
    · refine ⟨i,Ev.const _ fun k=>?_,Nums.refl _ _,h1⟩
      simp only [rD.l0]
      by_cases h48:48≤bt s i
      · rw [if_pos h48,if_neg (fun h=>hb ⟨h48,h⟩)]
      · rw [if_neg h48]
theorem digits_ev (s:ByteArray) (hn:s.size≤4611686018427387904) (i:Int) (h0:0≤i) (h1:i≤s.size) :
    ∃ e ok,Ev (fun k=>rD.f k s i) (ok,s,e)∧Nums s i e∧e≤s.size∧(ok=true→i<e∧dig (bt s i)):=by
  obtain ⟨e,he,hw,hle⟩:=digits_loop s i hn ((s.size:Int) - i).toNat i h0 h1 om
  refine ⟨e,_,Ev.congr (fun k=>?_) he,hw,hle,fun h=>?_⟩
  · unfold rD.f
    rw [here_in h0,Option.bind_some]
  · have hlt:i<e:=by simpa using h
    refine ⟨hlt,?_⟩
    obtain ⟨K,hK⟩:=he
    have h2:=hK (K+1) om
    apply Classical.byContradiction
    intro hnd
    simp only [rD.l0] at h2
    by_cases h48:48≤bt s i
    · rw [if_pos h48,if_neg (fun h=>hnd ⟨h48,h⟩)] at h2
      simp at h2
      omega
    · rw [if_neg h48] at h2
      simp at h2
      omega
/-- What number says of a place: it ends; if it says yes, its bytes are a number's. -/
def NumR (s:ByteArray) (i:Int) (g:Nat→Option (Bool × ByteArray × Int)) (P:Bool→Int→Prop):Prop := ∃ ok e,Ev g (ok,s,e)∧e≤s.size∧i≤e∧(ok=true→Nums s i e)∧P ok e
theorem num_j2 (s:ByteArray) (hn:s.size≤4611686018427387904) (b:Bool) (i:Int) (h0:0≤i) (h1:i≤s.size):NumR s i (fun k=>rN.j2 k b s i) (fun _ _=>True):=by
  cases b with
  | false=>exact ⟨true,i,Ev.const _ fun k=>by simp only [rN.j2];rw [if_neg (by simp)],h1,Int.le_refl _,fun _=>Nums.refl _ _,trivial⟩
  | true =>
    rcases take_any s i 43 h0 hn (by decide) with ⟨hb,hlt,ht⟩|⟨hb,ht⟩
    · obtain ⟨e,ok,he,hw,hle,_⟩:=digits_ev s hn (i+1) om om
      refine ⟨ok,e,Ev.step (f:=fun k=>(rD.f k s (i+1)).bind fun t=>some (t.1,t.2.1,t.2.2)) (fun k=>?_) (Ev.bind he (Ev.now _)),hle,by have:=hw.1;omega,fun _=>(Nums.one (by rw [hb];unfold numc dig;omega)).trans hw,trivial⟩
      simp only [rN.j2]
      rw [if_pos (by trivial),ht,Option.bind_some,if_pos rfl]
    · rcases take_any s i 45 h0 hn (by decide) with ⟨hb2,hlt,ht2⟩|⟨hb2,ht2⟩
      · obtain ⟨e,ok,he,hw,hle,_⟩:=digits_ev s hn (i+1) om om
        refine ⟨ok,e,Ev.step (f:=fun k=>(rD.f k s (i+1)).bind fun t=>some (t.1,t.2.1,t.2.2)) (fun k=>?_) (Ev.bind he (Ev.now _)),hle,by have:=hw.1;omega,fun _=>(Nums.one (by rw [hb2];unfold numc dig;omega)).trans hw,trivial⟩
        simp only [rN.j2]
        rw [if_pos (by trivial),ht,Option.bind_some,if_neg (by simp),ht2,Option.bind_some]
      · obtain ⟨e,ok,he,hw,hle,_⟩:=digits_ev s hn i h0 h1
        refine ⟨ok,e,Ev.step (f:=fun k=>(rD.f k s i).bind fun t=>some (t.1,t.2.1,t.2.2)) (fun k=>?_) (Ev.bind he (Ev.now _)),hle,by have:=hw.1;omega,fun _=>hw,trivial⟩
        simp only [rN.j2]
        rw [if_pos (by trivial),ht,Option.bind_some,if_neg (by simp),ht2,Option.bind_some]
theorem num_j1 (s:ByteArray) (hn:s.size≤4611686018427387904) (b:Bool) (i:Int) (h0:0≤i) (h1:i≤s.size):NumR s i (fun k=>rN.j1 k b s i) (fun _ _=>True):=by
  cases b with
  | true=>exact ⟨false,i,Ev.const _ fun k=>by simp only [rN.j1];rw [if_pos (by trivial)],h1,Int.le_refl _,(fun h=>by cases h),trivial⟩
  | false =>
    rcases take_any s i 101 h0 hn (by decide) with ⟨hb,hlt,ht⟩|⟨hb,ht⟩
    · obtain ⟨ok,e,he,hle,hie,hw,_⟩:=num_j2 s hn true (i+1) om om
      refine ⟨ok,e,Ev.step (fun k=>?_) he,hle,by omega,fun h=>(Nums.one (by rw [hb];unfold numc dig;omega)).trans (hw h),trivial⟩
      simp only [rN.j1]
      rw [if_neg (by simp),ht,Option.bind_some,if_pos rfl]
    · rcases take_any s i 69 h0 hn (by decide) with ⟨hb2,hlt,ht2⟩|⟨hb2,ht2⟩
      · obtain ⟨ok,e,he,hle,hie,hw,_⟩:=num_j2 s hn true (i+1) om om
        refine ⟨ok,e,Ev.step (fun k=>?_) he,hle,by omega,fun h=>(Nums.one (by rw [hb2];unfold numc dig;omega)).trans (hw h),trivial⟩
        simp only [rN.j1]
        rw [if_neg (by simp),ht,Option.bind_some,if_neg (by simp),ht2,Option.bind_some]
      · obtain ⟨ok,e,he,hle,hie,hw,_⟩:=num_j2 s hn false i h0 h1
        refine ⟨ok,e,Ev.step (fun k=>?_) he,hle,hie,hw,trivial⟩
        simp only [rN.j1]
        rw [if_neg (by simp),ht,Option.bind_some,if_neg (by simp),ht2,Option.bind_some]
theorem num_j0 (s:ByteArray) (hn:s.size≤4611686018427387904) (b:Bool) (i:Int) (h0:0≤i) (h1:i≤s.size):NumR s i (fun k=>rN.j0 k b s i) (fun ok _=>b=true→ok=false):=by
  cases b with
  | true=>exact ⟨false,i,Ev.const _ fun k=>by simp only [rN.j0];rw [if_pos (by trivial)],h1,Int.le_refl _,(fun h=>by cases h),fun _=>rfl⟩
  | false =>
    rcases take_any s i 46 h0 hn (by decide) with ⟨hb,hlt,ht⟩|⟨hb,ht⟩
    · obtain ⟨e1,ok1,he1,hw1,hle1,_⟩:=digits_ev s hn (i+1) om om
      obtain ⟨ok,e,he,hle,hie,hw,_⟩:=num_j1 s hn (!ok1) e1 (by have:=hw1.1;omega) hle1
      refine ⟨ok,e,Ev.step (f:=fun k=>(rD.f k s (i+1)).bind fun t=>rN.j1 k (!t.1) t.2.1 t.2.2) (fun k=>?_) (Ev.bind he1 he),hle,by have:=hw1.1;omega,fun h=>((Nums.one (by rw [hb];unfold numc dig;omega)).trans hw1).trans (hw h),fun h=>by cases h⟩
      simp only [rN.j0]
      rw [if_neg (by simp),ht,Option.bind_some,if_pos rfl]
    · obtain ⟨ok,e,he,hle,hie,hw,_⟩:=num_j1 s hn false i h0 h1
      refine ⟨ok,e,Ev.step (fun k=>?_) he,hle,hie,hw,fun h=>by cases h⟩
      simp only [rN.j0]
      rw [if_neg (by simp),ht,Option.bind_some,if_neg (by simp)]
/-- number: it ends; if it says yes, its bytes are a number's, one at least. -/
theorem number_ev (s:ByteArray) (hn:s.size≤4611686018427387904) (i:Int) (h0:0≤i) (h1:i≤s.size) :
    ∃ ok e,Ev (fun k=>rN.f k s i) (ok,s,e)∧e≤s.size∧i≤e∧(ok=true→Nums s i e∧i<e):=by
  -- behind a minus sign or none
  have main : ∀ j:Int,0≤j→j≤s.size → ∃ ok e,Ev (fun k=>(rT.f s j 48).bind fun t=>if t.1=true then rN.j0 k false t.2.1 t.2.2 else (rD.f k t.2.1 t.2.2).bind fun t2=>rN.j0 k (!t2.1) t2.2.1 t2.2.2) (ok,s,e)∧e≤s.size∧j≤e∧(ok=true→Nums s j e∧j<e):=by
    intro j j0 j1
    rcases take_any s j 48 j0 hn (by decide) with ⟨hb,hlt,ht⟩|⟨hb,ht⟩
    · obtain ⟨ok,e,he,hle,hie,hw,_⟩:=num_j0 s hn false (j+1) om om
      refine ⟨ok,e,Ev.congr (fun k=>?_) he,hle,by omega,fun h=>⟨(Nums.one (by rw [hb];unfold numc dig;omega)).trans (hw h),by omega⟩⟩
      rw [ht,Option.bind_some,if_pos rfl]
    · obtain ⟨e1,ok1,he1,hw1,hle1,hd1⟩:=digits_ev s hn j j0 j1
      obtain ⟨ok,e,he,hle,hie,hw,hb1⟩:=num_j0 s hn (!ok1) e1 (by have:=hw1.1;omega) hle1
      refine ⟨ok,e,Ev.congr (f:=fun k=>(rD.f k s j).bind fun t2=>rN.j0 k (!t2.1) t2.2.1 t2.2.2) (fun k=>?_) (Ev.bind he1 he),hle,by have:=hw1.1;omega,fun h=>⟨hw1.trans (hw h),?_⟩⟩
      · rw [ht,Option.bind_some,if_neg (by simp)]
      · cases ok1 with
        | false=>rw [hb1 rfl] at h;cases h
        | true=>have:=(hd1 rfl).1;omega
  rcases take_any s i 45 h0 hn (by decide) with ⟨hb,hlt,ht⟩|⟨hb,ht⟩
  · obtain ⟨ok,e,he,hle,hie,hw⟩:=main (i+1) om om
    refine ⟨ok,e,Ev.congr (fun k=>?_) he,hle,by omega,fun h=>⟨(Nums.one (by rw [hb];unfold numc dig;omega)).trans (hw h).1,by omega⟩⟩
    unfold rN.f
    rw [ht,Option.bind_some]
  · obtain ⟨ok,e,he,hle,hie,hw⟩:=main i h0 h1
    refine ⟨ok,e,Ev.congr (fun k=>?_) he,hle,hie,hw⟩
    unfold rN.f
    rw [ht,Option.bind_some]
end Go.Proofs.Ytbkgoccnegjdhaa.U

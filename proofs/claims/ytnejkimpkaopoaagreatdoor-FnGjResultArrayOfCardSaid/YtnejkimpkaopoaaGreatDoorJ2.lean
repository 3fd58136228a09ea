/- The reference's reader in plain words: blanks, single bytes, digits, numbers (with what reads a number's bytes again, in any text). -/
import Derived.Test.YtnejkimpkaopoaaGreatDoorHa
import Derived.Test.YtnejkimpkaopoaaGreatDoorEb
section
namespace Go.Proofs.YtnejkimpkaopoaaGreatDoor.U
open RowKit YtnejkimpkaopoaaGreatDoorW.PrintWords YtnejkimpkaopoaaGreatDoor.Q
set_option linter.unusedVariables false
set_option linter.unusedSimpArgs false
theorem wr {i:Int} (h0 : -9223372036854775808≤i) (h:i≤9223372036854775807):wrap64 i=i:=by unfold wrap64;omega
def blank (c:Int):Prop:=c=32∨c=9∨c=10∨c=13
instance (c:Int):Decidable (blank c):=by unfold blank;infer_instance
def Ws (s:ByteArray) (i j:Int):Prop:=i≤j ∧ ∀ q,i≤q→q<j→blank (bt s q)
theorem Ws.refl (s:ByteArray) (i:Int):Ws s i i:=⟨by omega,fun q h1 h2=>by omega⟩
theorem Ws.cons {s:ByteArray} {i j:Int} (h:blank (bt s i)) (w:Ws s (i+1) j):Ws s i j :=
  ⟨by have:=w.1;omega,fun q h1 h2=>by
    by_cases e:q=i
    · subst e;exact h
    · exact w.2 q (by omega) h2⟩
theorem Ev.const {α:Type} (r:α) {g:Nat→Option α} (h : ∀ k,g (k+1)=some r):Ev g r:=Ev.step (f:=fun _=>some r) h (Ev.now r)
theorem Blank_yes {c:Int} (h:blank c):sB.f c=some true:=by
 unfold sB.f
 rcases h with h|h|h|h <;> subst h <;> decide
theorem Blank_no {c:Int} (h : ¬ blank c):sB.f c=some false:=by
 unfold blank at h
 unfold sB.f
 rw [if_neg (by omega),if_neg (by omega),if_neg (by omega)]
 simp;omega
theorem bt_out {s:ByteArray} {i:Int} (h:(s.size:Int)≤i):bt s i=0:=by
 unfold bt
 rw [dif_neg (by omega)]
theorem blanks_ev (s:ByteArray) (hn:s.size≤4611686018427387904) (d:Nat) : ∀ i:Int,0≤i→i≤s.size→(s.size:Int) - i=d →
 ∃ e,Ev (fun k=>rB.f k s i) (s,e)∧Ws s i e∧e≤s.size ∧ ¬ blank (bt s e):=by
 induction d with
 | zero =>
  intro i h0 h1 hd
  refine ⟨i,Ev.const _ fun k=>?_,Ws.refl _ _,h1,?_⟩
  ·
   unfold rB.f
   simp only [rB.l0]
   rw [if_neg (by omega)]
  rw [bt_out (by omega)]
  unfold blank;omega
 | succ d ih =>
  intro i h0 h1 hd
  by_cases hb:blank (bt s i)
  ·
   obtain ⟨e,he,hw,hle,hnb⟩:=ih (i+1) (by omega) (by omega) (by omega)
   refine ⟨e,Ev.step (fun k=>?_) he,Ws.cons hb hw,hle,hnb⟩
   show rB.f (k+1) s i=_
   unfold rB.f
   simp only [rB.l0]
   rw [if_pos (by omega),if_pos h0,Blank_yes hb,Option.bind_some,if_pos rfl,wr (by omega) (by omega)]
  refine ⟨i,Ev.const _ fun k=>?_,Ws.refl _ _,h1,hb⟩
  unfold rB.f
  simp only [rB.l0]
  rw [if_pos (by omega),if_pos h0,Blank_no hb,Option.bind_some,if_neg (by decide)]
theorem here_in {s:ByteArray} {i:Int} (h0:0≤i):rH.f s i=some (bt s i,s,i):=by
 unfold rH.f
 by_cases h:i<(s.size:Int)
 ·
  rw [if_pos h,if_pos h0]
 rw [if_neg h,bt_out (by omega)]
theorem take_yes {s:ByteArray} {i c:Int} (h0:0≤i) (hn:s.size≤4611686018427387904) (hc:c≠0) (h:bt s i=c):i<(s.size:Int)∧rT.f s i c=some (true,s,i+1):=by
 have hi:i<(s.size:Int):=by
  apply Int.lt_of_not_ge
  intro hh
  rw [bt_out hh] at h
  exact hc h.symm
 refine ⟨hi,?_⟩
 unfold rT.f
 rw [if_pos hi,if_pos h0,if_pos h,wr (by omega) (by omega)]
theorem take_no {s:ByteArray} {i c:Int} (h0:0≤i) (h:bt s i≠c):rT.f s i c=some (false,s,i):=by
 unfold rT.f
 by_cases hi:i<(s.size:Int)
 ·
  rw [if_pos hi,if_pos h0,if_neg h]
 rw [if_neg hi]
theorem take_any (s:ByteArray) (i c:Int) (h0:0≤i) (hn:s.size≤4611686018427387904) (hc:c≠0) :
 (bt s i=c∧i<(s.size:Int)∧rT.f s i c=some (true,s,i+1))∨(bt s i≠c∧rT.f s i c=some (false,s,i)):=by
 by_cases h:bt s i=c
 ·
  exact .inl ⟨h,(take_yes h0 hn hc h).1,(take_yes h0 hn hc h).2⟩
 exact .inr ⟨h,take_no h0 h⟩
def dig (c:Int):Prop:=48≤c∧c≤57
def numc (c:Int):Prop:=dig c∨c=43∨c=45∨c=46∨c=69∨c=101
def Nums (s:ByteArray) (i j:Int):Prop:=i≤j ∧ ∀ q,i≤q→q<j→numc (bt s q)
theorem Nums.refl (s:ByteArray) (i:Int):Nums s i i:=⟨by omega,fun q h1 h2=>by omega⟩
theorem Nums.one {s:ByteArray} {i:Int} (h:numc (bt s i)):Nums s i (i+1):=⟨by omega,fun q h1 h2=>by
  have e:q=i:=by omega
  rw [e];exact h⟩
theorem Nums.trans {s:ByteArray} {i j l:Int} (h:Nums s i j) (h':Nums s j l):Nums s i l :=
  ⟨by have:=h.1;have:=h'.1;omega,fun q h1 h2=>by
    by_cases e:q<j
    · exact h.2 q h1 e
    · exact h'.2 q (by omega) h2⟩
/-! ### digits -/
theorem digits_loop (s:ByteArray) (b:Int) (hn:s.size≤4611686018427387904) (d:Nat) : ∀ i:Int,0≤i→i≤s.size→(s.size:Int) - i=d →
 ∃ e,Ev (fun k=>rD.l0 k b (bt s i) s i) (decide (e>b),s,e)∧i≤e∧e≤s.size∧(∀ q,i≤q→q<e→dig (bt s q)) ∧ ¬ dig (bt s e):=by
 induction d with
 | zero =>
  intro i h0 h1 hd
  refine ⟨i,Ev.const _ fun k=>?_,Int.le_refl _,h1,fun q h2 h3=>by omega,?_⟩
  ·
   simp only [rD.l0]
   rw [bt_out (by omega),if_neg (by omega)]
  rw [bt_out (by omega)];unfold dig;omega
 | succ d ih =>
  intro i h0 h1 hd
  by_cases hb:dig (bt s i)
  rotate_left
  ·
   refine ⟨i,Ev.const _ fun k=>?_,Int.le_refl _,h1,fun q h2 h3=>by omega,hb⟩
   simp only [rD.l0]
   by_cases h48:48≤bt s i
   ·
    rw [if_pos h48,if_neg (fun h=>hb ⟨h48,h⟩)]
   rw [if_neg h48]
  obtain ⟨e,he,hie,hle,hq,hst⟩:=ih (i+1) (by omega) (by omega) (by omega)
  refine ⟨e,Ev.step (fun k=>?_) he,by omega,hle,fun q h2 h3=>?_,hst⟩
  ·
   simp only [rD.l0]
   rw [if_pos hb.1,if_pos hb.2,wr (by omega) (by omega),here_in (by omega),Option.bind_some]
  by_cases e':q=i
  ·
   subst e';exact hb
  exact hq q (by omega) h3
theorem digits_ev (s:ByteArray) (hn:s.size≤4611686018427387904) (i:Int) (h0:0≤i) (h1:i≤s.size) :
 ∃ e,Ev (fun k=>rD.f k s i) (decide (e>i),s,e)∧i≤e∧e≤s.size∧(∀ q,i≤q→q<e→dig (bt s q)) ∧ ¬ dig (bt s e):=by
 obtain ⟨e,he,hw⟩:=digits_loop s i hn ((s.size:Int) - i).toNat i h0 h1 (by omega)
 refine ⟨e,Ev.congr (fun k=>?_) he,hw⟩
 unfold rD.f
 rw [here_in h0,Option.bind_some]
theorem digits_back (s:ByteArray) (hn:s.size≤4611686018427387904) (i e:Int) (h0:0≤i) (h1:i≤e) (h2:e≤s.size) (hq : ∀ q,i≤q→q<e→dig (bt s q)) (hst : ¬ dig (bt s e)) :
 Ev (fun k=>rD.f k s i) (decide (e>i),s,e):=by
 obtain ⟨e',he,h3,h4,h5,h6⟩:=digits_ev s hn i h0 (by omega)
 have:e'=e:=by
  rcases Int.lt_trichotomy e' e with h|h|h
  ·
   exact absurd (hq e' h3 h) h6
  ·
   exact h
  exact absurd (h5 e h1 h) hst
 rw [this] at he
 exact he
/-! ### numbers -/
def Stp (s:ByteArray) (e:Int):Prop := ¬ dig (bt s e)∧bt s e≠46∧bt s e≠101∧bt s e≠69
def Cp (s s':ByteArray) (d i e:Int):Prop:=s'.size≤4611686018427387904∧0≤i+d∧e+d≤s'.size ∧ ∀ q,i≤q→q<e→bt s' (q+d)=bt s q
theorem Cp.sub {s s':ByteArray} {d i e j f:Int} (h:Cp s s' d i e) (h1:i≤j) (h2:f≤e):Cp s s' d j f :=
  ⟨h.1,by have:=h.2.1;omega,by have:=h.2.2.1;omega,fun q h3 h4=>h.2.2.2 q (by omega) (by omega)⟩
theorem Cp.no {s s':ByteArray} {d i e c:Int} (h:Cp s s' d i e) (h1:i≤e) (hst:Stp s' (e+d)) (hc:c=46∨c=101∨c=69) (hn:bt s i≠c):bt s' (i+d)≠c:=by
 by_cases h2:i=e
 ·
  subst h2;obtain ⟨-, q1,q2,q3⟩:=hst;rcases hc with rfl|rfl|rfl <;> assumption
 rw [h.2.2.2 i (Int.le_refl _) (by omega)];exact hn
def Sem (g:ByteArray→Int→Nat→Option (Bool × ByteArray × Int)) (s:ByteArray) (i e:Int):Prop := ∀ (s':ByteArray) (d:Int),Cp s s' d i e→Stp s' (e+d)→Ev (g s' (i+d)) (true,s',e+d)
def NumR (g:ByteArray→Int→Nat→Option (Bool × ByteArray × Int)) (s:ByteArray) (i:Int) (P:Bool→Int→Prop):Prop :=
  ∃ ok e,Ev (g s i) (ok,s,e)∧e≤s.size∧i≤e∧(ok=true→Nums s i e∧Sem g s i e)∧P ok e
theorem digs_nums {s:ByteArray} {i e:Int} (h:i≤e) (hq : ∀ q,i≤q→q<e→dig (bt s q)):Nums s i e:=⟨h,fun q h1 h2 => .inl (hq q h1 h2)⟩
theorem digs_sem {s s':ByteArray} {d j e:Int} (h:Cp s s' d j e) (hst:Stp s' (e+d)) (h1:j<e) (hq : ∀ q,j≤q→q<e→dig (bt s q)):Ev (fun k=>rD.f k s' (j+d)) (true,s',e+d):=by
 have hb:=digits_back s' h.1 (j+d) (e+d) h.2.1 (by omega) h.2.2.1 (fun q h2 h3=>by
  have:=h.2.2.2 (q - d) (by omega) (by omega)
  rw [show q - d+d=q by omega] at this
  rw [this];exact hq (q - d) (by omega) (by omega)) hst.1
 rwa [decide_eq_true (by omega)] at hb
theorem add1 (i d:Int):i+d+1=i+1+d:=by omega
theorem num_j2 (s:ByteArray) (hn:s.size≤4611686018427387904) (b:Bool) (i:Int) (h0:0≤i) (h1:i≤s.size):NumR (fun s i k=>rN.j2 k b s i) s i (fun _ _=>True):=by
 cases b with
 | false=>exact ⟨true,i,Ev.const _ fun k=>by simp only [rN.j2];rw [if_neg (by simp)],h1,Int.le_refl _,fun _=>⟨Nums.refl _ _,fun s' d _ _=>Ev.const _ fun k=>by simp only [rN.j2];rw [if_neg (by simp)]⟩,trivial⟩
 | true =>
  rcases take_any s i 43 h0 hn (by decide) with ⟨hb,hlt,ht⟩|⟨hb,ht⟩
  ·
   obtain ⟨e,he,hie,hle,hq,hst⟩:=digits_ev s hn (i+1) (by omega) (by omega)
   refine ⟨decide (e>i+1),e,Ev.step (f:=fun k=>(rD.f k s (i+1)).bind fun t=>some (t.1,t.2.1,t.2.2)) (fun k=>?_) (Ev.bind he (Ev.now _)),hle,by omega,fun h=>⟨(Nums.one (by rw [hb];unfold numc dig;omega)).trans (digs_nums hie hq),fun s' d hc hs=>?_⟩,trivial⟩
   ·
    simp only [rN.j2]
    rw [if_pos (by trivial),ht,Option.bind_some,if_pos rfl]
   have hlt:i+1<e:=by simpa using h
   have ht':=(take_yes (s:=s') (i:=i+d) (c:=43) hc.2.1 hc.1 (by decide) (by rw [hc.2.2.2 i (by omega) (by omega),hb])).2
   rw [add1] at ht'
   refine Ev.step (f:=fun k=>(rD.f k s' (i+1+d)).bind fun t=>some (t.1,t.2.1,t.2.2)) (fun k=>?_) (Ev.bind (digs_sem (hc.sub (by omega) (Int.le_refl _)) hs hlt hq) (Ev.now _))
   simp only [rN.j2]
   rw [if_pos (by trivial),ht',Option.bind_some,if_pos rfl]
  rcases take_any s i 45 h0 hn (by decide) with ⟨hb2,hlt,ht2⟩|⟨hb2,ht2⟩
  ·
   obtain ⟨e,he,hie,hle,hq,hst⟩:=digits_ev s hn (i+1) (by omega) (by omega)
   refine ⟨decide (e>i+1),e,Ev.step (f:=fun k=>(rD.f k s (i+1)).bind fun t=>some (t.1,t.2.1,t.2.2)) (fun k=>?_) (Ev.bind he (Ev.now _)),hle,by omega,fun h=>⟨(Nums.one (by rw [hb2];unfold numc dig;omega)).trans (digs_nums hie hq),fun s' d hc hs=>?_⟩,trivial⟩
   ·
    simp only [rN.j2]
    rw [if_pos (by trivial),ht,Option.bind_some,if_neg (by simp),ht2,Option.bind_some]
   have hlt:i+1<e:=by simpa using h
   have hbb:=hc.2.2.2 i (by omega) (by omega)
   have ht':=(take_yes (s:=s') (i:=i+d) (c:=45) hc.2.1 hc.1 (by decide) (by rw [hbb,hb2])).2
   have htn:=take_no (s:=s') (i:=i+d) (c:=43) hc.2.1 (by rw [hbb];exact hb)
   rw [add1] at ht'
   refine Ev.step (f:=fun k=>(rD.f k s' (i+1+d)).bind fun t=>some (t.1,t.2.1,t.2.2)) (fun k=>?_) (Ev.bind (digs_sem (hc.sub (by omega) (Int.le_refl _)) hs hlt hq) (Ev.now _))
   simp only [rN.j2]
   rw [if_pos (by trivial),htn,Option.bind_some,if_neg (by simp),ht',Option.bind_some]
  obtain ⟨e,he,hie,hle,hq,hst⟩:=digits_ev s hn i h0 h1
  refine ⟨decide (e>i),e,Ev.step (f:=fun k=>(rD.f k s i).bind fun t=>some (t.1,t.2.1,t.2.2)) (fun k=>?_) (Ev.bind he (Ev.now _)),hle,hie,fun h=>⟨digs_nums hie hq,fun s' d hc hs=>?_⟩,trivial⟩
  ·
   simp only [rN.j2]
   rw [if_pos (by trivial),ht,Option.bind_some,if_neg (by simp),ht2,Option.bind_some]
  have hlt:i<e:=by simpa using h
  have hbb:=hc.2.2.2 i (by omega) (by omega)
  have htn:=take_no (s:=s') (i:=i+d) (c:=43) hc.2.1 (by rw [hbb];exact hb)
  have htn2:=take_no (s:=s') (i:=i+d) (c:=45) hc.2.1 (by rw [hbb];exact hb2)
  refine Ev.step (f:=fun k=>(rD.f k s' (i+d)).bind fun t=>some (t.1,t.2.1,t.2.2)) (fun k=>?_) (Ev.bind (digs_sem hc hs hlt hq) (Ev.now _))
  simp only [rN.j2]
  rw [if_pos (by trivial),htn,Option.bind_some,if_neg (by simp),htn2,Option.bind_some]
theorem num_j1 (s:ByteArray) (hn:s.size≤4611686018427387904) (b:Bool) (i:Int) (h0:0≤i) (h1:i≤s.size):NumR (fun s i k=>rN.j1 k b s i) s i (fun ok _=>b=true→ok=false):=by
 cases b with
 | true=>exact ⟨false,i,Ev.const _ fun k=>by simp only [rN.j1];rw [if_pos (by trivial)],h1,Int.le_refl _,(fun h=>by cases h),fun _=>rfl⟩
 | false =>
  rcases take_any s i 101 h0 hn (by decide) with ⟨hb,hlt,ht⟩|⟨hb,ht⟩
  ·
   obtain ⟨ok,e,he,hle,hie,hw,_⟩:=num_j2 s hn true (i+1) (by omega) (by omega)
   refine ⟨ok,e,Ev.step (fun k=>?_) he,hle,by omega,fun h=>⟨(Nums.one (by rw [hb];unfold numc dig;omega)).trans (hw h).1,fun s' d hc hs=>?_⟩,fun h=>by cases h⟩
   ·
    simp only [rN.j1]
    rw [if_neg (by simp),ht,Option.bind_some,if_pos rfl]
   have ht':=(take_yes (s:=s') (i:=i+d) (c:=101) hc.2.1 hc.1 (by decide) (by rw [hc.2.2.2 i (by omega) (by omega),hb])).2
   rw [add1] at ht'
   refine Ev.step (fun k=>?_) ((hw h).2 s' d (hc.sub (by omega) (Int.le_refl _)) hs)
   simp only [rN.j1]
   rw [if_neg (by simp),ht',Option.bind_some,if_pos rfl]
  rcases take_any s i 69 h0 hn (by decide) with ⟨hb2,hlt,ht2⟩|⟨hb2,ht2⟩
  ·
   obtain ⟨ok,e,he,hle,hie,hw,_⟩:=num_j2 s hn true (i+1) (by omega) (by omega)
   refine ⟨ok,e,Ev.step (fun k=>?_) he,hle,by omega,fun h=>⟨(Nums.one (by rw [hb2];unfold numc dig;omega)).trans (hw h).1,fun s' d hc hs=>?_⟩,fun h=>by cases h⟩
   ·
    simp only [rN.j1]
    rw [if_neg (by simp),ht,Option.bind_some,if_neg (by simp),ht2,Option.bind_some]
   have hbb:=hc.2.2.2 i (by omega) (by omega)
   have ht':=(take_yes (s:=s') (i:=i+d) (c:=69) hc.2.1 hc.1 (by decide) (by rw [hbb,hb2])).2
   have htn:=take_no (s:=s') (i:=i+d) (c:=101) hc.2.1 (by rw [hbb];exact hb)
   rw [add1] at ht'
   refine Ev.step (fun k=>?_) ((hw h).2 s' d (hc.sub (by omega) (Int.le_refl _)) hs)
   simp only [rN.j1]
   rw [if_neg (by simp),htn,Option.bind_some,if_neg (by simp),ht',Option.bind_some]
  obtain ⟨ok,e,he,hle,hie,hw,_⟩:=num_j2 s hn false i h0 h1
  refine ⟨ok,e,Ev.step (fun k=>?_) he,hle,hie,fun h=>⟨(hw h).1,fun s' d hc hs=>?_⟩,fun h=>by cases h⟩
  ·
   simp only [rN.j1]
   rw [if_neg (by simp),ht,Option.bind_some,if_neg (by simp),ht2,Option.bind_some]
  have htn:=take_no (s:=s') (i:=i+d) (c:=101) hc.2.1 (hc.no hie hs (by omega) hb)
  have htn2:=take_no (s:=s') (i:=i+d) (c:=69) hc.2.1 (hc.no hie hs (by omega) hb2)
  refine Ev.step (fun k=>?_) ((hw h).2 s' d hc hs)
  simp only [rN.j1]
  rw [if_neg (by simp),htn,Option.bind_some,if_neg (by simp),htn2,Option.bind_some]
theorem num_j0 (s:ByteArray) (hn:s.size≤4611686018427387904) (b:Bool) (i:Int) (h0:0≤i) (h1:i≤s.size):NumR (fun s i k=>rN.j0 k b s i) s i (fun ok _=>b=true→ok=false):=by
 cases b with
 | true=>exact ⟨false,i,Ev.const _ fun k=>by simp only [rN.j0];rw [if_pos (by trivial)],h1,Int.le_refl _,(fun h=>by cases h),fun _=>rfl⟩
 | false =>
  rcases take_any s i 46 h0 hn (by decide) with ⟨hb,hlt,ht⟩|⟨hb,ht⟩
  ·
   obtain ⟨e1,he1,hie1,hle1,hq1,hst1⟩:=digits_ev s hn (i+1) (by omega) (by omega)
   obtain ⟨ok,e,he,hle,hie,hw,hf⟩:=num_j1 s hn (!decide (e1>i+1)) e1 (by omega) hle1
   refine ⟨ok,e,Ev.step (f:=fun k=>(rD.f k s (i+1)).bind fun t=>rN.j1 k (!t.1) t.2.1 t.2.2) (fun k=>?_) (Ev.bind he1 he),hle,by omega,fun h=>⟨((Nums.one (by rw [hb];unfold numc dig;omega)).trans (digs_nums hie1 hq1)).trans (hw h).1,fun s' d hc hs=>?_⟩,fun h=>by cases h⟩
   ·
    simp only [rN.j0]
    rw [if_neg (by simp),ht,Option.bind_some,if_pos rfl]
   have hlt1:i+1<e1:=by
    apply Int.lt_of_not_ge
    intro hh
    have:=hf (by simp;omega)
    rw [h] at this;cases this
   have ht':=(take_yes (s:=s') (i:=i+d) (c:=46) hc.2.1 hc.1 (by decide) (by rw [hc.2.2.2 i (by omega) (by omega),hb])).2
   rw [add1] at ht'
   have hs1 : ¬ dig (bt s' (e1+d)):=by
    by_cases h2:e1=e
    ·
     rw [h2];exact hs.1
    rw [hc.2.2.2 e1 (by omega) (by omega)];exact hst1
   have hd1:=digits_back s' hc.1 (i+1+d) (e1+d) (by have:=hc.2.1;omega) (by omega) (by have:=hc.2.2.1;omega) (fun q h2 h3=>by
    have:=hc.2.2.2 (q - d) (by omega) (by omega)
    rw [show q - d+d=q by omega] at this
    rw [this];exact hq1 (q - d) (by omega) (by omega)) hs1
   have e3:decide (e1+d>i+1+d)=decide (e1>i+1):=by rw [decide_eq_true (by omega),decide_eq_true (by omega)]
   rw [e3] at hd1
   refine Ev.step (f:=fun k=>(rD.f k s' (i+1+d)).bind fun t=>rN.j1 k (!t.1) t.2.1 t.2.2) (fun k=>?_) (Ev.bind hd1 ((hw h).2 s' d (hc.sub (by omega) (Int.le_refl _)) hs))
   simp only [rN.j0]
   rw [if_neg (by simp),ht',Option.bind_some,if_pos rfl]
  obtain ⟨ok,e,he,hle,hie,hw,_⟩:=num_j1 s hn false i h0 h1
  refine ⟨ok,e,Ev.step (fun k=>?_) he,hle,hie,fun h=>⟨(hw h).1,fun s' d hc hs=>?_⟩,fun h=>by cases h⟩
  ·
   simp only [rN.j0]
   rw [if_neg (by simp),ht,Option.bind_some,if_neg (by simp)]
  have htn:=take_no (s:=s') (i:=i+d) (c:=46) hc.2.1 (hc.no hie hs (by omega) hb)
  refine Ev.step (fun k=>?_) ((hw h).2 s' d hc hs)
  simp only [rN.j0]
  rw [if_neg (by simp),htn,Option.bind_some,if_neg (by simp)]
def numG (s:ByteArray) (j:Int) (k:Nat):Option (Bool × ByteArray × Int):=(rT.f s j 48).bind fun t=>if t.1=true then rN.j0 k false t.2.1 t.2.2 else (rD.f k t.2.1 t.2.2).bind fun t2=>rN.j0 k (!t2.1) t2.2.1 t2.2.2
theorem num_g (s:ByteArray) (hn:s.size≤4611686018427387904) (j:Int) (j0:0≤j) (j1:j≤s.size):NumR numG s j (fun ok e=>ok=true→j<e∧dig (bt s j)):=by
 rcases take_any s j 48 j0 hn (by decide) with ⟨hb,hlt,ht⟩|⟨hb,ht⟩
 ·
  obtain ⟨ok,e,he,hle,hie,hw,_⟩:=num_j0 s hn false (j+1) (by omega) (by omega)
  refine ⟨ok,e,Ev.congr (fun k=>?_) he,hle,by omega,fun h=>⟨(Nums.one (by rw [hb];unfold numc dig;omega)).trans (hw h).1,fun s' d hc hs=>?_⟩,fun h=>⟨by omega,by rw [hb];unfold dig;omega⟩⟩
  ·
   unfold numG;rw [ht,Option.bind_some,if_pos rfl]
  have ht':=(take_yes (s:=s') (i:=j+d) (c:=48) hc.2.1 hc.1 (by decide) (by rw [hc.2.2.2 j (by omega) (by omega),hb])).2
  rw [add1] at ht'
  refine Ev.congr (fun k=>?_) ((hw h).2 s' d (hc.sub (by omega) (Int.le_refl _)) hs)
  unfold numG;rw [ht',Option.bind_some,if_pos rfl]
 obtain ⟨e1,he1,hie1,hle1,hq1,hst1⟩:=digits_ev s hn j j0 j1
 obtain ⟨ok,e,he,hle,hie,hw,hb1⟩:=num_j0 s hn (!decide (e1>j)) e1 (by omega) hle1
 have hpos:ok=true→j<e1:=fun h=>by
  apply Int.lt_of_not_ge
  intro hh
  have:=hb1 (by simp;omega)
  rw [h] at this;cases this
 refine ⟨ok,e,Ev.congr (f:=fun k=>(rD.f k s j).bind fun t2=>rN.j0 k (!t2.1) t2.2.1 t2.2.2) (fun k=>?_) (Ev.bind he1 he),hle,by omega,fun h=>⟨(digs_nums hie1 hq1).trans (hw h).1,fun s' d hc hs=>?_⟩,fun h=>⟨by have:=hpos h;omega,hq1 j (Int.le_refl _) (hpos h)⟩⟩
 ·
  unfold numG;rw [ht,Option.bind_some,if_neg (by simp)]
 have hlt1:=hpos h
 have htn:=take_no (s:=s') (i:=j+d) (c:=48) hc.2.1 (by rw [hc.2.2.2 j (by omega) (by omega)];exact hb)
 have hs1 : ¬ dig (bt s' (e1+d)):=by
  by_cases h2:e1=e
  ·
   rw [h2];exact hs.1
  rw [hc.2.2.2 e1 (by omega) (by omega)];exact hst1
 have hd1:=digits_back s' hc.1 (j+d) (e1+d) hc.2.1 (by omega) (by have:=hc.2.2.1;omega) (fun q h2 h3=>by
  have:=hc.2.2.2 (q - d) (by omega) (by omega)
  rw [show q - d+d=q by omega] at this
  rw [this];exact hq1 (q - d) (by omega) (by omega)) hs1
 have e3:decide (e1+d>j+d)=decide (e1>j):=by rw [decide_eq_true (by omega),decide_eq_true (by omega)]
 rw [e3] at hd1
 refine Ev.congr (f:=fun k=>(rD.f k s' (j+d)).bind fun t2=>rN.j0 k (!t2.1) t2.2.1 t2.2.2) (fun k=>?_) (Ev.bind hd1 ((hw h).2 s' d (hc.sub (by omega) (Int.le_refl _)) hs))
 unfold numG;rw [htn,Option.bind_some,if_neg (by simp)]
theorem number_ev (s:ByteArray) (hn:s.size≤4611686018427387904) (i:Int) (h0:0≤i) (h1:i≤s.size) :
 NumR (fun s i k=>rN.f k s i) s i (fun ok e=>ok=true→i<e∧(dig (bt s i)∨(bt s i=45∧i+1<e∧dig (bt s (i+1))))):=by
 rcases take_any s i 45 h0 hn (by decide) with ⟨hb,hlt,ht⟩|⟨hb,ht⟩
 ·
  obtain ⟨ok,e,he,hle,hie,hw,hd⟩:=num_g s hn (i+1) (by omega) (by omega)
  refine ⟨ok,e,Ev.congr (fun k=>?_) he,hle,by omega,fun h=>⟨(Nums.one (by rw [hb];unfold numc dig;omega)).trans (hw h).1,fun s' d hc hs=>?_⟩,fun h=>⟨by omega, .inr ⟨hb,(hd h).1,(hd h).2⟩⟩⟩
  ·
   show rN.f k s i=_
   unfold rN.f numG
   rw [ht,Option.bind_some]
  have ht':=(take_yes (s:=s') (i:=i+d) (c:=45) hc.2.1 hc.1 (by decide) (by rw [hc.2.2.2 i (by omega) (by omega),hb])).2
  rw [add1] at ht'
  refine Ev.congr (fun k=>?_) ((hw h).2 s' d (hc.sub (by omega) (Int.le_refl _)) hs)
  show rN.f k s' (i+d)=_
  unfold rN.f numG
  rw [ht',Option.bind_some]
 obtain ⟨ok,e,he,hle,hie,hw,hd⟩:=num_g s hn i h0 h1
 refine ⟨ok,e,Ev.congr (fun k=>?_) he,hle,hie,fun h=>⟨(hw h).1,fun s' d hc hs=>?_⟩,fun h=>⟨(hd h).1, .inl (hd h).2⟩⟩
 ·
  show rN.f k s i=_
  unfold rN.f numG
  rw [ht,Option.bind_some]
 have htn:=take_no (s:=s') (i:=i+d) (c:=45) hc.2.1 (by rw [hc.2.2.2 i (by omega) (by have:=(hd h).1;omega)];exact hb)
 refine Ev.congr (fun k=>?_) ((hw h).2 s' d hc hs)
 show rN.f k s' (i+d)=_
 unfold rN.f numG
 rw [htn,Option.bind_some]
theorem blanks_back (s:ByteArray) (hn:s.size≤4611686018427387904) (i e:Int) (h0:0≤i) (h:Ws s i e) (h2:e≤s.size) (hst : ¬ blank (bt s e)):Ev (fun k=>rB.f k s i) (s,e):=by
 obtain ⟨e',he,hw,hle,hnb⟩:=blanks_ev s hn ((s.size:Int) - i).toNat i h0 (by have:=h.1;omega) (by have:=h.1;omega)
 have:e'=e:=by
  rcases Int.lt_trichotomy e' e with h'|h'|h'
  ·
   exact absurd (h.2 e' hw.1 h') hnb
  ·
   exact h'
  exact absurd (hw.2 e h.1 h') hst
 rw [this] at he
 exact he
end Go.Proofs.YtnejkimpkaopoaaGreatDoor.U
end
section
/- A JSON text as a tree, strictly: what stands where in a list of bytes. -/
namespace Go.Proofs.YtnejkimpkaopoaaGreatDoor.U
open RowKit YtnejkimpkaopoaaGreatDoorW.PrintWords YtnejkimpkaopoaaGreatDoor.Q
set_option linter.unusedVariables false
set_option linter.unusedSimpArgs false
mutual
inductive T where
  | leaf (kd:Int) (b:List Int)
  | arr (k:TL)
  | obj (m:TM)
inductive TL where
  | nil
  | cons (t:T) (k:TL)
inductive TM where
  | nil
  | cons (n:List Int) (t:T) (m:TM)
end
def At (l:List Int):Int→List Int→Prop
  | i,[]=>0≤i∧i≤l.length
  | i,c :: b=>0≤i∧i<l.length∧rd l i=c∧At l (i+1) b
theorem At.bound {l:List Int} : ∀ {b:List Int} {i:Int}, At l i b→0≤i∧i+b.length≤l.length
  | [],i,h=>⟨h.1,by have:=h.2;simp;omega⟩
  | c :: b,i,h=>by have:=At.bound h.2.2.2;simp only [List.length_cons];refine ⟨h.1,?_⟩;push_cast;omega
theorem At.append {l:List Int} {b:List Int} : ∀ {a:List Int} {i:Int}, At l i (a++b) ↔ At l i a∧At l (i+a.length) b
  | [],i=>by
    simp only [List.nil_append,List.length_nil,At]
    constructor
    · intro h;have:=h.bound;refine ⟨by omega,by simpa using h⟩
    · intro h;simpa using h.2
  | c :: a,i=>by
    simp only [List.cons_append,At,List.length_cons]
    have ih:=At.append (l:=l) (b:=b) (a:=a) (i:=i+1)
    have e:i+((a.length+1:Nat):Int)=i+1+(a.length:Int):=by push_cast;omega
    rw [ih,e]
    constructor
    · rintro ⟨h1,h2,h3,h4,h5⟩;exact ⟨⟨h1,h2,h3,h4⟩,h5⟩
    · rintro ⟨⟨h1,h2,h3,h4⟩,h5⟩;exact ⟨h1,h2,h3,h4,h5⟩
theorem At.slice {l:List Int} : ∀ {b:List Int} {i:Int}, At l i b→(l.take (i+b.length).toNat).drop i.toNat=b
  | [],i,h=>by
    have:=h.1;have:=h.2
    simp
  | c :: b,i,h=>by
    obtain ⟨h0,h1,h2,h3⟩:=h
    have ih:=At.slice h3
    simp only [List.length_cons]
    have e1:(i+((b.length+1:Nat):Int))=i+1+(b.length:Int):=by push_cast;omega
    rw [e1]
    have hb:=h3.bound.2
    have e2:(i+1).toNat=i.toNat+1:=by omega
    rw [e2] at ih
    have hlt:i.toNat<(l.take (i+1+(b.length:Int)).toNat).length:=by rw [List.length_take];omega
    rw [List.drop_eq_getElem_cons hlt,ih]
    congr 1
    rw [List.getElem_take]
    unfold rd at h2
    rw [List.getD_eq_getElem?_getD,List.getElem?_eq_getElem (by omega)] at h2
    simpa using h2
theorem At.of_slice {l:List Int} : ∀ {b:List Int} {i:Int}, 0≤i→i+b.length≤l.length→(l.take (i+b.length).toNat).drop i.toNat=b→At l i b
  | [],i,h0,h1,_=>⟨h0,by simpa using h1⟩
  | c :: b,i,h0,h1,h=>by
    simp only [List.length_cons] at h h1
    have e1:(i+((b.length+1:Nat):Int))=i+1+(b.length:Int):=by push_cast;omega
    rw [e1] at h h1
    have hlt:i.toNat<(l.take (i+1+(b.length:Int)).toNat).length:=by rw [List.length_take];omega
    rw [List.drop_eq_getElem_cons hlt] at h
    have h2:=(List.cons.inj h).1
    have h3:=(List.cons.inj h).2
    refine ⟨h0,by omega,?_,At.of_slice (by omega) h1 ?_⟩
    · rw [List.getElem_take] at h2
      unfold rd
      rw [List.getD_eq_getElem?_getD,List.getElem?_eq_getElem (by omega)]
      simpa using h2
    · rw [show (i+1).toNat=i.toNat+1 by omega];exact h3
def simple (c:Int):Prop:=c=34∨c=92∨c=47∨c=98∨c=102∨c=110∨c=114∨c=116
instance (c:Int):Decidable (simple c):=by unfold simple;infer_instance
inductive SB:List Int→Prop
  | nil:SB []
  | plain {c:Int} {r:List Int} : 32≤c→c<256→c≠34→c≠92→SB r→SB (c :: r)
  | esc {x:Int} {r:List Int} : simple x→SB r→SB (92 :: x :: r)
  | uni {a b c d:Int} {r:List Int} : hexB a→hexB b→hexB c→hexB d→SB r→SB (92 :: 117 :: a :: b :: c :: d :: r)
def StrOK (n:List Int):Prop := ∃ B,n=34 :: (B++[34])∧SB B
def NumOK (b:List Int):Prop:=(∀ x ∈ b,numc x)∧(∃ c r,b=c :: r∧(dig c∨(c=45 ∧ ∃ x r',r=x :: r'∧dig x))) ∧
  ∀ (s:ByteArray) (i:Int),s.size≤4611686018427387904→At (bytesOf s) i b→Stp s (i+b.length)→Ev (fun k=>rN.f k s i) (true,s,i+b.length)
def LeafOK (kd:Int) (b:List Int):Prop:=(kd=4∧StrOK b)∨(kd=3∧NumOK b)∨(kd=2∧b=[116,114,117,101])∨(kd=1∧b=[102,97,108,115,101])∨(kd=0∧b=[110,117,108,108])
def Wl (l:List Int) (i j:Int):Prop:=0≤i∧i≤j∧j≤l.length ∧ ∀ q,i≤q→q<j→blank (rd l q)
mutual
def Rd (l:List Int):T→Int→Int→Prop
  | .leaf kd b,i,e=>At l i b∧e=i+b.length∧LeafOK kd b
  | .arr k,i,e=>At l i [91]∧RdF l k (i+1) e
  | .obj m,i,e=>At l i [123]∧RdG l m (i+1) e
def RdF (l:List Int):TL→Int→Int→Prop
  | .nil,i,e => ∃ a,Wl l i a∧At l a [93]∧e=a+1
  | .cons t k,i,e => ∃ a c,Wl l i a∧Rd l t a c∧RdT l k c e
def RdT (l:List Int):TL→Int→Int→Prop
  | .nil,i,e => ∃ a,Wl l i a∧At l a [93]∧e=a+1
  | .cons t k,i,e => ∃ a b c,Wl l i a∧At l a [44]∧Wl l (a+1) b∧Rd l t b c∧RdT l k c e
def RdG (l:List Int):TM→Int→Int→Prop
  | .nil,i,e => ∃ a,Wl l i a∧At l a [125]∧e=a+1
  | .cons n t m,i,e => ∃ a b c d,Wl l i a∧At l a n∧StrOK n∧Wl l (a+n.length) b∧At l b [58]∧Wl l (b+1) c∧Rd l t c d∧RdM l m d e
def RdM (l:List Int):TM→Int→Int→Prop
  | .nil,i,e => ∃ a,Wl l i a∧At l a [125]∧e=a+1
  | .cons n t m,i,e => ∃ z a b c d,Wl l i z∧At l z [44]∧Wl l (z+1) a∧At l a n∧StrOK n∧Wl l (a+n.length) b∧At l b [58]∧Wl l (b+1) c∧Rd l t c d∧RdM l m d e
end
mutual
def T.sz:T→Nat
  | .leaf _ b=>b.length
  | .arr k=>1+k.sz
  | .obj m=>1+m.sz
def TL.sz:TL→Nat
  | .nil=>0
  | .cons t k=>1+t.sz+k.sz
def TM.sz:TM→Nat
  | .nil=>0
  | .cons n t m=>n.length+2+t.sz+m.sz
end
mutual
theorem T.sz_le {l:List Int} : ∀ (t:T) {i e:Int}, Rd l t i e→0≤i∧i+t.sz≤e∧e≤l.length
  | .leaf _ b,i,e,h=>by simp only [Rd] at h;have:=h.1.bound;simp only [T.sz];omega
  | .arr k,i,e,h=>by
    simp only [Rd] at h;have:=h.1.bound;have:=TL.szF_le k h.2;simp only [T.sz];omega
  | .obj m,i,e,h=>by
    simp only [Rd] at h;have:=h.1.bound;have:=TM.szF_le m h.2;simp only [T.sz];omega
theorem TL.szF_le {l:List Int} : ∀ (k:TL) {i e:Int}, RdF l k i e→i+k.sz≤e∧e≤l.length
  | .nil,i,e,h=>by
    simp only [RdF] at h;obtain ⟨a,hw,ha,he⟩:=h;have:=ha.bound;have:=hw.2.1;simp only [TL.sz,List.length_cons,List.length_nil] at *; omega
  | .cons t k,i,e,h=>by
    simp only [RdF] at h;obtain ⟨a,c,hw,ht,hk⟩:=h
    have:=T.sz_le t ht;have:=TL.szT_le k hk;have:=hw.2.1;simp only [TL.sz];omega
theorem TL.szT_le {l:List Int} : ∀ (k:TL) {i e:Int}, RdT l k i e→i+k.sz+1≤e∧e≤l.length
  | .nil,i,e,h=>by
    simp only [RdT] at h;obtain ⟨a,hw,ha,he⟩:=h;have:=ha.bound;have:=hw.2.1;simp only [TL.sz,List.length_cons,List.length_nil] at *; omega
  | .cons t k,i,e,h=>by
    simp only [RdT] at h;obtain ⟨a,b,c,hw,ha,hw2,ht,hk⟩:=h
    have:=T.sz_le t ht;have:=TL.szT_le k hk;have:=hw.2.1;have:=hw2.2.1;simp only [TL.sz];omega
theorem TM.szF_le {l:List Int} : ∀ (m:TM) {i e:Int}, RdG l m i e→i+m.sz≤e∧e≤l.length
  | .nil,i,e,h=>by
    simp only [RdG] at h;obtain ⟨a,hw,ha,he⟩:=h;have:=ha.bound;have:=hw.2.1;simp only [TM.sz,List.length_cons,List.length_nil] at *; omega
  | .cons n t m,i,e,h=>by
    simp only [RdG] at h;obtain ⟨a,b,c,d,hw,hn,_,hw2,hb,hw3,ht,hm⟩:=h
    have:=T.sz_le t ht;have:=TM.szT_le m hm;have:=hw.2.1;have:=hw2.2.1;have:=hw3.2.1;simp only [TM.sz];push_cast;omega
theorem TM.szT_le {l:List Int} : ∀ (m:TM) {i e:Int}, RdM l m i e→i+m.sz+1≤e∧e≤l.length
  | .nil,i,e,h=>by
    simp only [RdM] at h;obtain ⟨a,hw,ha,he⟩:=h;have:=ha.bound;have:=hw.2.1;simp only [TM.sz,List.length_cons,List.length_nil] at *; omega
  | .cons n t m,i,e,h=>by
    simp only [RdM] at h;obtain ⟨z,a,b,c,d,hw0,hz,hw,hn,_,hw2,hb,hw3,ht,hm⟩:=h
    have:=T.sz_le t ht;have:=TM.szT_le m hm;have:=hw0.2.1;have:=hw.2.1;have:=hw2.2.1;have:=hw3.2.1;simp only [TM.sz];push_cast;omega
end
def sl (s:ByteArray) (i e:Int):List Int:=((bytesOf s).take e.toNat).drop i.toNat
theorem sl_len {s:ByteArray} {i e:Int} (h0:0≤i) (h1:i≤e) (h2:e≤s.size):((sl s i e).length:Int)=e - i:=by
 unfold sl
 rw [List.length_drop,List.length_take,bytesOf_length];omega
theorem sl_nil {s:ByteArray} {i:Int} : sl s i i=[]:=by
 unfold sl
 apply List.drop_eq_nil_of_le
 rw [List.length_take];omega
theorem sl_cons {s:ByteArray} {i e:Int} (h0:0≤i) (h1:i<e) (h2:e≤s.size):sl s i e=bt s i :: sl s (i+1) e:=by
 have hb:=bytesOf_length s
 unfold sl
 have hlt:i.toNat<((bytesOf s).take e.toNat).length:=by rw [List.length_take,hb];omega
 rw [List.drop_eq_getElem_cons hlt,show (i+1).toNat=i.toNat+1 by omega]
 congr 1
 rw [List.getElem_take, ← rd_bytesOf]
 unfold rd
 rw [List.getD_eq_getElem?_getD,List.getElem?_eq_getElem (by omega)]
 simp
theorem sl_at {s:ByteArray} {i e:Int} (h0:0≤i) (h1:i≤e) (h2:e≤s.size):At (bytesOf s) i (sl s i e):=by
 have hl:=sl_len h0 h1 h2
 refine At.of_slice h0 (by rw [hl,bytesOf_length];omega) ?_
 rw [hl,show i+(e - i)=e by omega];rfl
theorem bt_in {s:ByteArray} {i:Int} (h:bt s i≠0):i<(s.size:Int):=by
 apply Int.lt_of_not_ge
 intro hh
 exact h (bt_out hh)
theorem at_bt {s:ByteArray} : ∀ {b:List Int} {i:Int}, At (bytesOf s) i b → ∀ q:Nat,q<b.length→bt s (i+q)=b.getD q 0
  | [],i,h,q,hq=>by simp at hq
  | c :: b,i,h,0,hq=>by rw [← rd_bytesOf];simpa using h.2.2.1
  | c :: b,i,h,q+1,hq=>by
    have:=at_bt h.2.2.2 q (by simpa using hq)
    rw [show i+((q+1:Nat):Int)=i+1+(q:Int) by omega,this]
    rfl
theorem at_head {s:ByteArray} {c:Int} {b:List Int} {i:Int} (h:At (bytesOf s) i (c :: b)):bt s i=c:=by rw [← rd_bytesOf];exact h.2.2.1
theorem sl_get {s:ByteArray} (d:Nat) : ∀ {i e:Int}, 0≤i→e - i=d→e≤s.size → ∀ q:Nat,(q:Int)<e - i→(sl s i e).getD q 0=bt s (i+q):=by
 induction d with
 | zero=>intro i e h0 hd h1 q hq;omega
 | succ d ih =>
  intro i e h0 hd h1 q hq
  rw [sl_cons h0 (by omega) h1]
  cases q with
  | zero=>simp
  | succ q =>
   have:=ih (i:=i+1) (e:=e) (by omega) (by omega) h1 q (by omega)
   rw [show i+((q+1:Nat):Int)=i+1+(q:Int) by omega, ← this]
   rfl
theorem at_cp {s s':ByteArray} {i e i':Int} (hs:s'.size≤4611686018427387904) (h0:0≤i) (h1:i≤e) (h2:e≤s.size) (h:At (bytesOf s') i' (sl s i e)):Cp s s' (i' - i) i e:=by
 have hb:=h.bound
 have hl:=sl_len h0 h1 h2
 rw [bytesOf_length,hl] at hb
 refine ⟨hs,by omega,by omega,fun q h3 h4=>?_⟩
 have h5:=at_bt h (q - i).toNat (by omega)
 rw [sl_get (e - i).toNat h0 (by omega) h2 (q - i).toNat (by omega)] at h5
 rw [show i'+(((q - i).toNat:Nat):Int)=q+(i' - i) by omega,show i+(((q - i).toNat:Nat):Int)=q by omega] at h5
 exact h5
theorem mem_sl {s:ByteArray} (d:Nat) : ∀ {i e:Int}, 0≤i→e - i=d→e≤s.size → ∀ x ∈ sl s i e, ∃ q,i≤q∧q<e∧x=bt s q:=by
 induction d with
 | zero=>intro i e h0 hd h1 x hx;rw [show i=e by omega,sl_nil] at hx;cases hx
 | succ d ih =>
  intro i e h0 hd h1 x hx
  rw [sl_cons h0 (by omega) h1] at hx
  rcases List.mem_cons.mp hx with h|h
  ·
   exact ⟨i,Int.le_refl _,by omega,h⟩
  obtain ⟨q,h2,h3,h4⟩:=ih (by omega) (by omega) h1 x h
  exact ⟨q,by omega,h3,h4⟩
theorem num_leaf {s:ByteArray} {i e:Int} (h0:0≤i) (h1:i<e) (h2:e≤s.size) (hn:Nums s i e) (hd:dig (bt s i)∨(bt s i=45∧i+1<e∧dig (bt s (i+1)))) (hsem:Sem (fun s i k=>rN.f k s i) s i e):NumOK (sl s i e):=by
 refine ⟨fun x hx=>?_,⟨bt s i,sl s (i+1) e,sl_cons h0 h1 h2,?_⟩,fun s' i' hs h hst=>?_⟩
 ·
  obtain ⟨q,h3,h4,h5⟩:=mem_sl (e - i).toNat (by omega) (by omega) h2 x hx
  rw [h5];exact hn.2 q h3 h4
 ·
  rcases hd with hd|⟨h45,hlt,hd⟩
  ·
   exact .inl hd
  exact .inr ⟨h45,_,_,sl_cons (by omega) hlt h2,hd⟩
 have hl:=sl_len h0 (by omega) h2
 rw [hl] at hst ⊢
 have:=hsem s' (i' - i) (at_cp hs h0 (by omega) h2 h) (by rw [show e+(i' - i)=i'+(e - i) by omega];exact hst)
 rw [show i+(i' - i)=i' by omega,show e+(i' - i)=i'+(e - i) by omega] at this
 exact this
end Go.Proofs.YtnejkimpkaopoaaGreatDoor.U
end

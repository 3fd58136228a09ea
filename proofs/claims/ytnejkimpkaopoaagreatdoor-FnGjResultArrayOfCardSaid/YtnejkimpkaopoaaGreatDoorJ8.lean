/- A tree that stands in a text stands in its parts. -/
import Derived.Test.YtnejkimpkaopoaaGreatDoorJ5
import Derived.Test.YtnejkimpkaopoaaGreatDoorQ13
import Derived.Test.YtnejkimpkaopoaaGreatDoorQ11
import Derived.Test.YtnejkimpkaopoaaGreatDoorEa
section
namespace Go.Proofs.YtnejkimpkaopoaaGreatDoor.U
open RowKit YtnejkimpkaopoaaGreatDoorW.PrintWords YtnejkimpkaopoaaGreatDoor.Q
set_option linter.unusedVariables false
set_option linter.unusedSimpArgs false
def Sh (l l':List Int) (D E:Int):Prop:=0≤D∧E - D≤l'.length ∧ ∀ q,D≤q→q<E→rd l' (q - D)=rd l q
variable {l l':List Int} {D E:Int}
theorem At.shift (hs:Sh l l' D E) : ∀ {b:List Int} {i:Int}, At l i b→D≤i→i+b.length≤E→At l' (i - D) b
  | [],i,h,h1,h2=>⟨by omega,by have:=hs.2.1;simp at h2;omega⟩
  | c :: b,i,h,h1,h2=>by
    simp only [List.length_cons] at h2
    have:=At.shift hs h.2.2.2 (by omega) (by omega)
    refine ⟨by omega,by have:=hs.2.1;omega,by rw [hs.2.2 i h1 (by omega)];exact h.2.2.1,?_⟩
    rw [show i - D+1=i+1 - D by omega];exact this
theorem Wl.shift (hs:Sh l l' D E) {i j:Int} (h:Wl l i j) (h1:D≤i) (h2:j≤E):Wl l' (i - D) (j - D) :=
  ⟨by omega,by have:=h.2.1;omega,by have:=hs.2.1;omega,fun q h3 h4=>by
    have:=hs.2.2 (q+D) (by omega) (by omega)
    rw [show q+D - D=q by omega] at this
    rw [this];exact h.2.2.2 (q+D) (by omega) (by omega)⟩
theorem At.shift1 (hs:Sh l l' D E) {i c:Int} (h:At l i [c]) (h1:D≤i) (h2:i<E):At l' (i - D) [c]:=At.shift hs h h1 (by simp;omega)
theorem Wl.shift1 (hs:Sh l l' D E) {i j:Int} (h:Wl l (i+1) j) (h1:D≤i) (h2:j≤E):Wl l' (i - D+1) (j - D):=by
 have:=Wl.shift hs h (by omega) h2
 rwa [show i+1 - D=i - D+1 by omega] at this
mutual
theorem Rd.shift (hs:Sh l l' D E) : ∀ (t:T) {i e:Int}, Rd l t i e→D≤i→e≤E→Rd l' t (i - D) (e - D)
  | .leaf kd b,i,e,h,h1,h2=>by
    simp only [Rd] at h ⊢
    obtain ⟨ha,rfl,hl⟩:=h
    exact ⟨At.shift hs ha h1 h2,by omega,hl⟩
  | .arr k,i,e,h,h1,h2=>by
    simp only [Rd] at h ⊢
    have h3:=TL.szF_le k h.2
    have h4:=RdF.shift hs k h.2 (by omega) h2
    exact ⟨At.shift1 hs h.1 h1 (by omega),by rwa [show i - D+1=i+1 - D by omega]⟩
  | .obj m,i,e,h,h1,h2=>by
    simp only [Rd] at h ⊢
    have h3:=TM.szF_le m h.2
    have h4:=RdG.shift hs m h.2 (by omega) h2
    exact ⟨At.shift1 hs h.1 h1 (by omega),by rwa [show i - D+1=i+1 - D by omega]⟩
theorem RdF.shift (hs:Sh l l' D E) : ∀ (k:TL) {i e:Int}, RdF l k i e→D≤i→e≤E→RdF l' k (i - D) (e - D)
  | .nil,i,e,h,h1,h2=>by
    simp only [RdF] at h ⊢
    obtain ⟨a,hw,ha,rfl⟩:=h
    have:=hw.2.1
    exact ⟨a - D,hw.shift hs h1 (by omega),ha.shift1 hs (by omega) (by omega),by omega⟩
  | .cons t k,i,e,h,h1,h2=>by
    simp only [RdF] at h ⊢
    obtain ⟨a,c,hw,ht,hk⟩:=h
    have:=hw.2.1;have:=T.sz_le t ht;have:=TL.szT_le k hk
    exact ⟨a - D,c - D,hw.shift hs h1 (by omega),ht.shift hs t (by omega) (by omega),hk.shift hs k (by omega) h2⟩
theorem RdT.shift (hs:Sh l l' D E) : ∀ (k:TL) {i e:Int}, RdT l k i e→D≤i→e≤E→RdT l' k (i - D) (e - D)
  | .nil,i,e,h,h1,h2=>by
    simp only [RdT] at h ⊢
    obtain ⟨a,hw,ha,rfl⟩:=h
    have:=hw.2.1
    exact ⟨a - D,hw.shift hs h1 (by omega),ha.shift1 hs (by omega) (by omega),by omega⟩
  | .cons t k,i,e,h,h1,h2=>by
    simp only [RdT] at h ⊢
    obtain ⟨a,b,c,hw,ha,hw2,ht,hk⟩:=h
    have:=hw.2.1;have:=hw2.2.1;have:=T.sz_le t ht;have:=TL.szT_le k hk
    exact ⟨a - D,b - D,c - D,hw.shift hs h1 (by omega),ha.shift1 hs (by omega) (by omega),hw2.shift1 hs (by omega) (by omega),ht.shift hs t (by omega) (by omega),hk.shift hs k (by omega) h2⟩
theorem RdG.shift (hs:Sh l l' D E) : ∀ (m:TM) {i e:Int}, RdG l m i e→D≤i→e≤E→RdG l' m (i - D) (e - D)
  | .nil,i,e,h,h1,h2=>by
    simp only [RdG] at h ⊢
    obtain ⟨a,hw,ha,rfl⟩:=h
    have:=hw.2.1
    exact ⟨a - D,hw.shift hs h1 (by omega),ha.shift1 hs (by omega) (by omega),by omega⟩
  | .cons n t m,i,e,h,h1,h2=>by
    simp only [RdG] at h ⊢
    obtain ⟨a,b,c,d,hw,hna,hok,hw1,hb,hw2,ht,hm⟩:=h
    have:=hw.2.1;have:=hw1.2.1;have:=hw2.2.1;have:=T.sz_le t ht;have:=TM.szT_le m hm
    refine ⟨a - D,b - D,c - D,d - D,hw.shift hs h1 (by omega),hna.shift hs (by omega) (by omega),hok,?_,hb.shift1 hs (by omega) (by omega),hw2.shift1 hs (by omega) (by omega),ht.shift hs t (by omega) (by omega),hm.shift hs m (by omega) h2⟩
    have:=hw1.shift hs (by omega) (by omega)
    rwa [show a+(n.length:Int) - D=a - D+n.length by omega] at this
theorem RdM.shift (hs:Sh l l' D E) : ∀ (m:TM) {i e:Int}, RdM l m i e→D≤i→e≤E→RdM l' m (i - D) (e - D)
  | .nil,i,e,h,h1,h2=>by
    simp only [RdM] at h ⊢
    obtain ⟨a,hw,ha,rfl⟩:=h
    have:=hw.2.1
    exact ⟨a - D,hw.shift hs h1 (by omega),ha.shift1 hs (by omega) (by omega),by omega⟩
  | .cons n t m,i,e,h,h1,h2=>by
    simp only [RdM] at h ⊢
    obtain ⟨z,a,b,c,d,hw0,hz,hw,hna,hok,hw1,hb,hw2,ht,hm⟩:=h
    have:=hw0.2.1;have:=hw.2.1;have:=hw1.2.1;have:=hw2.2.1;have:=T.sz_le t ht;have:=TM.szT_le m hm
    refine ⟨z - D,a - D,b - D,c - D,d - D,hw0.shift hs h1 (by omega),hz.shift1 hs (by omega) (by omega),hw.shift1 hs (by omega) (by omega),hna.shift hs (by omega) (by omega),hok,?_,hb.shift1 hs (by omega) (by omega),hw2.shift1 hs (by omega) (by omega),ht.shift hs t (by omega) (by omega),hm.shift hs m (by omega) h2⟩
    have:=hw1.shift hs (by omega) (by omega)
    rwa [show a+(n.length:Int) - D=a - D+n.length by omega] at this
end
theorem sh_extract {s:ByteArray} {i e:Nat} (h:i≤e) (he:e≤s.size):Sh (bytesOf s) (bytesOf (s.extract i e)) i e:=by
 refine ⟨by omega,by rw [bytesOf_length,ByteArray.size_extract];omega,fun q h1 h2=>?_⟩
 rw [rd_bytesOf,rd_bytesOf]
 have h3:(q - i).toNat<(s.extract i e).size:=by rw [ByteArray.size_extract];omega
 have h4:q.toNat<s.size:=by omega
 rw [show q - (i:Int)=(((q - i).toNat:Nat):Int) by omega, ← bt_nat h3]
 have e5:bt s q=bt s ((q.toNat:Nat):Int):=by congr 1;omega
 rw [e5, ← bt_nat h4,ByteArray.getElem_extract]
 congr 3
 omega
theorem Rd.own {s:ByteArray} {t:T} {i e:Nat} (h:Rd (bytesOf s) t i e):Rd (bytesOf (s.extract i e)) t 0 (s.extract i e).size:=by
 have hz:=T.sz_le t h
 rw [bytesOf_length] at hz
 have:=h.shift (sh_extract (s:=s) (i:=i) (e:=e) (by omega) (by omega)) t (Int.le_refl _) (Int.le_refl _)
 rw [show ((i:Int) - i)=0 by omega] at this
 rw [ByteArray.size_extract]
 rwa [show ((e:Int) - i)=((min e s.size - i:Nat):Int) by omega] at this
theorem Rd.from {s:ByteArray} {t:T} {i e:Nat} (h:Rd (bytesOf s) t i e):Rd (bytesOf (s.extract i s.size)) t 0 ((e - i:Nat):Int):=by
 have hz:=T.sz_le t h
 rw [bytesOf_length] at hz
 have:=h.shift (sh_extract (s:=s) (i:=i) (e:=s.size) (by omega) (by omega)) t (Int.le_refl _) (by omega)
 rw [show ((i:Int) - i)=0 by omega] at this
 rwa [show ((e:Int) - i)=((e - i:Nat):Int) by omega] at this
end Go.Proofs.YtnejkimpkaopoaaGreatDoor.U
end
section
/- gjson's squash over an array or object, its tolit over a word. -/
namespace Go.Proofs.YtnejkimpkaopoaaGreatDoor.U
open RowKit YtnejkimpkaopoaaGreatDoorW.PrintWords YtnejkimpkaopoaaGreatDoor.Q
set_option linter.unusedVariables false
set_option linter.unusedSimpArgs false
variable {j:ByteArray} {R:ByteArray}
def Bk (j:ByteArray) (q i:Int) (m:Nat):Prop:=q+m<i∧(∀ p,i - m≤p→p<i→bt j p=92)∧bt j (i - m - 1)≠92
theorem Bk.one {q i:Int} (h:q<i) (h92:bt j (i - 1)≠92):Bk j q i 0:=⟨by omega,fun p h1 h2=>by omega,by simpa using h92⟩
theorem Bk.succ {q i:Int} {m:Nat} (h:Bk j q i m) (h92:bt j i=92):Bk j q (i+1) (m+1) :=
  ⟨by have:=h.1;omega,fun p h1 h2=>by
    by_cases e:p=i
    · rw [e];exact h92
    · exact h.2.1 p (by omega) (by omega),by rw [show i+1 - ((m+1:Nat):Int) - 1=i - m - 1 by omega];exact h.2.2⟩
theorem sq_l2 (hj:j.size≤100000) {q i d:Int} {m:Nat} (h0:0≤q) (hi:i<j.size) (hb:Bk j q i (m+1)) (r:Nat) : ∀ c:Nat,c+r=m →
 (m % 2=0→Ev (fun k=>gS.l1 k j (i+1) d (q+1)) R)→(m % 2=1→Ev (fun k=>gS.j5 k j i d) R)→Ev (fun k=>gS.l2 k j i d (q+1) c (i - 2 - c)) R:=by
 have hm:Int.tmod (m:Int) 2=0 ↔ m % 2=0:=by rw [Int.tmod_eq_emod_of_nonneg (by omega)];omega
 have hb1:=hb.1
 induction r with
 | zero =>
  intro c hc he ho
  obtain rfl:c=m:=by omega
  have fin : ∀ k,gS.l2 (k+1) j i d (q+1) c (i - 2 - c)=if Int.tmod (c:Int) 2=0 then gS.l1 k j (wrap64 (i+1)) d (q+1) else gS.j5 k j i d:=fun k=>by
   simp only [gS.l2]
   rw [wr (i:=q+1 - 1) (by omega) (by omega)]
   by_cases h:i - 2 - (c:Int)>q+1 - 1
   ·
    have h92:=hb.2.2
    rw [show i - ((c+1:Nat):Int) - 1=i - 2 - c by omega] at h92
    rw [if_pos h,if_pos (by omega),if_pos (by omega),if_neg h92]
   rw [if_neg h]
  rcases Nat.mod_two_eq_zero_or_one c with h|h
  ·
   refine Ev.step (fun k=>?_) (he h)
   show gS.l2 (k+1) j i d (q+1) c (i - 2 - c)=_
   rw [fin,if_pos (hm.2 h),wr (by omega) (by omega)]
  refine Ev.step (fun k=>?_) (ho h)
  show gS.l2 (k+1) j i d (q+1) c (i - 2 - c)=_
  rw [fin,if_neg (by rw [hm];omega)]
 | succ r ih =>
  intro c hc he ho
  have h92:=hb.2.1 (i - 2 - c) (by omega) (by omega)
  have h:=ih (c+1) (by omega) he ho
  rw [show i - 2 - ((c+1:Nat):Int)=i - 2 - c - 1 by omega] at h
  refine Ev.step (fun k=>?_) h
  show gS.l2 (k+1) j i d (q+1) c (i - 2 - c)=_
  simp only [gS.l2]
  rw [wr (i:=q+1 - 1) (by omega) (by omega),if_pos (by omega),if_pos (by omega),if_pos (by omega),if_pos h92,wr (by omega) (by omega),wr (by omega) (by omega)]
  rfl
theorem l1_skip (hj:j.size≤100000) {i d q:Int} (h0:0≤i) (hi:i<j.size) (h34:bt j i≠34) (h:Ev (fun k=>gS.l1 k j (i+1) d q) R):Ev (fun k=>gS.l1 k j i d q) R:=by
 refine Ev.step (fun k=>?_) h
 show gS.l1 (k+1) j i d q=_
 simp only [gS.l1]
 rw [if_pos hi,if_pos h0,wr (by omega) (by omega)]
 by_cases c:bt j i>92
 ·
  rw [if_pos c]
 rw [if_neg c,if_neg h34]
theorem l1_quote (hj:j.size≤100000) {i d q:Int} {m:Nat} (h0:0≤q) (hi:i<j.size) (h34:bt j i=34) (hb:Bk j q i m)
 (he:m % 2=0→Ev (fun k=>gS.j5 k j i d) R) (ho:m % 2=1→Ev (fun k=>gS.l1 k j (i+1) d (q+1)) R):Ev (fun k=>gS.l1 k j i d (q+1)) R:=by
 have hb1:=hb.1
 have hd : ∀ k,gS.l1 (k+1) j i d (q+1)=if bt j (i - 1)=92 then gS.l2 k j i d (q+1) 0 (i - 2) else gS.j5 k j i d:=fun k=>by
  simp only [gS.l1]
  rw [if_pos hi,if_pos (by omega),if_neg (by omega),if_pos h34,wr (i:=i - 1) (by omega) (by omega),wr (i:=i - 2) (by omega) (by omega),if_pos (by omega),if_pos (by omega)]
 cases m with
 | zero =>
  have h92:=hb.2.2
  rw [show i - ((0:Nat):Int) - 1=i - 1 by omega] at h92
  refine Ev.step (fun k=>?_) (he rfl)
  show gS.l1 (k+1) j i d (q+1)=_
  rw [hd,if_neg h92]
 | succ m =>
  have h92:=hb.2.1 (i - 1) (by omega) (by omega)
  have h:=sq_l2 (R:=R) (d:=d) hj h0 hi hb m 0 (by omega) (fun h=>ho (by omega)) (fun h=>he (by omega))
  rw [show i - 2 - ((0:Nat):Int)=i - 2 by omega] at h
  refine Ev.step (fun k=>?_) h
  show gS.l1 (k+1) j i d (q+1)=_
  rw [hd,if_pos h92];rfl
theorem sq_str (hj:j.size≤100000) {d q:Int} (h0:0≤q) {B:List Int} (hB:SB B) : ∀ (i:Int) (m:Nat),m % 2=0→Bk j q i m→At (bytesOf j) i (B++[34])→Ev (fun k=>gS.j5 k j (i+B.length) d) R→Ev (fun k=>gS.l1 k j i d (q+1)) R:=by
 induction hB with
 | nil =>
  intro i m hm hb ha h
  have h1:=at_lt ha
  simp only [List.length_nil] at h
  rw [show i+((0:Nat):Int)=i by omega] at h
  exact l1_quote hj h0 h1.2 (at_head ha) hb (fun _=>h) (fun h=>by omega)
 | @plain c r h1 h2 h3 h4 _ ih =>
  intro i m hm hb ha h
  have h5:=at_lt ha
  have hc:=at_head ha
  have hb1:=hb.1
  refine l1_skip hj h5.1 h5.2 (by rw [hc];exact h3) (ih (i+1) 0 rfl (Bk.one (by omega) (by rw [show i+1 - 1=i by omega,hc];exact h4)) ha.2.2.2 ?_)
  rw [show i+1+(r.length:Int)=i+((c :: r).length:Int) by simp only [List.length_cons];omega];exact h
 | @esc x r hx _ ih =>
  intro i m hm hb ha h
  have h5:=at_lt ha
  have hc:=at_head ha
  have ha1:=ha.2.2.2
  have h6:=at_lt ha1
  have hx1:=at_head ha1
  have hb1:=hb.1
  have hk:=hb.succ hc
  rw [show i+((92 :: x :: r).length:Int)=i+1+1+(r.length:Int) by simp only [List.length_cons];omega] at h
  refine l1_skip hj h5.1 h5.2 (by rw [hc];decide) ?_
  by_cases c34:x=34
  ·
   refine l1_quote hj h0 h6.2 (by rw [hx1];exact c34) hk (fun h=>by omega) (fun _=>ih _ 0 rfl (Bk.one (by omega) (by rw [show i+1+1 - 1=i+1 by omega,hx1,c34];decide)) ha1.2.2.2 h)
  refine l1_skip hj h6.1 h6.2 (by rw [hx1];exact c34) ?_
  by_cases c92:x=92
  ·
   exact ih _ (m+1+1) (by omega) (hk.succ (by rw [hx1];exact c92)) ha1.2.2.2 h
  exact ih _ 0 rfl (Bk.one (by omega) (by rw [show i+1+1 - 1=i+1 by omega,hx1];exact c92)) ha1.2.2.2 h
 | @uni a b c e r ha' hb' hc' hd' _ ih =>
  intro i m hm hb ha h
  obtain ⟨-, -, -, a1⟩:=id ha
  obtain ⟨-, -, -, a2⟩:=id a1
  obtain ⟨-, -, -, a3⟩:=id a2
  obtain ⟨-, -, -, a4⟩:=id a3
  obtain ⟨-, -, -, a5⟩:=id a4
  obtain ⟨-, -, -, a6⟩:=id a5
  have hb1:=hb.1
  rw [show i+((92 :: 117 :: a :: b :: c :: e :: r).length:Int)=i+1+1+1+1+1+1+(r.length:Int) by simp only [List.length_cons];omega] at h
  refine l1_skip hj (at_lt ha).1 (at_lt ha).2 (by rw [at_head ha];decide) ?_
  refine l1_skip hj (at_lt a1).1 (at_lt a1).2 (by rw [at_head a1];decide) ?_
  refine l1_skip hj (at_lt a2).1 (at_lt a2).2 (by rw [at_head a2];exact (hexB_nz ha').1) ?_
  refine l1_skip hj (at_lt a3).1 (at_lt a3).2 (by rw [at_head a3];exact (hexB_nz hb').1) ?_
  refine l1_skip hj (at_lt a4).1 (at_lt a4).2 (by rw [at_head a4];exact (hexB_nz hc').1) ?_
  refine l1_skip hj (at_lt a5).1 (at_lt a5).2 (by rw [at_head a5];exact (hexB_nz hd').1) ?_
  exact ih _ 0 rfl (Bk.one (by omega) (by rw [show i+1+1+1+1+1+1 - 1=i+1+1+1+1+1 by omega,at_head a5];exact (hexB_nz hd').2.1)) a6 h
theorem l0_skip (hj:j.size≤100000) {i d:Int} (h0:0≤i) (hi:i<j.size) (hc:bt j i≠34∧bt j i≠91∧bt j i≠93∧bt j i≠123∧bt j i≠125∧bt j i≠40∧bt j i≠41) (h:Ev (fun k=>gS.l0 k j (i+1) d) R):Ev (fun k=>gS.l0 k j i d) R:=by
 obtain ⟨c1,c2,c3,c4,c5,c6,c7⟩:=hc
 have hf:Ev (fun k=>gS.j2 k j i d false) R:=Ev.step (fun k=>by
  show gS.j2 (k+1) j i d false=_
  simp only [gS.j2];rw [if_neg (by simp),wr (by omega) (by omega)]) h
 have ht:Ev (fun k=>gS.j2 k j i d true) R:=by
  refine Ev.step (f:=fun k=>gS.j6 k j i d (bt j i) (bt j i == 40)) (fun k=>?_) (Ev.step (f:=fun k=>gS.j7 k j i d (bt j i == 41)) (fun k=>?_) (Ev.step (fun k=>?_) h))
  ·
   simp only [gS.j2];rw [if_pos (by trivial),if_pos h0,if_pos hi,if_neg c1,if_neg c4,if_neg c2]
  ·
   simp only [gS.j6];rw [if_neg (by simpa using c6),if_neg c5,if_neg c3]
  show gS.j7 (k+1) j i d (bt j i == 41)=_
  simp only [gS.j7];rw [if_neg (by simpa using c7),wr (by omega) (by omega)]
 by_cases a:bt j i ≥ 34
 rotate_left
 ·
  refine Ev.step (fun k=>?_) hf
  show gS.l0 (k+1) j i d=_
  simp only [gS.l0];rw [if_pos hi,if_pos h0,if_neg a]
 by_cases b:bt j i≤125
 ·
  refine Ev.step (fun k=>?_) ht
  show gS.l0 (k+1) j i d=_
  simp only [gS.l0];rw [if_pos hi,if_pos h0,if_pos a,decide_eq_true b]
 refine Ev.step (fun k=>?_) hf
 show gS.l0 (k+1) j i d=_
 simp only [gS.l0];rw [if_pos hi,if_pos h0,if_pos a,decide_eq_false b]
theorem l0_j2 {i d:Int} (h0:0≤i) (hi:i<j.size) (hc:34≤bt j i∧bt j i≤125) (h:Ev (fun k=>gS.j2 k j i d true) R):Ev (fun k=>gS.l0 k j i d) R:=by
 refine Ev.step (fun k=>?_) h
 show gS.l0 (k+1) j i d=_
 simp only [gS.l0];rw [if_pos hi,if_pos h0,if_pos hc.1,decide_eq_true hc.2]
theorem l0_open (hj:j.size≤100000) {i d:Int} (h0:0≤i) (hi:i<j.size) (hd:1≤d∧d≤200000) (hc:bt j i=91∨bt j i=123) (h:Ev (fun k=>gS.l0 k j (i+1) (d+1)) R):Ev (fun k=>gS.l0 k j i d) R:=by
 refine l0_j2 h0 hi (by omega) (Ev.step (f:=fun k=>gS.j6 k j i d (bt j i) true) (fun k=>?_) (Ev.step (fun k=>?_) h))
 ·
  simp only [gS.j2];rw [if_pos (by trivial),if_pos h0,if_pos hi]
  rcases hc with hc|hc <;> rw [hc] <;> rfl
 show gS.j6 (k+1) j i d (bt j i) true=_
 simp only [gS.j6];rw [if_pos (by trivial),wr (by omega) (by omega),wr (by omega) (by omega)]
def Fin (j:ByteArray) (e d:Int) (R:ByteArray):Prop:=(d=1∧R=j.extract 0 e.toNat)∨(1<d∧Ev (fun k=>gS.l0 k j e (d - 1)) R)
theorem l0_close (hj:j.size≤100000) {i d:Int} (h0:0≤i) (hi:i<j.size) (hd:1≤d∧d≤200000) (hc:bt j i=93∨bt j i=125) (h:Fin j (i+1) d R):Ev (fun k=>gS.l0 k j i d) R:=by
 refine l0_j2 h0 hi (by omega) (Ev.step (f:=fun k=>gS.j6 k j i d (bt j i) (bt j i == 40)) (fun k=>?_) (Ev.step (f:=fun k=>gS.j7 k j i d true) (fun k=>?_) ?_))
 ·
  simp only [gS.j2];rw [if_pos (by trivial),if_pos h0,if_pos hi,if_neg (by omega),if_neg (by omega),if_neg (by omega)]
 ·
  simp only [gS.j6];rcases hc with hc|hc <;> rw [hc] <;> rfl
 rcases h with ⟨rfl,rfl⟩|⟨h1,h⟩
 ·
  refine Ev.const _ fun k=>?_
  simp only [gS.j7]
  rw [if_pos (by trivial),if_pos (by rw [wr (by omega) (by omega)];rfl),wr (by omega) (by omega),if_pos (by omega),if_pos (by omega)]
 refine Ev.step (fun k=>?_) h
 show gS.j7 (k+1) j i d true=_
 simp only [gS.j7]
 rw [if_pos (by trivial),wr (i:=d - 1) (by omega) (by omega),if_neg (by omega),wr (by omega) (by omega)]
theorem sq_skips (hj:j.size≤100000) {d:Int} : ∀ (b:List Int) (i:Int),At (bytesOf j) i b→(∀ c ∈ b,c≠34∧c≠91∧c≠93∧c≠123∧c≠125∧c≠40∧c≠41)→Ev (fun k=>gS.l0 k j (i+b.length) d) R→Ev (fun k=>gS.l0 k j i d) R
  | [],i,ha,hc,h=>by simpa using h
  | c :: b,i,ha,hc,h=>by
    refine l0_skip hj (at_lt ha).1 (at_lt ha).2 (by rw [at_head ha];exact hc c (by simp)) (sq_skips hj b (i+1) ha.2.2.2 (fun x hx=>hc x (by simp [hx])) ?_)
    rw [show i+1+(b.length:Int)=i+((c :: b).length:Int) by simp only [List.length_cons];omega];exact h
theorem sq_wl (hj:j.size≤100000) {d:Int} (n:Nat) : ∀ (i a:Int),a - i=n→Wl (bytesOf j) i a→Ev (fun k=>gS.l0 k j a d) R→Ev (fun k=>gS.l0 k j i d) R:=by
 induction n with
 | zero=>intro i a hn hw h;rwa [show i=a by omega]
 | succ n ih =>
  intro i a hn hw h
  have h1:=hw.2.2.2 i (Int.le_refl _) (by omega)
  rw [rd_bytesOf] at h1
  have h2:=hw.2.2.1
  rw [bytesOf_length] at h2
  refine l0_skip hj hw.1 (by omega) (by unfold blank at h1;omega) (ih (i+1) a (by omega) ⟨by have:=hw.1;omega,by omega,hw.2.2.1,fun q h3 h4=>hw.2.2.2 q (by omega) h4⟩ h)
theorem sq_wl' (hj:j.size≤100000) {d i a:Int} (hw:Wl (bytesOf j) i a) (h:Ev (fun k=>gS.l0 k j a d) R):Ev (fun k=>gS.l0 k j i d) R :=
  sq_wl hj (a - i).toNat i a (by have:=hw.2.1;omega) hw h
theorem sq_string (hj:j.size≤100000) {d i:Int} {n:List Int} (hd:1≤d) (ha:At (bytesOf j) i n) (hs:StrOK n) (h:Ev (fun k=>gS.l0 k j (i+n.length) d) R):Ev (fun k=>gS.l0 k j i d) R:=by
 obtain ⟨B,rfl,hB⟩:=hs
 have h0:=at_lt ha
 have h34:=at_head ha
 have hb:=ha.bound
 rw [bytesOf_length] at hb
 simp only [List.length_cons,List.length_append,List.length_nil] at hb
 have h5:Ev (fun k=>gS.j5 k j (i+1+B.length) d) R:=by
  refine Ev.step (fun k=>?_) h
  show gS.j5 (k+1) j (i+1+B.length) d=_
  simp only [gS.j5]
  rw [if_neg (by omega),wr (by omega) (by omega)]
  congr 1
  simp only [List.length_cons,List.length_append,List.length_nil];omega
 have h6:=sq_str (R:=R) (d:=d) hj h0.1 hB (i+1) 0 rfl (Bk.one (by omega) (by rw [show i+1 - 1=i by omega,h34];decide)) ha.2.2.2 h5
 refine l0_j2 h0.1 h0.2 (by omega) (Ev.step (fun k=>?_) h6)
 show gS.j2 (k+1) j i d true=_
 simp only [gS.j2]
 rw [if_pos (by trivial),if_pos h0.1,if_pos h0.2,if_pos h34,wr (by omega) (by omega)]
theorem sq_one (hj:j.size≤100000) {d i c:Int} (ha:At (bytesOf j) i [c]) (hc:c=44∨c=58) (h:Ev (fun k=>gS.l0 k j (i+1) d) R):Ev (fun k=>gS.l0 k j i d) R :=
  l0_skip hj (at_lt ha).1 (at_lt ha).2 (by rw [at_head ha];omega) h
mutual
theorem sq_val (hj:j.size≤100000) : ∀ (t:T) (i e d:Int),Rd (bytesOf j) t i e→1≤d→d≤i→Ev (fun k=>gS.l0 k j e d) R→Ev (fun k=>gS.l0 k j i d) R
  | .leaf kd b,i,e,d,h,hd,hdi,hr=>by
    simp only [Rd] at h
    obtain ⟨ha,rfl,hl⟩:=h
    rcases hl with ⟨_,hs⟩|⟨_,hN,_⟩|⟨_,rfl⟩|⟨_,rfl⟩|⟨_,rfl⟩
    · exact sq_string hj hd ha hs hr
    · exact sq_skips hj b i ha (fun c hc=>by have:=hN c hc;unfold numc dig at this;omega) hr
    · exact sq_skips hj _ i ha (by decide) hr
    · exact sq_skips hj _ i ha (by decide) hr
    · exact sq_skips hj _ i ha (by decide) hr
  | .arr k,i,e,d,h,hd,hdi,hr=>by
    simp only [Rd] at h
    have h0:=at_lt h.1
    have hb:=h.1.bound
    exact l0_open hj h0.1 h0.2 (by omega) (.inl (at_head h.1)) (sq_F hj k (i+1) e (d+1) h.2 (by omega) (by omega) (.inr ⟨by omega,by rw [show d+1 - 1=d by omega];exact hr⟩))
  | .obj m,i,e,d,h,hd,hdi,hr=>by
    simp only [Rd] at h
    have h0:=at_lt h.1
    exact l0_open hj h0.1 h0.2 (by omega) (.inr (at_head h.1)) (sq_G hj m (i+1) e (d+1) h.2 (by omega) (by omega) (.inr ⟨by omega,by rw [show d+1 - 1=d by omega];exact hr⟩))
theorem sq_F (hj:j.size≤100000) : ∀ (k:TL) (i e d:Int),RdF (bytesOf j) k i e→1≤d→d≤i→Fin j e d R→Ev (fun k=>gS.l0 k j i d) R
  | .nil,i,e,d,h,hd,hdi,hr=>by
    simp only [RdF] at h
    obtain ⟨a,hw,ha,rfl⟩:=h
    have h0:=at_lt ha
    have:=hw.2.1
    exact sq_wl' hj hw (l0_close hj h0.1 h0.2 (by omega) (.inl (at_head ha)) hr)
  | .cons t k,i,e,d,h,hd,hdi,hr=>by
    simp only [RdF] at h
    obtain ⟨a,c,hw,ht,hk⟩:=h
    have:=hw.2.1;have:=T.sz_le t ht
    exact sq_wl' hj hw (sq_val hj t a c d ht hd (by omega) (sq_T hj k c e d hk hd (by omega) hr))
theorem sq_T (hj:j.size≤100000) : ∀ (k:TL) (i e d:Int),RdT (bytesOf j) k i e→1≤d→d≤i→Fin j e d R→Ev (fun k=>gS.l0 k j i d) R
  | .nil,i,e,d,h,hd,hdi,hr=>by
    simp only [RdT] at h
    obtain ⟨a,hw,ha,rfl⟩:=h
    have h0:=at_lt ha
    have:=hw.2.1
    exact sq_wl' hj hw (l0_close hj h0.1 h0.2 (by omega) (.inl (at_head ha)) hr)
  | .cons t k,i,e,d,h,hd,hdi,hr=>by
    simp only [RdT] at h
    obtain ⟨a,b,c,hw,ha,hw2,ht,hk⟩:=h
    have:=hw.2.1;have:=hw2.2.1;have:=T.sz_le t ht
    exact sq_wl' hj hw (sq_one hj ha (by simp) (sq_wl' hj hw2 (sq_val hj t b c d ht hd (by omega) (sq_T hj k c e d hk hd (by omega) hr))))
theorem sq_G (hj:j.size≤100000) : ∀ (m:TM) (i e d:Int),RdG (bytesOf j) m i e→1≤d→d≤i→Fin j e d R→Ev (fun k=>gS.l0 k j i d) R
  | .nil,i,e,d,h,hd,hdi,hr=>by
    simp only [RdG] at h
    obtain ⟨a,hw,ha,rfl⟩:=h
    have h0:=at_lt ha
    have:=hw.2.1
    exact sq_wl' hj hw (l0_close hj h0.1 h0.2 (by omega) (.inr (at_head ha)) hr)
  | .cons n t m,i,e,d,h,hd,hdi,hr=>by
    simp only [RdG] at h
    obtain ⟨a,b,c,f,hw,hna,hok,hw1,hb,hw2,ht,hm⟩:=h
    have:=hw.2.1;have:=hw1.2.1;have:=hw2.2.1;have:=T.sz_le t ht
    exact sq_wl' hj hw (sq_string hj hd hna hok (sq_wl' hj hw1 (sq_one hj hb (by simp) (sq_wl' hj hw2 (sq_val hj t c f d ht hd (by omega) (sq_M hj m f e d hm hd (by omega) hr))))))
theorem sq_M (hj:j.size≤100000) : ∀ (m:TM) (i e d:Int),RdM (bytesOf j) m i e→1≤d→d≤i→Fin j e d R→Ev (fun k=>gS.l0 k j i d) R
  | .nil,i,e,d,h,hd,hdi,hr=>by
    simp only [RdM] at h
    obtain ⟨a,hw,ha,rfl⟩:=h
    have h0:=at_lt ha
    have:=hw.2.1
    exact sq_wl' hj hw (l0_close hj h0.1 h0.2 (by omega) (.inr (at_head ha)) hr)
  | .cons n t m,i,e,d,h,hd,hdi,hr=>by
    simp only [RdM] at h
    obtain ⟨z,a,b,c,f,hw0,hz,hw,hna,hok,hw1,hb,hw2,ht,hm⟩:=h
    have:=hw0.2.1;have:=hw.2.1;have:=hw1.2.1;have:=hw2.2.1;have:=T.sz_le t ht
    exact sq_wl' hj hw0 (sq_one hj hz (by simp) (sq_wl' hj hw (sq_string hj hd hna hok (sq_wl' hj hw1 (sq_one hj hb (by simp) (sq_wl' hj hw2 (sq_val hj t c f d ht hd (by omega) (sq_M hj m f e d hm hd (by omega) hr))))))))
end
theorem squash_at (hj:j.size≤100000) (t:T) {e:Nat} (h:Rd (bytesOf j) t 0 e) (hk:(∃ k,t = .arr k) ∨ ∃ m,t = .obj m) : ∃ k,gS.f k j=some (j.extract 0 e):=by
 have main : ∀ c:Int,At (bytesOf j) 0 [c]→c≠34→Ev (fun k=>gS.l0 k j 1 1) (j.extract 0 e) → ∃ k,gS.f k j=some (j.extract 0 e):=fun c ha hc he=>by
  have h0:=at_lt ha
  have h1:Ev (fun k=>gS.f k j) (j.extract 0 e):=by
   refine Ev.congr (f:=fun k=>gS.j0 k j 1 1) (fun k=>?_) (Ev.step (f:=fun k=>gS.l0 k j 1 1) (fun k=>by simp only [gS.j0]) he)
   unfold gS.f
   rw [if_pos h0.2,if_neg (by rw [at_head ha];exact hc)]
  obtain ⟨K,hK⟩:=h1
  exact ⟨K,hK K (Nat.le_refl _)⟩
 rcases hk with ⟨k,rfl⟩|⟨m,rfl⟩
 ·
  simp only [Rd] at h
  exact main 91 h.1 (by decide) (sq_F hj k 1 e 1 h.2 (by omega) (by omega) (.inl ⟨rfl,rfl⟩))
 simp only [Rd] at h
 exact main 123 h.1 (by decide) (sq_G hj m 1 e 1 h.2 (by omega) (by omega) (.inl ⟨rfl,rfl⟩))
theorem tolit_loop (hj:j.size≤100000) {n:Nat} (hn:n<j.size) (hst:stopB (bt j n)) (r:Nat) : ∀ i:Int,1≤i→n - i=r→(∀ q:Int,i≤q→q<n→97≤bt j q∧bt j q≤122)→Ev (fun k=>gjson_tolit.l0 k j i) (j.extract 0 n):=by
 induction r with
 | zero =>
  intro i h0 h1 hq
  obtain rfl:i=n:=by omega
  refine Ev.const _ fun k=>?_
  simp only [gjson_tolit.l0]
  rw [if_pos (by omega),if_pos (by omega)]
  unfold stopB at hst
  by_cases h:bt j n<97
  ·
   rw [if_pos h,if_pos (by omega),Int.toNat_natCast]
  rw [if_neg h,if_pos (by omega),if_pos (by omega),Int.toNat_natCast]
 | succ r ih =>
  intro i h0 h1 hq
  have h2:=hq i (Int.le_refl _) (by omega)
  refine Ev.step (fun k=>?_) (ih (i+1) (by omega) (by omega) (fun q h3 h4=>hq q (by omega) h4))
  show gjson_tolit.l0 (k+1) j i=_
  simp only [gjson_tolit.l0]
  rw [if_pos (by omega),if_pos (by omega),if_neg (by omega),if_neg (by omega),wr (by omega) (by omega)]
theorem tolit_at (hj:j.size≤100000) {b rest:List Int} (hb:bytesOf j=b++rest) (h0:1≤b.length) (hl : ∀ c ∈ b,97≤c∧c≤122) (hst:stopB (bt j (b.length:Nat))) (hlt:b.length<j.size) : ∃ k,gjson_tolit.f k j=some (j.extract 0 b.length):=by
 have h:=tolit_loop hj hlt hst (b.length - 1) 1 (by omega) (by omega) (fun q h1 h2=>by
  rw [← rd_bytesOf,hb]
  unfold rd
  rw [List.getD_eq_getElem?_getD,List.getElem?_append_left (by omega),List.getElem?_eq_getElem (by omega)]
  exact hl _ (List.getElem_mem _))
 obtain ⟨K,hK⟩:=h
 exact ⟨K,hK K (Nat.le_refl _)⟩
end Go.Proofs.YtnejkimpkaopoaaGreatDoor.U
end

/- gjson's tostr at a string of a JSON text. -/
import Derived.Test.YtnejkimpkaopoaaGreatDoorEe
import Derived.IntWalk
namespace Go.Proofs.YtnejkimpkaopoaaGreatDoor.Q
open RowKit YtnejkimpkaopoaaGreatDoorW.PrintWords YtnejkimpkaopoaaGreatDoorW.PrintLast YtnejkimpkaopoaaGreatDoorW.PrintMore
attribute [local go_sem] max2_int min2_int max_two min_two max_three min_three max_four min_four
set_option linter.unusedVariables false
set_option linter.unusedSimpArgs false
inductive SBk:Nat→List Int→Prop
  | stop {r:List Int} : SBk 0 (34 :: r)
  | plain {k:Nat} {c:Int} {r:List Int} : c≠34→c≠92→SBk k r→SBk (k+1) (c :: r)
  | esc {k:Nat} {x:Int} {r:List Int} : SBk k r→SBk (k+2) (92 :: x :: r)
theorem hexB_plain {c:Int} (h:hexB c):c≠34∧c≠92:=by rcases h with h|h|h <;> omega
theorem Uq.sbk {B O:List Int} (h:Uq B O) (rest:List Int):SBk B.length (B++34 :: rest):=by
 induction h with
 | nil=>exact .stop
 | plain _ _ h3 h4 _ ih=>exact .plain h3 h4 ih
 | esc _ _ ih=>exact .esc ih
 | uni ha hb hc hd _ _ _ ih =>
  exact .esc (.plain (hexB_plain ha).1 (hexB_plain ha).2 (.plain (hexB_plain hb).1 (hexB_plain hb).2 (.plain (hexB_plain hc).1 (hexB_plain hc).2 (.plain (hexB_plain hd).1 (hexB_plain hd).2 ih))))
 | pair ha hb hc hd he hf hg hh _ _ _ _ _ ih =>
  exact .esc (.plain (hexB_plain ha).1 (hexB_plain ha).2 (.plain (hexB_plain hb).1 (hexB_plain hb).2 (.plain (hexB_plain hc).1 (hexB_plain hc).2 (.plain (hexB_plain hd).1 (hexB_plain hd).2
   (.esc (.plain (hexB_plain he).1 (hexB_plain he).2 (.plain (hexB_plain hf).1 (hexB_plain hf).2 (.plain (hexB_plain hg).1 (hexB_plain hg).2 (.plain (hexB_plain hh).1 (hexB_plain hh).2 ih)))))))))
theorem Uq.same {B O:List Int} (h:Uq B O) (hn : ∀ x ∈ B,x≠92):O=B:=by
 induction h with
 | nil=>rfl
 | plain _ _ _ _ _ ih=>rw [ih (fun x hx=>hn x (List.mem_cons_of_mem _ hx))]
 | esc _ _ _=>exact absurd rfl (hn 92 (by simp))
 | uni _ _ _ _ _ _ _ _=>exact absurd rfl (hn 92 (by simp))
 | pair _ _ _ _ _ _ _ _ _ _ _ _ _ _=>exact absurd rfl (hn 92 (by simp))
theorem strOfNums_bytesOf (s:ByteArray):strOfNums (bytesOf s)=s:=by
 unfold strOfNums bytesOf
 apply ByteArray.ext
 rw [List.map_map,List.map_congr_left (g:=id) (fun b _=>by simp [Function.comp])]
 simp
structure StrAt (j:ByteArray) (B O:List Int) (rest:List Int):Prop where
  eq:bytesOf j=34 :: (B++34 :: rest)
  uq:Uq B O
theorem bytesOf_extract' (s:ByteArray) (i e:Nat):bytesOf (s.extract i e)=((bytesOf s).take e).drop i:=by
 unfold bytesOf
 rw [← List.map_take, ← List.map_drop]
 congr 1
 simp [List.drop_take]
theorem StrAt.size {j:ByteArray} {B O rest:List Int} (h:StrAt j B O rest):B.length+2≤j.size:=by
 have:=congrArg List.length h.eq
 rw [bytesOf_length] at this
 simp at this
 omega
theorem StrAt.body {j:ByteArray} {B O rest:List Int} (h:StrAt j B O rest):bytesOf (j.extract 1 (B.length+1))=B:=by
 rw [bytesOf_extract',h.eq]
 simp
structure InS (j:ByteArray) (n i m:Nat):Prop where
  run : ∀ q:Nat,i - m≤q→q<i→bt j q=92
  lt:m<i
  ahead:bt j ((i - m - 1:Nat):Int)≠92
  st:(m % 2=0 ∧ ∃ k,SBk k ((bytesOf j).drop i)∧i+k+1=n)∨(m % 2=1 ∧ ∃ k x r,(bytesOf j).drop i=x :: r∧SBk k r∧i+1+k+1=n)
theorem InS.other {j:ByteArray} {n i k:Nat} (hc:bt j i≠92) (hk:SBk k ((bytesOf j).drop (i+1))) (h:i+1+k+1=n):InS j n (i+1) 0 :=
  ⟨fun q h1 h2=>by omega,by omega,by rw [show i+1 - 0 - 1=i by omega];exact hc, .inl ⟨rfl,k,hk,h⟩⟩
theorem InS.next {j:ByteArray} {n i m:Nat} (h:InS j n i m) (hc:bt j i=92) (hst:((m+1) % 2=0 ∧ ∃ k,SBk k ((bytesOf j).drop (i+1))∧i+1+k+1=n)∨((m+1) % 2=1 ∧ ∃ k x r,(bytesOf j).drop (i+1)=x :: r∧SBk k r∧i+1+1+k+1=n)):InS j n (i+1) (m+1):=by
 have hl:=h.lt
 refine ⟨fun q h1 h2=>?_,by omega,?_,hst⟩
 ·
  by_cases e:q=i
  ·
   subst e;exact hc
  exact h.run q (by omega) (by omega)
 rw [show i+1 - (m+1) - 1=i - m - 1 by omega];exact h.ahead
def TsP (w:World) (a b:ByteArray) (e:Ending) (w':World):Prop:=e = .returned (.tuple #[.string a, .string b])∧Below w.heap.size w w'
set_option maxHeartbeats 32000000 in
set_option maxRecDepth 100000 in
theorem gjson_tostr.calls (j:ByteArray) (B O rest:List Int) (hS:StrAt j B O rest) (hj:j.size≤100000) (w:World) :
 Calls Tryz.prog 95 #[.string j] w fun e w'=>TsP w (j.extract 0 (B.length+2)) (strOfNums O) e w':=by
 have hsz:=hS.size
 have HS:=Ak hS
 have H98:=Ak (fun W=>gjson_unescape.calls (j.extract 1 (B.length+1)) O (by rw [hS.body];exact hS.uq) (by rw [ByteArray.size_extract];omega) W)
 have HD:Aside0 (SBk B.length ((bytesOf j).drop 1)):=⟨by rw [hS.eq];exact hS.uq.sbk rest⟩
 have H0:Aside0 (bt j 0=34):=⟨(drop_cons (i:=0) (by rw [List.drop_zero];exact hS.eq)).2.1⟩
 clear hS
 obtain ⟨n,hn⟩ : ∃ n,B.length+2=n:=⟨_,rfl⟩
 go_enter Tryz.func95,Tryz.ntmps95
 go_wp2
 go_loopg [4] (j.size+1) (fun kq v4 wl => ∃ i k:Nat,v4 = .int .i64 (i:Int)∧Aside0 (0<i∧i+k+1=n∧j.size - i<kq)∧Aside0 (SBk k ((bytesOf j).drop i) ∧ ∀ q:Nat,0<q→q<i→bt j q≠92)∧w=wl)
 case atStart=>exact ⟨1,B.length,rfl,⟨by omega,by omega,by omega⟩,⟨HD.out,fun q h1 h2=>by omega⟩,rfl⟩
 case round =>
 clear HD
 obtain ⟨i,k,rfl,HA,HI,rfl⟩:=hrel
 obtain ⟨a1,a2,a3⟩:=HA.out
 obtain ⟨hI,hq⟩:=HI.out
 have HQ:=Ak hq
 clear HA HI hq
 cases gk with
 | zero=>omega
 | succ k1 =>
 have cI:((i:Int)<(j.size:Int))=True:=eq_true (by omega)
 generalize hD:(bytesOf j).drop i=D at hI
 cases hI with
 | stop =>
  obtain ⟨hi,hb,hd⟩:=drop_cons hD
  have e0:=(bt_nat hi).trans hb
  have hO:Aside0 (j.extract 1 i=strOfNums O):=⟨by
   have hbo:=HS.out.body
   rw [show B.length+1=i by omega] at hbo
   have h92 : ∀ x ∈ B,x≠92:=by
    intro x hx
    obtain ⟨q,hq,rfl⟩:=List.getElem_of_mem hx
    have h1:q+1<j.size:=by omega
    have h2:=HQ.out (q+1) (by omega) (by omega)
    have h3:(bytesOf j).drop (q+1)=B[q] :: (B.drop (q+1)++34 :: rest):=by
     rw [HS.out.eq,List.drop_succ_cons,List.drop_append_of_le_length (by omega),List.drop_eq_getElem_cons hq]
     rfl
    rw [(drop_cons h3).2.1] at h2
    exact h2
   rw [HS.out.uq.same h92, ← hbo,strOfNums_bytesOf]⟩
  clear hD hb hd
  have c1:((1:Int)≤(i:Int))=True:=eq_true (by omega)
  have c2:((i:Int)≤(j.size:Int))=True:=eq_true (by omega)
  have c3:((i:Int)+1≤(j.size:Int))=True:=eq_true (by omega)
  go_wp2
  go_quiet (fail)
  go_wp2
  go_ret2
  exact ⟨by rw [hn, ← hO.out];rfl,pw_below_drewN (Below.refl _ _) _⟩
 | @plain k c r h34 h92 hr =>
  obtain ⟨hi,hb,hd⟩:=drop_cons hD
  have e0:=(bt_nat hi).trans hb
  have HI:Aside0 (SBk k ((bytesOf j).drop (i+1)) ∧ ∀ q:Nat,0<q→q<i+1→bt j q≠92):=⟨by rw [hd];exact hr,fun q h1 h2=>by
   by_cases e:q=i
   ·
    subst e;rw [hb];exact h92
   exact HQ.out q h1 (by omega)⟩
  clear hD hb hd hr HQ
  have q92:(c == 92)=false:=by simpa using h92
  have q34:(c == 34)=false:=by simpa using h34
  by_cases c9:92<c
  ·
   go_wp2
   go_roundg k1
   case measure=>omega
   case rel=>exact ⟨i+1,k,by congr 1,⟨by omega,by omega,by omega⟩,HI,rfl⟩
  go_wp2
  go_roundg k1
  case measure=>omega
  case rel=>exact ⟨i+1,k,by congr 1,⟨by omega,by omega,by omega⟩,HI,rfl⟩
 | @esc k x r hr =>
  obtain ⟨hi,hb,hd⟩:=drop_cons hD
  have e0:=(bt_nat hi).trans hb
  have HI:Aside0 (InS j n (i+1) 1):=⟨⟨fun q h1 h2=>by rw [show q=i by omega];exact hb,by omega,by
   rw [show i+1 - 1 - 1=i - 1 by omega]
   by_cases e:i=1
   ·
    subst e;show bt j 0≠92;rw [H0.out];decide
   exact HQ.out (i - 1) (by omega) (by omega), .inr ⟨rfl,k,x,r,hd,hr,by omega⟩⟩⟩
  clear hD hb hd hr HQ
  go_wp2
  have hi2:i+2<n:=by omega
  clear cI e0 a1 a2 a3
  go_loopg [4] (j.size+1) (fun kq v4 wl => ∃ i m:Nat,v4 = .int .i64 (i:Int)∧Aside0 (i+1≤n∧j.size - i<kq)∧Aside0 (InS j n i m)∧w=wl)
  case atStart=>exact ⟨i+1,1,by congr 1,⟨by omega,by omega⟩,HI,rfl⟩
  case round =>
  clear HI hi hi2
  obtain ⟨i,m,rfl,HA,HI,rfl⟩:=hrel
  obtain ⟨a1,a2⟩:=HA.out
  have hm:=HI.out.lt
  clear HA
  cases gk with
  | zero=>omega
  | succ k2 =>
  have cI:((i:Int)<(j.size:Int))=True:=eq_true (by omega)
  have hij:i<j.size:=by omega
  have e0:=bt_nat hij
  obtain ⟨c,hc⟩ : ∃ c,bt j i=c:=⟨_,rfl⟩
  rw [hc] at e0
  have HC:=Ak hc
  clear hc
  by_cases c34:c=34
  rotate_left
  ·
   have q34:(c == 34)=false:=by simpa using c34
   have HI2:Aside0 (∃ m2,InS j n (i+1) m2):=⟨by
    rcases HI.out.st with ⟨hm2,k,hk,hkn⟩|⟨hm2,k,y,r,hd,hr,hkn⟩
    ·
     generalize hD:(bytesOf j).drop i=D at hk
     cases hk with
     | stop=>exact absurd ((drop_cons hD).2.1.symm.trans HC.out).symm c34
     | @plain k c' r h1 h2 hr =>
      obtain ⟨_,hb,hd⟩:=drop_cons hD
      exact ⟨0,InS.other (k:=k) (by rw [hb];exact h2) (by rw [hd];exact hr) (by omega)⟩
     | @esc k x r hr =>
      obtain ⟨_,hb,hd⟩:=drop_cons hD
      exact ⟨m+1,HI.out.next hb (.inr ⟨by omega,k,x,r,hd,hr,by omega⟩)⟩
    obtain ⟨_,hb,hd2⟩:=drop_cons hd
    by_cases e:y=92
    ·
     subst e
     exact ⟨m+1,HI.out.next hb (.inl ⟨by omega,k,by rw [hd2];exact hr,by omega⟩)⟩
    exact ⟨0,InS.other (k:=k) (by rw [hb];exact e) (by rw [hd2];exact hr) (by omega)⟩⟩
   have hin:i+2≤n:=by
    rcases HI.out.st with ⟨hm2,k,hk,hkn⟩|⟨hm2,k,y,r,hd,hr,hkn⟩
    ·
     generalize hD:(bytesOf j).drop i=D at hk
     cases hk with
     | stop=>exact absurd ((drop_cons hD).2.1.symm.trans HC.out).symm c34
     | plain _ _ _=>omega
     | esc _=>omega
    omega
   obtain ⟨m2,hI2⟩:=HI2.out
   have HI3:=Ak hI2
   clear HI2 hI2 HC HI
   by_cases c9:92<c
   ·
    go_wp2
    go_roundg k2
    case measure=>omega
    case rel=>exact ⟨i+1,m2,by congr 1,⟨by omega,by omega⟩,HI3,rfl⟩
   go_wp2
   go_roundg k2
   case measure=>omega
   case rel=>exact ⟨i+1,m2,by congr 1,⟨by omega,by omega⟩,HI3,rfl⟩
  subst c34
  have HT:Aside0 ((m % 2=0∧i+1=n)∨(m % 2=1∧InS j n (i+1) 0∧i+2≤n)):=⟨by
   rcases HI.out.st with ⟨hm2,k,hk,hkn⟩|⟨hm2,k,y,r,hd,hr,hkn⟩
   ·
    generalize hD:(bytesOf j).drop i=D at hk
    cases hk with
    | stop=>exact .inl ⟨hm2,by omega⟩
    | plain h1 _ _=>exact absurd ((drop_cons hD).2.1.symm.trans HC.out) h1
    | esc _=>exact absurd ((drop_cons hD).2.1.symm.trans HC.out) (by decide)
   exact .inr ⟨hm2,InS.other (k:=k) (by rw [HC.out];decide) (by rw [(drop_cons hd).2.2];exact hr) (by omega),by omega⟩⟩
  by_cases m0:m=0
  ·
   subst m0
   have hin:i+1=n:=by rcases HT.out with h|h <;> omega
   obtain ⟨i0,rfl⟩ : ∃ i0,i=i0+1:=⟨i - 1,by omega⟩
   have hlt0:i0<j.size:=by clear hin;omega
   have ea:=bt_nat hlt0
   obtain ⟨y,hy⟩ : ∃ y,bt j i0=y:=⟨_,rfl⟩
   have hy92:y≠92:=by
    have:=HI.out.ahead
    rw [show i0+1 - 0 - 1=i0 by omega,hy] at this
    exact this
   rw [hy] at ea
   clear hy
   have q92:(y == 92)=false:=by simpa using hy92
   clear HT HI HC
   have c1:((1:Int)≤(i0:Int)+1)=True:=eq_true (by omega)
   have c2:((i0:Int)+1≤(j.size:Int))=True:=eq_true (by omega)
   have c3:((i0:Int)+1+1≤(j.size:Int))=True:=eq_true (by omega)
   have hBl:=Ak (show B.length=i0 by omega)
   rw [hBl.out] at H98
   have HN:=Ak hn
   clear hn hin a1
   go_upto_region 21 with (fail)
   have s1:IntKind.i64.wrap ((i0:Int)+1+1)=(i0:Int)+1+1:=IntWalk.i64_in _ (by omega)
   have s2:((0:Int)≤(i0:Int)+1+1)=True:=eq_true (by omega)
   have s3:((i0:Int)+1+1).toNat=i0+1+1:=by omega
   have s4:((i0:Int)+1).toNat=i0+1:=by omega
   have s5:((0:Int)≤(i0:Int)+1)=True:=eq_true (by omega)
   go_region_with ((go_at_call 98;(refine (H98.out _).mono ?_);rintro e w2 ⟨rfl,hB⟩))
   all_goals (
    go_wp2
    go_ret2
    exact ⟨by rw [hBl.out];rfl,((Below.refl _ w).drew).trans hB⟩)
  obtain ⟨i1,rfl⟩ : ∃ i1,i=i1+2:=⟨i - 2,by omega⟩
  have hlt0:i1+1<j.size:=by omega
  have ea:=(bt_nat hlt0).trans (HI.out.run (i1+1) (by omega) (by omega))
  have HR:=Ak HI.out.run
  have HH:=Ak HI.out.ahead
  clear HI HC
  have hmi:m≤i1+1:=by omega
  go_upto_block 4 with (fail)
  go_cut [5,6] from 56 to 65 (fun v5 v6 wc=>v5 = .int .i64 ((m - 1:Nat):Int)∧w=wc)
  case first =>
   clear e0 ea cI hij hlt0
   go_wp2
   go_loopg [5,6] (m+1) (fun kq v5 v6 wl => ∃ t q:Nat,v5 = .int .i64 (t:Int)∧v6 = .int .i64 (q:Int)∧Aside0 (q+t=i1∧t+1≤m∧m - t<kq)∧w=wl)
   case atStart=>exact ⟨0,i1,rfl,rfl,⟨by omega,by omega,by omega⟩,rfl⟩
   case round =>
   obtain ⟨t,q,rfl,rfl,HA,rfl⟩:=hrel
   obtain ⟨b1,b2,b3⟩:=HA.out
   clear HA
   cases gk with
   | zero=>omega
   | succ k3 =>
   by_cases ct:t+1=m
   rotate_left
   ·
    obtain ⟨q1,rfl⟩ : ∃ q1,q=q1+1:=⟨q - 1,by omega⟩
    have hqj:q1+1<j.size:=by omega
    have eq_:=(bt_nat hqj).trans (HR.out (q1+1) (by omega) (by omega))
    have hq0:((0:Int)<(q1:Int)+1)=True:=eq_true (by omega)
    have hq2:((q1:Int)+1<(j.size:Int))=True:=eq_true (by omega)
    go_wp2
    go_roundg k3
    case measure=>omega
    case rel=>exact ⟨t+1,q1,by congr 1,by congr 1 <;> omega,⟨by omega,by omega,by omega⟩,rfl⟩
   by_cases cq:q=0
   ·
    subst cq
    go_wp2
    go_meet
    case rel=>exact ⟨by congr 2;omega,rfl⟩
   have hq0:((0:Int)<(q:Int))=True:=eq_true (by omega)
   have hqj:q<j.size:=by omega
   have eq_:=bt_nat hqj
   obtain ⟨y,hy⟩ : ∃ y,bt j q=y:=⟨_,rfl⟩
   have hy92:y≠92:=by
    have:=HH.out
    rw [show i1+2 - m - 1=q by omega,hy] at this
    exact this
   rw [hy] at eq_
   clear hy
   have p92:(y != 92)=true:=by simpa using hy92
   go_wp2
   go_meet
   case rel=>exact ⟨by congr 2;omega,rfl⟩
  case rest =>
  obtain ⟨rfl,rfl⟩:=hcut
  rcases HT.out with ⟨hme,hin⟩|⟨hmo,hI2,hin⟩
  ·
   have hz:((((m - 1:Nat):Int) % 2) == 0)=false:=by simp;omega
   have hBl:=Ak (show B.length+1=i1+2 by omega)
   rw [hBl.out] at H98
   have hij2:i1+3≤j.size:=by omega
   clear HT HR HH e0 ea hin a1 hn hij hlt0 hsz cI
   have c1:((1:Int)≤(i1:Int)+2)=True:=eq_true (by omega)
   have c2:((i1:Int)+2≤(j.size:Int))=True:=eq_true (by omega)
   have c3:((i1:Int)+2+1≤(j.size:Int))=True:=eq_true (by omega)
   go_upto_region 21 with (fail)
   have s1:IntKind.i64.wrap ((i1:Int)+2+1)=(i1:Int)+2+1:=IntWalk.i64_in _ (by omega)
   have s2:((0:Int)≤(i1:Int)+2+1)=True:=eq_true (by omega)
   have s3:((i1:Int)+2+1).toNat=i1+2+1:=by omega
   have s4:((i1:Int)+2).toNat=i1+2:=by omega
   have s5:((0:Int)≤(i1:Int)+2)=True:=eq_true (by omega)
   go_region_with ((go_at_call 98;(refine (H98.out _).mono ?_);rintro e w2 ⟨rfl,hB⟩))
   all_goals (
    go_wp2
    go_ret2
    exact ⟨by rw [show B.length+2=i1+2+1 by have:=hBl.out;omega];rfl,((Below.refl _ w).drew).trans hB⟩)
  have hz:((((m - 1:Nat):Int) % 2) == 0)=true:=by simp;omega
  have HI3:=Ak hI2
  clear HT hI2
  go_wp2
  go_roundg k2
  case measure=>omega
  case rel=>exact ⟨i1+3,0,by congr 1,⟨by omega,by omega⟩,HI3,rfl⟩
end Go.Proofs.YtnejkimpkaopoaaGreatDoor.Q

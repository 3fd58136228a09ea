/- The reference's reader: strings and words, what they take and what they take again. -/
import Derived.Test.YtnejkimpkaopoaaGreatDoorJ2
import Derived.Test.YtnejkimpkaopoaaGreatDoorEg
import Derived.Test.YtnejkimpkaopoaaGreatDoorEf
namespace Go.Proofs.YtnejkimpkaopoaaGreatDoor.U
open RowKit YtnejkimpkaopoaaGreatDoorW.PrintWords YtnejkimpkaopoaaGreatDoor.Q
set_option linter.unusedVariables false
set_option linter.unusedSimpArgs false
theorem hexDigit_ev (c:Int) : ∃ v ok,Ev (fun k=>sH.f k c) (v,ok)∧(ok=true→hexB c):=by
 have j1f : ∃ v ok,Ev (fun k=>sH.j1 k c false) (v,ok)∧(ok=true→hexB c):=by
  by_cases h1:65≤c
  rotate_left
  ·
   exact ⟨_,false,Ev.const _ fun k=>by simp only [sH.j1];rw [if_neg (by simp),if_neg h1],fun h=>by cases h⟩
  by_cases h2:c≤70
  ·
   exact ⟨_,true,Ev.const _ fun k=>by simp only [sH.j1];rw [if_neg (by simp),if_pos h1,if_pos h2],fun _=>by unfold hexB;omega⟩
  exact ⟨_,false,Ev.const _ fun k=>by simp only [sH.j1];rw [if_neg (by simp),if_pos h1,if_neg h2],fun h=>by cases h⟩
 have j0f : ∃ v ok,Ev (fun k=>sH.j0 k c false) (v,ok)∧(ok=true→hexB c):=by
  obtain ⟨v,ok,hj,hok⟩:=j1f
  by_cases h1:97≤c
  rotate_left
  ·
   exact ⟨v,ok,Ev.step (f:=fun k=>sH.j1 k c false) (fun k=>by simp only [sH.j0];rw [if_neg (by simp),if_neg h1]) hj,hok⟩
  by_cases h2:c≤102
  ·
   refine ⟨_,true,Ev.step (f:=fun k=>sH.j1 k c true) (fun k=>by simp only [sH.j0];rw [if_neg (by simp),if_pos h1,decide_eq_true h2]) (Ev.const _ fun k=>by simp only [sH.j1];rw [if_pos (by trivial)]),fun _=>by unfold hexB;omega⟩
  exact ⟨v,ok,Ev.step (f:=fun k=>sH.j1 k c false) (fun k=>by simp only [sH.j0];rw [if_neg (by simp),if_pos h1,decide_eq_false h2]) hj,hok⟩
 obtain ⟨v,ok,hj,hok⟩:=j0f
 by_cases h1:48≤c
 rotate_left
 ·
  exact ⟨v,ok,Ev.congr (f:=fun k=>sH.j0 k c false) (fun k=>by unfold sH.f;rw [if_neg h1]) hj,hok⟩
 by_cases h2:c≤57
 ·
  exact ⟨_,true,Ev.congr (f:=fun k=>sH.j0 k c true) (fun k=>by unfold sH.f;rw [if_pos h1,decide_eq_true h2]) (Ev.const _ fun k=>by simp only [sH.j0];rw [if_pos (by trivial)]),fun _=>by unfold hexB;omega⟩
 exact ⟨v,ok,Ev.congr (f:=fun k=>sH.j0 k c false) (fun k=>by unfold sH.f;rw [if_pos h1,decide_eq_false h2]) hj,hok⟩
theorem esc_split (s:ByteArray) (i:Int) (h0:0≤i) (k:Nat):rX.f k s i=rX.j0 k (bt s i) (decide (simple (bt s i))) s i:=by
 unfold rX.f
 rw [here_in h0,Option.bind_some]
 dsimp only
 generalize bt s i=c
 repeat' split
 all_goals first
  | (rename_i h;subst h;rfl)
  | (congr 1;unfold simple;simp_all;rfl)
  | (congr 1;unfold simple;simp_all)
theorem hex_yes {c:Int} (h:hexB c) : ∃ v,Ev (fun k=>sH.f k c) (v,true):=⟨_,⟨2,fun k hk=>by obtain ⟨j,rfl⟩ : ∃ j,k=j+2:=⟨k - 2,by omega⟩;exact hexDigit_hex h j⟩⟩
theorem hexB_nz {c:Int} (h:hexB c):c≠34∧c≠92∧c≠0∧c≠117∧32≤c∧c<256:=by unfold hexB at h;omega
theorem esc_loop (s:ByteArray) (hn:s.size≤4611686018427387904) (d:Nat) : ∀ x3 i:Int,0≤x3→4 - x3=d→0≤i→i≤s.size →
 ∃ ok e,Ev (fun k=>rX.l0 k x3 s i) (ok,s,e)∧e≤s.size∧i≤e∧(ok=true→e=i+d ∧ ∀ q,i≤q→q<e→hexB (bt s q)):=by
 induction d with
 | zero =>
  intro x3 i hx hd h0 h1
  exact ⟨true,i,Ev.const _ fun k=>by simp only [rX.l0];rw [if_neg (by omega)],h1,Int.le_refl _,fun _=>⟨by omega,fun q h2 h3=>by omega⟩⟩
 | succ d ih =>
  intro x3 i hx hd h0 h1
  obtain ⟨v,ok,hh,hok⟩:=hexDigit_ev (bt s i)
  cases ok with
  | false =>
   refine ⟨false,i,Ev.step (f:=fun k=>(sH.f k (bt s i)).bind fun t=>if t.2=true then rX.l0 k (x3+1) s (i+1) else some (false,s,i)) (fun k=>?_) (Ev.bind hh (Ev.congr (fun k=>by rw [if_neg (by simp)]) (Ev.now _))),h1,Int.le_refl _,fun h=>by cases h⟩
   simp only [rX.l0]
   rw [if_pos (by omega),here_in h0,Option.bind_some]
   dsimp only
   rw [wr (by omega) (by omega),wr (by omega) (by omega)]
  | true =>
   have hx1:=hok rfl
   have hi:=bt_in (hexB_nz hx1).2.2.1
   obtain ⟨ok2,e,he,hle,hie,hq⟩:=ih (x3+1) (i+1) (by omega) (by omega) (by omega) (by omega)
   refine ⟨ok2,e,Ev.step (f:=fun k=>(sH.f k (bt s i)).bind fun t=>if t.2=true then rX.l0 k (x3+1) s (i+1) else some (false,s,i)) (fun k=>?_) (Ev.bind hh (Ev.congr (fun k=>by rw [if_pos (by trivial)]) he)),hle,by omega,fun h=>⟨by have:=(hq h).1;omega,fun q h2 h3=>?_⟩⟩
   ·
    simp only [rX.l0]
    rw [if_pos (by omega),here_in h0,Option.bind_some]
    dsimp only
    rw [wr (by omega) (by omega),wr (by omega) (by omega)]
   by_cases e':q=i
   ·
    subst e';exact hx1
   exact (hq h).2 q (by omega) h3
theorem esc_back (s:ByteArray) (hn:s.size≤4611686018427387904) (d:Nat) : ∀ x3 i:Int,0≤x3→4 - x3=d→0≤i→i+d≤s.size→(∀ q,i≤q→q<i+d→hexB (bt s q)) →
 Ev (fun k=>rX.l0 k x3 s i) (true,s,i+d):=by
 induction d with
 | zero =>
  intro x3 i hx hd h0 h1 hq
  rw [show i+((0:Nat):Int)=i by omega]
  exact Ev.const _ fun k=>by simp only [rX.l0];rw [if_neg (by omega)]
 | succ d ih =>
  intro x3 i hx hd h0 h1 hq
  obtain ⟨v,hh⟩:=hex_yes (hq i (Int.le_refl _) (by omega))
  have h2:=ih (x3+1) (i+1) (by omega) (by omega) (by omega) (by omega) (fun q h3 h4=>hq q (by omega) (by omega))
  rw [show i+1+(d:Int)=i+((d+1:Nat):Int) by omega] at h2
  refine Ev.step (f:=fun k=>(sH.f k (bt s i)).bind fun t=>if t.2=true then rX.l0 k (x3+1) s (i+1) else some (false,s,i)) (fun k=>?_) (Ev.bind hh (Ev.congr (fun k=>by rw [if_pos (by trivial)]) h2))
  simp only [rX.l0]
  rw [if_pos (by omega),here_in h0,Option.bind_some]
  dsimp only
  rw [wr (by omega) (by omega),wr (by omega) (by omega)]
theorem escape_ev (s:ByteArray) (hn:s.size≤4611686018427387904) (i:Int) (h0:0≤i) (h1:i≤s.size) :
 ∃ ok e,Ev (fun k=>rX.f k s i) (ok,s,e)∧e≤s.size∧i≤e∧(ok=true→(e=i+1∧simple (bt s i))∨(e=i+5∧bt s i=117 ∧ ∀ q,i<q→q<e→hexB (bt s q))):=by
 by_cases hc:simple (bt s i)
 ·
  have hi:i<(s.size:Int):=bt_in (by unfold simple at hc;omega)
  refine ⟨true,i+1,Ev.congr (fun k=>esc_split s i h0 k) (Ev.const _ fun k=>?_),by omega,by omega,fun _ => .inl ⟨rfl,hc⟩⟩
  simp only [rX.j0]
  rw [decide_eq_true hc,if_pos (by trivial),wr (by omega) (by omega)]
 by_cases h117:bt s i=117
 ·
  have hi:i<(s.size:Int):=bt_in (by omega)
  obtain ⟨ok,e,he,hle,hie,hq⟩:=esc_loop s hn 4 0 (i+1) (by omega) (by omega) (by omega) (by omega)
  refine ⟨ok,e,Ev.congr (fun k=>esc_split s i h0 k) (Ev.step (fun k=>?_) he),hle,by omega,fun h => .inr ⟨by have:=(hq h).1;omega,h117,fun q h2 h3=>(hq h).2 q (by omega) h3⟩⟩
  simp only [rX.j0]
  rw [decide_eq_false hc,if_neg (by simp),if_pos h117,wr (by omega) (by omega)]
 refine ⟨false,i,Ev.congr (fun k=>esc_split s i h0 k) (Ev.const _ fun k=>?_),h1,Int.le_refl _,fun h=>by cases h⟩
 simp only [rX.j0]
 rw [decide_eq_false hc,if_neg (by simp),if_neg h117]
theorem escape_simple (s:ByteArray) (hn:s.size≤4611686018427387904) (i:Int) (h0:0≤i) (hc:simple (bt s i)):Ev (fun k=>rX.f k s i) (true,s,i+1):=by
 have hi:i<(s.size:Int):=bt_in (by unfold simple at hc;omega)
 refine Ev.congr (fun k=>esc_split s i h0 k) (Ev.const _ fun k=>?_)
 simp only [rX.j0]
 rw [decide_eq_true hc,if_pos (by trivial),wr (by omega) (by omega)]
theorem escape_hex (s:ByteArray) (hn:s.size≤4611686018427387904) (i:Int) (h0:0≤i) (h1:i+5≤s.size) (h117:bt s i=117) (hq : ∀ q,i<q→q<i+5→hexB (bt s q)):Ev (fun k=>rX.f k s i) (true,s,i+5):=by
 have h:=esc_back s hn 4 0 (i+1) (by omega) (by omega) (by omega) (by omega) (fun q h2 h3=>hq q (by omega) (by omega))
 rw [show i+1+((4:Nat):Int)=i+5 by omega] at h
 refine Ev.congr (fun k=>esc_split s i h0 k) (Ev.step (fun k=>?_) h)
 simp only [rX.j0]
 rw [decide_eq_false (by rw [h117];decide),if_neg (by simp),if_pos h117,wr (by omega) (by omega)]
theorem quoted_loop (s:ByteArray) (hn:s.size≤4611686018427387904) (d:Nat) : ∀ i:Int,0≤i→i≤s.size→(s.size:Int) - i≤d →
 ∃ ok e,Ev (fun k=>rQ.l0 k s i) (ok,s,e)∧e≤s.size∧i≤e∧(ok=true→i<e ∧ ∃ B,sl s i e=B++[34]∧SB B):=by
 induction d with
 | zero =>
  intro i h0 h1 hd
  exact ⟨false,i,Ev.const _ fun k=>by simp only [rQ.l0];rw [if_neg (by omega)],h1,Int.le_refl _,fun h=>by cases h⟩
 | succ d ih =>
  intro i h0 h1 hd
  by_cases hi:i<(s.size:Int)
  rotate_left
  ·
   exact ⟨false,i,Ev.const _ fun k=>by simp only [rQ.l0];rw [if_neg hi],h1,Int.le_refl _,fun h=>by cases h⟩
  by_cases h34:bt s i=34
  ·
   refine ⟨true,i+1,Ev.const _ fun k=>?_,by omega,by omega,fun _=>⟨by omega,[],?_, .nil⟩⟩
   ·
    simp only [rQ.l0]
    rw [if_pos hi,if_pos h0,if_pos h34,wr (by omega) (by omega)]
   rw [sl_cons h0 (by omega) (by omega),sl_nil,h34];rfl
  by_cases h32:bt s i<32
  ·
   refine ⟨false,i+1,Ev.const _ fun k=>?_,by omega,by omega,fun h=>by cases h⟩
   simp only [rQ.l0]
   rw [if_pos hi,if_pos h0,if_neg h34,if_pos h32,wr (by omega) (by omega)]
  by_cases h92:bt s i=92
  ·
   obtain ⟨ok,e,he,hle,hie,hq⟩:=escape_ev s hn (i+1) (by omega) (by omega)
   cases ok with
   | false =>
    refine ⟨false,e,Ev.step (f:=fun k=>(rX.f k s (i+1)).bind fun t=>if t.1=true then rQ.l0 k t.2.1 t.2.2 else some (false,t.2.1,t.2.2)) (fun k=>?_) (Ev.bind he (Ev.congr (fun k=>by rw [if_neg (by simp)]) (Ev.now _))),hle,by omega,fun h=>by cases h⟩
    simp only [rQ.l0]
    rw [if_pos hi,if_pos h0,if_neg h34,if_neg h32,if_pos h92,wr (by omega) (by omega)]
   | true =>
    have hlt:i+1<e:=by rcases hq rfl with ⟨h, -⟩|⟨h, -⟩ <;> omega
    obtain ⟨ok2,e2,he2,hle2,hie2,hs2⟩:=ih e (by omega) hle (by omega)
    refine ⟨ok2,e2,Ev.step (f:=fun k=>(rX.f k s (i+1)).bind fun t=>if t.1=true then rQ.l0 k t.2.1 t.2.2 else some (false,t.2.1,t.2.2)) (fun k=>?_) (Ev.bind he (Ev.congr (fun k=>by rw [if_pos (by trivial)]) he2)),hle2,by omega,fun h=>⟨by omega,?_⟩⟩
    ·
     simp only [rQ.l0]
     rw [if_pos hi,if_pos h0,if_neg h34,if_neg h32,if_pos h92,wr (by omega) (by omega)]
    obtain ⟨hlt2,B,hB,hsB⟩:=hs2 h
    rcases hq rfl with ⟨h2,h3⟩|⟨h2,h3,h4⟩
    ·
     subst h2
     refine ⟨92 :: bt s (i+1) :: B,?_, .esc h3 hsB⟩
     rw [sl_cons h0 (by omega) hle2,h92,sl_cons (by omega) (by omega) hle2,hB];rfl
    subst h2
    refine ⟨92 :: 117 :: bt s (i+1+1) :: bt s (i+1+1+1) :: bt s (i+1+1+1+1) :: bt s (i+1+1+1+1+1) :: B,?_, .uni (h4 _ (by omega) (by omega)) (h4 _ (by omega) (by omega)) (h4 _ (by omega) (by omega)) (h4 _ (by omega) (by omega)) hsB⟩
    rw [sl_cons h0 (by omega) hle2,h92,sl_cons (by omega) (by omega) hle2,h3,sl_cons (by omega) (by omega) hle2,sl_cons (by omega) (by omega) hle2,sl_cons (by omega) (by omega) hle2,sl_cons (by omega) (by omega) hle2,show i+1+1+1+1+1+1=i+1+5 by omega,hB];rfl
  obtain ⟨ok,e,he,hle,hie,hs⟩:=ih (i+1) (by omega) (by omega) (by omega)
  refine ⟨ok,e,Ev.step (fun k=>?_) he,hle,by omega,fun h=>⟨by omega,?_⟩⟩
  ·
   simp only [rQ.l0]
   rw [if_pos hi,if_pos h0,if_neg h34,if_neg h32,if_neg h92,wr (by omega) (by omega)]
  obtain ⟨hlt,B,hB,hsB⟩:=hs h
  refine ⟨bt s i :: B,?_, .plain (by omega) (by have:=(bt_range s i).2;omega) h34 h92 hsB⟩
  rw [sl_cons h0 (by omega) hle,hB];rfl
theorem quoted_ev (s:ByteArray) (hn:s.size≤4611686018427387904) (i:Int) (h0:0≤i) (h34:bt s i=34) :
 ∃ ok e,Ev (fun k=>rQ.f k s i) (ok,s,e)∧e≤s.size∧i<e∧(ok=true→StrOK (sl s i e)):=by
 have hi:=bt_in (s:=s) (i:=i) (by omega)
 obtain ⟨ok,e,he,hle,hie,hs⟩:=quoted_loop s hn ((s.size:Int) - (i+1)).toNat (i+1) (by omega) (by omega) (by omega)
 refine ⟨ok,e,Ev.congr (fun k=>?_) he,hle,by omega,fun h=>?_⟩
 ·
  unfold rQ.f
  rw [wr (by omega) (by omega)]
 obtain ⟨hlt,B,hB,hsB⟩:=hs h
 exact ⟨B,by rw [sl_cons h0 (by omega) hle,h34,hB],hsB⟩
theorem quoted_back_l (s:ByteArray) (hn:s.size≤4611686018427387904) {B:List Int} (h:SB B) : ∀ i:Int,At (bytesOf s) i (B++[34])→Ev (fun k=>rQ.l0 k s i) (true,s,i+B.length+1):=by
 induction h with
 | nil =>
  intro i ha
  have hb:=ha.bound
  rw [bytesOf_length] at hb
  simp only [List.nil_append,List.length_cons,List.length_nil] at hb
  refine Ev.const _ fun k=>?_
  simp only [rQ.l0]
  rw [if_pos (by omega),if_pos hb.1,if_pos (at_head ha),wr (by omega) (by omega)]
  simp
 | @plain c r h1 h2 h3 h4 _ ih =>
  intro i ha
  have hb:=ha.bound
  rw [bytesOf_length] at hb
  simp only [List.cons_append,List.length_cons,List.length_append] at hb
  have hc:=at_head ha
  have h5:=ih (i+1) ha.2.2.2
  rw [show i+1+(r.length:Int)+1=i+((c :: r).length:Int)+1 by simp only [List.length_cons];omega] at h5
  refine Ev.step (fun k=>?_) h5
  simp only [rQ.l0]
  rw [if_pos (by omega),if_pos hb.1,if_neg (by rw [hc];exact h3),if_neg (by rw [hc];omega),if_neg (by rw [hc];exact h4),wr (by omega) (by omega)]
 | @esc x r h1 _ ih =>
  intro i ha
  have hb:=ha.bound
  rw [bytesOf_length] at hb
  simp only [List.cons_append,List.length_cons,List.length_append] at hb
  have hc:=at_head ha
  have hc1:=at_head ha.2.2.2
  have h5:=ih (i+1+1) ha.2.2.2.2.2.2
  rw [show i+1+1+(r.length:Int)+1=i+((92 :: x :: r).length:Int)+1 by simp only [List.length_cons];omega] at h5
  refine Ev.step (f:=fun k=>(rX.f k s (i+1)).bind fun t=>if t.1=true then rQ.l0 k t.2.1 t.2.2 else some (false,t.2.1,t.2.2)) (fun k=>?_) (Ev.bind (escape_simple s hn (i+1) (by omega) (by rw [hc1];exact h1)) (Ev.congr (fun k=>by rw [if_pos (by trivial)]) h5))
  simp only [rQ.l0]
  rw [if_pos (by omega),if_pos hb.1,if_neg (by rw [hc];decide),if_neg (by rw [hc];decide),if_pos hc,wr (by omega) (by omega)]
 | @uni a b c d r ha' hb' hc' hd' _ ih =>
  intro i ha
  have hb:=ha.bound
  rw [bytesOf_length] at hb
  simp only [List.cons_append,List.length_cons,List.length_append] at hb
  obtain ⟨-, -, -, a1⟩:=id ha
  obtain ⟨-, -, -, a2⟩:=id a1
  obtain ⟨-, -, -, a3⟩:=id a2
  obtain ⟨-, -, -, a4⟩:=id a3
  obtain ⟨-, -, -, a5⟩:=id a4
  obtain ⟨-, -, -, a6⟩:=id a5
  have hc:=at_head ha
  have h5:=ih _ a6
  rw [show i+1+1+1+1+1+1+(r.length:Int)+1=i+((92 :: 117 :: a :: b :: c :: d :: r).length:Int)+1 by simp only [List.length_cons];omega,show i+1+1+1+1+1+1=i+1+5 by omega] at h5
  refine Ev.step (f:=fun k=>(rX.f k s (i+1)).bind fun t=>if t.1=true then rQ.l0 k t.2.1 t.2.2 else some (false,t.2.1,t.2.2)) (fun k=>?_) (Ev.bind (escape_hex s hn (i+1) (by omega) (by omega) (at_head a1) (fun q h1 h2=>?_)) (Ev.congr (fun k=>by rw [if_pos (by trivial)]) h5))
  ·
   simp only [rQ.l0]
   rw [if_pos (by omega),if_pos hb.1,if_neg (by rw [hc];decide),if_neg (by rw [hc];decide),if_pos hc,wr (by omega) (by omega)]
  rcases (by omega:q=i+1+1∨q=i+1+1+1∨q=i+1+1+1+1∨q=i+1+1+1+1+1) with h|h|h|h
  ·
   rw [h,at_head a2];exact ha'
  ·
   rw [h,at_head a3];exact hb'
  ·
   rw [h,at_head a4];exact hc'
  rw [h,at_head a5];exact hd'
theorem quoted_back (s:ByteArray) (hn:s.size≤4611686018427387904) {n:List Int} (h:StrOK n) (i:Int) (ha:At (bytesOf s) i n):Ev (fun k=>rQ.f k s i) (true,s,i+n.length):=by
 obtain ⟨B,rfl,hB⟩:=h
 have hb:=ha.bound
 rw [bytesOf_length] at hb
 have h1:=quoted_back_l s hn hB (i+1) ha.2.2.2
 rw [show i+1+(B.length:Int)+1=i+((34 :: (B++[34])).length:Int) by simp only [List.length_cons,List.length_append,List.length_nil];omega] at h1
 refine Ev.congr (fun k=>?_) h1
 unfold rQ.f
 rw [wr (by omega) (by simp only [List.length_cons,List.length_append,List.length_nil] at hb;omega)]
theorem bytesOf_extract (s:ByteArray) {i e:Int} : bytesOf (s.extract i.toNat e.toNat)=sl s i e:=by
 unfold sl bytesOf
 rw [ByteArray.data_extract,Array.toList_extract]
 simp only [List.extract_eq_take_drop,List.map_take,List.map_drop]
 rw [List.take_drop]
 rcases Nat.le_total i.toNat e.toNat with h|h
 ·
  rw [show i.toNat+(e.toNat - i.toNat)=e.toNat by omega]
 rw [show e.toNat - i.toNat=0 by omega,Nat.add_zero,List.drop_eq_nil_of_le (by rw [List.length_take];omega),List.drop_eq_nil_of_le (by rw [List.length_take];omega)]
theorem toList_bytesOf {a b:ByteArray} (h:a.toList=b.toList):bytesOf a=bytesOf b:=by
 unfold bytesOf
 rw [← ByteArray.toList_eq, ← ByteArray.toList_eq,h]
theorem word_ev (s a:ByteArray) (hn:s.size≤4611686018427387904) (ha:a.size≤100) (i:Int) (h0:0≤i) (h1:i≤s.size) :
 (∃ e,rW.f s i a=some (true,s,e)∧i≤e∧e≤s.size∧sl s i e=bytesOf a)∨rW.f s i a=some (false,s,i):=by
 unfold rW.f
 rw [wr (by omega) (by omega)]
 by_cases h2:(s.size:Int) - i<(a.size:Int)
 ·
  exact .inr (by rw [if_pos h2])
 rw [if_neg h2,if_pos h0,wr (by omega) (by omega),if_pos (by omega),if_pos (by omega)]
 by_cases h3:(s.extract i.toNat (i+(a.size:Int)).toNat).toList=a.toList
 ·
  refine .inl ⟨i+(a.size:Int),by rw [if_pos h3],by omega,by omega,?_⟩
  rw [← bytesOf_extract];exact toList_bytesOf h3
 exact .inr (by rw [if_neg h3])
theorem word_back (s a:ByteArray) (hn:s.size≤4611686018427387904) (ha:a.size≤100) (i:Int) (h:At (bytesOf s) i (bytesOf a)):rW.f s i a=some (true,s,i+a.size):=by
 have hb:=h.bound
 rw [bytesOf_length,bytesOf_length] at hb
 rcases word_ev s a hn ha i hb.1 (by omega) with ⟨e,h1,h2,h3,h4⟩|h1
 ·
  have hl:=sl_len hb.1 h2 h3
  rw [h4,bytesOf_length] at hl
  rw [h1];congr 3;omega
 exfalso
 unfold rW.f at h1
 rw [wr (by omega) (by omega),if_neg (by omega),if_pos hb.1,wr (by omega) (by omega),if_pos (by omega),if_pos hb.2] at h1
 have h5:=h.slice
 rw [bytesOf_length] at h5
 have h6:bytesOf (s.extract i.toNat (i+(a.size:Int)).toNat)=bytesOf a:=by rw [bytesOf_extract];exact h5
 have h7:s.extract i.toNat (i+(a.size:Int)).toNat=a:=by rw [← strOfNums_bytesOf (s.extract i.toNat (i+(a.size:Int)).toNat),h6,strOfNums_bytesOf]
 rw [if_pos (by rw [h7])] at h1
 cases h1
theorem word_no (s:ByteArray) (x:List UInt8) (hn:s.size≤4611686018427387904) (hx:(⟨x.toArray⟩:ByteArray).size≤100) (i:Int) (h0:0≤i) (h1:i≤s.size) {c:Int} {r:List Int} (hc:bytesOf ⟨x.toArray⟩=c :: r) (hb:bt s i≠c):rW.f s i ⟨x.toArray⟩=some (false,s,i):=by
 rcases word_ev s _ hn hx i h0 h1 with ⟨e,h2,h3,h4,h5⟩|h2
 ·
  exfalso
  have hl:=sl_len h0 h3 h4
  rw [h5,hc] at hl
  simp only [List.length_cons] at hl
  rw [sl_cons h0 (by omega) h4,hc] at h5
  exact hb (List.cons.inj h5).1
 exact h2
end Go.Proofs.YtnejkimpkaopoaaGreatDoor.U

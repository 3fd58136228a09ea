/- The reference's reader: strings and words. -/
import Derived.Test.YtbkgoccnegjdhaaU2
namespace Go.Proofs.Ytbkgoccnegjdhaa.U
open Go.RowKit Go.Proofs.YtbkgoccnegjdhaaW.PrintWords Go.Proofs.Ytbkgoccnegjdhaa.Q
/-- The bytes from one place to another. -/
def sl (s:ByteArray) (i e:Int):List Int:=((bytesOf s).take e.toNat).drop i.toNat
theorem sl_len {s:ByteArray} {i e:Int} (h0:0≤i) (h1:i≤e) (h2:e≤s.size):((sl s i e).length:Int)=e - i:=by
  unfold sl
  rw [List.length_drop,List.length_take,bytesOf_length];omega
theorem sl_nil {s:ByteArray} {i:Int} : sl s i i=[]:=by
  unfold sl
  apply List.drop_eq_nil_of_le
  rw [List.length_take];omega
theorem sl_cons {s:ByteArray} {i e:Int} (h0:0≤i) (h1:i<e) (h2:e≤s.size):sl s i e=bt s i :: sl s (i+1) e:=by
  have hb:=bytesOf_length s
  unfold sl
  have hlt:i.toNat<((bytesOf s).take e.toNat).length:=by rw [List.length_take,hb];omega
  rw [List.drop_eq_getElem_cons hlt,show (i+1).toNat=i.toNat+1 by omega]
  congr 1
  rw [List.getElem_take, ← rd_bytesOf]
  unfold rd
  rw [List.getD_eq_getElem?_getD,List.getElem?_eq_getElem om]
  simp
theorem sl_at {s:ByteArray} {i e:Int} (h0:0≤i) (h1:i≤e) (h2:e≤s.size):At (bytesOf s) i (sl s i e):=by
  have hl:=sl_len h0 h1 h2
  refine At.of_slice h0 (by rw [hl,bytesOf_length];omega) ?_
  rw [hl,show i+(e - i)=e by omega];rfl
theorem bt_in {s:ByteArray} {i:Int} (h:bt s i≠0):i<(s.size:Int):=by
  apply Int.lt_of_not_ge
  intro hh
  exact h (bt_out hh)
theorem hexDigit_ev (c:Int) : ∃ v ok,Ev (fun k=>sH.f k c) (v,ok)∧(ok=true→c≠34∧c≠92∧c≠0):=by
  have j1f : ∃ v ok,Ev (fun k=>sH.j1 k c false) (v,ok)∧(ok=true→c≠34∧c≠92∧c≠0):=by
    by_cases h1:65≤c
    · by_cases h2:c≤70
      · exact ⟨_,true,Ev.const _ fun k=>by simp only [sH.j1];rw [if_neg (by simp),if_pos h1,if_pos h2],fun _=>by omega⟩
      · exact ⟨_,false,Ev.const _ fun k=>by simp only [sH.j1];rw [if_neg (by simp),if_pos h1,if_neg h2],fun h=>by cases h⟩
    · exact ⟨_,false,Ev.const _ fun k=>by simp only [sH.j1];rw [if_neg (by simp),if_neg h1],fun h=>by cases h⟩
  have j0f : ∃ v ok,Ev (fun k=>sH.j0 k c false) (v,ok)∧(ok=true→c≠34∧c≠92∧c≠0):=by
    obtain ⟨v,ok,hj,hok⟩:=j1f
    by_cases h1:97≤c
    · by_cases h2:c≤102
      · refine ⟨_,true,Ev.step (f:=fun k=>sH.j1 k c true) (fun k=>by simp only [sH.j0];rw [if_neg (by simp),if_pos h1,decide_eq_true h2]) (Ev.const _ fun k=>by simp only [sH.j1];rw [if_pos (by trivial)]),fun _=>by omega⟩
      · exact ⟨v,ok,Ev.step (f:=fun k=>sH.j1 k c false) (fun k=>by simp only [sH.j0];rw [if_neg (by simp),if_pos h1,decide_eq_false h2]) hj,hok⟩
    · exact ⟨v,ok,Ev.step (f:=fun k=>sH.j1 k c false) (fun k=>by simp only [sH.j0];rw [if_neg (by simp),if_neg h1]) hj,hok⟩
  obtain ⟨v,ok,hj,hok⟩:=j0f
  by_cases h1:48≤c
  · by_cases h2:c≤57
    · exact ⟨_,true,Ev.congr (f:=fun k=>sH.j0 k c true) (fun k=>by unfold sH.f;rw [if_pos h1,decide_eq_true h2]) (Ev.const _ fun k=>by simp only [sH.j0];rw [if_pos (by trivial)]),fun _=>by omega⟩
    · exact ⟨v,ok,Ev.congr (f:=fun k=>sH.j0 k c false) (fun k=>by unfold sH.f;rw [if_pos h1,decide_eq_false h2]) hj,hok⟩
  · exact ⟨v,ok,Ev.congr (f:=fun k=>sH.j0 k c false) (fun k=>by unfold sH.f;rw [if_neg h1]) hj,hok⟩
def simple (c:Int):Prop:=c=34∨c=92∨c=47∨c=98∨c=102∨c=110∨c=114∨c=116
instance (c:Int):Decidable (simple c):=by unfold simple;infer_instance
theorem esc_split (s:ByteArray) (i:Int) (h0:0≤i) (k:Nat):rX.f k s i=rX.j0 k (bt s i) (decide (simple (bt s i))) s i:=by
  unfold rX.f
  rw [here_in h0,Option.bind_some]
  dsimp only
  generalize bt s i=c
  repeat' split
  all_goals first
    | (rename_i h;subst h;rfl)
    | (congr 1;unfold simple;simp_all;rfl)
    | (congr 1;unfold simple;simp_all)
theorem esc_loop (s:ByteArray) (hn:s.size≤4611686018427387904) (d:Nat) : ∀ x3 i:Int,0≤x3→4 - x3=d→0≤i→i≤s.size →
    ∃ ok e,Ev (fun k=>rX.l0 k x3 s i) (ok,s,e)∧e≤s.size∧i≤e∧(ok=true → ∀ q,i≤q→q<e→bt s q≠34∧bt s q≠92):=by
  induction d with
  | zero =>
    intro x3 i hx hd h0 h1
    exact ⟨true,i,Ev.const _ fun k=>by simp only [rX.l0];rw [if_neg om],h1,Int.le_refl _,fun _ q h2 h3=>by omega⟩
  | succ d ih =>
    intro x3 i hx hd h0 h1
    obtain ⟨v,ok,hh,hok⟩:=hexDigit_ev (bt s i)
    cases ok with
    | false =>
      refine ⟨false,i,Ev.step (f:=fun k=>(sH.f k (bt s i)).bind fun t=>if t.2=true then rX.l0 k (x3+1) s (i+1) else some (false,s,i)) (fun k=>?_) (Ev.bind hh (Ev.congr (fun k=>by rw [if_neg (by simp)]) (Ev.now _))),h1,Int.le_refl _,fun h=>by cases h⟩
      simp only [rX.l0]
      rw [if_pos om,here_in h0,Option.bind_some]
      dsimp only
      rw [wr om om,wr om om]
    | true =>
      obtain ⟨hc1,hc2,hc3⟩:=hok rfl
      have hi:=bt_in hc3
      obtain ⟨ok2,e,he,hle,hie,hq⟩:=ih (x3+1) (i+1) om om om om
      refine ⟨ok2,e,Ev.step (f:=fun k=>(sH.f k (bt s i)).bind fun t=>if t.2=true then rX.l0 k (x3+1) s (i+1) else some (false,s,i)) (fun k=>?_) (Ev.bind hh (Ev.congr (fun k=>by rw [if_pos (by trivial)]) he)),hle,by omega,fun h q h2 h3=>?_⟩
      · simp only [rX.l0]
        rw [if_pos om,here_in h0,Option.bind_some]
        dsimp only
        rw [wr om om,wr om om]
      · by_cases e':q=i
        · subst e';exact ⟨hc1,hc2⟩
        · exact hq h q om h3
theorem escape_ev (s:ByteArray) (hn:s.size≤4611686018427387904) (i:Int) (h0:0≤i) (h1:i≤s.size) :
    ∃ ok e,Ev (fun k=>rX.f k s i) (ok,s,e)∧e≤s.size∧i≤e∧(ok=true→i<e ∧ ∀ q,i<q→q<e→bt s q≠34∧bt s q≠92):=by
  by_cases hc:simple (bt s i)
  · have hi:i<(s.size:Int):=bt_in (by unfold simple at hc;omega)
    refine ⟨true,i+1,Ev.congr (fun k=>esc_split s i h0 k) (Ev.const _ fun k=>?_),by omega,by omega,fun _=>⟨by omega,fun q h2 h3=>by omega⟩⟩
    simp only [rX.j0]
    rw [decide_eq_true hc,if_pos (by trivial),wr om om]
  · by_cases h117:bt s i=117
    · have hi:i<(s.size:Int):=bt_in om
      obtain ⟨ok,e,he,hle,hie,hq⟩:=esc_loop s hn 4 0 (i+1) om om om om
      refine ⟨ok,e,Ev.congr (fun k=>esc_split s i h0 k) (Ev.step (fun k=>?_) he),hle,by omega,fun h=>⟨by omega,fun q h2 h3=>hq h q om h3⟩⟩
      simp only [rX.j0]
      rw [decide_eq_false hc,if_neg (by simp),if_pos h117,wr om om]
    · refine ⟨false,i,Ev.congr (fun k=>esc_split s i h0 k) (Ev.const _ fun k=>?_),h1,Int.le_refl _,fun h=>by cases h⟩
      simp only [rX.j0]
      rw [decide_eq_false hc,if_neg (by simp),if_neg h117]
theorem scan_over {s:ByteArray} {f:Int} (hf:f≤s.size) (d:Nat) : ∀ i e:Int,0≤i→e - i=d→e≤f→(∀ q,i≤q→q<e→bt s q≠34∧bt s q≠92)→ScanB (sl s e f)→ScanB (sl s i f):=by
  induction d with
  | zero=>intro i e h0 hd hle _ h;rwa [show i=e by omega]
  | succ d ih =>
    intro i e h0 hd hle hq h
    rw [sl_cons h0 om hf]
    exact .plain (hq i om om).1 (hq i om om).2 (ih (i+1) e om om hle (fun q h1 h2=>hq q om h2) h)
theorem quoted_loop (s:ByteArray) (hn:s.size≤4611686018427387904) (d:Nat) : ∀ i:Int,0≤i→i≤s.size→(s.size:Int) - i≤d →
    ∃ ok e,Ev (fun k=>rQ.l0 k s i) (ok,s,e)∧e≤s.size∧i≤e∧(ok=true→i<e∧ScanB (sl s i e)):=by
  induction d with
  | zero =>
    intro i h0 h1 hd
    exact ⟨false,i,Ev.const _ fun k=>by simp only [rQ.l0];rw [if_neg om],h1,Int.le_refl _,fun h=>by cases h⟩
  | succ d ih =>
    intro i h0 h1 hd
    by_cases hi:i<(s.size:Int)
    · by_cases h34:bt s i=34
      · refine ⟨true,i+1,Ev.const _ fun k=>?_,by omega,by omega,fun _=>⟨by omega,?_⟩⟩
        · simp only [rQ.l0]
          rw [if_pos hi,if_pos h0,if_pos h34,wr om om]
        · rw [sl_cons h0 om om,sl_nil,h34];exact .stop
      · by_cases h32:bt s i<32
        · refine ⟨false,i+1,Ev.const _ fun k=>?_,by omega,by omega,fun h=>by cases h⟩
          simp only [rQ.l0]
          rw [if_pos hi,if_pos h0,if_neg h34,if_pos h32,wr om om]
        · by_cases h92:bt s i=92
          · obtain ⟨ok,e,he,hle,hie,hq⟩:=escape_ev s hn (i+1) om om
            cases ok with
            | false =>
              refine ⟨false,e,Ev.step (f:=fun k=>(rX.f k s (i+1)).bind fun t=>if t.1=true then rQ.l0 k t.2.1 t.2.2 else some (false,t.2.1,t.2.2)) (fun k=>?_) (Ev.bind he (Ev.congr (fun k=>by rw [if_neg (by simp)]) (Ev.now _))),hle,by omega,fun h=>by cases h⟩
              simp only [rQ.l0]
              rw [if_pos hi,if_pos h0,if_neg h34,if_neg h32,if_pos h92,wr om om]
            | true =>
              obtain ⟨hlt,hq⟩:=hq rfl
              obtain ⟨ok2,e2,he2,hle2,hie2,hs2⟩:=ih e om hle om
              refine ⟨ok2,e2,Ev.step (f:=fun k=>(rX.f k s (i+1)).bind fun t=>if t.1=true then rQ.l0 k t.2.1 t.2.2 else some (false,t.2.1,t.2.2)) (fun k=>?_) (Ev.bind he (Ev.congr (fun k=>by rw [if_pos (by trivial)]) he2)),hle2,by omega,fun h=>⟨by omega,?_⟩⟩
              · simp only [rQ.l0]
                rw [if_pos hi,if_pos h0,if_neg h34,if_neg h32,if_pos h92,wr om om]
              · rw [sl_cons h0 om hle2,h92,sl_cons om om hle2]
                exact .esc (scan_over hle2 (e - (i+1+1)).toNat (i+1+1) e om om hie2 (fun q h1 h2=>hq q om h2) (hs2 h).2)
          · obtain ⟨ok,e,he,hle,hie,hs⟩:=ih (i+1) om om om
            refine ⟨ok,e,Ev.step (fun k=>?_) he,hle,by omega,fun h=>⟨by omega,?_⟩⟩
            · simp only [rQ.l0]
              rw [if_pos hi,if_pos h0,if_neg h34,if_neg h32,if_neg h92,wr om om]
            · have:=(hs h).1
              rw [sl_cons h0 om hle];exact .plain h34 h92 (hs h).2
    · exact ⟨false,i,Ev.const _ fun k=>by simp only [rQ.l0];rw [if_neg hi],h1,Int.le_refl _,fun h=>by cases h⟩
theorem quoted_ev (s:ByteArray) (hn:s.size≤4611686018427387904) (i:Int) (h0:0≤i) (h34:bt s i=34) :
    ∃ ok e,Ev (fun k=>rQ.f k s i) (ok,s,e)∧e≤s.size∧i<e∧(ok=true→StrOK (sl s i e)):=by
  have hi:=bt_in (s:=s) (i:=i) om
  obtain ⟨ok,e,he,hle,hie,hs⟩:=quoted_loop s hn ((s.size:Int) - (i+1)).toNat (i+1) om om om
  refine ⟨ok,e,Ev.congr (fun k=>?_) he,hle,by omega,fun h=>⟨sl s (i+1) e,?_,(hs h).2⟩⟩
  · unfold rQ.f
    rw [wr om om]
  · rw [sl_cons h0 om hle,h34]
/-- What word says: it goes over the word where it stands. -/
theorem bytesOf_extract (s:ByteArray) {i e:Int} : bytesOf (s.extract i.toNat e.toNat)=sl s i e:=by
  unfold sl bytesOf
  rw [ByteArray.data_extract,Array.toList_extract]
  simp only [List.extract_eq_take_drop,List.map_take,List.map_drop]
  rw [List.take_drop]
  rcases Nat.le_total i.toNat e.toNat with h|h
  · rw [show i.toNat+(e.toNat - i.toNat)=e.toNat by omega]
  · rw [show e.toNat - i.toNat=0 by omega,Nat.add_zero,List.drop_eq_nil_of_le (by rw [List.length_take];omega),List.drop_eq_nil_of_le (by rw [List.length_take];omega)]
theorem toList_bytesOf {a b:ByteArray} (h:a.toList=b.toList):bytesOf a=bytesOf b:=by
  unfold bytesOf
  rw [← ByteArray.toList_eq, ← ByteArray.toList_eq,h]
theorem word_ev (s a:ByteArray) (hn:s.size≤4611686018427387904) (ha:a.size≤100) (i:Int) (h0:0≤i) (h1:i≤s.size) :
    (∃ e,rW.f s i a=some (true,s,e)∧i≤e∧e≤s.size∧sl s i e=bytesOf a)∨rW.f s i a=some (false,s,i):=by
  unfold rW.f
  rw [wr om om]
  by_cases h2:(s.size:Int) - i<(a.size:Int)
  · exact .inr (by rw [if_pos h2])
  · rw [if_neg h2,if_pos h0,wr om om,if_pos om,if_pos om]
    by_cases h3:(s.extract i.toNat (i+(a.size:Int)).toNat).toList=a.toList
    · refine .inl ⟨i+(a.size:Int),by rw [if_pos h3],by omega,by omega,?_⟩
      rw [← bytesOf_extract];exact toList_bytesOf h3
    · exact .inr (by rw [if_neg h3])
end Go.Proofs.Ytbkgoccnegjdhaa.U

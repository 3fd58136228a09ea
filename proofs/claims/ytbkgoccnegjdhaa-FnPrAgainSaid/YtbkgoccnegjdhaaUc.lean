/- What the package writes of a JSON text, and what it writes of that once more: the same. -/
import Derived.Test.YtbkgoccnegjdhaaUi
namespace Go.Proofs.Ytbkgoccnegjdhaa.U
open Go.RowKit Go.Proofs.YtbkgoccnegjdhaaW.PrintWords Go.Proofs.YtbkgoccnegjdhaaW.PrintLast Go.Proofs.YtbkgoccnegjdhaaW.PrintMore Go.Proofs.Ytbkgoccnegjdhaa.M Go.Proofs.Ytbkgoccnegjdhaa.Q
set_option linter.unusedVariables false
theorem str_app (a b:List Int):strOfNums (a++b)=strOfNums a++strOfNums b:=by
  apply ByteArray.ext
  rw [ByteArray.data_append]
  apply Array.ext'
  rw [Array.toList_append,strOfNums_data,strOfNums_data,strOfNums_data,List.map_append]
theorem str_bytes (P:ByteArray):strOfNums (bytesOf P)=P:=by
  apply ByteArray.ext
  apply Array.ext'
  rw [strOfNums_data]
  unfold bytesOf
  rw [List.map_map]
  conv=>rhs;rw [← List.map_id P.data.toList]
  apply List.map_congr_left
  intro x _
  simp
/-! ### prBlank -/
def spt (s:ByteArray):Prop:=s.size≤64 ∧ ∀ q:Int,0≤q→q<s.size→bt s q=32∨bt s q=9
theorem prBlank_l1 {s:ByteArray} {L:List ByteArray} {nL j:Int} (hs:s.size≤4611686018427387904) {b0:Bool} {Y:Prop} (hj:0≤j∧j<10)
    (hy:Ev (fun k=>lB.l0 k L nL (j+1)) b0) (hb:b0=true→Y) (d:Nat) : ∀ i:Int,0≤i→(s.size:Int) - i≤d→(∀ q,0≤q→q<i→bt s q=32∨bt s q=9)→i≤s.size →
    ∃ b,Ev (fun k=>lB.l1 k s i L nL j) b∧(b=true→spt s∧Y):=by
  induction d with
  | zero =>
    intro i h0 hd hq hle
    by_cases h64:(s.size:Int)>64
    · exact ⟨false,Ev.const _ fun k=>by simp only [lB.l1];rw [if_neg om,if_pos h64],fun h=>by cases h⟩
    · refine ⟨b0,Ev.step (fun k=>?_) hy,fun h=>⟨⟨by omega,fun q h1 h2=>hq q h1 om⟩,hb h⟩⟩
      simp only [lB.l1];rw [if_neg om,if_neg h64,wr om om]
  | succ d ih =>
    intro i h0 hd hq hle
    by_cases hi:i<(s.size:Int)
    · by_cases h32:bt s i=32∨bt s i=9
      · obtain ⟨b,hb',hY⟩:=ih (i+1) om om (fun q h1 h2=>by
          by_cases e:q=i
          · subst e;exact h32
          · exact hq q h1 om) om
        refine ⟨b,Ev.step (fun k=>?_) hb',hY⟩
        simp only [lB.l1]
        rw [if_pos hi,if_pos h0,wr om om]
        by_cases h:bt s i=32
        · rw [if_pos h]
        · rw [if_neg h,if_pos om]
      · exact ⟨false,Ev.const _ fun k=>by simp only [lB.l1];rw [if_pos hi,if_pos h0,if_neg (fun h=>h32 (.inl h)),if_neg (fun h=>h32 (.inr h))],fun h=>by cases h⟩
    · by_cases h64:(s.size:Int)>64
      · exact ⟨false,Ev.const _ fun k=>by simp only [lB.l1];rw [if_neg om,if_pos h64],fun h=>by cases h⟩
      · refine ⟨b0,Ev.step (fun k=>?_) hy,fun h=>⟨⟨by omega,fun q h1 h2=>hq q h1 om⟩,hb h⟩⟩
        simp only [lB.l1];rw [if_neg om,if_neg h64,wr om om]
theorem prBlank_ev (W:Int) (P I:ByteArray) (sk:Bool) (hP:P.size≤2147483647) (hI:I.size≤2147483647) : ∃ b,Ev (fun k=>lB.f k W P I sk) b∧(b=true→spt P∧spt I):=by
  have hL:(([P,I]:List ByteArray).length:Int)=2:=rfl
  have h2:Ev (fun k=>lB.l0 k [P,I] (([P,I]:List ByteArray).length:Int) (1+1)) true :=
    Ev.const _ fun k=>by simp only [lB.l0];rw [hL,if_neg om]
  obtain ⟨b1,h1,hb1⟩:=prBlank_l1 (s:=I) (L:=[P,I]) (j:=1) (Y:=True) om om h2 (fun _=>trivial) I.size 0 om om (fun q _ _=>by omega) om
  have h1':Ev (fun k=>lB.l0 k [P,I] (([P,I]:List ByteArray).length:Int) (0+1)) b1 :=
    Ev.step (fun k=>by simp only [lB.l0];rw [hL,if_pos om,if_pos om,if_pos om];rfl) h1
  obtain ⟨b0,h0,hb0⟩:=prBlank_l1 (s:=P) (L:=[P,I]) (j:=0) (Y:=spt I) om om h1' (fun h=>(hb1 h).1) P.size 0 om om (fun q _ _=>by omega) om
  refine ⟨b0,Ev.congr (f:=fun k=>lB.l0 k [P,I] (([P,I]:List ByteArray).length:Int) 0) (fun k=>rfl) (Ev.step (fun k=>?_) h0),hb0⟩
  simp only [lB.l0];rw [hL,if_pos om,if_pos om,if_pos om];rfl
/-! ### what is written -/
noncomputable def prettyB (k:Nat) (s:ByteArray) (W:Int) (P I:ByteArray) (sk:Bool):Option ByteArray :=
  (pA.f k (bytesOf P) (bytesOf s) 0 true W P I sk 0 0 (-1)).bind fun t=>if t.1.length>0 then (if t.1.length<140737488355328 then some (strOfNums (t.1++[10])) else none) else some (strOfNums t.1)
/-- What a tree is written as, whole. -/
def whole (t:T) (W:Int) (P I:ByteArray):List Int:=bytesOf P++t.lay W (bytesOf I) (bytesOf P) P.size++[10]
theorem prettyB_ev {s:ByteArray} {t:T} {a e:Int} {W:Int} {P I:ByteArray} {sk:Bool} (hW : -9223372036854775808≤W∧W≤9223372036854775807) (hP:P.size≤64) (hI:I.size≤64) (hs:s.size≤2000000000) (hz:t.sz≤4096)
    (hr:Rd (bytesOf s) t a e) (h0:Wl (bytesOf s) 0 a) (he:Wl (bytesOf s) e s.size) (hu:sk=true→t.uq) (hq:sk=true → ∀ c,c ∈ bytesOf s→c≠92):Ev (fun k=>prettyB k s W P I sk) (strOfNums (whole (t.sx sk) W P I)):=by
  have hl:(bytesOf s).length≤2000000000:=by rw [bytesOf_length];exact hs
  have hst:StopAt (bytesOf s) e:=by
    obtain ⟨h1,h2,h3,h4⟩:=he
    by_cases h:e=s.size
    · left;rw [bytesOf_length];exact h
    · right;left;exact h4 e om om
  have hl3:=lim2_eq
  obtain ⟨nl',ok,h⟩:=any_lay (W:=W) (P:=P) hI hW hl hq t (bytesOf P) a e 0 0 P.size hr hu hst om om (fun _=>by rw [bytesOf_length];omega) hz om (by rw [bytesOf_length];omega)
  have h2:=any_f (any_skip om h0.toSk h)
  have hlay:=T.lay_len W (ind:=bytesOf I) (by rw [bytesOf_length];exact hI) (t.sx sk) (bytesOf P) P.size (by rw [bytesOf_length,sx_sz];omega)
  rw [sx_sz] at hlay
  have hne:0<(bytesOf P++(t.sx sk).lay W (bytesOf I) (bytesOf P) P.size).length:=by
    obtain ⟨z,c,hzc, -⟩:=T.lay_last_sx hr sk W (bytesOf I) (bytesOf P) P.size
    rw [hzc];simp;omega
  have e0:ahd (bytesOf P) (bytesOf I) 0=bytesOf P:=rfl
  rw [e0] at h2
  refine Ev.bind h2 (Ev.congr (fun k=>?_) (Ev.now _))
  dsimp only
  rw [if_pos hne,if_pos (by rw [List.length_append,bytesOf_length];omega)]
  rfl
/-! ### once more -/
def byt (c:Int):Prop:=0≤c∧c≤255
theorem bytesOf_byt (s:ByteArray) : ∀ c,c ∈ bytesOf s→byt c:=by
  intro c hc
  unfold bytesOf at hc
  obtain ⟨b,hb,e⟩:=List.mem_map.1 hc
  have:=b.toNat_lt
  unfold byt
  omega
theorem bytesOf_str {l:List Int} (h : ∀ c,c ∈ l→byt c):bytesOf (strOfNums l)=l:=by
  unfold bytesOf
  rw [strOfNums_data,List.map_map]
  conv=>rhs;rw [← List.map_id l]
  apply List.map_congr_left
  intro c hc
  have:=h c hc
  unfold byt at this
  simp only [Function.comp_apply,UInt8.toNat_ofNat',id]
  omega
theorem own_byt:Own byt:=by unfold Own byt;omega
theorem own_92:Own (fun c=>c≠92):=by unfold Own;decide
theorem spt_le {s:ByteArray} (h:spt s) : ∀ c,c ∈ bytesOf s→c≤32:=by
  intro c hc
  obtain ⟨q,h0,h1,e⟩:=bytesOf_at hc
  have:=h.2 q h0 h1
  omega
theorem spt_92 {s:ByteArray} (h:spt s) : ∀ c,c ∈ bytesOf s→c≠92:=fun c hc=>by have:=spt_le h c hc;omega
theorem whole_al {t:T} {W:Int} {P I:ByteArray} {p:Int→Prop} (ho:Own p) (ht:t.al p) (hP : ∀ c,c ∈ bytesOf P→p c) (hI : ∀ c,c ∈ bytesOf I→p c) : ∀ c,c ∈ whole t W P I→p c:=by
  unfold whole
  exact all_app (all_app hP (T.lay_al ho hI t _ _ ht hP)) (all_cons ho.1 all_nil)
theorem At.whole (l:List Int) : ∀ (a b:List Int),l=a++b→At l a.length b
  | a,[],e=>by subst e;refine ⟨by omega,by simp⟩
  | a,c :: b,e=>by
    have h:=At.whole l (a++[c]) b (by rw [e];simp)
    refine ⟨by omega,by rw [e];simp;omega,?_,by rw [show ((a++[c]).length:Int)=(a.length:Int)+1 by simp] at h;exact h⟩
    unfold rd
    rw [e,Int.toNat_natCast,List.getD_eq_getElem?_getD,List.getElem?_append_right (Nat.le_refl _),Nat.sub_self];rfl
/-- What was written reads as the tree. -/
theorem whole_rd {t:T} {W:Int} {P I:ByteArray} (hok:t.ok) (hP : ∀ c,c ∈ bytesOf P→c≤32) (hI : ∀ c,c ∈ bytesOf I→c≤32) :
    ∃ a e,Rd (whole t W P I) t a e∧Wl (whole t W P I) 0 a∧Wl (whole t W P I) e (whole t W P I).length:=by
  have h1:At (whole t W P I) 0 (bytesOf P++(t.lay W (bytesOf I) (bytesOf P) P.size++[10])):=At.whole _ [] _ (by unfold whole;simp)
  rw [At.append,At.append] at h1
  obtain ⟨ha,hb,hc⟩:=h1
  have hw:=ha.wl hP
  have hr:=Rd_lay hI t _ _ _ hok hP hb
  have hw2:=hc.wl (fun c h=>by rw [List.mem_singleton] at h;omega)
  refine ⟨_,_,hr,hw,?_⟩
  have e:((whole t W P I).length:Int)=0+((bytesOf P).length:Int)+((t.lay W (bytesOf I) (bytesOf P) P.size).length:Int)+(([10]:List Int).length:Int):=by
    unfold whole;simp only [List.length_append];push_cast;omega
  rw [e];exact hw2
theorem sx_sx {sk:Bool} {t:T} (hu:sk=true→t.uq):(t.sx sk).sx sk=t.sx sk:=by
  cases sk with
  | false=>rfl
  | true=>exact T.srt_id _ (T.srt_ss t (hu rfl))
theorem sx_uq {sk:Bool} {t:T} (hu:sk=true→t.uq):sk=true→(t.sx sk).uq:=by
  intro h
  subst h
  exact T.uq_of_ss _ (T.srt_ss t (hu rfl))
theorem whole_ne {t:T} {W:Int} {P I:ByteArray} : whole t W P I≠[]:=by unfold whole;simp
/-- The package's answer, put in once more. -/
theorem again_ev {s:ByteArray} {t:T} {a e:Int} {W:Int} {P I:ByteArray} {sk:Bool} (hW : -9223372036854775808≤W∧W≤9223372036854775807) (hP:spt P) (hI:spt I) (hz:t.sz≤4096)
    (hr:Rd (bytesOf s) t a e) (hu:sk=true→t.uq) (hq:sk=true → ∀ c,c ∈ bytesOf s→c≠92):(strOfNums (whole (t.sx sk) W P I)).size≤2000000000∧Ev (fun k=>prettyB k (strOfNums (whole (t.sx sk) W P I)) W P I sk) (strOfNums (whole (t.sx sk) W P I)):=by
  have hP1:=hP.1
  have hI1:=hI.1
  have hb:bytesOf (strOfNums (whole (t.sx sk) W P I))=whole (t.sx sk) W P I:=bytesOf_str (whole_al own_byt (sx_al (Rd.al (bytesOf_byt s) t hr)) (bytesOf_byt P) (bytesOf_byt I))
  obtain ⟨a2,e2,hr2,hw2,he2⟩:=whole_rd (t:=t.sx sk) (W:=W) (P:=P) (I:=I) (sx_ok (Rd.ok t hr)) (spt_le hP) (spt_le hI)
  have hlay:=T.lay_len W (ind:=bytesOf I) (by rw [bytesOf_length];exact hI1) (t.sx sk) (bytesOf P) P.size (by rw [bytesOf_length,sx_sz];omega)
  rw [sx_sz] at hlay
  have hsz:(strOfNums (whole (t.sx sk) W P I)).size≤2000000000:=by
    rw [strOfNums_size];unfold whole
    rw [List.length_append,List.length_append,bytesOf_length,List.length_cons,List.length_nil];omega
  refine ⟨hsz,?_⟩
  have h:=prettyB_ev (s:=strOfNums (whole (t.sx sk) W P I)) (t:=t.sx sk) (W:=W) (P:=P) (I:=I) (sk:=sk) hW hP1 hI1 hsz (by rw [sx_sz];exact hz) (by rw [hb];exact hr2) (by rw [hb];exact hw2) (by rw [hb,strOfNums_size];exact he2) (sx_uq hu)
    (fun h=>by rw [hb];exact whole_al own_92 (sx_al (Rd.al (hq h) t hr)) (spt_92 hP) (spt_92 hI))
  rw [sx_sx hu] at h
  exact h
end Go.Proofs.Ytbkgoccnegjdhaa.U

/- The reference's Unquote on a string without half surrogate pairs: its characters. -/
import Derived.Test.YtnejkimpkaopoaaGreatDoorEe
import Derived.Test.YtnejkimpkaopoaaGreatDoorQ5
namespace Go.Proofs.YtnejkimpkaopoaaGreatDoor.Q
open RowKit YtnejkimpkaopoaaGreatDoorW.PrintWords YtnejkimpkaopoaaGreatDoorW.PrintLast YtnejkimpkaopoaaGreatDoorW.PrintMore
attribute [local go_sem] max2_int min2_int max_two min_two max_three min_three max_four min_four
set_option linter.unusedVariables false
set_option linter.unusedSimpArgs false
theorem wr_ {i:Int} (h0 : -9223372036854775808≤i) (h:i≤9223372036854775807):wrap64 i=i:=by unfold wrap64;omega
theorem hexDigit_hex {c:Int} (h:hexB c) (k:Nat):sH.f (k+2) c=some (hexV c,true):=by
 unfold sH.f hexV
 rcases h with h|h|h
 ·
  rw [if_pos h.1,decide_eq_true h.2,sH.j0,if_pos rfl,if_pos h.2,show (c - 48) % 256=c - 48 by omega]
 ·
  rw [if_pos (by omega),decide_eq_false (by omega),sH.j0,if_neg (by simp),if_pos h.1,decide_eq_true h.2,sH.j1,if_pos rfl,if_neg (by omega),if_pos h.1,show (c - 97) % 256+10=c - 87 by omega]
 rw [if_pos (by omega),decide_eq_false (by omega),sH.j0,if_neg (by simp),if_neg (by omega),sH.j1,if_neg (by simp),if_pos h.1,if_pos h.2,if_neg (by omega),if_neg (by omega),show (c - 65) % 256+10=c - 55 by omega]
theorem hexDigit_any (c:Int) (k:Nat) : ∃ v ok,sH.f (k+2) c=some (v,ok)∧0≤v∧v≤300:=by
 have j1 : ∀ b, ∃ v ok,sH.j1 (k+1) c b=some (v,ok)∧0≤v∧v≤300:=by
  intro b
  rw [sH.j1]
  split
  ·
   exact ⟨_,_,rfl,by omega,by omega⟩
  split
  ·
   split
   ·
    exact ⟨_,_,rfl,by omega,by omega⟩
   exact ⟨_,_,rfl,by omega,by omega⟩
  exact ⟨_,_,rfl,by omega,by omega⟩
 have j0 : ∀ b, ∃ v ok,sH.j0 (k+2) c b=some (v,ok)∧0≤v∧v≤300:=by
  intro b
  rw [sH.j0]
  split
  ·
   exact ⟨_,_,rfl,by omega,by omega⟩
  split <;> exact j1 _
 unfold sH.f
 split <;> exact j0 _
theorem unit_step {s:ByteArray} (hs:s.size≤100000) {i j:Nat} {x c:Int} (hj:j<i+6) (hjs:j<s.size) (hi:i≤100000) (hx:0≤x∧x≤10000) (hc:bt s j=c) (hh:hexB c) (k:Nat) :
 sN.l0 (k+3) s i x j=sN.l0 (k+2) s i (x*16+hexV c) ((j+1:Nat):Int):=by
 have hv:=hexV_lt hh
 rw [sN.l0,wr_ (i:=(i:Int)+6) (by omega) (by omega),if_pos (by omega),if_pos (by omega),if_pos (by omega),hc,hexDigit_hex hh k,Option.bind_some]
 show (if true=true then sN.l0 (k+2) s i (wrap64 (wrap64 (x*16)+hexV c)) (wrap64 ((j:Int)+1)) else some (0,false))=_
 rw [if_pos rfl,wr_ (i:=x*16) (by omega) (by omega),wr_ (i:=x*16+hexV c) (by omega) (by omega),wr_ (i:=(j:Int)+1) (by omega) (by omega)]
 rfl
theorem unit_rest {s:ByteArray} (hs:s.size≤100000) {i:Nat} (hi:i≤100000) (m:Nat) : ∀ (j:Nat) (x:Int),j+m=i+6→i+6≤s.size → ∀ k:Nat, ∃ n ok,sN.l0 (k+3+m) s i x j=some (n,ok):=by
 induction m with
 | zero =>
  intro j x h1 h3 k
  refine ⟨x,true,?_⟩
  rw [show k+3+0=(k+2)+1 by omega,sN.l0,wr_ (i:=(i:Int)+6) (by omega) (by omega),if_neg (by omega)]
 | succ m ih =>
  intro j x h1 h3 k
  obtain ⟨v,ok,hv,hv0,hv1⟩:=hexDigit_any (bt s j) (k+1+m)
  rw [show k+3+(m+1)=(k+3+m)+1 by omega,sN.l0,wr_ (i:=(i:Int)+6) (by omega) (by omega),if_pos (by omega),if_pos (by omega),if_pos (by omega),show k+3+m=(k+1+m)+2 by omega,hv,Option.bind_some]
  show ∃ n ok_1,(if ok=true then sN.l0 (k+1+m+2) s i (wrap64 (wrap64 (x*16)+v)) (wrap64 ((j:Int)+1)) else some (0,false))=some (n,ok_1)
  cases ok with
  | false=>exact ⟨0,false,if_neg (by decide)⟩
  | true =>
   rw [if_pos rfl,wr_ (i:=(j:Int)+1) (by omega) (by omega),show k+1+m+2=k+3+m by omega]
   exact ih (j+1) _ (by omega) h3 k
theorem unit_any {s:ByteArray} (hs:s.size≤100000) {i:Nat} (hi:i≤s.size) (k:Nat) : ∃ n ok,sN.f (k+8) s i=some (n,ok):=by
 have hj : ∀ b,(i+6≤s.size∨b=true) → ∃ n ok,sN.j0 (k+8) s i b=some (n,ok):=by
  intro b hb
  rw [sN.j0]
  cases b with
  | true=>exact ⟨0,false,if_pos rfl⟩
  | false =>
   rw [if_neg (by decide),wr_ (i:=(i:Int)+2) (by omega) (by omega)]
   have h6:i+6≤s.size:=by rcases hb with h|h;exact h;cases h
   exact unit_rest hs (by omega) 4 (i+2) 0 (by omega) h6 k
 unfold sN.f
 rw [wr_ (i:=(s.size:Int) - i) (by omega) (by omega)]
 by_cases h6:(s.size:Int) - i<6
 ·
  rw [if_pos h6];exact hj _ (.inr rfl)
 rw [if_neg h6,if_pos (by omega),if_pos (by omega)]
 split
 ·
  rw [wr_ (i:=(i:Int)+1) (by omega) (by omega),if_pos (by omega),if_pos (by omega)]
  exact hj _ (.inl (by omega))
 exact hj _ (.inr rfl)
theorem unit_esc {s:ByteArray} (hs:s.size≤100000) {i:Nat} (hi:i+1<s.size) (h0:bt s i=92) (h1:bt s ((i+1:Nat):Int)≠117) (k:Nat):sN.f (k+1) s i=some (0,false):=by
 have hj:sN.j0 (k+1) s i true=some (0,false):=by rw [sN.j0];exact if_pos rfl
 unfold sN.f
 rw [wr_ (i:=(s.size:Int) - i) (by omega) (by omega)]
 by_cases h6:(s.size:Int) - i<6
 ·
  rw [if_pos h6];exact hj
 rw [if_neg h6,if_pos (by omega),if_pos (by omega),if_pos h0,wr_ (i:=(i:Int)+1) (by omega) (by omega),if_pos (by omega),if_pos (by omega),show ((i:Int)+1)=((i+1:Nat):Int) by omega]
 rw [show (bt s ((i+1:Nat):Int) != 117)=true by simpa using h1]
 exact hj
theorem unit_hex {s:ByteArray} (hs:s.size≤100000) {i:Nat} {a b c d:Int} (h:i+6≤s.size) (h0:bt s i=92) (h1:bt s ((i+1:Nat):Int)=117) (ha:bt s ((i+2:Nat):Int)=a) (hb:bt s ((i+3:Nat):Int)=b) (hc:bt s ((i+4:Nat):Int)=c) (hd:bt s ((i+5:Nat):Int)=d)
 (xa:hexB a) (xb:hexB b) (xc:hexB c) (xd:hexB d) (k:Nat):sN.f (k+8) s i=some (hex4 a b c d,true):=by
 have va:=hexV_lt xa
 have vb:=hexV_lt xb
 have vc:=hexV_lt xc
 have vd:=hexV_lt xd
 have e2:=Ak (show wrap64 ((i:Int)+2)=((i+2:Nat):Int) by rw [wr_ (by omega) (by omega)];omega)
 unfold sN.f
 rw [wr_ (i:=(s.size:Int) - i) (by omega) (by omega),if_neg (by omega),if_pos (by omega),if_pos (by omega),if_pos h0,wr_ (i:=(i:Int)+1) (by omega) (by omega),if_pos (by omega),if_pos (by omega)]
 rw [show ((i:Int)+1)=((i+1:Nat):Int) by omega,h1,sN.j0,if_neg (by decide),e2.out]
 rw [unit_step hs (j:=i+2) (by omega) (by omega) (by omega) (by omega) ha xa (k+4)]
 rw [unit_step hs (j:=i+2+1) (by omega) (by omega) (by omega) (by omega) hb xb (k+3)]
 rw [unit_step hs (j:=i+2+1+1) (by omega) (by omega) (by omega) (by omega) hc xc (k+2)]
 rw [unit_step hs (j:=i+2+1+1+1) (by omega) (by omega) (by omega) (by omega) hd xd (k+1)]
 rw [show k+1+2=(k+2)+1 by omega,sN.l0,wr_ (i:=(i:Int)+6) (by omega) (by omega),if_neg (by omega)]
 unfold hex4
 rw [Int.zero_mul,Int.zero_add]
theorem app_utf8 {l:List Int} (hl:l.length≤1000000) {n:Int} (h0:0≤n∧n≤1114111) (hn:n<55296∨57343<n) (k:Nat):spec_appendUTF8.f (k+1) l n=some (l++encR n):=by
 unfold spec_appendUTF8.f encR
 by_cases h1:n<128
 ·
  rw [if_pos h1,if_pos (by omega),if_pos h1,show n % 256=n by omega]
 rw [if_neg h1,if_neg h1]
 have t64:Int.tdiv n 64=n / 64:=Int.tdiv_eq_ediv_of_nonneg (by omega)
 have m64:Int.tmod n 64=n % 64:=Int.tmod_eq_emod_of_nonneg (by omega)
 by_cases h2:n<2048
 ·
  rw [if_pos h2,if_pos h2,Option.bind_some,if_pos (by simp;omega),t64,m64,wr_ (i:=n / 64) (by omega) (by omega),wr_ (by omega) (by omega),wr_ (by omega) (by omega),show (192+n / 64) % 256=192+n / 64 by omega,show (128+n % 64) % 256=128+n % 64 by omega]
 rw [if_neg h2,if_neg h2]
 have hh:spec_high.f n=some false:=by
  unfold spec_high.f
  by_cases h:55296≤n
  ·
   rw [if_pos h,decide_eq_false (by omega)]
  rw [if_neg h]
 have hw:spec_low.f n=some false:=by
  unfold spec_low.f
  by_cases h:56320≤n
  ·
   rw [if_pos h,decide_eq_false (by omega)]
  rw [if_neg h]
 rw [hh,Option.bind_some,if_neg (by simp),hw,Option.bind_some,if_neg (by omega),spec_appendUTF8.j0,if_neg (by simp)]
 have t4:Int.tdiv n 4096=n / 4096:=Int.tdiv_eq_ediv_of_nonneg (by omega)
 have t2:Int.tdiv n 262144=n / 262144:=Int.tdiv_eq_ediv_of_nonneg (by omega)
 have m6:Int.tmod (n / 64) 64=n / 64 % 64:=Int.tmod_eq_emod_of_nonneg (by omega)
 have m4:Int.tmod (n / 4096) 64=n / 4096 % 64:=Int.tmod_eq_emod_of_nonneg (by omega)
 by_cases h3:n<65536
 ·
  rw [if_pos h3,if_pos h3,Option.bind_some,if_pos (by simp;omega),t64,t4,m64,wr_ (i:=n / 64) (by omega) (by omega),m6,wr_ (i:=n / 4096) (by omega) (by omega),wr_ (i:=224+n / 4096) (by omega) (by omega),wr_ (i:=128+n / 64 % 64) (by omega) (by omega),wr_ (i:=128+n % 64) (by omega) (by omega)]
  rw [show (224+n / 4096) % 256=224+n / 4096 by omega,show (128+n / 64 % 64) % 256=128+n / 64 % 64 by omega,show (128+n % 64) % 256=128+n % 64 by omega]
 rw [if_neg h3,if_neg h3,Option.bind_some,if_pos (by simp;omega),t64,t2,t4,m64,wr_ (i:=n / 64) (by omega) (by omega),m6,wr_ (i:=n / 4096) (by omega) (by omega),m4,wr_ (i:=n / 262144) (by omega) (by omega),wr_ (i:=240+n / 262144) (by omega) (by omega),wr_ (i:=128+n / 4096 % 64) (by omega) (by omega),wr_ (i:=128+n / 64 % 64) (by omega) (by omega),wr_ (i:=128+n % 64) (by omega) (by omega)]
 rw [show (240+n / 262144) % 256=240+n / 262144 by omega,show (128+n / 4096 % 64) % 256=128+n / 4096 % 64 by omega,show (128+n / 64 % 64) % 256=128+n / 64 % 64 by omega,show (128+n % 64) % 256=128+n % 64 by omega]
theorem RB.drawn {w0 W W1:World} {v:Value} {xs:List Int} (h:RB w0 W v xs) (k:Drawn0 W W1):RB w0 W1 v xs:=by
 obtain ⟨n,rfl⟩:=k.out
 exact h.drewN n
theorem drawn_below {b:Nat} {w W W1:World} (h:Below b w W) (k:Drawn0 W W1):Below b w W1:=by
 obtain ⟨n,rfl⟩:=k.out
 exact pw_below_drewN h n
theorem short_y {x y:Int} (h:Short x y):spec_short.f x=some y:=by
 unfold spec_short.f
 cases h <;> decide
theorem short_u {x y:Int} (h:Short x y):x≠117:=by cases h <;> decide
theorem high_no {n:Int} (h:n<55296∨57343<n):spec_high.f n=some false:=by
 unfold spec_high.f
 by_cases h1:55296≤n
 ·
  rw [if_pos h1,decide_eq_false (by omega)]
 rw [if_neg h1]
theorem high_yes {n:Int} (h:55296≤n∧n≤56319):spec_high.f n=some true:=by
 unfold spec_high.f
 rw [if_pos h.1,decide_eq_true h.2]
theorem low_yes {n:Int} (h:56320≤n∧n≤57343):spec_low.f n=some true:=by
 unfold spec_low.f
 rw [if_pos h.1,decide_eq_true h.2]
theorem inner_bytes {q:ByteArray} {B:List Int} (h:bytesOf q=34 :: (B++[34])):q.size=B.length+2∧bytesOf (q.extract 1 (B.length+1))=B:=by
 have:=congrArg List.length h
 rw [bytesOf_length] at this
 simp at this
 refine ⟨by omega,?_⟩
 unfold bytesOf at h ⊢
 rw [ByteArray.data_extract,Array.toList_extract,List.extract_eq_take_drop,List.map_take,List.map_drop,h]
 simp
set_option maxHeartbeats 32000000 in
set_option maxRecDepth 100000 in
theorem sU.uq (q:ByteArray) (B O:List Int) (hq:bytesOf q=34 :: (B++[34])) (hU:Uq B O) (hs:q.size≤100000) (w:World) :
 Calls Tryz.prog 105 #[.string q] w fun e w'=>StrP w (strOfNums O) e w':=by
 obtain ⟨hqs,hqb⟩:=inner_bytes hq
 clear hq
 obtain ⟨s,hse⟩ : ∃ s,q.extract 1 (B.length+1)=s:=⟨_,rfl⟩
 have hsz:s.size=B.length:=by rw [← hse,ByteArray.size_extract];omega
 rw [hse] at hqb
 have HS:=Ak hse
 have hs1:s.size≤100000:=by omega
 have HU:Aside0 (UnI s O 0 []):=⟨O,by rw [List.drop_zero,hqb];exact hU,rfl⟩
 have HR:Aside0 (RB w w (.slice none 0 0) []):=⟨Kd.R_nil _ _ _ _ _⟩
 have HB:=Ak (Below.refl w.heap.size w)
 have hq1:q.size=s.size+2:=by omega
 obtain ⟨n1,hn1⟩ : ∃ n1,B.length+1=n1:=⟨_,rfl⟩
 rw [hn1] at hse
 have hq2:(q.size:Int) - 1=(n1:Int):=by omega
 have c1:((1:Int)≤(n1:Int))=True:=eq_true (by omega)
 have c2:((n1:Int)≤(q.size:Int))=True:=eq_true (by omega)
 clear hU hqs hqb hsz HS hq1 hn1
 go_enter Tryz.func105,Tryz.ntmps105
 go_wp2
 go_loopg [3,5] (s.size+1) (fun kq v3 v5 wl => ∃ (i:Nat) (xs:List Int),v5 = .int .i64 (i:Int)∧Aside0 (i≤s.size∧s.size - i<kq∧xs.length≤i)∧Aside0 (UnI s O i xs)∧Aside0 (RB w wl v3 xs)∧Aside0 (Below w.heap.size w wl))
 case atStart=>exact ⟨0,[],rfl,⟨by omega,by omega,by simp⟩,HU,HR,HB⟩
 case round =>
 clear HU HR HB c1 c2 hq2 hse
 obtain ⟨i,xs,rfl,HA,HI,HR,HB⟩:=hrel
 obtain ⟨a1,a2,a3⟩:=HA.out
 clear HA
 cases gk with
 | zero=>omega
 | succ k1 =>
 obtain ⟨o,hU,hO⟩:=HI.out
 clear HI
 have HO:=Ak hO
 clear hO
 generalize hD:(bytesOf s).drop i=D at hU
 cases hU with
 | nil =>
  have hi:=drop_nil hD
  obtain rfl:i=s.size:=by omega
  have cI:((s.size:Int)<(s.size:Int))=False:=eq_false (by omega)
  obtain ⟨A,c,hv⟩:=HR.out.slice
  have hst:=(hv ▸ HR.out:RB w wr (.slice A xs.length c) xs).string
  subst hv
  have hxs:strOfNums xs=strOfNums O:=by rw [← HO.out,List.append_nil]
  rw [hxs] at hst
  clear hxs
  go_wp2
  go_ret
  exact ⟨rfl,HB.out⟩
 | @plain c r o h32 h256 h34 h92 hr =>
  obtain ⟨hi,hb,hd⟩:=drop_cons hD
  have cI:((i:Int)<(s.size:Int))=True:=eq_true (by omega)
  have e0:=(bt_nat hi).trans hb
  have HI:Aside0 (UnI s O (i+1) (xs++[c])):=⟨o,by rw [hd];exact hr,by rw [← HO.out];simp⟩
  clear hD hb hd hr HO
  have q92:(c != 92)=true:=by simpa using h92
  go_wp2_with (first|((with_reducible refine gate_builtin (b := .append) (xs := #[.tmp 23, .tmp 27]) rfl ?_);at_builtin;refine ap1 (w0:=w) rfl (.tmp 23) (.tmp 27) rfl u3 xs c rfl rfl HR.out HB.out (by omega) ?_;intro v5 w5 hR5 hB5;have HR5:=Ak hR5;have HB5:=Ak hB5;clear hR5 hB5 HR HB))
  go_roundg k1
  case measure=>omega
  case rel=>exact ⟨i+1,xs++[c],by congr 1,⟨by omega,by omega,by simp;omega⟩,HI,HR5,HB5⟩
 | @esc x y r o hxy hr =>
  obtain ⟨hi0,hb0,hd0⟩:=drop_cons hD
  obtain ⟨hi1,hb1,hd1⟩:=drop_cons hd0
  have H73:=Ak (fun W=>sN.calls 1 s i 0 false W (unit_esc (by omega) (by omega) hb0 (by rw [hb1];exact short_u hxy) 0))
  have H156:=Ak (fun W=>spec_short.calls x y W (short_y hxy))
  have cI:((i:Int)<(s.size:Int))=True:=eq_true (by omega)
  have cJ:((i:Int)+1<(s.size:Int))=True:=eq_true (by omega)
  have e0:=(bt_nat hi0).trans hb0
  have e1:=(bt_nat hi1).trans hb1
  have HI:Aside0 (UnI s O (i+2) (xs++[y])):=⟨o,by rw [hd1];exact hr,by rw [← HO.out];simp⟩
  clear hD hb0 hd0 hb1 hd1 hr HO hxy
  go_wp2_with (first|(go_at_call 73;(with_reducible refine (H73.out _).mono ?_);rintro e w8 ⟨rfl,hd8⟩;have HR:=Ak (HR.out.drawn hd8);have HB:=Ak (drawn_below HB.out hd8);clear hd8)|(go_at_call 156;(refine (H156.out _).mono ?_);rintro e w8 ⟨rfl,hd8⟩;have HR:=Ak (HR.out.drawn hd8);have HB:=Ak (drawn_below HB.out hd8);clear hd8)|((with_reducible refine gate_builtin (b := .append) (xs := #[.tmp 39, .tmp 45]) rfl ?_);at_builtin;refine ap1 (w0:=w) rfl (.tmp 39) (.tmp 45) rfl u3 xs y rfl rfl HR.out HB.out (by omega) ?_;intro v5 w5 hR5 hB5;have HR5:=Ak hR5;have HB5:=Ak hB5;clear hR5 hB5 HR HB))
  go_roundg k1
  case measure=>omega
  case rel=>exact ⟨i+2,xs++[y],by congr 1,⟨by omega,by omega,by simp;omega⟩,HI,HR5,HB5⟩
 | @uni a b c d n r o ha hb hc hd hn hnn hr =>
  obtain ⟨hi0,hb0,hd0⟩:=drop_cons hD
  obtain ⟨hi1,hb1,hd1⟩:=drop_cons hd0
  obtain ⟨hi2,hb2,hd2⟩:=drop_cons hd1
  obtain ⟨hi3,hb3,hd3⟩:=drop_cons hd2
  obtain ⟨hi4,hb4,hd4⟩:=drop_cons hd3
  obtain ⟨hi5,hb5,hd5⟩:=drop_cons hd4
  have hu:=unit_hex (s:=s) (i:=i) (by omega) (by omega) hb0 hb1 hb2 hb3 hb4 hb5 ha hb hc hd 1
  obtain ⟨m2,ok2,hu2⟩:=unit_any (s:=s) (by omega) (i:=i+6) (by omega) 1
  have hlt:=hex4_lt ha hb hc hd
  rw [← hn] at hu hlt
  have hn0:=hlt.1
  have hn1:=hlt.2
  have H73:=Ak (fun W=>sN.calls (1+8) s i n true W hu)
  have H73b:=Ak (fun W=>sN.calls (1+8) s ((i+6:Nat):Int) m2 ok2 W hu2)
  rw [show ((i+6:Nat):Int)=(i:Int)+6 by omega] at H73b
  have H74:=Ak (fun W=>spec_high.calls n false W (high_no hnn))
  have H157:=Ak (fun (W:World) (v:Value) (hB:Below w.heap.size w W) (hR:RB w W v xs)=>spec_appendUTF8.calls 1 (fun _=>True) v xs (n) (xs++encR (n)) w W hB hR (app_utf8 (by omega) (by omega) (by omega) 0))
  have cI:((i:Int)<(s.size:Int))=True:=eq_true (by omega)
  have e0:=(bt_nat hi0).trans hb0
  have HI:Aside0 (UnI s O (i+6) (xs++encR n)):=⟨o,by rw [hd5];exact hr,by rw [← HO.out];simp⟩
  obtain ⟨hl1,hl2⟩:=encR_len n
  clear hD hb0 hd0 hb1 hd1 hb2 hd2 hb3 hd3 hb4 hd4 hb5 hd5 hr HO hlt hn ha hb hc hd hnn hu hu2
  cases ok2 with
  | false =>
   go_wp2_with (first|(go_at_call 73;(with_reducible refine (H73.out _).mono ?_);rintro e w8 ⟨rfl,hd8⟩;have HR:=Ak (HR.out.drawn hd8);have HB:=Ak (drawn_below HB.out hd8);clear hd8)|(go_at_call 73;(with_reducible refine (H73b.out _).mono ?_);rintro e w8 ⟨rfl,hd8⟩;have HR:=Ak (HR.out.drawn hd8);have HB:=Ak (drawn_below HB.out hd8);clear hd8)|(go_at_call 74;(refine (H74.out _).mono ?_);rintro e w8 ⟨rfl,hd8⟩;have HR:=Ak (HR.out.drawn hd8);have HB:=Ak (drawn_below HB.out hd8);clear hd8)|(go_at_call 157;(refine (H157.out _ _ HB.out HR.out).mono ?_);rintro e w8 ⟨v5,rfl,hR5,hB5,_⟩;have HR5:=Ak (show RB w w8 v5 _ from Kd.R_mono hR5 (fun _ _=>trivial));have HB5:=Ak hB5;clear hR5 hB5 HR HB))
   go_roundg k1
   case measure=>omega
   case rel=>exact ⟨i+6,xs++encR n,by congr 1,⟨by omega,by omega,by simp;omega⟩,HI,HR5,HB5⟩
  | true =>
   go_wp2_with (first|(go_at_call 73;(with_reducible refine (H73.out _).mono ?_);rintro e w8 ⟨rfl,hd8⟩;have HR:=Ak (HR.out.drawn hd8);have HB:=Ak (drawn_below HB.out hd8);clear hd8)|(go_at_call 73;(with_reducible refine (H73b.out _).mono ?_);rintro e w8 ⟨rfl,hd8⟩;have HR:=Ak (HR.out.drawn hd8);have HB:=Ak (drawn_below HB.out hd8);clear hd8)|(go_at_call 74;(refine (H74.out _).mono ?_);rintro e w8 ⟨rfl,hd8⟩;have HR:=Ak (HR.out.drawn hd8);have HB:=Ak (drawn_below HB.out hd8);clear hd8)|(go_at_call 157;(refine (H157.out _ _ HB.out HR.out).mono ?_);rintro e w8 ⟨v5,rfl,hR5,hB5,_⟩;have HR5:=Ak (show RB w w8 v5 _ from Kd.R_mono hR5 (fun _ _=>trivial));have HB5:=Ak hB5;clear hR5 hB5 HR HB))
   go_roundg k1
   case measure=>omega
   case rel=>exact ⟨i+6,xs++encR n,by congr 1,⟨by omega,by omega,by simp;omega⟩,HI,HR5,HB5⟩
 | @pair a b c d e f g h n m r o ha hb hc hd he hf hg hh hn hm h1 h2 hr =>
  obtain ⟨hi0,hb0,hd0⟩:=drop_cons hD
  obtain ⟨hi1,hb1,hd1⟩:=drop_cons hd0
  obtain ⟨hi2,hb2,hd2⟩:=drop_cons hd1
  obtain ⟨hi3,hb3,hd3⟩:=drop_cons hd2
  obtain ⟨hi4,hb4,hd4⟩:=drop_cons hd3
  obtain ⟨hi5,hb5,hd5⟩:=drop_cons hd4
  obtain ⟨hi6,hb6,hd6⟩:=drop_cons hd5
  obtain ⟨hi7,hb7,hd7⟩:=drop_cons hd6
  obtain ⟨hi8,hb8,hd8⟩:=drop_cons hd7
  obtain ⟨hi9,hb9,hd9⟩:=drop_cons hd8
  obtain ⟨hi10,hb10,hd10⟩:=drop_cons hd9
  obtain ⟨hi11,hb11,hd11⟩:=drop_cons hd10
  have hu:=unit_hex (s:=s) (i:=i) (by omega) (by omega) hb0 hb1 hb2 hb3 hb4 hb5 ha hb hc hd 1
  have hu2:=unit_hex (s:=s) (i:=i+6) (by omega) (by omega) hb6 hb7 hb8 hb9 hb10 hb11 he hf hg hh 1
  rw [← hn] at hu
  rw [← hm] at hu2
  have H73:=Ak (fun W=>sN.calls (1+8) s i n true W hu)
  have H73b:=Ak (fun W=>sN.calls (1+8) s ((i+6:Nat):Int) m true W hu2)
  rw [show ((i+6:Nat):Int)=(i:Int)+6 by omega] at H73b
  have H74:=Ak (fun W=>spec_high.calls n true W (high_yes h1))
  have H75:=Ak (fun W=>spec_low.calls m true W (low_yes h2))
  have H157:=Ak (fun (W:World) (v:Value) (hB:Below w.heap.size w W) (hR:RB w W v xs)=>spec_appendUTF8.calls 1 (fun _=>True) v xs (65536+(n - 55296)*1024+(m - 56320)) (xs++encR (65536+(n - 55296)*1024+(m - 56320))) w W hB hR (app_utf8 (by omega) (by omega) (by omega) 0))
  have cI:((i:Int)<(s.size:Int))=True:=eq_true (by omega)
  have e0:=(bt_nat hi0).trans hb0
  have HI:Aside0 (UnI s O (i+12) (xs++encR (65536+(n - 55296)*1024+(m - 56320)))):=⟨o,by rw [hd11];exact hr,by rw [← HO.out];simp⟩
  obtain ⟨hl1,hl2⟩:=encR_len (65536+(n - 55296)*1024+(m - 56320))
  obtain ⟨R,hR⟩ : ∃ R,encR (65536+(n - 55296)*1024+(m - 56320))=R:=⟨_,rfl⟩
  rw [hR] at H157 HI hl1 hl2
  clear hD hb0 hd0 hb1 hd1 hb2 hd2 hb3 hd3 hb4 hd4 hb5 hd5 hb6 hd6 hb7 hd7 hb8 hd8 hb9 hd9 hb10 hd10 hb11 hd11 hr HO hn hm ha hb hc hd he hf hg hh hu hu2 hR
  go_wp2_with (first|(go_at_call 73;(with_reducible refine (H73.out _).mono ?_);rintro e w8 ⟨rfl,hd8⟩;have HR:=Ak (HR.out.drawn hd8);have HB:=Ak (drawn_below HB.out hd8);clear hd8)|(go_at_call 73;(with_reducible refine (H73b.out _).mono ?_);rintro e w8 ⟨rfl,hd8⟩;have HR:=Ak (HR.out.drawn hd8);have HB:=Ak (drawn_below HB.out hd8);clear hd8)|(go_at_call 74;(refine (H74.out _).mono ?_);rintro e w8 ⟨rfl,hd8⟩;have HR:=Ak (HR.out.drawn hd8);have HB:=Ak (drawn_below HB.out hd8);clear hd8)|(go_at_call 75;(refine (H75.out _).mono ?_);rintro e w8 ⟨rfl,hd8⟩;have HR:=Ak (HR.out.drawn hd8);have HB:=Ak (drawn_below HB.out hd8);clear hd8)|(go_at_call 157;(refine (H157.out _ _ HB.out HR.out).mono ?_);rintro e w8 ⟨v5,rfl,hR5,hB5,_⟩;have HR5:=Ak (show RB w w8 v5 _ from Kd.R_mono hR5 (fun _ _=>trivial));have HB5:=Ak hB5;clear hR5 hB5 HR HB))
  go_roundg k1
  case measure=>omega
  case rel=>exact ⟨i+12,xs++R,by congr 1 <;> omega,⟨by omega,by omega,by simp;omega⟩,HI,HR5,HB5⟩
end Go.Proofs.YtnejkimpkaopoaaGreatDoor.Q

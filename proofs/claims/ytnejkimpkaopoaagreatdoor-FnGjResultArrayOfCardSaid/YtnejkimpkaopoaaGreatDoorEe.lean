/- gjson's unescape on the inside of a string of a JSON text: its characters. -/
import Derived.Test.YtnejkimpkaopoaaGreatDoorEd
import Derived.Test.YtnejkimpkaopoaaGreatDoorEb
import Derived.Test.YtnejkimpkaopoaaGreatDoorQ11
namespace Go.Proofs.YtnejkimpkaopoaaGreatDoor.Q
open RowKit YtnejkimpkaopoaaGreatDoorW.PrintWords YtnejkimpkaopoaaGreatDoorW.PrintLast YtnejkimpkaopoaaGreatDoorW.PrintMore
attribute [local go_sem] max2_int min2_int max_two min_two max_three min_three max_four min_four
set_option linter.unusedVariables false
set_option linter.unusedSimpArgs false
inductive Short:Int→Int→Prop
  | quote:Short 34 34
  | back:Short 92 92
  | slash:Short 47 47
  | b:Short 98 8
  | f:Short 102 12
  | n:Short 110 10
  | r:Short 114 13
  | t:Short 116 9
def hex4 (a b c d:Int):Int:=((hexV a*16+hexV b)*16+hexV c)*16+hexV d
inductive Uq:List Int→List Int→Prop
  | nil:Uq [] []
  | plain {c:Int} {r o:List Int} : 32≤c→c<256→c≠34→c≠92→Uq r o→Uq (c :: r) (c :: o)
  | esc {x y:Int} {r o:List Int} : Short x y→Uq r o→Uq (92 :: x :: r) (y :: o)
  | uni {a b c d n:Int} {r o:List Int} : hexB a→hexB b→hexB c→hexB d→n=hex4 a b c d→(n<55296∨57343<n)→Uq r o→Uq (92 :: 117 :: a :: b :: c :: d :: r) (encR n++o)
  | pair {a b c d e f g h n m:Int} {r o:List Int} : hexB a→hexB b→hexB c→hexB d→hexB e→hexB f→hexB g→hexB h→n=hex4 a b c d→m=hex4 e f g h→(55296≤n∧n≤56319)→(56320≤m∧m≤57343)→Uq r o →
      Uq (92 :: 117 :: a :: b :: c :: d :: 92 :: 117 :: e :: f :: g :: h :: r) (encR (65536+(n - 55296)*1024+(m - 56320))++o)
theorem drop_cons {s:ByteArray} {i:Nat} {c:Int} {r:List Int} (h:(bytesOf s).drop i=c :: r):i<s.size∧bt s i=c∧(bytesOf s).drop (i+1)=r:=by
 have hl:i<(bytesOf s).length:=by
  rcases Nat.lt_or_ge i (bytesOf s).length with h'|h'
  ·
   exact h'
  rw [List.drop_eq_nil_of_le h'] at h;cases h
 rw [List.drop_eq_getElem_cons hl] at h
 injection h with h1 h2
 have hs:i<s.size:=by rw [bytesOf_length] at hl;exact hl
 refine ⟨hs,?_,h2⟩
 rw [← h1, ← bt_nat hs]
 exact (List.getElem_map (l:=s.data.toList) (fun b:UInt8=>(b.toNat:Int)) (h:=hl)).symm
theorem drop_nil {s:ByteArray} {i:Nat} (h:(bytesOf s).drop i=[]):s.size≤i:=by
 have:=List.drop_eq_nil_iff.1 h
 rw [bytesOf_length] at this;exact this
def UnI (s:ByteArray) (O:List Int) (i:Nat) (xs:List Int):Prop := ∃ o,Uq ((bytesOf s).drop i) o∧xs++o=O
theorem bt_drop {s:ByteArray} {i:Nat} (hi:i≤s.size) (k:Nat) (hk:i+k<s.size):bt (s.extract i s.size) k=bt s ((i+k:Nat):Int):=by
 have h1:k<(s.extract i s.size).size:=by rw [ByteArray.size_extract];omega
 rw [← bt_nat h1, ← bt_nat hk,ByteArray.getElem_extract]
theorem sur_no {n:Int} (h:n<55296∨57343<n):utf16_IsSurrogate.f n=some false:=by
 unfold utf16_IsSurrogate.f
 rcases h with h|h
 ·
  rw [if_neg (by omega)]
 rw [if_pos (by omega),decide_eq_false (by omega)]
theorem sur_yes {n:Int} (h:55296≤n∧n≤57343):utf16_IsSurrogate.f n=some true:=by
 unfold utf16_IsSurrogate.f
 rw [if_pos h.1,decide_eq_true (by omega)]
theorem dec_pair {n m:Int} (h1:55296≤n∧n≤56319) (h2:56320≤m∧m≤57343):utf16_DecodeRune.f n m=some (65536+(n - 55296)*1024+(m - 56320)):=by
 unfold utf16_DecodeRune.f
 rw [if_pos h1.1,if_pos (by omega),if_pos h2.1,if_pos (by omega)]
 have e1:wrap32 (n - 55296)=n - 55296:=by unfold wrap32;omega
 have e2:wrap32 ((n - 55296)*1024)=(n - 55296)*1024:=by unfold wrap32;omega
 have e3:wrap32 (m - 56320)=m - 56320:=by unfold wrap32;omega
 have e4:Go.bits .or .i32 ((n - 55296)*1024) (m - 56320)=(n - 55296)*1024+(m - 56320) :=
  bits_join .i32 31 (by decide) wraps_i32 10 _ _ (by omega) (by show (n - 55296)*1024 % 1024=0;omega) (by show (n - 55296)*1024<2147483648;omega) (by omega) (by show m - 56320<1024;omega) (by show m - 56320<2147483648;omega)
 rw [e1,e2,e3,e4]
 have e5:wrap32 ((n - 55296)*1024+(m - 56320)+65536)=65536+(n - 55296)*1024+(m - 56320):=by unfold wrap32;omega
 rw [e5]
theorem RB.form8 {w0 W:World} {v:Value} {xs:List Int} (h:RB w0 W v (xs++[0,0,0,0,0,0,0,0])) : ∃ g cap,v = .slice (some ⟨g,0,none⟩) (xs.length+8) cap∧w0.heap.size≤g∧xs.length+8≤cap:=by
 obtain ⟨g,cap,e,h1,h2,h3⟩:=Kd.R_form h (by rw [List.length_append];simp)
 rw [List.length_append] at e
 subst e
 have h4:=(Kd.R_reads' h).2.1
 exact ⟨g,cap,rfl,h1,h4⟩
theorem hexN_drop {s:ByteArray} {i:Nat} {a b c d:Int} (h:i+4≤s.size) (ha:bt s (i:Nat)=a) (hb:bt s ((i+1:Nat):Int)=b) (hc:bt s ((i+2:Nat):Int)=c) (hd:bt s ((i+3:Nat):Int)=d):hexN (s.extract i s.size) 4=hex4 a b c d:=by
 have e0:=bt_drop (s:=s) (i:=i) (by omega) 0 (by omega)
 have e1:=bt_drop (s:=s) (i:=i) (by omega) 1 (by omega)
 have e2:=bt_drop (s:=s) (i:=i) (by omega) 2 (by omega)
 have e3:=bt_drop (s:=s) (i:=i) (by omega) 3 (by omega)
 unfold hexN hexN hexN hexN hexN hex4
 rw [e0,e1,e2,e3,hb,hc,hd,Nat.add_zero,ha]
 simp
theorem hexB_drop {s:ByteArray} {i:Nat} {a b c d:Int} (h:i+4≤s.size) (ha:bt s (i:Nat)=a) (hb:bt s ((i+1:Nat):Int)=b) (hc:bt s ((i+2:Nat):Int)=c) (hd:bt s ((i+3:Nat):Int)=d) (h1:hexB a) (h2:hexB b) (h3:hexB c) (h4:hexB d) : ∀ k:Nat,k<4→hexB (bt (s.extract i s.size) k):=by
 intro k hk
 rw [bt_drop (s:=s) (i:=i) (by omega) k (by omega)]
 have:k=0∨k=1∨k=2∨k=3:=by omega
 rcases this with rfl|rfl|rfl|rfl
 ·
  rw [Nat.add_zero,ha];exact h1
 ·
  rw [hb];exact h2
 ·
  rw [hc];exact h3
 rw [hd];exact h4
theorem hex4_lt {a b c d:Int} (ha:hexB a) (hb:hexB b) (hc:hexB c) (hd:hexB d):0≤hex4 a b c d∧hex4 a b c d<65536:=by
 have h1:=hexV_lt ha
 have h2:=hexV_lt hb
 have h3:=hexV_lt hc
 have h4:=hexV_lt hd
 unfold hex4
 omega
theorem encR_len (r:Int):(encR r).length≤4∧1≤(encR r).length:=by
 unfold encR
 split
 ·
  exact ⟨by simp,by simp⟩
 split
 ·
  exact ⟨by simp,by simp⟩
 split
 ·
  exact ⟨by simp,by simp⟩
 split <;> exact ⟨by simp,by simp⟩
def StrP (w:World) (x:ByteArray) (e:Ending) (w':World):Prop:=e = .returned (.string x)∧Below w.heap.size w w'
set_option maxHeartbeats 32000000 in
set_option maxRecDepth 100000 in
theorem gjson_unescape.calls (s:ByteArray) (O:List Int) (hU:Uq (bytesOf s) O) (hs:s.size≤100000) (w:World) :
 Calls Tryz.prog 98 #[.string s] w fun e w'=>StrP w (strOfNums O) e w':=by
 have HU:Aside0 (UnI s O 0 []):=⟨O,by simpa using hU,rfl⟩
 clear hU
 obtain ⟨v1,w1,hmk,hR,hB, -, -⟩:=Kd.run_make0 (P:=Tryz.prog) (W:=w) (w0:=w) (Kd.int .u8) w.heap.size 5 67 (s.size:Int) Tryz.underlying67 (.int .u8 0) 1 info5 rfl (by decide) (by omega) (ok:=fun _=>True) trivial (by omega) (by omega) (Below.refl _ w) (Nat.le_refl _)
 have HR:Aside0 (RB w w1 v1 []):=⟨hR⟩
 have HB:=Ak hB
 clear hR hB
 go_enter Tryz.func98,Tryz.ntmps98
 go_wp2
 go_loopg [3,4] (s.size+1) (fun kq v3 v4 wl => ∃ (i:Nat) (xs:List Int),v4 = .int .i64 (i:Int)∧Aside0 (i≤s.size∧s.size - i<kq∧xs.length≤i)∧Aside0 (UnI s O i xs)∧Aside0 (RB w wl v3 xs)∧Aside0 (Below w.heap.size w wl))
 case atStart=>exact ⟨0,[],rfl,⟨by omega,by omega,by simp⟩,HU,HR,HB⟩
 case round =>
 clear HU HR HB hmk
 obtain ⟨i,xs,rfl,HA,HI,HR,HB⟩:=hrel
 obtain ⟨a1,a2,a3⟩:=HA.out
 clear HA
 cases gk with
 | zero=>omega
 | succ k1 =>
 obtain ⟨o,hU,hO⟩:=HI.out
 clear HI
 have HO:=Ak hO
 clear hO
 generalize hD:(bytesOf s).drop i=D at hU
 cases hU with
 | nil =>
  have hi:=drop_nil hD
  obtain rfl:i=s.size:=by omega
  have cI:((s.size:Int)<(s.size:Int))=False:=eq_false (by omega)
  obtain ⟨A,c,hv⟩:=HR.out.slice
  have hst:=(hv ▸ HR.out:RB w wr (.slice A xs.length c) xs).string
  subst hv
  have hxs:strOfNums xs=strOfNums O:=by rw [← HO.out,List.append_nil]
  rw [hxs] at hst
  clear hxs
  go_wp2
  go_ret
  exact ⟨rfl,HB.out⟩
 | @plain c r o h32 h256 h34 h92 hr =>
  obtain ⟨hi,hb,hd⟩:=drop_cons hD
  have cI:((i:Int)<(s.size:Int))=True:=eq_true (by omega)
  have e0:=(bt_nat hi).trans hb
  have HI:Aside0 (UnI s O (i+1) (xs++[c])):=⟨o,by rw [hd];exact hr,by rw [← HO.out];simp⟩
  clear hD hb hd hr HO
  have q92:(c == 92)=false:=by simpa using h92
  have q32:decide (c<32)=false:=by simp;omega
  go_wp2_with (first|((with_reducible refine gate_builtin (b := .append) (xs := #[.tmp 16, .tmp 20]) rfl ?_);at_builtin;refine ap1 (w0:=w) rfl (.tmp 16) (.tmp 20) rfl u3 xs c rfl rfl HR.out HB.out (by omega) ?_;intro v5 w5 hR5 hB5;have HR5:=Ak hR5;have HB5:=Ak hB5;clear hR5 hB5 HR HB))
  go_roundg k1
  case measure=>omega
  case rel=>exact ⟨i+1,xs++[c],by congr 1,⟨by omega,by omega,by simp;omega⟩,HI,HR5,HB5⟩
 | @esc x y r o hxy hr =>
  obtain ⟨hi,hb,hd⟩:=drop_cons hD
  obtain ⟨hi1,hb1,hd1⟩:=drop_cons hd
  have cI:((i:Int)<(s.size:Int))=True:=eq_true (by omega)
  have cJ:((i:Int)+1<(s.size:Int))=True:=eq_true (by omega)
  have cK:((s.size:Int)≤(i:Int)+1)=False:=eq_false (by omega)
  have e0:=(bt_nat hi).trans hb
  have e1:=(bt_nat hi1).trans hb1
  have HI:Aside0 (UnI s O (i+2) (xs++[y])):=⟨o,by rw [hd1];exact hr,by rw [← HO.out];simp⟩
  clear hD hb hd hr HO hb1 hd1
  cases hxy with
  | quote =>
   go_wp2_with (first|((with_reducible refine gate_builtin (b := .append) (xs := #[.tmp 84, .tmp 85]) rfl ?_);at_builtin;refine ap1 (w0:=w) rfl (.tmp 84) (.tmp 85) rfl u3 xs 34 rfl rfl HR.out HB.out (by omega) ?_;intro v5 w5 hR5 hB5;have HR5:=Ak hR5;have HB5:=Ak hB5;clear hR5 hB5 HR HB))
   go_roundg k1
   case measure=>omega
   case rel=>exact ⟨i+2,xs++[34],by congr 1 <;> omega,⟨by omega,by omega,by simp;omega⟩,HI,HR5,HB5⟩
  | back =>
   go_wp2_with (first|((with_reducible refine gate_builtin (b := .append) (xs := #[.tmp 49, .tmp 50]) rfl ?_);at_builtin;refine ap1 (w0:=w) rfl (.tmp 49) (.tmp 50) rfl u3 xs 92 rfl rfl HR.out HB.out (by omega) ?_;intro v5 w5 hR5 hB5;have HR5:=Ak hR5;have HB5:=Ak hB5;clear hR5 hB5 HR HB))
   go_roundg k1
   case measure=>omega
   case rel=>exact ⟨i+2,xs++[92],by congr 1 <;> omega,⟨by omega,by omega,by simp;omega⟩,HI,HR5,HB5⟩
  | slash =>
   go_wp2_with (first|((with_reducible refine gate_builtin (b := .append) (xs := #[.tmp 54, .tmp 55]) rfl ?_);at_builtin;refine ap1 (w0:=w) rfl (.tmp 54) (.tmp 55) rfl u3 xs 47 rfl rfl HR.out HB.out (by omega) ?_;intro v5 w5 hR5 hB5;have HR5:=Ak hR5;have HB5:=Ak hB5;clear hR5 hB5 HR HB))
   go_roundg k1
   case measure=>omega
   case rel=>exact ⟨i+2,xs++[47],by congr 1 <;> omega,⟨by omega,by omega,by simp;omega⟩,HI,HR5,HB5⟩
  | b =>
   go_wp2_with (first|((with_reducible refine gate_builtin (b := .append) (xs := #[.tmp 59, .tmp 60]) rfl ?_);at_builtin;refine ap1 (w0:=w) rfl (.tmp 59) (.tmp 60) rfl u3 xs 8 rfl rfl HR.out HB.out (by omega) ?_;intro v5 w5 hR5 hB5;have HR5:=Ak hR5;have HB5:=Ak hB5;clear hR5 hB5 HR HB))
   go_roundg k1
   case measure=>omega
   case rel=>exact ⟨i+2,xs++[8],by congr 1 <;> omega,⟨by omega,by omega,by simp;omega⟩,HI,HR5,HB5⟩
  | f =>
   go_wp2_with (first|((with_reducible refine gate_builtin (b := .append) (xs := #[.tmp 64, .tmp 65]) rfl ?_);at_builtin;refine ap1 (w0:=w) rfl (.tmp 64) (.tmp 65) rfl u3 xs 12 rfl rfl HR.out HB.out (by omega) ?_;intro v5 w5 hR5 hB5;have HR5:=Ak hR5;have HB5:=Ak hB5;clear hR5 hB5 HR HB))
   go_roundg k1
   case measure=>omega
   case rel=>exact ⟨i+2,xs++[12],by congr 1 <;> omega,⟨by omega,by omega,by simp;omega⟩,HI,HR5,HB5⟩
  | n =>
   go_wp2_with (first|((with_reducible refine gate_builtin (b := .append) (xs := #[.tmp 69, .tmp 70]) rfl ?_);at_builtin;refine ap1 (w0:=w) rfl (.tmp 69) (.tmp 70) rfl u3 xs 10 rfl rfl HR.out HB.out (by omega) ?_;intro v5 w5 hR5 hB5;have HR5:=Ak hR5;have HB5:=Ak hB5;clear hR5 hB5 HR HB))
   go_roundg k1
   case measure=>omega
   case rel=>exact ⟨i+2,xs++[10],by congr 1 <;> omega,⟨by omega,by omega,by simp;omega⟩,HI,HR5,HB5⟩
  | r =>
   go_wp2_with (first|((with_reducible refine gate_builtin (b := .append) (xs := #[.tmp 74, .tmp 75]) rfl ?_);at_builtin;refine ap1 (w0:=w) rfl (.tmp 74) (.tmp 75) rfl u3 xs 13 rfl rfl HR.out HB.out (by omega) ?_;intro v5 w5 hR5 hB5;have HR5:=Ak hR5;have HB5:=Ak hB5;clear hR5 hB5 HR HB))
   go_roundg k1
   case measure=>omega
   case rel=>exact ⟨i+2,xs++[13],by congr 1 <;> omega,⟨by omega,by omega,by simp;omega⟩,HI,HR5,HB5⟩
  | t =>
   go_wp2_with (first|((with_reducible refine gate_builtin (b := .append) (xs := #[.tmp 79, .tmp 80]) rfl ?_);at_builtin;refine ap1 (w0:=w) rfl (.tmp 79) (.tmp 80) rfl u3 xs 9 rfl rfl HR.out HB.out (by omega) ?_;intro v5 w5 hR5 hB5;have HR5:=Ak hR5;have HB5:=Ak hB5;clear hR5 hB5 HR HB))
   go_roundg k1
   case measure=>omega
   case rel=>exact ⟨i+2,xs++[9],by congr 1 <;> omega,⟨by omega,by omega,by simp;omega⟩,HI,HR5,HB5⟩
 | @uni a b c d n r o ha hb hc hd hn hnn hr =>
  obtain ⟨hi,hb0,hd0⟩:=drop_cons hD
  obtain ⟨hi1,hb1,hd1⟩:=drop_cons hd0
  obtain ⟨hi2,hb2,hd2⟩:=drop_cons hd1
  obtain ⟨hi3,hb3,hd3⟩:=drop_cons hd2
  obtain ⟨hi4,hb4,hd4⟩:=drop_cons hd3
  obtain ⟨hi5,hb5,hd5⟩:=drop_cons hd4
  have hN:=hexN_drop (s:=s) (i:=i+2) (by omega) hb2 hb3 hb4 hb5
  have hX:=hexB_drop (s:=s) (i:=i+2) (by omega) hb2 hb3 hb4 hb5 ha hb hc hd
  have hlt:=hex4_lt ha hb hc hd
  rw [← hn] at hN hlt
  have hn0:=hlt.1
  have hn1:=hlt.2
  have H133:=Ak (fun W=>gjson_runeit.calls (s.extract (i+2) s.size) (by rw [ByteArray.size_extract];omega) hX W)
  rw [hN] at H133
  have H134:=Ak (fun W=>utf16_IsSurrogate.calls n false W (sur_no hnn))
  have cI:((i:Int)<(s.size:Int))=True:=eq_true (by omega)
  have cJ:((i:Int)+1<(s.size:Int))=True:=eq_true (by omega)
  have cK:((s.size:Int)≤(i:Int)+1)=False:=eq_false (by omega)
  have cL:((s.size:Int)<(i:Int)+1+5)=False:=eq_false (by omega)
  have cM:((i:Int)+2≤(s.size:Int))=True:=eq_true (by omega)
  have e0:=(bt_nat hi).trans hb0
  have e1:=(bt_nat hi1).trans hb1
  have HI:Aside0 (UnI s O (i+6) (xs++encR n)):=⟨o,by rw [hd5];exact hr,by rw [← HO.out];simp⟩
  clear hD hb0 hd0 hb1 hd1 hb2 hd2 hb3 hd3 hb4 hd4 hb5 hd5 hr HO hN hX hlt hn ha hb hc hd hnn
  go_upto_region 39 with (first|(go_at_call 133;(refine (H133.out _).mono ?_);rintro e w9 ⟨rfl,hB9⟩;have HR:=Ak (HR.out.below hB9);have HB:=Ak (HB.out.trans (hB9.mono HB.out.size));clear hB9)|(go_at_call 134;(refine (H134.out _).mono ?_);rintro e w8 ⟨rfl,⟨m8,rfl⟩⟩;have HR:=Ak (HR.out.drewN m8);have HB:=Ak (pw_below_drewN HB.out m8)))
  go_upto_region 40 with (first|((with_reducible refine gate_builtin (b := .append) (xs := #[.tmp 132, .tmp 133]) rfl ?_);at_builtin;refine ap8 (w0:=w) rfl (.tmp 132) (.tmp 133) rfl u3 xs rfl rfl HR.out HB.out (by omega) ?_;intro v6 w6 hR6 hB6;have HR6:=Ak hR6;have HB6:=Ak hB6;clear hR6 hB6 HR HB))
  obtain ⟨g,cap,hv,hg,hcap⟩:=HR6.out.form8
  subst hv
  have hrow:=HR6.out.row4 (by decide)
  obtain ⟨R,hRe⟩ : ∃ R,encR n=R:=⟨_,rfl⟩
  have hlen:R.length≤4∧1≤R.length:=by rw [← hRe];exact encR_len _
  have HE:=Ak hRe
  have H136:=Ak (utf8_EncodeRune.calls g xs.length (cap - xs.length) (n) (by omega) w6 hrow)
  rw [show EncP w6 g xs.length (n)=fun e w'=>e = .returned (.int .i64 (R.length:Int))∧w'=putB w6 g xs.length R by unfold EncP;rw [hRe]] at H136
  rw [hRe] at HI
  have hR7:RB w (putB w6 g xs.length R) (.slice (some ⟨g,0,none⟩) (xs.length+R.length) cap) (xs++R):=by
   have h7:=RB.put R xs [0,0,0,0,0,0,0,0] (by simp;omega) HR6.out
   have h8:=Kd.R_take (m:=xs.length+R.length) h7 (by first|(simp;done)|(simp;omega))
   rw [← List.length_append,List.take_left] at h8
   rw [List.length_append] at h8
   exact h8
  have HR7:=Ak hR7
  have HB7:=Ak (putB_below hg R xs.length HB6.out)
  clear hR7 hrow hRe
  generalize putB w6 g xs.length R=w7 at H136 HR7 HB7
  obtain ⟨hl1,hl2⟩:=hlen
  have hci:((xs.length:Int)≤(cap:Int))=True:=eq_true (by omega)
  have hcj:((xs.length:Int)+(R.length:Int)≤(cap:Int))=True:=eq_true (by omega)
  have hck:(xs.length=cap)=False:=eq_false (by omega)
  go_wp2_with (first|(go_at_call 136;(refine (H136.out).mono ?_);rintro e w8 ⟨rfl,rfl⟩))
  go_roundg k1
  case measure=>omega
  case rel=>exact ⟨i+6,xs++R,by congr 1 <;> omega,⟨by omega,by omega,by simp;omega⟩,HI,HR7,HB7⟩
 | @pair a b c d e f g h n m r o ha hb hc hd he hf hg hh hn hm h1 h2 hr =>
  obtain ⟨hi,hb0,hd0⟩:=drop_cons hD
  obtain ⟨hi1,hb1,hd1⟩:=drop_cons hd0
  obtain ⟨hi2,hb2,hd2⟩:=drop_cons hd1
  obtain ⟨hi3,hb3,hd3⟩:=drop_cons hd2
  obtain ⟨hi4,hb4,hd4⟩:=drop_cons hd3
  obtain ⟨hi5,hb5,hd5⟩:=drop_cons hd4
  obtain ⟨hi6,hb6,hd6⟩:=drop_cons hd5
  obtain ⟨hi7,hb7,hd7⟩:=drop_cons hd6
  obtain ⟨hi8,hb8,hd8⟩:=drop_cons hd7
  obtain ⟨hi9,hb9,hd9⟩:=drop_cons hd8
  obtain ⟨hia,hba,hda⟩:=drop_cons hd9
  obtain ⟨hib,hbb,hdb⟩:=drop_cons hda
  have hN:=hexN_drop (s:=s) (i:=i+2) (by omega) hb2 hb3 hb4 hb5
  have hX:=hexB_drop (s:=s) (i:=i+2) (by omega) hb2 hb3 hb4 hb5 ha hb hc hd
  have hN2:=hexN_drop (s:=s) (i:=i+8) (by omega) hb8 hb9 hba hbb
  have hX2:=hexB_drop (s:=s) (i:=i+8) (by omega) hb8 hb9 hba hbb he hf hg hh
  rw [← hn] at hN
  rw [← hm] at hN2
  have H133:=Ak (fun W=>gjson_runeit.calls (s.extract (i+2) s.size) (by rw [ByteArray.size_extract];omega) hX W)
  have H133b:=Ak (fun W=>gjson_runeit.calls (s.extract (i+8) s.size) (by rw [ByteArray.size_extract];omega) hX2 W)
  rw [hN] at H133
  rw [hN2] at H133b
  have H134:=Ak (fun W=>utf16_IsSurrogate.calls n true W (sur_yes (by omega)))
  have H135:=Ak (fun W=>utf16_DecodeRune.calls n m (65536+(n - 55296)*1024+(m - 56320)) W (dec_pair h1 h2))
  have cI:((i:Int)<(s.size:Int))=True:=eq_true (by omega)
  have cJ:((i:Int)+1<(s.size:Int))=True:=eq_true (by omega)
  have cK:((s.size:Int)≤(i:Int)+1)=False:=eq_false (by omega)
  have cL:((s.size:Int)<(i:Int)+1+5)=False:=eq_false (by omega)
  have cM:((i:Int)+2≤(s.size:Int))=True:=eq_true (by omega)
  have cN:decide ((6:Int)≤((s.size - (i+1+5):Nat):Int))=true:=decide_eq_true (by omega)
  have e0:=(bt_nat hi).trans hb0
  have e1:=(bt_nat hi1).trans hb1
  have e6:=(bt_nat hi6).trans hb6
  have e7:=(bt_nat hi7).trans hb7
  have HI:Aside0 (UnI s O (i+12) (xs++encR (65536+(n - 55296)*1024+(m - 56320)))):=⟨o,by rw [hdb];exact hr,by rw [← HO.out];simp⟩
  clear hD hb0 hd0 hb1 hd1 hb2 hd2 hb3 hd3 hb4 hd4 hb5 hd5 hb6 hd6 hb7 hd7 hb8 hd8 hb9 hd9 hba hda hbb hdb hr HO hN hX hN2 hX2 hn hm ha hb hc hd he hf hg hh
  go_upto_region 36 with (first|(go_at_call 133;(refine (H133.out _).mono ?_);rintro e w9 ⟨rfl,hB9⟩;have HR:=Ak (HR.out.below hB9);have HB:=Ak (HB.out.trans (hB9.mono HB.out.size));clear hB9)|(go_at_call 134;(refine (H134.out _).mono ?_);rintro e w8 ⟨rfl,⟨m8,rfl⟩⟩;have HR:=Ak (HR.out.drewN m8);have HB:=Ak (pw_below_drewN HB.out m8)))
  go_upto_region 39 with (first|(go_at_call 133;(refine (H133b.out _).mono ?_);rintro e w9 ⟨rfl,hB9⟩;have HR:=Ak (HR.out.below hB9);have HB:=Ak (HB.out.trans (hB9.mono HB.out.size));clear hB9)|(go_at_call 135;(refine (H135.out _).mono ?_);rintro e w8 ⟨rfl,⟨m8,rfl⟩⟩;have HR:=Ak (HR.out.drewN m8);have HB:=Ak (pw_below_drewN HB.out m8)))
  go_upto_region 40 with (first|((with_reducible refine gate_builtin (b := .append) (xs := #[.tmp 132, .tmp 133]) rfl ?_);at_builtin;refine ap8 (w0:=w) rfl (.tmp 132) (.tmp 133) rfl u3 xs rfl rfl HR.out HB.out (by omega) ?_;intro v6 w6 hR6 hB6;have HR6:=Ak hR6;have HB6:=Ak hB6;clear hR6 hB6 HR HB))
  obtain ⟨g,cap,hv,hg,hcap⟩:=HR6.out.form8
  subst hv
  have hrow:=HR6.out.row4 (by decide)
  obtain ⟨R,hRe⟩ : ∃ R,encR (65536+(n - 55296)*1024+(m - 56320))=R:=⟨_,rfl⟩
  have hlen:R.length≤4∧1≤R.length:=by rw [← hRe];exact encR_len _
  have HE:=Ak hRe
  have H136:=Ak (utf8_EncodeRune.calls g xs.length (cap - xs.length) (65536+(n - 55296)*1024+(m - 56320)) (by omega) w6 hrow)
  rw [show EncP w6 g xs.length (65536+(n - 55296)*1024+(m - 56320))=fun e w'=>e = .returned (.int .i64 (R.length:Int))∧w'=putB w6 g xs.length R by unfold EncP;rw [hRe]] at H136
  rw [hRe] at HI
  have hR7:RB w (putB w6 g xs.length R) (.slice (some ⟨g,0,none⟩) (xs.length+R.length) cap) (xs++R):=by
   have h7:=RB.put R xs [0,0,0,0,0,0,0,0] (by simp;omega) HR6.out
   have h8:=Kd.R_take (m:=xs.length+R.length) h7 (by first|(simp;done)|(simp;omega))
   rw [← List.length_append,List.take_left] at h8
   rw [List.length_append] at h8
   exact h8
  have HR7:=Ak hR7
  have HB7:=Ak (putB_below hg R xs.length HB6.out)
  clear hR7 hrow hRe
  generalize putB w6 g xs.length R=w7 at H136 HR7 HB7
  obtain ⟨hl1,hl2⟩:=hlen
  have hci:((xs.length:Int)≤(cap:Int))=True:=eq_true (by omega)
  have hcj:((xs.length:Int)+(R.length:Int)≤(cap:Int))=True:=eq_true (by omega)
  have hck:(xs.length=cap)=False:=eq_false (by omega)
  go_wp2_with (first|(go_at_call 136;(refine (H136.out).mono ?_);rintro e w8 ⟨rfl,rfl⟩))
  go_roundg k1
  case measure=>omega
  case rel=>exact ⟨i+12,xs++R,by congr 1 <;> omega,⟨by omega,by omega,by simp;omega⟩,HI,HR7,HB7⟩
end Go.Proofs.YtnejkimpkaopoaaGreatDoor.Q

/- atof64 of internal/strconv on a number's text: it returns. -/
import Derived.Test.YtnejkimpkaopoaaGreatDoorDh
import Derived.Test.YtnejkimpkaopoaaGreatDoorDc
import Derived.Test.YtnejkimpkaopoaaGreatDoorDd
import Derived.Test.YtnejkimpkaopoaaGreatDoorD6
import Derived.Test.YtnejkimpkaopoaaGreatDoorD7
namespace Go.Proofs.YtnejkimpkaopoaaGreatDoor.Q
open RowKit YtnejkimpkaopoaaGreatDoorW.PrintWords YtnejkimpkaopoaaGreatDoorW.PrintLast YtnejkimpkaopoaaGreatDoorW.PrintMore
attribute [local go_sem] max2_int min2_int max_two min_two max_three min_three max_four min_four
set_option linter.unusedVariables false
set_option linter.unusedSimpArgs false
structure PF (b:Nat) (w:World):Prop where
  fb:FB b w
  tp:TabP w
  tf : ∃ (a:Addr) (cap:Nat),w.cell? ⟨16,0,none⟩=some (.slice (some a) 23 cap)∧a.block<b ∧ ∀ i:Nat,i<23 → ∃ f:Nat,Num FloatKind.f64.format f∧w.cell? (a.add i)=some (.float .f64 f)
  opt:w.cell? ⟨10,0,none⟩=some (.bool true)
theorem PF.tabF {b:Nat} {w:World} (h:PF b w):TabF w:=by
 obtain ⟨a,cap,h1,h2,h3⟩:=h.tf
 exact ⟨a,cap,h1,h3⟩
theorem PF.below {b:Nat} {w w':World} (h:PF b w) (k:Below b w w'):PF b w':=by
 have lt:=h.fb.lc.lt
 obtain ⟨a,cap,h1,h2,h3⟩:=h.tf
 refine ⟨h.fb.below k,fun i hi=>⟨(k.cell (p:=⟨18,i*2,none⟩) (show 18<b by omega)).trans (h.tp i hi).1,(k.cell (p:=⟨18,i*2+1,none⟩) (show 18<b by omega)).trans (h.tp i hi).2⟩,?_,(k.cell (p:=⟨10,0,none⟩) (show 10<b by omega)).trans h.opt⟩
 refine ⟨a,cap,(k.cell (p:=⟨16,0,none⟩) (show 16<b by omega)).trans h1,h2,fun i hi=>?_⟩
 obtain ⟨f,f1,f2⟩:=h3 i hi
 refine ⟨f,f1,(k.cell (p:=a.add i) ?_).trans f2⟩
 unfold Addr.add;split <;> exact h2
def ErrV (v:Value):Prop:=v = .nilIface∨v = .iface 217 (.int .i64 1)∨v = .iface 217 (.int .i64 2)
def AtP (w:World) (e:Ending) (w':World):Prop:=(∃ (f n:Nat) (v:Value),e = .returned (.tuple #[.float .f64 f, .int .i64 (n:Int),v])∧ErrV v)∧Below w.heap.size w w'
theorem AtP.mk {w w':World} {f n:Nat} {v:Value} (h:ErrV v) (k:Below w.heap.size w w'):AtP w (.returned (.tuple #[.float .f64 f, .int .i64 (n:Int),v])) w':=⟨⟨f,n,v,rfl,h⟩,k⟩
set_option maxHeartbeats 16000000 in
set_option maxRecDepth 100000 in
theorem strconv_set.any (b g:Nat) (d0:Nat→Int) (s:ByteArray) (w:World) (hD:Dec w g d0 (0:Nat) 0 false false) (hs:s.size≤100000) (hn:NumT s) (hb:b≤g) :
 Calls Tryz.prog 220 #[.pointer (some ⟨g,0,none⟩), .string s] w fun e w'=>SetP b g w e w':=by
 by_cases h0:0<s.size
 ·
  exact strconv_set.calls b g d0 s w hD ⟨h0,hs⟩ hn hb
 have HD:=Ak hD
 clear hD hn
 have hc2:=HD.out.c802
 have hc3:=HD.out.c803
 have hf2:=HD.out.frozen 802
 have hf3:=HD.out.frozen 803
 have hsz:s.size=0:=by omega
 obtain rfl:s=ByteArray.empty:=ByteArray.ext (Array.eq_empty_of_size_eq_zero hsz)
 clear h0 hsz hs
 go_enter Tryz.func220,Tryz.ntmps220
 go_wp2
 go_ret
 exact ⟨BoolP.mk _,DecS.of (HD.out.setS false |>.setT false) (Dig.zero _) (by omega) (((KB.refl w hb).set_ _ _).set_ _ _)⟩
theorem zero_cells:Tryz.zeroCells253=(List.replicate 800 (Value.int .u8 0)++[Value.int .i64 0,Value.int .i64 0,Value.bool false,Value.bool false]).toArray:=by kernel_rfl
theorem rep_lo (n:Nat) (v:Value) (t:List Value) (i:Nat) (h:i<n):(List.replicate n v++t).toArray[i]? = some v:=by
 rw [List.getElem?_toArray,List.getElem?_append_left (by simpa using h),List.getElem?_replicate,if_pos h]
theorem rep_hi (n:Nat) (v:Value) (t:List Value) (i:Nat):(List.replicate n v++t).toArray[n+i]? = t[i]? := by
 rw [List.getElem?_toArray,List.getElem?_append_right (by simp)];simp
theorem rep_size (n:Nat) (v:Value) (t:List Value):(List.replicate n v++t).toArray.size=n+t.length:=by simp
theorem zero_decB:DecB Tryz.zeroCells253 (fun _=>0) (0:Nat) 0 false false:=by
 rw [zero_cells]
 exact ⟨rep_size 800 _ _,fun i hi=>rep_lo 800 _ _ i hi,rep_hi 800 _ _ 0,rep_hi 800 _ _ 1,rep_hi 800 _ _ 2,rep_hi 800 _ _ 3⟩
theorem zero_dec (W:World):Dec (W.alloc (.cells Tryz.zeroCells253 253)) W.heap.size (fun _=>0) (0:Nat) 0 false false:=⟨_,heap_alloc_new _ _,zero_decB⟩
theorem NumT.take {s:ByteArray} (h:NumT s) (n:Nat):NumT (s.extract 0 n):=by
 intro i hi
 rw [ByteArray.getElem_extract]
 exact h _ _
set_option maxHeartbeats 16000000 in
set_option maxRecDepth 100000 in
theorem strconv_atof64.calls (s:ByteArray) (w:World) (hs:0<s.size∧s.size≤100000) (hn:NumT s) (hb:(48≤bt s 0∧bt s 0≤57)∨(bt s 0=45∧(1<s.size→48≤bt s 1∧bt s 1≤57))) (hP:PF w.heap.size w) :
 Calls Tryz.prog 208 #[.string s] w fun e w'=>AtP w e w':=by
 have HN:=Ak hn
 have HP:=Ak hP
 have h18:19<w.heap.size:=hP.fb.lc.lt
 have HB:=Ak hb
 clear hn hP hb
 have H213:=Ak (strconv_special.calls s w hs.1 HB.out)
 have H214:=Ak (strconv_readFloat.calls s w hs HN.out)
 obtain ⟨b1,b2⟩:=rfF_bound hs.1
 obtain ⟨R,hR⟩ : ∃ R,rfF s=R:=⟨_,rfl⟩
 obtain ⟨m,p,neg,tr,n,ok⟩:=R
 unfold RfP at H214
 rw [hR] at b1 b2 H214
 simp only [RfV] at b1 b2 H214
 clear hR
 have hopt:=HP.out.opt
 go_enter Tryz.func208,Tryz.ntmps208
 go_upto_if 46 with (first|(go_at_call 213;(refine (H213.out).mono ?_);rintro e w9 ⟨rfl,rfl⟩)|(go_at_call 214;(refine (H214.out).mono ?_);rintro e w9 ⟨rfl,hd9⟩;have HD9:=Ak hd9;clear hd9))
 have HW:=Ak (HD9.out.below)
 have hopt:w9.cell? ⟨10,0,none⟩=some (.bool true):=by obtain ⟨q,rfl⟩:=HD9.out.out;exact hopt
 cases ok with
 | false =>
  go_wp2
  go_ret3
  exact AtP.mk (.inr (.inr rfl)) HW.out
 | true =>
 have hf1:=run_from223
 have H222:=Ak (fun W=>strconv_bool2_uint64.calls neg (if neg=true then 1 else 0) W (by cases neg <;> rfl))
 obtain ⟨sg,hsg⟩ : ∃ sg:Int,(if neg=true then (1:Int) else 0)=sg:=⟨_,rfl⟩
 rw [hsg] at H222
 clear hsg
 by_cases cm:m=0
 ·
  subst cm
  go_wp2_with (first|(go_at_call 222;(refine (H222.out _).mono ?_);rintro e w8 ⟨rfl,hd8⟩;have HD8:=Ak hd8;clear hd8))
  go_ret3
  exact AtP.mk (.inl rfl) (drawn_trans HD9.out HD8.out).below
 have cmT:((m:Int) == 0)=false:=by simp;omega
 by_cases c310:310<p
 ·
  go_wp2_with (first|(go_at_call 222;(refine (H222.out _).mono ?_);rintro e w8 ⟨rfl,hd8⟩;have HD8:=Ak hd8;clear hd8))
  go_ret3
  exact AtP.mk (.inr (.inl rfl)) (drawn_trans HD9.out HD8.out).below
 by_cases c345:p < -345
 ·
  go_wp2_with (first|(go_at_call 222;(refine (H222.out _).mono ?_);rintro e w8 ⟨rfl,hd8⟩;have HD8:=Ak hd8;clear hd8))
  go_ret3
  exact AtP.mk (.inl rfl) (drawn_trans HD9.out HD8.out).below
 go_upto_region 18 with (first|(go_at_call 222;(refine (H222.out _).mono ?_);rintro e w8 ⟨rfl,hd8⟩;have HD8:=Ak hd8;clear hd8))
 have HP8:=Ak (HP.out.below (drawn_trans HD9.out HD8.out).below)
 have HB8:=Ak ((drawn_trans HD9.out HD8.out).below)
 obtain ⟨S,hS⟩ : ∃ S:Int,IntKind.u64.wrap (sg*9223372036854775808)=S:=⟨_,rfl⟩
 simp only [hS]
 clear hS HP HD9 HD8 HW hopt
 have hz8:w.heap.size≤w8.heap.size:=HB8.out.size
 have hm19:m<10000000000000000000:=b1
 have H225:=Ak (strconv_parseFloat64.calls m p S w8 (by omega) (by omega) HP8.out.tp (by omega))
 cases tr with
 | false =>
  have H224:=Ak (strconv_atof64exact.calls m p neg w8 (by omega) HP8.out.fb.i0 HP8.out.tabF)
  go_upto_if 96 with (first|(go_at_call 224;(refine (H224.out).mono ?_);rintro e w7 ⟨⟨fe,be,rfl⟩,rfl⟩))
  cases be with
  | true =>
   go_wp2
   go_ret3
   exact AtP.mk (.inl rfl) HB8.out
  | false =>
   go_wp2_with (first|(go_at_call 225;(refine (H225.out).mono ?_);rintro e w7 ⟨⟨fp,vp,rfl,hv⟩,hB7⟩;have HB7:=Ak hB7;clear hB7))
   go_ret3
   exact AtP.mk (hv.imp id .inl) (HB8.out.trans (HB7.out.mono hz8))
 | true =>
  go_upto_region 25 with (first|(go_at_call 225;(refine (H225.out).mono ?_);rintro e w7 ⟨⟨fp,vp,rfl,hv⟩,hB7⟩;have HB7:=Ak hB7;clear hB7))
  have HP7:=Ak (HP8.out.below (HB7.out.mono hz8))
  have HB7:=Ak (HB8.out.trans (HB7.out.mono hz8))
  have hz7:w.heap.size≤w7.heap.size:=HB7.out.size
  have H225:=Ak (strconv_parseFloat64.calls (m+1) p S w7 (by omega) (by omega) HP7.out.tp (by omega))
  rw [show ((m+1:Nat):Int)=(m:Int)+1 by omega] at H225
  go_upto_if 121 with (first|(go_at_call 225;(refine (H225.out).mono ?_);rintro e w6 ⟨⟨fq,vq,rfl,hv6⟩,hB6⟩;have HB6:=Ak hB6;clear hB6))
  have HP6:=Ak (HP7.out.below (HB6.out.mono hz7))
  have HB6:=Ak (HB7.out.trans (HB6.out.mono hz7))
  have hz6:w.heap.size≤w6.heap.size:=HB6.out.size
  obtain ⟨bq,hbq⟩ : ∃ b,(FloatKind.f64.format.order fp fq == some .eq)=b:=⟨_,rfl⟩
  simp only [hbq]
  clear hbq
  cases bq with
  | true =>
   go_wp2
   go_ret3
   exact AtP.mk (hv.imp id .inl) HB6.out
  | false =>
   clear H225 H222
   go_upto_region 29 with (fail)
   have HD5:=Ak (zero_dec w6)
   have HB5:=Ak (HB6.out.alloc hz6 (.cells Tryz.zeroCells253 253))
   have HP5:=Ak (HP6.out.below ((Below.refl w.heap.size w6).alloc hz6 (.cells Tryz.zeroCells253 253)))
   generalize w6.alloc _=w5 at HD5 HB5 HP5 ⊢
   have hnI:((n:Int)≤(s.size:Int))=True:=eq_true (by omega)
   have hx:(s.extract 0 n).size≤100000:=by rw [ByteArray.size_extract];omega
   have H220:=Ak (strconv_set.any w.heap.size w6.heap.size (fun _=>0) (s.extract 0 n) w5 HD5.out hx (HN.out.take n) hz6)
   clear hx
   go_upto_if 129 with (first|(go_at_call 220;(refine (H220.out).mono ?_);rintro e w4 ⟨⟨bs,rfl⟩,hS⟩;have HS:=Ak hS;clear hS))
   obtain ⟨d1,nd1,dp1,neg1,tr1,hD1,hd1, -, hK1⟩:=HS.out
   have HD1:=Ak hD1
   have Hd1:=Ak hd1
   have HB4:=Ak (HB5.out.trans hK1.below)
   have HP4:=Ak (HP5.out.below hK1.below)
   clear HS hD1 hd1 hK1
   cases bs with
   | false =>
    go_wp2
    go_ret3
    exact AtP.mk (.inr (.inr rfl)) HB4.out
   | true =>
    have H221:=Ak (strconv_floatBits.calls w.heap.size w6.heap.size nd1 d1 dp1 neg1 tr1 w4 HP4.out.fb HD1.out Hd1.out hz6)
    go_upto_if 138 with (first|(go_at_call 221;(refine (H221.out).mono ?_);rintro e w3 ⟨⟨nb,ob,rfl⟩,hK3⟩;have HB3:=Ak (HB4.out.trans hK3.below);clear hK3))
    cases ob with
    | true =>
     go_wp2
     go_ret3
     exact AtP.mk (.inr (.inl rfl)) HB3.out
    | false =>
     go_wp2
     go_ret3
     exact AtP.mk (.inl rfl) HB3.out
end Go.Proofs.YtnejkimpkaopoaaGreatDoor.Q

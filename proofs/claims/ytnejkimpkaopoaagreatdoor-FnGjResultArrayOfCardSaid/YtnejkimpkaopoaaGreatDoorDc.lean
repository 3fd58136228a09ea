/- parseFloat64 of internal/strconv: it returns. -/
import Derived.Test.YtnejkimpkaopoaaGreatDoorDf
import Derived.Test.YtnejkimpkaopoaaGreatDoorDb
import Derived.Deep.QuietTactic
import Derived.BigQuiet
namespace Go.Proofs.YtnejkimpkaopoaaGreatDoor.Q
open RowKit YtnejkimpkaopoaaGreatDoorW.PrintWords YtnejkimpkaopoaaGreatDoorW.PrintLast YtnejkimpkaopoaaGreatDoorW.PrintMore
attribute [local go_sem] max2_int min2_int max_two min_two max_three min_three max_four min_four
set_option linter.unusedVariables false
set_option linter.unusedSimpArgs false
theorem log2_some {p:Int} (hp : -345≤p∧p≤310) : ∃ q,strconv_log2Pow10.f p=some q ∧ -1147≤q∧q≤1030:=by
 unfold strconv_log2Pow10.f
 rw [wr (by omega) (by omega)]
 exact ⟨_,rfl,by omega,by omega⟩
theorem usc_any {a h l s:Int} {g:Nat} {w0 w:World} (hI:IsS282 w0 w g h l s) (hB:Below w0.heap.size w0 w) (hs:0≤Go.bits .and .i64 s 63) :
 Calls Tryz.prog 247 #[.int .u64 a, .pointer (some ⟨g,0,none⟩)] w fun e w'=>(∃ r,e = .returned (.int .u64 r))∧Below w0.heap.size w0 w':=by
 obtain ⟨r,hr⟩:=uscale_some a h l s hs
 refine (strconv_uscale.calls a g h l s r h l s w0 w hI hB hr).mono ?_
 rintro e w' ⟨rfl,_,h2,_⟩
 exact ⟨⟨_,rfl⟩,h2⟩
theorem unmin_any {a:Int} {w:World} : Calls Tryz.prog 249 #[.int .u64 a] w fun e w'=>(∃ r,e = .returned (.int .u64 r))∧Drawn0 w w':=by
 refine (strconv_unmin.calls a _ w rfl).mono ?_
 rintro e w' ⟨rfl,h⟩
 exact ⟨⟨_,rfl⟩,h⟩
theorem round_any {a:Int} {w:World} : Calls Tryz.prog 251 #[.int .u64 a] w fun e w'=>(∃ r,e = .returned (.int .u64 r))∧Drawn0 w w':=by
 refine (strconv_unrounded_round.calls a _ w rfl).mono ?_
 rintro e w' ⟨rfl,h⟩
 exact ⟨⟨_,rfl⟩,h⟩
theorem bool_any {b:Bool} {w:World} : Calls Tryz.prog 248 #[.bool b] w fun e w'=>(∃ k:Int,(0≤k∧k≤1)∧e = .returned (.int .i64 k))∧Drawn0 w w':=by
 cases b with
 | true =>
  refine (strconv_bool2_int.calls true 1 w rfl).mono ?_
  rintro e w' ⟨rfl,h⟩
  exact ⟨⟨_,by omega,rfl⟩,h⟩
 | false =>
  refine (strconv_bool2_int.calls false 0 w rfl).mono ?_
  rintro e w' ⟨rfl,h⟩
  exact ⟨⟨_,by omega,rfl⟩,h⟩
set_option maxHeartbeats 8000000 in
set_option maxRecDepth 100000 in
theorem strconv_parseFloat64.calls (a:Nat) (p sg:Int) (w:World) (ha:0<a∧a<18446744073709551616) (hp : -345≤p∧p≤310) (hT:TabP w) (h8:18<w.heap.size) :
 Calls Tryz.prog 225 #[.int .u64 (a:Int), .int .i64 p, .int .u64 sg] w fun e w'=>PackP e∧Below w.heap.size w w':=by
 have hr:=run_from223
 obtain ⟨L,hL,l1,l2, -, -⟩:=len64_eq 1 ha.1 ha.2
 obtain ⟨q,hq,q1,q2⟩:=log2_some hp
 have H86:=Ak (fun W=>bits_Len64.calls 2 (a:Int) (L:Int) W hL)
 have H87:=Ak (fun W=>strconv_log2Pow10.calls p q W hq)
 have HT:=Ak hT
 clear hL hq hT
 go_enter Tryz.func225,Tryz.ntmps225
 go_upto_region 5 with (first|(go_at_call 231;go_must (refine (H86.out _).mono ?_);rintro e w9 ⟨rfl,m1,rfl⟩)|(go_at_call 245;go_must (refine (H87.out _).mono ?_);rintro e w9 ⟨rfl,m2,rfl⟩))
 obtain ⟨E,hE⟩ : ∃ E:Int,(if 53 - (L:Int) - q<1074 then 53 - (L:Int) - q else 1074)=E:=⟨_,rfl⟩
 have hEb:E≤1074∧E≤53 - (L:Int) - q ∧ -1100≤E:=by split at hE <;> omega
 obtain ⟨e1,e2,e3⟩:=hEb
 simp only [hE]
 clear hE
 have HI:=Ak (show IsS282 w ((w.drewN (m1+m2)).alloc (.cells #[.int .u64 0, .int .u64 0, .int .i64 0] 282)) w.heap.size 0 0 0 from ⟨heap_alloc_new _ _,Nat.le_refl _⟩)
 have HB:=Ak (below_alloc (pw_below_drewN (Below.refl w.heap.size w) (m1+m2)) (.cells #[.int .u64 0, .int .u64 0, .int .i64 0] 282))
 generalize World.alloc _ _=W5 at HI HB ⊢
 have HT5:Aside0 (TabP W5):=⟨fun i hi=>⟨(HB.out.cell (p:=⟨18,i*2,none⟩) h8).trans (HT.out i hi).1,(HB.out.cell (p:=⟨18,i*2+1,none⟩) h8).trans (HT.out i hi).2⟩⟩
 obtain ⟨S,hS⟩ : ∃ S:Int, -(E - (64 - (L:Int))+q+3)=S:=⟨_,rfl⟩
 have s1:8≤S∧S≤3000:=by omega
 have H88:=strconv_prescale.calls w.heap.size 0 0 0 (E - (64 - (L:Int))) p q w W5 HI.out HB.out ⟨by omega,by omega⟩ HT5.out h8
 rw [wr (i:=E - (64 - (L:Int))+q) (by omega) (by omega),wr (i:=E - (64 - (L:Int))+q+3) (by omega) (by omega),wr (i := -(E - (64 - (L:Int))+q+3)) (by omega) (by omega),hS] at H88
 have H88:=Ak H88
 clear hS
 by_cases c:64≤S
 ·
  go_wp2_with (first|(go_at_call 246;go_must (refine H88.out.mono ?_);rintro e w9 ⟨rfl,HI9,HB9,HK9⟩;have hc2:=cellS282_2 HI9.1;have HB9:=Ak HB9;clear HI9 HK9))
  go_ret2
  exact ⟨⟨_,_,rfl, .inl rfl⟩,HB9.out⟩
 have h63:0≤Go.bits .and .i64 S 63:=by
  have h:=bits_mask .i64 63 (by decide) (fun x h0 h1=>by rw [IntKind.wrap_i64];omega) 6 (by omega) S (by omega) (by omega)
  rw [show (2:Int) ^ 6 - 1=63 by decide] at h
  rw [h];omega
 go_wp2_with (first
  | (go_at_call 246;go_must (refine H88.out.mono ?_);rintro e w9 ⟨rfl,HI9,HB9,HK9⟩;have hc2:=cellS282_2 HI9.1;have HB9:=Ak HB9;have HI9:=Ak HI9;clear HK9)
  | (go_at_call 247;go_must (refine (usc_any HI9.out HB9.out h63).mono ?_);rintro e w8 ⟨⟨r89,rfl⟩,HB8⟩;have HB8:=Ak HB8;clear hc2)
  | (go_at_call 249;go_must (refine unmin_any.mono ?_);rintro e w7 ⟨⟨r91,rfl⟩,m7,rfl⟩)
  | (go_at_call 248;go_must (refine bool_any.mono ?_);rintro e w6 ⟨⟨k90,hk90,rfl⟩,m6,rfl⟩)
  | (go_at_call 251;go_must (refine round_any.mono ?_);rintro e w5 ⟨⟨r93,rfl⟩,m5,rfl⟩)
  | (go_at_call 253;go_must (refine (strconv_pack64.calls _ _ _ (by omega)).mono ?_);rintro e w4 ⟨⟨f,v,rfl,hv⟩,rfl⟩))
 go_ret2
 exact ⟨⟨_,_,rfl,hv⟩,by first|exact HB8.out|exact pw_below_drewN HB8.out _⟩
end Go.Proofs.YtnejkimpkaopoaaGreatDoor.Q

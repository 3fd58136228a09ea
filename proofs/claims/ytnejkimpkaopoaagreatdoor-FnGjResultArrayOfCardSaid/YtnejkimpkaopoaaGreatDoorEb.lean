/- ParseUint of four hexadecimal digits, base 16; gjson's runeit. -/
import Derived.Test.YtnejkimpkaopoaaGreatDoorDj
import Derived.Lib.ConvBytes
import Derived.Lib.AtoiAllMem
import Derived.Laws.Strings3
namespace Go.Proofs.YtnejkimpkaopoaaGreatDoor.Q
open RowKit YtnejkimpkaopoaaGreatDoorW.PrintWords YtnejkimpkaopoaaGreatDoorW.PrintLast YtnejkimpkaopoaaGreatDoorW.PrintMore
set_option maxHeartbeats 8000000
set_option maxRecDepth 100000
attribute [local go_sem] max2_int min2_int max_two min_two max_three min_three max_four min_four
set_option linter.unusedVariables false
set_option linter.unusedSimpArgs false
def hexB (c:Int):Prop:=(48≤c∧c≤57)∨(97≤c∧c≤102)∨(65≤c∧c≤70)
def hexV (c:Int):Int:=if c≤57 then c - 48 else if 97≤c then c - 87 else c - 55
theorem hexV_lt {c:Int} (h:hexB c):0≤hexV c∧hexV c<16:=by
 unfold hexV;rcases h with h|h|h <;> (split <;> (try split) <;> omega)
def hexN (t:ByteArray):Nat→Int
  | 0=>0
  | k+1=>hexN t k*16+hexV (bt t k)
theorem hexN_lt {t:ByteArray} (h : ∀ i:Nat,i<4→hexB (bt t i)) : ∀ k:Nat,k≤4→0≤hexN t k∧hexN t k<16 ^ k
  | 0,_=>⟨Int.le_refl _,by show (0:Int)<16 ^ 0;decide⟩
  | k+1,hk=>by
    have ih:=hexN_lt h k (by omega)
    have h1:=hexV_lt (h k (by omega))
    show 0≤hexN t k*16+hexV (bt t k)∧hexN t k*16+hexV (bt t k)<16 ^ (k+1)
    have e:(16:Int) ^ (k+1)=16 ^ k*16:=Int.pow_succ 16 k
    rw [e];omega
theorem low_hex {x:Int} (h:hexB x) (h9 : ¬ x≤57):strconv_lower.f x=some (hexV x+87):=by
 have h2:x=97∨x=98∨x=99∨x=100∨x=101∨x=102∨x=65∨x=66∨x=67∨x=68∨x=69∨x=70:=by
  rcases h with h|h|h <;> omega
 clear h h9
 rcases h2 with rfl|rfl|rfl|rfl|rfl|rfl|rfl|rfl|rfl|rfl|rfl|rfl <;> decide
theorem bt_getD {t:ByteArray} {j:Nat} (h:j<t.size):((t.data.toList.getD j 0).toNat:Int)=bt t j:=by
 rw [← bt_nat h]
 have hl:j<t.data.toList.length:=by simpa using h
 rw [List.getD_eq_getElem?_getD,List.getElem?_eq_getElem hl]
 rfl
def PuP (w:World) (n:Int) (e:Ending) (w':World):Prop:=e = .returned (.tuple #[.int .u64 n, .nilIface])∧Below w.heap.size w w'
set_option maxHeartbeats 32000000 in
theorem strconv_ParseUint193.calls (t:ByteArray) (ht:t.size=4) (hx : ∀ i:Nat,i<4→hexB (bt t i)) (w:World) :
 Calls Tryz.prog 193 #[.string t, .int .i64 16, .int .i64 64] w fun e w'=>PuP w (hexN t 4) e w':=by
 have hemp:t.toList.isEmpty=false:=by
  rw [← decide_eq_emptyBytes]
  exact decide_eq_false (fun h=>by rw [h] at ht;exact absurd ht (by decide))
 have hne:(t=ByteArray.empty)=False:=eq_false (fun h=>by rw [h] at ht;exact absurd ht (by decide))
 have hcv:=Lib.run_convert_string_bytes (P:=Tryz.prog) w 9 67 5 t (u := .string) (by kernel_rfl) (by kernel_rfl) (by kernel_rfl)
 have hB : ∀ j:Nat,j<t.size→(Lib.bytesWorld w 5 t).cell? ⟨w.heap.size,j,none⟩=some (.int .u8 (bt t j)):=fun j hj=>by
  rw [Lib.bytesWorld_cell w 5 t j hj,bt_getD hj]
 have hW:Below w.heap.size w (Lib.bytesWorld w 5 t):=by
  unfold Lib.bytesWorld
  exact Lib.below_freeze (((Below.refl _ w).drew).alloc (Nat.le_refl _) _) (Nat.le_refl _) _
 obtain ⟨W1,hW1⟩ : ∃ W1,W1=Lib.bytesWorld w 5 t:=⟨_,rfl⟩
 rw [← hW1] at hcv hB hW
 clear hW1
 have HW:=Ak hW
 have HB:=Ak hB
 have HX:=Ak hx
 have HL:=Ak (hexN_lt hx)
 clear hW hB hx
 have hmv:IntKind.u64.wrap (IntKind.u64.wrap 18446744073709551616 - 1)=18446744073709551615:=by
  rw [IntKind.wrap_u64,IntKind.wrap_u64]
  decide
 go_enter Tryz.func193,Tryz.ntmps193
 go_wp2
 go_loopg [12,13,101] 5 (fun kq vu vn vi wl => ∃ (k:Nat) (a:Int),vu = .bool false∧vn = .int .u64 a∧vi = .int .i64 (k:Int)∧Aside0 (k≤4∧4 - k<kq)∧Aside0 (a=hexN t k) ∧ ∃ n:Nat,wl=W1.drewN n)
 case atStart=>exact ⟨0,0,rfl,rfl,rfl,⟨by omega,by omega⟩,⟨rfl⟩,0,rfl⟩
 case round =>
 obtain ⟨k,a,rfl,rfl,rfl,HA,HN,nq,rfl⟩:=hrel
 obtain ⟨a1,a2⟩:=HA.out
 clear HA
 have hb:=HL.out k a1
 rw [← HN.out] at hb
 have hp:(16:Int) ^ k≤65536:=by
  have:k=0∨k=1∨k=2∨k=3∨k=4:=by omega
  rcases this with rfl|rfl|rfl|rfl|rfl <;> decide
 have hb0:=hb.1
 have hb1:a<65536:=by have:=hb.2;omega
 clear hb hp
 cases gk with
 | zero=>omega
 | succ k1 =>
 by_cases c:k<4
 rotate_left
 ·
  obtain rfl:k=4:=by omega
  have cI:(((4:Nat):Int)<4)=False:=eq_false (by omega)
  go_wp2
  go_ret2
  exact ⟨by rw [← HN.out];rfl,pw_below_drewN HW.out _⟩
 have cI:((k:Int)<4)=True:=eq_true (by omega)
 have hc:=HB.out k (by omega)
 have hh:=HX.out k c
 obtain ⟨x,hxx⟩ : ∃ x,bt t k=x:=⟨_,rfl⟩
 have hn:Aside0 (hexN t (k+1)=a*16+hexV x):=⟨by show hexN t k*16+hexV (bt t k)=_;rw [HN.out,hxx]⟩
 rw [hxx] at hc hh
 clear hxx
 have hv:=hexV_lt hh
 have q95:(x == 95)=false:=by simp;rcases hh with h|h|h <;> omega
 by_cases c9:x≤57
 ·
  have h48:48≤x:=by rcases hh with h|h|h <;> omega
  have d1:decide ((48:Int)≤x)=true:=decide_eq_true h48
  have d2:decide (x≤57)=true:=decide_eq_true c9
  have hvx:hexV x=x - 48:=by unfold hexV;rw [if_pos c9]
  have hr:Aside0 (a*16+(x - 48)=hexN t (k+1)):=⟨by rw [hn.out,hvx]⟩
  clear hn hv hvx
  go_wp2
  go_roundg k1
  case measure=>omega
  case rel=>exact ⟨k+1,_,rfl,rfl,by congr 1,⟨by omega,by omega⟩,⟨hr.out⟩,_,rfl⟩
 have h48:48≤x:=by omega
 have d1:decide ((48:Int)≤x)=true:=decide_eq_true h48
 have d2:decide (x≤57)=false:=decide_eq_false c9
 have hlo:=low_hex hh c9
 have hv10:10≤hexV x:=by unfold hexV;rw [if_neg c9];rcases hh with h|h|h <;> (split <;> omega)
 obtain ⟨y,hy⟩ : ∃ y,hexV x=y:=⟨_,rfl⟩
 rw [hy] at hlo hv hv10 hn
 have H205:=Ak (fun W=>strconv_lower.calls x (y+87) W hlo)
 clear hy hlo hh
 have hr:Aside0 (a*16+y=hexN t (k+1)):=⟨hn.out.symm⟩
 clear hn
 have d3:decide (y+87≤122)=true:=decide_eq_true (by omega)
 have d4:decide (97≤y+87)=true:=decide_eq_true (by omega)
 go_wp2_with (first|(go_at_call 205;(refine (H205.out _).mono ?_);rintro e w9 ⟨rfl,⟨m9,rfl⟩⟩))
 go_roundg k1
 case measure=>omega
 case rel=>exact ⟨k+1,_,rfl,rfl,by congr 1,⟨by omega,by omega⟩,⟨by have:=hr.out;omega⟩,_,rfl⟩
theorem strconv_ParseUint165.calls (t:ByteArray) (ht:t.size=4) (hx : ∀ i:Nat,i<4→hexB (bt t i)) (w:World) :
 Calls Tryz.prog 165 #[.string t, .int .i64 16, .int .i64 64] w fun e w'=>PuP w (hexN t 4) e w':=by
 have H:=Ak (strconv_ParseUint193.calls t ht hx w)
 clear hx
 go_enter Tryz.func165,Tryz.ntmps165
 go_wp2_with (first|(go_at_call 193;(refine (H.out).mono ?_);rintro e w2 ⟨rfl,hB⟩;have HB:=Ak hB;clear hB))
 go_ret2
 exact ⟨rfl,HB.out⟩
def RuP (w:World) (n:Int) (e:Ending) (w':World):Prop:=e = .returned (.int .i32 n)∧Below w.heap.size w w'
theorem gjson_runeit.calls (j:ByteArray) (hj:4≤j.size) (hx : ∀ i:Nat,i<4→hexB (bt j i)) (w:World) :
 Calls Tryz.prog 133 #[.string j] w fun e w'=>RuP w (hexN j 4) e w':=by
 have hsz:(j.extract 0 4).size=4:=by rw [ByteArray.size_extract];omega
 have hbt : ∀ i:Nat,i<4→bt (j.extract 0 4) i=bt j i:=fun i hi=>by
  have h1:i<(j.extract 0 4).size:=by omega
  rw [← bt_nat h1, ← bt_nat (show i<j.size by omega),ByteArray.getElem_extract]
  simp only [Nat.zero_add]
 have hN:hexN (j.extract 0 4) 4=hexN j 4:=by
  unfold hexN hexN hexN hexN hexN
  rw [hbt 0 (by omega),hbt 1 (by omega),hbt 2 (by omega),hbt 3 (by omega)]
 have hlt:=hexN_lt hx 4 (by omega)
 have H:=Ak (strconv_ParseUint165.calls (j.extract 0 4) hsz (fun i hi=>by rw [hbt i hi];exact hx i hi) w)
 rw [hN] at H
 obtain ⟨n,hn⟩ : ∃ n,hexN j 4=n:=⟨_,rfl⟩
 rw [hn] at H hlt ⊢
 have h0:0≤n:=hlt.1
 have h1:n<65536:=hlt.2
 clear hn hN hbt hsz hx hlt
 have c4:((4:Int)≤(j.size:Int))=True:=eq_true (by omega)
 go_enter Tryz.func133,Tryz.ntmps133
 go_wp2_with (first|(go_at_call 165;(refine (H.out).mono ?_);rintro e w2 ⟨rfl,hB⟩;have HB:=Ak hB;clear hB))
 go_ret
 exact ⟨rfl,HB.out⟩
end Go.Proofs.YtnejkimpkaopoaaGreatDoor.Q

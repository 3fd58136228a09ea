/- gjson's tonum on a number's text with what follows it. -/
import Derived.Test.YtnejkimpkaopoaaGreatDoorDj
namespace Go.Proofs.YtnejkimpkaopoaaGreatDoor.Q
open RowKit YtnejkimpkaopoaaGreatDoorW.PrintWords YtnejkimpkaopoaaGreatDoorW.PrintLast YtnejkimpkaopoaaGreatDoorW.PrintMore
attribute [local go_sem] max2_int min2_int max_two min_two max_three min_three max_four min_four
set_option linter.unusedVariables false
set_option linter.unusedSimpArgs false
def stopB (x:Int):Prop:=x≤32∨x=44∨x=93∨x=125
structure NumAt (j:ByteArray) (n:Nat):Prop where
  pos:0<n
  le:n≤j.size
  num : ∀ (i:Nat) (h:i<j.size),i<n→numB ((j[i]'h).toNat:Int)
  head:(48≤bt j 0∧bt j 0≤57)∨(bt j 0=45∧(1<n→48≤bt j 1∧bt j 1≤57))
  stop:n<j.size→stopB (bt j n)
theorem bt_take {j:ByteArray} {n:Nat} (hn:n≤j.size) {i:Nat} (h:i<n):bt (j.extract 0 n) i=bt j i:=by
 have h1:i<(j.extract 0 n).size:=by rw [ByteArray.size_extract];omega
 rw [← bt_nat h1, ← bt_nat (show i<j.size by omega),ByteArray.getElem_extract]
 simp only [Nat.zero_add]
def ToP (w:World) (s:ByteArray) (e:Ending) (w':World):Prop:=(∃ f:Nat,e = .returned (.tuple #[.string s, .float .f64 f]))∧Below w.heap.size w w'
theorem pf_take {j:ByteArray} {n:Nat} (h:NumAt j n) (hj:j.size≤100000) (w:World) (hP:PF w.heap.size w) (hE:PE w.heap.size w) :
 Calls Tryz.prog 120 #[.string (j.extract 0 n), .int .i64 64] w fun e w'=>PubP w e w':=by
 have hsz:(j.extract 0 n).size=n:=by rw [ByteArray.size_extract];have:=h.le;omega
 have h0:=h.pos
 refine strconv_ParseFloat.calls _ w ⟨by omega,by have:=h.le;omega⟩ ?_ ?_ hP hE
 ·
  intro i hi
  rw [ByteArray.getElem_extract]
  exact h.num _ _ (by omega)
 have e0:bt (j.extract 0 n) 0=bt j 0:=bt_take h.le (i:=0) h0
 rw [hsz,e0]
 rcases h.head with h1|⟨h1,h2⟩
 ·
  exact .inl h1
 refine .inr ⟨h1,fun h3=>?_⟩
 have e1:bt (j.extract 0 n) 1=bt j 1:=bt_take h.le (i:=1) h3
 rw [e1]
 exact h2 h3
set_option maxHeartbeats 8000000 in
set_option maxRecDepth 100000 in
theorem gjson_tonum.calls (j:ByteArray) (n:Nat) (h:NumAt j n) (hj:j.size≤100000) (w:World) (hP:PF w.heap.size w) (hE:PE w.heap.size w) :
 Calls Tryz.prog 93 #[.string j] w fun e w'=>ToP w (j.extract 0 n) e w':=by
 have H120:=Ak (pf_take h hj w hP hE)
 have HA:=Ak h
 have h0:=h.pos
 have h1:=h.le
 clear h hP hE
 go_enter Tryz.func93,Tryz.ntmps93
 go_upto_block 0 with (fail)
 go_wp2
 go_loopg [4] (n+1) (fun kq v4 wl => ∃ i:Nat,v4 = .int .i64 (i:Int)∧Aside0 (0<i∧i≤n∧n - i<kq)∧w=wl)
 case atStart=>exact ⟨1,rfl,⟨by omega,by omega,by omega⟩,rfl⟩
 case round =>
 obtain ⟨i,rfl,HI,rfl⟩:=hrel
 obtain ⟨a1,a2,a3⟩:=HI.out
 clear HI
 cases gk with
 | zero=>omega
 | succ k1 =>
 by_cases c:i<n
 ·
  have cI:((i:Int)<(j.size:Int))=True:=eq_true (by omega)
  have hx0:=HA.out.num i (by omega) c
  have e0:=bt_nat (show i<j.size by omega)
  obtain ⟨x,hx⟩ : ∃ x,bt j i=x:=⟨_,rfl⟩
  rw [e0,hx] at hx0
  rw [hx] at e0
  clear hx
  have q93:(x == 93)=false:=by simp;rcases hx0 with h|h|h|h|h|h <;> omega
  have q125:(x == 125)=false:=by simp;rcases hx0 with h|h|h|h|h|h <;> omega
  have q44:(x == 44)=false:=by simp;rcases hx0 with h|h|h|h|h|h <;> omega
  have q32:decide (x≤32)=false:=by simp;rcases hx0 with h|h|h|h|h|h <;> omega
  clear hx0
  by_cases c45:x≤45
  ·
   go_wp2
   go_roundg k1
   case measure=>omega
   case rel=>exact ⟨i+1,by congr 1,⟨by omega,by omega,by omega⟩,rfl⟩
  go_wp2
  go_roundg k1
  case measure=>omega
  case rel=>exact ⟨i+1,by congr 1,⟨by omega,by omega,by omega⟩,rfl⟩
 obtain rfl:i=n:=by omega
 by_cases c2:i<j.size
 ·
  have cI:((i:Int)<(j.size:Int))=True:=eq_true (by omega)
  have hnI:((i:Int)≤(j.size:Int))=True:=eq_true (by omega)
  have hx0:=HA.out.stop c2
  have e0:=bt_nat c2
  obtain ⟨x,hx⟩ : ∃ x,bt j i=x:=⟨_,rfl⟩
  rw [hx] at e0 hx0
  clear hx
  by_cases c45:x≤45
  ·
   by_cases c32:x≤32
   ·
    have q32:decide (x≤32)=true:=decide_eq_true c32
    go_wp2_with (first|(go_at_call 120;(refine (H120.out).mono ?_);rintro e w2 ⟨⟨f,v,rfl⟩,hB⟩;have HB:=Ak hB;clear hB))
    go_ret2
    exact ⟨⟨f,rfl⟩,HB.out⟩
   have q32:decide (x≤32)=false:=decide_eq_false c32
   obtain rfl:x=44:=by rcases hx0 with h|h|h|h <;> omega
   go_wp2_with (first|(go_at_call 120;(refine (H120.out).mono ?_);rintro e w2 ⟨⟨f,v,rfl⟩,hB⟩;have HB:=Ak hB;clear hB))
   go_ret2
   exact ⟨⟨f,rfl⟩,HB.out⟩
  by_cases c93:x=93
  ·
   subst c93
   go_wp2_with (first|(go_at_call 120;(refine (H120.out).mono ?_);rintro e w2 ⟨⟨f,v,rfl⟩,hB⟩;have HB:=Ak hB;clear hB))
   go_ret2
   exact ⟨⟨f,rfl⟩,HB.out⟩
  have q93:(x == 93)=false:=by simpa using c93
  obtain rfl:x=125:=by rcases hx0 with h|h|h|h <;> omega
  go_wp2_with (first|(go_at_call 120;(refine (H120.out).mono ?_);rintro e w2 ⟨⟨f,v,rfl⟩,hB⟩;have HB:=Ak hB;clear hB))
  go_ret2
  exact ⟨⟨f,rfl⟩,HB.out⟩
 have cI:((i:Int)<(j.size:Int))=False:=eq_false (by omega)
 have hee:j.extract 0 i=j:=by
  rw [show i=j.size by omega];exact ByteArray.extract_zero_size
 rw [hee] at H120
 have HE:=Ak hee
 clear hee
 go_wp2_with (first|(go_at_call 120;(refine (H120.out).mono ?_);rintro e w2 ⟨⟨f,v,rfl⟩,hB⟩;have HB:=Ak hB;clear hB))
 go_ret2
 exact ⟨⟨f,by rw [HE.out];rfl⟩,HB.out⟩
end Go.Proofs.YtnejkimpkaopoaaGreatDoor.Q

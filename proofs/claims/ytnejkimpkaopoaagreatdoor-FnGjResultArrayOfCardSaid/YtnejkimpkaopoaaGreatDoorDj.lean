/- stringslite.Clone, strconv.rangeError, syntaxError, toError, the ParseFloats: they return. -/
import Derived.Test.YtnejkimpkaopoaaGreatDoorDi
import Derived.Lib.Strings
import Derived.Lib.Walk
import Derived.Lib.BufferWrite
import Derived.Lib.UnsafeStr
import Derived.Lib.IfaceEq
import Derived.Deep.RegionWith
namespace Go.Proofs.YtnejkimpkaopoaaGreatDoor.Q
open RowKit YtnejkimpkaopoaaGreatDoorW.PrintWords YtnejkimpkaopoaaGreatDoorW.PrintLast YtnejkimpkaopoaaGreatDoorW.PrintMore
attribute [local go_sem] max2_int min2_int max_two min_two max_three min_three max_four min_four
set_option linter.unusedVariables false
set_option linter.unusedSimpArgs false
theorem info_u8 : ∃ i,Tryz.prog.info? 5=some i∧i.zero=some (.int .u8 0)∧i.size=1∧i.bytes=1:=by
 have h:(Tryz.prog.info? 5).map (fun i=>(i.zero,i.size,i.bytes))=some (some (Value.int IntKind.u8 0),1,1):=by kernel_rfl
 cases hi:Tryz.prog.info? 5 with
 | none=>rw [hi] at h;cases h
 | some i =>
  rw [hi] at h
  injection h with h
  injection h with h1 h2
  injection h2 with h3 h4
  exact ⟨i,rfl,h1,h3,h4⟩
set_option maxHeartbeats 4000000 in
set_option maxRecDepth 100000 in
theorem stringslite_Clone.calls (s:ByteArray) (w:World) (hlim:s.size≤281474976710656) :
 Calls Tryz.prog 203 #[.string s] w fun e w'=>e = .returned (.string s)∧Below w.heap.size w w':=by
 by_cases h0:s.size=0
 ·
  obtain rfl:s=⟨#[]⟩:=ByteArray.ext (Array.eq_empty_of_size_eq_zero h0)
  go_enter Tryz.func203,Tryz.ntmps203
  go_wp2
  go_ret
  exact ⟨rfl,Below.refl _ _⟩
 have hinfo:(Tryz.prog.info? 5).map (·.size)=some 1:=by kernel_rfl
 have hco:Tryz.prog.cellsOf 5=1:=by kernel_rfl
 have t67:Tryz.prog.underlying 67=some (.slice 5):=by kernel_rfl
 have t236:Tryz.prog.underlying 236=some (.pointer 5):=by kernel_rfl
 obtain ⟨i0,hi,hz0,hz1,hz2⟩ : ∃ i,Tryz.prog.info? 5=some i∧i.zero=some (.int .u8 0)∧i.size=1∧i.bytes=1:=info_u8
 obtain ⟨M,hM⟩ : ∃ M,M=madeCells (Value.int .u8 0).cells (((s.size:Nat):Int).toNat*i0.size):=⟨_,rfl⟩
 have hMs:M.size=s.size:=by rw [hM,size_madeCells,hz1];simp
 have hmk : ∀ W:World,(Instr.makeSlice 67 (.int .i64 (s.size:Int)) (.int .i64 (s.size:Int))).run Tryz.prog W = .ok (.slice (some ⟨W.heap.size,0,none⟩) s.size s.size) (W.alloc (.cells M 5)):=fun W=>by
  have h:=run_make (P:=Tryz.prog) W 67 5 i0 (.int .u8 0) t67 hi hz0 .i64 .i64 (s.size:Int) (s.size:Int) (by omega) (by omega) (by rw [hz2];omega) (by omega)
  rw [← hM] at h
  simpa using h
 clear hM
 have hcp:=Lib.run_copy_row_string (P:=Tryz.prog) (w.alloc (.cells M 5)) 67 9 3 5 w.heap.size 0 s.size s.size s M 5 t67 hinfo (heap_alloc_new w _) (Nat.le_refl _) (by omega)
 obtain ⟨Y,hY⟩ : ∃ Y,Y=(M.toList.take 0++Lib.byteCells s.data.toList++M.toList.drop (0+s.size)).toArray:=⟨_,rfl⟩
 rw [← hY] at hcp
 have hYl:Y.toList=Lib.byteCells s.data.toList:=by
  rw [hY,List.toList_toArray,List.take_zero,List.nil_append,List.drop_of_length_le (by rw [Array.length_toList];omega),List.append_nil]
 have hYs:Y.size=s.size:=by rw [← Array.length_toList,hYl,Lib.byteCells_length, ← Lib.size_eq]
 have hgY:((w.alloc (.cells M 5)).setRow w.heap.size Y).heap[w.heap.size]? = some (.cells Y 5 (0,0)):=setRow_heap _ _ M _ 5 (0,0) (heap_alloc_new w _)
 have hne:s.data.toList≠[]:=fun e=>h0 (by rw [Lib.size_eq,e];rfl)
 have hUS:=Lib.run_unsafeString_row (P:=Tryz.prog) ((w.alloc (.cells M 5)).setRow w.heap.size Y) 236 3 9 5 t236 hco w.heap.size Y.size (by unfold World.shape?; rw [hgY]) s.data.toList hne (by rw [← Lib.size_eq];omega) (by rw [← Lib.size_eq];omega)
  (fun j x hx=>Lib.cells_of_row hgY Y.size j _ (by rw [List.take_of_length_le (by rw [Array.length_toList];exact Nat.le_refl _),hYl];simp [Lib.byteCells,hx]))
 rw [← Lib.size_eq] at hUS
 clear hY
 have hb1:Below w.heap.size w (w.alloc (.cells M 5)):=(Below.refl _ w).alloc (Nat.le_refl _) _
 have hb2:Below w.heap.size (w.alloc (.cells M 5)) ((w.alloc (.cells M 5)).setRow w.heap.size Y):=⟨rfl,rfl,rfl,by simp,fun k hk=>setRow_other _ _ _ _ (by omega)⟩
 have hb3:=Ak (Lib.below_freeze (hb1.trans hb2) (p:=⟨w.heap.size,0,none⟩) (Nat.le_refl _) s.size)
 clear hb1 hb2
 go_enter Tryz.func203,Tryz.ntmps203
 go_wp2
 go_ret
 exact ⟨rfl,hb3.out⟩
structure PE (b:Nat) (w:World):Prop where
  lt:19<b
  syn : ∃ te pe,w.cell? ⟨6,0,none⟩=some (.iface te pe)
  rng : ∃ te pe,w.cell? ⟨7,0,none⟩=some (.iface te pe)
theorem PE.below {b:Nat} {w w':World} (h:PE b w) (k:Below b w w'):PE b w':=by
 have lt:=h.lt
 obtain ⟨te,pe,h1⟩:=h.syn
 obtain ⟨tf,pf,h2⟩:=h.rng
 exact ⟨lt,⟨te,pe,(k.cell (p:=⟨6,0,none⟩) (show 6<b by omega)).trans h1⟩,⟨tf,pf,(k.cell (p:=⟨7,0,none⟩) (show 7<b by omega)).trans h2⟩⟩
def PtrP (w:World) (e:Ending) (w':World):Prop:=(∃ N:Nat,e = .returned (.pointer (some ⟨N,0,none⟩)))∧Below w.heap.size w w'
set_option maxHeartbeats 6400000 in
set_option maxRecDepth 100000 in
theorem strconv_rangeError.calls (fn s:ByteArray) (w:World) (hlim:s.size≤281474976710656) (hE:PE w.heap.size w) :
 Calls Tryz.prog 190 #[.string fn, .string s] w fun e w'=>PtrP w e w':=by
 obtain ⟨te,pe,hv⟩:=hE.rng
 have hG:7<w.heap.size:=by have:=hE.lt;omega
 have hvd:w.drew.cell? ⟨7,0,none⟩=some (.iface te pe):=hv
 clear hE
 go_enter Tryz.func190,Tryz.ntmps190
 go_wp2
 go_region_with (
  go_at_call 203
  refine (stringslite_Clone.calls s _ hlim).mono ?_
  rintro e w2 ⟨rfl,hbel⟩
  have hv2:w2.cell? ⟨7,0,none⟩=some (.iface te pe):=(hbel.cell (show (⟨7,0,none⟩:Addr).block<w.drew.heap.size from hG)).trans hvd)
 all_goals (
  go_wp2
  go_ret
  have hs2:w.heap.size≤w2.heap.size:=hbel.size
  exact ⟨⟨_,rfl⟩,((Below.drew (Below.refl _ w)).trans hbel).alloc hs2 _⟩)
set_option maxHeartbeats 6400000 in
set_option maxRecDepth 100000 in
theorem strconv_syntaxError.calls (fn s:ByteArray) (w:World) (hlim:s.size≤281474976710656) (hE:PE w.heap.size w) :
 Calls Tryz.prog 189 #[.string fn, .string s] w fun e w'=>PtrP w e w':=by
 obtain ⟨te,pe,hv⟩:=hE.syn
 have hG:6<w.heap.size:=by have:=hE.lt;omega
 have hvd:w.drew.cell? ⟨6,0,none⟩=some (.iface te pe):=hv
 clear hE
 go_enter Tryz.func189,Tryz.ntmps189
 go_wp2
 go_region_with (
  go_at_call 203
  refine (stringslite_Clone.calls s _ hlim).mono ?_
  rintro e w2 ⟨rfl,hbel⟩
  have hv2:w2.cell? ⟨6,0,none⟩=some (.iface te pe):=(hbel.cell (show (⟨6,0,none⟩:Addr).block<w.drew.heap.size from hG)).trans hvd)
 all_goals (
  go_wp2
  go_ret
  have hs2:w.heap.size≤w2.heap.size:=hbel.size
  exact ⟨⟨_,rfl⟩,((Below.drew (Below.refl _ w)).trans hbel).alloc hs2 _⟩)
def ErrP (w:World) (e:Ending) (w':World):Prop:=(∃ v:Value,e = .returned v∧(∃ N:Nat,v = .iface 218 (.pointer (some ⟨N,0,none⟩))))∧Below w.heap.size w w'
theorem eql75 (a b:Int) (W:World):(binOp .eql 75 (.iface 217 (.int .i64 a)) (.iface 217 (.int .i64 b))).run Tryz.prog W = .ok (.bool (a == b)) W :=
  Lib.run_eql_iface_int (ms := #[("Error", 189)]) (q := .i64) W a b (by kernel_rfl) (by kernel_rfl) (by kernel_rfl)
set_option maxHeartbeats 6400000 in
set_option maxRecDepth 100000 in
theorem strconv_toError.calls (fn s:ByteArray) (base bits:Int) (k:Int) (hk:k=1∨k=2) (w:World) (hlim:s.size≤281474976710656) (hE:PE w.heap.size w) :
 Calls Tryz.prog 164 #[.string fn, .string s, .int .i64 base, .int .i64 bits, .iface 217 (.int .i64 k)] w fun e w'=>ErrP w e w':=by
 have hq22 : ∀ W,(binOp .eql 75 (.iface 217 (.int .i64 2)) (.iface 217 (.int .i64 2))).run Tryz.prog W = .ok (.bool true) W:=fun W=>eql75 2 2 W
 have hq12 : ∀ W,(binOp .eql 75 (.iface 217 (.int .i64 1)) (.iface 217 (.int .i64 2))).run Tryz.prog W = .ok (.bool false) W:=fun W=>eql75 1 2 W
 have hq11 : ∀ W,(binOp .eql 75 (.iface 217 (.int .i64 1)) (.iface 217 (.int .i64 1))).run Tryz.prog W = .ok (.bool true) W:=fun W=>eql75 1 1 W
 have H189:=Ak (strconv_syntaxError.calls fn s w hlim hE)
 have H190:=Ak (strconv_rangeError.calls fn s w hlim hE)
 clear hE
 go_enter Tryz.func164,Tryz.ntmps164
 rcases hk with rfl|rfl
 ·
  go_wp2_with (first|(go_at_call 190;(refine (H190.out).mono ?_);rintro e w2 ⟨⟨N,rfl⟩,hB⟩;have HB:=Ak hB;clear hB))
  go_ret
  exact ⟨⟨_,rfl,_,rfl⟩,HB.out⟩
 go_wp2_with (first|(go_at_call 189;(refine (H189.out).mono ?_);rintro e w2 ⟨⟨N,rfl⟩,hB⟩;have HB:=Ak hB;clear hB))
 go_ret
 exact ⟨⟨_,rfl,_,rfl⟩,HB.out⟩
set_option maxHeartbeats 6400000 in
set_option maxRecDepth 100000 in
theorem strconv_parseFloatPrefix.calls (s:ByteArray) (w:World) (hs:0<s.size∧s.size≤100000) (hn:NumT s) (hb:(48≤bt s 0∧bt s 0≤57)∨(bt s 0=45∧(1<s.size→48≤bt s 1∧bt s 1≤57))) (hP:PF w.heap.size w) :
 Calls Tryz.prog 194 #[.string s, .int .i64 64] w fun e w'=>AtP w e w':=by
 have H208:=Ak (strconv_atof64.calls s w hs hn hb hP)
 clear hn hb hP
 go_enter Tryz.func194,Tryz.ntmps194
 go_wp2_with (first|(go_at_call 208;(refine (H208.out).mono ?_);rintro e w2 ⟨⟨f,n,v,rfl,hv⟩,hB⟩;have HB:=Ak hB;have HV:=Ak hv;clear hB hv))
 go_ret3
 exact ⟨⟨f,n,v,rfl,HV.out⟩,HB.out⟩
def PfP (w:World) (e:Ending) (w':World):Prop:=(∃ (f:Nat) (v:Value),e = .returned (.tuple #[.float .f64 f,v])∧ErrV v)∧Below w.heap.size w w'
set_option maxHeartbeats 6400000 in
set_option maxRecDepth 100000 in
theorem strconv_ParseFloat166.calls (s:ByteArray) (w:World) (hs:0<s.size∧s.size≤100000) (hn:NumT s) (hb:(48≤bt s 0∧bt s 0≤57)∨(bt s 0=45∧(1<s.size→48≤bt s 1∧bt s 1≤57))) (hP:PF w.heap.size w) :
 Calls Tryz.prog 166 #[.string s, .int .i64 64] w fun e w'=>PfP w e w':=by
 have H194:=Ak (strconv_parseFloatPrefix.calls s w hs hn hb hP)
 clear hn hb hP
 go_enter Tryz.func166,Tryz.ntmps166
 go_upto_region 2 with (first|(go_at_call 194;(refine (H194.out).mono ?_);rintro e w2 ⟨⟨f,n,v,rfl,hv⟩,hB⟩;have HB:=Ak hB;have HV:=Ak hv;clear hB hv))
 by_cases c:n=s.size
 ·
  have c1:((n:Int) != (s.size:Int))=false:=by simp;omega
  have c2:((n:Int)=(s.size:Int))=True:=eq_true (by omega)
  go_wp2
  go_ret2
  exact ⟨⟨f,v,rfl,HV.out⟩,HB.out⟩
 have c1:((n:Int) != (s.size:Int))=true:=by simp;omega
 have c2:((n:Int)=(s.size:Int))=False:=eq_false (by omega)
 go_wp2
 go_ret2
 exact ⟨⟨0,_,rfl, .inr (.inr rfl)⟩,HB.out⟩
def PubP (w:World) (e:Ending) (w':World):Prop:=(∃ (f:Nat) (v:Value),e = .returned (.tuple #[.float .f64 f,v]))∧Below w.heap.size w w'
set_option maxHeartbeats 6400000 in
set_option maxRecDepth 100000 in
theorem strconv_ParseFloat.calls (s:ByteArray) (w:World) (hs:0<s.size∧s.size≤100000) (hn:NumT s) (hb:(48≤bt s 0∧bt s 0≤57)∨(bt s 0=45∧(1<s.size→48≤bt s 1∧bt s 1≤57))) (hP:PF w.heap.size w) (hE:PE w.heap.size w) :
 Calls Tryz.prog 120 #[.string s, .int .i64 64] w fun e w'=>PubP w e w':=by
 have H166:=Ak (strconv_ParseFloat166.calls s w hs hn hb hP)
 have HE:=Ak hE
 clear hn hb hP hE
 go_enter Tryz.func120,Tryz.ntmps120
 go_upto_region 2 with (first|(go_at_call 166;(refine (H166.out).mono ?_);rintro e w2 ⟨⟨f,v,rfl,hv⟩,hB⟩;have HB:=Ak hB;clear hB))
 have hz2:w.heap.size≤w2.heap.size:=HB.out.size
 have HE2:=Ak (HE.out.below HB.out)
 have HE3:Aside0 (PE w2.heap.size w2):=⟨by have:=HE2.out.lt;omega,HE2.out.syn,HE2.out.rng⟩
 rcases hv with rfl|rfl|rfl
 ·
  go_wp2
  go_ret2
  exact ⟨⟨f,_,rfl⟩,HB.out⟩
 ·
  have H164:=Ak (fun fn=>strconv_toError.calls fn s 0 64 1 (.inl rfl) w2 (by omega) HE3.out)
  go_wp2_with (first|(go_at_call 164;(refine (H164.out _).mono ?_);rintro e w3 ⟨⟨v3,rfl,hv3⟩,hB3⟩;have HB3:=Ak hB3;clear hB3))
  go_ret2
  exact ⟨⟨f,_,rfl⟩,HB.out.trans (HB3.out.mono hz2)⟩
 have H164:=Ak (fun fn=>strconv_toError.calls fn s 0 64 2 (.inr rfl) w2 (by omega) HE3.out)
 go_wp2_with (first|(go_at_call 164;(refine (H164.out _).mono ?_);rintro e w3 ⟨⟨v3,rfl,hv3⟩,hB3⟩;have HB3:=Ak hB3;clear hB3))
 go_ret2
 exact ⟨⟨f,_,rfl⟩,HB.out.trans (HB3.out.mono hz2)⟩
end Go.Proofs.YtnejkimpkaopoaaGreatDoor.Q

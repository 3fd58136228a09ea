/- spec.Read by hand. -/
import Derived.Test.YtnejkimpkaopoaaGreatDoorHa
import Derived.Test.YtnejkimpkaopoaaGreatDoorQ7
import Derived.Test.YtnejkimpkaopoaaGreatDoorQ8
import Derived.BigGuard
section
namespace Go.Proofs.YtnejkimpkaopoaaGreatDoor.Q
open RowKit YtnejkimpkaopoaaGreatDoorW.PrintWords YtnejkimpkaopoaaGreatDoorW.PrintLast YtnejkimpkaopoaaGreatDoorW.PrintMore
attribute [local go_sem] max2_int min2_int max_two min_two max_three min_three max_four min_four
set_option linter.unusedVariables false
set_option linter.unusedSimpArgs false
noncomputable def readF (k:Nat) (s:ByteArray):Option (S25 × Bool) :=
  (places k s).bind fun p=>if p.2=true then ((sT.f k s p.1.f0 p.1.f1 p.1.f2 p.1.f3 p.1.f4).bind fun t=>some (⟨t.1,t.2.1,t.2.2.1,t.2.2.2⟩,true)) else some (z25,false)
def NodeV (w w':World) (n:S25) (v:Value):Prop := ∃ v2 v3:Value,v = .agg #[.int .i64 n.f0, .string n.f1,v2,v3]∧Kd.R Kd.string 9 w' w.heap.size (fun _=>True) v2 n.f2∧Kd.R k25 25 w' w.heap.size (fun k_=>some k_≠v2.ownBlock) v3 n.f3
def ReadP (w:World) (n:S25) (ok:Bool) (e:Ending) (w':World):Prop := ∃ v,e = .returned (.tuple #[v, .bool ok])∧NodeV w w' n v∧Below w.heap.size w w'
set_option maxHeartbeats 8000000 in
set_option maxRecDepth 100000 in
theorem spec_Read.calls (k:Nat) (a0:ByteArray) (n:S25) (ok:Bool) (w:World) (h:readF k a0=some (n,ok)) :
 Calls Tryz.prog 33 #[.string a0] w fun e w'=>ReadP w n ok e w':=by
 have hu25:=Tryz.underlying25
 have hu102:=Tryz.underlying102
 unfold readF at h
 obtain ⟨⟨⟨p0,p1,p2,p3,p4⟩,ok1⟩,A1,h⟩:=Option.bind_eq_some_iff.mp h
 dsimp only at h
 have HPl:=Ak (fun W=>sP.calls k a0 p0 p1 p2 p3 p4 ok1 W A1)
 clear A1
 go_enter Tryz.func33,Tryz.ntmps33
 have HB:=Ak (Below.refl w.heap.size w)
 go_upto_if 12 with (first
  | ((with_reducible refine gate_dst (N:=2) rfl ?_);refine box_event ?hg (N:=2) ?hd (cs := #[.int .i64 0, .string ByteArray.empty, .slice none 0 0, .slice none 0 0]) (t:=25) ?hr ?_;(case hd=>rfl);(case hg=>rfl);(case hr=>first|(go_simp;done)|(go_simp;rfl));intro g1 hg1 w1 hb1 hB1;have GE1:=Ak (by rw [hg1];exact HB.out.size:w.heap.size≤g1);have HB1:=Ak (below_step HB.out hB1);have BK1:=Ak hb1;clear hg1 hb1 hB1)
  | (go_at_call 70;(refine (HPl.out _).mono ?_);rintro e w2 ⟨v3,v4,rfl,ho3,ho4,hb⟩;have HB2:=Ak (below_step HB1.out hb);have BK12:=Ak (blk_below BK1.out hb);have HO3:=Ak ho3;have HO4:=Ak ho4;have SZ1:=Ak (Nat.le_refl w1.heap.size);clear hb ho3 ho4)
  | ((with_reducible refine gate_dst (N:=4) rfl ?_);refine box_event ?hg (N:=4) ?hd (cs := #[.int .i64 0, .int .i64 0, .int .i64 0, .slice none 0 0, .slice none 0 0]) (t:=102) ?hr ?_;(case hd=>rfl);(case hg=>rfl);(case hr=>first|(go_simp;done)|(go_simp;rfl));intro g4 hg4 w3 hb3 hB3;have GE4:=Ak (by rw [hg4];exact HB2.out.size:w.heap.size≤g4);have HB3:=Ak (below_step HB2.out hB3);have BK3:=Ak hb3;have BK13:=Ak (blk_below BK12.out hB3);have NE14:=Ak (by have:=blk_lt BK12.out;omega:g1≠g4);have FB3:=Ak hB3;have G4:=Ak (by rw [hg4];exact Nat.le_refl _:w2.heap.size≤g4);clear hg4 hb3 hB3)
  | ((with_reducible refine gate_store (t:=102) (p:=4) rfl ?_);refine box_put (g:=g4) (cs := #[.int .i64 0, .int .i64 0, .int .i64 0, .slice none 0 0, .slice none 0 0]) (cs' := #[.int .i64 p0, .int .i64 p1, .int .i64 p2,v3,v4]) rfl rfl rfl rfl rfl rfl BK3.out rfl (by kernel_rfl) ?h1 ?_;(case h1=>intro q hq;simp only [List.mem_cons,List.not_mem_nil,or_false] at hq;rcases hq with rfl|rfl|rfl|rfl|rfl;exact rfl;exact rfl;exact rfl;exact (Kd.R_val HO3.out).2;exact (Kd.R_val HO4.out).2);intro w4 pb4;have PB4:=Ak pb4;clear pb4))
 have HB4:=Ak (PB4.out.below HB3.out GE4.out)
 have BK14:=Ak ((PB4.out.far g1 NE14.out).trans BK13.out)
 cases ok1 with
 | false =>
  rw [if_neg (by simp)] at h
  simp only [z25,Option.some.injEq,Prod.mk.injEq] at h
  obtain ⟨rfl,rfl⟩:=h
  go_wp2_with (first|((with_reducible refine gate_store (t:=25) (p:=2) rfl ?_);refine box_put (g:=g1) (cs := #[.int .i64 0, .string ByteArray.empty, .slice none 0 0, .slice none 0 0]) (cs' := #[.int .i64 0, .string ByteArray.empty, .slice none 0 0, .slice none 0 0]) rfl rfl rfl rfl rfl rfl BK14.out rfl (by kernel_rfl) ?h1 ?_;(case h1=>intro q hq;simp only [List.mem_cons,List.not_mem_nil,or_false] at hq;rcases hq with rfl|rfl|rfl|rfl <;> rfl);intro w8 pb8;have PB8:=Ak pb8;clear pb8))
  refine bodyPost_ret (results_ct rfl _ _ g1 25 #[.int .i64 0, .string ByteArray.empty, .slice none 0 0, .slice none 0 0] (0,0) _ rfl PB8.out.blk Tryz.underlying25 rfl (by kernel_rfl)) rfl ?_
  exact ⟨_,rfl,⟨_,_,rfl,Kd.R_nil _ _ _ _ _,Kd.R_nil _ _ _ _ _⟩,PB8.out.below HB4.out GE1.out⟩
 | true =>
  rw [if_pos rfl] at h
  obtain ⟨⟨t1,t2,t3,t4⟩,A2,h⟩:=Option.bind_eq_some_iff.mp h
  simp only [Option.some.injEq,Prod.mk.injEq] at h
  obtain ⟨rfl,rfl⟩:=h
  try dsimp only at A2
  have F4 : ∀ k_:Nat,k_<w2.heap.size→w4.heap[k_]? = w2.heap[k_]? := fun k_ h_=>(PB4.out.far k_ (by have:=G4.out;omega)).trans (FB3.out.block k_ h_)
  have HO3:=Ak (Kd.R_step (Kd.R_bound HO3.out) (fun k_ hk _=>F4 k_ hk.2.2.1))
  have HO4:=Ak (Kd.R_step (Kd.R_bound HO4.out) (fun k_ hk _=>F4 k_ hk.2.2.1))
  clear F4
  have hld:w4.heap[g4]? = some (.cells #[.int .i64 p0, .int .i64 p1, .int .i64 p2,v3,v4] 102 (0,0)):=PB4.out.blk
  have hz0:=(blk_cell hld 0).trans rfl
  have hz1:=(blk_cell hld 1).trans rfl
  have hz2:=(blk_cell hld 2).trans rfl
  have hz3:=(blk_cell hld 3).trans rfl
  have hz4:=(blk_cell hld 4).trans rfl
  obtain ⟨A3,c3,e3⟩:=Kd.R_slice HO3.out
  obtain ⟨A4,c4,e4⟩:=Kd.R_slice HO4.out
  have hT:=sT.calls k a0 p0 p1 p2 A3 c3 p3 A4 c4 p4 t1 t2 t3 t4 w4 (Kd.R_reads' (e3 ▸ HO3.out)).2.2 (by have:=(Kd.R_reads' (e3 ▸ HO3.out)).2.1;exact this) (Kd.R_reads' (e4 ▸ HO4.out)).2.2 (by have:=(Kd.R_reads' (e4 ▸ HO4.out)).2.1;exact this) A2
  rw [← e3, ← e4] at hT
  have HT:=Ak hT
  clear hT e3 e4
  go_wp2_with (first
   | (go_at_call 71;(refine HT.out.mono ?_);rintro e w5 ⟨v5,v6,rfl,ho5,ho6,hb⟩;have HB5:=Ak (below_step HB4.out hb);have BK15:=Ak (blk_below BK14.out hb);have HO5:=Ak ho5;have HO6:=Ak ho6;have L1:=Ak (blk_lt BK14.out);clear hb ho5 ho6)
   | ((with_reducible refine gate_store (t:=25) (p:=2) rfl ?_);refine box_put (g:=g1) (cs := #[.int .i64 0, .string ByteArray.empty, .slice none 0 0, .slice none 0 0]) (cs' := #[.int .i64 t1, .string t2,v5,v6]) rfl rfl rfl rfl rfl rfl BK15.out rfl (by kernel_rfl) ?h1 ?_;(case h1=>intro q hq;simp only [List.mem_cons,List.not_mem_nil,or_false] at hq;rcases hq with rfl|rfl|rfl|rfl;exact rfl;exact rfl;exact (Kd.R_val HO5.out).2;exact (Kd.R_val HO6.out).2);intro w8 pb8;have PB8:=Ak pb8;clear pb8))
  have F9 : ∀ k_:Nat,w4.heap.size≤k_→w8.heap[k_]? = w5.heap[k_]? := fun k_ h1_=>PB8.out.far k_ (by have:=L1.out;omega)
  have hle:w.heap.size≤w4.heap.size:=HB4.out.size
  refine bodyPost_ret (results_ct rfl _ _ g1 25 #[.int .i64 t1, .string t2,v5,v6] (0,0) _ rfl PB8.out.blk Tryz.underlying25 rfl (by kernel_rfl)) rfl ?_
  exact ⟨_,rfl,⟨_,_,rfl,Kd.R_mono (Kd.R_lower (Kd.R_step (Kd.R_bound HO5.out) (fun k_ hk _=>F9 k_ hk.2.1)) hle) (fun _ _=>trivial),Kd.R_mono (Kd.R_lower (Kd.R_step (Kd.R_bound HO6.out) (fun k_ hk _=>F9 k_ hk.2.1)) hle) (fun _ hk=>hk.1)⟩,PB8.out.below HB5.out GE1.out⟩
end Go.Proofs.YtnejkimpkaopoaaGreatDoor.Q
end
section
/- laws.gjText by hand. -/
namespace Go.Proofs.YtnejkimpkaopoaaGreatDoor.Q
open RowKit YtnejkimpkaopoaaGreatDoorW.PrintWords YtnejkimpkaopoaaGreatDoorW.PrintLast YtnejkimpkaopoaaGreatDoorW.PrintMore
attribute [local go_sem] max2_int min2_int max_two min_two max_three min_three max_four min_four
set_option linter.unusedVariables false
set_option linter.unusedSimpArgs false
noncomputable def textF (k:Nat) (s:ByteArray):Option (S25 × Bool) :=
  if 65536<s.size then some (z25,false) else
    (spec_UTF8.f k s).bind fun u=>if u=false then some (z25,false) else
      (sD.f k s).bind fun p=>if p=false then some (z25,false) else readF k s
def TxI (k:Nat) (s:ByteArray) (n:S25) (ok b:Bool):Prop:=(b=true∧n=z25∧ok=false)∨(b=false∧readF k s=some (n,ok))
set_option maxHeartbeats 8000000 in
set_option maxRecDepth 100000 in
theorem laws_gjText.calls (k:Nat) (s:ByteArray) (n:S25) (ok:Bool) (w:World) (h:textF k s=some (n,ok)) :
 Calls Tryz.prog 7 #[.string s] w fun e w'=>ReadP w n ok e w':=by
 have hu25:=Tryz.underlying25
 unfold textF at h
 go_enter Tryz.func7,Tryz.ntmps7
 have HB:=Ak (Below.refl w.heap.size w)
 have HH:=Ak h
 clear h
 go_upto_region 1 with (first
  | ((with_reducible refine gate_dst (N:=2) rfl ?_);refine box_event ?hg (N:=2) ?hd (cs := #[.int .i64 0, .string ByteArray.empty, .slice none 0 0, .slice none 0 0]) (t:=25) ?hr ?_;(case hd=>rfl);(case hg=>rfl);(case hr=>first|(go_simp;done)|(go_simp;rfl));intro g1 hg1 w1 hb1 hB1;have GE1:=Ak (by rw [hg1];exact HB.out.size:w.heap.size≤g1);have HB1:=Ak (below_step HB.out hB1);have BK1:=Ak hb1;clear hg1 hb1 hB1))
 go_cut [16] from 4 to 16 (fun v16 wc => ∃ b:Bool,v16 = .bool b∧Aside0 (TxI k s n ok b)∧Aside0 (Drawn0 w1 wc))
 case first =>
  by_cases c:65536<s.size
  ·
   have h:=HH.out
   rw [if_pos c] at h
   simp only [Option.some.injEq,Prod.mk.injEq] at h
   obtain ⟨rfl,rfl⟩:=h
   have cD:decide ((65536:Int)<(s.size:Int))=true:=decide_eq_true (by omega)
   clear HH
   go_wp2
   go_meet
   case rel=>exact ⟨true,rfl,⟨.inl ⟨rfl,rfl,rfl⟩⟩,⟨Drawn0.refl _⟩⟩
  have h:=HH.out
  rw [if_neg c] at h
  obtain ⟨u,hu,h⟩:=Option.bind_eq_some_iff.mp h
  have cD:decide ((65536:Int)<(s.size:Int))=false:=decide_eq_false (by omega)
  have H35:=Ak (fun W=>spec_UTF8.calls k s u W hu)
  clear hu HH
  cases u with
  | false =>
   rw [if_pos rfl] at h
   simp only [Option.some.injEq,Prod.mk.injEq] at h
   obtain ⟨rfl,rfl⟩:=h
   go_wp2_with (first|(go_at_call 35;(refine (H35.out _).mono ?_);rintro e w8 ⟨rfl,hd8⟩;have HD8:=Ak hd8;clear hd8))
   go_meet
   case rel=>exact ⟨true,rfl,⟨.inl ⟨rfl,rfl,rfl⟩⟩,HD8⟩
  | true =>
   rw [if_neg (by simp)] at h
   obtain ⟨p,hp,h⟩:=Option.bind_eq_some_iff.mp h
   have H36:=Ak (fun W=>sD.calls k s p W hp)
   clear hp
   cases p with
   | false =>
    rw [if_pos rfl] at h
    simp only [Option.some.injEq,Prod.mk.injEq] at h
    obtain ⟨rfl,rfl⟩:=h
    go_wp2_with (first|(go_at_call 35;(refine (H35.out _).mono ?_);rintro e w8 ⟨rfl,hd8⟩;have HD8:=Ak hd8;clear hd8)|(go_at_call 36;(refine (H36.out _).mono ?_);rintro e w9 ⟨rfl,hd9⟩;have HD8:=Ak (drawn_trans HD8.out hd9);clear hd9))
    go_meet
    case rel=>exact ⟨true,rfl,⟨.inl ⟨rfl,rfl,rfl⟩⟩,HD8⟩
   | true =>
    rw [if_neg (by simp)] at h
    have HR:=Ak h
    clear h
    go_wp2_with (first|(go_at_call 35;(refine (H35.out _).mono ?_);rintro e w8 ⟨rfl,hd8⟩;have HD8:=Ak hd8;clear hd8)|(go_at_call 36;(refine (H36.out _).mono ?_);rintro e w9 ⟨rfl,hd9⟩;have HD8:=Ak (drawn_trans HD8.out hd9);clear hd9))
    go_meet
    case rel=>exact ⟨false,rfl,⟨.inr ⟨rfl,HR.out⟩⟩,HD8⟩
 case rest =>
 obtain ⟨b,rfl,HC,HD⟩:=hcut
 rename_i wc
 have BK2:=Ak (blk_below BK1.out HD.out.below)
 have HB2:=Ak (below_step HB1.out HD.out.below)
 have hC:(b=true∧n=z25∧ok=false)∨(b=false∧readF k s=some (n,ok)):=HC.out
 rcases hC with ⟨rfl,rfl,rfl⟩|⟨rfl,hR⟩
 ·
  clear HC HH
  go_wp2_with (first|((with_reducible refine gate_store (t:=25) (p:=2) rfl ?_);refine box_put (g:=g1) (cs := #[.int .i64 0, .string ByteArray.empty, .slice none 0 0, .slice none 0 0]) (cs' := #[.int .i64 0, .string ByteArray.empty, .slice none 0 0, .slice none 0 0]) rfl rfl rfl rfl rfl rfl BK2.out rfl (by kernel_rfl) ?h1 ?_;(case h1=>intro q hq;simp only [List.mem_cons,List.not_mem_nil,or_false] at hq;rcases hq with rfl|rfl|rfl|rfl <;> rfl);intro w8 pb8;have PB8:=Ak pb8;clear pb8))
  refine bodyPost_ret (results_ct rfl _ _ g1 25 #[.int .i64 0, .string ByteArray.empty, .slice none 0 0, .slice none 0 0] (0,0) _ rfl PB8.out.blk Tryz.underlying25 rfl (by kernel_rfl)) rfl ?_
  exact ⟨_,rfl,⟨_,_,rfl,Kd.R_nil _ _ _ _ _,Kd.R_nil _ _ _ _ _⟩,PB8.out.below HB2.out GE1.out⟩
 have H33:=Ak (fun W=>spec_Read.calls k s n ok W hR)
 clear HC HH hR
 go_wp2_with (first
  | (go_at_call 33;(refine (H33.out _).mono ?_);rintro e w5 ⟨v,rfl,⟨v5,v6,rfl,ho5,ho6⟩,hb⟩;have HB5:=Ak (below_step HB2.out hb);have BK15:=Ak (blk_below BK2.out hb);have HO5:=Ak ho5;have HO6:=Ak ho6;have L1:=Ak (blk_lt BK2.out);clear hb ho5 ho6)
  | ((with_reducible refine gate_store (t:=25) (p:=2) rfl ?_);refine box_put (g:=g1) (cs := #[.int .i64 0, .string ByteArray.empty, .slice none 0 0, .slice none 0 0]) (cs' := #[.int .i64 n.f0, .string n.f1,v5,v6]) rfl rfl rfl rfl rfl rfl BK15.out rfl (by kernel_rfl) ?h1 ?_;(case h1=>intro q hq;simp only [List.mem_cons,List.not_mem_nil,or_false] at hq;rcases hq with rfl|rfl|rfl|rfl;exact rfl;exact rfl;exact (Kd.R_val HO5.out).2;exact (Kd.R_val HO6.out).2);intro w8 pb8;have PB8:=Ak pb8;clear pb8))
 have hle:w.heap.size≤wc.heap.size:=HB2.out.size
 have F9 : ∀ k_:Nat,wc.heap.size≤k_→w8.heap[k_]? = w5.heap[k_]? := fun k_ h1_=>PB8.out.far k_ (by have:=L1.out;omega)
 refine bodyPost_ret (results_ct rfl _ _ g1 25 #[.int .i64 n.f0, .string n.f1,v5,v6] (0,0) _ rfl PB8.out.blk Tryz.underlying25 rfl (by kernel_rfl)) rfl ?_
 exact ⟨_,rfl,⟨_,_,rfl,Kd.R_mono (Kd.R_lower (Kd.R_step (Kd.R_bound HO5.out) (fun k_ hk _=>F9 k_ hk.2.1)) hle) (fun _ _=>trivial),Kd.R_mono (Kd.R_lower (Kd.R_step (Kd.R_bound HO6.out) (fun k_ hk _=>F9 k_ hk.2.1)) hle) (fun _ hk=>hk.1)⟩,PB8.out.below HB5.out GE1.out⟩
end Go.Proofs.YtnejkimpkaopoaaGreatDoor.Q
end

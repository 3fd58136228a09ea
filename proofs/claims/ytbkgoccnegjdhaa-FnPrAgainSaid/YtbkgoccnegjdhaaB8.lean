/- Functions of the program as Lean functions, each with a proof that the call comes to what it gives. Written by prx.py (wip/pr). -/
import Derived.Test.YtbkgoccnegjdhaaB0
namespace Go.Proofs.Ytbkgoccnegjdhaa.Q
open Go.RowKit Go.Proofs.YtbkgoccnegjdhaaW.PrintWords Go.Proofs.YtbkgoccnegjdhaaW.PrintLast Go.Proofs.YtbkgoccnegjdhaaW.PrintMore
attribute [local go_sem] max2_int min2_int max_two min_two max_three min_three max_four min_four   -- for this text's walks alone
set_option linter.unusedVariables false
set_option linter.unusedSimpArgs false
/-! ### pT: function 47 -/
mutual
def pT.j0:Nat→List Int→ByteArray→Int→Option (List Int)
  | 0,_,_,_=>none
  | k+1,x0,x2,x3=>if (x2.size:Int)=2 then (if 0<(x2.size:Int) then (if (bt x2 0)=32 then (if 1<(x2.size:Int) then (pT.j1 k x0 x2 x3 ((bt x2 1) == 32)) else (none)) else (pT.j1 k x0 x2 x3 false)) else (none)) else (pT.j1 k x0 x2 x3 false)
def pT.j1:Nat→List Int→ByteArray→Int→Bool→Option (List Int)
  | 0,_,_,_,_=>none
  | k+1,x0,x2,x3,x29=>if x29=true then (pT.l0 k x0 x3 0) else (pT.l1 k x0 x2 x3 0)
def pT.l0:Nat→List Int→Int→Int→Option (List Int)
  | 0,_,_,_=>none
  | k+1,x0,x3,x9=>if x9<x3 then ((some (([32,32]:List Int):List Int)).bind fun yz0=>(if x0.length+yz0.length<140737488355328 then (pT.l0 k (x0++yz0) x3 (wrap64 (x9+1))) else (none))) else (some x0)
def pT.l1:Nat→List Int→ByteArray→Int→Int→Option (List Int)
  | 0,_,_,_,_=>none
  | k+1,x0,x2,x3,x10=>if x10<x3 then (if x0.length+x2.size<140737488355328 then (pT.l1 k (x0++bytesOf x2) x2 x3 (wrap64 (x10+1))) else (none)) else (some x0)
end
def pT.f (k:Nat) (l0:List Int) (a1:ByteArray) (a2:ByteArray) (a3:Int):Option (List Int):=if (a1.size:Int)=0 then (pT.j0 k l0 a2 a3) else (if l0.length+a1.size<140737488355328 then (pT.j0 k (l0++bytesOf a1) a2 a3) else (none))
theorem pT.mono_l : ∀ k,(∀ y0 y1 y2,LeO (pT.j0 k y0 y1 y2) (pT.j0 (k+1) y0 y1 y2))∧(∀ y0 y1 y2 y3,LeO (pT.j1 k y0 y1 y2 y3) (pT.j1 (k+1) y0 y1 y2 y3))∧(∀ y0 y1 y2,LeO (pT.l0 k y0 y1 y2) (pT.l0 (k+1) y0 y1 y2))∧(∀ y0 y1 y2 y3,LeO (pT.l1 k y0 y1 y2 y3) (pT.l1 (k+1) y0 y1 y2 y3))
  | 0=>⟨fun _ _ _ r h=>by simp [pT.j0] at h,fun _ _ _ _ r h=>by simp [pT.j1] at h,fun _ _ _ r h=>by simp [pT.l0] at h,fun _ _ _ _ r h=>by simp [pT.l1] at h⟩
  | k+1=>by
    obtain ⟨ih0,ih1,ih2,ih3⟩:=pT.mono_l k
    refine ⟨?_,?_,?_,?_⟩
    · intro y0 y1 y2
      unfold pT.j0
      repeat' first|(with_reducible first|apply ih0|apply ih1|apply ih2|apply ih3|apply LeO.refl|apply LeO.none|refine LeO.ite ?_ ?_|refine LeO.bind ?_ (fun _=>?_))|apply ih0|apply ih1|apply ih2|apply ih3|apply LeO.none|refine LeO.ite ?_ ?_|refine LeO.bind ?_ (fun _=>?_)
    · intro y0 y1 y2 y3
      unfold pT.j1
      repeat' first|(with_reducible first|apply ih0|apply ih1|apply ih2|apply ih3|apply LeO.refl|apply LeO.none|refine LeO.ite ?_ ?_|refine LeO.bind ?_ (fun _=>?_))|apply ih0|apply ih1|apply ih2|apply ih3|apply LeO.none|refine LeO.ite ?_ ?_|refine LeO.bind ?_ (fun _=>?_)
    · intro y0 y1 y2
      unfold pT.l0
      repeat' first|(with_reducible first|apply ih0|apply ih1|apply ih2|apply ih3|apply LeO.refl|apply LeO.none|refine LeO.ite ?_ ?_|refine LeO.bind ?_ (fun _=>?_))|apply ih0|apply ih1|apply ih2|apply ih3|apply LeO.none|refine LeO.ite ?_ ?_|refine LeO.bind ?_ (fun _=>?_)
    · intro y0 y1 y2 y3
      unfold pT.l1
      repeat' first|(with_reducible first|apply ih0|apply ih1|apply ih2|apply ih3|apply LeO.refl|apply LeO.none|refine LeO.ite ?_ ?_|refine LeO.bind ?_ (fun _=>?_))|apply ih0|apply ih1|apply ih2|apply ih3|apply LeO.none|refine LeO.ite ?_ ?_|refine LeO.bind ?_ (fun _=>?_)
theorem pT.mono : ∀ a0 a1 a2 a3 k,LeO (pT.f k a0 a1 a2 a3) (pT.f (k+1) a0 a1 a2 a3):=by
 intro a0 a1 a2 a3 k
 obtain ⟨ih0,ih1,ih2,ih3⟩:=pT.mono_l k
 unfold pT.f
 repeat' first|(with_reducible first|apply ih0|apply ih1|apply ih2|apply ih3|apply LeO.refl|apply LeO.none|refine LeO.ite ?_ ?_|refine LeO.bind ?_ (fun _=>?_))|apply ih0|apply ih1|apply ih2|apply ih3|apply LeO.none|refine LeO.ite ?_ ?_|refine LeO.bind ?_ (fun _=>?_)
set_option maxHeartbeats 8000000 in
set_option maxRecDepth 100000 in
theorem pT.calls (k:Nat) (P0_:Nat→Prop) (u9000_:Value) (l0:List Int) (a1:ByteArray) (a2:ByteArray) (a3:Int) (r:List Int) (w0 w:World) (hB:Below w0.heap.size w0 w) (ho0:Kd.R (Kd.int .u8) 5 w w0.heap.size P0_ u9000_ l0) (h:pT.f k l0 a1 a2 a3=some r) :
 Calls Try.prog 47 #[u9000_, .string a1, .string a2, .int .i64 a3] w fun e w' => ∃ v0_:Value,e = .returned (v0_)∧Kd.R (Kd.int .u8) 5 w' w0.heap.size (fun k_=>(P0_ k_∨w.heap.size≤k_)) v0_ r∧Below w0.heap.size w0 w'∧Kept w w' (fun k_=>P0_ k_):=by
 have HO0:=Ak (show Kd.R (Kd.int .u8) 5 w w0.heap.size (fun k_=>(P0_ k_∨w.heap.size≤k_)) u9000_ l0 from Kd.R_mono ho0 (fun k_ hk=>(.inl hk)))
 have HK:=Ak (Kept.refl w (fun k_=>P0_ k_))
 have HW0:=Ak hB.size
 have HB:=Ak hB
 clear hB
 have H:(if (a1.size:Int)=0 then (pT.j0 k l0 a2 a3) else (if l0.length+a1.size<140737488355328 then (pT.j0 k (l0++bytesOf a1) a2 a3) else (none)))=some r:=h
 clear h
 have HC5:=Ak H
 clear H
 go_enter Try.func47,Try.ntmps47
 go_upto_if 13 with (fail)
 go_cut [0] (fun v0 wc => ∃ (kq:Nat) (x0_4:List Int),Aside0 (pT.j0 kq x0_4 a2 a3=some r)∧Aside0 (kq≤k)∧Aside0 (Kd.R (Kd.int .u8) 5 wc w0.heap.size (fun k_=>(P0_ k_∨w.heap.size≤k_)) v0 x0_4)∧Aside0 (Kept w wc (fun k_=>P0_ k_))∧Aside0 (Below w0.heap.size w0 wc))
 case first =>
  have H:=HC5.out
  clear HC5
  by_cases c6:(a1.size:Int)=0
  ·
   rw [if_pos c6] at H
   have c6b0:((a1.size:Int) == 0)=true:=beq_iff_eq.mpr c6
   have c6b1:((a1.size:Int) != 0)=false:=bne_eq_false_iff_eq.mpr c6
   clear c6
   (first|rw [c6b0]|(simp only [i64_w,i32_w];rw [c6b0])|skip)
   have H':=Ak H
   clear H
   go_wp2
   go_meet
   case rel=>exact ⟨_,(l0),H',⟨by first|omega|exact Nat.le_refl _⟩,⟨oR HO0.out⟩,⟨oP⟩,⟨oB⟩⟩
  rw [if_neg c6] at H
  have c6b0:((a1.size:Int) == 0)=false:=beq_eq_false_iff_ne.mpr c6
  have c6b1:((a1.size:Int) != 0)=true:=bne_iff_ne.mpr c6
  (first|rw [c6b0]|(simp only [i64_w,i32_w];rw [c6b0])|skip)
  by_cases c7:l0.length+a1.size<140737488355328
  ·
   rw [if_pos c7] at H
   have LMc7:=Ak c7
   clear c7
   obtain ⟨yz0,hyz0⟩ : ∃ y_:List Int,y_=(l0++bytesOf a1):=⟨_,rfl⟩
   replace H:(pT.j0 k yz0 a2 a3)=some r:=by first|(rw [hyz0];with_reducible exact H)|(have H2_:=(Option.bind_some _ _).symm.trans H;rw [hyz0];with_reducible exact H2_)|(have H2_:=(Option.bind_some _ _).symm.trans H;with_reducible exact H2_)|with_reducible exact H|(rw [hyz0];exact H)|exact H
   have Nyz0:=Ak hyz0
   clear hyz0
   have H':=Ak H
   clear H
   go_wp2_with (first|((with_reducible refine gate_builtin (b := .append) (xs := #[.tmp 14,_]) rfl ?_);at_builtin;refine Kd.R_append_str (w0:=w0) w0.heap.size rfl (.tmp 14) _ 44 9 5 rfl Try.underlying44 Try.underlying9 info5 u9000_ l0 a1 (fun k_=>(P0_ k_∨w.heap.size≤k_)) rfl rfl ?aO ?aF ?aB ?aS ?aL ?_;(case aB=>exact oB);(case aF=>exact (fun k_ hk=>(.inr (Nat.le_trans (by first|exact HK.out.1|exact (show Kept w _ (fun k_=>P0_ k_) from oP).1) hk))));(case aO=>exact (oR HO0.out));(case aS=>exact (below_size oB));(case aL=>have:=LMc7.out;omega);intro vz1 w8 ho hb hg hat;rw [← Nyz0.out] at ho;have _:=Ak (hb);have _:=Ak (Kept.of_grown (S:=(fun k_=>P0_ k_)) hg oP (fun k_ e_=>(HO0.out.1 k_ e_)));have _:=Ak (ho);clear HB HK HO0;rename_i HB HK HOz2;clear ho hb hg hat))
   go_meet
   case rel=>exact ⟨_,(yz0),H',⟨by first|omega|exact Nat.le_refl _⟩,⟨oR HOz2.out⟩,⟨oP⟩,⟨oB⟩⟩
  rw [if_neg c7] at H
  exact absurd H (by simp)
 case rest =>
 clear HC5
 obtain ⟨kq,x0_4,HA,HJ4,HO_0,HK,HB⟩:=hcut
 cases kq with
 | zero=>exact absurd HA.out (by simp [pT.j0])
 | succ kj4 =>
  have H:=HA.out
  clear HA
  simp only [pT.j0] at H
  have HC9:=Ak H
  clear H
  go_upto_region 3 with (fail)
  go_cut [29] (fun v29 wc => ∃ (kq:Nat) (x29_8:Bool),v29 = .bool x29_8∧Aside0 (pT.j1 kq x0_4 a2 a3 x29_8=some r)∧Aside0 (kq≤kj4)∧Aside0 (Kd.R (Kd.int .u8) 5 wc w0.heap.size (fun k_=>(P0_ k_∨w.heap.size≤k_)) u0 x0_4)∧Aside0 (Kept w wc (fun k_=>P0_ k_))∧Aside0 (Below w0.heap.size w0 wc))
  case first =>
   have H:=HC9.out
   clear HC9
   by_cases c10:(a2.size:Int)=2
   rotate_left
   ·
    rw [if_neg c10] at H
    have c10b0:((a2.size:Int) == 2)=false:=beq_eq_false_iff_ne.mpr c10
    have c10b1:((a2.size:Int) != 2)=true:=bne_iff_ne.mpr c10
    (first|rw [c10b0]|(simp only [i64_w,i32_w];rw [c10b0])|skip)
    have H':=Ak H
    clear H
    go_wp2
    go_meet
    case rel=>exact ⟨_,(false),oS,H',⟨by have:=HJ4.out;first|omega|exact Nat.le_refl _⟩,⟨oR HO_0.out⟩,⟨oP⟩,⟨oB⟩⟩
   rw [if_pos c10] at H
   have c10b0:((a2.size:Int) == 2)=true:=beq_iff_eq.mpr c10
   have c10b1:((a2.size:Int) != 2)=false:=bne_eq_false_iff_eq.mpr c10
   clear c10
   (first|rw [c10b0]|(simp only [i64_w,i32_w];rw [c10b0])|skip)
   by_cases c11:0<(a2.size:Int)
   ·
    rw [if_pos c11] at H
    have c11b0:decide (0<(a2.size:Int))=true:=decide_eq_true c11
    have c11b1:decide (0<a2.size)=true:=decide_eq_true (by omega)
    clear c11
    by_cases c13:(bt a2 0)=32
    rotate_left
    ·
     rw [if_neg c13] at H
     have c13b0:((bt a2 0) == 32)=false:=beq_eq_false_iff_ne.mpr c13
     have c13b1:((bt a2 0) != 32)=true:=bne_iff_ne.mpr c13
     have H':=Ak H
     clear H
     have p12:0≤(0:Int):=(by omega)
     have q12:0<a2.size:=(by have:(0:Int)<(a2.size:Int):=of_decide_eq_true oA;omega)
     have hx12 : ∀ h:0<a2.size,((a2[0]'h).toNat:Int)=bt a2 0:=bt_at a2 0
     clear p12
     have qi12:(0<(a2.size:Int))=True:=eq_true (of_decide_eq_true oA)
     replace q12:=eq_true q12
     go_wp2
     go_meet
     case rel=>exact ⟨_,(false),oS,H',⟨by have:=HJ4.out;first|omega|exact Nat.le_refl _⟩,⟨oR HO_0.out⟩,⟨oP⟩,⟨oB⟩⟩
    rw [if_pos c13] at H
    have c13b0:((bt a2 0) == 32)=true:=beq_iff_eq.mpr c13
    have c13b1:((bt a2 0) != 32)=false:=bne_eq_false_iff_eq.mpr c13
    clear c13
    by_cases c14:1<(a2.size:Int)
    ·
     rw [if_pos c14] at H
     have c14b0:decide (1<(a2.size:Int))=true:=decide_eq_true c14
     have c14b1:decide (1<a2.size)=true:=decide_eq_true (by omega)
     clear c14
     have H':=Ak H
     clear H
     have p12:0≤(0:Int):=(by omega)
     have q12:0<a2.size:=(by have:(0:Int)<(a2.size:Int):=of_decide_eq_true oA;omega)
     have hx12 : ∀ h:0<a2.size,((a2[0]'h).toNat:Int)=bt a2 0:=bt_at a2 0
     clear p12
     have qi12:(0<(a2.size:Int))=True:=eq_true (of_decide_eq_true oA)
     replace q12:=eq_true q12
     have p15:0≤(1:Int):=(by omega)
     have q15:1<a2.size:=(by have:(1:Int)<(a2.size:Int):=of_decide_eq_true oA;omega)
     have hx15 : ∀ h:1<a2.size,((a2[1]'h).toNat:Int)=bt a2 1:=bt_at a2 1
     clear p15
     have qi15:(1<(a2.size:Int))=True:=eq_true (of_decide_eq_true oA)
     replace q15:=eq_true q15
     go_wp2
     go_meet
     case rel=>exact ⟨_,(((bt a2 1) == 32)),oS,H',⟨by have:=HJ4.out;first|omega|exact Nat.le_refl _⟩,⟨oR HO_0.out⟩,⟨oP⟩,⟨oB⟩⟩
    rw [if_neg c14] at H
    exact absurd H (by simp)
   rw [if_neg c11] at H
   exact absurd H (by simp)
  case rest =>
  clear HC9
  obtain ⟨kq,x29_8,rfl,HA,HJ8,HO_0,HK,HB⟩:=hcut
  cases kq with
  | zero=>exact absurd HA.out (by simp [pT.j1])
  | succ kj8 =>
   have H:=HA.out
   clear HA
   simp only [pT.j1] at H
   by_cases c16:x29_8=true
   rotate_left
   ·
    replace c16:=Bool.eq_false_iff.mpr c16
    subst c16
    have H1:(pT.l1 kj8 x0_4 a2 a3 0)=some r:=by rw [if_neg (show ¬ (false=true) by decide)] at H;exact H
    clear H
    have H:=H1
    clear H1
    have H':=Ak H
    clear H
    go_wp2
    (try simp only [Act.put,List.setIfInBounds_toArray,List.set_cons_zero,List.set_cons_succ])
    go_loopg [0,10] kj8 (fun kq v0 v10 w' => ∃ (x0_3:List Int) (x10_3:Int),v10 = .int .i64 x10_3∧Aside0 (pT.l1 kq x0_3 a2 a3 x10_3=some r)∧Aside0 (kq≤kj8)∧Aside0 (Kd.R (Kd.int .u8) 5 w' w0.heap.size (fun k_=>(P0_ k_∨w.heap.size≤k_)) v0 x0_3)∧Aside0 (Kept w w' (fun k_=>P0_ k_))∧Aside0 (Below w0.heap.size w0 w'))
    case atStart=>exact ⟨(x0_4),(0),oS,H',⟨Nat.le_refl _⟩,⟨oR HO_0.out⟩,⟨oP⟩,⟨oB⟩⟩
    case round =>
    clear H'
    obtain ⟨x0_3,x10_3,rfl,HA,HK3,HO_0,HK,HB⟩:=hrel
    cases gk with
    | zero=>exact absurd HA.out (by simp [pT.l1])
    | succ k3 =>
     have H:=HA.out
     clear HA
     simp only [pT.l1] at H
     by_cases c23:x10_3<a3
     rotate_left
     ·
      rw [if_neg c23] at H
      have c23b0:decide (x10_3<a3)=false:=decide_eq_false c23
      clear c23
      obtain rfl:=Option.some.inj H
      go_wp2
      go_ret
      exact ⟨_,oE,oR HO_0.out,oB,oP⟩
     rw [if_pos c23] at H
     have c23b0:decide (x10_3<a3)=true:=decide_eq_true c23
     clear c23
     by_cases c24:x0_3.length+a2.size<140737488355328
     ·
      rw [if_pos c24] at H
      have LMc24:=Ak c24
      clear c24
      obtain ⟨yz9,hyz9⟩ : ∃ y_:List Int,y_=(x0_3++bytesOf a2):=⟨_,rfl⟩
      replace H:(pT.l1 k3 yz9 a2 a3 (wrap64 (x10_3+1)))=some r:=by first|(rw [hyz9];with_reducible exact H)|(have H2_:=(Option.bind_some _ _).symm.trans H;rw [hyz9];with_reducible exact H2_)|(have H2_:=(Option.bind_some _ _).symm.trans H;with_reducible exact H2_)|with_reducible exact H|(rw [hyz9];exact H)|exact H
      have Nyz9:=Ak hyz9
      clear hyz9
      have H':=Ak H
      clear H
      go_wp2_with (first|((with_reducible refine gate_builtin (b := .append) (xs := #[.tmp 43,_]) rfl ?_);at_builtin;refine Kd.R_append_str (w0:=w0) w0.heap.size rfl (.tmp 43) _ 44 9 5 rfl Try.underlying44 Try.underlying9 info5 u0 x0_3 a2 (fun k_=>(P0_ k_∨w.heap.size≤k_)) rfl rfl ?aO ?aF ?aB ?aS ?aL ?_;(case aB=>exact oB);(case aF=>exact (fun k_ hk=>(.inr (Nat.le_trans (by first|exact HK.out.1|exact (show Kept w _ (fun k_=>P0_ k_) from oP).1) hk))));(case aO=>exact (oR HO_0.out));(case aS=>exact (below_size oB));(case aL=>have:=LMc24.out;omega);intro vz10 w25 ho hb hg hat;rw [← Nyz9.out] at ho;have _:=Ak (hb);have _:=Ak (Kept.of_grown (S:=(fun k_=>P0_ k_)) hg oP (fun k_ e_=>(HO_0.out.1 k_ e_)));have _:=Ak (ho);clear HB HK HO_0;rename_i HB HK HOz11;clear ho hb hg hat))
      go_roundg k3
      case measure=>have:=HJ4.out;have:=HJ8.out;have:=HK3.out;omega
      case rel=>exact ⟨(yz9),(wrap64 (x10_3+1)),oS,H',⟨by have:=HJ4.out;have:=HJ8.out;have:=HK3.out;omega⟩,⟨oR HOz11.out⟩,⟨oP⟩,⟨oB⟩⟩
     rw [if_neg c24] at H
     exact absurd H (by simp)
   subst c16
   have H1:(pT.l0 kj8 x0_4 a3 0)=some r:=by rw [if_pos rfl] at H;exact H
   clear H
   have H:=H1
   clear H1
   have H':=Ak H
   clear H
   go_wp2
   (try simp only [Act.put,List.setIfInBounds_toArray,List.set_cons_zero,List.set_cons_succ])
   go_loopg [0,9] kj8 (fun kq v0 v9 w' => ∃ (x0_3:List Int) (x9_3:Int),v9 = .int .i64 x9_3∧Aside0 (pT.l0 kq x0_3 a3 x9_3=some r)∧Aside0 (kq≤kj8)∧Aside0 (Kd.R (Kd.int .u8) 5 w' w0.heap.size (fun k_=>(P0_ k_∨w.heap.size≤k_)) v0 x0_3)∧Aside0 (Kept w w' (fun k_=>P0_ k_))∧Aside0 (Below w0.heap.size w0 w'))
   case atStart=>exact ⟨(x0_4),(0),oS,H',⟨Nat.le_refl _⟩,⟨oR HO_0.out⟩,⟨oP⟩,⟨oB⟩⟩
   case round =>
   clear H'
   obtain ⟨x0_3,x9_3,rfl,HA,HK3,HO_0,HK,HB⟩:=hrel
   cases gk with
   | zero=>exact absurd HA.out (by simp [pT.l0])
   | succ k3 =>
    have H:=HA.out
    clear HA
    simp only [pT.l0] at H
    by_cases c17:x9_3<a3
    rotate_left
    ·
     rw [if_neg c17] at H
     have c17b0:decide (x9_3<a3)=false:=decide_eq_false c17
     clear c17
     obtain rfl:=Option.some.inj H
     go_wp2
     go_ret
     exact ⟨_,oE,oR HO_0.out,oB,oP⟩
    rw [if_pos c17] at H
    have c17b0:decide (x9_3<a3)=true:=decide_eq_true c17
    clear c17
    obtain ⟨yz3,hyz3⟩ : ∃ y_:List Int,y_=(([32,32]:List Int)):=⟨_,rfl⟩
    replace H:(if x0_3.length+yz3.length<140737488355328 then (pT.l0 k3 (x0_3++yz3) a3 (wrap64 (x9_3+1))) else (none))=some r:=by first|(rw [hyz3];with_reducible exact H)|(have H2_:=(Option.bind_some _ _).symm.trans H;rw [hyz3];with_reducible exact H2_)|(have H2_:=(Option.bind_some _ _).symm.trans H;with_reducible exact H2_)|with_reducible exact H|(rw [hyz3];exact H)|exact H
    have Nyz3:=Ak hyz3
    clear hyz3
    by_cases c18:x0_3.length+yz3.length<140737488355328
    ·
     rw [if_pos c18] at H
     have LMc18:=Ak c18
     clear c18
     obtain ⟨yz4,hyz4⟩ : ∃ y_:List Int,y_=(x0_3++yz3):=⟨_,rfl⟩
     replace H:(pT.l0 k3 yz4 a3 (wrap64 (x9_3+1)))=some r:=by first|(rw [hyz4];with_reducible exact H)|(have H2_:=(Option.bind_some _ _).symm.trans H;rw [hyz4];with_reducible exact H2_)|(have H2_:=(Option.bind_some _ _).symm.trans H;with_reducible exact H2_)|with_reducible exact H|(rw [hyz4];exact H)|exact H
     have Nyz4:=Ak hyz4
     clear hyz4
     have H':=Ak H
     clear H
     go_wp2_with (first|((with_reducible refine gate_dst (N:=36) rfl ?_);refine Kd.R_lit (Kd.int .u8) _ 5 ?hg (N:=36) ?hd (xs:=([32,32]:List Int)) (inner:=[.int .u8 32, .int .u8 32]) (ok:=fun _=>True) (okp:=fun _=>True) ?hr ?hp (fun _ hk=>hk) trivial (Below.refl _ _) (Nat.le_refl _) (by simp) ?_;(case hd=>rfl);(case hg=>rfl);(case hr=>first|(go_simp;done)|(go_simp;rfl));(case hp=>exact (Reps.one (show Kd.M (Kd.int .u8) _ _ _ 32 [.int .u8 32] from rfl) (Reps.one (show Kd.M (Kd.int .u8) _ _ _ 32 [.int .u8 32] from rfl) (Reps.none _ _))));intro vz5 w19 ho20 hb hg_ hnew_;clear hg_ hnew_;(first|rw [← Nyz3.out] at ho20|(simp only [Int.reduceToNat] at ho20;rw [← Nyz3.out] at ho20));have _:=Ak (Kd.R_elder' (oR HO_0.out) (Kd.R_base ho20) hb);have _:=Ak (Kd.R_lower (Kd.R_new' (Kd.R_newM (M:=fun k_=>(P0_ k_∨w.heap.size≤k_)) ho20 (by first|exact HK.out.1|exact (show Kept w _ (fun k_=>P0_ k_) from oP).1) (fun k_ h_ => .inr h_)) (Kd.R_lt (oR HO_0.out))) (below_size oB));have _:=Ak (Kept.below (S:=(fun k_=>P0_ k_)) oP hb);have _:=Ak (below_step oB hb);clear HO_0 HK HB;rename_i HO_0 HOz6 HK HB;clear hb ho20;obtain ⟨Ao22,co22,eo22⟩:=Kd.R_slice HOz6.out;subst eo22)|((with_reducible refine gate_builtin (b := .append) (xs := #[.tmp 35, .tmp 36]) rfl ?_);at_builtin;refine Kd.R_append_rows (Kd.int .u8) (w0:=w0) w0.heap.size rfl (.tmp 35) (.tmp 36) 44 5 (.int .u8 0) 1 rfl Try.underlying44 info5 rfl (by decide) (by omega) u0 x0_3 yz3 _ _ _ (fun k_=>(P0_ k_∨w.heap.size≤k_)∧some k_≠(.slice Ao22 yz3.length co22:Value).ownBlock) (fun _=>False) rfl rfl ?aO ?aR (fun _ _ h=>h) (fun _ h=>h.elim) ?aF ?aB ?aS ?aL ?_;(case aR=>repeat (first|exact (Kd.R_reads' HOz6.out).2.2|(with_reducible refine Kd.C_alloc ?_ _)|(with_reducible refine Kd.C_drewN ?_ _)|(with_reducible refine Kd.C_drew ?_)));(case aB=>exact oB);(case aF=>exact (fun k_ hk=>⟨(.inr (Nat.le_trans (by first|exact HK.out.1|exact (show Kept w _ (fun k_=>P0_ k_) from oP).1) hk)),Kd.fresh' (Kd.R_lt (oR HOz6.out)) k_ hk⟩));(case aO=>exact (oR HO_0.out));(case aS=>exact (below_size oB));(case aL=>have:=LMc18.out;omega);intro vz7 w21 ho hb hg hat;rw [← Nyz4.out] at ho;have _:=Ak (Kd.R_after (ok:=(fun k_=>(P0_ k_∨w.heap.size≤k_))) (by (with_reducible repeat (first|apply Kd.R_alloc|apply Kd.R_drewN|apply Kd.R_drew));exact Kd.R_mono HOz6.out (fun _ hk=>⟨hk.1.1,hk.2⟩)) hg hat);have _:=Ak (hb);have _:=Ak (Kept.of_grown (S:=(fun k_=>P0_ k_)) hg oP (fun k_ e_=>(HO_0.out.1 k_ e_).1));have _:=Ak (ho);clear HOz6 HB HK HO_0;rename_i HOz6 HB HK HOz8;clear ho hb hg hat))
     go_roundg k3
     case measure=>have:=HJ4.out;have:=HJ8.out;have:=HK3.out;omega
     case rel=>exact ⟨(yz4),(wrap64 (x9_3+1)),oS,H',⟨by have:=HJ4.out;have:=HJ8.out;have:=HK3.out;omega⟩,⟨by (with_reducible repeat (first|apply Kd.R_alloc|apply Kd.R_drewN|apply Kd.R_drew));exact Kd.R_mono HOz8.out (fun _ hk=>hk.1)⟩,⟨oP⟩,⟨oB⟩⟩
    rw [if_neg c18] at H
    exact absurd H (by simp)
end Go.Proofs.Ytbkgoccnegjdhaa.Q

/- Functions of the program as Lean functions, each with a proof that the call comes to what it gives. Written by prx.py (wip/pr). -/
import Derived.Test.YtbkgoccnegjdhaaQ0
import Derived.Test.YtbkgoccnegjdhaaQ5
import Derived.Test.YtbkgoccnegjdhaaQ7
import Derived.Test.YtbkgoccnegjdhaaQ8
namespace Go.Proofs.Ytbkgoccnegjdhaa.Q
open Go.RowKit Go.Proofs.YtbkgoccnegjdhaaW.PrintWords Go.Proofs.YtbkgoccnegjdhaaW.PrintLast Go.Proofs.YtbkgoccnegjdhaaW.PrintMore
attribute [local go_sem] max2_int min2_int max_two min_two max_three min_three max_four min_four   -- for this text's walks alone
set_option linter.unusedVariables false
set_option linter.unusedSimpArgs false
set_option maxHeartbeats 8000000 in
set_option maxRecDepth 100000 in
theorem pretty_appendPrettyObject.step (k:Nat) (ih_21 : ∀ m_:Nat,m_<k→(∀ (P0_:Nat→Prop) (u9000_:Value) (l0:List Int) (A1:Option Addr) (c1:Nat) (l1:List Int) (a2:Int) (a3:Bool) (a4:Int) (a5:ByteArray) (a6:ByteArray) (a7:Bool) (a8:Int) (a9:Int) (a10:Int) (r1:List Int) (r2:Int) (r3:Int) (r4:Bool) (w0 w:World) (hB:Below w0.heap.size w0 w) (ho0:Kd.R (Kd.int .u8) 5 w w0.heap.size P0_ u9000_ l0) (hr1 : ∀ W_,Kept w W_ (fun k_=>P0_ k_)→Kd.C (Kd.int .u8) W_ A1 l1.length l1) (hc1:l1.length≤c1) (h:pretty_appendPrettyAny.f m_ l0 l1 a2 a3 a4 a5 a6 a7 a8 a9 a10=some (r1,r2,r3,r4)),
 Calls Try.prog 21 #[u9000_, .slice A1 l1.length c1, .int .i64 a2, .bool a3, .int .i64 a4, .string a5, .string a6, .bool a7, .int .i64 a8, .int .i64 a9, .int .i64 a10] w fun e w' => ∃ v0_:Value,e = .returned (.tuple #[v0_, .int .i64 r2, .int .i64 r3, .bool r4])∧Kd.R (Kd.int .u8) 5 w' w0.heap.size (fun k_=>(P0_ k_∨w.heap.size≤k_)) v0_ r1∧Below w0.heap.size w0 w'∧Kept w w' (fun k_=>P0_ k_))) (ih_41 : ∀ m_:Nat,m_<k→(∀ (P0_:Nat→Prop) (u9000_:Value) (l0:List Int) (A1:Option Addr) (c1:Nat) (l1:List Int) (a2:Int) (a3:Int) (a4:Int) (a5:Bool) (a6:Int) (a7:ByteArray) (a8:ByteArray) (a9:Bool) (a10:Int) (a11:Int) (a12:Int) (r1:List Int) (r2:Int) (r3:Int) (r4:Bool) (w0 w:World) (hB:Below w0.heap.size w0 w) (ho0:Kd.R (Kd.int .u8) 5 w w0.heap.size P0_ u9000_ l0) (hr1 : ∀ W_,Kept w W_ (fun k_=>P0_ k_)→Kd.C (Kd.int .u8) W_ A1 l1.length l1) (hc1:l1.length≤c1) (h:pretty_appendPrettyObject.f m_ l0 l1 a2 a3 a4 a5 a6 a7 a8 a9 a10 a11 a12=some (r1,r2,r3,r4)),
 Calls Try.prog 41 #[u9000_, .slice A1 l1.length c1, .int .i64 a2, .int .u8 a3, .int .u8 a4, .bool a5, .int .i64 a6, .string a7, .string a8, .bool a9, .int .i64 a10, .int .i64 a11, .int .i64 a12] w fun e w' => ∃ v0_:Value,e = .returned (.tuple #[v0_, .int .i64 r2, .int .i64 r3, .bool r4])∧Kd.R (Kd.int .u8) 5 w' w0.heap.size (fun k_=>(P0_ k_∨w.heap.size≤k_)) v0_ r1∧Below w0.heap.size w0 w'∧Kept w w' (fun k_=>P0_ k_))) : ∀ (P0_:Nat→Prop) (u9000_:Value) (l0:List Int) (A1:Option Addr) (c1:Nat) (l1:List Int) (a2:Int) (a3:Int) (a4:Int) (a5:Bool) (a6:Int) (a7:ByteArray) (a8:ByteArray) (a9:Bool) (a10:Int) (a11:Int) (a12:Int) (r1:List Int) (r2:Int) (r3:Int) (r4:Bool) (w0 w:World) (hB:Below w0.heap.size w0 w) (ho0:Kd.R (Kd.int .u8) 5 w w0.heap.size P0_ u9000_ l0) (hr1 : ∀ W_,Kept w W_ (fun k_=>P0_ k_)→Kd.C (Kd.int .u8) W_ A1 l1.length l1) (hc1:l1.length≤c1) (h:pretty_appendPrettyObject.f k l0 l1 a2 a3 a4 a5 a6 a7 a8 a9 a10 a11 a12=some (r1,r2,r3,r4)),
 Calls Try.prog 41 #[u9000_, .slice A1 l1.length c1, .int .i64 a2, .int .u8 a3, .int .u8 a4, .bool a5, .int .i64 a6, .string a7, .string a8, .bool a9, .int .i64 a10, .int .i64 a11, .int .i64 a12] w fun e w' => ∃ v0_:Value,e = .returned (.tuple #[v0_, .int .i64 r2, .int .i64 r3, .bool r4])∧Kd.R (Kd.int .u8) 5 w' w0.heap.size (fun k_=>(P0_ k_∨w.heap.size≤k_)) v0_ r1∧Below w0.heap.size w0 w'∧Kept w w' (fun k_=>P0_ k_):=by
 intro P0_ u9000_ l0 A1 c1 l1 a2 a3 a4 a5 a6 a7 a8 a9 a10 a11 a12 r1 r2 r3 r4 w0 w hB ho0 hr1 hc1 h
 cases k with
 | zero=>exact absurd h (by simp [pretty_appendPrettyObject.f])
 | succ k =>
 simp only [pretty_appendPrettyObject.f] at h
 have hu82:=Try.underlying82
 have HO0:=Ak (show Kd.R (Kd.int .u8) 5 w w0.heap.size (fun k_=>(P0_ k_∨w.heap.size≤k_)) u9000_ l0 from Kd.R_mono ho0 (fun k_ hk=>(.inl hk)))
 have HR1:=Ak hr1
 have HC1:=Ak hc1
 clear hr1 hc1
 have HK:=Ak (Kept.refl w (fun k_=>P0_ k_))
 have HW0:=Ak hB.size
 have HB:=Ak hB
 clear hB
 have H:(if a6>0 then (if a5=true then (if a3=91 then (pretty_appendPrettyObject.j0 k l0 l1 a2 a3 a4 a5 a6 a7 a8 a9 a10 a11 a12 (a12 == (-1))) else (pretty_appendPrettyObject.j0 k l0 l1 a2 a3 a4 a5 a6 a7 a8 a9 a10 a11 a12 false)) else (pretty_appendPrettyObject.j0 k l0 l1 a2 a3 a4 a5 a6 a7 a8 a9 a10 a11 a12 false)) else (pretty_appendPrettyObject.j1 k l0 l1 a2 a3 a4 a5 a6 a7 a8 a9 a10 a11 a12))=some (r1,r2,r3,r4):=h
 clear h
 have HC14:=Ak H
 clear H
 go_enter Try.func41,Try.ntmps41
 go_upto_if 38 with (fail)
 go_cut [0,2] from 37 to 38 (fun v0 v2 wc => ∃ (kq:Nat) (x0_13:List Int) (x2_13:Int),v2 = .int .i64 x2_13∧Aside0 (pretty_appendPrettyObject.j1 kq x0_13 l1 x2_13 a3 a4 a5 a6 a7 a8 a9 a10 a11 a12=some (r1,r2,r3,r4))∧Aside0 (kq≤k)∧Aside0 (Kd.R (Kd.int .u8) 5 wc w0.heap.size (fun k_=>(P0_ k_∨w.heap.size≤k_)) v0 x0_13)∧Aside0 (Kept w wc (fun k_=>P0_ k_))∧Aside0 (Below w0.heap.size w0 wc))
 case first =>
  have H:=HC14.out
  clear HC14
  by_cases c15:a6>0
  rotate_left
  ·
   rw [if_neg c15] at H
   have c15b0:decide (0<a6)=false:=decide_eq_false c15
   clear c15
   (first|rw [c15b0]|(simp only [i64_w,i32_w];rw [c15b0])|skip)
   have H':=Ak H
   clear H
   go_wp2
   go_meet
   case rel=>exact ⟨_,(l0),(a2),oS,H',⟨by first|omega|exact Nat.le_refl _⟩,⟨oR HO0.out⟩,⟨oP⟩,⟨oB⟩⟩
  rw [if_pos c15] at H
  have c15b0:decide (0<a6)=true:=decide_eq_true c15
  clear c15
  (first|rw [c15b0]|(simp only [i64_w,i32_w];rw [c15b0])|skip)
  have HC16:=Ak H
  clear H
  go_upto_region 3 with (fail)
  go_cut [47] from 37 to 47 (fun v47 wc => ∃ (kq:Nat) (x47_15:Bool),v47 = .bool x47_15∧Aside0 (pretty_appendPrettyObject.j0 kq l0 l1 a2 a3 a4 a5 a6 a7 a8 a9 a10 a11 a12 x47_15=some (r1,r2,r3,r4))∧Aside0 (kq≤k)∧Aside0 (Kd.R (Kd.int .u8) 5 wc w0.heap.size (fun k_=>(P0_ k_∨w.heap.size≤k_)) u9000_ l0)∧Aside0 (Kept w wc (fun k_=>P0_ k_))∧Aside0 (Below w0.heap.size w0 wc))
  case first =>
   have H:=HC16.out
   clear HC16
   by_cases c17:a5=true
   rotate_left
   ·
    replace c17:=Bool.eq_false_iff.mpr c17
    subst c17
    have H1:(pretty_appendPrettyObject.j0 k l0 l1 a2 a3 a4 false a6 a7 a8 a9 a10 a11 a12 false)=some (r1,r2,r3,r4):=by rw [if_neg (show ¬ (false=true) by decide)] at H;exact H
    clear H
    have H:=H1
    clear H1
    have H':=Ak H
    clear H
    go_wp2
    go_meet
    case rel=>exact ⟨_,(false),oS,H',⟨by first|omega|exact Nat.le_refl _⟩,⟨oR HO0.out⟩,⟨oP⟩,⟨oB⟩⟩
   subst c17
   have H1:(if a3=91 then (pretty_appendPrettyObject.j0 k l0 l1 a2 a3 a4 true a6 a7 a8 a9 a10 a11 a12 (a12 == (-1))) else (pretty_appendPrettyObject.j0 k l0 l1 a2 a3 a4 true a6 a7 a8 a9 a10 a11 a12 false))=some (r1,r2,r3,r4):=by rw [if_pos rfl] at H;exact H
   clear H
   have H:=H1
   clear H1
   by_cases c18:a3=91
   ·
    rw [if_pos c18] at H
    have c18b0:(a3 == 91)=true:=beq_iff_eq.mpr c18
    have c18b1:(a3 != 91)=false:=bne_eq_false_iff_eq.mpr c18
    clear c18
    (first|rw [c18b0]|(simp only [i64_w,i32_w];rw [c18b0])|skip)
    have H':=Ak H
    clear H
    go_wp2
    go_meet
    case rel=>exact ⟨_,((a12 == (-1))),oS,H',⟨by first|omega|exact Nat.le_refl _⟩,⟨oR HO0.out⟩,⟨oP⟩,⟨oB⟩⟩
   rw [if_neg c18] at H
   have c18b0:(a3 == 91)=false:=beq_eq_false_iff_ne.mpr c18
   have c18b1:(a3 != 91)=true:=bne_iff_ne.mpr c18
   (first|rw [c18b0]|(simp only [i64_w,i32_w];rw [c18b0])|skip)
   have H':=Ak H
   clear H
   go_wp2
   go_meet
   case rel=>exact ⟨_,(false),oS,H',⟨by first|omega|exact Nat.le_refl _⟩,⟨oR HO0.out⟩,⟨oP⟩,⟨oB⟩⟩
  case rest=>as_aux_lemma =>
  clear HC16
  clear c15b0
  obtain ⟨kq,x47_15,rfl,HA,HJ15,HO_0,HK,HB⟩:=hcut
  cases kq with
  | zero=>exact absurd HA.out (by simp [pretty_appendPrettyObject.j0])
  | succ kj15 =>
   have H:=HA.out
   clear HA
   simp only [pretty_appendPrettyObject.j0] at H
   by_cases c19:x47_15=true
   rotate_left
   ·
    replace c19:=Bool.eq_false_iff.mpr c19
    subst c19
    have H1:(if a12=(-1) then (pretty_appendPrettyObject.j1 kj15 l0 l1 a2 a3 a4 a5 a6 a7 a8 a9 a10 a11 a12) else (if a3=123 then (some (l0,a2,a11,false)) else (pretty_appendPrettyObject.j1 kj15 l0 l1 a2 a3 a4 a5 a6 a7 a8 a9 a10 a11 a12)))=some (r1,r2,r3,r4):=by rw [if_neg (show ¬ (false=true) by decide)] at H;exact H
    clear H
    have H:=H1
    clear H1
    by_cases c40:a12=(-1)
    ·
     rw [if_pos c40] at H
     have c40b0:(a12 == (-1))=true:=beq_iff_eq.mpr c40
     have c40b1:(a12 != (-1))=false:=bne_eq_false_iff_eq.mpr c40
     clear c40
     have H':=Ak H
     clear H
     go_wp2
     go_meet
     case rel=>exact ⟨_,(l0),(a2),oS,H',⟨by have:=HJ15.out;first|omega|exact Nat.le_refl _⟩,⟨oR HO_0.out⟩,⟨oP⟩,⟨oB⟩⟩
    rw [if_neg c40] at H
    have c40b0:(a12 == (-1))=false:=beq_eq_false_iff_ne.mpr c40
    have c40b1:(a12 != (-1))=true:=bne_iff_ne.mpr c40
    by_cases c41:a3=123
    ·
     rw [if_pos c41] at H
     have c41b0:(a3 == 123)=true:=beq_iff_eq.mpr c41
     have c41b1:(a3 != 123)=false:=bne_eq_false_iff_eq.mpr c41
     clear c41
     simp only [Option.some.injEq,Prod.mk.injEq] at H
     obtain ⟨rfl,rfl,rfl,rfl⟩:=H
     go_wp2
     refine bodyPost_ret (results_list (rs:=[.tmp 26, .tmp 27, .tmp 28, .tmp 29]) rfl (by simp) (.tmp (.tmp (.tmp (.tmp .nil))))) rfl ?_
     exact ⟨_,oE,oR HO_0.out,oB,oP⟩
    rw [if_neg c41] at H
    have c41b0:(a3 == 123)=false:=beq_eq_false_iff_ne.mpr c41
    have c41b1:(a3 != 123)=true:=bne_iff_ne.mpr c41
    have H':=Ak H
    clear H
    go_wp2
    go_meet
    case rel=>exact ⟨_,(l0),(a2),oS,H',⟨by have:=HJ15.out;first|omega|exact Nat.le_refl _⟩,⟨oR HO_0.out⟩,⟨oP⟩,⟨oB⟩⟩
   subst c19
   have H1:(if (wrap64 (a6 - (wrap64 ((l0.length:Int) - a11))))>3 then ((pretty_appendPrettyObject.f kj15 l0 l1 a2 91 93 false a6 a7 (⟨#[]⟩:ByteArray) a9 0 0 (wrap64 (a6 - (wrap64 ((l0.length:Int) - a11))))).bind fun btz0=>(if btz0.2.2.2=true then (if (wrap64 ((btz0.1.length:Int) - (l0.length:Int)))≤(wrap64 (a6 - (wrap64 ((l0.length:Int) - a11)))) then (some (btz0.1,btz0.2.1,a11,true)) else (if 0≤(l0.length:Int) then (if (l0.length:Int)≤(btz0.1.length:Int) then (pretty_appendPrettyObject.j1 kj15 (btz0.1.take ((l0.length:Int):Int).toNat) l1 a2 a3 a4 a5 a6 a7 a8 a9 a10 a11 a12) else (none)) else (none))) else (if 0≤(l0.length:Int) then (if (l0.length:Int)≤(btz0.1.length:Int) then (pretty_appendPrettyObject.j1 kj15 (btz0.1.take ((l0.length:Int):Int).toNat) l1 a2 a3 a4 a5 a6 a7 a8 a9 a10 a11 a12) else (none)) else (none)))) else (pretty_appendPrettyObject.j1 kj15 l0 l1 a2 a3 a4 a5 a6 a7 a8 a9 a10 a11 a12))=some (r1,r2,r3,r4):=by rw [if_pos rfl] at H;exact H
   clear H
   have H:=H1
   clear H1
   by_cases c20:(wrap64 (a6 - (wrap64 ((l0.length:Int) - a11))))>3
   ·
    rw [if_pos c20] at H
    have c20b0:decide (3<(wrap64 (a6 - (wrap64 ((l0.length:Int) - a11)))))=true:=decide_eq_true c20
    clear c20
    replace H:=Option.bind_eq_some_iff.mp H
    obtain ⟨⟨tz0,tz1,tz2,tz3⟩,A210,H⟩:=H
    replace H:(if tz3=true then (if (wrap64 ((tz0.length:Int) - (l0.length:Int)))≤(wrap64 (a6 - (wrap64 ((l0.length:Int) - a11)))) then (some (tz0,tz1,a11,true)) else (if 0≤(l0.length:Int) then (if (l0.length:Int)≤(tz0.length:Int) then (pretty_appendPrettyObject.j1 kj15 (tz0.take ((l0.length:Int):Int).toNat) l1 a2 a3 a4 a5 a6 a7 a8 a9 a10 a11 a12) else (none)) else (none))) else (if 0≤(l0.length:Int) then (if (l0.length:Int)≤(tz0.length:Int) then (pretty_appendPrettyObject.j1 kj15 (tz0.take ((l0.length:Int):Int).toNat) l1 a2 a3 a4 a5 a6 a7 a8 a9 a10 a11 a12) else (none)) else (none)))=some (r1,r2,r3,r4):=H
    have A21:=Ak A210
    clear A210
    by_cases c22:tz3=true
    rotate_left
    ·
     replace c22:=Bool.eq_false_iff.mpr c22
     subst c22
     have H1:(if 0≤(l0.length:Int) then (if (l0.length:Int)≤(tz0.length:Int) then (pretty_appendPrettyObject.j1 kj15 (tz0.take ((l0.length:Int):Int).toNat) l1 a2 a3 a4 a5 a6 a7 a8 a9 a10 a11 a12) else (none)) else (none))=some (r1,r2,r3,r4):=by rw [if_neg (show ¬ (false=true) by decide)] at H;exact H
     clear H
     have H:=H1
     clear H1
     by_cases c33:0≤(l0.length:Int)
     rotate_left
     ·
      rw [if_neg c33] at H
      exact absurd H (by simp)
     rw [if_pos c33] at H
     have c33b0:=eq_true c33
     have c33b1:decide (0≤(l0.length:Int))=true:=decide_eq_true c33
     clear c33
     by_cases c34:(l0.length:Int)≤(tz0.length:Int)
     ·
      rw [if_pos c34] at H
      have c34b0:=eq_true c34
      have c34b1:decide ((l0.length:Int)≤(tz0.length:Int))=true:=decide_eq_true c34
      clear c34
      obtain ⟨yz8,hyz8⟩ : ∃ y_:List Int,y_=(tz0.take ((l0.length:Int):Int).toNat):=⟨_,rfl⟩
      replace H:(pretty_appendPrettyObject.j1 kj15 yz8 l1 a2 a3 a4 a5 a6 a7 a8 a9 a10 a11 a12)=some (r1,r2,r3,r4):=by first|(rw [hyz8];with_reducible exact H)|(have H2_:=(Option.bind_some _ _).symm.trans H;rw [hyz8];with_reducible exact H2_)|(have H2_:=(Option.bind_some _ _).symm.trans H;with_reducible exact H2_)|with_reducible exact H|(rw [hyz8];exact H)|exact H
      have Nyz8:=Ak hyz8
      clear hyz8
      have H':=Ak H
      clear H
      obtain ⟨Ao35,co35,eo35⟩:=Kd.R_slice HO_0.out
      subst eo35
      go_wp2_with (first|((with_reducible refine gate_callee (f:=41) rfl ?_);refine goesL_ (some 67) rfl rfl Try.func41 (by kernel_rfl) rfl #[.slice Ao35 l0.length co35, .slice A1 l1.length c1, .int .i64 a2, .int .u8 91, .int .u8 93, .bool false, .int .i64 a6, .string a7, .string (⟨#[]⟩:ByteArray), .bool a9, .int .i64 0, .int .i64 0, .int .i64 (wrap64 (a6 - (wrap64 ((l0.length:Int) - a11))))] rfl oM ?_;(with_reducible refine (ih_41 kj15 (by have:=HJ15.out;omega) (fun k_=>some k_=(.slice Ao35 l0.length co35:Value).ownBlock) (.slice Ao35 l0.length co35) l0 _ _ l1 a2 91 93 false a6 a7 (⟨#[]⟩:ByteArray) a9 0 0 (wrap64 (a6 - (wrap64 ((l0.length:Int) - a11)))) tz0 tz1 tz2 false w0 _ ?side1 ?side2 ?side3 ?side4 A21.out).mono ?_);(case side1=>exact oB);(case side2=>exact Kd.R_tight rfl HO_0.out);(case side3=>exact Kd.C_kept_call HR1.out oP (fun k_ hs_=>(fun e_=>(HO_0.out.1 k_ e_.symm)) hs_));(case side4=>exact HC1.out);rintro e w36 ⟨vz4,rfl,ho0,hb,hkp⟩;refine ⟨_,rfl,?_⟩;have _:=Ak (Kd.R_mono (ok':=fun k_=>(P0_ k_∨w.heap.size≤k_)) ho0 (fun k_ hk_=>Or.elim hk_ (fun hs_=>(HO_0.out.1 k_ (hs_).symm)) (fun hn_=>(.inr (Nat.le_trans (by first|exact HK.out.1|exact (show Kept w _ (fun k_=>P0_ k_) from oP).1) hn_)))));have _:=Ak (Kept.then_ (S:=(fun k_=>P0_ k_)) oP hkp (fun k_ hs_=>(fun e_=>(HO_0.out.1 k_ e_.symm)) hs_));have _:=Ak (hb);clear HK HB HO_0;rename_i HOz5 HK HB;(try clear hb);(try clear hkp);(try clear ho0);obtain ⟨Ao37,co37,eo37⟩:=Kd.R_slice HOz5.out;subst eo37;have q38:((l0.length:Int):Int)≤((tz0.length:Int):Int):=of_decide_eq_true oA;obtain ⟨i038,hi038,_,hsz38,_⟩:=info_parts info5;have hcut38:=cut_to (P:=Try.prog) 44 5 .i64 Try.underlying44 hi038 Ao37 tz0.length co37 (l0.length:Int) (of_decide_eq_true oA) q38 (Kd.R_reads' HOz5.out).2.1;have hr38:=Kd.R_take (m:=((l0.length:Int):Int).toNat) HOz5.out (by omega);have hy38:yz8.length=((l0.length:Int):Int).toNat:=(by rw [Nyz8.out,List.length_take];omega);rw [← Nyz8.out] at hr38;rw [← hy38] at hr38 hcut38;clear hy38 hi038 hsz38 HOz5;have HOz9:=Ak hr38;clear hr38;replace q38:=eq_true q38))
      go_meet
      case rel=>exact ⟨_,(yz8),(a2),oS,H',⟨by have:=HJ15.out;first|omega|exact Nat.le_refl _⟩,⟨oR HOz9.out⟩,⟨oP⟩,⟨oB⟩⟩
     rw [if_neg c34] at H
     exact absurd H (by simp)
    subst c22
    have H1:(if (wrap64 ((tz0.length:Int) - (l0.length:Int)))≤(wrap64 (a6 - (wrap64 ((l0.length:Int) - a11)))) then (some (tz0,tz1,a11,true)) else (if 0≤(l0.length:Int) then (if (l0.length:Int)≤(tz0.length:Int) then (pretty_appendPrettyObject.j1 kj15 (tz0.take ((l0.length:Int):Int).toNat) l1 a2 a3 a4 a5 a6 a7 a8 a9 a10 a11 a12) else (none)) else (none)))=some (r1,r2,r3,r4):=by rw [if_pos rfl] at H;exact H
    clear H
    have H:=H1
    clear H1
    by_cases c23:(wrap64 ((tz0.length:Int) - (l0.length:Int)))≤(wrap64 (a6 - (wrap64 ((l0.length:Int) - a11))))
    ·
     rw [if_pos c23] at H
     have c23b0:decide ((wrap64 ((tz0.length:Int) - (l0.length:Int)))≤(wrap64 (a6 - (wrap64 ((l0.length:Int) - a11)))))=true:=decide_eq_true c23
     clear c23
     simp only [Option.some.injEq,Prod.mk.injEq] at H
     obtain ⟨rfl,rfl,rfl,rfl⟩:=H
     obtain ⟨Ao24,co24,eo24⟩:=Kd.R_slice HO_0.out
     subst eo24
     go_wp2_with (first|((with_reducible refine gate_callee (f:=41) rfl ?_);refine goesL_ (some 67) rfl rfl Try.func41 (by kernel_rfl) rfl #[.slice Ao24 l0.length co24, .slice A1 l1.length c1, .int .i64 a2, .int .u8 91, .int .u8 93, .bool false, .int .i64 a6, .string a7, .string (⟨#[]⟩:ByteArray), .bool a9, .int .i64 0, .int .i64 0, .int .i64 (wrap64 (a6 - (wrap64 ((l0.length:Int) - a11))))] rfl oM ?_;(with_reducible refine (ih_41 kj15 (by have:=HJ15.out;omega) (fun k_=>some k_=(.slice Ao24 l0.length co24:Value).ownBlock) (.slice Ao24 l0.length co24) l0 _ _ l1 a2 91 93 false a6 a7 (⟨#[]⟩:ByteArray) a9 0 0 (wrap64 (a6 - (wrap64 ((l0.length:Int) - a11)))) tz0 tz1 tz2 true w0 _ ?side1 ?side2 ?side3 ?side4 A21.out).mono ?_);(case side1=>exact oB);(case side2=>exact Kd.R_tight rfl HO_0.out);(case side3=>exact Kd.C_kept_call HR1.out oP (fun k_ hs_=>(fun e_=>(HO_0.out.1 k_ e_.symm)) hs_));(case side4=>exact HC1.out);rintro e w25 ⟨vz4,rfl,ho0,hb,hkp⟩;refine ⟨_,rfl,?_⟩;have _:=Ak (Kd.R_mono (ok':=fun k_=>(P0_ k_∨w.heap.size≤k_)) ho0 (fun k_ hk_=>Or.elim hk_ (fun hs_=>(HO_0.out.1 k_ (hs_).symm)) (fun hn_=>(.inr (Nat.le_trans (by first|exact HK.out.1|exact (show Kept w _ (fun k_=>P0_ k_) from oP).1) hn_)))));have _:=Ak (Kept.then_ (S:=(fun k_=>P0_ k_)) oP hkp (fun k_ hs_=>(fun e_=>(HO_0.out.1 k_ e_.symm)) hs_));have _:=Ak (hb);clear HK HB HO_0;rename_i HOz5 HK HB;(try clear hb);(try clear hkp);(try clear ho0);obtain ⟨Ao26,co26,eo26⟩:=Kd.R_slice HOz5.out;subst eo26))
     refine bodyPost_ret (results_list (rs:=[.tmp 26, .tmp 27, .tmp 28, .tmp 29]) rfl (by simp) (.tmp (.tmp (.tmp (.tmp .nil))))) rfl ?_
     exact ⟨_,oE,oR HOz5.out,oB,oP⟩
    rw [if_neg c23] at H
    have c23b0:decide ((wrap64 ((tz0.length:Int) - (l0.length:Int)))≤(wrap64 (a6 - (wrap64 ((l0.length:Int) - a11)))))=false:=decide_eq_false c23
    clear c23
    by_cases c27:0≤(l0.length:Int)
    ·
     rw [if_pos c27] at H
     have c27b0:=eq_true c27
     have c27b1:decide (0≤(l0.length:Int))=true:=decide_eq_true c27
     clear c27
     by_cases c28:(l0.length:Int)≤(tz0.length:Int)
     rotate_left
     ·
      rw [if_neg c28] at H
      exact absurd H (by simp)
     rw [if_pos c28] at H
     have c28b0:=eq_true c28
     have c28b1:decide ((l0.length:Int)≤(tz0.length:Int))=true:=decide_eq_true c28
     clear c28
     obtain ⟨yz6,hyz6⟩ : ∃ y_:List Int,y_=(tz0.take ((l0.length:Int):Int).toNat):=⟨_,rfl⟩
     replace H:(pretty_appendPrettyObject.j1 kj15 yz6 l1 a2 a3 a4 a5 a6 a7 a8 a9 a10 a11 a12)=some (r1,r2,r3,r4):=by first|(rw [hyz6];with_reducible exact H)|(have H2_:=(Option.bind_some _ _).symm.trans H;rw [hyz6];with_reducible exact H2_)|(have H2_:=(Option.bind_some _ _).symm.trans H;with_reducible exact H2_)|with_reducible exact H|(rw [hyz6];exact H)|exact H
     have Nyz6:=Ak hyz6
     clear hyz6
     have H':=Ak H
     clear H
     obtain ⟨Ao29,co29,eo29⟩:=Kd.R_slice HO_0.out
     subst eo29
     go_wp2_with (first|((with_reducible refine gate_callee (f:=41) rfl ?_);refine goesL_ (some 67) rfl rfl Try.func41 (by kernel_rfl) rfl #[.slice Ao29 l0.length co29, .slice A1 l1.length c1, .int .i64 a2, .int .u8 91, .int .u8 93, .bool false, .int .i64 a6, .string a7, .string (⟨#[]⟩:ByteArray), .bool a9, .int .i64 0, .int .i64 0, .int .i64 (wrap64 (a6 - (wrap64 ((l0.length:Int) - a11))))] rfl oM ?_;(with_reducible refine (ih_41 kj15 (by have:=HJ15.out;omega) (fun k_=>some k_=(.slice Ao29 l0.length co29:Value).ownBlock) (.slice Ao29 l0.length co29) l0 _ _ l1 a2 91 93 false a6 a7 (⟨#[]⟩:ByteArray) a9 0 0 (wrap64 (a6 - (wrap64 ((l0.length:Int) - a11)))) tz0 tz1 tz2 true w0 _ ?side1 ?side2 ?side3 ?side4 A21.out).mono ?_);(case side1=>exact oB);(case side2=>exact Kd.R_tight rfl HO_0.out);(case side3=>exact Kd.C_kept_call HR1.out oP (fun k_ hs_=>(fun e_=>(HO_0.out.1 k_ e_.symm)) hs_));(case side4=>exact HC1.out);rintro e w30 ⟨vz4,rfl,ho0,hb,hkp⟩;refine ⟨_,rfl,?_⟩;have _:=Ak (Kd.R_mono (ok':=fun k_=>(P0_ k_∨w.heap.size≤k_)) ho0 (fun k_ hk_=>Or.elim hk_ (fun hs_=>(HO_0.out.1 k_ (hs_).symm)) (fun hn_=>(.inr (Nat.le_trans (by first|exact HK.out.1|exact (show Kept w _ (fun k_=>P0_ k_) from oP).1) hn_)))));have _:=Ak (Kept.then_ (S:=(fun k_=>P0_ k_)) oP hkp (fun k_ hs_=>(fun e_=>(HO_0.out.1 k_ e_.symm)) hs_));have _:=Ak (hb);clear HK HB HO_0;rename_i HOz5 HK HB;(try clear hb);(try clear hkp);(try clear ho0);obtain ⟨Ao31,co31,eo31⟩:=Kd.R_slice HOz5.out;subst eo31;have q32:((l0.length:Int):Int)≤((tz0.length:Int):Int):=of_decide_eq_true oA;obtain ⟨i032,hi032,_,hsz32,_⟩:=info_parts info5;have hcut32:=cut_to (P:=Try.prog) 44 5 .i64 Try.underlying44 hi032 Ao31 tz0.length co31 (l0.length:Int) (of_decide_eq_true oA) q32 (Kd.R_reads' HOz5.out).2.1;have hr32:=Kd.R_take (m:=((l0.length:Int):Int).toNat) HOz5.out (by omega);have hy32:yz6.length=((l0.length:Int):Int).toNat:=(by rw [Nyz6.out,List.length_take];omega);rw [← Nyz6.out] at hr32;rw [← hy32] at hr32 hcut32;clear hy32 hi032 hsz32 HOz5;have HOz7:=Ak hr32;clear hr32;replace q32:=eq_true q32))
     go_meet
     case rel=>exact ⟨_,(yz6),(a2),oS,H',⟨by have:=HJ15.out;first|omega|exact Nat.le_refl _⟩,⟨oR HOz7.out⟩,⟨oP⟩,⟨oB⟩⟩
    rw [if_neg c27] at H
    exact absurd H (by simp)
   rw [if_neg c20] at H
   have c20b0:decide (3<(wrap64 (a6 - (wrap64 ((l0.length:Int) - a11)))))=false:=decide_eq_false c20
   clear c20
   have H':=Ak H
   clear H
   obtain ⟨Ao39,co39,eo39⟩:=Kd.R_slice HO_0.out
   subst eo39
   go_wp2
   go_meet
   case rel=>exact ⟨_,(l0),(a2),oS,H',⟨by have:=HJ15.out;first|omega|exact Nat.le_refl _⟩,⟨oR HO_0.out⟩,⟨oP⟩,⟨oB⟩⟩
 case rest=>as_aux_lemma =>
 clear HC14
 obtain ⟨kq,x0_13,x2_13,rfl,HA,HJ13,HO_0,HK,HB⟩:=hcut
 cases kq with
 | zero=>exact absurd HA.out (by simp [pretty_appendPrettyObject.j1])
 | succ kj13 =>
  have H:=HA.out
  clear HA
  simp only [pretty_appendPrettyObject.j1] at H
  by_cases c42:x0_13.length<140737488355328
  rotate_left
  ·
   rw [if_neg c42] at H
   exact absurd H (by simp)
  rw [if_pos c42] at H
  have LMc42:=Ak c42
  clear c42
  obtain ⟨yz10,hyz10⟩ : ∃ y_:List Int,y_=(x0_13++[a3]):=⟨_,rfl⟩
  replace H:(if a3=123 then (pretty_appendPrettyObject.j2 kj13 yz10 l1 (wrap64 (x2_13+1)) a3 a4 a5 a6 a7 a8 a9 a10 a11 a12 ([]:List (S82)) a9) else (pretty_appendPrettyObject.j2 kj13 yz10 l1 (wrap64 (x2_13+1)) a3 a4 a5 a6 a7 a8 a9 a10 a11 a12 ([]:List (S82)) false))=some (r1,r2,r3,r4):=by first|(rw [hyz10];with_reducible exact H)|(have H2_:=(Option.bind_some _ _).symm.trans H;rw [hyz10];with_reducible exact H2_)|(have H2_:=(Option.bind_some _ _).symm.trans H;with_reducible exact H2_)|with_reducible exact H|(rw [hyz10];exact H)|exact H
  have Nyz10:=Ak hyz10
  clear hyz10
  have HC43:=Ak H
  clear H
  go_upto_region 17 with (first|((with_reducible refine gate_builtin (b := .append) (xs := #[.tmp 97, .tmp 99]) rfl ?_);(try (refine gate_guard (by rfl) ?_;dsimp only));at_builtin;refine Kd.R_append (Kd.int .u8) (w0:=w0) w0.heap.size rfl (.tmp 97) (.tmp 99) 44 5 (.int .u8 0) 1 rfl Try.underlying44 info5 rfl (by decide) (by omega) u0 x0_13 a3 [.int .u8 a3] (fun k_=>(P0_ k_∨w.heap.size≤k_)) (fun _=>False) rfl rfl ?aP (fun _ hk=>hk.elim) ?aF ?aO ?aB ?aS ?aL ?_;(case aP=>exact rfl);(case aB=>exact oB);(case aF=>exact (fun k_ hk=>(.inr (Nat.le_trans (by first|exact HK.out.1|exact (show Kept w _ (fun k_=>P0_ k_) from oP).1) hk))));(case aO=>exact (oR HO_0.out));(case aS=>exact (below_size oB));(case aL=>have:=LMc42.out;omega);intro vz11 w44 ho hb hg hat;rw [← Nyz10.out] at ho;have _:=Ak (hb);have _:=Ak (Kept.of_grown (S:=(fun k_=>P0_ k_)) hg oP (fun k_ e_=>(HO_0.out.1 k_ e_)));have _:=Ak (ho);clear HB HK HO_0;rename_i HB HK HOz12;clear ho hb hg hat))
  (try simp only [Act.put,List.setIfInBounds_toArray,List.set_cons_zero,List.set_cons_succ])
  go_cut [107] from 39 to 107 (fun v107 wc => ∃ (kq:Nat) (x107_42:Bool),v107 = .bool x107_42∧Aside0 (pretty_appendPrettyObject.j2 kq yz10 l1 (wrap64 (x2_13+1)) a3 a4 a5 a6 a7 a8 a9 a10 a11 a12 ([]:List (S82)) x107_42=some (r1,r2,r3,r4))∧Aside0 (kq≤kj13)∧Aside0 (Kd.R (Kd.int .u8) 5 wc w0.heap.size (fun k_=>(P0_ k_∨w.heap.size≤k_)) vz11 yz10)∧Aside0 (Kd.R k82 82 wc w0.heap.size (fun k_=>(P0_ k_∨w.heap.size≤k_)) (.slice none 0 0) ([]:List (S82)))∧Aside0 (Kept w wc (fun k_=>P0_ k_))∧Aside0 (Below w0.heap.size w0 wc))
  case first =>
   have H:=HC43.out
   clear HC43
   by_cases c45:a3=123
   ·
    rw [if_pos c45] at H
    have c45b0:(a3 == 123)=true:=beq_iff_eq.mpr c45
    have c45b1:(a3 != 123)=false:=bne_eq_false_iff_eq.mpr c45
    clear c45
    (first|rw [c45b0]|(simp only [i64_w,i32_w];rw [c45b0])|skip)
    have H':=Ak H
    clear H
    go_wp2
    go_meet
    case rel=>exact ⟨_,(a9),oS,H',⟨by have:=HJ13.out;first|omega|exact Nat.le_refl _⟩,⟨oR HOz12.out⟩,⟨by first|exact Kd.R_nil _ _ _ _ _|exact Kd.N_nil _ _ _ _ _|exact Kd.V_nil _ _ _ _ _|exact Kd.Q_nil _ _ _ _ _|exact Kd.S_nil _ _ _ _ _⟩,⟨oP⟩,⟨oB⟩⟩
   rw [if_neg c45] at H
   have c45b0:(a3 == 123)=false:=beq_eq_false_iff_ne.mpr c45
   have c45b1:(a3 != 123)=true:=bne_iff_ne.mpr c45
   (first|rw [c45b0]|(simp only [i64_w,i32_w];rw [c45b0])|skip)
   have H':=Ak H
   clear H
   go_wp2
   go_meet
   case rel=>exact ⟨_,(false),oS,H',⟨by have:=HJ13.out;first|omega|exact Nat.le_refl _⟩,⟨oR HOz12.out⟩,⟨by first|exact Kd.R_nil _ _ _ _ _|exact Kd.N_nil _ _ _ _ _|exact Kd.V_nil _ _ _ _ _|exact Kd.Q_nil _ _ _ _ _|exact Kd.S_nil _ _ _ _ _⟩,⟨oP⟩,⟨oB⟩⟩
  case rest=>as_aux_lemma =>
  clear HC43
  obtain ⟨kq,x107_42,rfl,HA,HJ42,HO_0,HO_34,HK,HB⟩:=hcut
  cases kq with
  | zero=>exact absurd HA.out (by simp [pretty_appendPrettyObject.j2])
  | succ kj42 =>
   have H:=HA.out
   clear HA
   simp only [pretty_appendPrettyObject.j2] at H
   have HC46:=Ak H
   clear H
   go_upto_if 107 with (fail)
   go_cut [34] from 107 to 107 (fun v34 wc => ∃ (kq:Nat) (x34_45:List (S82)),Aside0 (pretty_appendPrettyObject.j3 kq yz10 l1 (wrap64 (x2_13+1)) a3 a4 a5 a6 a7 a8 a9 a10 a11 a12 x34_45=some (r1,r2,r3,r4))∧Aside0 (kq≤kj42)∧Aside0 (Kd.R (Kd.int .u8) 5 wc w0.heap.size (fun k_=>(P0_ k_∨w.heap.size≤k_)) vz11 yz10)∧Aside0 (Kd.R k82 82 wc w0.heap.size (fun k_=>(P0_ k_∨w.heap.size≤k_)) v34 x34_45)∧Aside0 (Kept w wc (fun k_=>P0_ k_))∧Aside0 (Below w0.heap.size w0 wc))
   case first =>
    have H:=HC46.out
    clear HC46
    by_cases c47:x107_42=true
    rotate_left
    ·
     replace c47:=Bool.eq_false_iff.mpr c47
     subst c47
     have H1:(pretty_appendPrettyObject.j3 kj42 yz10 l1 (wrap64 (x2_13+1)) a3 a4 a5 a6 a7 a8 a9 a10 a11 a12 ([]:List (S82)))=some (r1,r2,r3,r4):=by rw [if_neg (show ¬ (false=true) by decide)] at H;exact H
     clear H
     have H:=H1
     clear H1
     have H':=Ak H
     clear H
     go_wp2
     go_meet
     case rel=>exact ⟨_,(([]:List (S82))),H',⟨by have:=HJ13.out;have:=HJ42.out;first|omega|exact Nat.le_refl _⟩,⟨oR HO_0.out⟩,⟨oR HO_34.out⟩,⟨oP⟩,⟨oB⟩⟩
    subst c47
    have H1:(if 8≤8796093022208 then (pretty_appendPrettyObject.j3 kj42 yz10 l1 (wrap64 (x2_13+1)) a3 a4 a5 a6 a7 a8 a9 a10 a11 a12 (([]:List (S82)))) else (none))=some (r1,r2,r3,r4):=by rw [if_pos rfl] at H;exact H
    clear H
    have H:=H1
    clear H1
    by_cases c48:8≤8796093022208
    ·
     rw [if_pos c48] at H
     have c48b0:=eq_true c48
     have c48b1:decide (8≤8796093022208)=true:=decide_eq_true c48
     clear c48
     obtain ⟨yz13,hyz13⟩ : ∃ y_:List (S82),y_=(([]:List (S82))):=⟨_,rfl⟩
     replace H:(pretty_appendPrettyObject.j3 kj42 yz10 l1 (wrap64 (x2_13+1)) a3 a4 a5 a6 a7 a8 a9 a10 a11 a12 yz13)=some (r1,r2,r3,r4):=by first|(rw [hyz13];with_reducible exact H)|(have H2_:=(Option.bind_some _ _).symm.trans H;rw [hyz13];with_reducible exact H2_)|(have H2_:=(Option.bind_some _ _).symm.trans H;with_reducible exact H2_)|with_reducible exact H|(rw [hyz13];exact H)|exact H
     have Nyz13:=Ak hyz13
     clear hyz13
     have H':=Ak H
     clear H
     go_wp2_with (first|((with_reducible refine gate_dst (N:=108) rfl ?_);(try (refine gate_guard (by rfl) ?_;dsimp only));refine Kd.R_make0 k82 _ 82 rfl (N:=108) rfl 78 _ _ rfl 8 rfl rfl Try.underlying78 (.agg #[(.int .i64 0),(.int .i64 0),(.int .i64 0),(.int .i64 0)]) 32 info82 rfl (by decide) (by omega) z82 (ok:=fun _=>True) (okp:=fun _=>True) (k82_mkM _ _ _ z82 ) (fun _ hk=>hk) trivial (by omega) (by omega) (Below.refl _ _) (Nat.le_refl _) ?_;intro vz14 w49 ho50 hb hg_ hnew_;clear hg_ hnew_;(first|rw [← Nyz13.out] at ho50|(simp only [Int.reduceToNat] at ho50;rw [← Nyz13.out] at ho50));have _:=Ak (Kd.R_below (oR HO_0.out) hb);have _:=Ak (Kd.R_elder' (oR HO_34.out) (Kd.R_base ho50) hb);have _:=Ak (Kd.R_lower (Kd.R_new' (Kd.R_newM (M:=fun k_=>(P0_ k_∨w.heap.size≤k_)) ho50 (by first|exact HK.out.1|exact (show Kept w _ (fun k_=>P0_ k_) from oP).1) (fun k_ h_ => .inr h_)) (Kd.R_lt (oR HO_34.out))) (below_size oB));have _:=Ak (Kept.below (S:=(fun k_=>P0_ k_)) oP hb);have _:=Ak (below_step oB hb);clear HO_0 HO_34 HK HB;rename_i HO_0 HO_34 HOz15 HK HB;clear hb ho50))
     go_meet
     case rel=>exact ⟨_,(yz13),H',⟨by have:=HJ13.out;have:=HJ42.out;first|omega|exact Nat.le_refl _⟩,⟨oR HO_0.out⟩,⟨by (with_reducible repeat (first|apply Kd.R_alloc|apply Kd.R_drewN|apply Kd.R_drew));exact Kd.R_mono HOz15.out (fun _ hk=>hk.1.1)⟩,⟨oP⟩,⟨oB⟩⟩
    rw [if_neg c48] at H
    exact absurd H (by simp)
   case rest=>as_aux_lemma =>
   clear HC46
   obtain ⟨kq,x34_45,HA,HJ45,HO_0,HO_34,HK,HB⟩:=hcut
   cases kq with
   | zero=>exact absurd HA.out (by simp [pretty_appendPrettyObject.j3])
   | succ kj45 =>
    have H:=HA.out
    clear HA
    simp only [pretty_appendPrettyObject.j3] at H
    have H':=Ak H
    clear H
    go_wp2
    (try simp only [Act.put,List.setIfInBounds_toArray,List.set_cons_zero,List.set_cons_succ])
    go_loopg [0,2,9,11,34,35] kj45 (fun kq v0 v2 v9 v11 v34 v35 w' => ∃ (x0_4:List Int) (x2_4:Int) (x9_4:Bool) (x11_4:Int) (x34_4:List (S82)) (x35_4:Int),v2 = .int .i64 x2_4∧v9 = .bool x9_4∧v11 = .int .i64 x11_4∧v35 = .int .i64 x35_4∧Aside0 (pretty_appendPrettyObject.l0 kq x0_4 l1 x2_4 a3 a4 a5 a6 a7 a8 x9_4 a10 x11_4 a12 x34_4 x35_4=some (r1,r2,r3,r4))∧Aside0 (kq≤kj45)∧Aside0 (Kd.R (Kd.int .u8) 5 w' w0.heap.size (fun k_=>(P0_ k_∨w.heap.size≤k_)) v0 x0_4)∧Aside0 (Kd.R k82 82 w' w0.heap.size (fun k_=>(P0_ k_∨w.heap.size≤k_)) v34 x34_4)∧Aside0 (Kept w w' (fun k_=>P0_ k_))∧Aside0 (Below w0.heap.size w0 w'))
    case atStart=>exact ⟨(yz10),((wrap64 (x2_13+1))),(a9),(a11),(x34_45),(0),oS,oS,oS,oS,H',⟨Nat.le_refl _⟩,⟨oR HO_0.out⟩,⟨oR HO_34.out⟩,⟨oP⟩,⟨oB⟩⟩
    case round =>
    clear H'
    obtain ⟨x0_4,x2_4,x9_4,x11_4,x34_4,x35_4,rfl,rfl,rfl,rfl,HA,HK4,HO_0,HO_34,HK,HB⟩:=hrel
    cases gk with
    | zero=>exact absurd HA.out (by simp [pretty_appendPrettyObject.l0])
    | succ k4 =>
     have H:=HA.out
     clear HA
     simp only [pretty_appendPrettyObject.l0] at H
     by_cases c51:x2_4<(l1.length:Int)
     rotate_left
     ·
      rw [if_neg c51] at H
      have c51b0:decide (x2_4<(l1.length:Int))=false:=decide_eq_false c51
      clear c51
      simp only [Option.some.injEq,Prod.mk.injEq] at H
      obtain ⟨rfl,rfl,rfl,rfl⟩:=H
      go_wp2
      refine bodyPost_ret (results_list (rs:=[.tmp 26, .tmp 27, .tmp 28, .tmp 29]) rfl (by simp) (.tmp (.tmp (.tmp (.tmp .nil))))) rfl ?_
      exact ⟨_,oE,oR HO_0.out,oB,oP⟩
     rw [if_pos c51] at H
     have c51b0:decide (x2_4<(l1.length:Int))=true:=decide_eq_true c51
     clear c51
     by_cases c52:0≤x2_4
     ·
      rw [if_pos c52] at H
      have c52b0:decide (0≤x2_4)=true:=decide_eq_true c52
      clear c52
      by_cases c53:(rd l1 x2_4)≤32
      ·
       rw [if_pos c53] at H
       have c53b0:decide ((rd l1 x2_4)≤32)=true:=decide_eq_true c53
       clear c53
       have H':=Ak H
       clear H
       have pz16:0≤(x2_4:Int):=of_decide_eq_true oA
       have qz16:x2_4<(l1.length:Int):=of_decide_eq_true oA
       obtain ⟨adz16,ez16,hxz16_0⟩:=Kd.at_int (Kd.C_kept_now HR1.out HK.out) x2_4 pz16 qz16
       cases ez16
       replace pz16:=eq_true pz16
       replace qz16:=eq_true qz16
       go_wp2
       go_roundg k4
       case measure=>have:=HJ13.out;have:=HJ42.out;have:=HJ45.out;have:=HK4.out;omega
       case rel=>exact ⟨(x0_4),(wrap64 (x2_4+1)),(x9_4),(x11_4),(x34_4),(x35_4),oS,oS,oS,oS,H',⟨by have:=HJ13.out;have:=HJ42.out;have:=HJ45.out;have:=HK4.out;omega⟩,⟨oR HO_0.out⟩,⟨oR HO_34.out⟩,⟨oP⟩,⟨oB⟩⟩
      rw [if_neg c53] at H
      have c53b0:decide ((rd l1 x2_4)≤32)=false:=decide_eq_false c53
      clear c53
      by_cases c54:(rd l1 x2_4)=a4
      ·
       rw [if_pos c54] at H
       have c54b0:((rd l1 x2_4) == a4)=true:=beq_iff_eq.mpr c54
       have c54b1:((rd l1 x2_4) != a4)=false:=bne_eq_false_iff_eq.mpr c54
       clear c54
       by_cases c55:a5=true
       rotate_left
       ·
        replace c55:=Bool.eq_false_iff.mpr c55
        subst c55
        have H1:(if x0_4.length<140737488355328 then (some ((x0_4++[a4]),wrap64 (x2_4+1),x11_4,(a3 != 123))) else (none))=some (r1,r2,r3,r4):=by rw [if_neg (show ¬ (false=true) by decide)] at H;exact H
        clear H
        have H:=H1
        clear H1
        by_cases c84:x0_4.length<140737488355328
        rotate_left
        ·
         rw [if_neg c84] at H
         exact absurd H (by simp)
        rw [if_pos c84] at H
        have LMc84:=Ak c84
        clear c84
        obtain ⟨yz33,hyz33⟩ : ∃ y_:List Int,y_=(x0_4++[a4]):=⟨_,rfl⟩
        replace H:(some (yz33,wrap64 (x2_4+1),x11_4,(a3 != 123)))=some (r1,r2,r3,r4):=by first|(rw [hyz33];with_reducible exact H)|(have H2_:=(Option.bind_some _ _).symm.trans H;rw [hyz33];with_reducible exact H2_)|(have H2_:=(Option.bind_some _ _).symm.trans H;with_reducible exact H2_)|with_reducible exact H|(rw [hyz33];exact H)|exact H
        have Nyz33:=Ak hyz33
        clear hyz33
        simp only [Option.some.injEq,Prod.mk.injEq] at H
        obtain ⟨rfl,rfl,rfl,rfl⟩:=H
        have pz16:0≤(x2_4:Int):=of_decide_eq_true oA
        have qz16:x2_4<(l1.length:Int):=of_decide_eq_true oA
        obtain ⟨adz16,ez16,hxz16_0⟩:=Kd.at_int (Kd.C_kept_now HR1.out HK.out) x2_4 pz16 qz16
        cases ez16
        replace pz16:=eq_true pz16
        replace qz16:=eq_true qz16
        have pz17:0≤(x2_4:Int):=of_decide_eq_true oA
        have qz17:x2_4<(l1.length:Int):=of_decide_eq_true oA
        obtain ⟨adz17,ez17,hxz17_0⟩:=Kd.at_int (Kd.C_kept_now HR1.out HK.out) x2_4 pz17 qz17
        obtain rfl:adz16=adz17:=(by injection ez17)
        replace pz17:=eq_true pz17
        replace qz17:=eq_true qz17
        go_wp2_with (first|((with_reducible refine gate_builtin (b := .append) (xs := #[.tmp 166, .tmp 168]) rfl ?_);(try (refine gate_guard (by rfl) ?_;dsimp only));at_builtin;refine Kd.R_append (Kd.int .u8) (w0:=w0) w0.heap.size rfl (.tmp 166) (.tmp 168) 44 5 (.int .u8 0) 1 rfl Try.underlying44 info5 rfl (by decide) (by omega) u0 x0_4 a4 [.int .u8 a4] (fun k_=>(P0_ k_∨w.heap.size≤k_)) (fun _=>False) rfl rfl ?aP (fun _ hk=>hk.elim) ?aF ?aO ?aB ?aS ?aL ?_;(case aP=>exact rfl);(case aB=>exact oB);(case aF=>exact (fun k_ hk=>(.inr (Nat.le_trans (by first|exact HK.out.1|exact (show Kept w _ (fun k_=>P0_ k_) from oP).1) hk))));(case aO=>exact (oR HO_0.out));(case aS=>exact (below_size oB));(case aL=>have:=LMc84.out;omega);intro vz34 w85 ho hb hg hat;rw [← Nyz33.out] at ho;have _:=Ak (Kd.R_over' (oR HO_34.out) (Kd.R_typed (oR HO_0.out)) (by decide) hg);have _:=Ak (hb);have _:=Ak (Kept.of_grown (S:=(fun k_=>P0_ k_)) hg oP (fun k_ e_=>(HO_0.out.1 k_ e_)));have _:=Ak (ho);clear HO_34 HB HK HO_0;rename_i HO_34 HB HK HOz35;clear ho hb hg hat))
        refine bodyPost_ret (results_list (rs:=[.tmp 26, .tmp 27, .tmp 28, .tmp 29]) rfl (by simp) (.tmp (.tmp (.tmp (.tmp .nil))))) rfl ?_
        exact ⟨_,oE,oR HOz35.out,oB,oP⟩
       subst c55
       have H1:(if a3=123 then (pretty_appendPrettyObject.j5 k4 x0_4 x2_4 a3 a4 a7 a8 a10 x11_4 x35_4 x9_4) else (pretty_appendPrettyObject.j5 k4 x0_4 x2_4 a3 a4 a7 a8 a10 x11_4 x35_4 false))=some (r1,r2,r3,r4):=by rw [if_pos rfl] at H;exact H
       clear H
       have H:=H1
       clear H1
       have HC56:=Ak H
       clear H
       have pz16:0≤(x2_4:Int):=of_decide_eq_true oA
       have qz16:x2_4<(l1.length:Int):=of_decide_eq_true oA
       obtain ⟨adz16,ez16,hxz16_0⟩:=Kd.at_int (Kd.C_kept_now HR1.out HK.out) x2_4 pz16 qz16
       cases ez16
       replace pz16:=eq_true pz16
       replace qz16:=eq_true qz16
       have pz17:0≤(x2_4:Int):=of_decide_eq_true oA
       have qz17:x2_4<(l1.length:Int):=of_decide_eq_true oA
       obtain ⟨adz17,ez17,hxz17_0⟩:=Kd.at_int (Kd.C_kept_now HR1.out HK.out) x2_4 pz17 qz17
       obtain rfl:adz16=adz17:=(by injection ez17)
       replace pz17:=eq_true pz17
       replace qz17:=eq_true qz17
       go_upto_region 25 with (fail)
       go_cut [131] from 109 to 131 (fun v131 wc => ∃ (kq:Nat) (x131_55:Bool),v131 = .bool x131_55∧Aside0 (pretty_appendPrettyObject.j5 kq x0_4 x2_4 a3 a4 a7 a8 a10 x11_4 x35_4 x131_55=some (r1,r2,r3,r4))∧Aside0 (kq≤k4)∧Aside0 (Kd.R (Kd.int .u8) 5 wc w0.heap.size (fun k_=>(P0_ k_∨w.heap.size≤k_)) u0 x0_4)∧Aside0 (Kept w wc (fun k_=>P0_ k_))∧Aside0 (Below w0.heap.size w0 wc))
       case first =>
        have H:=HC56.out
        clear HC56
        by_cases c57:a3=123
        ·
         rw [if_pos c57] at H
         have c57b0:(a3 == 123)=true:=beq_iff_eq.mpr c57
         have c57b1:(a3 != 123)=false:=bne_eq_false_iff_eq.mpr c57
         clear c57
         (first|rw [c57b0]|(simp only [i64_w,i32_w];rw [c57b0])|skip)
         have H':=Ak H
         clear H
         go_wp2
         go_meet
         case rel=>exact ⟨_,(x9_4),oS,H',⟨by have:=HJ13.out;have:=HJ42.out;have:=HJ45.out;have:=HK4.out;first|omega|exact Nat.le_refl _⟩,⟨oR HO_0.out⟩,⟨oP⟩,⟨oB⟩⟩
        rw [if_neg c57] at H
        have c57b0:(a3 == 123)=false:=beq_eq_false_iff_ne.mpr c57
        have c57b1:(a3 != 123)=true:=bne_iff_ne.mpr c57
        (first|rw [c57b0]|(simp only [i64_w,i32_w];rw [c57b0])|skip)
        have H':=Ak H
        clear H
        go_wp2
        go_meet
        case rel=>exact ⟨_,(false),oS,H',⟨by have:=HJ13.out;have:=HJ42.out;have:=HJ45.out;have:=HK4.out;first|omega|exact Nat.le_refl _⟩,⟨oR HO_0.out⟩,⟨oP⟩,⟨oB⟩⟩
       case rest=>as_aux_lemma =>
       clear HC56
       clear c51b0 c52b0 c53b0 c54b0 c54b1 hxz16_0 hxz17_0 pz16 pz17 qz16 qz17
       obtain ⟨kq,x131_55,rfl,HA,HJ55,HO_0,HK,HB⟩:=hcut
       cases kq with
       | zero=>exact absurd HA.out (by simp [pretty_appendPrettyObject.j5])
       | succ kj55 =>
        have H:=HA.out
        clear HA
        simp only [pretty_appendPrettyObject.j5] at H
        by_cases c58:x131_55=true
        ·
         subst c58
         have H1:(none)=some (r1,r2,r3,r4):=by rw [if_pos rfl] at H;exact H
         clear H
         have H:=H1
         clear H1
         exact absurd H (by simp)
        replace c58:=Bool.eq_false_iff.mpr c58
        subst c58
        have H1:(if x35_4>0 then (if 0≤(wrap64 ((x0_4.length:Int) - 1)) then (if (wrap64 ((x0_4.length:Int) - 1))<(x0_4.length:Int) then (if (rd x0_4 (wrap64 ((x0_4.length:Int) - 1)))=32 then (pretty_appendPrettyObject.j6 kj55 (x0_4.set ((wrap64 ((x0_4.length:Int) - 1)):Int).toNat 10) x2_4 a3 a4 a7 a8 a10 (x0_4.length:Int)) else (if x0_4.length<140737488355328 then (pretty_appendPrettyObject.j6 kj55 (x0_4++[10]) x2_4 a3 a4 a7 a8 a10 (x0_4.length:Int)) else (none))) else (none)) else (none)) else (pretty_appendPrettyObject.j6 kj55 x0_4 x2_4 a3 a4 a7 a8 a10 x11_4))=some (r1,r2,r3,r4):=by rw [if_neg (show ¬ (false=true) by decide)] at H;exact H
        clear H
        have H:=H1
        clear H1
        have HC59:=Ak H
        clear H
        go_upto_if 137 with (fail)
        go_cut [0,11] from 132 to 137 (fun v0 v11 wc => ∃ (kq:Nat) (x0_58:List Int) (x11_58:Int),v11 = .int .i64 x11_58∧Aside0 (pretty_appendPrettyObject.j6 kq x0_58 x2_4 a3 a4 a7 a8 a10 x11_58=some (r1,r2,r3,r4))∧Aside0 (kq≤kj55)∧Aside0 (Kd.R (Kd.int .u8) 5 wc w0.heap.size (fun k_=>(P0_ k_∨w.heap.size≤k_)) v0 x0_58)∧Aside0 (Kept w wc (fun k_=>P0_ k_))∧Aside0 (Below w0.heap.size w0 wc))
        case first =>
         have H:=HC59.out
         clear HC59
         by_cases c60:x35_4>0
         rotate_left
         ·
          rw [if_neg c60] at H
          have c60b0:decide (0<x35_4)=false:=decide_eq_false c60
          clear c60
          (first|rw [c60b0]|(simp only [i64_w,i32_w];rw [c60b0])|skip)
          have H':=Ak H
          clear H
          go_wp2
          go_meet
          case rel=>exact ⟨_,(x0_4),(x11_4),oS,H',⟨by have:=HJ13.out;have:=HJ42.out;have:=HJ45.out;have:=HK4.out;have:=HJ55.out;first|omega|exact Nat.le_refl _⟩,⟨oR HO_0.out⟩,⟨oP⟩,⟨oB⟩⟩
         rw [if_pos c60] at H
         have c60b0:decide (0<x35_4)=true:=decide_eq_true c60
         clear c60
         (first|rw [c60b0]|(simp only [i64_w,i32_w];rw [c60b0])|skip)
         obtain ⟨ji61,hji61⟩ : ∃ j_:Int,(wrap64 ((x0_4.length:Int) - 1))=j_:=⟨_,rfl⟩
         replace H:(if 0≤(ji61) then (if (ji61)<(x0_4.length:Int) then (if (rd x0_4 (ji61))=32 then (pretty_appendPrettyObject.j6 kj55 (x0_4.set ((ji61):Int).toNat 10) x2_4 a3 a4 a7 a8 a10 (x0_4.length:Int)) else (if x0_4.length<140737488355328 then (pretty_appendPrettyObject.j6 kj55 (x0_4++[10]) x2_4 a3 a4 a7 a8 a10 (x0_4.length:Int)) else (none))) else (none)) else (none))=some (r1,r2,r3,r4):=by first|(rw [hji61] at H;exact H)|(simp only [hji61] at H ⊢; exact H)
         have hji61w:(IntKind.i64.wrap ((x0_4.length:Int) - 1))=ji61:=(i64_w _).trans hji61
         by_cases c62:0≤(ji61)
         ·
          rw [if_pos c62] at H
          have c62b0:decide (0≤(ji61))=true:=decide_eq_true c62
          clear c62
          by_cases c63:(ji61)<(x0_4.length:Int)
          rotate_left
          ·
           rw [if_neg c63] at H
           exact absurd H (by simp)
          rw [if_pos c63] at H
          have c63b0:decide ((ji61)<(x0_4.length:Int))=true:=decide_eq_true c63
          clear c63
          by_cases c64:(rd x0_4 (ji61))=32
          ·
           rw [if_pos c64] at H
           have c64b0:((rd x0_4 (ji61)) == 32)=true:=beq_iff_eq.mpr c64
           have c64b1:((rd x0_4 (ji61)) != 32)=false:=bne_eq_false_iff_eq.mpr c64
           clear c64
           obtain ⟨yz18,hyz18⟩ : ∃ y_:List Int,y_=(x0_4.set ((ji61):Int).toNat 10):=⟨_,rfl⟩
           replace H:(pretty_appendPrettyObject.j6 kj55 yz18 x2_4 a3 a4 a7 a8 a10 (x0_4.length:Int))=some (r1,r2,r3,r4):=by first|(rw [hyz18];with_reducible exact H)|(have H2_:=(Option.bind_some _ _).symm.trans H;rw [hyz18];with_reducible exact H2_)|(have H2_:=(Option.bind_some _ _).symm.trans H;with_reducible exact H2_)|with_reducible exact H|(rw [hyz18];exact H)|exact H
           have Nyz18:=Ak hyz18
           clear hyz18
           have H':=Ak H
           clear H
           obtain ⟨Ao66,co66,eo66⟩:=Kd.R_slice HO_0.out
           subst eo66
           have pz19:0≤((ji61):Int):=of_decide_eq_true oA
           have qz19:(ji61)<(x0_4.length:Int):=of_decide_eq_true oA
           obtain ⟨adz19,ez19,hxz19_0⟩:=Kd.at_int (Kd.R_reads' HO_0.out).2.2 (ji61) pz19 qz19
           cases ez19
           replace pz19:=eq_true pz19
           replace qz19:=eq_true qz19
           have p65:0≤((ji61):Int):=of_decide_eq_true oA
           have q65:((ji61):Int)<((x0_4.length:Int):Int):=of_decide_eq_true oA
           obtain ⟨go65,co65,eo65,gb65,gl65,cl65,HG65⟩:=Kd.R_form HO_0.out (by omega)
           (first|cases eo65|(injection eo65 with ea_ en_ ec_;(first|subst ea_|(injection ea_ with ea_;subst ea_));subst ec_;clear en_))
           have GB65:=Ak gb65
           have GG65:=Ak HG65
           clear gb65 gl65 HG65
           have HMgo65:=Ak (show (P0_ go65∨w.heap.size≤go65) from (HO_0.out.1 _ rfl))
           (first|simp only [add_plain] at hxz19_0|skip)
           obtain ⟨hx65_0,hf65_0⟩:=Kd.R_celln 0 HO_0.out ((ji61):Int) p65 q65
           replace p65:=eq_true p65
           replace q65:=eq_true q65
           have HP67:=Kd.R_putg HO_0.out ((ji61):Int) 10
           go_wp2_with (first|((with_reducible refine gate_store (t:=5) (p:=149) rfl ?_);refine store_event (t:=5) (p:=149) (v:=?vo_w68) (w1:=(wc.setCell ⟨go65,((ji61):Int).toNat,none⟩ (.int .u8 10))) ?hg ?ho ?hn ?hr ?_;(case ho=>rfl);(case hg=>rfl);(case hn=>rfl);(case hr=>first|(go_simp;done)|(go_simp;rfl));intro w68 hw;have hg:wc.grownBy w68 (some go65):=(by rw [hw];exact HP67.2);have hp_:Kd.R (Kd.int .u8) 5 w68 w0.heap.size (fun k_=>(P0_ k_∨w.heap.size≤k_)) (.slice (some ⟨go65,0,none⟩) x0_4.length co66) yz18:=(by rw [hw,Nyz18.out];exact HP67.1);clear HP67;have _:=Ak (hp_);have _:=Ak ((by rw [hw];exact below_set (HB.out) GB65.out:Below w0.heap.size w0 w68));have _:=Ak (Kept.of_grown (S:=(fun k_=>P0_ k_)) hg oP (fun k_ e_=>(HO_0.out.1 k_ e_)));clear HO_0 HB HK;rename_i HO_0 HB HK;clear hg hw hp_))
           go_meet
           case rel=>exact ⟨_,(yz18),((x0_4.length:Int)),oS,H',⟨by have:=HJ13.out;have:=HJ42.out;have:=HJ45.out;have:=HK4.out;have:=HJ55.out;first|omega|exact Nat.le_refl _⟩,⟨oR HO_0.out⟩,⟨oP⟩,⟨oB⟩⟩
          rw [if_neg c64] at H
          have c64b0:((rd x0_4 (ji61)) == 32)=false:=beq_eq_false_iff_ne.mpr c64
          have c64b1:((rd x0_4 (ji61)) != 32)=true:=bne_iff_ne.mpr c64
          by_cases c69:x0_4.length<140737488355328
          ·
           rw [if_pos c69] at H
           have LMc69:=Ak c69
           clear c69
           obtain ⟨yz20,hyz20⟩ : ∃ y_:List Int,y_=(x0_4++[10]):=⟨_,rfl⟩
           replace H:(pretty_appendPrettyObject.j6 kj55 yz20 x2_4 a3 a4 a7 a8 a10 (x0_4.length:Int))=some (r1,r2,r3,r4):=by first|(rw [hyz20];with_reducible exact H)|(have H2_:=(Option.bind_some _ _).symm.trans H;rw [hyz20];with_reducible exact H2_)|(have H2_:=(Option.bind_some _ _).symm.trans H;with_reducible exact H2_)|with_reducible exact H|(rw [hyz20];exact H)|exact H
           have Nyz20:=Ak hyz20
           clear hyz20
           have H':=Ak H
           clear H
           obtain ⟨Ao70,co70,eo70⟩:=Kd.R_slice HO_0.out
           subst eo70
           have pz19:0≤((ji61):Int):=of_decide_eq_true oA
           have qz19:(ji61)<(x0_4.length:Int):=of_decide_eq_true oA
           obtain ⟨adz19,ez19,hxz19_0⟩:=Kd.at_int (Kd.R_reads' HO_0.out).2.2 (ji61) pz19 qz19
           cases ez19
           replace pz19:=eq_true pz19
           replace qz19:=eq_true qz19
           go_wp2_with (first|((with_reducible refine gate_builtin (b := .append) (xs := #[.tmp 150, .tmp 151]) rfl ?_);(try (refine gate_guard (by rfl) ?_;dsimp only));at_builtin;refine Kd.R_append (Kd.int .u8) (w0:=w0) w0.heap.size rfl (.tmp 150) (.tmp 151) 44 5 (.int .u8 0) 1 rfl Try.underlying44 info5 rfl (by decide) (by omega) (.slice (some adz19) x0_4.length co70) x0_4 10 [.int .u8 10] (fun k_=>(P0_ k_∨w.heap.size≤k_)) (fun _=>False) rfl rfl ?aP (fun _ hk=>hk.elim) ?aF ?aO ?aB ?aS ?aL ?_;(case aP=>exact rfl);(case aB=>exact oB);(case aF=>exact (fun k_ hk=>(.inr (Nat.le_trans (by first|exact HK.out.1|exact (show Kept w _ (fun k_=>P0_ k_) from oP).1) hk))));(case aO=>exact (oR HO_0.out));(case aS=>exact (below_size oB));(case aL=>have:=LMc69.out;omega);intro vz21 w71 ho hb hg hat;rw [← Nyz20.out] at ho;have _:=Ak (hb);have _:=Ak (Kept.of_grown (S:=(fun k_=>P0_ k_)) hg oP (fun k_ e_=>(HO_0.out.1 k_ e_)));have _:=Ak (ho);clear HB HK HO_0;rename_i HB HK HOz22;clear ho hb hg hat))
           go_meet
           case rel=>exact ⟨_,(yz20),((x0_4.length:Int)),oS,H',⟨by have:=HJ13.out;have:=HJ42.out;have:=HJ45.out;have:=HK4.out;have:=HJ55.out;first|omega|exact Nat.le_refl _⟩,⟨oR HOz22.out⟩,⟨oP⟩,⟨oB⟩⟩
          rw [if_neg c69] at H
          exact absurd H (by simp)
         rw [if_neg c62] at H
         exact absurd H (by simp)
        case rest=>as_aux_lemma =>
        clear HC59
        obtain ⟨kq,x0_58,x11_58,rfl,HA,HJ58,HO_0,HK,HB⟩:=hcut
        cases kq with
        | zero=>exact absurd HA.out (by simp [pretty_appendPrettyObject.j6])
        | succ kj58 =>
         have H:=HA.out
         clear HA
         simp only [pretty_appendPrettyObject.j6] at H
         obtain ⟨ji72,hji72⟩ : ∃ j_:Int,(wrap64 ((x0_58.length:Int) - 1))=j_:=⟨_,rfl⟩
         replace H:(if 0≤(ji72) then (if (ji72)<(x0_58.length:Int) then (if (rd x0_58 (ji72))=a3 then (if x0_58.length<140737488355328 then (some ((x0_58++[a4]),wrap64 (x2_4+1),x11_58,(a3 != 123))) else (none)) else ((pretty_appendTabs.f kj58 x0_58 a7 a8 a10).bind fun tz23=>(if tz23.length<140737488355328 then (some ((tz23++[a4]),wrap64 (x2_4+1),x11_58,(a3 != 123))) else (none)))) else (none)) else (none))=some (r1,r2,r3,r4):=by first|(rw [hji72] at H;exact H)|(simp only [hji72] at H ⊢; exact H)
         have hji72w:(IntKind.i64.wrap ((x0_58.length:Int) - 1))=ji72:=(i64_w _).trans hji72
         by_cases c73:0≤(ji72)
         rotate_left
         ·
          rw [if_neg c73] at H
          exact absurd H (by simp)
         rw [if_pos c73] at H
         have c73b0:decide (0≤(ji72))=true:=decide_eq_true c73
         clear c73
         by_cases c74:(ji72)<(x0_58.length:Int)
         ·
          rw [if_pos c74] at H
          have c74b0:decide ((ji72)<(x0_58.length:Int))=true:=decide_eq_true c74
          clear c74
          by_cases c75:(rd x0_58 (ji72))=a3
          ·
           rw [if_pos c75] at H
           have c75b0:((rd x0_58 (ji72)) == a3)=true:=beq_iff_eq.mpr c75
           have c75b1:((rd x0_58 (ji72)) != a3)=false:=bne_eq_false_iff_eq.mpr c75
           clear c75
           by_cases c76:x0_58.length<140737488355328
           rotate_left
           ·
            rw [if_neg c76] at H
            exact absurd H (by simp)
           rw [if_pos c76] at H
           have LMc76:=Ak c76
           clear c76
           obtain ⟨yz24,hyz24⟩ : ∃ y_:List Int,y_=(x0_58++[a4]):=⟨_,rfl⟩
           replace H:(some (yz24,wrap64 (x2_4+1),x11_58,(a3 != 123)))=some (r1,r2,r3,r4):=by first|(rw [hyz24];with_reducible exact H)|(have H2_:=(Option.bind_some _ _).symm.trans H;rw [hyz24];with_reducible exact H2_)|(have H2_:=(Option.bind_some _ _).symm.trans H;with_reducible exact H2_)|with_reducible exact H|(rw [hyz24];exact H)|exact H
           have Nyz24:=Ak hyz24
           clear hyz24
           simp only [Option.some.injEq,Prod.mk.injEq] at H
           obtain ⟨rfl,rfl,rfl,rfl⟩:=H
           obtain ⟨Ao77,co77,eo77⟩:=Kd.R_slice HO_0.out
           subst eo77
           have pz25:0≤((ji72):Int):=of_decide_eq_true oA
           have qz25:(ji72)<(x0_58.length:Int):=of_decide_eq_true oA
           obtain ⟨adz25,ez25,hxz25_0⟩:=Kd.at_int (Kd.R_reads' HO_0.out).2.2 (ji72) pz25 qz25
           cases ez25
           replace pz25:=eq_true pz25
           replace qz25:=eq_true qz25
           go_wp2_with (first|((with_reducible refine gate_builtin (b := .append) (xs := #[.tmp 166, .tmp 168]) rfl ?_);(try (refine gate_guard (by rfl) ?_;dsimp only));at_builtin;refine Kd.R_append (Kd.int .u8) (w0:=w0) w0.heap.size rfl (.tmp 166) (.tmp 168) 44 5 (.int .u8 0) 1 rfl Try.underlying44 info5 rfl (by decide) (by omega) (.slice (some adz25) x0_58.length co77) x0_58 a4 [.int .u8 a4] (fun k_=>(P0_ k_∨w.heap.size≤k_)) (fun _=>False) rfl rfl ?aP (fun _ hk=>hk.elim) ?aF ?aO ?aB ?aS ?aL ?_;(case aP=>exact rfl);(case aB=>exact oB);(case aF=>exact (fun k_ hk=>(.inr (Nat.le_trans (by first|exact HK.out.1|exact (show Kept w _ (fun k_=>P0_ k_) from oP).1) hk))));(case aO=>exact (oR HO_0.out));(case aS=>exact (below_size oB));(case aL=>have:=LMc76.out;omega);intro vz26 w78 ho hb hg hat;rw [← Nyz24.out] at ho;have _:=Ak (hb);have _:=Ak (Kept.of_grown (S:=(fun k_=>P0_ k_)) hg oP (fun k_ e_=>(HO_0.out.1 k_ e_)));have _:=Ak (ho);clear HB HK HO_0;rename_i HB HK HOz27;clear ho hb hg hat))
           refine bodyPost_ret (results_list (rs:=[.tmp 26, .tmp 27, .tmp 28, .tmp 29]) rfl (by simp) (.tmp (.tmp (.tmp (.tmp .nil))))) rfl ?_
           exact ⟨_,by first|rfl|(simp [errW_none,errW_some] <;> rfl)|(simp only [← hji72];first|rfl|(simp [errW_none,errW_some] <;> rfl))|(simp [*, errW_none,errW_some] <;> rfl),oR HOz27.out,oB,oP⟩
          rw [if_neg c75] at H
          have c75b0:((rd x0_58 (ji72)) == a3)=false:=beq_eq_false_iff_ne.mpr c75
          have c75b1:((rd x0_58 (ji72)) != a3)=true:=bne_iff_ne.mpr c75
          replace H:=Option.bind_eq_some_iff.mp H
          obtain ⟨tz23,A790,H⟩:=H
          replace H:(if tz23.length<140737488355328 then (some ((tz23++[a4]),wrap64 (x2_4+1),x11_58,(a3 != 123))) else (none))=some (r1,r2,r3,r4):=H
          have A79:=Ak A790
          clear A790
          by_cases c80:tz23.length<140737488355328
          ·
           rw [if_pos c80] at H
           have LMc80:=Ak c80
           clear c80
           obtain ⟨yz28,hyz28⟩ : ∃ y_:List Int,y_=(tz23++[a4]):=⟨_,rfl⟩
           replace H:(some (yz28,wrap64 (x2_4+1),x11_58,(a3 != 123)))=some (r1,r2,r3,r4):=by first|(rw [hyz28];with_reducible exact H)|(have H2_:=(Option.bind_some _ _).symm.trans H;rw [hyz28];with_reducible exact H2_)|(have H2_:=(Option.bind_some _ _).symm.trans H;with_reducible exact H2_)|with_reducible exact H|(rw [hyz28];exact H)|exact H
           have Nyz28:=Ak hyz28
           clear hyz28
           simp only [Option.some.injEq,Prod.mk.injEq] at H
           obtain ⟨rfl,rfl,rfl,rfl⟩:=H
           obtain ⟨Ao81,co81,eo81⟩:=Kd.R_slice HO_0.out
           subst eo81
           have pz25:0≤((ji72):Int):=of_decide_eq_true oA
           have qz25:(ji72)<(x0_58.length:Int):=of_decide_eq_true oA
           obtain ⟨adz25,ez25,hxz25_0⟩:=Kd.at_int (Kd.R_reads' HO_0.out).2.2 (ji72) pz25 qz25
           cases ez25
           replace pz25:=eq_true pz25
           replace qz25:=eq_true qz25
           go_wp2_with (first|((with_reducible refine gate_callee (f:=47) rfl ?_);refine goesL_ (some 165) rfl rfl Try.func47 (by kernel_rfl) rfl #[.slice (some adz25) x0_58.length co81, .string a7, .string a8, .int .i64 a10] rfl oM ?_;(with_reducible refine (pretty_appendTabs.calls kj58 (fun k_=>some k_=(.slice (some adz25) x0_58.length co81:Value).ownBlock) (.slice (some adz25) x0_58.length co81) x0_58 a7 a8 a10 tz23 w0 _ ?side1 ?side2 A79.out).mono ?_);(case side1=>exact oB);(case side2=>exact Kd.R_tight rfl HO_0.out);rintro e w82 ⟨vz29,rfl,ho0,hb,hkp⟩;refine ⟨_,rfl,?_⟩;have _:=Ak (Kd.R_mono (ok':=fun k_=>(P0_ k_∨w.heap.size≤k_)) ho0 (fun k_ hk_=>Or.elim hk_ (fun hs_=>(HO_0.out.1 k_ (hs_).symm)) (fun hn_=>(.inr (Nat.le_trans (by first|exact HK.out.1|exact (show Kept w _ (fun k_=>P0_ k_) from oP).1) hn_)))));have _:=Ak (Kept.then_ (S:=(fun k_=>P0_ k_)) oP hkp (fun k_ hs_=>(fun e_=>(HO_0.out.1 k_ e_.symm)) hs_));have _:=Ak (hb);clear HK HB HO_0;rename_i HOz30 HK HB;(try clear hb);(try clear hkp);(try clear ho0))|((with_reducible refine gate_builtin (b := .append) (xs := #[.tmp 166, .tmp 168]) rfl ?_);(try (refine gate_guard (by rfl) ?_;dsimp only));at_builtin;refine Kd.R_append (Kd.int .u8) (w0:=w0) w0.heap.size rfl (.tmp 166) (.tmp 168) 44 5 (.int .u8 0) 1 rfl Try.underlying44 info5 rfl (by decide) (by omega) vz29 tz23 a4 [.int .u8 a4] (fun k_=>(P0_ k_∨w.heap.size≤k_)) (fun _=>False) rfl rfl ?aP (fun _ hk=>hk.elim) ?aF ?aO ?aB ?aS ?aL ?_;(case aP=>exact rfl);(case aB=>exact oB);(case aF=>exact (fun k_ hk=>(.inr (Nat.le_trans (by first|exact HK.out.1|exact (show Kept w _ (fun k_=>P0_ k_) from oP).1) hk))));(case aO=>exact (oR HOz30.out));(case aS=>exact (below_size oB));(case aL=>have:=LMc80.out;omega);intro vz31 w83 ho hb hg hat;rw [← Nyz28.out] at ho;have _:=Ak (hb);have _:=Ak (Kept.of_grown (S:=(fun k_=>P0_ k_)) hg oP (fun k_ e_=>(HOz30.out.1 k_ e_)));have _:=Ak (ho);clear HB HK HOz30;rename_i HB HK HOz32;clear ho hb hg hat))
           refine bodyPost_ret (results_list (rs:=[.tmp 26, .tmp 27, .tmp 28, .tmp 29]) rfl (by simp) (.tmp (.tmp (.tmp (.tmp .nil))))) rfl ?_
           exact ⟨_,by first|rfl|(simp [errW_none,errW_some] <;> rfl)|(simp only [← hji72];first|rfl|(simp [errW_none,errW_some] <;> rfl))|(simp [*, errW_none,errW_some] <;> rfl),oR HOz32.out,oB,oP⟩
          rw [if_neg c80] at H
          exact absurd H (by simp)
         rw [if_neg c74] at H
         exact absurd H (by simp)
      rw [if_neg c54] at H
      have c54b0:((rd l1 x2_4) == a4)=false:=beq_eq_false_iff_ne.mpr c54
      have c54b1:((rd l1 x2_4) != a4)=true:=bne_iff_ne.mpr c54
      have HC86:=Ak H
      clear H
      have pz16:0≤(x2_4:Int):=of_decide_eq_true oA
      have qz16:x2_4<(l1.length:Int):=of_decide_eq_true oA
      obtain ⟨adz16,ez16,hxz16_0⟩:=Kd.at_int (Kd.C_kept_now HR1.out HK.out) x2_4 pz16 qz16
      cases ez16
      replace pz16:=eq_true pz16
      replace qz16:=eq_true qz16
      have pz17:0≤(x2_4:Int):=of_decide_eq_true oA
      have qz17:x2_4<(l1.length:Int):=of_decide_eq_true oA
      obtain ⟨adz17,ez17,hxz17_0⟩:=Kd.at_int (Kd.C_kept_now HR1.out HK.out) x2_4 pz17 qz17
      obtain rfl:adz16=adz17:=(by injection ez17)
      replace pz17:=eq_true pz17
      replace qz17:=eq_true qz17
      go_upto_region 36 with (fail)
      go_cut [184] from 109 to 184 (fun v184 wc => ∃ (kq:Nat) (x184_85:Bool),v184 = .bool x184_85∧Aside0 (pretty_appendPrettyObject.j7 kq x0_4 l1 x2_4 a3 a4 a5 a6 a7 a8 x9_4 a10 x11_4 a12 x34_4 x35_4 x184_85=some (r1,r2,r3,r4))∧Aside0 (kq≤k4)∧Aside0 (Kd.R (Kd.int .u8) 5 wc w0.heap.size (fun k_=>(P0_ k_∨w.heap.size≤k_)) u0 x0_4)∧Aside0 (Kd.R k82 82 wc w0.heap.size (fun k_=>(P0_ k_∨w.heap.size≤k_)) u34 x34_4)∧Aside0 (Kept w wc (fun k_=>P0_ k_))∧Aside0 (Below w0.heap.size w0 wc))
      case first =>
       have H:=HC86.out
       clear HC86
       by_cases c87:a3=91
       ·
        rw [if_pos c87] at H
        have c87b0:(a3 == 91)=true:=beq_iff_eq.mpr c87
        have c87b1:(a3 != 91)=false:=bne_eq_false_iff_eq.mpr c87
        clear c87
        (first|rw [c87b0]|(simp only [i64_w,i32_w];rw [c87b0])|skip)
        have H':=Ak H
        clear H
        go_wp2
        go_meet
        case rel=>exact ⟨_,(true),oS,H',⟨by have:=HJ13.out;have:=HJ42.out;have:=HJ45.out;have:=HK4.out;first|omega|exact Nat.le_refl _⟩,⟨oR HO_0.out⟩,⟨oR HO_34.out⟩,⟨oP⟩,⟨oB⟩⟩
       rw [if_neg c87] at H
       have c87b0:(a3 == 91)=false:=beq_eq_false_iff_ne.mpr c87
       have c87b1:(a3 != 91)=true:=bne_iff_ne.mpr c87
       (first|rw [c87b0]|(simp only [i64_w,i32_w];rw [c87b0])|skip)
       have H':=Ak H
       clear H
       have pz36:0≤(x2_4:Int):=of_decide_eq_true oA
       have qz36:x2_4<(l1.length:Int):=of_decide_eq_true oA
       obtain ⟨adz36,ez36,hxz36_0⟩:=Kd.at_int (Kd.C_kept_now HR1.out HK.out) x2_4 pz36 qz36
       obtain rfl:adz16=adz36:=(by injection ez36)
       replace pz36:=eq_true pz36
       replace qz36:=eq_true qz36
       go_wp2
       go_meet
       case rel=>exact ⟨_,(((rd l1 x2_4) == 34)),oS,H',⟨by have:=HJ13.out;have:=HJ42.out;have:=HJ45.out;have:=HK4.out;first|omega|exact Nat.le_refl _⟩,⟨oR HO_0.out⟩,⟨oR HO_34.out⟩,⟨oP⟩,⟨oB⟩⟩
      case rest=>as_aux_lemma =>
      clear HC86
      clear c51b0 c52b0 c53b0 c54 c54b0 c54b1 hxz16_0 hxz17_0 pz16 pz17 qz16 qz17
      obtain ⟨kq,x184_85,rfl,HA,HJ85,HO_0,HO_34,HK,HB⟩:=hcut
      cases kq with
      | zero=>exact absurd HA.out (by simp [pretty_appendPrettyObject.j7])
      | succ kj85 =>
       have H:=HA.out
       clear HA
       simp only [pretty_appendPrettyObject.j7] at H
       by_cases c88:x184_85=true
       rotate_left
       ·
        replace c88:=Bool.eq_false_iff.mpr c88
        subst c88
        have H1:(pretty_appendPrettyObject.l0 kj85 x0_4 l1 (wrap64 (x2_4+1)) a3 a4 a5 a6 a7 a8 x9_4 a10 x11_4 a12 x34_4 x35_4)=some (r1,r2,r3,r4):=by rw [if_neg (show ¬ (false=true) by decide)] at H;exact H
        clear H
        have H:=H1
        clear H1
        have H':=Ak H
        clear H
        go_wp2
        go_roundg kj85
        case measure=>have:=HJ13.out;have:=HJ42.out;have:=HJ45.out;have:=HK4.out;have:=HJ85.out;omega
        case rel=>exact ⟨(x0_4),(wrap64 (x2_4+1)),(x9_4),(x11_4),(x34_4),(x35_4),oS,oS,oS,oS,H',⟨by have:=HJ13.out;have:=HJ42.out;have:=HJ45.out;have:=HK4.out;have:=HJ85.out;omega⟩,⟨oR HO_0.out⟩,⟨oR HO_34.out⟩,⟨oP⟩,⟨oB⟩⟩
       subst c88
       have H1:(if x35_4>0 then (if x0_4.length<140737488355328 then ((some (x0_4++[44]:List Int)).bind fun yz37=>(if a6=(-1) then (pretty_appendPrettyObject.j8 kj85 yz37 l1 x2_4 a3 a4 a5 a6 a7 a8 x9_4 a10 x11_4 a12 x34_4 x35_4) else (if a3=91 then (if yz37.length<140737488355328 then (pretty_appendPrettyObject.j8 kj85 (yz37++[32]) l1 x2_4 a3 a4 a5 a6 a7 a8 x9_4 a10 x11_4 a12 x34_4 x35_4) else (none)) else (pretty_appendPrettyObject.j8 kj85 yz37 l1 x2_4 a3 a4 a5 a6 a7 a8 x9_4 a10 x11_4 a12 x34_4 x35_4)))) else (none)) else (pretty_appendPrettyObject.j8 kj85 x0_4 l1 x2_4 a3 a4 a5 a6 a7 a8 x9_4 a10 x11_4 a12 x34_4 x35_4))=some (r1,r2,r3,r4):=by rw [if_pos rfl] at H;exact H
       clear H
       have H:=H1
       clear H1
       have HC89:=Ak H
       clear H
       go_upto_if 186 with (fail)
       go_cut [0] from 185 to 186 (fun v0 wc => ∃ (kq:Nat) (x0_88:List Int),Aside0 (pretty_appendPrettyObject.j8 kq x0_88 l1 x2_4 a3 a4 a5 a6 a7 a8 x9_4 a10 x11_4 a12 x34_4 x35_4=some (r1,r2,r3,r4))∧Aside0 (kq≤kj85)∧Aside0 (Kd.R (Kd.int .u8) 5 wc w0.heap.size (fun k_=>(P0_ k_∨w.heap.size≤k_)) v0 x0_88)∧Aside0 (Kd.R k82 82 wc w0.heap.size (fun k_=>(P0_ k_∨w.heap.size≤k_)) u34 x34_4)∧Aside0 (Kept w wc (fun k_=>P0_ k_))∧Aside0 (Below w0.heap.size w0 wc))
       case first =>
        have H:=HC89.out
        clear HC89
        by_cases c90:x35_4>0
        rotate_left
        ·
         rw [if_neg c90] at H
         have c90b0:decide (0<x35_4)=false:=decide_eq_false c90
         clear c90
         (first|rw [c90b0]|(simp only [i64_w,i32_w];rw [c90b0])|skip)
         have H':=Ak H
         clear H
         go_wp2
         go_meet
         case rel=>exact ⟨_,(x0_4),H',⟨by have:=HJ13.out;have:=HJ42.out;have:=HJ45.out;have:=HK4.out;have:=HJ85.out;first|omega|exact Nat.le_refl _⟩,⟨oR HO_0.out⟩,⟨oR HO_34.out⟩,⟨oP⟩,⟨oB⟩⟩
        rw [if_pos c90] at H
        have c90b0:decide (0<x35_4)=true:=decide_eq_true c90
        clear c90
        (first|rw [c90b0]|(simp only [i64_w,i32_w];rw [c90b0])|skip)
        by_cases c91:x0_4.length<140737488355328
        ·
         rw [if_pos c91] at H
         have LMc91:=Ak c91
         clear c91
         obtain ⟨yz37,hyz37⟩ : ∃ y_:List Int,y_=(x0_4++[44]):=⟨_,rfl⟩
         replace H:(if a6=(-1) then (pretty_appendPrettyObject.j8 kj85 yz37 l1 x2_4 a3 a4 a5 a6 a7 a8 x9_4 a10 x11_4 a12 x34_4 x35_4) else (if a3=91 then (if yz37.length<140737488355328 then (pretty_appendPrettyObject.j8 kj85 (yz37++[32]) l1 x2_4 a3 a4 a5 a6 a7 a8 x9_4 a10 x11_4 a12 x34_4 x35_4) else (none)) else (pretty_appendPrettyObject.j8 kj85 yz37 l1 x2_4 a3 a4 a5 a6 a7 a8 x9_4 a10 x11_4 a12 x34_4 x35_4)))=some (r1,r2,r3,r4):=by first|(rw [hyz37];with_reducible exact H)|(have H2_:=(Option.bind_some _ _).symm.trans H;rw [hyz37];with_reducible exact H2_)|(have H2_:=(Option.bind_some _ _).symm.trans H;with_reducible exact H2_)|with_reducible exact H|(rw [hyz37];exact H)|exact H
         have Nyz37:=Ak hyz37
         clear hyz37
         by_cases c92:a6=(-1)
         ·
          rw [if_pos c92] at H
          have c92b0:(a6 == (-1))=true:=beq_iff_eq.mpr c92
          have c92b1:(a6 != (-1))=false:=bne_eq_false_iff_eq.mpr c92
          clear c92
          have H':=Ak H
          clear H
          go_wp2_with (first|((with_reducible refine gate_builtin (b := .append) (xs := #[.tmp 187, .tmp 188]) rfl ?_);(try (refine gate_guard (by rfl) ?_;dsimp only));at_builtin;refine Kd.R_append (Kd.int .u8) (w0:=w0) w0.heap.size rfl (.tmp 187) (.tmp 188) 44 5 (.int .u8 0) 1 rfl Try.underlying44 info5 rfl (by decide) (by omega) u0 x0_4 44 [.int .u8 44] (fun k_=>(P0_ k_∨w.heap.size≤k_)) (fun _=>False) rfl rfl ?aP (fun _ hk=>hk.elim) ?aF ?aO ?aB ?aS ?aL ?_;(case aP=>exact rfl);(case aB=>exact oB);(case aF=>exact (fun k_ hk=>(.inr (Nat.le_trans (by first|exact HK.out.1|exact (show Kept w _ (fun k_=>P0_ k_) from oP).1) hk))));(case aO=>exact (oR HO_0.out));(case aS=>exact (below_size oB));(case aL=>have:=LMc91.out;omega);intro vz38 w93 ho hb hg hat;rw [← Nyz37.out] at ho;have _:=Ak (Kd.R_over' (oR HO_34.out) (Kd.R_typed (oR HO_0.out)) (by decide) hg);have _:=Ak (hb);have _:=Ak (Kept.of_grown (S:=(fun k_=>P0_ k_)) hg oP (fun k_ e_=>(HO_0.out.1 k_ e_)));have _:=Ak (ho);clear HO_34 HB HK HO_0;rename_i HO_34 HB HK HOz39;clear ho hb hg hat))
          go_meet
          case rel=>exact ⟨_,(yz37),H',⟨by have:=HJ13.out;have:=HJ42.out;have:=HJ45.out;have:=HK4.out;have:=HJ85.out;first|omega|exact Nat.le_refl _⟩,⟨oR HOz39.out⟩,⟨oR HO_34.out⟩,⟨oP⟩,⟨oB⟩⟩
         rw [if_neg c92] at H
         have c92b0:(a6 == (-1))=false:=beq_eq_false_iff_ne.mpr c92
         have c92b1:(a6 != (-1))=true:=bne_iff_ne.mpr c92
         by_cases c94:a3=91
         ·
          rw [if_pos c94] at H
          have c94b0:(a3 == 91)=true:=beq_iff_eq.mpr c94
          have c94b1:(a3 != 91)=false:=bne_eq_false_iff_eq.mpr c94
          clear c94
          by_cases c95:yz37.length<140737488355328
          rotate_left
          ·
           rw [if_neg c95] at H
           exact absurd H (by simp)
          rw [if_pos c95] at H
          have LMc95:=Ak c95
          clear c95
          obtain ⟨yz40,hyz40⟩ : ∃ y_:List Int,y_=(yz37++[32]):=⟨_,rfl⟩
          replace H:(pretty_appendPrettyObject.j8 kj85 yz40 l1 x2_4 a3 a4 a5 a6 a7 a8 x9_4 a10 x11_4 a12 x34_4 x35_4)=some (r1,r2,r3,r4):=by first|(rw [hyz40];with_reducible exact H)|(have H2_:=(Option.bind_some _ _).symm.trans H;rw [hyz40];with_reducible exact H2_)|(have H2_:=(Option.bind_some _ _).symm.trans H;with_reducible exact H2_)|with_reducible exact H|(rw [hyz40];exact H)|exact H
          have Nyz40:=Ak hyz40
          clear hyz40
          have H':=Ak H
          clear H
          go_wp2_with (first|((with_reducible refine gate_builtin (b := .append) (xs := #[.tmp 187, .tmp 188]) rfl ?_);(try (refine gate_guard (by rfl) ?_;dsimp only));at_builtin;refine Kd.R_append (Kd.int .u8) (w0:=w0) w0.heap.size rfl (.tmp 187) (.tmp 188) 44 5 (.int .u8 0) 1 rfl Try.underlying44 info5 rfl (by decide) (by omega) u0 x0_4 44 [.int .u8 44] (fun k_=>(P0_ k_∨w.heap.size≤k_)) (fun _=>False) rfl rfl ?aP (fun _ hk=>hk.elim) ?aF ?aO ?aB ?aS ?aL ?_;(case aP=>exact rfl);(case aB=>exact oB);(case aF=>exact (fun k_ hk=>(.inr (Nat.le_trans (by first|exact HK.out.1|exact (show Kept w _ (fun k_=>P0_ k_) from oP).1) hk))));(case aO=>exact (oR HO_0.out));(case aS=>exact (below_size oB));(case aL=>have:=LMc91.out;omega);intro vz38 w96 ho hb hg hat;rw [← Nyz37.out] at ho;have _:=Ak (Kd.R_over' (oR HO_34.out) (Kd.R_typed (oR HO_0.out)) (by decide) hg);have _:=Ak (hb);have _:=Ak (Kept.of_grown (S:=(fun k_=>P0_ k_)) hg oP (fun k_ e_=>(HO_0.out.1 k_ e_)));have _:=Ak (ho);clear HO_34 HB HK HO_0;rename_i HO_34 HB HK HOz39;clear ho hb hg hat)|((with_reducible refine gate_builtin (b := .append) (xs := #[.tmp 196, .tmp 197]) rfl ?_);(try (refine gate_guard (by rfl) ?_;dsimp only));at_builtin;refine Kd.R_append (Kd.int .u8) (w0:=w0) w0.heap.size rfl (.tmp 196) (.tmp 197) 44 5 (.int .u8 0) 1 rfl Try.underlying44 info5 rfl (by decide) (by omega) vz38 yz37 32 [.int .u8 32] (fun k_=>(P0_ k_∨w.heap.size≤k_)) (fun _=>False) rfl rfl ?aP (fun _ hk=>hk.elim) ?aF ?aO ?aB ?aS ?aL ?_;(case aP=>exact rfl);(case aB=>exact oB);(case aF=>exact (fun k_ hk=>(.inr (Nat.le_trans (by first|exact HK.out.1|exact (show Kept w _ (fun k_=>P0_ k_) from oP).1) hk))));(case aO=>exact (oR HOz39.out));(case aS=>exact (below_size oB));(case aL=>have:=LMc95.out;omega);intro vz41 w97 ho hb hg hat;rw [← Nyz40.out] at ho;have _:=Ak (Kd.R_over' (oR HO_34.out) (Kd.R_typed (oR HOz39.out)) (by decide) hg);have _:=Ak (hb);have _:=Ak (Kept.of_grown (S:=(fun k_=>P0_ k_)) hg oP (fun k_ e_=>(HOz39.out.1 k_ e_)));have _:=Ak (ho);clear HO_34 HB HK HOz39;rename_i HO_34 HB HK HOz42;clear ho hb hg hat))
          go_meet
          case rel=>exact ⟨_,(yz40),H',⟨by have:=HJ13.out;have:=HJ42.out;have:=HJ45.out;have:=HK4.out;have:=HJ85.out;first|omega|exact Nat.le_refl _⟩,⟨oR HOz42.out⟩,⟨oR HO_34.out⟩,⟨oP⟩,⟨oB⟩⟩
         rw [if_neg c94] at H
         have c94b0:(a3 == 91)=false:=beq_eq_false_iff_ne.mpr c94
         have c94b1:(a3 != 91)=true:=bne_iff_ne.mpr c94
         have H':=Ak H
         clear H
         go_wp2_with (first|((with_reducible refine gate_builtin (b := .append) (xs := #[.tmp 187, .tmp 188]) rfl ?_);(try (refine gate_guard (by rfl) ?_;dsimp only));at_builtin;refine Kd.R_append (Kd.int .u8) (w0:=w0) w0.heap.size rfl (.tmp 187) (.tmp 188) 44 5 (.int .u8 0) 1 rfl Try.underlying44 info5 rfl (by decide) (by omega) u0 x0_4 44 [.int .u8 44] (fun k_=>(P0_ k_∨w.heap.size≤k_)) (fun _=>False) rfl rfl ?aP (fun _ hk=>hk.elim) ?aF ?aO ?aB ?aS ?aL ?_;(case aP=>exact rfl);(case aB=>exact oB);(case aF=>exact (fun k_ hk=>(.inr (Nat.le_trans (by first|exact HK.out.1|exact (show Kept w _ (fun k_=>P0_ k_) from oP).1) hk))));(case aO=>exact (oR HO_0.out));(case aS=>exact (below_size oB));(case aL=>have:=LMc91.out;omega);intro vz38 w98 ho hb hg hat;rw [← Nyz37.out] at ho;have _:=Ak (Kd.R_over' (oR HO_34.out) (Kd.R_typed (oR HO_0.out)) (by decide) hg);have _:=Ak (hb);have _:=Ak (Kept.of_grown (S:=(fun k_=>P0_ k_)) hg oP (fun k_ e_=>(HO_0.out.1 k_ e_)));have _:=Ak (ho);clear HO_34 HB HK HO_0;rename_i HO_34 HB HK HOz39;clear ho hb hg hat))
         go_meet
         case rel=>exact ⟨_,(yz37),H',⟨by have:=HJ13.out;have:=HJ42.out;have:=HJ45.out;have:=HK4.out;have:=HJ85.out;first|omega|exact Nat.le_refl _⟩,⟨oR HOz39.out⟩,⟨oR HO_34.out⟩,⟨oP⟩,⟨oB⟩⟩
        rw [if_neg c91] at H
        exact absurd H (by simp)
       case rest=>as_aux_lemma =>
       clear HC89
       obtain ⟨kq,x0_88,HA,HJ88,HO_0,HO_34,HK,HB⟩:=hcut
       cases kq with
       | zero=>exact absurd HA.out (by simp [pretty_appendPrettyObject.j8])
       | succ kj88 =>
        have H:=HA.out
        clear HA
        simp only [pretty_appendPrettyObject.j8] at H
        have HC99:=Ak H
        clear H
        go_upto_if 199 with (first|((with_reducible refine gate_dst (N:=36) rfl ?_);(try (refine gate_guard (by rfl) ?_;dsimp only));refine box_event ?hg (N:=36) ?hd (cs := #[.int .i64 0, .int .i64 0, .int .i64 0, .int .i64 0]) (t:=82) ?hr ?_;(case hd=>rfl);(case hg=>rfl);(case hr=>first|(go_simp;done)|(go_simp;rfl));intro gbz43 hg w100 hbox hb;have _:=Ak (Kd.R_below (oR HO_0.out) hb);have _:=Ak (Kd.R_below (Kd.R_elderB (oR HO_34.out) gbz43 (Nat.le_of_eq hg.symm)) hb);have _:=Ak (Kept.below (S:=(fun k_=>P0_ k_)) oP hb);have _:=Ak (below_step oB hb);have _:=Ak (hbox);have _:=Ak ((by rw [hg];exact (by first|exact HK.out.1|exact (show Kept w _ (fun k_=>P0_ k_) from oP).1):w.heap.size≤gbz43));have _:=Ak ((by rw [hg];exact (below_size oB):w0.heap.size≤gbz43));clear HO_0 HO_34 HK HB;rename_i HO_0 HO_34 HK HB BKz43 GWz43 GEz43;clear hb hbox hg))
        (try simp only [Act.put,List.setIfInBounds_toArray,List.set_cons_zero,List.set_cons_succ])
        go_cut [0,11] from 187 to 199 (fun v0 v11 wc => ∃ (kq:Nat) (x0_98:List Int) (x11_98:Int) (xz44000_98:Int) (xz44002_98:Int),v11 = .int .i64 x11_98∧Aside0 (pretty_appendPrettyObject.j10 kq x0_98 l1 x2_4 a3 a4 a5 a6 a7 a8 x9_4 a10 x11_98 a12 x34_4 x35_4 xz44000_98 0 xz44002_98 0=some (r1,r2,r3,r4))∧Aside0 (kq≤kj88)∧Aside0 (Kd.R (Kd.int .u8) 5 wc w0.heap.size (fun k_=>(P0_ k_∨w.heap.size≤k_)) v0 x0_98)∧Aside0 (Kd.R k82 82 wc w0.heap.size (fun k_=>(P0_ k_∨w.heap.size≤k_)∧k_≠gbz43) u34 x34_4)∧Aside0 (wc.heap[gbz43]? = some (.cells #[.int .i64 xz44000_98, .int .i64 0, .int .i64 xz44002_98, .int .i64 0] 82 (0,0)))∧Aside0 (Kept w wc (fun k_=>P0_ k_))∧Aside0 (Below w0.heap.size w0 wc))
        case first =>
         have H:=HC99.out
         clear HC99
         by_cases c101:a5=true
         rotate_left
         ·
          replace c101:=Bool.eq_false_iff.mpr c101
          subst c101
          have H1:(pretty_appendPrettyObject.j10 kj88 x0_88 l1 x2_4 a3 a4 false a6 a7 a8 x9_4 a10 x11_4 a12 x34_4 x35_4 0 0 0 0)=some (r1,r2,r3,r4):=by rw [if_neg (show ¬ (false=true) by decide)] at H;exact H
          clear H
          have H:=H1
          clear H1
          have H':=Ak H
          clear H
          go_wp2
          go_meet
          case rel=>exact ⟨_,(x0_88),(x11_4),(0),(0),oS,H',⟨by have:=HJ13.out;have:=HJ42.out;have:=HJ45.out;have:=HK4.out;have:=HJ85.out;have:=HJ88.out;first|omega|exact Nat.le_refl _⟩,⟨oR HO_0.out⟩,⟨oR HO_34.out⟩,⟨oL BKz43.out⟩,⟨oP1 GWz43.out⟩,⟨oB1 GEz43.out⟩⟩
         subst c101
         have H1:(if 0≤(wrap64 ((x0_88.length:Int) - 1)) then (if (wrap64 ((x0_88.length:Int) - 1))<(x0_88.length:Int) then (if (rd x0_88 (wrap64 ((x0_88.length:Int) - 1)))=32 then (pretty_appendPrettyObject.j9 kj88 (x0_88.set ((wrap64 ((x0_88.length:Int) - 1)):Int).toNat 10) l1 x2_4 a3 a4 true a6 a7 a8 x9_4 a10 (x0_88.length:Int) a12 x34_4 x35_4 0 0 0 0) else (if x0_88.length<140737488355328 then (pretty_appendPrettyObject.j9 kj88 (x0_88++[10]) l1 x2_4 a3 a4 true a6 a7 a8 x9_4 a10 (x0_88.length:Int) a12 x34_4 x35_4 0 0 0 0) else (none))) else (none)) else (none))=some (r1,r2,r3,r4):=by rw [if_pos rfl] at H;exact H
         clear H
         have H:=H1
         clear H1
         obtain ⟨ji102,hji102⟩ : ∃ j_:Int,(wrap64 ((x0_88.length:Int) - 1))=j_:=⟨_,rfl⟩
         replace H:(if 0≤(ji102) then (if (ji102)<(x0_88.length:Int) then (if (rd x0_88 (ji102))=32 then (pretty_appendPrettyObject.j9 kj88 (x0_88.set ((ji102):Int).toNat 10) l1 x2_4 a3 a4 true a6 a7 a8 x9_4 a10 (x0_88.length:Int) a12 x34_4 x35_4 0 0 0 0) else (if x0_88.length<140737488355328 then (pretty_appendPrettyObject.j9 kj88 (x0_88++[10]) l1 x2_4 a3 a4 true a6 a7 a8 x9_4 a10 (x0_88.length:Int) a12 x34_4 x35_4 0 0 0 0) else (none))) else (none)) else (none))=some (r1,r2,r3,r4):=by first|(rw [hji102] at H;exact H)|(simp only [hji102] at H ⊢; exact H)
         have hji102w:(IntKind.i64.wrap ((x0_88.length:Int) - 1))=ji102:=(i64_w _).trans hji102
         by_cases c103:0≤(ji102)
         ·
          rw [if_pos c103] at H
          have c103b0:decide (0≤(ji102))=true:=decide_eq_true c103
          clear c103
          (first|rw [c103b0]|(simp only [i64_w,i32_w];rw [c103b0])|skip)
          by_cases c104:(ji102)<(x0_88.length:Int)
          rotate_left
          ·
           rw [if_neg c104] at H
           exact absurd H (by simp)
          rw [if_pos c104] at H
          have c104b0:decide ((ji102)<(x0_88.length:Int))=true:=decide_eq_true c104
          clear c104
          have HC105:=Ak H
          clear H
          obtain ⟨Ao106,co106,eo106⟩:=Kd.R_slice HO_0.out
          subst eo106
          have pz44:0≤((ji102):Int):=of_decide_eq_true oA
          have qz44:(ji102)<(x0_88.length:Int):=of_decide_eq_true oA
          obtain ⟨adz44,ez44,hxz44_0⟩:=Kd.at_int (Kd.R_reads' HO_0.out).2.2 (ji102) pz44 qz44
          cases ez44
          replace pz44:=eq_true pz44
          replace qz44:=eq_true qz44
          go_upto_if 207 with (fail)
          go_cut [0] from 187 to 207 (fun v0 wc => ∃ (kq:Nat) (x0_104:List Int),Aside0 (pretty_appendPrettyObject.j9 kq x0_104 l1 x2_4 a3 a4 true a6 a7 a8 x9_4 a10 (x0_88.length:Int) a12 x34_4 x35_4 0 0 0 0=some (r1,r2,r3,r4))∧Aside0 (kq≤kj88)∧Aside0 (Kd.R (Kd.int .u8) 5 wc w0.heap.size (fun k_=>(P0_ k_∨w.heap.size≤k_)) v0 x0_104)∧Aside0 (Kd.R k82 82 wc w0.heap.size (fun k_=>(P0_ k_∨w.heap.size≤k_)∧k_≠gbz43) u34 x34_4)∧Aside0 (wc.heap[gbz43]? = some (.cells #[.int .i64 0, .int .i64 0, .int .i64 0, .int .i64 0] 82 (0,0)))∧Aside0 (Kept w wc (fun k_=>P0_ k_))∧Aside0 (Below w0.heap.size w0 wc))
          case first =>
           have H:=HC105.out
           clear HC105
           by_cases c107:(rd x0_88 (ji102))=32
           rotate_left
           ·
            rw [if_neg c107] at H
            have c107b0:((rd x0_88 (ji102)) == 32)=false:=beq_eq_false_iff_ne.mpr c107
            have c107b1:((rd x0_88 (ji102)) != 32)=true:=bne_iff_ne.mpr c107
            (first|rw [c107b0]|(simp only [i64_w,i32_w];rw [c107b0])|skip)
            by_cases c111:x0_88.length<140737488355328
            rotate_left
            ·
             rw [if_neg c111] at H
             exact absurd H (by simp)
            rw [if_pos c111] at H
            have LMc111:=Ak c111
            clear c111
            obtain ⟨yz46,hyz46⟩ : ∃ y_:List Int,y_=(x0_88++[10]):=⟨_,rfl⟩
            replace H:(pretty_appendPrettyObject.j9 kj88 yz46 l1 x2_4 a3 a4 true a6 a7 a8 x9_4 a10 (x0_88.length:Int) a12 x34_4 x35_4 0 0 0 0)=some (r1,r2,r3,r4):=by first|(rw [hyz46];with_reducible exact H)|(have H2_:=(Option.bind_some _ _).symm.trans H;rw [hyz46];with_reducible exact H2_)|(have H2_:=(Option.bind_some _ _).symm.trans H;with_reducible exact H2_)|with_reducible exact H|(rw [hyz46];exact H)|exact H
            have Nyz46:=Ak hyz46
            clear hyz46
            have H':=Ak H
            clear H
            go_wp2_with (first|((with_reducible refine gate_builtin (b := .append) (xs := #[.tmp 212, .tmp 213]) rfl ?_);(try (refine gate_guard (by rfl) ?_;dsimp only));at_builtin;refine Kd.R_append (Kd.int .u8) (w0:=w0) w0.heap.size rfl (.tmp 212) (.tmp 213) 44 5 (.int .u8 0) 1 rfl Try.underlying44 info5 rfl (by decide) (by omega) (.slice (some adz44) x0_88.length co106) x0_88 10 [.int .u8 10] (fun k_=>(P0_ k_∨w.heap.size≤k_)) (fun _=>False) rfl rfl ?aP (fun _ hk=>hk.elim) ?aF ?aO ?aB ?aS ?aL ?_;(case aP=>exact rfl);(case aB=>exact (oB1 GEz43.out));(case aF=>exact (fun k_ hk=>(.inr (Nat.le_trans (by first|exact HK.out.1|exact (show Kept w _ (fun k_=>P0_ k_) from oP1 GWz43.out).1) hk))));(case aO=>exact (oR HO_0.out));(case aS=>exact (below_size (oB1 GEz43.out)));(case aL=>have:=LMc111.out;omega);intro vz47 w112 ho hb hg hat;rw [← Nyz46.out] at ho;have _:=Ak (Kd.R_over' (oR HO_34.out) (Kd.R_typed (oR HO_0.out)) (by decide) hg);have _:=Ak (blk_grown (g:=gbz43) (o := .cells #[.int .i64 0, .int .i64 0, .int .i64 0, .int .i64 0] 82 (0,0)) (oL BKz43.out) hg (Kd.R_ne HO_0.out BKz43.out (by decide)));have _:=Ak (hb);have _:=Ak (Kept.of_grown (S:=(fun k_=>P0_ k_)) hg (oP1 GWz43.out) (fun k_ e_=>(HO_0.out.1 k_ e_)));have _:=Ak (ho);clear HO_34 BKz43 HB HK HO_0;rename_i HO_34 BKz43 HB HK HOz48;clear ho hb hg hat))
            go_meet
            case rel=>exact ⟨_,(yz46),H',⟨by have:=HJ13.out;have:=HJ42.out;have:=HJ45.out;have:=HK4.out;have:=HJ85.out;have:=HJ88.out;first|omega|exact Nat.le_refl _⟩,⟨oR HOz48.out⟩,⟨oR HO_34.out⟩,⟨oL BKz43.out⟩,⟨oP1 GWz43.out⟩,⟨oB1 GEz43.out⟩⟩
           rw [if_pos c107] at H
           have c107b0:((rd x0_88 (ji102)) == 32)=true:=beq_iff_eq.mpr c107
           have c107b1:((rd x0_88 (ji102)) != 32)=false:=bne_eq_false_iff_eq.mpr c107
           clear c107
           (first|rw [c107b0]|(simp only [i64_w,i32_w];rw [c107b0])|skip)
           obtain ⟨yz45,hyz45⟩ : ∃ y_:List Int,y_=(x0_88.set ((ji102):Int).toNat 10):=⟨_,rfl⟩
           replace H:(pretty_appendPrettyObject.j9 kj88 yz45 l1 x2_4 a3 a4 true a6 a7 a8 x9_4 a10 (x0_88.length:Int) a12 x34_4 x35_4 0 0 0 0)=some (r1,r2,r3,r4):=by first|(rw [hyz45];with_reducible exact H)|(have H2_:=(Option.bind_some _ _).symm.trans H;rw [hyz45];with_reducible exact H2_)|(have H2_:=(Option.bind_some _ _).symm.trans H;with_reducible exact H2_)|with_reducible exact H|(rw [hyz45];exact H)|exact H
           have Nyz45:=Ak hyz45
           clear hyz45
           have H':=Ak H
           clear H
           have p108:0≤((ji102):Int):=of_decide_eq_true oA
           have q108:((ji102):Int)<((x0_88.length:Int):Int):=of_decide_eq_true oA
           obtain ⟨go108,co108,eo108,gb108,gl108,cl108,HG108⟩:=Kd.R_form HO_0.out (by omega)
           (first|cases eo108|(injection eo108 with ea_ en_ ec_;(first|subst ea_|(injection ea_ with ea_;subst ea_));subst ec_;clear en_))
           have GB108:=Ak gb108
           have GG108:=Ak HG108
           clear gb108 gl108 HG108
           have HMgo108:=Ak (show (P0_ go108∨w.heap.size≤go108) from (HO_0.out.1 _ rfl))
           (first|simp only [add_plain] at hxz44_0|skip)
           obtain ⟨hx108_0,hf108_0⟩:=Kd.R_celln 0 HO_0.out ((ji102):Int) p108 q108
           replace p108:=eq_true p108
           replace q108:=eq_true q108
           have HP109:=Kd.R_putg HO_0.out ((ji102):Int) 10
           go_wp2_with (first|((with_reducible refine gate_store (t:=5) (p:=211) rfl ?_);refine store_event (t:=5) (p:=211) (v:=?vo_w110) (w1:=(w100.setCell ⟨go108,((ji102):Int).toNat,none⟩ (.int .u8 10))) ?hg ?ho ?hn ?hr ?_;(case ho=>rfl);(case hg=>rfl);(case hn=>rfl);(case hr=>first|(go_simp;done)|(go_simp;rfl));intro w110 hw;have hg:w100.grownBy w110 (some go108):=(by rw [hw];exact HP109.2);have hp_:Kd.R (Kd.int .u8) 5 w110 w0.heap.size (fun k_=>(P0_ k_∨w.heap.size≤k_)) (.slice (some ⟨go108,0,none⟩) x0_88.length co106) yz45:=(by rw [hw,Nyz45.out];exact HP109.1);clear HP109;have _:=Ak (hp_);have _:=Ak (Kd.R_over' (v:=(.slice (some ⟨go108,0,none⟩) x0_88.length co106)) (oR HO_34.out) (Kd.R_typed HO_0.out) (by decide) hg);have _:=Ak (blk_grown (g:=gbz43) (o := .cells #[.int .i64 0, .int .i64 0, .int .i64 0, .int .i64 0] 82 (0,0)) (oL BKz43.out) hg (Kd.R_ne HO_0.out BKz43.out (by decide)));have _:=Ak ((by rw [hw];exact below_set (HB.out) GB108.out:Below w0.heap.size w0 w110));have _:=Ak (Kept.of_grown (S:=(fun k_=>P0_ k_)) hg (oP1 GWz43.out) (fun k_ e_=>(HO_0.out.1 k_ e_)));clear HO_0 HO_34 BKz43 HB HK;rename_i HO_0 HO_34 BKz43 HB HK;clear hg hw hp_))
           go_meet
           case rel=>exact ⟨_,(yz45),H',⟨by have:=HJ13.out;have:=HJ42.out;have:=HJ45.out;have:=HK4.out;have:=HJ85.out;have:=HJ88.out;first|omega|exact Nat.le_refl _⟩,⟨oR HO_0.out⟩,⟨oR HO_34.out⟩,⟨oL BKz43.out⟩,⟨oP1 GWz43.out⟩,⟨oB1 GEz43.out⟩⟩
          case rest=>as_aux_lemma =>
          clear HC105
          clear c103b0 c104b0 hxz44_0 pz44 qz44
          obtain ⟨kq,x0_104,HA,HJ104,HO_0,HO_34,BKz43,HK,HB⟩:=hcut
          cases kq with
          | zero=>exact absurd HA.out (by simp [pretty_appendPrettyObject.j9])
          | succ kj104 =>
           have H:=HA.out
           clear HA
           simp only [pretty_appendPrettyObject.j9] at H
           by_cases c113:a3=123
           rotate_left
           ·
            rw [if_neg c113] at H
            have c113b0:(a3 == 123)=false:=beq_eq_false_iff_ne.mpr c113
            have c113b1:(a3 != 123)=true:=bne_iff_ne.mpr c113
            replace H:=Option.bind_eq_some_iff.mp H
            obtain ⟨tz55,A1250,H⟩:=H
            replace H:(pretty_appendPrettyObject.j10 kj104 tz55 l1 x2_4 a3 a4 true a6 a7 a8 x9_4 a10 (x0_88.length:Int) a12 x34_4 x35_4 0 0 0 0)=some (r1,r2,r3,r4):=H
            have A125:=Ak A1250
            clear A1250
            have H':=Ak H
            clear H
            obtain ⟨Ao126,co126,eo126⟩:=Kd.R_slice HO_0.out
            subst eo126
            go_wp2_with (first|((with_reducible refine gate_callee (f:=47) rfl ?_);refine goesL_ (some 230) rfl rfl Try.func47 (by kernel_rfl) rfl #[.slice Ao126 x0_104.length co126, .string a7, .string a8, .int .i64 (wrap64 (a10+1))] rfl oM ?_;(with_reducible refine (pretty_appendTabs.calls kj104 (fun k_=>some k_=(.slice Ao126 x0_104.length co126:Value).ownBlock) (.slice Ao126 x0_104.length co126) x0_104 a7 a8 (wrap64 (a10+1)) tz55 w0 _ ?side1 ?side2 A125.out).mono ?_);(case side1=>exact oB1 GEz43.out);(case side2=>exact Kd.R_tight rfl HO_0.out);rintro e w127 ⟨vz56,rfl,ho0,hb,hkp⟩;refine ⟨_,rfl,?_⟩;have _:=Ak (Kd.R_mono (ok':=fun k_=>(P0_ k_∨w.heap.size≤k_)∧k_≠gbz43) (Kd.R_keptB ((Kd.R_apart' HO_34.out (Kd.R_typed HO_0.out) (by decide))) hkp (fun k_ hk_ hs_=>(hk_.2) hs_)) (fun k_ hk_=>⟨hk_.1.1.1,hk_.1.1.2⟩));have _:=Ak (blk_kept (oL BKz43.out) hkp (fun hs_=>(fun e_=>(Kd.R_ne HO_0.out BKz43.out (by decide)) e_) hs_));have _:=Ak (Kd.R_mono (ok':=fun k_=>(P0_ k_∨w.heap.size≤k_)) ho0 (fun k_ hk_=>Or.elim hk_ (fun hs_=>(HO_0.out.1 k_ (hs_).symm)) (fun hn_=>(.inr (Nat.le_trans (by first|exact HK.out.1|exact (show Kept w _ (fun k_=>P0_ k_) from oP1 GWz43.out).1) hn_)))));have _:=Ak (Kept.then_ (S:=(fun k_=>P0_ k_)) (oP1 GWz43.out) hkp (fun k_ hs_=>(fun e_=>(HO_0.out.1 k_ e_.symm)) hs_));have _:=Ak (hb);clear HO_34 BKz43 HK HB HO_0;rename_i HO_34 BKz43 HOz57 HK HB;(try clear hb);(try clear hkp);(try clear ho0)))
            go_meet
            case rel=>exact ⟨_,(tz55),((x0_88.length:Int)),(0),(0),oS,H',⟨by have:=HJ13.out;have:=HJ42.out;have:=HJ45.out;have:=HK4.out;have:=HJ85.out;have:=HJ88.out;have:=HJ104.out;first|omega|exact Nat.le_refl _⟩,⟨oR HOz57.out⟩,⟨oR HO_34.out⟩,⟨oL BKz43.out⟩,⟨oP1 GWz43.out⟩,⟨oB1 GEz43.out⟩⟩
           rw [if_pos c113] at H
           have c113b0:(a3 == 123)=true:=beq_iff_eq.mpr c113
           have c113b1:(a3 != 123)=false:=bne_eq_false_iff_eq.mpr c113
           clear c113
           by_cases c114:x9_4=true
           ·
            subst c114
            have H1:((pretty_appendTabs.f kj104 x0_104 a7 a8 (wrap64 (a10+1))).bind fun tz49=>(pretty_appendPrettyObject.j10 kj104 tz49 l1 x2_4 a3 a4 true a6 a7 a8 true a10 (x0_88.length:Int) a12 x34_4 x35_4 x2_4 0 (x0_104.length:Int) 0))=some (r1,r2,r3,r4):=by rw [if_pos rfl] at H;exact H
            clear H
            have H:=H1
            clear H1
            replace H:=Option.bind_eq_some_iff.mp H
            obtain ⟨tz49,A1150,H⟩:=H
            replace H:(pretty_appendPrettyObject.j10 kj104 tz49 l1 x2_4 a3 a4 true a6 a7 a8 true a10 (x0_88.length:Int) a12 x34_4 x35_4 x2_4 0 (x0_104.length:Int) 0)=some (r1,r2,r3,r4):=H
            have A115:=Ak A1150
            clear A1150
            have H':=Ak H
            clear H
            have hcz116_0:wc.cell? ⟨gbz43,0,none⟩=some (.int .i64 0):=(blk_cell BKz43.out 0).trans rfl
            have hcz116_1:wc.cell? ⟨gbz43,1,none⟩=some (.int .i64 0):=(blk_cell BKz43.out 1).trans rfl
            have hcz116_2:wc.cell? ⟨gbz43,2,none⟩=some (.int .i64 0):=(blk_cell BKz43.out 2).trans rfl
            have hcz116_3:wc.cell? ⟨gbz43,3,none⟩=some (.int .i64 0):=(blk_cell BKz43.out 3).trans rfl
            have hfz116_0:=blk_frozen BKz43.out 0
            have hfz116_1:=blk_frozen BKz43.out 1
            have hfz116_2:=blk_frozen BKz43.out 2
            have hfz116_3:=blk_frozen BKz43.out 3
            go_wp2_with (first|((with_reducible refine gate_store (t:=3) (p:=221) rfl ?_);refine store_event (t:=3) (p:=221) (v:=?vo_w117) (w1:=(wc.setCell ⟨gbz43,0,none⟩ (.int .i64 x2_4))) ?hg ?ho ?hn ?hr ?_;(case ho=>rfl);(case hg=>rfl);(case hn=>rfl);(case hr=>first|(go_simp;done)|(go_simp;rfl));intro w117 hw;have n0_:Aside0 (Kd.R (Kd.int .u8) 5 w117 w0.heap.size (fun k_=>(P0_ k_∨w.heap.size≤k_)) u0 x0_104):=⟨(by rw [hw];exact (by (with_reducible repeat (first|apply Kd.R_alloc|apply Kd.R_drewN|apply Kd.R_drew));exact Kd.R_mono (Kd.R_far (p:=⟨gbz43,0,none⟩) (Kd.R_types HO_0.out BKz43.out (by decide)) (fun _ hk=>hk.2) (.int .i64 x2_4)) (fun _ hk=>hk.1)))⟩;have n1_:Aside0 (Kd.R k82 82 w117 w0.heap.size (fun k_=>(P0_ k_∨w.heap.size≤k_)∧k_≠gbz43) u34 x34_4):=⟨(by rw [hw];exact (by (with_reducible repeat (first|apply Kd.R_alloc|apply Kd.R_drewN|apply Kd.R_drew));exact Kd.R_mono (Kd.R_far (p:=⟨gbz43,0,none⟩) (Kd.R_mono HO_34.out (fun k_ hk=>(⟨hk,hk.2⟩:_∧k_≠gbz43))) (fun _ hk=>hk.2) (.int .i64 x2_4)) (fun _ hk=>⟨hk.1.1,hk.1.2⟩)))⟩;have n2_:Aside0 (w117.heap[gbz43]? = some (.cells #[.int .i64 x2_4, .int .i64 0, .int .i64 0, .int .i64 0] 82 (0,0))):=⟨(by rw [hw];exact (by (with_reducible repeat (first|refine blk_drewN ?_ _|refine blk_drew ?_|refine blk_alloc ?_ _));refine blk_put (cs := #[.int .i64 0, .int .i64 0, .int .i64 0, .int .i64 0]) ?_ 0 _ rfl;(with_reducible repeat (first|refine blk_drewN ?_ _|refine blk_drew ?_|refine blk_alloc ?_ _));exact BKz43.out))⟩;have n3_:Aside0 (Kept w w117 (fun k_=>P0_ k_)):=⟨(by rw [hw];exact (oP1 GWz43.out))⟩;have n4_:Aside0 (Below w0.heap.size w0 w117):=⟨(by rw [hw];exact (oB1 GEz43.out))⟩;clear hw HO_0 HO_34 BKz43 HK HB;have HO_0:=n0_;have HO_34:=n1_;have BKz43:=n2_;have HK:=n3_;have HB:=n4_;clear n0_ n1_ n2_ n3_ n4_;obtain ⟨Ao118,co118,eo118⟩:=Kd.R_slice HO_0.out;subst eo118;have hcz119_0:w117.cell? ⟨gbz43,0,none⟩=some (.int .i64 x2_4):=(blk_cell BKz43.out 0).trans rfl;have hcz119_1:w117.cell? ⟨gbz43,1,none⟩=some (.int .i64 0):=(blk_cell BKz43.out 1).trans rfl;have hcz119_2:w117.cell? ⟨gbz43,2,none⟩=some (.int .i64 0):=(blk_cell BKz43.out 2).trans rfl;have hcz119_3:w117.cell? ⟨gbz43,3,none⟩=some (.int .i64 0):=(blk_cell BKz43.out 3).trans rfl;have hfz119_0:=blk_frozen BKz43.out 0;have hfz119_1:=blk_frozen BKz43.out 1;have hfz119_2:=blk_frozen BKz43.out 2;have hfz119_3:=blk_frozen BKz43.out 3)|((with_reducible refine gate_store (t:=3) (p:=224) rfl ?_);refine store_event (t:=3) (p:=224) (v:=?vo_w120) (w1:=(w117.setCell ⟨gbz43,2,none⟩ (.int .i64 (x0_104.length:Int)))) ?hg ?ho ?hn ?hr ?_;(case ho=>rfl);(case hg=>rfl);(case hn=>rfl);(case hr=>first|(go_simp;done)|(go_simp;rfl));intro w120 hw;have n0_:Aside0 (Kd.R (Kd.int .u8) 5 w120 w0.heap.size (fun k_=>(P0_ k_∨w.heap.size≤k_)) (.slice Ao118 x0_104.length co118) x0_104):=⟨(by rw [hw];exact (by (with_reducible repeat (first|apply Kd.R_alloc|apply Kd.R_drewN|apply Kd.R_drew));exact Kd.R_mono (Kd.R_far (p:=⟨gbz43,2,none⟩) (Kd.R_types HO_0.out BKz43.out (by decide)) (fun _ hk=>hk.2) (.int .i64 (x0_104.length:Int))) (fun _ hk=>hk.1)))⟩;have n1_:Aside0 (Kd.R k82 82 w120 w0.heap.size (fun k_=>(P0_ k_∨w.heap.size≤k_)∧k_≠gbz43) u34 x34_4):=⟨(by rw [hw];exact (by (with_reducible repeat (first|apply Kd.R_alloc|apply Kd.R_drewN|apply Kd.R_drew));exact Kd.R_mono (Kd.R_far (p:=⟨gbz43,2,none⟩) (Kd.R_mono HO_34.out (fun k_ hk=>(⟨hk,hk.2⟩:_∧k_≠gbz43))) (fun _ hk=>hk.2) (.int .i64 (x0_104.length:Int))) (fun _ hk=>⟨hk.1.1,hk.1.2⟩)))⟩;have n2_:Aside0 (w120.heap[gbz43]? = some (.cells #[.int .i64 x2_4, .int .i64 0, .int .i64 (x0_104.length:Int), .int .i64 0] 82 (0,0))):=⟨(by rw [hw];exact (by (with_reducible repeat (first|refine blk_drewN ?_ _|refine blk_drew ?_|refine blk_alloc ?_ _));refine blk_put (cs := #[.int .i64 x2_4, .int .i64 0, .int .i64 0, .int .i64 0]) ?_ 2 _ rfl;(with_reducible repeat (first|refine blk_drewN ?_ _|refine blk_drew ?_|refine blk_alloc ?_ _));exact BKz43.out))⟩;have n3_:Aside0 (Kept w w120 (fun k_=>P0_ k_)):=⟨(by rw [hw];exact (oP1 GWz43.out))⟩;have n4_:Aside0 (Below w0.heap.size w0 w120):=⟨(by rw [hw];exact (oB1 GEz43.out))⟩;clear hw HO_0 HO_34 BKz43 HK HB;have HO_0:=n0_;have HO_34:=n1_;have BKz43:=n2_;have HK:=n3_;have HB:=n4_;clear n0_ n1_ n2_ n3_ n4_)|((with_reducible refine gate_callee (f:=47) rfl ?_);refine goesL_ (some 230) rfl rfl Try.func47 (by kernel_rfl) rfl #[.slice Ao118 x0_104.length co118, .string a7, .string a8, .int .i64 (wrap64 (a10+1))] rfl oM ?_;(with_reducible refine (pretty_appendTabs.calls kj104 (fun k_=>some k_=(.slice Ao118 x0_104.length co118:Value).ownBlock) (.slice Ao118 x0_104.length co118) x0_104 a7 a8 (wrap64 (a10+1)) tz49 w0 _ ?side1 ?side2 A115.out).mono ?_);(case side1=>exact oB1 GEz43.out);(case side2=>exact Kd.R_tight rfl HO_0.out);rintro e w121 ⟨vz50,rfl,ho0,hb,hkp⟩;refine ⟨_,rfl,?_⟩;have _:=Ak (Kd.R_mono (ok':=fun k_=>(P0_ k_∨w.heap.size≤k_)∧k_≠gbz43) (Kd.R_keptB ((Kd.R_apart' HO_34.out (Kd.R_typed HO_0.out) (by decide))) hkp (fun k_ hk_ hs_=>(hk_.2) hs_)) (fun k_ hk_=>⟨hk_.1.1.1,hk_.1.1.2⟩));have _:=Ak (blk_kept (oL BKz43.out) hkp (fun hs_=>(fun e_=>(Kd.R_ne HO_0.out BKz43.out (by decide)) e_) hs_));have _:=Ak (Kd.R_mono (ok':=fun k_=>(P0_ k_∨w.heap.size≤k_)) ho0 (fun k_ hk_=>Or.elim hk_ (fun hs_=>(HO_0.out.1 k_ (hs_).symm)) (fun hn_=>(.inr (Nat.le_trans (by first|exact HK.out.1|exact (show Kept w _ (fun k_=>P0_ k_) from oP1 GWz43.out).1) hn_)))));have _:=Ak (Kept.then_ (S:=(fun k_=>P0_ k_)) (oP1 GWz43.out) hkp (fun k_ hs_=>(fun e_=>(HO_0.out.1 k_ e_.symm)) hs_));have _:=Ak (hb);clear HO_34 BKz43 HK HB HO_0;rename_i HO_34 BKz43 HOz51 HK HB;(try clear hb);(try clear hkp);(try clear ho0)))
            go_meet
            case rel=>exact ⟨_,(tz49),((x0_88.length:Int)),(x2_4),((x0_104.length:Int)),oS,H',⟨by have:=HJ13.out;have:=HJ42.out;have:=HJ45.out;have:=HK4.out;have:=HJ85.out;have:=HJ88.out;have:=HJ104.out;first|omega|exact Nat.le_refl _⟩,⟨oR HOz51.out⟩,⟨oR HO_34.out⟩,⟨oL BKz43.out⟩,⟨oP1 GWz43.out⟩,⟨oB1 GEz43.out⟩⟩
           replace c114:=Bool.eq_false_iff.mpr c114
           subst c114
           have H1:((pretty_appendTabs.f kj104 x0_104 a7 a8 (wrap64 (a10+1))).bind fun tz52=>(pretty_appendPrettyObject.j10 kj104 tz52 l1 x2_4 a3 a4 true a6 a7 a8 false a10 (x0_88.length:Int) a12 x34_4 x35_4 0 0 0 0))=some (r1,r2,r3,r4):=by rw [if_neg (show ¬ (false=true) by decide)] at H;exact H
           clear H
           have H:=H1
           clear H1
           replace H:=Option.bind_eq_some_iff.mp H
           obtain ⟨tz52,A1220,H⟩:=H
           replace H:(pretty_appendPrettyObject.j10 kj104 tz52 l1 x2_4 a3 a4 true a6 a7 a8 false a10 (x0_88.length:Int) a12 x34_4 x35_4 0 0 0 0)=some (r1,r2,r3,r4):=H
           have A122:=Ak A1220
           clear A1220
           have H':=Ak H
           clear H
           obtain ⟨Ao123,co123,eo123⟩:=Kd.R_slice HO_0.out
           subst eo123
           go_wp2_with (first|((with_reducible refine gate_callee (f:=47) rfl ?_);refine goesL_ (some 230) rfl rfl Try.func47 (by kernel_rfl) rfl #[.slice Ao123 x0_104.length co123, .string a7, .string a8, .int .i64 (wrap64 (a10+1))] rfl oM ?_;(with_reducible refine (pretty_appendTabs.calls kj104 (fun k_=>some k_=(.slice Ao123 x0_104.length co123:Value).ownBlock) (.slice Ao123 x0_104.length co123) x0_104 a7 a8 (wrap64 (a10+1)) tz52 w0 _ ?side1 ?side2 A122.out).mono ?_);(case side1=>exact oB1 GEz43.out);(case side2=>exact Kd.R_tight rfl HO_0.out);rintro e w124 ⟨vz53,rfl,ho0,hb,hkp⟩;refine ⟨_,rfl,?_⟩;have _:=Ak (Kd.R_mono (ok':=fun k_=>(P0_ k_∨w.heap.size≤k_)∧k_≠gbz43) (Kd.R_keptB ((Kd.R_apart' HO_34.out (Kd.R_typed HO_0.out) (by decide))) hkp (fun k_ hk_ hs_=>(hk_.2) hs_)) (fun k_ hk_=>⟨hk_.1.1.1,hk_.1.1.2⟩));have _:=Ak (blk_kept (oL BKz43.out) hkp (fun hs_=>(fun e_=>(Kd.R_ne HO_0.out BKz43.out (by decide)) e_) hs_));have _:=Ak (Kd.R_mono (ok':=fun k_=>(P0_ k_∨w.heap.size≤k_)) ho0 (fun k_ hk_=>Or.elim hk_ (fun hs_=>(HO_0.out.1 k_ (hs_).symm)) (fun hn_=>(.inr (Nat.le_trans (by first|exact HK.out.1|exact (show Kept w _ (fun k_=>P0_ k_) from oP1 GWz43.out).1) hn_)))));have _:=Ak (Kept.then_ (S:=(fun k_=>P0_ k_)) (oP1 GWz43.out) hkp (fun k_ hs_=>(fun e_=>(HO_0.out.1 k_ e_.symm)) hs_));have _:=Ak (hb);clear HO_34 BKz43 HK HB HO_0;rename_i HO_34 BKz43 HOz54 HK HB;(try clear hb);(try clear hkp);(try clear ho0)))
           go_meet
           case rel=>exact ⟨_,(tz52),((x0_88.length:Int)),(0),(0),oS,H',⟨by have:=HJ13.out;have:=HJ42.out;have:=HJ45.out;have:=HK4.out;have:=HJ85.out;have:=HJ88.out;have:=HJ104.out;first|omega|exact Nat.le_refl _⟩,⟨oR HOz54.out⟩,⟨oR HO_34.out⟩,⟨oL BKz43.out⟩,⟨oP1 GWz43.out⟩,⟨oB1 GEz43.out⟩⟩
         rw [if_neg c103] at H
         exact absurd H (by simp)
        case rest=>as_aux_lemma =>
        clear HC99
        obtain ⟨kq,x0_98,x11_98,xz44000_98,xz44002_98,rfl,HA,HJ98,HO_0,HO_34,BKz43,HK,HB⟩:=hcut
        cases kq with
        | zero=>exact absurd HA.out (by simp [pretty_appendPrettyObject.j10])
        | succ kj98 =>
         have H:=HA.out
         clear HA
         simp only [pretty_appendPrettyObject.j10] at H
         have HC128:=Ak H
         clear H
         go_upto_if 232 with (fail)
         go_cut [0,2,11] from 200 to 232 (fun v0 v2 v11 wc => ∃ (kq:Nat) (x0_127:List Int) (x2_127:Int) (x11_127:Int) (xz44001_127:Int),v2 = .int .i64 x2_127∧v11 = .int .i64 x11_127∧Aside0 (pretty_appendPrettyObject.j12 kq x0_127 l1 x2_127 a3 a4 a5 a6 a7 a8 x9_4 a10 x11_127 a12 x34_4 x35_4 xz44000_98 xz44001_127 xz44002_98 0=some (r1,r2,r3,r4))∧Aside0 (kq≤kj98)∧Aside0 (Kd.R (Kd.int .u8) 5 wc w0.heap.size (fun k_=>(P0_ k_∨w.heap.size≤k_)) v0 x0_127)∧Aside0 (Kd.R k82 82 wc w0.heap.size (fun k_=>(P0_ k_∨w.heap.size≤k_)∧k_≠gbz43) u34 x34_4)∧Aside0 (wc.heap[gbz43]? = some (.cells #[.int .i64 xz44000_98, .int .i64 xz44001_127, .int .i64 xz44002_98, .int .i64 0] 82 (0,0)))∧Aside0 (Kept w wc (fun k_=>P0_ k_))∧Aside0 (Below w0.heap.size w0 wc))
         case first =>
          have H:=HC128.out
          clear HC128
          by_cases c129:a3=123
          rotate_left
          ·
           rw [if_neg c129] at H
           have c129b0:(a3 == 123)=false:=beq_eq_false_iff_ne.mpr c129
           have c129b1:(a3 != 123)=true:=bne_iff_ne.mpr c129
           (first|rw [c129b0]|(simp only [i64_w,i32_w];rw [c129b0])|skip)
           have H':=Ak H
           clear H
           go_wp2
           go_meet
           case rel=>exact ⟨_,(x0_98),(x2_4),(x11_98),(0),oS,oS,H',⟨by have:=HJ13.out;have:=HJ42.out;have:=HJ45.out;have:=HK4.out;have:=HJ85.out;have:=HJ88.out;have:=HJ98.out;first|omega|exact Nat.le_refl _⟩,⟨oR HO_0.out⟩,⟨oR HO_34.out⟩,⟨oL BKz43.out⟩,⟨oP1 GWz43.out⟩,⟨oB1 GEz43.out⟩⟩
          rw [if_pos c129] at H
          have c129b0:(a3 == 123)=true:=beq_iff_eq.mpr c129
          have c129b1:(a3 != 123)=false:=bne_eq_false_iff_eq.mpr c129
          clear c129
          (first|rw [c129b0]|(simp only [i64_w,i32_w];rw [c129b0])|skip)
          replace H:=Option.bind_eq_some_iff.mp H
          obtain ⟨⟨tz58,tz59,tz60,tz61⟩,A1300,H⟩:=H
          replace H:(if x9_4=true then (pretty_appendPrettyObject.j11 kj98 tz58 l1 tz59 a3 a4 a5 a6 a7 a8 x9_4 a10 tz60 a12 x34_4 x35_4 xz44000_98 tz59 xz44002_98 0) else (pretty_appendPrettyObject.j11 kj98 tz58 l1 tz59 a3 a4 a5 a6 a7 a8 x9_4 a10 tz60 a12 x34_4 x35_4 xz44000_98 0 xz44002_98 0))=some (r1,r2,r3,r4):=H
          have A130:=Ak A1300
          clear A1300
          have HC131:=Ak H
          clear H
          obtain ⟨Ao132,co132,eo132⟩:=Kd.R_slice HO_0.out
          subst eo132
          go_upto_if 243 with (first|((with_reducible refine gate_callee (f:=38) rfl ?_);refine goesL_ (some 238) rfl rfl Try.func38 (by kernel_rfl) rfl #[.slice Ao132 x0_98.length co132, .slice (some adz16) l1.length c1, .int .i64 x2_4, .int .i64 x11_98] rfl oM ?_;(with_reducible refine (pretty_appendPrettyString.calls kj98 (fun k_=>some k_=(.slice Ao132 x0_98.length co132:Value).ownBlock) (.slice Ao132 x0_98.length co132) x0_98 _ _ l1 x2_4 x11_98 tz58 tz59 tz60 tz61 w0 _ ?side1 ?side2 ?side3 ?side4 A130.out).mono ?_);(case side1=>exact oB1 GEz43.out);(case side2=>exact Kd.R_tight rfl HO_0.out);(case side3=>exact Kd.C_kept_call HR1.out (oP1 GWz43.out) (fun k_ hs_=>(fun e_=>(HO_0.out.1 k_ e_.symm)) hs_));(case side4=>exact HC1.out);rintro e w133 ⟨vz62,rfl,ho0,hb,hkp⟩;refine ⟨_,rfl,?_⟩;have _:=Ak (Kd.R_mono (ok':=fun k_=>(P0_ k_∨w.heap.size≤k_)∧k_≠gbz43) (Kd.R_keptB ((Kd.R_apart' HO_34.out (Kd.R_typed HO_0.out) (by decide))) hkp (fun k_ hk_ hs_=>(hk_.2) hs_)) (fun k_ hk_=>⟨hk_.1.1.1,hk_.1.1.2⟩));have _:=Ak (blk_kept (oL BKz43.out) hkp (fun hs_=>(fun e_=>(Kd.R_ne HO_0.out BKz43.out (by decide)) e_) hs_));have _:=Ak (Kd.R_mono (ok':=fun k_=>(P0_ k_∨w.heap.size≤k_)) ho0 (fun k_ hk_=>Or.elim hk_ (fun hs_=>(HO_0.out.1 k_ (hs_).symm)) (fun hn_=>(.inr (Nat.le_trans (by first|exact HK.out.1|exact (show Kept w _ (fun k_=>P0_ k_) from oP1 GWz43.out).1) hn_)))));have _:=Ak (Kept.then_ (S:=(fun k_=>P0_ k_)) (oP1 GWz43.out) hkp (fun k_ hs_=>(fun e_=>(HO_0.out.1 k_ e_.symm)) hs_));have _:=Ak (hb);clear HO_34 BKz43 HK HB HO_0;rename_i HO_34 BKz43 HOz63 HK HB;(try clear hb);(try clear hkp);(try clear ho0)))
          (try simp only [Act.put,List.setIfInBounds_toArray,List.set_cons_zero,List.set_cons_succ])
          go_cut [] from 200 to 243 (fun wc => ∃ (kq:Nat) (xz44001_130:Int),Aside0 (pretty_appendPrettyObject.j11 kq tz58 l1 tz59 a3 a4 a5 a6 a7 a8 x9_4 a10 tz60 a12 x34_4 x35_4 xz44000_98 xz44001_130 xz44002_98 0=some (r1,r2,r3,r4))∧Aside0 (kq≤kj98)∧Aside0 (Kd.R (Kd.int .u8) 5 wc w0.heap.size (fun k_=>(P0_ k_∨w.heap.size≤k_)) vz62 tz58)∧Aside0 (Kd.R k82 82 wc w0.heap.size (fun k_=>(P0_ k_∨w.heap.size≤k_)∧k_≠gbz43) u34 x34_4)∧Aside0 (wc.heap[gbz43]? = some (.cells #[.int .i64 xz44000_98, .int .i64 xz44001_130, .int .i64 xz44002_98, .int .i64 0] 82 (0,0)))∧Aside0 (Kept w wc (fun k_=>P0_ k_))∧Aside0 (Below w0.heap.size w0 wc))
          case first =>
           have H:=HC131.out
           clear HC131
           by_cases c134:x9_4=true
           rotate_left
           ·
            replace c134:=Bool.eq_false_iff.mpr c134
            subst c134
            have H1:(pretty_appendPrettyObject.j11 kj98 tz58 l1 tz59 a3 a4 a5 a6 a7 a8 false a10 tz60 a12 x34_4 x35_4 xz44000_98 0 xz44002_98 0)=some (r1,r2,r3,r4):=by rw [if_neg (show ¬ (false=true) by decide)] at H;exact H
            clear H
            have H:=H1
            clear H1
            have H':=Ak H
            clear H
            go_wp2
            go_meet
            case rel=>exact ⟨_,(0),H',⟨by have:=HJ13.out;have:=HJ42.out;have:=HJ45.out;have:=HK4.out;have:=HJ85.out;have:=HJ88.out;have:=HJ98.out;first|omega|exact Nat.le_refl _⟩,⟨oR HOz63.out⟩,⟨oR HO_34.out⟩,⟨oL BKz43.out⟩,⟨oP1 GWz43.out⟩,⟨oB1 GEz43.out⟩⟩
           subst c134
           have H1:(pretty_appendPrettyObject.j11 kj98 tz58 l1 tz59 a3 a4 a5 a6 a7 a8 true a10 tz60 a12 x34_4 x35_4 xz44000_98 tz59 xz44002_98 0)=some (r1,r2,r3,r4):=by rw [if_pos rfl] at H;exact H
           clear H
           have H:=H1
           clear H1
           have H':=Ak H
           clear H
           have hcz135_0:w133.cell? ⟨gbz43,0,none⟩=some (.int .i64 xz44000_98):=(blk_cell BKz43.out 0).trans rfl
           have hcz135_1:w133.cell? ⟨gbz43,1,none⟩=some (.int .i64 0):=(blk_cell BKz43.out 1).trans rfl
           have hcz135_2:w133.cell? ⟨gbz43,2,none⟩=some (.int .i64 xz44002_98):=(blk_cell BKz43.out 2).trans rfl
           have hcz135_3:w133.cell? ⟨gbz43,3,none⟩=some (.int .i64 0):=(blk_cell BKz43.out 3).trans rfl
           have hfz135_0:=blk_frozen BKz43.out 0
           have hfz135_1:=blk_frozen BKz43.out 1
           have hfz135_2:=blk_frozen BKz43.out 2
           have hfz135_3:=blk_frozen BKz43.out 3
           go_wp2
           go_meet
           case rel=>exact ⟨_,(tz59),H',⟨by have:=HJ13.out;have:=HJ42.out;have:=HJ45.out;have:=HK4.out;have:=HJ85.out;have:=HJ88.out;have:=HJ98.out;first|omega|exact Nat.le_refl _⟩,⟨by (with_reducible repeat (first|apply Kd.R_alloc|apply Kd.R_drewN|apply Kd.R_drew));exact Kd.R_mono (Kd.R_far (p:=⟨gbz43,1,none⟩) (Kd.R_types HOz63.out BKz43.out (by decide)) (fun _ hk=>hk.2) (.int .i64 tz59)) (fun _ hk=>hk.1)⟩,⟨by (with_reducible repeat (first|apply Kd.R_alloc|apply Kd.R_drewN|apply Kd.R_drew));exact Kd.R_mono (Kd.R_far (p:=⟨gbz43,1,none⟩) (Kd.R_mono HO_34.out (fun k_ hk=>(⟨hk,hk.2⟩:_∧k_≠gbz43))) (fun _ hk=>hk.2) (.int .i64 tz59)) (fun _ hk=>⟨hk.1.1,hk.1.2⟩)⟩,⟨by (with_reducible repeat (first|refine blk_drewN ?_ _|refine blk_drew ?_|refine blk_alloc ?_ _));refine blk_put (cs := #[.int .i64 xz44000_98, .int .i64 0, .int .i64 xz44002_98, .int .i64 0]) ?_ 1 _ rfl;(with_reducible repeat (first|refine blk_drewN ?_ _|refine blk_drew ?_|refine blk_alloc ?_ _));exact BKz43.out⟩,⟨oP1 GWz43.out⟩,⟨oB1 GEz43.out⟩⟩
          case rest=>as_aux_lemma =>
          clear HC131
          clear c129b0 c129b1
          obtain ⟨kq,xz44001_130,HA,HJ130,HO_0,HO_34,BKz43,HK,HB⟩:=hcut
          cases kq with
          | zero=>exact absurd HA.out (by simp [pretty_appendPrettyObject.j11])
          | succ kj130 =>
           have H:=HA.out
           clear HA
           simp only [pretty_appendPrettyObject.j11] at H
           by_cases c136:tz58.length<140737488355328
           rotate_left
           ·
            rw [if_neg c136] at H
            exact absurd H (by simp)
           rw [if_pos c136] at H
           have LMc136:=Ak c136
           clear c136
           obtain ⟨yz64,hyz64⟩ : ∃ y_:List Int,y_=(tz58++[58]):=⟨_,rfl⟩
           replace H:(if a5=true then (if yz64.length<140737488355328 then (pretty_appendPrettyObject.j12 kj130 (yz64++[32]) l1 tz59 a3 a4 a5 a6 a7 a8 x9_4 a10 tz60 a12 x34_4 x35_4 xz44000_98 xz44001_130 xz44002_98 0) else (none)) else (pretty_appendPrettyObject.j12 kj130 yz64 l1 tz59 a3 a4 a5 a6 a7 a8 x9_4 a10 tz60 a12 x34_4 x35_4 xz44000_98 xz44001_130 xz44002_98 0))=some (r1,r2,r3,r4):=by first|(rw [hyz64];with_reducible exact H)|(have H2_:=(Option.bind_some _ _).symm.trans H;rw [hyz64];with_reducible exact H2_)|(have H2_:=(Option.bind_some _ _).symm.trans H;with_reducible exact H2_)|with_reducible exact H|(rw [hyz64];exact H)|exact H
           have Nyz64:=Ak hyz64
           clear hyz64
           by_cases c137:a5=true
           ·
            subst c137
            have H1:(if yz64.length<140737488355328 then (pretty_appendPrettyObject.j12 kj130 (yz64++[32]) l1 tz59 a3 a4 true a6 a7 a8 x9_4 a10 tz60 a12 x34_4 x35_4 xz44000_98 xz44001_130 xz44002_98 0) else (none))=some (r1,r2,r3,r4):=by rw [if_pos rfl] at H;exact H
            clear H
            have H:=H1
            clear H1
            by_cases c138:yz64.length<140737488355328
            rotate_left
            ·
             rw [if_neg c138] at H
             exact absurd H (by simp)
            rw [if_pos c138] at H
            have LMc138:=Ak c138
            clear c138
            obtain ⟨yz65,hyz65⟩ : ∃ y_:List Int,y_=(yz64++[32]):=⟨_,rfl⟩
            replace H:(pretty_appendPrettyObject.j12 kj130 yz65 l1 tz59 a3 a4 true a6 a7 a8 x9_4 a10 tz60 a12 x34_4 x35_4 xz44000_98 xz44001_130 xz44002_98 0)=some (r1,r2,r3,r4):=by first|(rw [hyz65];with_reducible exact H)|(have H2_:=(Option.bind_some _ _).symm.trans H;rw [hyz65];with_reducible exact H2_)|(have H2_:=(Option.bind_some _ _).symm.trans H;with_reducible exact H2_)|with_reducible exact H|(rw [hyz65];exact H)|exact H
            have Nyz65:=Ak hyz65
            clear hyz65
            have H':=Ak H
            clear H
            go_wp2_with (first|((with_reducible refine gate_builtin (b := .append) (xs := #[.tmp 246, .tmp 247]) rfl ?_);(try (refine gate_guard (by rfl) ?_;dsimp only));at_builtin;refine Kd.R_append (Kd.int .u8) (w0:=w0) w0.heap.size rfl (.tmp 246) (.tmp 247) 44 5 (.int .u8 0) 1 rfl Try.underlying44 info5 rfl (by decide) (by omega) vz62 tz58 58 [.int .u8 58] (fun k_=>(P0_ k_∨w.heap.size≤k_)) (fun _=>False) rfl rfl ?aP (fun _ hk=>hk.elim) ?aF ?aO ?aB ?aS ?aL ?_;(case aP=>exact rfl);(case aB=>exact (oB1 GEz43.out));(case aF=>exact (fun k_ hk=>(.inr (Nat.le_trans (by first|exact HK.out.1|exact (show Kept w _ (fun k_=>P0_ k_) from oP1 GWz43.out).1) hk))));(case aO=>exact (oR HO_0.out));(case aS=>exact (below_size (oB1 GEz43.out)));(case aL=>have:=LMc136.out;omega);intro vz66 w139 ho hb hg hat;rw [← Nyz64.out] at ho;have _:=Ak (Kd.R_over' (oR HO_34.out) (Kd.R_typed (oR HO_0.out)) (by decide) hg);have _:=Ak (blk_grown (g:=gbz43) (o := .cells #[.int .i64 xz44000_98, .int .i64 xz44001_130, .int .i64 xz44002_98, .int .i64 0] 82 (0,0)) (oL BKz43.out) hg (Kd.R_ne HO_0.out BKz43.out (by decide)));have _:=Ak (hb);have _:=Ak (Kept.of_grown (S:=(fun k_=>P0_ k_)) hg (oP1 GWz43.out) (fun k_ e_=>(HO_0.out.1 k_ e_)));have _:=Ak (ho);clear HO_34 BKz43 HB HK HO_0;rename_i HO_34 BKz43 HB HK HOz67;clear ho hb hg hat)|((with_reducible refine gate_builtin (b := .append) (xs := #[.tmp 250, .tmp 251]) rfl ?_);(try (refine gate_guard (by rfl) ?_;dsimp only));at_builtin;refine Kd.R_append (Kd.int .u8) (w0:=w0) w0.heap.size rfl (.tmp 250) (.tmp 251) 44 5 (.int .u8 0) 1 rfl Try.underlying44 info5 rfl (by decide) (by omega) vz66 yz64 32 [.int .u8 32] (fun k_=>(P0_ k_∨w.heap.size≤k_)) (fun _=>False) rfl rfl ?aP (fun _ hk=>hk.elim) ?aF ?aO ?aB ?aS ?aL ?_;(case aP=>exact rfl);(case aB=>exact (oB1 GEz43.out));(case aF=>exact (fun k_ hk=>(.inr (Nat.le_trans (by first|exact HK.out.1|exact (show Kept w _ (fun k_=>P0_ k_) from oP1 GWz43.out).1) hk))));(case aO=>exact (oR HOz67.out));(case aS=>exact (below_size (oB1 GEz43.out)));(case aL=>have:=LMc138.out;omega);intro vz68 w140 ho hb hg hat;rw [← Nyz65.out] at ho;have _:=Ak (Kd.R_over' (oR HO_34.out) (Kd.R_typed (oR HOz67.out)) (by decide) hg);have _:=Ak (blk_grown (g:=gbz43) (o := .cells #[.int .i64 xz44000_98, .int .i64 xz44001_130, .int .i64 xz44002_98, .int .i64 0] 82 (0,0)) (oL BKz43.out) hg (Kd.R_ne HOz67.out BKz43.out (by decide)));have _:=Ak (hb);have _:=Ak (Kept.of_grown (S:=(fun k_=>P0_ k_)) hg (oP1 GWz43.out) (fun k_ e_=>(HOz67.out.1 k_ e_)));have _:=Ak (ho);clear HO_34 BKz43 HB HK HOz67;rename_i HO_34 BKz43 HB HK HOz69;clear ho hb hg hat))
            go_meet
            case rel=>exact ⟨_,(yz65),(tz59),(tz60),(xz44001_130),oS,oS,H',⟨by have:=HJ13.out;have:=HJ42.out;have:=HJ45.out;have:=HK4.out;have:=HJ85.out;have:=HJ88.out;have:=HJ98.out;have:=HJ130.out;first|omega|exact Nat.le_refl _⟩,⟨oR HOz69.out⟩,⟨oR HO_34.out⟩,⟨oL BKz43.out⟩,⟨oP1 GWz43.out⟩,⟨oB1 GEz43.out⟩⟩
           replace c137:=Bool.eq_false_iff.mpr c137
           subst c137
           have H1:(pretty_appendPrettyObject.j12 kj130 yz64 l1 tz59 a3 a4 false a6 a7 a8 x9_4 a10 tz60 a12 x34_4 x35_4 xz44000_98 xz44001_130 xz44002_98 0)=some (r1,r2,r3,r4):=by rw [if_neg (show ¬ (false=true) by decide)] at H;exact H
           clear H
           have H:=H1
           clear H1
           have H':=Ak H
           clear H
           go_wp2_with (first|((with_reducible refine gate_builtin (b := .append) (xs := #[.tmp 246, .tmp 247]) rfl ?_);(try (refine gate_guard (by rfl) ?_;dsimp only));at_builtin;refine Kd.R_append (Kd.int .u8) (w0:=w0) w0.heap.size rfl (.tmp 246) (.tmp 247) 44 5 (.int .u8 0) 1 rfl Try.underlying44 info5 rfl (by decide) (by omega) vz62 tz58 58 [.int .u8 58] (fun k_=>(P0_ k_∨w.heap.size≤k_)) (fun _=>False) rfl rfl ?aP (fun _ hk=>hk.elim) ?aF ?aO ?aB ?aS ?aL ?_;(case aP=>exact rfl);(case aB=>exact (oB1 GEz43.out));(case aF=>exact (fun k_ hk=>(.inr (Nat.le_trans (by first|exact HK.out.1|exact (show Kept w _ (fun k_=>P0_ k_) from oP1 GWz43.out).1) hk))));(case aO=>exact (oR HO_0.out));(case aS=>exact (below_size (oB1 GEz43.out)));(case aL=>have:=LMc136.out;omega);intro vz66 w141 ho hb hg hat;rw [← Nyz64.out] at ho;have _:=Ak (Kd.R_over' (oR HO_34.out) (Kd.R_typed (oR HO_0.out)) (by decide) hg);have _:=Ak (blk_grown (g:=gbz43) (o := .cells #[.int .i64 xz44000_98, .int .i64 xz44001_130, .int .i64 xz44002_98, .int .i64 0] 82 (0,0)) (oL BKz43.out) hg (Kd.R_ne HO_0.out BKz43.out (by decide)));have _:=Ak (hb);have _:=Ak (Kept.of_grown (S:=(fun k_=>P0_ k_)) hg (oP1 GWz43.out) (fun k_ e_=>(HO_0.out.1 k_ e_)));have _:=Ak (ho);clear HO_34 BKz43 HB HK HO_0;rename_i HO_34 BKz43 HB HK HOz67;clear ho hb hg hat))
           go_meet
           case rel=>exact ⟨_,(yz64),(tz59),(tz60),(xz44001_130),oS,oS,H',⟨by have:=HJ13.out;have:=HJ42.out;have:=HJ45.out;have:=HK4.out;have:=HJ85.out;have:=HJ88.out;have:=HJ98.out;have:=HJ130.out;first|omega|exact Nat.le_refl _⟩,⟨oR HOz67.out⟩,⟨oR HO_34.out⟩,⟨oL BKz43.out⟩,⟨oP1 GWz43.out⟩,⟨oB1 GEz43.out⟩⟩
         case rest=>as_aux_lemma =>
         clear HC128
         obtain ⟨kq,x0_127,x2_127,x11_127,xz44001_127,rfl,rfl,HA,HJ127,HO_0,HO_34,BKz43,HK,HB⟩:=hcut
         cases kq with
         | zero=>exact absurd HA.out (by simp [pretty_appendPrettyObject.j12])
         | succ kj127 =>
          have H:=HA.out
          clear HA
          simp only [pretty_appendPrettyObject.j12] at H
          replace H:=Option.bind_eq_some_iff.mp H
          obtain ⟨⟨tz70,tz71,tz72,tz73⟩,A1420,H⟩:=H
          replace H:(if a12=(-1) then (pretty_appendPrettyObject.j13 kj127 tz70 l1 tz71 a3 a4 a5 a6 a7 a8 x9_4 a10 tz72 a12 x34_4 x35_4 false xz44000_98 xz44001_127 xz44002_98 0) else (pretty_appendPrettyObject.j13 kj127 tz70 l1 tz71 a3 a4 a5 a6 a7 a8 x9_4 a10 tz72 a12 x34_4 x35_4 (!tz73) xz44000_98 xz44001_127 xz44002_98 0))=some (r1,r2,r3,r4):=H
          have A142:=Ak A1420
          clear A1420
          have HC143:=Ak H
          clear H
          obtain ⟨Ao144,co144,eo144⟩:=Kd.R_slice HO_0.out
          subst eo144
          go_upto_region 59 with (first|((with_reducible refine gate_callee (f:=21) rfl ?_);refine goesL_ (some 266) rfl rfl Try.func21 (by kernel_rfl) rfl #[.slice Ao144 x0_127.length co144, .slice (some adz16) l1.length c1, .int .i64 x2_127, .bool a5, .int .i64 a6, .string a7, .string a8, .bool x9_4, .int .i64 (wrap64 (a10+1)), .int .i64 x11_127, .int .i64 a12] rfl oM ?_;(with_reducible refine (ih_21 kj127 (by have:=HJ13.out;have:=HJ42.out;have:=HJ45.out;have:=HK4.out;have:=HJ85.out;have:=HJ88.out;have:=HJ98.out;have:=HJ127.out;omega) (fun k_=>some k_=(.slice Ao144 x0_127.length co144:Value).ownBlock) (.slice Ao144 x0_127.length co144) x0_127 _ _ l1 x2_127 a5 a6 a7 a8 x9_4 (wrap64 (a10+1)) x11_127 a12 tz70 tz71 tz72 tz73 w0 _ ?side1 ?side2 ?side3 ?side4 A142.out).mono ?_);(case side1=>exact oB1 GEz43.out);(case side2=>exact Kd.R_tight rfl HO_0.out);(case side3=>exact Kd.C_kept_call HR1.out (oP1 GWz43.out) (fun k_ hs_=>(fun e_=>(HO_0.out.1 k_ e_.symm)) hs_));(case side4=>exact HC1.out);rintro e w145 ⟨vz74,rfl,ho0,hb,hkp⟩;refine ⟨_,rfl,?_⟩;have _:=Ak (Kd.R_mono (ok':=fun k_=>(P0_ k_∨w.heap.size≤k_)∧k_≠gbz43) (Kd.R_keptB ((Kd.R_apart' HO_34.out (Kd.R_typed HO_0.out) (by decide))) hkp (fun k_ hk_ hs_=>(hk_.2) hs_)) (fun k_ hk_=>⟨hk_.1.1.1,hk_.1.1.2⟩));have _:=Ak (blk_kept (oL BKz43.out) hkp (fun hs_=>(fun e_=>(Kd.R_ne HO_0.out BKz43.out (by decide)) e_) hs_));have _:=Ak (Kd.R_mono (ok':=fun k_=>(P0_ k_∨w.heap.size≤k_)) ho0 (fun k_ hk_=>Or.elim hk_ (fun hs_=>(HO_0.out.1 k_ (hs_).symm)) (fun hn_=>(.inr (Nat.le_trans (by first|exact HK.out.1|exact (show Kept w _ (fun k_=>P0_ k_) from oP1 GWz43.out).1) hn_)))));have _:=Ak (Kept.then_ (S:=(fun k_=>P0_ k_)) (oP1 GWz43.out) hkp (fun k_ hs_=>(fun e_=>(HO_0.out.1 k_ e_.symm)) hs_));have _:=Ak (hb);clear HO_34 BKz43 HK HB HO_0;rename_i HO_34 BKz43 HOz75 HK HB;(try clear hb);(try clear hkp);(try clear ho0)))
          (try simp only [Act.put,List.setIfInBounds_toArray,List.set_cons_zero,List.set_cons_succ])
          go_cut [276] from 233 to 276 (fun v276 wc => ∃ (kq:Nat) (x276_142:Bool),v276 = .bool x276_142∧Aside0 (pretty_appendPrettyObject.j13 kq tz70 l1 tz71 a3 a4 a5 a6 a7 a8 x9_4 a10 tz72 a12 x34_4 x35_4 x276_142 xz44000_98 xz44001_127 xz44002_98 0=some (r1,r2,r3,r4))∧Aside0 (kq≤kj127)∧Aside0 (Kd.R (Kd.int .u8) 5 wc w0.heap.size (fun k_=>(P0_ k_∨w.heap.size≤k_)) vz74 tz70)∧Aside0 (Kd.R k82 82 wc w0.heap.size (fun k_=>(P0_ k_∨w.heap.size≤k_)∧k_≠gbz43) u34 x34_4)∧Aside0 (wc.heap[gbz43]? = some (.cells #[.int .i64 xz44000_98, .int .i64 xz44001_127, .int .i64 xz44002_98, .int .i64 0] 82 (0,0)))∧Aside0 (Kept w wc (fun k_=>P0_ k_))∧Aside0 (Below w0.heap.size w0 wc))
          case first =>
           have H:=HC143.out
           clear HC143
           by_cases c146:a12=(-1)
           ·
            rw [if_pos c146] at H
            have c146b0:(a12 == (-1))=true:=beq_iff_eq.mpr c146
            have c146b1:(a12 != (-1))=false:=bne_eq_false_iff_eq.mpr c146
            clear c146
            (first|rw [c146b0]|(simp only [i64_w,i32_w];rw [c146b0])|skip)
            have H':=Ak H
            clear H
            go_wp2
            go_meet
            case rel=>exact ⟨_,(false),oS,H',⟨by have:=HJ13.out;have:=HJ42.out;have:=HJ45.out;have:=HK4.out;have:=HJ85.out;have:=HJ88.out;have:=HJ98.out;have:=HJ127.out;first|omega|exact Nat.le_refl _⟩,⟨oR HOz75.out⟩,⟨oR HO_34.out⟩,⟨oL BKz43.out⟩,⟨oP1 GWz43.out⟩,⟨oB1 GEz43.out⟩⟩
           rw [if_neg c146] at H
           have c146b0:(a12 == (-1))=false:=beq_eq_false_iff_ne.mpr c146
           have c146b1:(a12 != (-1))=true:=bne_iff_ne.mpr c146
           (first|rw [c146b0]|(simp only [i64_w,i32_w];rw [c146b0])|skip)
           have H':=Ak H
           clear H
           go_wp2
           go_meet
           case rel=>exact ⟨_,(!tz73),oS,H',⟨by have:=HJ13.out;have:=HJ42.out;have:=HJ45.out;have:=HK4.out;have:=HJ85.out;have:=HJ88.out;have:=HJ98.out;have:=HJ127.out;first|omega|exact Nat.le_refl _⟩,⟨oR HOz75.out⟩,⟨oR HO_34.out⟩,⟨oL BKz43.out⟩,⟨oP1 GWz43.out⟩,⟨oB1 GEz43.out⟩⟩
          case rest=>as_aux_lemma =>
          clear HC143
          obtain ⟨kq,x276_142,rfl,HA,HJ142,HO_0,HO_34,BKz43,HK,HB⟩:=hcut
          cases kq with
          | zero=>exact absurd HA.out (by simp [pretty_appendPrettyObject.j13])
          | succ kj142 =>
           have H:=HA.out
           clear HA
           simp only [pretty_appendPrettyObject.j13] at H
           by_cases c147:x276_142=true
           ·
            subst c147
            have H1:(some (tz70,tz71,tz72,false))=some (r1,r2,r3,r4):=by rw [if_pos rfl] at H;exact H
            clear H
            have H:=H1
            clear H1
            simp only [Option.some.injEq,Prod.mk.injEq] at H
            obtain ⟨rfl,rfl,rfl,rfl⟩:=H
            go_wp2
            refine bodyPost_ret (results_list (rs:=[.tmp 26, .tmp 27, .tmp 28, .tmp 29]) rfl (by simp) (.tmp (.tmp (.tmp (.tmp .nil))))) rfl ?_
            exact ⟨_,oE,oR HO_0.out,oB1 GEz43.out,oP1 GWz43.out⟩
           replace c147:=Bool.eq_false_iff.mpr c147
           subst c147
           have H1:(if a5=true then (if a3=123 then (pretty_appendPrettyObject.j14 kj142 tz70 l1 tz71 a3 a4 a5 a6 a7 a8 x9_4 a10 tz72 a12 x34_4 x35_4 x9_4 xz44000_98 xz44001_127 xz44002_98 0) else (pretty_appendPrettyObject.j14 kj142 tz70 l1 tz71 a3 a4 a5 a6 a7 a8 x9_4 a10 tz72 a12 x34_4 x35_4 false xz44000_98 xz44001_127 xz44002_98 0)) else (pretty_appendPrettyObject.j14 kj142 tz70 l1 tz71 a3 a4 a5 a6 a7 a8 x9_4 a10 tz72 a12 x34_4 x35_4 false xz44000_98 xz44001_127 xz44002_98 0))=some (r1,r2,r3,r4):=by rw [if_neg (show ¬ (false=true) by decide)] at H;exact H
           clear H
           have H:=H1
           clear H1
           have HC148:=Ak H
           clear H
           go_upto_region 61 with (fail)
           go_cut [287] from 277 to 287 (fun v287 wc => ∃ (kq:Nat) (x287_147:Bool),v287 = .bool x287_147∧Aside0 (pretty_appendPrettyObject.j14 kq tz70 l1 tz71 a3 a4 a5 a6 a7 a8 x9_4 a10 tz72 a12 x34_4 x35_4 x287_147 xz44000_98 xz44001_127 xz44002_98 0=some (r1,r2,r3,r4))∧Aside0 (kq≤kj142)∧Aside0 (Kd.R (Kd.int .u8) 5 wc w0.heap.size (fun k_=>(P0_ k_∨w.heap.size≤k_)) vz74 tz70)∧Aside0 (Kd.R k82 82 wc w0.heap.size (fun k_=>(P0_ k_∨w.heap.size≤k_)∧k_≠gbz43) u34 x34_4)∧Aside0 (wc.heap[gbz43]? = some (.cells #[.int .i64 xz44000_98, .int .i64 xz44001_127, .int .i64 xz44002_98, .int .i64 0] 82 (0,0)))∧Aside0 (Kept w wc (fun k_=>P0_ k_))∧Aside0 (Below w0.heap.size w0 wc))
           case first =>
            have H:=HC148.out
            clear HC148
            by_cases c149:a5=true
            rotate_left
            ·
             replace c149:=Bool.eq_false_iff.mpr c149
             subst c149
             have H1:(pretty_appendPrettyObject.j14 kj142 tz70 l1 tz71 a3 a4 false a6 a7 a8 x9_4 a10 tz72 a12 x34_4 x35_4 false xz44000_98 xz44001_127 xz44002_98 0)=some (r1,r2,r3,r4):=by rw [if_neg (show ¬ (false=true) by decide)] at H;exact H
             clear H
             have H:=H1
             clear H1
             have H':=Ak H
             clear H
             go_wp2
             go_meet
             case rel=>exact ⟨_,(false),oS,H',⟨by have:=HJ13.out;have:=HJ42.out;have:=HJ45.out;have:=HK4.out;have:=HJ85.out;have:=HJ88.out;have:=HJ98.out;have:=HJ127.out;have:=HJ142.out;first|omega|exact Nat.le_refl _⟩,⟨oR HO_0.out⟩,⟨oR HO_34.out⟩,⟨oL BKz43.out⟩,⟨oP1 GWz43.out⟩,⟨oB1 GEz43.out⟩⟩
            subst c149
            have H1:(if a3=123 then (pretty_appendPrettyObject.j14 kj142 tz70 l1 tz71 a3 a4 true a6 a7 a8 x9_4 a10 tz72 a12 x34_4 x35_4 x9_4 xz44000_98 xz44001_127 xz44002_98 0) else (pretty_appendPrettyObject.j14 kj142 tz70 l1 tz71 a3 a4 true a6 a7 a8 x9_4 a10 tz72 a12 x34_4 x35_4 false xz44000_98 xz44001_127 xz44002_98 0))=some (r1,r2,r3,r4):=by rw [if_pos rfl] at H;exact H
            clear H
            have H:=H1
            clear H1
            by_cases c150:a3=123
            ·
             rw [if_pos c150] at H
             have c150b0:(a3 == 123)=true:=beq_iff_eq.mpr c150
             have c150b1:(a3 != 123)=false:=bne_eq_false_iff_eq.mpr c150
             clear c150
             (first|rw [c150b0]|(simp only [i64_w,i32_w];rw [c150b0])|skip)
             have H':=Ak H
             clear H
             go_wp2
             go_meet
             case rel=>exact ⟨_,(x9_4),oS,H',⟨by have:=HJ13.out;have:=HJ42.out;have:=HJ45.out;have:=HK4.out;have:=HJ85.out;have:=HJ88.out;have:=HJ98.out;have:=HJ127.out;have:=HJ142.out;first|omega|exact Nat.le_refl _⟩,⟨oR HO_0.out⟩,⟨oR HO_34.out⟩,⟨oL BKz43.out⟩,⟨oP1 GWz43.out⟩,⟨oB1 GEz43.out⟩⟩
            rw [if_neg c150] at H
            have c150b0:(a3 == 123)=false:=beq_eq_false_iff_ne.mpr c150
            have c150b1:(a3 != 123)=true:=bne_iff_ne.mpr c150
            (first|rw [c150b0]|(simp only [i64_w,i32_w];rw [c150b0])|skip)
            have H':=Ak H
            clear H
            go_wp2
            go_meet
            case rel=>exact ⟨_,(false),oS,H',⟨by have:=HJ13.out;have:=HJ42.out;have:=HJ45.out;have:=HK4.out;have:=HJ85.out;have:=HJ88.out;have:=HJ98.out;have:=HJ127.out;have:=HJ142.out;first|omega|exact Nat.le_refl _⟩,⟨oR HO_0.out⟩,⟨oR HO_34.out⟩,⟨oL BKz43.out⟩,⟨oP1 GWz43.out⟩,⟨oB1 GEz43.out⟩⟩
           case rest=>as_aux_lemma =>
           clear HC148
           obtain ⟨kq,x287_147,rfl,HA,HJ147,HO_0,HO_34,BKz43,HK,HB⟩:=hcut
           cases kq with
           | zero=>exact absurd HA.out (by simp [pretty_appendPrettyObject.j14])
           | succ kj147 =>
            have H:=HA.out
            clear HA
            simp only [pretty_appendPrettyObject.j14] at H
            by_cases c151:x287_147=true
            rotate_left
            ·
             replace c151:=Bool.eq_false_iff.mpr c151
             subst c151
             have H1:(pretty_appendPrettyObject.l0 kj147 tz70 l1 (wrap64 ((wrap64 (tz71 - 1))+1)) a3 a4 a5 a6 a7 a8 x9_4 a10 tz72 a12 x34_4 (wrap64 (x35_4+1)))=some (r1,r2,r3,r4):=by rw [if_neg (show ¬ (false=true) by decide)] at H;exact H
             clear H
             have H:=H1
             clear H1
             have H':=Ak H
             clear H
             go_wp2
             go_roundg kj147
             case measure=>have:=HJ13.out;have:=HJ42.out;have:=HJ45.out;have:=HK4.out;have:=HJ85.out;have:=HJ88.out;have:=HJ98.out;have:=HJ127.out;have:=HJ142.out;have:=HJ147.out;omega
             case rel=>exact ⟨(tz70),(wrap64 ((wrap64 (tz71 - 1))+1)),(x9_4),(tz72),(x34_4),(wrap64 (x35_4+1)),oS,oS,oS,oS,H',⟨by have:=HJ13.out;have:=HJ42.out;have:=HJ45.out;have:=HK4.out;have:=HJ85.out;have:=HJ88.out;have:=HJ98.out;have:=HJ127.out;have:=HJ142.out;have:=HJ147.out;omega⟩,⟨oR HO_0.out⟩,⟨by (with_reducible repeat (first|apply Kd.R_alloc|apply Kd.R_drewN|apply Kd.R_drew));exact Kd.R_mono HO_34.out (fun _ hk=>hk.1)⟩,⟨oP1 GWz43.out⟩,⟨oB1 GEz43.out⟩⟩
            subst c151
            have H1:(if xz44000_98>xz44001_127 then (pretty_appendPrettyObject.l0 kj147 tz70 l1 (wrap64 ((wrap64 (tz71 - 1))+1)) a3 a4 a5 a6 a7 a8 false a10 tz72 a12 x34_4 (wrap64 (x35_4+1))) else (if xz44002_98>(tz70.length:Int) then (pretty_appendPrettyObject.l0 kj147 tz70 l1 (wrap64 ((wrap64 (tz71 - 1))+1)) a3 a4 a5 a6 a7 a8 false a10 tz72 a12 x34_4 (wrap64 (x35_4+1))) else (if x34_4.length<4398046511104 then (pretty_appendPrettyObject.l0 kj147 tz70 l1 (wrap64 ((wrap64 (tz71 - 1))+1)) a3 a4 a5 a6 a7 a8 x9_4 a10 tz72 a12 (x34_4++[(⟨xz44000_98,xz44001_127,xz44002_98,(tz70.length:Int)⟩:S82)]) (wrap64 (x35_4+1))) else (none))))=some (r1,r2,r3,r4):=by rw [if_pos rfl] at H;exact H
            clear H
            have H:=H1
            clear H1
            by_cases c152:xz44000_98>xz44001_127
            ·
             rw [if_pos c152] at H
             have c152b0:decide (xz44001_127<xz44000_98)=true:=decide_eq_true c152
             clear c152
             have H':=Ak H
             clear H
             obtain ⟨Ao153,co153,eo153⟩:=Kd.R_slice HO_0.out
             subst eo153
             have hcz154_0:wc.cell? ⟨gbz43,0,none⟩=some (.int .i64 xz44000_98):=(blk_cell BKz43.out 0).trans rfl
             have hcz154_1:wc.cell? ⟨gbz43,1,none⟩=some (.int .i64 xz44001_127):=(blk_cell BKz43.out 1).trans rfl
             have hcz154_2:wc.cell? ⟨gbz43,2,none⟩=some (.int .i64 xz44002_98):=(blk_cell BKz43.out 2).trans rfl
             have hcz154_3:wc.cell? ⟨gbz43,3,none⟩=some (.int .i64 0):=(blk_cell BKz43.out 3).trans rfl
             have hfz154_0:=blk_frozen BKz43.out 0
             have hfz154_1:=blk_frozen BKz43.out 1
             have hfz154_2:=blk_frozen BKz43.out 2
             have hfz154_3:=blk_frozen BKz43.out 3
             go_wp2
             go_roundg kj147
             case measure=>have:=HJ13.out;have:=HJ42.out;have:=HJ45.out;have:=HK4.out;have:=HJ85.out;have:=HJ88.out;have:=HJ98.out;have:=HJ127.out;have:=HJ142.out;have:=HJ147.out;omega
             case rel=>exact ⟨(tz70),(wrap64 ((wrap64 (tz71 - 1))+1)),(false),(tz72),(x34_4),(wrap64 (x35_4+1)),oS,oS,oS,oS,H',⟨by have:=HJ13.out;have:=HJ42.out;have:=HJ45.out;have:=HK4.out;have:=HJ85.out;have:=HJ88.out;have:=HJ98.out;have:=HJ127.out;have:=HJ142.out;have:=HJ147.out;omega⟩,⟨by (with_reducible repeat (first|apply Kd.R_alloc|apply Kd.R_drewN|apply Kd.R_drew));exact Kd.R_mono (Kd.R_far (p:=⟨gbz43,3,none⟩) (Kd.R_types HO_0.out BKz43.out (by decide)) (fun _ hk=>hk.2) (.int .i64 (tz70.length:Int))) (fun _ hk=>hk.1)⟩,⟨by (with_reducible repeat (first|apply Kd.R_alloc|apply Kd.R_drewN|apply Kd.R_drew));exact Kd.R_mono (Kd.R_far (p:=⟨gbz43,3,none⟩) (Kd.R_mono HO_34.out (fun k_ hk=>(⟨hk,hk.2⟩:_∧k_≠gbz43))) (fun _ hk=>hk.2) (.int .i64 (tz70.length:Int))) (fun _ hk=>hk.1.1)⟩,⟨oP1 GWz43.out⟩,⟨oB1 GEz43.out⟩⟩
            rw [if_neg c152] at H
            have c152b0:decide (xz44001_127<xz44000_98)=false:=decide_eq_false c152
            clear c152
            by_cases c155:xz44002_98>(tz70.length:Int)
            ·
             rw [if_pos c155] at H
             have c155b0:decide ((tz70.length:Int)<xz44002_98)=true:=decide_eq_true c155
             clear c155
             have H':=Ak H
             clear H
             obtain ⟨Ao156,co156,eo156⟩:=Kd.R_slice HO_0.out
             subst eo156
             have hcz157_0:wc.cell? ⟨gbz43,0,none⟩=some (.int .i64 xz44000_98):=(blk_cell BKz43.out 0).trans rfl
             have hcz157_1:wc.cell? ⟨gbz43,1,none⟩=some (.int .i64 xz44001_127):=(blk_cell BKz43.out 1).trans rfl
             have hcz157_2:wc.cell? ⟨gbz43,2,none⟩=some (.int .i64 xz44002_98):=(blk_cell BKz43.out 2).trans rfl
             have hcz157_3:wc.cell? ⟨gbz43,3,none⟩=some (.int .i64 0):=(blk_cell BKz43.out 3).trans rfl
             have hfz157_0:=blk_frozen BKz43.out 0
             have hfz157_1:=blk_frozen BKz43.out 1
             have hfz157_2:=blk_frozen BKz43.out 2
             have hfz157_3:=blk_frozen BKz43.out 3
             go_wp2
             go_roundg kj147
             case measure=>have:=HJ13.out;have:=HJ42.out;have:=HJ45.out;have:=HK4.out;have:=HJ85.out;have:=HJ88.out;have:=HJ98.out;have:=HJ127.out;have:=HJ142.out;have:=HJ147.out;omega
             case rel=>exact ⟨(tz70),(wrap64 ((wrap64 (tz71 - 1))+1)),(false),(tz72),(x34_4),(wrap64 (x35_4+1)),oS,oS,oS,oS,H',⟨by have:=HJ13.out;have:=HJ42.out;have:=HJ45.out;have:=HK4.out;have:=HJ85.out;have:=HJ88.out;have:=HJ98.out;have:=HJ127.out;have:=HJ142.out;have:=HJ147.out;omega⟩,⟨by (with_reducible repeat (first|apply Kd.R_alloc|apply Kd.R_drewN|apply Kd.R_drew));exact Kd.R_mono (Kd.R_far (p:=⟨gbz43,3,none⟩) (Kd.R_types HO_0.out BKz43.out (by decide)) (fun _ hk=>hk.2) (.int .i64 (tz70.length:Int))) (fun _ hk=>hk.1)⟩,⟨by (with_reducible repeat (first|apply Kd.R_alloc|apply Kd.R_drewN|apply Kd.R_drew));exact Kd.R_mono (Kd.R_far (p:=⟨gbz43,3,none⟩) (Kd.R_mono HO_34.out (fun k_ hk=>(⟨hk,hk.2⟩:_∧k_≠gbz43))) (fun _ hk=>hk.2) (.int .i64 (tz70.length:Int))) (fun _ hk=>hk.1.1)⟩,⟨oP1 GWz43.out⟩,⟨oB1 GEz43.out⟩⟩
            rw [if_neg c155] at H
            have c155b0:decide ((tz70.length:Int)<xz44002_98)=false:=decide_eq_false c155
            clear c155
            by_cases c158:x34_4.length<4398046511104
            ·
             rw [if_pos c158] at H
             have LMc158:=Ak c158
             clear c158
             obtain ⟨yz76,hyz76⟩ : ∃ y_:List (S82),y_=(x34_4++[(⟨xz44000_98,xz44001_127,xz44002_98,(tz70.length:Int)⟩:S82)]):=⟨_,rfl⟩
             replace H:(pretty_appendPrettyObject.l0 kj147 tz70 l1 (wrap64 ((wrap64 (tz71 - 1))+1)) a3 a4 a5 a6 a7 a8 x9_4 a10 tz72 a12 yz76 (wrap64 (x35_4+1)))=some (r1,r2,r3,r4):=by first|(rw [hyz76];with_reducible exact H)|(have H2_:=(Option.bind_some _ _).symm.trans H;rw [hyz76];with_reducible exact H2_)|(have H2_:=(Option.bind_some _ _).symm.trans H;with_reducible exact H2_)|with_reducible exact H|(rw [hyz76];exact H)|exact H
             have Nyz76:=Ak hyz76
             clear hyz76
             have H':=Ak H
             clear H
             obtain ⟨Ao159,co159,eo159⟩:=Kd.R_slice HO_0.out
             subst eo159
             have hcz160_0:wc.cell? ⟨gbz43,0,none⟩=some (.int .i64 xz44000_98):=(blk_cell BKz43.out 0).trans rfl
             have hcz160_1:wc.cell? ⟨gbz43,1,none⟩=some (.int .i64 xz44001_127):=(blk_cell BKz43.out 1).trans rfl
             have hcz160_2:wc.cell? ⟨gbz43,2,none⟩=some (.int .i64 xz44002_98):=(blk_cell BKz43.out 2).trans rfl
             have hcz160_3:wc.cell? ⟨gbz43,3,none⟩=some (.int .i64 0):=(blk_cell BKz43.out 3).trans rfl
             have hfz160_0:=blk_frozen BKz43.out 0
             have hfz160_1:=blk_frozen BKz43.out 1
             have hfz160_2:=blk_frozen BKz43.out 2
             have hfz160_3:=blk_frozen BKz43.out 3
             go_wp2_with (first|((with_reducible refine gate_builtin (b := .append) (xs := #[.tmp 303, .tmp 305]) rfl ?_);(try (refine gate_guard (by rfl) ?_;dsimp only));at_builtin;refine Kd.R_append k82 (w0:=w0) w0.heap.size rfl (.tmp 303) (.tmp 305) 78 82 (.agg #[(.int .i64 0),(.int .i64 0),(.int .i64 0),(.int .i64 0)]) 32 rfl Try.underlying78 info82 rfl (by decide) (by omega) u34 x34_4 (⟨xz44000_98,xz44001_127,xz44002_98,(tz70.length:Int)⟩:S82) [.int .i64 xz44000_98, .int .i64 xz44001_127, .int .i64 xz44002_98, .int .i64 (tz70.length:Int)] (fun k_=>(P0_ k_∨w.heap.size≤k_)∧k_≠gbz43) (fun _=>False) rfl (by first|(go_simp;done)|(go_simp;rfl)) ?aP (fun _ hk=>hk.elim) ?aF ?aO ?aB ?aS ?aL ?_;(case aP=>exact k82_mkM _ _ _ (⟨xz44000_98,xz44001_127,xz44002_98,(tz70.length:Int)⟩:S82));(case aB=>exact (oB1 GEz43.out));(case aF=>exact (fun k_ hk=>⟨(.inr (Nat.le_trans (show Kept w _ (fun k_=>P0_ k_) from oP1 GWz43.out).1 hk)),Kd.freshB (g:=gbz43) (o := .cells #[.int .i64 xz44000_98, .int .i64 xz44001_127, .int .i64 xz44002_98, .int .i64 (tz70.length:Int)] 82 (0,0)) (by (with_reducible repeat (first|refine blk_drewN ?_ _|refine blk_drew ?_|refine blk_alloc ?_ _));refine blk_put (cs := #[.int .i64 xz44000_98, .int .i64 xz44001_127, .int .i64 xz44002_98, .int .i64 0]) ?_ 3 _ rfl;(with_reducible repeat (first|refine blk_drewN ?_ _|refine blk_drew ?_|refine blk_alloc ?_ _));exact BKz43.out) k_ hk⟩));(case aO=>exact (by (with_reducible repeat (first|apply Kd.R_alloc|apply Kd.R_drewN|apply Kd.R_drew));exact Kd.R_mono (Kd.R_far (p:=⟨gbz43,3,none⟩) (Kd.R_mono HO_34.out (fun k_ hk=>(⟨hk,hk.2⟩:_∧k_≠gbz43))) (fun _ hk=>hk.2) (.int .i64 (tz70.length:Int))) (fun _ hk=>⟨hk.1.1,hk.1.2⟩)));(case aS=>exact (below_size (oB1 GEz43.out)));(case aL=>have:=LMc158.out;omega);intro vz77 w161 ho hb hg hat;rw [← Nyz76.out] at ho;have _:=Ak (Kd.R_over' (by (with_reducible repeat (first|apply Kd.R_alloc|apply Kd.R_drewN|apply Kd.R_drew));exact (Kd.R_mono (Kd.R_far (p:=⟨gbz43,3,none⟩) (Kd.R_types HO_0.out BKz43.out (by decide)) (fun _ hk=>hk.2) (.int .i64 (tz70.length:Int))) (fun _ h_=>h_.1))) (Kd.R_typed (by (with_reducible repeat (first|apply Kd.R_alloc|apply Kd.R_drewN|apply Kd.R_drew));exact (Kd.R_mono (Kd.R_far (p:=⟨gbz43,3,none⟩) (Kd.R_mono HO_34.out (fun k_ hk=>(⟨hk,hk.2⟩:_∧k_≠gbz43))) (fun _ hk=>hk.2) (.int .i64 (tz70.length:Int))) (fun _ h_=>h_.1)))) (by decide) hg);have _:=Ak (blk_grown (g:=gbz43) (o := .cells #[.int .i64 xz44000_98, .int .i64 xz44001_127, .int .i64 xz44002_98, .int .i64 (tz70.length:Int)] 82 (0,0)) (by (with_reducible repeat (first|refine blk_drewN ?_ _|refine blk_drew ?_|refine blk_alloc ?_ _));refine blk_put (cs := #[.int .i64 xz44000_98, .int .i64 xz44001_127, .int .i64 xz44002_98, .int .i64 0]) ?_ 3 _ rfl;(with_reducible repeat (first|refine blk_drewN ?_ _|refine blk_drew ?_|refine blk_alloc ?_ _));exact BKz43.out) hg (Kd.R_away HO_34.out (fun _ hk=>hk.2)));have _:=Ak (hb);have _:=Ak (Kept.of_grown (S:=(fun k_=>P0_ k_)) hg (oP1 GWz43.out) (fun k_ e_=>(HO_34.out.1 k_ e_).1));have _:=Ak (ho);clear HO_0 BKz43 HB HK HO_34;rename_i HO_0 BKz43 HB HK HOz78;clear ho hb hg hat))
             go_roundg kj147
             case measure=>have:=HJ13.out;have:=HJ42.out;have:=HJ45.out;have:=HK4.out;have:=HJ85.out;have:=HJ88.out;have:=HJ98.out;have:=HJ127.out;have:=HJ142.out;have:=HJ147.out;omega
             case rel=>exact ⟨(tz70),(wrap64 ((wrap64 (tz71 - 1))+1)),(x9_4),(tz72),(yz76),(wrap64 (x35_4+1)),oS,oS,oS,oS,H',⟨by have:=HJ13.out;have:=HJ42.out;have:=HJ45.out;have:=HK4.out;have:=HJ85.out;have:=HJ88.out;have:=HJ98.out;have:=HJ127.out;have:=HJ142.out;have:=HJ147.out;omega⟩,⟨oR HO_0.out⟩,⟨by (with_reducible repeat (first|apply Kd.R_alloc|apply Kd.R_drewN|apply Kd.R_drew));exact Kd.R_mono HOz78.out (fun _ hk=>hk.1)⟩,⟨oP1 GWz43.out⟩,⟨oB1 GEz43.out⟩⟩
            rw [if_neg c158] at H
            exact absurd H (by simp)
     rw [if_neg c52] at H
     exact absurd H (by simp)
end Go.Proofs.Ytbkgoccnegjdhaa.Q

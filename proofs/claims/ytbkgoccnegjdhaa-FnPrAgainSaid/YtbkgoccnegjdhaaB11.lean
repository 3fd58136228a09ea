/- Functions of the program as Lean functions, each with a proof that the call comes to what it gives. Written by prx.py (wip/pr). -/
import Derived.Test.YtbkgoccnegjdhaaB0
import Derived.Test.YtbkgoccnegjdhaaB5
import Derived.Test.YtbkgoccnegjdhaaB8
import Derived.Test.YtbkgoccnegjdhaaB9
namespace Go.Proofs.Ytbkgoccnegjdhaa.Q
open Go.RowKit Go.Proofs.YtbkgoccnegjdhaaW.PrintWords Go.Proofs.YtbkgoccnegjdhaaW.PrintLast Go.Proofs.YtbkgoccnegjdhaaW.PrintMore
attribute [local go_sem] max2_int min2_int max_two min_two max_three min_three max_four min_four   -- for this text's walks alone
set_option linter.unusedVariables false
set_option linter.unusedSimpArgs false
set_option maxHeartbeats 8000000 in
set_option maxRecDepth 100000 in
theorem pO.step (k:Nat) (ih_21 : ∀ m_:Nat,m_<k→(∀ (P0_:Nat→Prop) (u9000_:Value) (l0:List Int) (A1:Option Addr) (c1:Nat) (l1:List Int) (a2:Int) (a3:Bool) (a4:Int) (a5:ByteArray) (a6:ByteArray) (a7:Bool) (a8:Int) (a9:Int) (a10:Int) (r1:List Int) (r2:Int) (r3:Int) (r4:Bool) (w0 w:World) (hB:Below w0.heap.size w0 w) (ho0:Kd.R (Kd.int .u8) 5 w w0.heap.size P0_ u9000_ l0) (hr1 : ∀ W_,Kept w W_ (fun k_=>P0_ k_)→Kd.C (Kd.int .u8) W_ A1 l1.length l1) (hc1:l1.length≤c1) (h:pA.f m_ l0 l1 a2 a3 a4 a5 a6 a7 a8 a9 a10=some (r1,r2,r3,r4)),
 Calls Try.prog 21 #[u9000_, .slice A1 l1.length c1, .int .i64 a2, .bool a3, .int .i64 a4, .string a5, .string a6, .bool a7, .int .i64 a8, .int .i64 a9, .int .i64 a10] w fun e w' => ∃ v0_:Value,e = .returned (.tuple #[v0_, .int .i64 r2, .int .i64 r3, .bool r4])∧Kd.R (Kd.int .u8) 5 w' w0.heap.size (fun k_=>(P0_ k_∨w.heap.size≤k_)) v0_ r1∧Below w0.heap.size w0 w'∧Kept w w' (fun k_=>P0_ k_))) (ih_41 : ∀ m_:Nat,m_<k→(∀ (P0_:Nat→Prop) (u9000_:Value) (l0:List Int) (A1:Option Addr) (c1:Nat) (l1:List Int) (a2:Int) (a3:Int) (a4:Int) (a5:Bool) (a6:Int) (a7:ByteArray) (a8:ByteArray) (a9:Bool) (a10:Int) (a11:Int) (a12:Int) (r1:List Int) (r2:Int) (r3:Int) (r4:Bool) (w0 w:World) (hB:Below w0.heap.size w0 w) (ho0:Kd.R (Kd.int .u8) 5 w w0.heap.size P0_ u9000_ l0) (hr1 : ∀ W_,Kept w W_ (fun k_=>P0_ k_)→Kd.C (Kd.int .u8) W_ A1 l1.length l1) (hc1:l1.length≤c1) (h:pO.f m_ l0 l1 a2 a3 a4 a5 a6 a7 a8 a9 a10 a11 a12=some (r1,r2,r3,r4)),
 Calls Try.prog 41 #[u9000_, .slice A1 l1.length c1, .int .i64 a2, .int .u8 a3, .int .u8 a4, .bool a5, .int .i64 a6, .string a7, .string a8, .bool a9, .int .i64 a10, .int .i64 a11, .int .i64 a12] w fun e w' => ∃ v0_:Value,e = .returned (.tuple #[v0_, .int .i64 r2, .int .i64 r3, .bool r4])∧Kd.R (Kd.int .u8) 5 w' w0.heap.size (fun k_=>(P0_ k_∨w.heap.size≤k_)) v0_ r1∧Below w0.heap.size w0 w'∧Kept w w' (fun k_=>P0_ k_))) : ∀ (P0_:Nat→Prop) (u9000_:Value) (l0:List Int) (A1:Option Addr) (c1:Nat) (l1:List Int) (a2:Int) (a3:Int) (a4:Int) (a5:Bool) (a6:Int) (a7:ByteArray) (a8:ByteArray) (a9:Bool) (a10:Int) (a11:Int) (a12:Int) (r1:List Int) (r2:Int) (r3:Int) (r4:Bool) (w0 w:World) (hB:Below w0.heap.size w0 w) (ho0:Kd.R (Kd.int .u8) 5 w w0.heap.size P0_ u9000_ l0) (hr1 : ∀ W_,Kept w W_ (fun k_=>P0_ k_)→Kd.C (Kd.int .u8) W_ A1 l1.length l1) (hc1:l1.length≤c1) (h:pO.f k l0 l1 a2 a3 a4 a5 a6 a7 a8 a9 a10 a11 a12=some (r1,r2,r3,r4)),
 Calls Try.prog 41 #[u9000_, .slice A1 l1.length c1, .int .i64 a2, .int .u8 a3, .int .u8 a4, .bool a5, .int .i64 a6, .string a7, .string a8, .bool a9, .int .i64 a10, .int .i64 a11, .int .i64 a12] w fun e w' => ∃ v0_:Value,e = .returned (.tuple #[v0_, .int .i64 r2, .int .i64 r3, .bool r4])∧Kd.R (Kd.int .u8) 5 w' w0.heap.size (fun k_=>(P0_ k_∨w.heap.size≤k_)) v0_ r1∧Below w0.heap.size w0 w'∧Kept w w' (fun k_=>P0_ k_):=by
 intro P0_ u9000_ l0 A1 c1 l1 a2 a3 a4 a5 a6 a7 a8 a9 a10 a11 a12 r1 r2 r3 r4 w0 w hB ho0 hr1 hc1 h
 cases k with
 | zero=>exact absurd h (by simp [pO.f])
 | succ k =>
 simp only [pO.f] at h
 have hu82:=Try.underlying82
 have HO0:=Ak (show Kd.R (Kd.int .u8) 5 w w0.heap.size (fun k_=>(P0_ k_∨w.heap.size≤k_)) u9000_ l0 from Kd.R_mono ho0 (fun k_ hk=>(.inl hk)))
 have HR1:=Ak hr1
 have HC1:=Ak hc1
 clear hr1 hc1
 have HK:=Ak (Kept.refl w (fun k_=>P0_ k_))
 have HW0:=Ak hB.size
 have HB:=Ak hB
 clear hB
 have H:(if a6>0 then (if a5=true then (if a3=91 then (pO.j0 k l0 l1 a2 a3 a4 a5 a6 a7 a8 a9 a10 a11 a12 (a12 == (-1))) else (pO.j0 k l0 l1 a2 a3 a4 a5 a6 a7 a8 a9 a10 a11 a12 false)) else (pO.j0 k l0 l1 a2 a3 a4 a5 a6 a7 a8 a9 a10 a11 a12 false)) else (pO.j1 k l0 l1 a2 a3 a4 a5 a6 a7 a8 a9 a10 a11 a12))=some (r1,r2,r3,r4):=h
 clear h
 have HC14:=Ak H
 clear H
 go_enter Try.func41,Try.ntmps41
 go_upto_if 38 with (fail)
 go_cut [0,2] from 37 to 38 (fun v0 v2 wc => ∃ (kq:Nat) (x0_13:List Int) (x2_13:Int),v2 = .int .i64 x2_13∧Aside0 (pO.j1 kq x0_13 l1 x2_13 a3 a4 a5 a6 a7 a8 a9 a10 a11 a12=some (r1,r2,r3,r4))∧Aside0 (kq≤k)∧Aside0 (Kd.R (Kd.int .u8) 5 wc w0.heap.size (fun k_=>(P0_ k_∨w.heap.size≤k_)) v0 x0_13)∧Aside0 (Kept w wc (fun k_=>P0_ k_))∧Aside0 (Below w0.heap.size w0 wc))
 case first =>
  have H:=HC14.out
  clear HC14
  by_cases c15:a6>0
  rotate_left
  ·
   rw [if_neg c15] at H
   have c15b0:decide (0<a6)=false:=decide_eq_false c15
   clear c15
   (first|rw [c15b0]|(simp only [i64_w,i32_w];rw [c15b0])|skip)
   have H':=Ak H
   clear H
   go_wp2
   go_meet
   case rel=>exact ⟨_,(l0),(a2),oS,H',⟨by first|omega|exact Nat.le_refl _⟩,⟨oR HO0.out⟩,⟨oP⟩,⟨oB⟩⟩
  rw [if_pos c15] at H
  have c15b0:decide (0<a6)=true:=decide_eq_true c15
  clear c15
  (first|rw [c15b0]|(simp only [i64_w,i32_w];rw [c15b0])|skip)
  have HC16:=Ak H
  clear H
  go_upto_region 3 with (fail)
  go_cut [47] from 37 to 47 (fun v47 wc => ∃ (kq:Nat) (x47_15:Bool),v47 = .bool x47_15∧Aside0 (pO.j0 kq l0 l1 a2 a3 a4 a5 a6 a7 a8 a9 a10 a11 a12 x47_15=some (r1,r2,r3,r4))∧Aside0 (kq≤k)∧Aside0 (Kd.R (Kd.int .u8) 5 wc w0.heap.size (fun k_=>(P0_ k_∨w.heap.size≤k_)) u9000_ l0)∧Aside0 (Kept w wc (fun k_=>P0_ k_))∧Aside0 (Below w0.heap.size w0 wc))
  case first =>
   have H:=HC16.out
   clear HC16
   by_cases c17:a5=true
   rotate_left
   ·
    replace c17:=Bool.eq_false_iff.mpr c17
    subst c17
    have H1:(pO.j0 k l0 l1 a2 a3 a4 false a6 a7 a8 a9 a10 a11 a12 false)=some (r1,r2,r3,r4):=by rw [if_neg (show ¬ (false=true) by decide)] at H;exact H
    clear H
    have H:=H1
    clear H1
    have H':=Ak H
    clear H
    go_wp2
    go_meet
    case rel=>exact ⟨_,(false),oS,H',⟨by first|omega|exact Nat.le_refl _⟩,⟨oR HO0.out⟩,⟨oP⟩,⟨oB⟩⟩
   subst c17
   have H1:(if a3=91 then (pO.j0 k l0 l1 a2 a3 a4 true a6 a7 a8 a9 a10 a11 a12 (a12 == (-1))) else (pO.j0 k l0 l1 a2 a3 a4 true a6 a7 a8 a9 a10 a11 a12 false))=some (r1,r2,r3,r4):=by rw [if_pos rfl] at H;exact H
   clear H
   have H:=H1
   clear H1
   by_cases c18:a3=91
   ·
    rw [if_pos c18] at H
    have c18b0:(a3 == 91)=true:=beq_iff_eq.mpr c18
    have c18b1:(a3 != 91)=false:=bne_eq_false_iff_eq.mpr c18
    clear c18
    (first|rw [c18b0]|(simp only [i64_w,i32_w];rw [c18b0])|skip)
    have H':=Ak H
    clear H
    go_wp2
    go_meet
    case rel=>exact ⟨_,((a12 == (-1))),oS,H',⟨by first|omega|exact Nat.le_refl _⟩,⟨oR HO0.out⟩,⟨oP⟩,⟨oB⟩⟩
   rw [if_neg c18] at H
   have c18b0:(a3 == 91)=false:=beq_eq_false_iff_ne.mpr c18
   have c18b1:(a3 != 91)=true:=bne_iff_ne.mpr c18
   (first|rw [c18b0]|(simp only [i64_w,i32_w];rw [c18b0])|skip)
   have H':=Ak H
   clear H
   go_wp2
   go_meet
   case rel=>exact ⟨_,(false),oS,H',⟨by first|omega|exact Nat.le_refl _⟩,⟨oR HO0.out⟩,⟨oP⟩,⟨oB⟩⟩
  case rest=>as_aux_lemma =>
  clear HC16
  clear c15b0
  obtain ⟨kq,x47_15,rfl,HA,HJ15,HO_0,HK,HB⟩:=hcut
  cases kq with
  | zero=>exact absurd HA.out (by simp [pO.j0])
  | succ kj15 =>
   have H:=HA.out
   clear HA
   simp only [pO.j0] at H
   by_cases c19:x47_15=true
   rotate_left
   ·
    replace c19:=Bool.eq_false_iff.mpr c19
    subst c19
    have H1:(if a12=(-1) then (pO.j1 kj15 l0 l1 a2 a3 a4 a5 a6 a7 a8 a9 a10 a11 a12) else (if a3=123 then (some (l0,a2,a11,false)) else (pO.j1 kj15 l0 l1 a2 a3 a4 a5 a6 a7 a8 a9 a10 a11 a12)))=some (r1,r2,r3,r4):=by rw [if_neg (show ¬ (false=true) by decide)] at H;exact H
    clear H
    have H:=H1
    clear H1
    by_cases c40:a12=(-1)
    ·
     rw [if_pos c40] at H
     have c40b0:(a12 == (-1))=true:=beq_iff_eq.mpr c40
     have c40b1:(a12 != (-1))=false:=bne_eq_false_iff_eq.mpr c40
     clear c40
     have H':=Ak H
     clear H
     go_wp2
     go_meet
     case rel=>exact ⟨_,(l0),(a2),oS,H',⟨by have:=HJ15.out;first|omega|exact Nat.le_refl _⟩,⟨oR HO_0.out⟩,⟨oP⟩,⟨oB⟩⟩
    rw [if_neg c40] at H
    have c40b0:(a12 == (-1))=false:=beq_eq_false_iff_ne.mpr c40
    have c40b1:(a12 != (-1))=true:=bne_iff_ne.mpr c40
    by_cases c41:a3=123
    ·
     rw [if_pos c41] at H
     have c41b0:(a3 == 123)=true:=beq_iff_eq.mpr c41
     have c41b1:(a3 != 123)=false:=bne_eq_false_iff_eq.mpr c41
     clear c41
     simp only [Option.some.injEq,Prod.mk.injEq] at H
     obtain ⟨rfl,rfl,rfl,rfl⟩:=H
     go_wp2
     refine bodyPost_ret (results_list (rs:=[.tmp 26, .tmp 27, .tmp 28, .tmp 29]) rfl (by simp) (.tmp (.tmp (.tmp (.tmp .nil))))) rfl ?_
     exact ⟨_,oE,oR HO_0.out,oB,oP⟩
    rw [if_neg c41] at H
    have c41b0:(a3 == 123)=false:=beq_eq_false_iff_ne.mpr c41
    have c41b1:(a3 != 123)=true:=bne_iff_ne.mpr c41
    have H':=Ak H
    clear H
    go_wp2
    go_meet
    case rel=>exact ⟨_,(l0),(a2),oS,H',⟨by have:=HJ15.out;first|omega|exact Nat.le_refl _⟩,⟨oR HO_0.out⟩,⟨oP⟩,⟨oB⟩⟩
   subst c19
   have H1:(if (wrap64 (a6 - (wrap64 ((l0.length:Int) - a11))))>3 then ((pO.f kj15 l0 l1 a2 91 93 false a6 a7 (⟨#[]⟩:ByteArray) a9 0 0 (wrap64 (a6 - (wrap64 ((l0.length:Int) - a11))))).bind fun btz0=>(if btz0.2.2.2=true then (if (wrap64 ((btz0.1.length:Int) - (l0.length:Int)))≤(wrap64 (a6 - (wrap64 ((l0.length:Int) - a11)))) then (some (btz0.1,btz0.2.1,a11,true)) else (if 0≤(l0.length:Int) then (if (l0.length:Int)≤(btz0.1.length:Int) then (pO.j1 kj15 (btz0.1.take ((l0.length:Int):Int).toNat) l1 a2 a3 a4 a5 a6 a7 a8 a9 a10 a11 a12) else (none)) else (none))) else (if 0≤(l0.length:Int) then (if (l0.length:Int)≤(btz0.1.length:Int) then (pO.j1 kj15 (btz0.1.take ((l0.length:Int):Int).toNat) l1 a2 a3 a4 a5 a6 a7 a8 a9 a10 a11 a12) else (none)) else (none)))) else (pO.j1 kj15 l0 l1 a2 a3 a4 a5 a6 a7 a8 a9 a10 a11 a12))=some (r1,r2,r3,r4):=by rw [if_pos rfl] at H;exact H
   clear H
   have H:=H1
   clear H1
   by_cases c20:(wrap64 (a6 - (wrap64 ((l0.length:Int) - a11))))>3
   ·
    rw [if_pos c20] at H
    have c20b0:decide (3<(wrap64 (a6 - (wrap64 ((l0.length:Int) - a11)))))=true:=decide_eq_true c20
    clear c20
    replace H:=Option.bind_eq_some_iff.mp H
    obtain ⟨⟨tz0,tz1,tz2,tz3⟩,A210,H⟩:=H
    replace H:(if tz3=true then (if (wrap64 ((tz0.length:Int) - (l0.length:Int)))≤(wrap64 (a6 - (wrap64 ((l0.length:Int) - a11)))) then (some (tz0,tz1,a11,true)) else (if 0≤(l0.length:Int) then (if (l0.length:Int)≤(tz0.length:Int) then (pO.j1 kj15 (tz0.take ((l0.length:Int):Int).toNat) l1 a2 a3 a4 a5 a6 a7 a8 a9 a10 a11 a12) else (none)) else (none))) else (if 0≤(l0.length:Int) then (if (l0.length:Int)≤(tz0.length:Int) then (pO.j1 kj15 (tz0.take ((l0.length:Int):Int).toNat) l1 a2 a3 a4 a5 a6 a7 a8 a9 a10 a11 a12) else (none)) else (none)))=some (r1,r2,r3,r4):=H
    have A21:=Ak A210
    clear A210
    by_cases c22:tz3=true
    rotate_left
    ·
     replace c22:=Bool.eq_false_iff.mpr c22
     subst c22
     have H1:(if 0≤(l0.length:Int) then (if (l0.length:Int)≤(tz0.length:Int) then (pO.j1 kj15 (tz0.take ((l0.length:Int):Int).toNat) l1 a2 a3 a4 a5 a6 a7 a8 a9 a10 a11 a12) else (none)) else (none))=some (r1,r2,r3,r4):=by rw [if_neg (show ¬ (false=true) by decide)] at H;exact H
     clear H
     have H:=H1
     clear H1
     by_cases c33:0≤(l0.length:Int)
     rotate_left
     ·
      rw [if_neg c33] at H
      exact absurd H (by simp)
     rw [if_pos c33] at H
     have c33b0:=eq_true c33
     have c33b1:decide (0≤(l0.length:Int))=true:=decide_eq_true c33
     clear c33
     by_cases c34:(l0.length:Int)≤(tz0.length:Int)
     ·
      rw [if_pos c34] at H
      have c34b0:=eq_true c34
      have c34b1:decide ((l0.length:Int)≤(tz0.length:Int))=true:=decide_eq_true c34
      clear c34
      obtain ⟨yz8,hyz8⟩ : ∃ y_:List Int,y_=(tz0.take ((l0.length:Int):Int).toNat):=⟨_,rfl⟩
      replace H:(pO.j1 kj15 yz8 l1 a2 a3 a4 a5 a6 a7 a8 a9 a10 a11 a12)=some (r1,r2,r3,r4):=by first|(rw [hyz8];with_reducible exact H)|(have H2_:=(Option.bind_some _ _).symm.trans H;rw [hyz8];with_reducible exact H2_)|(have H2_:=(Option.bind_some _ _).symm.trans H;with_reducible exact H2_)|with_reducible exact H|(rw [hyz8];exact H)|exact H
      have Nyz8:=Ak hyz8
      clear hyz8
      have H':=Ak H
      clear H
      obtain ⟨Ao35,co35,eo35⟩:=Kd.R_slice HO_0.out
      subst eo35
      go_wp2_with (first|((with_reducible refine gate_callee (f:=41) rfl ?_);refine goesL_ (some 67) rfl rfl Try.func41 (by kernel_rfl) rfl #[.slice Ao35 l0.length co35, .slice A1 l1.length c1, .int .i64 a2, .int .u8 91, .int .u8 93, .bool false, .int .i64 a6, .string a7, .string (⟨#[]⟩:ByteArray), .bool a9, .int .i64 0, .int .i64 0, .int .i64 (wrap64 (a6 - (wrap64 ((l0.length:Int) - a11))))] rfl oM ?_;(with_reducible refine (ih_41 kj15 (by have:=HJ15.out;omega) (fun k_=>some k_=(.slice Ao35 l0.length co35:Value).ownBlock) (.slice Ao35 l0.length co35) l0 _ _ l1 a2 91 93 false a6 a7 (⟨#[]⟩:ByteArray) a9 0 0 (wrap64 (a6 - (wrap64 ((l0.length:Int) - a11)))) tz0 tz1 tz2 false w0 _ ?side1 ?side2 ?side3 ?side4 A21.out).mono ?_);(case side1=>exact oB);(case side2=>exact Kd.R_tight rfl HO_0.out);(case side3=>exact Kd.C_kept_call HR1.out oP (fun k_ hs_=>(fun e_=>(HO_0.out.1 k_ e_.symm)) hs_));(case side4=>exact HC1.out);rintro e w36 ⟨vz4,rfl,ho0,hb,hkp⟩;refine ⟨_,rfl,?_⟩;have _:=Ak (Kd.R_mono (ok':=fun k_=>(P0_ k_∨w.heap.size≤k_)) ho0 (fun k_ hk_=>Or.elim hk_ (fun hs_=>(HO_0.out.1 k_ (hs_).symm)) (fun hn_=>(.inr (Nat.le_trans (by first|exact HK.out.1|exact (show Kept w _ (fun k_=>P0_ k_) from oP).1) hn_)))));have _:=Ak (Kept.then_ (S:=(fun k_=>P0_ k_)) oP hkp (fun k_ hs_=>(fun e_=>(HO_0.out.1 k_ e_.symm)) hs_));have _:=Ak (hb);clear HK HB HO_0;rename_i HOz5 HK HB;(try clear hb);(try clear hkp);(try clear ho0);obtain ⟨Ao37,co37,eo37⟩:=Kd.R_slice HOz5.out;subst eo37;have q38:((l0.length:Int):Int)≤((tz0.length:Int):Int):=of_decide_eq_true oA;obtain ⟨i038,hi038,_,hsz38,_⟩:=info_parts info5;have hcut38:=cut_to (P:=Try.prog) 44 5 .i64 Try.underlying44 hi038 Ao37 tz0.length co37 (l0.length:Int) (of_decide_eq_true oA) q38 (Kd.R_reads' HOz5.out).2.1;have hr38:=Kd.R_take (m:=((l0.length:Int):Int).toNat) HOz5.out (by omega);have hy38:yz8.length=((l0.length:Int):Int).toNat:=(by rw [Nyz8.out,List.length_take];omega);rw [← Nyz8.out] at hr38;rw [← hy38] at hr38 hcut38;clear hy38 hi038 hsz38 HOz5;have HOz9:=Ak hr38;clear hr38;replace q38:=eq_true q38))
      go_meet
      case rel=>exact ⟨_,(yz8),(a2),oS,H',⟨by have:=HJ15.out;first|omega|exact Nat.le_refl _⟩,⟨oR HOz9.out⟩,⟨oP⟩,⟨oB⟩⟩
     rw [if_neg c34] at H
     exact absurd H (by simp)
    subst c22
    have H1:(if (wrap64 ((tz0.length:Int) - (l0.length:Int)))≤(wrap64 (a6 - (wrap64 ((l0.length:Int) - a11)))) then (some (tz0,tz1,a11,true)) else (if 0≤(l0.length:Int) then (if (l0.length:Int)≤(tz0.length:Int) then (pO.j1 kj15 (tz0.take ((l0.length:Int):Int).toNat) l1 a2 a3 a4 a5 a6 a7 a8 a9 a10 a11 a12) else (none)) else (none)))=some (r1,r2,r3,r4):=by rw [if_pos rfl] at H;exact H
    clear H
    have H:=H1
    clear H1
    by_cases c23:(wrap64 ((tz0.length:Int) - (l0.length:Int)))≤(wrap64 (a6 - (wrap64 ((l0.length:Int) - a11))))
    ·
     rw [if_pos c23] at H
     have c23b0:decide ((wrap64 ((tz0.length:Int) - (l0.length:Int)))≤(wrap64 (a6 - (wrap64 ((l0.length:Int) - a11)))))=true:=decide_eq_true c23
     clear c23
     simp only [Option.some.injEq,Prod.mk.injEq] at H
     obtain ⟨rfl,rfl,rfl,rfl⟩:=H
     obtain ⟨Ao24,co24,eo24⟩:=Kd.R_slice HO_0.out
     subst eo24
     go_wp2_with (first|((with_reducible refine gate_callee (f:=41) rfl ?_);refine goesL_ (some 67) rfl rfl Try.func41 (by kernel_rfl) rfl #[.slice Ao24 l0.length co24, .slice A1 l1.length c1, .int .i64 a2, .int .u8 91, .int .u8 93, .bool false, .int .i64 a6, .string a7, .string (⟨#[]⟩:ByteArray), .bool a9, .int .i64 0, .int .i64 0, .int .i64 (wrap64 (a6 - (wrap64 ((l0.length:Int) - a11))))] rfl oM ?_;(with_reducible refine (ih_41 kj15 (by have:=HJ15.out;omega) (fun k_=>some k_=(.slice Ao24 l0.length co24:Value).ownBlock) (.slice Ao24 l0.length co24) l0 _ _ l1 a2 91 93 false a6 a7 (⟨#[]⟩:ByteArray) a9 0 0 (wrap64 (a6 - (wrap64 ((l0.length:Int) - a11)))) tz0 tz1 tz2 true w0 _ ?side1 ?side2 ?side3 ?side4 A21.out).mono ?_);(case side1=>exact oB);(case side2=>exact Kd.R_tight rfl HO_0.out);(case side3=>exact Kd.C_kept_call HR1.out oP (fun k_ hs_=>(fun e_=>(HO_0.out.1 k_ e_.symm)) hs_));(case side4=>exact HC1.out);rintro e w25 ⟨vz4,rfl,ho0,hb,hkp⟩;refine ⟨_,rfl,?_⟩;have _:=Ak (Kd.R_mono (ok':=fun k_=>(P0_ k_∨w.heap.size≤k_)) ho0 (fun k_ hk_=>Or.elim hk_ (fun hs_=>(HO_0.out.1 k_ (hs_).symm)) (fun hn_=>(.inr (Nat.le_trans (by first|exact HK.out.1|exact (show Kept w _ (fun k_=>P0_ k_) from oP).1) hn_)))));have _:=Ak (Kept.then_ (S:=(fun k_=>P0_ k_)) oP hkp (fun k_ hs_=>(fun e_=>(HO_0.out.1 k_ e_.symm)) hs_));have _:=Ak (hb);clear HK HB HO_0;rename_i HOz5 HK HB;(try clear hb);(try clear hkp);(try clear ho0);obtain ⟨Ao26,co26,eo26⟩:=Kd.R_slice HOz5.out;subst eo26))
     refine bodyPost_ret (results_list (rs:=[.tmp 26, .tmp 27, .tmp 28, .tmp 29]) rfl (by simp) (.tmp (.tmp (.tmp (.tmp .nil))))) rfl ?_
     exact ⟨_,oE,oR HOz5.out,oB,oP⟩
    rw [if_neg c23] at H
    have c23b0:decide ((wrap64 ((tz0.length:Int) - (l0.length:Int)))≤(wrap64 (a6 - (wrap64 ((l0.length:Int) - a11)))))=false:=decide_eq_false c23
    clear c23
    by_cases c27:0≤(l0.length:Int)
    ·
     rw [if_pos c27] at H
     have c27b0:=eq_true c27
     have c27b1:decide (0≤(l0.length:Int))=true:=decide_eq_true c27
     clear c27
     by_cases c28:(l0.length:Int)≤(tz0.length:Int)
     rotate_left
     ·
      rw [if_neg c28] at H
      exact absurd H (by simp)
     rw [if_pos c28] at H
     have c28b0:=eq_true c28
     have c28b1:decide ((l0.length:Int)≤(tz0.length:Int))=true:=decide_eq_true c28
     clear c28
     obtain ⟨yz6,hyz6⟩ : ∃ y_:List Int,y_=(tz0.take ((l0.length:Int):Int).toNat):=⟨_,rfl⟩
     replace H:(pO.j1 kj15 yz6 l1 a2 a3 a4 a5 a6 a7 a8 a9 a10 a11 a12)=some (r1,r2,r3,r4):=by first|(rw [hyz6];with_reducible exact H)|(have H2_:=(Option.bind_some _ _).symm.trans H;rw [hyz6];with_reducible exact H2_)|(have H2_:=(Option.bind_some _ _).symm.trans H;with_reducible exact H2_)|with_reducible exact H|(rw [hyz6];exact H)|exact H
     have Nyz6:=Ak hyz6
     clear hyz6
     have H':=Ak H
     clear H
     obtain ⟨Ao29,co29,eo29⟩:=Kd.R_slice HO_0.out
     subst eo29
     go_wp2_with (first|((with_reducible refine gate_callee (f:=41) rfl ?_);refine goesL_ (some 67) rfl rfl Try.func41 (by kernel_rfl) rfl #[.slice Ao29 l0.length co29, .slice A1 l1.length c1, .int .i64 a2, .int .u8 91, .int .u8 93, .bool false, .int .i64 a6, .string a7, .string (⟨#[]⟩:ByteArray), .bool a9, .int .i64 0, .int .i64 0, .int .i64 (wrap64 (a6 - (wrap64 ((l0.length:Int) - a11))))] rfl oM ?_;(with_reducible refine (ih_41 kj15 (by have:=HJ15.out;omega) (fun k_=>some k_=(.slice Ao29 l0.length co29:Value).ownBlock) (.slice Ao29 l0.length co29) l0 _ _ l1 a2 91 93 false a6 a7 (⟨#[]⟩:ByteArray) a9 0 0 (wrap64 (a6 - (wrap64 ((l0.length:Int) - a11)))) tz0 tz1 tz2 true w0 _ ?side1 ?side2 ?side3 ?side4 A21.out).mono ?_);(case side1=>exact oB);(case side2=>exact Kd.R_tight rfl HO_0.out);(case side3=>exact Kd.C_kept_call HR1.out oP (fun k_ hs_=>(fun e_=>(HO_0.out.1 k_ e_.symm)) hs_));(case side4=>exact HC1.out);rintro e w30 ⟨vz4,rfl,ho0,hb,hkp⟩;refine ⟨_,rfl,?_⟩;have _:=Ak (Kd.R_mono (ok':=fun k_=>(P0_ k_∨w.heap.size≤k_)) ho0 (fun k_ hk_=>Or.elim hk_ (fun hs_=>(HO_0.out.1 k_ (hs_).symm)) (fun hn_=>(.inr (Nat.le_trans (by first|exact HK.out.1|exact (show Kept w _ (fun k_=>P0_ k_) from oP).1) hn_)))));have _:=Ak (Kept.then_ (S:=(fun k_=>P0_ k_)) oP hkp (fun k_ hs_=>(fun e_=>(HO_0.out.1 k_ e_.symm)) hs_));have _:=Ak (hb);clear HK HB HO_0;rename_i HOz5 HK HB;(try clear hb);(try clear hkp);(try clear ho0);obtain ⟨Ao31,co31,eo31⟩:=Kd.R_slice HOz5.out;subst eo31;have q32:((l0.length:Int):Int)≤((tz0.length:Int):Int):=of_decide_eq_true oA;obtain ⟨i032,hi032,_,hsz32,_⟩:=info_parts info5;have hcut32:=cut_to (P:=Try.prog) 44 5 .i64 Try.underlying44 hi032 Ao31 tz0.length co31 (l0.length:Int) (of_decide_eq_true oA) q32 (Kd.R_reads' HOz5.out).2.1;have hr32:=Kd.R_take (m:=((l0.length:Int):Int).toNat) HOz5.out (by omega);have hy32:yz6.length=((l0.length:Int):Int).toNat:=(by rw [Nyz6.out,List.length_take];omega);rw [← Nyz6.out] at hr32;rw [← hy32] at hr32 hcut32;clear hy32 hi032 hsz32 HOz5;have HOz7:=Ak hr32;clear hr32;replace q32:=eq_true q32))
     go_meet
     case rel=>exact ⟨_,(yz6),(a2),oS,H',⟨by have:=HJ15.out;first|omega|exact Nat.le_refl _⟩,⟨oR HOz7.out⟩,⟨oP⟩,⟨oB⟩⟩
    rw [if_neg c27] at H
    exact absurd H (by simp)
   rw [if_neg c20] at H
   have c20b0:decide (3<(wrap64 (a6 - (wrap64 ((l0.length:Int) - a11)))))=false:=decide_eq_false c20
   clear c20
   have H':=Ak H
   clear H
   obtain ⟨Ao39,co39,eo39⟩:=Kd.R_slice HO_0.out
   subst eo39
   go_wp2
   go_meet
   case rel=>exact ⟨_,(l0),(a2),oS,H',⟨by have:=HJ15.out;first|omega|exact Nat.le_refl _⟩,⟨oR HO_0.out⟩,⟨oP⟩,⟨oB⟩⟩
 case rest=>as_aux_lemma =>
 clear HC14
 obtain ⟨kq,x0_13,x2_13,rfl,HA,HJ13,HO_0,HK,HB⟩:=hcut
 cases kq with
 | zero=>exact absurd HA.out (by simp [pO.j1])
 | succ kj13 =>
  have H:=HA.out
  clear HA
  simp only [pO.j1] at H
  by_cases c42:x0_13.length<140737488355328
  rotate_left
  ·
   rw [if_neg c42] at H
   exact absurd H (by simp)
  rw [if_pos c42] at H
  have LMc42:=Ak c42
  clear c42
  obtain ⟨yz10,hyz10⟩ : ∃ y_:List Int,y_=(x0_13++[a3]):=⟨_,rfl⟩
  replace H:(if a3=123 then (pO.j2 kj13 yz10 l1 (wrap64 (x2_13+1)) a3 a4 a5 a6 a7 a8 a9 a10 a11 a12 ([]:List (S82)) a9) else (pO.j2 kj13 yz10 l1 (wrap64 (x2_13+1)) a3 a4 a5 a6 a7 a8 a9 a10 a11 a12 ([]:List (S82)) false))=some (r1,r2,r3,r4):=by first|(rw [hyz10];with_reducible exact H)|(have H2_:=(Option.bind_some _ _).symm.trans H;rw [hyz10];with_reducible exact H2_)|(have H2_:=(Option.bind_some _ _).symm.trans H;with_reducible exact H2_)|with_reducible exact H|(rw [hyz10];exact H)|exact H
  have Nyz10:=Ak hyz10
  clear hyz10
  have HC43:=Ak H
  clear H
  go_upto_region 17 with (first|((with_reducible refine gate_builtin (b := .append) (xs := #[.tmp 97, .tmp 99]) rfl ?_);(try (refine gate_guard (by rfl) ?_;dsimp only));at_builtin;refine Kd.R_append (Kd.int .u8) (w0:=w0) w0.heap.size rfl (.tmp 97) (.tmp 99) 44 5 (.int .u8 0) 1 rfl Try.underlying44 info5 rfl (by decide) (by omega) u0 x0_13 a3 [.int .u8 a3] (fun k_=>(P0_ k_∨w.heap.size≤k_)) (fun _=>False) rfl rfl ?aP (fun _ hk=>hk.elim) ?aF ?aO ?aB ?aS ?aL ?_;(case aP=>exact rfl);(case aB=>exact oB);(case aF=>exact (fun k_ hk=>(.inr (Nat.le_trans (by first|exact HK.out.1|exact (show Kept w _ (fun k_=>P0_ k_) from oP).1) hk))));(case aO=>exact (oR HO_0.out));(case aS=>exact (below_size oB));(case aL=>have:=LMc42.out;omega);intro vz11 w44 ho hb hg hat;rw [← Nyz10.out] at ho;have _:=Ak (hb);have _:=Ak (Kept.of_grown (S:=(fun k_=>P0_ k_)) hg oP (fun k_ e_=>(HO_0.out.1 k_ e_)));have _:=Ak (ho);clear HB HK HO_0;rename_i HB HK HOz12;clear ho hb hg hat))
  (try simp only [Act.put,List.setIfInBounds_toArray,List.set_cons_zero,List.set_cons_succ])
  go_cut [107] from 39 to 107 (fun v107 wc => ∃ (kq:Nat) (x107_42:Bool),v107 = .bool x107_42∧Aside0 (pO.j2 kq yz10 l1 (wrap64 (x2_13+1)) a3 a4 a5 a6 a7 a8 a9 a10 a11 a12 ([]:List (S82)) x107_42=some (r1,r2,r3,r4))∧Aside0 (kq≤kj13)∧Aside0 (Kd.R (Kd.int .u8) 5 wc w0.heap.size (fun k_=>(P0_ k_∨w.heap.size≤k_)) vz11 yz10)∧Aside0 (Kd.R k82 82 wc w0.heap.size (fun k_=>(P0_ k_∨w.heap.size≤k_)) (.slice none 0 0) ([]:List (S82)))∧Aside0 (Kept w wc (fun k_=>P0_ k_))∧Aside0 (Below w0.heap.size w0 wc))
  case first =>
   have H:=HC43.out
   clear HC43
   by_cases c45:a3=123
   ·
    rw [if_pos c45] at H
    have c45b0:(a3 == 123)=true:=beq_iff_eq.mpr c45
    have c45b1:(a3 != 123)=false:=bne_eq_false_iff_eq.mpr c45
    clear c45
    (first|rw [c45b0]|(simp only [i64_w,i32_w];rw [c45b0])|skip)
    have H':=Ak H
    clear H
    go_wp2
    go_meet
    case rel=>exact ⟨_,(a9),oS,H',⟨by have:=HJ13.out;first|omega|exact Nat.le_refl _⟩,⟨oR HOz12.out⟩,⟨by first|exact Kd.R_nil _ _ _ _ _|exact Kd.N_nil _ _ _ _ _|exact Kd.V_nil _ _ _ _ _|exact Kd.Q_nil _ _ _ _ _|exact Kd.S_nil _ _ _ _ _⟩,⟨oP⟩,⟨oB⟩⟩
   rw [if_neg c45] at H
   have c45b0:(a3 == 123)=false:=beq_eq_false_iff_ne.mpr c45
   have c45b1:(a3 != 123)=true:=bne_iff_ne.mpr c45
   (first|rw [c45b0]|(simp only [i64_w,i32_w];rw [c45b0])|skip)
   have H':=Ak H
   clear H
   go_wp2
   go_meet
   case rel=>exact ⟨_,(false),oS,H',⟨by have:=HJ13.out;first|omega|exact Nat.le_refl _⟩,⟨oR HOz12.out⟩,⟨by first|exact Kd.R_nil _ _ _ _ _|exact Kd.N_nil _ _ _ _ _|exact Kd.V_nil _ _ _ _ _|exact Kd.Q_nil _ _ _ _ _|exact Kd.S_nil _ _ _ _ _⟩,⟨oP⟩,⟨oB⟩⟩
  case rest=>as_aux_lemma =>
  clear HC43
  obtain ⟨kq,x107_42,rfl,HA,HJ42,HO_0,HO_34,HK,HB⟩:=hcut
  cases kq with
  | zero=>exact absurd HA.out (by simp [pO.j2])
  | succ kj42 =>
   have H:=HA.out
   clear HA
   simp only [pO.j2] at H
   have HC46:=Ak H
   clear H
   go_upto_if 107 with (fail)
   go_cut [34] from 107 to 107 (fun v34 wc => ∃ (kq:Nat) (x34_45:List (S82)),Aside0 (pO.j3 kq yz10 l1 (wrap64 (x2_13+1)) a3 a4 a5 a6 a7 a8 a9 a10 a11 a12 x34_45=some (r1,r2,r3,r4))∧Aside0 (kq≤kj42)∧Aside0 (Kd.R (Kd.int .u8) 5 wc w0.heap.size (fun k_=>(P0_ k_∨w.heap.size≤k_)) vz11 yz10)∧Aside0 (Kd.R k82 82 wc w0.heap.size (fun k_=>(P0_ k_∨w.heap.size≤k_)) v34 x34_45)∧Aside0 (Kept w wc (fun k_=>P0_ k_))∧Aside0 (Below w0.heap.size w0 wc))
   case first =>
    have H:=HC46.out
    clear HC46
    by_cases c47:x107_42=true
    rotate_left
    ·
     replace c47:=Bool.eq_false_iff.mpr c47
     subst c47
     have H1:(pO.j3 kj42 yz10 l1 (wrap64 (x2_13+1)) a3 a4 a5 a6 a7 a8 a9 a10 a11 a12 ([]:List (S82)))=some (r1,r2,r3,r4):=by rw [if_neg (show ¬ (false=true) by decide)] at H;exact H
     clear H
     have H:=H1
     clear H1
     have H':=Ak H
     clear H
     go_wp2
     go_meet
     case rel=>exact ⟨_,(([]:List (S82))),H',⟨by have:=HJ13.out;have:=HJ42.out;first|omega|exact Nat.le_refl _⟩,⟨oR HO_0.out⟩,⟨oR HO_34.out⟩,⟨oP⟩,⟨oB⟩⟩
    subst c47
    have H1:(if 8≤8796093022208 then (pO.j3 kj42 yz10 l1 (wrap64 (x2_13+1)) a3 a4 a5 a6 a7 a8 a9 a10 a11 a12 (([]:List (S82)))) else (none))=some (r1,r2,r3,r4):=by rw [if_pos rfl] at H;exact H
    clear H
    have H:=H1
    clear H1
    by_cases c48:8≤8796093022208
    ·
     rw [if_pos c48] at H
     have c48b0:=eq_true c48
     have c48b1:decide (8≤8796093022208)=true:=decide_eq_true c48
     clear c48
     obtain ⟨yz13,hyz13⟩ : ∃ y_:List (S82),y_=(([]:List (S82))):=⟨_,rfl⟩
     replace H:(pO.j3 kj42 yz10 l1 (wrap64 (x2_13+1)) a3 a4 a5 a6 a7 a8 a9 a10 a11 a12 yz13)=some (r1,r2,r3,r4):=by first|(rw [hyz13];with_reducible exact H)|(have H2_:=(Option.bind_some _ _).symm.trans H;rw [hyz13];with_reducible exact H2_)|(have H2_:=(Option.bind_some _ _).symm.trans H;with_reducible exact H2_)|with_reducible exact H|(rw [hyz13];exact H)|exact H
     have Nyz13:=Ak hyz13
     clear hyz13
     have H':=Ak H
     clear H
     go_wp2_with (first|((with_reducible refine gate_dst (N:=108) rfl ?_);(try (refine gate_guard (by rfl) ?_;dsimp only));refine Kd.R_make0 k82 _ 82 rfl (N:=108) rfl 78 _ _ rfl 8 rfl rfl Try.underlying78 (.agg #[(.int .i64 0),(.int .i64 0),(.int .i64 0),(.int .i64 0)]) 32 info82 rfl (by decide) (by omega) z82 (ok:=fun _=>True) (okp:=fun _=>True) (k82_mkM _ _ _ z82 ) (fun _ hk=>hk) trivial (by omega) (by omega) (Below.refl _ _) (Nat.le_refl _) ?_;intro vz14 w49 ho50 hb hg_ hnew_;clear hg_ hnew_;(first|rw [← Nyz13.out] at ho50|(simp only [Int.reduceToNat] at ho50;rw [← Nyz13.out] at ho50));have _:=Ak (Kd.R_below (oR HO_0.out) hb);have _:=Ak (Kd.R_elder' (oR HO_34.out) (Kd.R_base ho50) hb);have _:=Ak (Kd.R_lower (Kd.R_new' (Kd.R_newM (M:=fun k_=>(P0_ k_∨w.heap.size≤k_)) ho50 (by first|exact HK.out.1|exact (show Kept w _ (fun k_=>P0_ k_) from oP).1) (fun k_ h_ => .inr h_)) (Kd.R_lt (oR HO_34.out))) (below_size oB));have _:=Ak (Kept.below (S:=(fun k_=>P0_ k_)) oP hb);have _:=Ak (below_step oB hb);clear HO_0 HO_34 HK HB;rename_i HO_0 HO_34 HOz15 HK HB;clear hb ho50))
     go_meet
     case rel=>exact ⟨_,(yz13),H',⟨by have:=HJ13.out;have:=HJ42.out;first|omega|exact Nat.le_refl _⟩,⟨oR HO_0.out⟩,⟨by (with_reducible repeat (first|apply Kd.R_alloc|apply Kd.R_drewN|apply Kd.R_drew));exact Kd.R_mono HOz15.out (fun _ hk=>hk.1.1)⟩,⟨oP⟩,⟨oB⟩⟩
    rw [if_neg c48] at H
    exact absurd H (by simp)
   case rest=>as_aux_lemma =>
   clear HC46
   obtain ⟨kq,x34_45,HA,HJ45,HO_0,HO_34,HK,HB⟩:=hcut
   cases kq with
   | zero=>exact absurd HA.out (by simp [pO.j3])
   | succ kj45 =>
    have H:=HA.out
    clear HA
    simp only [pO.j3] at H
    have H':=Ak H
    clear H
    go_wp2
    (try simp only [Act.put,List.setIfInBounds_toArray,List.set_cons_zero,List.set_cons_succ])
    go_loopg [0,2,9,11,34,35] kj45 (fun kq v0 v2 v9 v11 v34 v35 w' => ∃ (x0_4:List Int) (x2_4:Int) (x9_4:Bool) (x11_4:Int) (x34_4:List (S82)) (x35_4:Int),v2 = .int .i64 x2_4∧v9 = .bool x9_4∧v11 = .int .i64 x11_4∧v35 = .int .i64 x35_4∧Aside0 (pO.l0 kq x0_4 l1 x2_4 a3 a4 a5 a6 a7 a8 x9_4 a10 x11_4 a12 x34_4 x35_4=some (r1,r2,r3,r4))∧Aside0 (kq≤kj45)∧Aside0 (Kd.R (Kd.int .u8) 5 w' w0.heap.size (fun k_=>(P0_ k_∨w.heap.size≤k_)) v0 x0_4)∧Aside0 (Kd.R k82 82 w' w0.heap.size (fun k_=>(P0_ k_∨w.heap.size≤k_)) v34 x34_4)∧Aside0 (Kept w w' (fun k_=>P0_ k_))∧Aside0 (Below w0.heap.size w0 w'))
    case atStart=>exact ⟨(yz10),((wrap64 (x2_13+1))),(a9),(a11),(x34_45),(0),oS,oS,oS,oS,H',⟨Nat.le_refl _⟩,⟨oR HO_0.out⟩,⟨oR HO_34.out⟩,⟨oP⟩,⟨oB⟩⟩
    case round =>
    clear H'
    obtain ⟨x0_4,x2_4,x9_4,x11_4,x34_4,x35_4,rfl,rfl,rfl,rfl,HA,HK4,HO_0,HO_34,HK,HB⟩:=hrel
    cases gk with
    | zero=>exact absurd HA.out (by simp [pO.l0])
    | succ k4 =>
     have H:=HA.out
     clear HA
     simp only [pO.l0] at H
     by_cases c51:x2_4<(l1.length:Int)
     rotate_left
     ·
      rw [if_neg c51] at H
      have c51b0:decide (x2_4<(l1.length:Int))=false:=decide_eq_false c51
      clear c51
      simp only [Option.some.injEq,Prod.mk.injEq] at H
      obtain ⟨rfl,rfl,rfl,rfl⟩:=H
      go_wp2
      refine bodyPost_ret (results_list (rs:=[.tmp 26, .tmp 27, .tmp 28, .tmp 29]) rfl (by simp) (.tmp (.tmp (.tmp (.tmp .nil))))) rfl ?_
      exact ⟨_,oE,oR HO_0.out,oB,oP⟩
     rw [if_pos c51] at H
     have c51b0:decide (x2_4<(l1.length:Int))=true:=decide_eq_true c51
     clear c51
     by_cases c52:0≤x2_4
     ·
      rw [if_pos c52] at H
      have c52b0:decide (0≤x2_4)=true:=decide_eq_true c52
      clear c52
      by_cases c53:(rd l1 x2_4)≤32
      ·
       rw [if_pos c53] at H
       have c53b0:decide ((rd l1 x2_4)≤32)=true:=decide_eq_true c53
       clear c53
       have H':=Ak H
       clear H
       have pz16:0≤(x2_4:Int):=of_decide_eq_true oA
       have qz16:x2_4<(l1.length:Int):=of_decide_eq_true oA
       obtain ⟨adz16,ez16,hxz16_0⟩:=Kd.at_int (Kd.C_kept_now HR1.out HK.out) x2_4 pz16 qz16
       cases ez16
       replace pz16:=eq_true pz16
       replace qz16:=eq_true qz16
       go_wp2
       go_roundg k4
       case measure=>have:=HJ13.out;have:=HJ42.out;have:=HJ45.out;have:=HK4.out;omega
       case rel=>exact ⟨(x0_4),(wrap64 (x2_4+1)),(x9_4),(x11_4),(x34_4),(x35_4),oS,oS,oS,oS,H',⟨by have:=HJ13.out;have:=HJ42.out;have:=HJ45.out;have:=HK4.out;omega⟩,⟨oR HO_0.out⟩,⟨oR HO_34.out⟩,⟨oP⟩,⟨oB⟩⟩
      rw [if_neg c53] at H
      have c53b0:decide ((rd l1 x2_4)≤32)=false:=decide_eq_false c53
      clear c53
      by_cases c54:(rd l1 x2_4)=a4
      ·
       rw [if_pos c54] at H
       have c54b0:((rd l1 x2_4) == a4)=true:=beq_iff_eq.mpr c54
       have c54b1:((rd l1 x2_4) != a4)=false:=bne_eq_false_iff_eq.mpr c54
       clear c54
       by_cases c55:a5=true
       rotate_left
       ·
        replace c55:=Bool.eq_false_iff.mpr c55
        subst c55
        have H1:(if x0_4.length<140737488355328 then (some ((x0_4++[a4]),wrap64 (x2_4+1),x11_4,(a3 != 123))) else (none))=some (r1,r2,r3,r4):=by rw [if_neg (show ¬ (false=true) by decide)] at H;exact H
        clear H
        have H:=H1
        clear H1
        by_cases c112:x0_4.length<140737488355328
        rotate_left
        ·
         rw [if_neg c112] at H
         exact absurd H (by simp)
        rw [if_pos c112] at H
        have LMc112:=Ak c112
        clear c112
        obtain ⟨yz56,hyz56⟩ : ∃ y_:List Int,y_=(x0_4++[a4]):=⟨_,rfl⟩
        replace H:(some (yz56,wrap64 (x2_4+1),x11_4,(a3 != 123)))=some (r1,r2,r3,r4):=by first|(rw [hyz56];with_reducible exact H)|(have H2_:=(Option.bind_some _ _).symm.trans H;rw [hyz56];with_reducible exact H2_)|(have H2_:=(Option.bind_some _ _).symm.trans H;with_reducible exact H2_)|with_reducible exact H|(rw [hyz56];exact H)|exact H
        have Nyz56:=Ak hyz56
        clear hyz56
        simp only [Option.some.injEq,Prod.mk.injEq] at H
        obtain ⟨rfl,rfl,rfl,rfl⟩:=H
        have pz16:0≤(x2_4:Int):=of_decide_eq_true oA
        have qz16:x2_4<(l1.length:Int):=of_decide_eq_true oA
        obtain ⟨adz16,ez16,hxz16_0⟩:=Kd.at_int (Kd.C_kept_now HR1.out HK.out) x2_4 pz16 qz16
        cases ez16
        replace pz16:=eq_true pz16
        replace qz16:=eq_true qz16
        have pz17:0≤(x2_4:Int):=of_decide_eq_true oA
        have qz17:x2_4<(l1.length:Int):=of_decide_eq_true oA
        obtain ⟨adz17,ez17,hxz17_0⟩:=Kd.at_int (Kd.C_kept_now HR1.out HK.out) x2_4 pz17 qz17
        obtain rfl:adz16=adz17:=(by injection ez17)
        replace pz17:=eq_true pz17
        replace qz17:=eq_true qz17
        go_wp2_with (first|((with_reducible refine gate_builtin (b := .append) (xs := #[.tmp 166, .tmp 168]) rfl ?_);(try (refine gate_guard (by rfl) ?_;dsimp only));at_builtin;refine Kd.R_append (Kd.int .u8) (w0:=w0) w0.heap.size rfl (.tmp 166) (.tmp 168) 44 5 (.int .u8 0) 1 rfl Try.underlying44 info5 rfl (by decide) (by omega) u0 x0_4 a4 [.int .u8 a4] (fun k_=>(P0_ k_∨w.heap.size≤k_)) (fun _=>False) rfl rfl ?aP (fun _ hk=>hk.elim) ?aF ?aO ?aB ?aS ?aL ?_;(case aP=>exact rfl);(case aB=>exact oB);(case aF=>exact (fun k_ hk=>(.inr (Nat.le_trans (by first|exact HK.out.1|exact (show Kept w _ (fun k_=>P0_ k_) from oP).1) hk))));(case aO=>exact (oR HO_0.out));(case aS=>exact (below_size oB));(case aL=>have:=LMc112.out;omega);intro vz57 w113 ho hb hg hat;rw [← Nyz56.out] at ho;have _:=Ak (Kd.R_over' (oR HO_34.out) (Kd.R_typed (oR HO_0.out)) (by decide) hg);have _:=Ak (hb);have _:=Ak (Kept.of_grown (S:=(fun k_=>P0_ k_)) hg oP (fun k_ e_=>(HO_0.out.1 k_ e_)));have _:=Ak (ho);clear HO_34 HB HK HO_0;rename_i HO_34 HB HK HOz58;clear ho hb hg hat))
        refine bodyPost_ret (results_list (rs:=[.tmp 26, .tmp 27, .tmp 28, .tmp 29]) rfl (by simp) (.tmp (.tmp (.tmp (.tmp .nil))))) rfl ?_
        exact ⟨_,oE,oR HOz58.out,oB,oP⟩
       subst c55
       have H1:(if a3=123 then (pO.j5 k4 x0_4 l1 x2_4 a3 a4 a7 a8 a10 x11_4 x34_4 x35_4 x9_4) else (pO.j5 k4 x0_4 l1 x2_4 a3 a4 a7 a8 a10 x11_4 x34_4 x35_4 false))=some (r1,r2,r3,r4):=by rw [if_pos rfl] at H;exact H
       clear H
       have H:=H1
       clear H1
       have HC56:=Ak H
       clear H
       have pz16:0≤(x2_4:Int):=of_decide_eq_true oA
       have qz16:x2_4<(l1.length:Int):=of_decide_eq_true oA
       obtain ⟨adz16,ez16,hxz16_0⟩:=Kd.at_int (Kd.C_kept_now HR1.out HK.out) x2_4 pz16 qz16
       cases ez16
       replace pz16:=eq_true pz16
       replace qz16:=eq_true qz16
       have pz17:0≤(x2_4:Int):=of_decide_eq_true oA
       have qz17:x2_4<(l1.length:Int):=of_decide_eq_true oA
       obtain ⟨adz17,ez17,hxz17_0⟩:=Kd.at_int (Kd.C_kept_now HR1.out HK.out) x2_4 pz17 qz17
       obtain rfl:adz16=adz17:=(by injection ez17)
       replace pz17:=eq_true pz17
       replace qz17:=eq_true qz17
       go_upto_region 25 with (fail)
       go_cut [131] from 109 to 131 (fun v131 wc => ∃ (kq:Nat) (x131_55:Bool),v131 = .bool x131_55∧Aside0 (pO.j5 kq x0_4 l1 x2_4 a3 a4 a7 a8 a10 x11_4 x34_4 x35_4 x131_55=some (r1,r2,r3,r4))∧Aside0 (kq≤k4)∧Aside0 (Kd.R (Kd.int .u8) 5 wc w0.heap.size (fun k_=>(P0_ k_∨w.heap.size≤k_)) u0 x0_4)∧Aside0 (Kd.R k82 82 wc w0.heap.size (fun k_=>(P0_ k_∨w.heap.size≤k_)) u34 x34_4)∧Aside0 (Kept w wc (fun k_=>P0_ k_))∧Aside0 (Below w0.heap.size w0 wc))
       case first =>
        have H:=HC56.out
        clear HC56
        by_cases c57:a3=123
        ·
         rw [if_pos c57] at H
         have c57b0:(a3 == 123)=true:=beq_iff_eq.mpr c57
         have c57b1:(a3 != 123)=false:=bne_eq_false_iff_eq.mpr c57
         clear c57
         (first|rw [c57b0]|(simp only [i64_w,i32_w];rw [c57b0])|skip)
         have H':=Ak H
         clear H
         go_wp2
         go_meet
         case rel=>exact ⟨_,(x9_4),oS,H',⟨by have:=HJ13.out;have:=HJ42.out;have:=HJ45.out;have:=HK4.out;first|omega|exact Nat.le_refl _⟩,⟨oR HO_0.out⟩,⟨oR HO_34.out⟩,⟨oP⟩,⟨oB⟩⟩
        rw [if_neg c57] at H
        have c57b0:(a3 == 123)=false:=beq_eq_false_iff_ne.mpr c57
        have c57b1:(a3 != 123)=true:=bne_iff_ne.mpr c57
        (first|rw [c57b0]|(simp only [i64_w,i32_w];rw [c57b0])|skip)
        have H':=Ak H
        clear H
        go_wp2
        go_meet
        case rel=>exact ⟨_,(false),oS,H',⟨by have:=HJ13.out;have:=HJ42.out;have:=HJ45.out;have:=HK4.out;first|omega|exact Nat.le_refl _⟩,⟨oR HO_0.out⟩,⟨oR HO_34.out⟩,⟨oP⟩,⟨oB⟩⟩
       case rest=>as_aux_lemma =>
       clear HC56
       clear c51b0 c52b0 c53b0 c54b0 c54b1 hxz16_0 hxz17_0 pz16 pz17 qz16 qz17
       obtain ⟨kq,x131_55,rfl,HA,HJ55,HO_0,HO_34,HK,HB⟩:=hcut
       cases kq with
       | zero=>exact absurd HA.out (by simp [pO.j5])
       | succ kj55 =>
        have H:=HA.out
        clear HA
        simp only [pO.j5] at H
        have HC58:=Ak H
        clear H
        go_upto_if 131 with (fail)
        go_cut [0] from 131 to 131 (fun v0 wc => ∃ (kq:Nat) (x0_57:List Int),Aside0 (pO.j6 kq x0_57 x2_4 a3 a4 a7 a8 a10 x11_4 x35_4=some (r1,r2,r3,r4))∧Aside0 (kq≤kj55)∧Aside0 (Kd.R (Kd.int .u8) 5 wc w0.heap.size (fun k_=>(P0_ k_∨w.heap.size≤k_)) v0 x0_57)∧Aside0 (Kept w wc (fun k_=>P0_ k_))∧Aside0 (Below w0.heap.size w0 wc))
        case first =>
         have H:=HC58.out
         clear HC58
         by_cases c59:x131_55=true
         rotate_left
         ·
          replace c59:=Bool.eq_false_iff.mpr c59
          subst c59
          have H1:(pO.j6 kj55 x0_4 x2_4 a3 a4 a7 a8 a10 x11_4 x35_4)=some (r1,r2,r3,r4):=by rw [if_neg (show ¬ (false=true) by decide)] at H;exact H
          clear H
          have H:=H1
          clear H1
          have H':=Ak H
          clear H
          go_wp2
          go_meet
          case rel=>exact ⟨_,(x0_4),H',⟨by have:=HJ13.out;have:=HJ42.out;have:=HJ45.out;have:=HK4.out;have:=HJ55.out;first|omega|exact Nat.le_refl _⟩,⟨oR HO_0.out⟩,⟨oP⟩,⟨oB⟩⟩
         subst c59
         have H1:((pQ.f l1 x0_4 x34_4).bind fun tz18=>(pO.j6 kj55 tz18 x2_4 a3 a4 a7 a8 a10 x11_4 x35_4))=some (r1,r2,r3,r4):=by rw [if_pos rfl] at H;exact H
         clear H
         have H:=H1
         clear H1
         replace H:=Option.bind_eq_some_iff.mp H
         obtain ⟨tz18,A600,H⟩:=H
         replace H:(pO.j6 kj55 tz18 x2_4 a3 a4 a7 a8 a10 x11_4 x35_4)=some (r1,r2,r3,r4):=H
         have A60:=Ak A600
         clear A600
         have H':=Ak H
         clear H
         obtain ⟨Ao61,co61,eo61⟩:=Kd.R_slice HO_0.out
         subst eo61
         obtain ⟨Ao62,co62,eo62⟩:=Kd.R_slice HO_34.out
         subst eo62
         go_wp2_with (first|((with_reducible refine gate_callee (f:=46) rfl ?_);refine goesL_ (some 135) rfl rfl Try.func46 (by kernel_rfl) rfl #[.slice (some adz16) l1.length c1, .slice Ao61 x0_4.length co61, .slice Ao62 x34_4.length co62] rfl oM ?_;(with_reducible refine (pQ.calls _ _ l1 (fun k_=>some k_=(.slice Ao61 x0_4.length co61:Value).ownBlock) (.slice Ao61 x0_4.length co61) x0_4 (fun k_=>some k_=(.slice Ao62 x34_4.length co62:Value).ownBlock) (.slice Ao62 x34_4.length co62) x34_4 tz18 w0 _ ?side1 ?side2 ?side3 ?side4 ?side5 A60.out).mono ?_);(case side1=>exact oB);(case side2=>exact Kd.C_kept_call HR1.out oP (fun k_ hs_=>Or.elim hs_ (fun e_=>(fun e_=>(HO_0.out.1 k_ e_.symm)) e_) (fun e_=>(fun e_=>(HO_34.out.1 k_ e_.symm)) e_)));(case side3=>exact HC1.out);(case side4=>exact Kd.R_tight rfl HO_0.out);(case side5=>exact Kd.R_tight rfl HO_34.out);rintro e w63 ⟨vz19,rfl,ho0,hb,hkp⟩;refine ⟨_,rfl,?_⟩;have _:=Ak (Kd.R_mono (ok':=fun k_=>(P0_ k_∨w.heap.size≤k_)) ho0 (fun k_ hk_=>Or.elim hk_ (fun hs_=>(HO_0.out.1 k_ (hs_).symm)) (fun hn_=>(.inr (Nat.le_trans (by first|exact HK.out.1|exact (show Kept w _ (fun k_=>P0_ k_) from oP).1) hn_)))));have _:=Ak (Kept.then_ (S:=(fun k_=>P0_ k_)) oP hkp (fun k_ hs_=>Or.elim hs_ (fun e_=>(fun e_=>(HO_0.out.1 k_ e_.symm)) e_) (fun e_=>(fun e_=>(HO_34.out.1 k_ e_.symm)) e_)));have _:=Ak (hb);clear HK HB HO_0 HO_34;rename_i HOz20 HK HB;(try clear hb);(try clear hkp);(try clear ho0)))
         go_meet
         case rel=>exact ⟨_,(tz18),H',⟨by have:=HJ13.out;have:=HJ42.out;have:=HJ45.out;have:=HK4.out;have:=HJ55.out;first|omega|exact Nat.le_refl _⟩,⟨oR HOz20.out⟩,⟨oP⟩,⟨oB⟩⟩
        case rest=>as_aux_lemma =>
        clear HC58
        obtain ⟨kq,x0_57,HA,HJ57,HO_0,HK,HB⟩:=hcut
        cases kq with
        | zero=>exact absurd HA.out (by simp [pO.j6])
        | succ kj57 =>
         have H:=HA.out
         clear HA
         simp only [pO.j6] at H
         by_cases c64:x35_4>0
         rotate_left
         ·
          rw [if_neg c64] at H
          have c64b0:decide (0<x35_4)=false:=decide_eq_false c64
          clear c64
          obtain ⟨ji100,hji100⟩ : ∃ j_:Int,(wrap64 ((x0_57.length:Int) - 1))=j_:=⟨_,rfl⟩
          replace H:(if 0≤(ji100) then (if (ji100)<(x0_57.length:Int) then (if (rd x0_57 (ji100))=a3 then (if x0_57.length<140737488355328 then (some ((x0_57++[a4]),wrap64 (x2_4+1),x11_4,(a3 != 123))) else (none)) else ((pT.f kj57 x0_57 a7 a8 a10).bind fun tz46=>(if tz46.length<140737488355328 then (some ((tz46++[a4]),wrap64 (x2_4+1),x11_4,(a3 != 123))) else (none)))) else (none)) else (none))=some (r1,r2,r3,r4):=by first|(rw [hji100] at H;exact H)|(simp only [hji100] at H ⊢; exact H)
          have hji100w:(IntKind.i64.wrap ((x0_57.length:Int) - 1))=ji100:=(i64_w _).trans hji100
          by_cases c101:0≤(ji100)
          rotate_left
          ·
           rw [if_neg c101] at H
           exact absurd H (by simp)
          rw [if_pos c101] at H
          have c101b0:decide (0≤(ji100))=true:=decide_eq_true c101
          clear c101
          by_cases c102:(ji100)<(x0_57.length:Int)
          ·
           rw [if_pos c102] at H
           have c102b0:decide ((ji100)<(x0_57.length:Int))=true:=decide_eq_true c102
           clear c102
           by_cases c103:(rd x0_57 (ji100))=a3
           ·
            rw [if_pos c103] at H
            have c103b0:((rd x0_57 (ji100)) == a3)=true:=beq_iff_eq.mpr c103
            have c103b1:((rd x0_57 (ji100)) != a3)=false:=bne_eq_false_iff_eq.mpr c103
            clear c103
            by_cases c104:x0_57.length<140737488355328
            rotate_left
            ·
             rw [if_neg c104] at H
             exact absurd H (by simp)
            rw [if_pos c104] at H
            have LMc104:=Ak c104
            clear c104
            obtain ⟨yz47,hyz47⟩ : ∃ y_:List Int,y_=(x0_57++[a4]):=⟨_,rfl⟩
            replace H:(some (yz47,wrap64 (x2_4+1),x11_4,(a3 != 123)))=some (r1,r2,r3,r4):=by first|(rw [hyz47];with_reducible exact H)|(have H2_:=(Option.bind_some _ _).symm.trans H;rw [hyz47];with_reducible exact H2_)|(have H2_:=(Option.bind_some _ _).symm.trans H;with_reducible exact H2_)|with_reducible exact H|(rw [hyz47];exact H)|exact H
            have Nyz47:=Ak hyz47
            clear hyz47
            simp only [Option.some.injEq,Prod.mk.injEq] at H
            obtain ⟨rfl,rfl,rfl,rfl⟩:=H
            obtain ⟨Ao105,co105,eo105⟩:=Kd.R_slice HO_0.out
            subst eo105
            have pz48:0≤((ji100):Int):=of_decide_eq_true oA
            have qz48:(ji100)<(x0_57.length:Int):=of_decide_eq_true oA
            obtain ⟨adz48,ez48,hxz48_0⟩:=Kd.at_int (Kd.R_reads' HO_0.out).2.2 (ji100) pz48 qz48
            cases ez48
            replace pz48:=eq_true pz48
            replace qz48:=eq_true qz48
            go_wp2_with (first|((with_reducible refine gate_builtin (b := .append) (xs := #[.tmp 166, .tmp 168]) rfl ?_);(try (refine gate_guard (by rfl) ?_;dsimp only));at_builtin;refine Kd.R_append (Kd.int .u8) (w0:=w0) w0.heap.size rfl (.tmp 166) (.tmp 168) 44 5 (.int .u8 0) 1 rfl Try.underlying44 info5 rfl (by decide) (by omega) (.slice (some adz48) x0_57.length co105) x0_57 a4 [.int .u8 a4] (fun k_=>(P0_ k_∨w.heap.size≤k_)) (fun _=>False) rfl rfl ?aP (fun _ hk=>hk.elim) ?aF ?aO ?aB ?aS ?aL ?_;(case aP=>exact rfl);(case aB=>exact oB);(case aF=>exact (fun k_ hk=>(.inr (Nat.le_trans (by first|exact HK.out.1|exact (show Kept w _ (fun k_=>P0_ k_) from oP).1) hk))));(case aO=>exact (oR HO_0.out));(case aS=>exact (below_size oB));(case aL=>have:=LMc104.out;omega);intro vz49 w106 ho hb hg hat;rw [← Nyz47.out] at ho;have _:=Ak (hb);have _:=Ak (Kept.of_grown (S:=(fun k_=>P0_ k_)) hg oP (fun k_ e_=>(HO_0.out.1 k_ e_)));have _:=Ak (ho);clear HB HK HO_0;rename_i HB HK HOz50;clear ho hb hg hat))
            refine bodyPost_ret (results_list (rs:=[.tmp 26, .tmp 27, .tmp 28, .tmp 29]) rfl (by simp) (.tmp (.tmp (.tmp (.tmp .nil))))) rfl ?_
            exact ⟨_,by first|rfl|(simp [errW_none,errW_some] <;> rfl)|(simp only [← hji100];first|rfl|(simp [errW_none,errW_some] <;> rfl))|(simp [*, errW_none,errW_some] <;> rfl),oR HOz50.out,oB,oP⟩
           rw [if_neg c103] at H
           have c103b0:((rd x0_57 (ji100)) == a3)=false:=beq_eq_false_iff_ne.mpr c103
           have c103b1:((rd x0_57 (ji100)) != a3)=true:=bne_iff_ne.mpr c103
           replace H:=Option.bind_eq_some_iff.mp H
           obtain ⟨tz46,A1070,H⟩:=H
           replace H:(if tz46.length<140737488355328 then (some ((tz46++[a4]),wrap64 (x2_4+1),x11_4,(a3 != 123))) else (none))=some (r1,r2,r3,r4):=H
           have A107:=Ak A1070
           clear A1070
           by_cases c108:tz46.length<140737488355328
           ·
            rw [if_pos c108] at H
            have LMc108:=Ak c108
            clear c108
            obtain ⟨yz51,hyz51⟩ : ∃ y_:List Int,y_=(tz46++[a4]):=⟨_,rfl⟩
            replace H:(some (yz51,wrap64 (x2_4+1),x11_4,(a3 != 123)))=some (r1,r2,r3,r4):=by first|(rw [hyz51];with_reducible exact H)|(have H2_:=(Option.bind_some _ _).symm.trans H;rw [hyz51];with_reducible exact H2_)|(have H2_:=(Option.bind_some _ _).symm.trans H;with_reducible exact H2_)|with_reducible exact H|(rw [hyz51];exact H)|exact H
            have Nyz51:=Ak hyz51
            clear hyz51
            simp only [Option.some.injEq,Prod.mk.injEq] at H
            obtain ⟨rfl,rfl,rfl,rfl⟩:=H
            obtain ⟨Ao109,co109,eo109⟩:=Kd.R_slice HO_0.out
            subst eo109
            have pz48:0≤((ji100):Int):=of_decide_eq_true oA
            have qz48:(ji100)<(x0_57.length:Int):=of_decide_eq_true oA
            obtain ⟨adz48,ez48,hxz48_0⟩:=Kd.at_int (Kd.R_reads' HO_0.out).2.2 (ji100) pz48 qz48
            cases ez48
            replace pz48:=eq_true pz48
            replace qz48:=eq_true qz48
            go_wp2_with (first|((with_reducible refine gate_callee (f:=47) rfl ?_);refine goesL_ (some 165) rfl rfl Try.func47 (by kernel_rfl) rfl #[.slice (some adz48) x0_57.length co109, .string a7, .string a8, .int .i64 a10] rfl oM ?_;(with_reducible refine (pT.calls kj57 (fun k_=>some k_=(.slice (some adz48) x0_57.length co109:Value).ownBlock) (.slice (some adz48) x0_57.length co109) x0_57 a7 a8 a10 tz46 w0 _ ?side1 ?side2 A107.out).mono ?_);(case side1=>exact oB);(case side2=>exact Kd.R_tight rfl HO_0.out);rintro e w110 ⟨vz52,rfl,ho0,hb,hkp⟩;refine ⟨_,rfl,?_⟩;have _:=Ak (Kd.R_mono (ok':=fun k_=>(P0_ k_∨w.heap.size≤k_)) ho0 (fun k_ hk_=>Or.elim hk_ (fun hs_=>(HO_0.out.1 k_ (hs_).symm)) (fun hn_=>(.inr (Nat.le_trans (by first|exact HK.out.1|exact (show Kept w _ (fun k_=>P0_ k_) from oP).1) hn_)))));have _:=Ak (Kept.then_ (S:=(fun k_=>P0_ k_)) oP hkp (fun k_ hs_=>(fun e_=>(HO_0.out.1 k_ e_.symm)) hs_));have _:=Ak (hb);clear HK HB HO_0;rename_i HOz53 HK HB;(try clear hb);(try clear hkp);(try clear ho0))|((with_reducible refine gate_builtin (b := .append) (xs := #[.tmp 166, .tmp 168]) rfl ?_);(try (refine gate_guard (by rfl) ?_;dsimp only));at_builtin;refine Kd.R_append (Kd.int .u8) (w0:=w0) w0.heap.size rfl (.tmp 166) (.tmp 168) 44 5 (.int .u8 0) 1 rfl Try.underlying44 info5 rfl (by decide) (by omega) vz52 tz46 a4 [.int .u8 a4] (fun k_=>(P0_ k_∨w.heap.size≤k_)) (fun _=>False) rfl rfl ?aP (fun _ hk=>hk.elim) ?aF ?aO ?aB ?aS ?aL ?_;(case aP=>exact rfl);(case aB=>exact oB);(case aF=>exact (fun k_ hk=>(.inr (Nat.le_trans (by first|exact HK.out.1|exact (show Kept w _ (fun k_=>P0_ k_) from oP).1) hk))));(case aO=>exact (oR HOz53.out));(case aS=>exact (below_size oB));(case aL=>have:=LMc108.out;omega);intro vz54 w111 ho hb hg hat;rw [← Nyz51.out] at ho;have _:=Ak (hb);have _:=Ak (Kept.of_grown (S:=(fun k_=>P0_ k_)) hg oP (fun k_ e_=>(HOz53.out.1 k_ e_)));have _:=Ak (ho);clear HB HK HOz53;rename_i HB HK HOz55;clear ho hb hg hat))
            refine bodyPost_ret (results_list (rs:=[.tmp 26, .tmp 27, .tmp 28, .tmp 29]) rfl (by simp) (.tmp (.tmp (.tmp (.tmp .nil))))) rfl ?_
            exact ⟨_,by first|rfl|(simp [errW_none,errW_some] <;> rfl)|(simp only [← hji100];first|rfl|(simp [errW_none,errW_some] <;> rfl))|(simp [*, errW_none,errW_some] <;> rfl),oR HOz55.out,oB,oP⟩
           rw [if_neg c108] at H
           exact absurd H (by simp)
          rw [if_neg c102] at H
          exact absurd H (by simp)
         rw [if_pos c64] at H
         have c64b0:decide (0<x35_4)=true:=decide_eq_true c64
         clear c64
         obtain ⟨ji65,hji65⟩ : ∃ j_:Int,(wrap64 ((x0_57.length:Int) - 1))=j_:=⟨_,rfl⟩
         replace H:(if 0≤(ji65) then (if (ji65)<(x0_57.length:Int) then (if (rd x0_57 (ji65))=32 then ((some (x0_57.set ((ji65):Int).toNat 10:List Int)).bind fun yz21=>(if (rd yz21 (ji65))=a3 then (if yz21.length<140737488355328 then (some ((yz21++[a4]),wrap64 (x2_4+1),(x0_57.length:Int),(a3 != 123))) else (none)) else ((pT.f kj57 yz21 a7 a8 a10).bind fun tz22=>(if tz22.length<140737488355328 then (some ((tz22++[a4]),wrap64 (x2_4+1),(x0_57.length:Int),(a3 != 123))) else (none))))) else (if x0_57.length<140737488355328 then ((some (x0_57++[10]:List Int)).bind fun yz23=>(if 0≤(wrap64 ((yz23.length:Int) - 1)) then (if (wrap64 ((yz23.length:Int) - 1))<(yz23.length:Int) then (if (rd yz23 (wrap64 ((yz23.length:Int) - 1)))=a3 then (if yz23.length<140737488355328 then (some ((yz23++[a4]),wrap64 (x2_4+1),(x0_57.length:Int),(a3 != 123))) else (none)) else ((pT.f kj57 yz23 a7 a8 a10).bind fun tz24=>(if tz24.length<140737488355328 then (some ((tz24++[a4]),wrap64 (x2_4+1),(x0_57.length:Int),(a3 != 123))) else (none)))) else (none)) else (none))) else (none))) else (none)) else (none))=some (r1,r2,r3,r4):=by first|(rw [hji65] at H;exact H)|(simp only [hji65] at H ⊢; exact H)
         have hji65w:(IntKind.i64.wrap ((x0_57.length:Int) - 1))=ji65:=(i64_w _).trans hji65
         by_cases c66:0≤(ji65)
         ·
          rw [if_pos c66] at H
          have c66b0:decide (0≤(ji65))=true:=decide_eq_true c66
          clear c66
          by_cases c67:(ji65)<(x0_57.length:Int)
          rotate_left
          ·
           rw [if_neg c67] at H
           exact absurd H (by simp)
          rw [if_pos c67] at H
          have c67b0:decide ((ji65)<(x0_57.length:Int))=true:=decide_eq_true c67
          clear c67
          by_cases c68:(rd x0_57 (ji65))=32
          ·
           rw [if_pos c68] at H
           have c68b0:((rd x0_57 (ji65)) == 32)=true:=beq_iff_eq.mpr c68
           have c68b1:((rd x0_57 (ji65)) != 32)=false:=bne_eq_false_iff_eq.mpr c68
           clear c68
           obtain ⟨yz21,hyz21⟩ : ∃ y_:List Int,y_=(x0_57.set ((ji65):Int).toNat 10):=⟨_,rfl⟩
           replace H:(if (rd yz21 (ji65))=a3 then (if yz21.length<140737488355328 then (some ((yz21++[a4]),wrap64 (x2_4+1),(x0_57.length:Int),(a3 != 123))) else (none)) else ((pT.f kj57 yz21 a7 a8 a10).bind fun tz22=>(if tz22.length<140737488355328 then (some ((tz22++[a4]),wrap64 (x2_4+1),(x0_57.length:Int),(a3 != 123))) else (none))))=some (r1,r2,r3,r4):=by first|(rw [hyz21];with_reducible exact H)|(have H2_:=(Option.bind_some _ _).symm.trans H;rw [hyz21];with_reducible exact H2_)|(have H2_:=(Option.bind_some _ _).symm.trans H;with_reducible exact H2_)|with_reducible exact H|(rw [hyz21];exact H)|exact H
           have Nyz21:=Ak hyz21
           clear hyz21
           by_cases c70:(rd yz21 (ji65))=a3
           ·
            rw [if_pos c70] at H
            have c70b0:((rd yz21 (ji65)) == a3)=true:=beq_iff_eq.mpr c70
            have c70b1:((rd yz21 (ji65)) != a3)=false:=bne_eq_false_iff_eq.mpr c70
            clear c70
            by_cases c71:yz21.length<140737488355328
            rotate_left
            ·
             rw [if_neg c71] at H
             exact absurd H (by simp)
            rw [if_pos c71] at H
            have LMc71:=Ak c71
            clear c71
            obtain ⟨yz25,hyz25⟩ : ∃ y_:List Int,y_=(yz21++[a4]):=⟨_,rfl⟩
            replace H:(some (yz25,wrap64 (x2_4+1),(x0_57.length:Int),(a3 != 123)))=some (r1,r2,r3,r4):=by first|(rw [hyz25];with_reducible exact H)|(have H2_:=(Option.bind_some _ _).symm.trans H;rw [hyz25];with_reducible exact H2_)|(have H2_:=(Option.bind_some _ _).symm.trans H;with_reducible exact H2_)|with_reducible exact H|(rw [hyz25];exact H)|exact H
            have Nyz25:=Ak hyz25
            clear hyz25
            simp only [Option.some.injEq,Prod.mk.injEq] at H
            obtain ⟨rfl,rfl,rfl,rfl⟩:=H
            obtain ⟨Ao72,co72,eo72⟩:=Kd.R_slice HO_0.out
            subst eo72
            have pz26:0≤((ji65):Int):=of_decide_eq_true oA
            have qz26:(ji65)<(x0_57.length:Int):=of_decide_eq_true oA
            obtain ⟨adz26,ez26,hxz26_0⟩:=Kd.at_int (Kd.R_reads' HO_0.out).2.2 (ji65) pz26 qz26
            cases ez26
            replace pz26:=eq_true pz26
            replace qz26:=eq_true qz26
            have p69:0≤((ji65):Int):=of_decide_eq_true oA
            have q69:((ji65):Int)<((x0_57.length:Int):Int):=of_decide_eq_true oA
            obtain ⟨go69,co69,eo69,gb69,gl69,cl69,HG69⟩:=Kd.R_form HO_0.out (by omega)
            (first|cases eo69|(injection eo69 with ea_ en_ ec_;(first|subst ea_|(injection ea_ with ea_;subst ea_));subst ec_;clear en_))
            have GB69:=Ak gb69
            have GG69:=Ak HG69
            clear gb69 gl69 HG69
            have HMgo69:=Ak (show (P0_ go69∨w.heap.size≤go69) from (HO_0.out.1 _ rfl))
            (first|simp only [add_plain] at hxz26_0|skip)
            obtain ⟨hx69_0,hf69_0⟩:=Kd.R_celln 0 HO_0.out ((ji65):Int) p69 q69
            replace p69:=eq_true p69
            replace q69:=eq_true q69
            have HP73:=Kd.R_putg HO_0.out ((ji65):Int) 10
            go_wp2_with (first|((with_reducible refine gate_store (t:=5) (p:=149) rfl ?_);refine store_event (t:=5) (p:=149) (v:=?vo_w74) (w1:=(wc.setCell ⟨go69,((ji65):Int).toNat,none⟩ (.int .u8 10))) ?hg ?ho ?hn ?hr ?_;(case ho=>rfl);(case hg=>rfl);(case hn=>rfl);(case hr=>first|(go_simp;done)|(go_simp;rfl));intro w74 hw;have hg:wc.grownBy w74 (some go69):=(by rw [hw];exact HP73.2);have hp_:Kd.R (Kd.int .u8) 5 w74 w0.heap.size (fun k_=>(P0_ k_∨w.heap.size≤k_)) (.slice (some ⟨go69,0,none⟩) x0_57.length co72) yz21:=(by rw [hw,Nyz21.out];exact HP73.1);clear HP73;have _:=Ak (hp_);have _:=Ak ((by rw [hw];exact below_set (HB.out) GB69.out:Below w0.heap.size w0 w74));have _:=Ak (Kept.of_grown (S:=(fun k_=>P0_ k_)) hg oP (fun k_ e_=>(HO_0.out.1 k_ e_)));clear HO_0 HB HK;rename_i HO_0 HB HK;clear hg hw hp_;have pz27:0≤((ji65):Int):=of_decide_eq_true oA;have qz27:(ji65)<(yz21.length:Int):=(by have h_:((ji65):Int)<((x0_57.length:Int):Int):=of_decide_eq_true oA;first|(have e_:=(Kd.R_reads' HO_0.out).1;omega)|simpa only [Nyz21.out,List.length_set] using h_);have qlz27:(((ji65):Int)<((x0_57.length:Int):Int))=True:=eq_true (of_decide_eq_true oA);obtain ⟨adz27,ez27,hxz27_0⟩:=Kd.at_int (Kd.R_reads' HO_0.out).2.2 (ji65) pz27 qz27;obtain rfl:(⟨go69,0,none⟩:Addr)=adz27:=(by injection ez27);(first|simp only [add_plain] at hxz27_0|simp only [add_at] at hxz27_0|simp only [Addr.add,Nat.zero_add] at hxz27_0|skip);replace pz27:=eq_true pz27;replace qz27:=eq_true qz27)|((with_reducible refine gate_builtin (b := .append) (xs := #[.tmp 166, .tmp 168]) rfl ?_);(try (refine gate_guard (by rfl) ?_;dsimp only));at_builtin;refine Kd.R_append (Kd.int .u8) (w0:=w0) w0.heap.size rfl (.tmp 166) (.tmp 168) 44 5 (.int .u8 0) 1 rfl Try.underlying44 info5 rfl (by decide) (by omega) (.slice (some ⟨go69,0,none⟩) x0_57.length co72) yz21 a4 [.int .u8 a4] (fun k_=>(P0_ k_∨w.heap.size≤k_)) (fun _=>False) rfl rfl ?aP (fun _ hk=>hk.elim) ?aF ?aO ?aB ?aS ?aL ?_;(case aP=>exact rfl);(case aB=>exact oB);(case aF=>exact (fun k_ hk=>(.inr (Nat.le_trans (by first|exact HK.out.1|exact (show Kept w _ (fun k_=>P0_ k_) from oP).1) hk))));(case aO=>exact (oR HO_0.out));(case aS=>exact (below_size oB));(case aL=>have:=LMc71.out;omega);intro vz28 w75 ho hb hg hat;rw [← Nyz25.out] at ho;have _:=Ak (hb);have _:=Ak (Kept.of_grown (S:=(fun k_=>P0_ k_)) hg oP (fun k_ e_=>(HO_0.out.1 k_ e_)));have _:=Ak (ho);clear HB HK HO_0;rename_i HB HK HOz29;clear ho hb hg hat))
            refine bodyPost_ret (results_list (rs:=[.tmp 26, .tmp 27, .tmp 28, .tmp 29]) rfl (by simp) (.tmp (.tmp (.tmp (.tmp .nil))))) rfl ?_
            exact ⟨_,by first|rfl|(simp [errW_none,errW_some] <;> rfl)|(simp only [← hji65];first|rfl|(simp [errW_none,errW_some] <;> rfl))|(simp [*, errW_none,errW_some] <;> rfl),oR HOz29.out,oB,oP⟩
           rw [if_neg c70] at H
           have c70b0:((rd yz21 (ji65)) == a3)=false:=beq_eq_false_iff_ne.mpr c70
           have c70b1:((rd yz21 (ji65)) != a3)=true:=bne_iff_ne.mpr c70
           replace H:=Option.bind_eq_some_iff.mp H
           obtain ⟨tz22,A760,H⟩:=H
           replace H:(if tz22.length<140737488355328 then (some ((tz22++[a4]),wrap64 (x2_4+1),(x0_57.length:Int),(a3 != 123))) else (none))=some (r1,r2,r3,r4):=H
           have A76:=Ak A760
           clear A760
           by_cases c77:tz22.length<140737488355328
           ·
            rw [if_pos c77] at H
            have LMc77:=Ak c77
            clear c77
            obtain ⟨yz30,hyz30⟩ : ∃ y_:List Int,y_=(tz22++[a4]):=⟨_,rfl⟩
            replace H:(some (yz30,wrap64 (x2_4+1),(x0_57.length:Int),(a3 != 123)))=some (r1,r2,r3,r4):=by first|(rw [hyz30];with_reducible exact H)|(have H2_:=(Option.bind_some _ _).symm.trans H;rw [hyz30];with_reducible exact H2_)|(have H2_:=(Option.bind_some _ _).symm.trans H;with_reducible exact H2_)|with_reducible exact H|(rw [hyz30];exact H)|exact H
            have Nyz30:=Ak hyz30
            clear hyz30
            simp only [Option.some.injEq,Prod.mk.injEq] at H
            obtain ⟨rfl,rfl,rfl,rfl⟩:=H
            obtain ⟨Ao78,co78,eo78⟩:=Kd.R_slice HO_0.out
            subst eo78
            have pz26:0≤((ji65):Int):=of_decide_eq_true oA
            have qz26:(ji65)<(x0_57.length:Int):=of_decide_eq_true oA
            obtain ⟨adz26,ez26,hxz26_0⟩:=Kd.at_int (Kd.R_reads' HO_0.out).2.2 (ji65) pz26 qz26
            cases ez26
            replace pz26:=eq_true pz26
            replace qz26:=eq_true qz26
            have p69:0≤((ji65):Int):=of_decide_eq_true oA
            have q69:((ji65):Int)<((x0_57.length:Int):Int):=of_decide_eq_true oA
            obtain ⟨go69,co69,eo69,gb69,gl69,cl69,HG69⟩:=Kd.R_form HO_0.out (by omega)
            (first|cases eo69|(injection eo69 with ea_ en_ ec_;(first|subst ea_|(injection ea_ with ea_;subst ea_));subst ec_;clear en_))
            have GB69:=Ak gb69
            have GG69:=Ak HG69
            clear gb69 gl69 HG69
            have HMgo69:=Ak (show (P0_ go69∨w.heap.size≤go69) from (HO_0.out.1 _ rfl))
            (first|simp only [add_plain] at hxz26_0|skip)
            obtain ⟨hx69_0,hf69_0⟩:=Kd.R_celln 0 HO_0.out ((ji65):Int) p69 q69
            replace p69:=eq_true p69
            replace q69:=eq_true q69
            have HP79:=Kd.R_putg HO_0.out ((ji65):Int) 10
            go_wp2_with (first|((with_reducible refine gate_store (t:=5) (p:=149) rfl ?_);refine store_event (t:=5) (p:=149) (v:=?vo_w80) (w1:=(wc.setCell ⟨go69,((ji65):Int).toNat,none⟩ (.int .u8 10))) ?hg ?ho ?hn ?hr ?_;(case ho=>rfl);(case hg=>rfl);(case hn=>rfl);(case hr=>first|(go_simp;done)|(go_simp;rfl));intro w80 hw;have hg:wc.grownBy w80 (some go69):=(by rw [hw];exact HP79.2);have hp_:Kd.R (Kd.int .u8) 5 w80 w0.heap.size (fun k_=>(P0_ k_∨w.heap.size≤k_)) (.slice (some ⟨go69,0,none⟩) x0_57.length co78) yz21:=(by rw [hw,Nyz21.out];exact HP79.1);clear HP79;have _:=Ak (hp_);have _:=Ak ((by rw [hw];exact below_set (HB.out) GB69.out:Below w0.heap.size w0 w80));have _:=Ak (Kept.of_grown (S:=(fun k_=>P0_ k_)) hg oP (fun k_ e_=>(HO_0.out.1 k_ e_)));clear HO_0 HB HK;rename_i HO_0 HB HK;clear hg hw hp_;have pz27:0≤((ji65):Int):=of_decide_eq_true oA;have qz27:(ji65)<(yz21.length:Int):=(by have h_:((ji65):Int)<((x0_57.length:Int):Int):=of_decide_eq_true oA;first|(have e_:=(Kd.R_reads' HO_0.out).1;omega)|simpa only [Nyz21.out,List.length_set] using h_);have qlz27:(((ji65):Int)<((x0_57.length:Int):Int))=True:=eq_true (of_decide_eq_true oA);obtain ⟨adz27,ez27,hxz27_0⟩:=Kd.at_int (Kd.R_reads' HO_0.out).2.2 (ji65) pz27 qz27;obtain rfl:(⟨go69,0,none⟩:Addr)=adz27:=(by injection ez27);(first|simp only [add_plain] at hxz27_0|simp only [add_at] at hxz27_0|simp only [Addr.add,Nat.zero_add] at hxz27_0|skip);replace pz27:=eq_true pz27;replace qz27:=eq_true qz27)|((with_reducible refine gate_callee (f:=47) rfl ?_);refine goesL_ (some 165) rfl rfl Try.func47 (by kernel_rfl) rfl #[.slice (some ⟨go69,0,none⟩) x0_57.length co78, .string a7, .string a8, .int .i64 a10] rfl oM ?_;(with_reducible refine (pT.calls kj57 (fun k_=>some k_=(.slice (some ⟨go69,0,none⟩) x0_57.length co78:Value).ownBlock) (.slice (some ⟨go69,0,none⟩) x0_57.length co78) yz21 a7 a8 a10 tz22 w0 _ ?side1 ?side2 A76.out).mono ?_);(case side1=>exact oB);(case side2=>exact Kd.R_tight rfl HO_0.out);rintro e w81 ⟨vz31,rfl,ho0,hb,hkp⟩;refine ⟨_,rfl,?_⟩;have _:=Ak (Kd.R_mono (ok':=fun k_=>(P0_ k_∨w.heap.size≤k_)) ho0 (fun k_ hk_=>Or.elim hk_ (fun hs_=>(HO_0.out.1 k_ (hs_).symm)) (fun hn_=>(.inr (Nat.le_trans (by first|exact HK.out.1|exact (show Kept w _ (fun k_=>P0_ k_) from oP).1) hn_)))));have _:=Ak (Kept.then_ (S:=(fun k_=>P0_ k_)) oP hkp (fun k_ hs_=>(fun e_=>(HO_0.out.1 k_ e_.symm)) hs_));have _:=Ak (hb);clear HK HB HO_0;rename_i HOz32 HK HB;(try clear hb);(try clear hkp);(try clear ho0))|((with_reducible refine gate_builtin (b := .append) (xs := #[.tmp 166, .tmp 168]) rfl ?_);(try (refine gate_guard (by rfl) ?_;dsimp only));at_builtin;refine Kd.R_append (Kd.int .u8) (w0:=w0) w0.heap.size rfl (.tmp 166) (.tmp 168) 44 5 (.int .u8 0) 1 rfl Try.underlying44 info5 rfl (by decide) (by omega) vz31 tz22 a4 [.int .u8 a4] (fun k_=>(P0_ k_∨w.heap.size≤k_)) (fun _=>False) rfl rfl ?aP (fun _ hk=>hk.elim) ?aF ?aO ?aB ?aS ?aL ?_;(case aP=>exact rfl);(case aB=>exact oB);(case aF=>exact (fun k_ hk=>(.inr (Nat.le_trans (by first|exact HK.out.1|exact (show Kept w _ (fun k_=>P0_ k_) from oP).1) hk))));(case aO=>exact (oR HOz32.out));(case aS=>exact (below_size oB));(case aL=>have:=LMc77.out;omega);intro vz33 w82 ho hb hg hat;rw [← Nyz30.out] at ho;have _:=Ak (hb);have _:=Ak (Kept.of_grown (S:=(fun k_=>P0_ k_)) hg oP (fun k_ e_=>(HOz32.out.1 k_ e_)));have _:=Ak (ho);clear HB HK HOz32;rename_i HB HK HOz34;clear ho hb hg hat))
            refine bodyPost_ret (results_list (rs:=[.tmp 26, .tmp 27, .tmp 28, .tmp 29]) rfl (by simp) (.tmp (.tmp (.tmp (.tmp .nil))))) rfl ?_
            exact ⟨_,by first|rfl|(simp [errW_none,errW_some] <;> rfl)|(simp only [← hji65];first|rfl|(simp [errW_none,errW_some] <;> rfl))|(simp [*, errW_none,errW_some] <;> rfl),oR HOz34.out,oB,oP⟩
           rw [if_neg c77] at H
           exact absurd H (by simp)
          rw [if_neg c68] at H
          have c68b0:((rd x0_57 (ji65)) == 32)=false:=beq_eq_false_iff_ne.mpr c68
          have c68b1:((rd x0_57 (ji65)) != 32)=true:=bne_iff_ne.mpr c68
          by_cases c83:x0_57.length<140737488355328
          ·
           rw [if_pos c83] at H
           have LMc83:=Ak c83
           clear c83
           obtain ⟨yz23,hyz23⟩ : ∃ y_:List Int,y_=(x0_57++[10]):=⟨_,rfl⟩
           replace H:(if 0≤(wrap64 ((yz23.length:Int) - 1)) then (if (wrap64 ((yz23.length:Int) - 1))<(yz23.length:Int) then (if (rd yz23 (wrap64 ((yz23.length:Int) - 1)))=a3 then (if yz23.length<140737488355328 then (some ((yz23++[a4]),wrap64 (x2_4+1),(x0_57.length:Int),(a3 != 123))) else (none)) else ((pT.f kj57 yz23 a7 a8 a10).bind fun tz24=>(if tz24.length<140737488355328 then (some ((tz24++[a4]),wrap64 (x2_4+1),(x0_57.length:Int),(a3 != 123))) else (none)))) else (none)) else (none))=some (r1,r2,r3,r4):=by first|(rw [hyz23];with_reducible exact H)|(have H2_:=(Option.bind_some _ _).symm.trans H;rw [hyz23];with_reducible exact H2_)|(have H2_:=(Option.bind_some _ _).symm.trans H;with_reducible exact H2_)|with_reducible exact H|(rw [hyz23];exact H)|exact H
           have Nyz23:=Ak hyz23
           clear hyz23
           obtain ⟨ji84,hji84⟩ : ∃ j_:Int,(wrap64 ((yz23.length:Int) - 1))=j_:=⟨_,rfl⟩
           replace H:(if 0≤(ji84) then (if (ji84)<(yz23.length:Int) then (if (rd yz23 (ji84))=a3 then (if yz23.length<140737488355328 then (some ((yz23++[a4]),wrap64 (x2_4+1),(x0_57.length:Int),(a3 != 123))) else (none)) else ((pT.f kj57 yz23 a7 a8 a10).bind fun tz24=>(if tz24.length<140737488355328 then (some ((tz24++[a4]),wrap64 (x2_4+1),(x0_57.length:Int),(a3 != 123))) else (none)))) else (none)) else (none))=some (r1,r2,r3,r4):=by first|(rw [hji84] at H;exact H)|(simp only [hji84] at H ⊢; exact H)
           have hji84w:(IntKind.i64.wrap ((yz23.length:Int) - 1))=ji84:=(i64_w _).trans hji84
           by_cases c85:0≤(ji84)
           rotate_left
           ·
            rw [if_neg c85] at H
            exact absurd H (by simp)
           rw [if_pos c85] at H
           have c85b0:decide (0≤(ji84))=true:=decide_eq_true c85
           clear c85
           by_cases c86:(ji84)<(yz23.length:Int)
           ·
            rw [if_pos c86] at H
            have c86b0:decide ((ji84)<(yz23.length:Int))=true:=decide_eq_true c86
            clear c86
            by_cases c87:(rd yz23 (ji84))=a3
            ·
             rw [if_pos c87] at H
             have c87b0:((rd yz23 (ji84)) == a3)=true:=beq_iff_eq.mpr c87
             have c87b1:((rd yz23 (ji84)) != a3)=false:=bne_eq_false_iff_eq.mpr c87
             clear c87
             by_cases c88:yz23.length<140737488355328
             rotate_left
             ·
              rw [if_neg c88] at H
              exact absurd H (by simp)
             rw [if_pos c88] at H
             have LMc88:=Ak c88
             clear c88
             obtain ⟨yz35,hyz35⟩ : ∃ y_:List Int,y_=(yz23++[a4]):=⟨_,rfl⟩
             replace H:(some (yz35,wrap64 (x2_4+1),(x0_57.length:Int),(a3 != 123)))=some (r1,r2,r3,r4):=by first|(rw [hyz35];with_reducible exact H)|(have H2_:=(Option.bind_some _ _).symm.trans H;rw [hyz35];with_reducible exact H2_)|(have H2_:=(Option.bind_some _ _).symm.trans H;with_reducible exact H2_)|with_reducible exact H|(rw [hyz35];exact H)|exact H
             have Nyz35:=Ak hyz35
             clear hyz35
             simp only [Option.some.injEq,Prod.mk.injEq] at H
             obtain ⟨rfl,rfl,rfl,rfl⟩:=H
             obtain ⟨Ao89,co89,eo89⟩:=Kd.R_slice HO_0.out
             subst eo89
             have pz26:0≤((ji65):Int):=of_decide_eq_true oA
             have qz26:(ji65)<(x0_57.length:Int):=of_decide_eq_true oA
             obtain ⟨adz26,ez26,hxz26_0⟩:=Kd.at_int (Kd.R_reads' HO_0.out).2.2 (ji65) pz26 qz26
             cases ez26
             replace pz26:=eq_true pz26
             replace qz26:=eq_true qz26
             go_wp2_with (first|((with_reducible refine gate_builtin (b := .append) (xs := #[.tmp 150, .tmp 151]) rfl ?_);(try (refine gate_guard (by rfl) ?_;dsimp only));at_builtin;refine Kd.R_append (Kd.int .u8) (w0:=w0) w0.heap.size rfl (.tmp 150) (.tmp 151) 44 5 (.int .u8 0) 1 rfl Try.underlying44 info5 rfl (by decide) (by omega) (.slice (some adz26) x0_57.length co89) x0_57 10 [.int .u8 10] (fun k_=>(P0_ k_∨w.heap.size≤k_)) (fun _=>False) rfl rfl ?aP (fun _ hk=>hk.elim) ?aF ?aO ?aB ?aS ?aL ?_;(case aP=>exact rfl);(case aB=>exact oB);(case aF=>exact (fun k_ hk=>(.inr (Nat.le_trans (by first|exact HK.out.1|exact (show Kept w _ (fun k_=>P0_ k_) from oP).1) hk))));(case aO=>exact (oR HO_0.out));(case aS=>exact (below_size oB));(case aL=>have:=LMc83.out;omega);intro vz36 w90 ho hb hg hat;rw [← Nyz23.out] at ho;have _:=Ak (hb);have _:=Ak (Kept.of_grown (S:=(fun k_=>P0_ k_)) hg oP (fun k_ e_=>(HO_0.out.1 k_ e_)));have _:=Ak (ho);clear HB HK HO_0;rename_i HB HK HOz37;clear ho hb hg hat;obtain ⟨Ao91,co91,eo91⟩:=Kd.R_slice HOz37.out;subst eo91;have pz38:0≤((ji84):Int):=of_decide_eq_true oA;have qz38:(ji84)<(yz23.length:Int):=of_decide_eq_true oA;obtain ⟨adz38,ez38,hxz38_0⟩:=Kd.at_int (Kd.R_reads' HOz37.out).2.2 (ji84) pz38 qz38;cases ez38;replace pz38:=eq_true pz38;replace qz38:=eq_true qz38)|((with_reducible refine gate_builtin (b := .append) (xs := #[.tmp 166, .tmp 168]) rfl ?_);(try (refine gate_guard (by rfl) ?_;dsimp only));at_builtin;refine Kd.R_append (Kd.int .u8) (w0:=w0) w0.heap.size rfl (.tmp 166) (.tmp 168) 44 5 (.int .u8 0) 1 rfl Try.underlying44 info5 rfl (by decide) (by omega) (.slice (some adz38) yz23.length co91) yz23 a4 [.int .u8 a4] (fun k_=>(P0_ k_∨w.heap.size≤k_)) (fun _=>False) rfl rfl ?aP (fun _ hk=>hk.elim) ?aF ?aO ?aB ?aS ?aL ?_;(case aP=>exact rfl);(case aB=>exact oB);(case aF=>exact (fun k_ hk=>(.inr (Nat.le_trans (by first|exact HK.out.1|exact (show Kept w _ (fun k_=>P0_ k_) from oP).1) hk))));(case aO=>exact (oR HOz37.out));(case aS=>exact (below_size oB));(case aL=>have:=LMc88.out;omega);intro vz39 w92 ho hb hg hat;rw [← Nyz35.out] at ho;have _:=Ak (hb);have _:=Ak (Kept.of_grown (S:=(fun k_=>P0_ k_)) hg oP (fun k_ e_=>(HOz37.out.1 k_ e_)));have _:=Ak (ho);clear HB HK HOz37;rename_i HB HK HOz40;clear ho hb hg hat))
             refine bodyPost_ret (results_list (rs:=[.tmp 26, .tmp 27, .tmp 28, .tmp 29]) rfl (by simp) (.tmp (.tmp (.tmp (.tmp .nil))))) rfl ?_
             exact ⟨_,by first|rfl|(simp [errW_none,errW_some] <;> rfl)|(simp only [← hji65, ← hji84];first|rfl|(simp [errW_none,errW_some] <;> rfl))|(simp [*, errW_none,errW_some] <;> rfl),oR HOz40.out,oB,oP⟩
            rw [if_neg c87] at H
            have c87b0:((rd yz23 (ji84)) == a3)=false:=beq_eq_false_iff_ne.mpr c87
            have c87b1:((rd yz23 (ji84)) != a3)=true:=bne_iff_ne.mpr c87
            replace H:=Option.bind_eq_some_iff.mp H
            obtain ⟨tz24,A930,H⟩:=H
            replace H:(if tz24.length<140737488355328 then (some ((tz24++[a4]),wrap64 (x2_4+1),(x0_57.length:Int),(a3 != 123))) else (none))=some (r1,r2,r3,r4):=H
            have A93:=Ak A930
            clear A930
            by_cases c94:tz24.length<140737488355328
            ·
             rw [if_pos c94] at H
             have LMc94:=Ak c94
             clear c94
             obtain ⟨yz41,hyz41⟩ : ∃ y_:List Int,y_=(tz24++[a4]):=⟨_,rfl⟩
             replace H:(some (yz41,wrap64 (x2_4+1),(x0_57.length:Int),(a3 != 123)))=some (r1,r2,r3,r4):=by first|(rw [hyz41];with_reducible exact H)|(have H2_:=(Option.bind_some _ _).symm.trans H;rw [hyz41];with_reducible exact H2_)|(have H2_:=(Option.bind_some _ _).symm.trans H;with_reducible exact H2_)|with_reducible exact H|(rw [hyz41];exact H)|exact H
             have Nyz41:=Ak hyz41
             clear hyz41
             simp only [Option.some.injEq,Prod.mk.injEq] at H
             obtain ⟨rfl,rfl,rfl,rfl⟩:=H
             obtain ⟨Ao95,co95,eo95⟩:=Kd.R_slice HO_0.out
             subst eo95
             have pz26:0≤((ji65):Int):=of_decide_eq_true oA
             have qz26:(ji65)<(x0_57.length:Int):=of_decide_eq_true oA
             obtain ⟨adz26,ez26,hxz26_0⟩:=Kd.at_int (Kd.R_reads' HO_0.out).2.2 (ji65) pz26 qz26
             cases ez26
             replace pz26:=eq_true pz26
             replace qz26:=eq_true qz26
             go_wp2_with (first|((with_reducible refine gate_builtin (b := .append) (xs := #[.tmp 150, .tmp 151]) rfl ?_);(try (refine gate_guard (by rfl) ?_;dsimp only));at_builtin;refine Kd.R_append (Kd.int .u8) (w0:=w0) w0.heap.size rfl (.tmp 150) (.tmp 151) 44 5 (.int .u8 0) 1 rfl Try.underlying44 info5 rfl (by decide) (by omega) (.slice (some adz26) x0_57.length co95) x0_57 10 [.int .u8 10] (fun k_=>(P0_ k_∨w.heap.size≤k_)) (fun _=>False) rfl rfl ?aP (fun _ hk=>hk.elim) ?aF ?aO ?aB ?aS ?aL ?_;(case aP=>exact rfl);(case aB=>exact oB);(case aF=>exact (fun k_ hk=>(.inr (Nat.le_trans (by first|exact HK.out.1|exact (show Kept w _ (fun k_=>P0_ k_) from oP).1) hk))));(case aO=>exact (oR HO_0.out));(case aS=>exact (below_size oB));(case aL=>have:=LMc83.out;omega);intro vz36 w96 ho hb hg hat;rw [← Nyz23.out] at ho;have _:=Ak (hb);have _:=Ak (Kept.of_grown (S:=(fun k_=>P0_ k_)) hg oP (fun k_ e_=>(HO_0.out.1 k_ e_)));have _:=Ak (ho);clear HB HK HO_0;rename_i HB HK HOz37;clear ho hb hg hat;obtain ⟨Ao97,co97,eo97⟩:=Kd.R_slice HOz37.out;subst eo97;have pz38:0≤((ji84):Int):=of_decide_eq_true oA;have qz38:(ji84)<(yz23.length:Int):=of_decide_eq_true oA;obtain ⟨adz38,ez38,hxz38_0⟩:=Kd.at_int (Kd.R_reads' HOz37.out).2.2 (ji84) pz38 qz38;cases ez38;replace pz38:=eq_true pz38;replace qz38:=eq_true qz38)|((with_reducible refine gate_callee (f:=47) rfl ?_);refine goesL_ (some 165) rfl rfl Try.func47 (by kernel_rfl) rfl #[.slice (some adz38) yz23.length co97, .string a7, .string a8, .int .i64 a10] rfl oM ?_;(with_reducible refine (pT.calls kj57 (fun k_=>some k_=(.slice (some adz38) yz23.length co97:Value).ownBlock) (.slice (some adz38) yz23.length co97) yz23 a7 a8 a10 tz24 w0 _ ?side1 ?side2 A93.out).mono ?_);(case side1=>exact oB);(case side2=>exact Kd.R_tight rfl HOz37.out);rintro e w98 ⟨vz42,rfl,ho0,hb,hkp⟩;refine ⟨_,rfl,?_⟩;have _:=Ak (Kd.R_mono (ok':=fun k_=>(P0_ k_∨w.heap.size≤k_)) ho0 (fun k_ hk_=>Or.elim hk_ (fun hs_=>(HOz37.out.1 k_ (hs_).symm)) (fun hn_=>(.inr (Nat.le_trans (by first|exact HK.out.1|exact (show Kept w _ (fun k_=>P0_ k_) from oP).1) hn_)))));have _:=Ak (Kept.then_ (S:=(fun k_=>P0_ k_)) oP hkp (fun k_ hs_=>(fun e_=>(HOz37.out.1 k_ e_.symm)) hs_));have _:=Ak (hb);clear HK HB HOz37;rename_i HOz43 HK HB;(try clear hb);(try clear hkp);(try clear ho0))|((with_reducible refine gate_builtin (b := .append) (xs := #[.tmp 166, .tmp 168]) rfl ?_);(try (refine gate_guard (by rfl) ?_;dsimp only));at_builtin;refine Kd.R_append (Kd.int .u8) (w0:=w0) w0.heap.size rfl (.tmp 166) (.tmp 168) 44 5 (.int .u8 0) 1 rfl Try.underlying44 info5 rfl (by decide) (by omega) vz42 tz24 a4 [.int .u8 a4] (fun k_=>(P0_ k_∨w.heap.size≤k_)) (fun _=>False) rfl rfl ?aP (fun _ hk=>hk.elim) ?aF ?aO ?aB ?aS ?aL ?_;(case aP=>exact rfl);(case aB=>exact oB);(case aF=>exact (fun k_ hk=>(.inr (Nat.le_trans (by first|exact HK.out.1|exact (show Kept w _ (fun k_=>P0_ k_) from oP).1) hk))));(case aO=>exact (oR HOz43.out));(case aS=>exact (below_size oB));(case aL=>have:=LMc94.out;omega);intro vz44 w99 ho hb hg hat;rw [← Nyz41.out] at ho;have _:=Ak (hb);have _:=Ak (Kept.of_grown (S:=(fun k_=>P0_ k_)) hg oP (fun k_ e_=>(HOz43.out.1 k_ e_)));have _:=Ak (ho);clear HB HK HOz43;rename_i HB HK HOz45;clear ho hb hg hat))
             refine bodyPost_ret (results_list (rs:=[.tmp 26, .tmp 27, .tmp 28, .tmp 29]) rfl (by simp) (.tmp (.tmp (.tmp (.tmp .nil))))) rfl ?_
             exact ⟨_,by first|rfl|(simp [errW_none,errW_some] <;> rfl)|(simp only [← hji65, ← hji84];first|rfl|(simp [errW_none,errW_some] <;> rfl))|(simp [*, errW_none,errW_some] <;> rfl),oR HOz45.out,oB,oP⟩
            rw [if_neg c94] at H
            exact absurd H (by simp)
           rw [if_neg c86] at H
           exact absurd H (by simp)
          rw [if_neg c83] at H
          exact absurd H (by simp)
         rw [if_neg c66] at H
         exact absurd H (by simp)
      rw [if_neg c54] at H
      have c54b0:((rd l1 x2_4) == a4)=false:=beq_eq_false_iff_ne.mpr c54
      have c54b1:((rd l1 x2_4) != a4)=true:=bne_iff_ne.mpr c54
      have HC114:=Ak H
      clear H
      have pz16:0≤(x2_4:Int):=of_decide_eq_true oA
      have qz16:x2_4<(l1.length:Int):=of_decide_eq_true oA
      obtain ⟨adz16,ez16,hxz16_0⟩:=Kd.at_int (Kd.C_kept_now HR1.out HK.out) x2_4 pz16 qz16
      cases ez16
      replace pz16:=eq_true pz16
      replace qz16:=eq_true qz16
      have pz17:0≤(x2_4:Int):=of_decide_eq_true oA
      have qz17:x2_4<(l1.length:Int):=of_decide_eq_true oA
      obtain ⟨adz17,ez17,hxz17_0⟩:=Kd.at_int (Kd.C_kept_now HR1.out HK.out) x2_4 pz17 qz17
      obtain rfl:adz16=adz17:=(by injection ez17)
      replace pz17:=eq_true pz17
      replace qz17:=eq_true qz17
      go_upto_region 36 with (fail)
      go_cut [184] from 109 to 184 (fun v184 wc => ∃ (kq:Nat) (x184_113:Bool),v184 = .bool x184_113∧Aside0 (pO.j7 kq x0_4 l1 x2_4 a3 a4 a5 a6 a7 a8 x9_4 a10 x11_4 a12 x34_4 x35_4 x184_113=some (r1,r2,r3,r4))∧Aside0 (kq≤k4)∧Aside0 (Kd.R (Kd.int .u8) 5 wc w0.heap.size (fun k_=>(P0_ k_∨w.heap.size≤k_)) u0 x0_4)∧Aside0 (Kd.R k82 82 wc w0.heap.size (fun k_=>(P0_ k_∨w.heap.size≤k_)) u34 x34_4)∧Aside0 (Kept w wc (fun k_=>P0_ k_))∧Aside0 (Below w0.heap.size w0 wc))
      case first =>
       have H:=HC114.out
       clear HC114
       by_cases c115:a3=91
       ·
        rw [if_pos c115] at H
        have c115b0:(a3 == 91)=true:=beq_iff_eq.mpr c115
        have c115b1:(a3 != 91)=false:=bne_eq_false_iff_eq.mpr c115
        clear c115
        (first|rw [c115b0]|(simp only [i64_w,i32_w];rw [c115b0])|skip)
        have H':=Ak H
        clear H
        go_wp2
        go_meet
        case rel=>exact ⟨_,(true),oS,H',⟨by have:=HJ13.out;have:=HJ42.out;have:=HJ45.out;have:=HK4.out;first|omega|exact Nat.le_refl _⟩,⟨oR HO_0.out⟩,⟨oR HO_34.out⟩,⟨oP⟩,⟨oB⟩⟩
       rw [if_neg c115] at H
       have c115b0:(a3 == 91)=false:=beq_eq_false_iff_ne.mpr c115
       have c115b1:(a3 != 91)=true:=bne_iff_ne.mpr c115
       (first|rw [c115b0]|(simp only [i64_w,i32_w];rw [c115b0])|skip)
       have H':=Ak H
       clear H
       have pz59:0≤(x2_4:Int):=of_decide_eq_true oA
       have qz59:x2_4<(l1.length:Int):=of_decide_eq_true oA
       obtain ⟨adz59,ez59,hxz59_0⟩:=Kd.at_int (Kd.C_kept_now HR1.out HK.out) x2_4 pz59 qz59
       obtain rfl:adz16=adz59:=(by injection ez59)
       replace pz59:=eq_true pz59
       replace qz59:=eq_true qz59
       go_wp2
       go_meet
       case rel=>exact ⟨_,(((rd l1 x2_4) == 34)),oS,H',⟨by have:=HJ13.out;have:=HJ42.out;have:=HJ45.out;have:=HK4.out;first|omega|exact Nat.le_refl _⟩,⟨oR HO_0.out⟩,⟨oR HO_34.out⟩,⟨oP⟩,⟨oB⟩⟩
      case rest=>as_aux_lemma =>
      clear HC114
      clear c51b0 c52b0 c53b0 c54 c54b0 c54b1 hxz16_0 hxz17_0 pz16 pz17 qz16 qz17
      obtain ⟨kq,x184_113,rfl,HA,HJ113,HO_0,HO_34,HK,HB⟩:=hcut
      cases kq with
      | zero=>exact absurd HA.out (by simp [pO.j7])
      | succ kj113 =>
       have H:=HA.out
       clear HA
       simp only [pO.j7] at H
       by_cases c116:x184_113=true
       rotate_left
       ·
        replace c116:=Bool.eq_false_iff.mpr c116
        subst c116
        have H1:(pO.l0 kj113 x0_4 l1 (wrap64 (x2_4+1)) a3 a4 a5 a6 a7 a8 x9_4 a10 x11_4 a12 x34_4 x35_4)=some (r1,r2,r3,r4):=by rw [if_neg (show ¬ (false=true) by decide)] at H;exact H
        clear H
        have H:=H1
        clear H1
        have H':=Ak H
        clear H
        go_wp2
        go_roundg kj113
        case measure=>have:=HJ13.out;have:=HJ42.out;have:=HJ45.out;have:=HK4.out;have:=HJ113.out;omega
        case rel=>exact ⟨(x0_4),(wrap64 (x2_4+1)),(x9_4),(x11_4),(x34_4),(x35_4),oS,oS,oS,oS,H',⟨by have:=HJ13.out;have:=HJ42.out;have:=HJ45.out;have:=HK4.out;have:=HJ113.out;omega⟩,⟨oR HO_0.out⟩,⟨oR HO_34.out⟩,⟨oP⟩,⟨oB⟩⟩
       subst c116
       have H1:(if x35_4>0 then (if x0_4.length<140737488355328 then ((some (x0_4++[44]:List Int)).bind fun yz60=>(if a6=(-1) then (pO.j8 kj113 yz60 l1 x2_4 a3 a4 a5 a6 a7 a8 x9_4 a10 x11_4 a12 x34_4 x35_4) else (if a3=91 then (if yz60.length<140737488355328 then (pO.j8 kj113 (yz60++[32]) l1 x2_4 a3 a4 a5 a6 a7 a8 x9_4 a10 x11_4 a12 x34_4 x35_4) else (none)) else (pO.j8 kj113 yz60 l1 x2_4 a3 a4 a5 a6 a7 a8 x9_4 a10 x11_4 a12 x34_4 x35_4)))) else (none)) else (pO.j8 kj113 x0_4 l1 x2_4 a3 a4 a5 a6 a7 a8 x9_4 a10 x11_4 a12 x34_4 x35_4))=some (r1,r2,r3,r4):=by rw [if_pos rfl] at H;exact H
       clear H
       have H:=H1
       clear H1
       have HC117:=Ak H
       clear H
       go_upto_if 186 with (fail)
       go_cut [0] from 185 to 186 (fun v0 wc => ∃ (kq:Nat) (x0_116:List Int),Aside0 (pO.j8 kq x0_116 l1 x2_4 a3 a4 a5 a6 a7 a8 x9_4 a10 x11_4 a12 x34_4 x35_4=some (r1,r2,r3,r4))∧Aside0 (kq≤kj113)∧Aside0 (Kd.R (Kd.int .u8) 5 wc w0.heap.size (fun k_=>(P0_ k_∨w.heap.size≤k_)) v0 x0_116)∧Aside0 (Kd.R k82 82 wc w0.heap.size (fun k_=>(P0_ k_∨w.heap.size≤k_)) u34 x34_4)∧Aside0 (Kept w wc (fun k_=>P0_ k_))∧Aside0 (Below w0.heap.size w0 wc))
       case first =>
        have H:=HC117.out
        clear HC117
        by_cases c118:x35_4>0
        rotate_left
        ·
         rw [if_neg c118] at H
         have c118b0:decide (0<x35_4)=false:=decide_eq_false c118
         clear c118
         (first|rw [c118b0]|(simp only [i64_w,i32_w];rw [c118b0])|skip)
         have H':=Ak H
         clear H
         go_wp2
         go_meet
         case rel=>exact ⟨_,(x0_4),H',⟨by have:=HJ13.out;have:=HJ42.out;have:=HJ45.out;have:=HK4.out;have:=HJ113.out;first|omega|exact Nat.le_refl _⟩,⟨oR HO_0.out⟩,⟨oR HO_34.out⟩,⟨oP⟩,⟨oB⟩⟩
        rw [if_pos c118] at H
        have c118b0:decide (0<x35_4)=true:=decide_eq_true c118
        clear c118
        (first|rw [c118b0]|(simp only [i64_w,i32_w];rw [c118b0])|skip)
        by_cases c119:x0_4.length<140737488355328
        ·
         rw [if_pos c119] at H
         have LMc119:=Ak c119
         clear c119
         obtain ⟨yz60,hyz60⟩ : ∃ y_:List Int,y_=(x0_4++[44]):=⟨_,rfl⟩
         replace H:(if a6=(-1) then (pO.j8 kj113 yz60 l1 x2_4 a3 a4 a5 a6 a7 a8 x9_4 a10 x11_4 a12 x34_4 x35_4) else (if a3=91 then (if yz60.length<140737488355328 then (pO.j8 kj113 (yz60++[32]) l1 x2_4 a3 a4 a5 a6 a7 a8 x9_4 a10 x11_4 a12 x34_4 x35_4) else (none)) else (pO.j8 kj113 yz60 l1 x2_4 a3 a4 a5 a6 a7 a8 x9_4 a10 x11_4 a12 x34_4 x35_4)))=some (r1,r2,r3,r4):=by first|(rw [hyz60];with_reducible exact H)|(have H2_:=(Option.bind_some _ _).symm.trans H;rw [hyz60];with_reducible exact H2_)|(have H2_:=(Option.bind_some _ _).symm.trans H;with_reducible exact H2_)|with_reducible exact H|(rw [hyz60];exact H)|exact H
         have Nyz60:=Ak hyz60
         clear hyz60
         by_cases c120:a6=(-1)
         ·
          rw [if_pos c120] at H
          have c120b0:(a6 == (-1))=true:=beq_iff_eq.mpr c120
          have c120b1:(a6 != (-1))=false:=bne_eq_false_iff_eq.mpr c120
          clear c120
          have H':=Ak H
          clear H
          go_wp2_with (first|((with_reducible refine gate_builtin (b := .append) (xs := #[.tmp 187, .tmp 188]) rfl ?_);(try (refine gate_guard (by rfl) ?_;dsimp only));at_builtin;refine Kd.R_append (Kd.int .u8) (w0:=w0) w0.heap.size rfl (.tmp 187) (.tmp 188) 44 5 (.int .u8 0) 1 rfl Try.underlying44 info5 rfl (by decide) (by omega) u0 x0_4 44 [.int .u8 44] (fun k_=>(P0_ k_∨w.heap.size≤k_)) (fun _=>False) rfl rfl ?aP (fun _ hk=>hk.elim) ?aF ?aO ?aB ?aS ?aL ?_;(case aP=>exact rfl);(case aB=>exact oB);(case aF=>exact (fun k_ hk=>(.inr (Nat.le_trans (by first|exact HK.out.1|exact (show Kept w _ (fun k_=>P0_ k_) from oP).1) hk))));(case aO=>exact (oR HO_0.out));(case aS=>exact (below_size oB));(case aL=>have:=LMc119.out;omega);intro vz61 w121 ho hb hg hat;rw [← Nyz60.out] at ho;have _:=Ak (Kd.R_over' (oR HO_34.out) (Kd.R_typed (oR HO_0.out)) (by decide) hg);have _:=Ak (hb);have _:=Ak (Kept.of_grown (S:=(fun k_=>P0_ k_)) hg oP (fun k_ e_=>(HO_0.out.1 k_ e_)));have _:=Ak (ho);clear HO_34 HB HK HO_0;rename_i HO_34 HB HK HOz62;clear ho hb hg hat))
          go_meet
          case rel=>exact ⟨_,(yz60),H',⟨by have:=HJ13.out;have:=HJ42.out;have:=HJ45.out;have:=HK4.out;have:=HJ113.out;first|omega|exact Nat.le_refl _⟩,⟨oR HOz62.out⟩,⟨oR HO_34.out⟩,⟨oP⟩,⟨oB⟩⟩
         rw [if_neg c120] at H
         have c120b0:(a6 == (-1))=false:=beq_eq_false_iff_ne.mpr c120
         have c120b1:(a6 != (-1))=true:=bne_iff_ne.mpr c120
         by_cases c122:a3=91
         ·
          rw [if_pos c122] at H
          have c122b0:(a3 == 91)=true:=beq_iff_eq.mpr c122
          have c122b1:(a3 != 91)=false:=bne_eq_false_iff_eq.mpr c122
          clear c122
          by_cases c123:yz60.length<140737488355328
          rotate_left
          ·
           rw [if_neg c123] at H
           exact absurd H (by simp)
          rw [if_pos c123] at H
          have LMc123:=Ak c123
          clear c123
          obtain ⟨yz63,hyz63⟩ : ∃ y_:List Int,y_=(yz60++[32]):=⟨_,rfl⟩
          replace H:(pO.j8 kj113 yz63 l1 x2_4 a3 a4 a5 a6 a7 a8 x9_4 a10 x11_4 a12 x34_4 x35_4)=some (r1,r2,r3,r4):=by first|(rw [hyz63];with_reducible exact H)|(have H2_:=(Option.bind_some _ _).symm.trans H;rw [hyz63];with_reducible exact H2_)|(have H2_:=(Option.bind_some _ _).symm.trans H;with_reducible exact H2_)|with_reducible exact H|(rw [hyz63];exact H)|exact H
          have Nyz63:=Ak hyz63
          clear hyz63
          have H':=Ak H
          clear H
          go_wp2_with (first|((with_reducible refine gate_builtin (b := .append) (xs := #[.tmp 187, .tmp 188]) rfl ?_);(try (refine gate_guard (by rfl) ?_;dsimp only));at_builtin;refine Kd.R_append (Kd.int .u8) (w0:=w0) w0.heap.size rfl (.tmp 187) (.tmp 188) 44 5 (.int .u8 0) 1 rfl Try.underlying44 info5 rfl (by decide) (by omega) u0 x0_4 44 [.int .u8 44] (fun k_=>(P0_ k_∨w.heap.size≤k_)) (fun _=>False) rfl rfl ?aP (fun _ hk=>hk.elim) ?aF ?aO ?aB ?aS ?aL ?_;(case aP=>exact rfl);(case aB=>exact oB);(case aF=>exact (fun k_ hk=>(.inr (Nat.le_trans (by first|exact HK.out.1|exact (show Kept w _ (fun k_=>P0_ k_) from oP).1) hk))));(case aO=>exact (oR HO_0.out));(case aS=>exact (below_size oB));(case aL=>have:=LMc119.out;omega);intro vz61 w124 ho hb hg hat;rw [← Nyz60.out] at ho;have _:=Ak (Kd.R_over' (oR HO_34.out) (Kd.R_typed (oR HO_0.out)) (by decide) hg);have _:=Ak (hb);have _:=Ak (Kept.of_grown (S:=(fun k_=>P0_ k_)) hg oP (fun k_ e_=>(HO_0.out.1 k_ e_)));have _:=Ak (ho);clear HO_34 HB HK HO_0;rename_i HO_34 HB HK HOz62;clear ho hb hg hat)|((with_reducible refine gate_builtin (b := .append) (xs := #[.tmp 196, .tmp 197]) rfl ?_);(try (refine gate_guard (by rfl) ?_;dsimp only));at_builtin;refine Kd.R_append (Kd.int .u8) (w0:=w0) w0.heap.size rfl (.tmp 196) (.tmp 197) 44 5 (.int .u8 0) 1 rfl Try.underlying44 info5 rfl (by decide) (by omega) vz61 yz60 32 [.int .u8 32] (fun k_=>(P0_ k_∨w.heap.size≤k_)) (fun _=>False) rfl rfl ?aP (fun _ hk=>hk.elim) ?aF ?aO ?aB ?aS ?aL ?_;(case aP=>exact rfl);(case aB=>exact oB);(case aF=>exact (fun k_ hk=>(.inr (Nat.le_trans (by first|exact HK.out.1|exact (show Kept w _ (fun k_=>P0_ k_) from oP).1) hk))));(case aO=>exact (oR HOz62.out));(case aS=>exact (below_size oB));(case aL=>have:=LMc123.out;omega);intro vz64 w125 ho hb hg hat;rw [← Nyz63.out] at ho;have _:=Ak (Kd.R_over' (oR HO_34.out) (Kd.R_typed (oR HOz62.out)) (by decide) hg);have _:=Ak (hb);have _:=Ak (Kept.of_grown (S:=(fun k_=>P0_ k_)) hg oP (fun k_ e_=>(HOz62.out.1 k_ e_)));have _:=Ak (ho);clear HO_34 HB HK HOz62;rename_i HO_34 HB HK HOz65;clear ho hb hg hat))
          go_meet
          case rel=>exact ⟨_,(yz63),H',⟨by have:=HJ13.out;have:=HJ42.out;have:=HJ45.out;have:=HK4.out;have:=HJ113.out;first|omega|exact Nat.le_refl _⟩,⟨oR HOz65.out⟩,⟨oR HO_34.out⟩,⟨oP⟩,⟨oB⟩⟩
         rw [if_neg c122] at H
         have c122b0:(a3 == 91)=false:=beq_eq_false_iff_ne.mpr c122
         have c122b1:(a3 != 91)=true:=bne_iff_ne.mpr c122
         have H':=Ak H
         clear H
         go_wp2_with (first|((with_reducible refine gate_builtin (b := .append) (xs := #[.tmp 187, .tmp 188]) rfl ?_);(try (refine gate_guard (by rfl) ?_;dsimp only));at_builtin;refine Kd.R_append (Kd.int .u8) (w0:=w0) w0.heap.size rfl (.tmp 187) (.tmp 188) 44 5 (.int .u8 0) 1 rfl Try.underlying44 info5 rfl (by decide) (by omega) u0 x0_4 44 [.int .u8 44] (fun k_=>(P0_ k_∨w.heap.size≤k_)) (fun _=>False) rfl rfl ?aP (fun _ hk=>hk.elim) ?aF ?aO ?aB ?aS ?aL ?_;(case aP=>exact rfl);(case aB=>exact oB);(case aF=>exact (fun k_ hk=>(.inr (Nat.le_trans (by first|exact HK.out.1|exact (show Kept w _ (fun k_=>P0_ k_) from oP).1) hk))));(case aO=>exact (oR HO_0.out));(case aS=>exact (below_size oB));(case aL=>have:=LMc119.out;omega);intro vz61 w126 ho hb hg hat;rw [← Nyz60.out] at ho;have _:=Ak (Kd.R_over' (oR HO_34.out) (Kd.R_typed (oR HO_0.out)) (by decide) hg);have _:=Ak (hb);have _:=Ak (Kept.of_grown (S:=(fun k_=>P0_ k_)) hg oP (fun k_ e_=>(HO_0.out.1 k_ e_)));have _:=Ak (ho);clear HO_34 HB HK HO_0;rename_i HO_34 HB HK HOz62;clear ho hb hg hat))
         go_meet
         case rel=>exact ⟨_,(yz60),H',⟨by have:=HJ13.out;have:=HJ42.out;have:=HJ45.out;have:=HK4.out;have:=HJ113.out;first|omega|exact Nat.le_refl _⟩,⟨oR HOz62.out⟩,⟨oR HO_34.out⟩,⟨oP⟩,⟨oB⟩⟩
        rw [if_neg c119] at H
        exact absurd H (by simp)
       case rest=>as_aux_lemma =>
       clear HC117
       obtain ⟨kq,x0_116,HA,HJ116,HO_0,HO_34,HK,HB⟩:=hcut
       cases kq with
       | zero=>exact absurd HA.out (by simp [pO.j8])
       | succ kj116 =>
        have H:=HA.out
        clear HA
        simp only [pO.j8] at H
        have HC127:=Ak H
        clear H
        go_upto_if 199 with (first|((with_reducible refine gate_dst (N:=36) rfl ?_);(try (refine gate_guard (by rfl) ?_;dsimp only));refine box_event ?hg (N:=36) ?hd (cs := #[.int .i64 0, .int .i64 0, .int .i64 0, .int .i64 0]) (t:=82) ?hr ?_;(case hd=>rfl);(case hg=>rfl);(case hr=>first|(go_simp;done)|(go_simp;rfl));intro gbz66 hg w128 hbox hb;have _:=Ak (Kd.R_below (oR HO_0.out) hb);have _:=Ak (Kd.R_below (Kd.R_elderB (oR HO_34.out) gbz66 (Nat.le_of_eq hg.symm)) hb);have _:=Ak (Kept.below (S:=(fun k_=>P0_ k_)) oP hb);have _:=Ak (below_step oB hb);have _:=Ak (hbox);have _:=Ak ((by rw [hg];exact (by first|exact HK.out.1|exact (show Kept w _ (fun k_=>P0_ k_) from oP).1):w.heap.size≤gbz66));have _:=Ak ((by rw [hg];exact (below_size oB):w0.heap.size≤gbz66));clear HO_0 HO_34 HK HB;rename_i HO_0 HO_34 HK HB BKz66 GWz66 GEz66;clear hb hbox hg))
        (try simp only [Act.put,List.setIfInBounds_toArray,List.set_cons_zero,List.set_cons_succ])
        go_cut [0,11] from 187 to 199 (fun v0 v11 wc => ∃ (kq:Nat) (x0_126:List Int) (x11_126:Int) (xz67000_126:Int) (xz67002_126:Int),v11 = .int .i64 x11_126∧Aside0 (pO.j9 kq x0_126 l1 x2_4 a3 a4 a5 a6 a7 a8 x9_4 a10 x11_126 a12 x34_4 x35_4 xz67000_126 0 xz67002_126 0=some (r1,r2,r3,r4))∧Aside0 (kq≤kj116)∧Aside0 (Kd.R (Kd.int .u8) 5 wc w0.heap.size (fun k_=>(P0_ k_∨w.heap.size≤k_)) v0 x0_126)∧Aside0 (Kd.R k82 82 wc w0.heap.size (fun k_=>(P0_ k_∨w.heap.size≤k_)∧k_≠gbz66) u34 x34_4)∧Aside0 (wc.heap[gbz66]? = some (.cells #[.int .i64 xz67000_126, .int .i64 0, .int .i64 xz67002_126, .int .i64 0] 82 (0,0)))∧Aside0 (Kept w wc (fun k_=>P0_ k_))∧Aside0 (Below w0.heap.size w0 wc))
        case first =>
         have H:=HC127.out
         clear HC127
         by_cases c129:a5=true
         rotate_left
         ·
          replace c129:=Bool.eq_false_iff.mpr c129
          subst c129
          have H1:(pO.j9 kj116 x0_116 l1 x2_4 a3 a4 false a6 a7 a8 x9_4 a10 x11_4 a12 x34_4 x35_4 0 0 0 0)=some (r1,r2,r3,r4):=by rw [if_neg (show ¬ (false=true) by decide)] at H;exact H
          clear H
          have H:=H1
          clear H1
          have H':=Ak H
          clear H
          go_wp2
          go_meet
          case rel=>exact ⟨_,(x0_116),(x11_4),(0),(0),oS,H',⟨by have:=HJ13.out;have:=HJ42.out;have:=HJ45.out;have:=HK4.out;have:=HJ113.out;have:=HJ116.out;first|omega|exact Nat.le_refl _⟩,⟨oR HO_0.out⟩,⟨oR HO_34.out⟩,⟨oL BKz66.out⟩,⟨oP1 GWz66.out⟩,⟨oB1 GEz66.out⟩⟩
         subst c129
         have H1:(if 0≤(wrap64 ((x0_116.length:Int) - 1)) then (if (wrap64 ((x0_116.length:Int) - 1))<(x0_116.length:Int) then (if (rd x0_116 (wrap64 ((x0_116.length:Int) - 1)))=32 then ((some (x0_116.set ((wrap64 ((x0_116.length:Int) - 1)):Int).toNat 10:List Int)).bind fun yz68=>(if a3=123 then (if x9_4=true then ((pT.f kj116 yz68 a7 a8 (wrap64 (a10+1))).bind fun tz69=>(pO.j9 kj116 tz69 l1 x2_4 a3 a4 true a6 a7 a8 x9_4 a10 (x0_116.length:Int) a12 x34_4 x35_4 x2_4 0 (x0_116.length:Int) 0)) else ((pT.f kj116 yz68 a7 a8 (wrap64 (a10+1))).bind fun tz70=>(pO.j9 kj116 tz70 l1 x2_4 a3 a4 true a6 a7 a8 x9_4 a10 (x0_116.length:Int) a12 x34_4 x35_4 0 0 0 0))) else ((pT.f kj116 yz68 a7 a8 (wrap64 (a10+1))).bind fun tz71=>(pO.j9 kj116 tz71 l1 x2_4 a3 a4 true a6 a7 a8 x9_4 a10 (x0_116.length:Int) a12 x34_4 x35_4 0 0 0 0)))) else (if x0_116.length<140737488355328 then ((some (x0_116++[10]:List Int)).bind fun yz72=>(if a3=123 then (if x9_4=true then ((pT.f kj116 yz72 a7 a8 (wrap64 (a10+1))).bind fun tz73=>(pO.j9 kj116 tz73 l1 x2_4 a3 a4 true a6 a7 a8 x9_4 a10 (x0_116.length:Int) a12 x34_4 x35_4 x2_4 0 (yz72.length:Int) 0)) else ((pT.f kj116 yz72 a7 a8 (wrap64 (a10+1))).bind fun tz74=>(pO.j9 kj116 tz74 l1 x2_4 a3 a4 true a6 a7 a8 x9_4 a10 (x0_116.length:Int) a12 x34_4 x35_4 0 0 0 0))) else ((pT.f kj116 yz72 a7 a8 (wrap64 (a10+1))).bind fun tz75=>(pO.j9 kj116 tz75 l1 x2_4 a3 a4 true a6 a7 a8 x9_4 a10 (x0_116.length:Int) a12 x34_4 x35_4 0 0 0 0)))) else (none))) else (none)) else (none))=some (r1,r2,r3,r4):=by rw [if_pos rfl] at H;exact H
         clear H
         have H:=H1
         clear H1
         obtain ⟨ji130,hji130⟩ : ∃ j_:Int,(wrap64 ((x0_116.length:Int) - 1))=j_:=⟨_,rfl⟩
         replace H:(if 0≤(ji130) then (if (ji130)<(x0_116.length:Int) then (if (rd x0_116 (ji130))=32 then ((some (x0_116.set ((ji130):Int).toNat 10:List Int)).bind fun yz68=>(if a3=123 then (if x9_4=true then ((pT.f kj116 yz68 a7 a8 (wrap64 (a10+1))).bind fun tz69=>(pO.j9 kj116 tz69 l1 x2_4 a3 a4 true a6 a7 a8 x9_4 a10 (x0_116.length:Int) a12 x34_4 x35_4 x2_4 0 (x0_116.length:Int) 0)) else ((pT.f kj116 yz68 a7 a8 (wrap64 (a10+1))).bind fun tz70=>(pO.j9 kj116 tz70 l1 x2_4 a3 a4 true a6 a7 a8 x9_4 a10 (x0_116.length:Int) a12 x34_4 x35_4 0 0 0 0))) else ((pT.f kj116 yz68 a7 a8 (wrap64 (a10+1))).bind fun tz71=>(pO.j9 kj116 tz71 l1 x2_4 a3 a4 true a6 a7 a8 x9_4 a10 (x0_116.length:Int) a12 x34_4 x35_4 0 0 0 0)))) else (if x0_116.length<140737488355328 then ((some (x0_116++[10]:List Int)).bind fun yz72=>(if a3=123 then (if x9_4=true then ((pT.f kj116 yz72 a7 a8 (wrap64 (a10+1))).bind fun tz73=>(pO.j9 kj116 tz73 l1 x2_4 a3 a4 true a6 a7 a8 x9_4 a10 (x0_116.length:Int) a12 x34_4 x35_4 x2_4 0 (yz72.length:Int) 0)) else ((pT.f kj116 yz72 a7 a8 (wrap64 (a10+1))).bind fun tz74=>(pO.j9 kj116 tz74 l1 x2_4 a3 a4 true a6 a7 a8 x9_4 a10 (x0_116.length:Int) a12 x34_4 x35_4 0 0 0 0))) else ((pT.f kj116 yz72 a7 a8 (wrap64 (a10+1))).bind fun tz75=>(pO.j9 kj116 tz75 l1 x2_4 a3 a4 true a6 a7 a8 x9_4 a10 (x0_116.length:Int) a12 x34_4 x35_4 0 0 0 0)))) else (none))) else (none)) else (none))=some (r1,r2,r3,r4):=by first|(rw [hji130] at H;exact H)|(simp only [hji130] at H ⊢; exact H)
         have hji130w:(IntKind.i64.wrap ((x0_116.length:Int) - 1))=ji130:=(i64_w _).trans hji130
         by_cases c131:0≤(ji130)
         ·
          rw [if_pos c131] at H
          have c131b0:decide (0≤(ji130))=true:=decide_eq_true c131
          clear c131
          (first|rw [c131b0]|(simp only [i64_w,i32_w];rw [c131b0])|skip)
          by_cases c132:(ji130)<(x0_116.length:Int)
          rotate_left
          ·
           rw [if_neg c132] at H
           exact absurd H (by simp)
          rw [if_pos c132] at H
          have c132b0:decide ((ji130)<(x0_116.length:Int))=true:=decide_eq_true c132
          clear c132
          by_cases c133:(rd x0_116 (ji130))=32
          ·
           rw [if_pos c133] at H
           have c133b0:((rd x0_116 (ji130)) == 32)=true:=beq_iff_eq.mpr c133
           have c133b1:((rd x0_116 (ji130)) != 32)=false:=bne_eq_false_iff_eq.mpr c133
           clear c133
           obtain ⟨yz68,hyz68⟩ : ∃ y_:List Int,y_=(x0_116.set ((ji130):Int).toNat 10):=⟨_,rfl⟩
           replace H:(if a3=123 then (if x9_4=true then ((pT.f kj116 yz68 a7 a8 (wrap64 (a10+1))).bind fun tz69=>(pO.j9 kj116 tz69 l1 x2_4 a3 a4 true a6 a7 a8 x9_4 a10 (x0_116.length:Int) a12 x34_4 x35_4 x2_4 0 (x0_116.length:Int) 0)) else ((pT.f kj116 yz68 a7 a8 (wrap64 (a10+1))).bind fun tz70=>(pO.j9 kj116 tz70 l1 x2_4 a3 a4 true a6 a7 a8 x9_4 a10 (x0_116.length:Int) a12 x34_4 x35_4 0 0 0 0))) else ((pT.f kj116 yz68 a7 a8 (wrap64 (a10+1))).bind fun tz71=>(pO.j9 kj116 tz71 l1 x2_4 a3 a4 true a6 a7 a8 x9_4 a10 (x0_116.length:Int) a12 x34_4 x35_4 0 0 0 0)))=some (r1,r2,r3,r4):=by first|(rw [hyz68];with_reducible exact H)|(have H2_:=(Option.bind_some _ _).symm.trans H;rw [hyz68];with_reducible exact H2_)|(have H2_:=(Option.bind_some _ _).symm.trans H;with_reducible exact H2_)|with_reducible exact H|(rw [hyz68];exact H)|exact H
           have Nyz68:=Ak hyz68
           clear hyz68
           by_cases c135:a3=123
           rotate_left
           ·
            rw [if_neg c135] at H
            have c135b0:(a3 == 123)=false:=beq_eq_false_iff_ne.mpr c135
            have c135b1:(a3 != 123)=true:=bne_iff_ne.mpr c135
            replace H:=Option.bind_eq_some_iff.mp H
            obtain ⟨tz71,A1510,H⟩:=H
            replace H:(pO.j9 kj116 tz71 l1 x2_4 a3 a4 true a6 a7 a8 x9_4 a10 (x0_116.length:Int) a12 x34_4 x35_4 0 0 0 0)=some (r1,r2,r3,r4):=H
            have A151:=Ak A1510
            clear A1510
            have H':=Ak H
            clear H
            obtain ⟨Ao152,co152,eo152⟩:=Kd.R_slice HO_0.out
            subst eo152
            have pz67:0≤((ji130):Int):=of_decide_eq_true oA
            have qz67:(ji130)<(x0_116.length:Int):=of_decide_eq_true oA
            obtain ⟨adz67,ez67,hxz67_0⟩:=Kd.at_int (Kd.R_reads' HO_0.out).2.2 (ji130) pz67 qz67
            cases ez67
            replace pz67:=eq_true pz67
            replace qz67:=eq_true qz67
            have p134:0≤((ji130):Int):=of_decide_eq_true oA
            have q134:((ji130):Int)<((x0_116.length:Int):Int):=of_decide_eq_true oA
            obtain ⟨go134,co134,eo134,gb134,gl134,cl134,HG134⟩:=Kd.R_form HO_0.out (by omega)
            (first|cases eo134|(injection eo134 with ea_ en_ ec_;(first|subst ea_|(injection ea_ with ea_;subst ea_));subst ec_;clear en_))
            have GB134:=Ak gb134
            have GG134:=Ak HG134
            clear gb134 gl134 HG134
            have HMgo134:=Ak (show (P0_ go134∨w.heap.size≤go134) from (HO_0.out.1 _ rfl))
            (first|simp only [add_plain] at hxz67_0|skip)
            obtain ⟨hx134_0,hf134_0⟩:=Kd.R_celln 0 HO_0.out ((ji130):Int) p134 q134
            replace p134:=eq_true p134
            replace q134:=eq_true q134
            have HP153:=Kd.R_putg HO_0.out ((ji130):Int) 10
            go_wp2_with (first|((with_reducible refine gate_store (t:=5) (p:=211) rfl ?_);refine store_event (t:=5) (p:=211) (v:=?vo_w154) (w1:=(w128.setCell ⟨go134,((ji130):Int).toNat,none⟩ (.int .u8 10))) ?hg ?ho ?hn ?hr ?_;(case ho=>rfl);(case hg=>rfl);(case hn=>rfl);(case hr=>first|(go_simp;done)|(go_simp;rfl));intro w154 hw;have hg:w128.grownBy w154 (some go134):=(by rw [hw];exact HP153.2);have hp_:Kd.R (Kd.int .u8) 5 w154 w0.heap.size (fun k_=>(P0_ k_∨w.heap.size≤k_)) (.slice (some ⟨go134,0,none⟩) x0_116.length co152) yz68:=(by rw [hw,Nyz68.out];exact HP153.1);clear HP153;have _:=Ak (hp_);have _:=Ak (Kd.R_over' (v:=(.slice (some ⟨go134,0,none⟩) x0_116.length co152)) (oR HO_34.out) (Kd.R_typed HO_0.out) (by decide) hg);have _:=Ak (blk_grown (g:=gbz66) (o := .cells #[.int .i64 0, .int .i64 0, .int .i64 0, .int .i64 0] 82 (0,0)) (oL BKz66.out) hg (Kd.R_ne HO_0.out BKz66.out (by decide)));have _:=Ak ((by rw [hw];exact below_set (HB.out) GB134.out:Below w0.heap.size w0 w154));have _:=Ak (Kept.of_grown (S:=(fun k_=>P0_ k_)) hg (oP1 GWz66.out) (fun k_ e_=>(HO_0.out.1 k_ e_)));clear HO_0 HO_34 BKz66 HB HK;rename_i HO_0 HO_34 BKz66 HB HK;clear hg hw hp_)|((with_reducible refine gate_callee (f:=47) rfl ?_);refine goesL_ (some 230) rfl rfl Try.func47 (by kernel_rfl) rfl #[.slice (some ⟨go134,0,none⟩) x0_116.length co152, .string a7, .string a8, .int .i64 (wrap64 (a10+1))] rfl oM ?_;(with_reducible refine (pT.calls kj116 (fun k_=>some k_=(.slice (some ⟨go134,0,none⟩) x0_116.length co152:Value).ownBlock) (.slice (some ⟨go134,0,none⟩) x0_116.length co152) yz68 a7 a8 (wrap64 (a10+1)) tz71 w0 _ ?side1 ?side2 A151.out).mono ?_);(case side1=>exact oB1 GEz66.out);(case side2=>exact Kd.R_tight rfl HO_0.out);rintro e w155 ⟨vz80,rfl,ho0,hb,hkp⟩;refine ⟨_,rfl,?_⟩;have _:=Ak (Kd.R_mono (ok':=fun k_=>(P0_ k_∨w.heap.size≤k_)∧k_≠gbz66) (Kd.R_keptB ((Kd.R_apart' HO_34.out (Kd.R_typed HO_0.out) (by decide))) hkp (fun k_ hk_ hs_=>(hk_.2) hs_)) (fun k_ hk_=>⟨hk_.1.1.1,hk_.1.1.2⟩));have _:=Ak (blk_kept (oL BKz66.out) hkp (fun hs_=>(fun e_=>(Kd.R_ne HO_0.out BKz66.out (by decide)) e_) hs_));have _:=Ak (Kd.R_mono (ok':=fun k_=>(P0_ k_∨w.heap.size≤k_)) ho0 (fun k_ hk_=>Or.elim hk_ (fun hs_=>(HO_0.out.1 k_ (hs_).symm)) (fun hn_=>(.inr (Nat.le_trans (by first|exact HK.out.1|exact (show Kept w _ (fun k_=>P0_ k_) from oP1 GWz66.out).1) hn_)))));have _:=Ak (Kept.then_ (S:=(fun k_=>P0_ k_)) (oP1 GWz66.out) hkp (fun k_ hs_=>(fun e_=>(HO_0.out.1 k_ e_.symm)) hs_));have _:=Ak (hb);clear HO_34 BKz66 HK HB HO_0;rename_i HO_34 BKz66 HOz81 HK HB;(try clear hb);(try clear hkp);(try clear ho0)))
            go_meet
            case rel=>exact ⟨_,(tz71),((x0_116.length:Int)),(0),(0),oS,H',⟨by have:=HJ13.out;have:=HJ42.out;have:=HJ45.out;have:=HK4.out;have:=HJ113.out;have:=HJ116.out;first|omega|exact Nat.le_refl _⟩,⟨oR HOz81.out⟩,⟨oR HO_34.out⟩,⟨oL BKz66.out⟩,⟨oP1 GWz66.out⟩,⟨oB1 GEz66.out⟩⟩
           rw [if_pos c135] at H
           have c135b0:(a3 == 123)=true:=beq_iff_eq.mpr c135
           have c135b1:(a3 != 123)=false:=bne_eq_false_iff_eq.mpr c135
           clear c135
           by_cases c136:x9_4=true
           ·
            subst c136
            have H1:((pT.f kj116 yz68 a7 a8 (wrap64 (a10+1))).bind fun tz69=>(pO.j9 kj116 tz69 l1 x2_4 a3 a4 true a6 a7 a8 true a10 (x0_116.length:Int) a12 x34_4 x35_4 x2_4 0 (x0_116.length:Int) 0))=some (r1,r2,r3,r4):=by rw [if_pos rfl] at H;exact H
            clear H
            have H:=H1
            clear H1
            replace H:=Option.bind_eq_some_iff.mp H
            obtain ⟨tz69,A1370,H⟩:=H
            replace H:(pO.j9 kj116 tz69 l1 x2_4 a3 a4 true a6 a7 a8 true a10 (x0_116.length:Int) a12 x34_4 x35_4 x2_4 0 (x0_116.length:Int) 0)=some (r1,r2,r3,r4):=H
            have A137:=Ak A1370
            clear A1370
            have H':=Ak H
            clear H
            obtain ⟨Ao138,co138,eo138⟩:=Kd.R_slice HO_0.out
            subst eo138
            have pz67:0≤((ji130):Int):=of_decide_eq_true oA
            have qz67:(ji130)<(x0_116.length:Int):=of_decide_eq_true oA
            obtain ⟨adz67,ez67,hxz67_0⟩:=Kd.at_int (Kd.R_reads' HO_0.out).2.2 (ji130) pz67 qz67
            cases ez67
            replace pz67:=eq_true pz67
            replace qz67:=eq_true qz67
            have p134:0≤((ji130):Int):=of_decide_eq_true oA
            have q134:((ji130):Int)<((x0_116.length:Int):Int):=of_decide_eq_true oA
            obtain ⟨go134,co134,eo134,gb134,gl134,cl134,HG134⟩:=Kd.R_form HO_0.out (by omega)
            (first|cases eo134|(injection eo134 with ea_ en_ ec_;(first|subst ea_|(injection ea_ with ea_;subst ea_));subst ec_;clear en_))
            have GB134:=Ak gb134
            have GG134:=Ak HG134
            clear gb134 gl134 HG134
            have HMgo134:=Ak (show (P0_ go134∨w.heap.size≤go134) from (HO_0.out.1 _ rfl))
            (first|simp only [add_plain] at hxz67_0|skip)
            obtain ⟨hx134_0,hf134_0⟩:=Kd.R_celln 0 HO_0.out ((ji130):Int) p134 q134
            replace p134:=eq_true p134
            replace q134:=eq_true q134
            have HP139:=Kd.R_putg HO_0.out ((ji130):Int) 10
            go_wp2_with (first|((with_reducible refine gate_store (t:=5) (p:=211) rfl ?_);refine store_event (t:=5) (p:=211) (v:=?vo_w140) (w1:=(w128.setCell ⟨go134,((ji130):Int).toNat,none⟩ (.int .u8 10))) ?hg ?ho ?hn ?hr ?_;(case ho=>rfl);(case hg=>rfl);(case hn=>rfl);(case hr=>first|(go_simp;done)|(go_simp;rfl));intro w140 hw;have hg:w128.grownBy w140 (some go134):=(by rw [hw];exact HP139.2);have hp_:Kd.R (Kd.int .u8) 5 w140 w0.heap.size (fun k_=>(P0_ k_∨w.heap.size≤k_)) (.slice (some ⟨go134,0,none⟩) x0_116.length co138) yz68:=(by rw [hw,Nyz68.out];exact HP139.1);clear HP139;have _:=Ak (hp_);have _:=Ak (Kd.R_over' (v:=(.slice (some ⟨go134,0,none⟩) x0_116.length co138)) (oR HO_34.out) (Kd.R_typed HO_0.out) (by decide) hg);have _:=Ak (blk_grown (g:=gbz66) (o := .cells #[.int .i64 0, .int .i64 0, .int .i64 0, .int .i64 0] 82 (0,0)) (oL BKz66.out) hg (Kd.R_ne HO_0.out BKz66.out (by decide)));have _:=Ak ((by rw [hw];exact below_set (HB.out) GB134.out:Below w0.heap.size w0 w140));have _:=Ak (Kept.of_grown (S:=(fun k_=>P0_ k_)) hg (oP1 GWz66.out) (fun k_ e_=>(HO_0.out.1 k_ e_)));clear HO_0 HO_34 BKz66 HB HK;rename_i HO_0 HO_34 BKz66 HB HK;clear hg hw hp_;have hcz141_0:w140.cell? ⟨gbz66,0,none⟩=some (.int .i64 0):=(blk_cell BKz66.out 0).trans rfl;have hcz141_1:w140.cell? ⟨gbz66,1,none⟩=some (.int .i64 0):=(blk_cell BKz66.out 1).trans rfl;have hcz141_2:w140.cell? ⟨gbz66,2,none⟩=some (.int .i64 0):=(blk_cell BKz66.out 2).trans rfl;have hcz141_3:w140.cell? ⟨gbz66,3,none⟩=some (.int .i64 0):=(blk_cell BKz66.out 3).trans rfl;have hfz141_0:=blk_frozen BKz66.out 0;have hfz141_1:=blk_frozen BKz66.out 1;have hfz141_2:=blk_frozen BKz66.out 2;have hfz141_3:=blk_frozen BKz66.out 3)|((with_reducible refine gate_store (t:=3) (p:=221) rfl ?_);refine store_event (t:=3) (p:=221) (v:=?vo_w142) (w1:=(w140.setCell ⟨gbz66,0,none⟩ (.int .i64 x2_4))) ?hg ?ho ?hn ?hr ?_;(case ho=>rfl);(case hg=>rfl);(case hn=>rfl);(case hr=>first|(go_simp;done)|(go_simp;rfl));intro w142 hw;have n0_:Aside0 (Kd.R (Kd.int .u8) 5 w142 w0.heap.size (fun k_=>(P0_ k_∨w.heap.size≤k_)) (.slice (some ⟨go134,0,none⟩) x0_116.length co138) yz68):=⟨(by rw [hw];exact (by (with_reducible repeat (first|apply Kd.R_alloc|apply Kd.R_drewN|apply Kd.R_drew));exact Kd.R_mono (Kd.R_far (p:=⟨gbz66,0,none⟩) (Kd.R_types HO_0.out BKz66.out (by decide)) (fun _ hk=>hk.2) (.int .i64 x2_4)) (fun _ hk=>hk.1)))⟩;have n1_:Aside0 (Kd.R k82 82 w142 w0.heap.size (fun k_=>(P0_ k_∨w.heap.size≤k_)∧k_≠gbz66) u34 x34_4):=⟨(by rw [hw];exact (by (with_reducible repeat (first|apply Kd.R_alloc|apply Kd.R_drewN|apply Kd.R_drew));exact Kd.R_mono (Kd.R_far (p:=⟨gbz66,0,none⟩) (Kd.R_mono HO_34.out (fun k_ hk=>(⟨hk,hk.2⟩:_∧k_≠gbz66))) (fun _ hk=>hk.2) (.int .i64 x2_4)) (fun _ hk=>⟨hk.1.1,hk.1.2⟩)))⟩;have n2_:Aside0 (w142.heap[gbz66]? = some (.cells #[.int .i64 x2_4, .int .i64 0, .int .i64 0, .int .i64 0] 82 (0,0))):=⟨(by rw [hw];exact (by (with_reducible repeat (first|refine blk_drewN ?_ _|refine blk_drew ?_|refine blk_alloc ?_ _));refine blk_put (cs := #[.int .i64 0, .int .i64 0, .int .i64 0, .int .i64 0]) ?_ 0 _ rfl;(with_reducible repeat (first|refine blk_drewN ?_ _|refine blk_drew ?_|refine blk_alloc ?_ _));exact BKz66.out))⟩;have n3_:Aside0 (Kept w w142 (fun k_=>P0_ k_)):=⟨(by rw [hw];exact (oP1 GWz66.out))⟩;have n4_:Aside0 (Below w0.heap.size w0 w142):=⟨(by rw [hw];exact (oB1 GEz66.out))⟩;clear hw HO_0 HO_34 BKz66 HK HB;have HO_0:=n0_;have HO_34:=n1_;have BKz66:=n2_;have HK:=n3_;have HB:=n4_;clear n0_ n1_ n2_ n3_ n4_;have hcz143_0:w142.cell? ⟨gbz66,0,none⟩=some (.int .i64 x2_4):=(blk_cell BKz66.out 0).trans rfl;have hcz143_1:w142.cell? ⟨gbz66,1,none⟩=some (.int .i64 0):=(blk_cell BKz66.out 1).trans rfl;have hcz143_2:w142.cell? ⟨gbz66,2,none⟩=some (.int .i64 0):=(blk_cell BKz66.out 2).trans rfl;have hcz143_3:w142.cell? ⟨gbz66,3,none⟩=some (.int .i64 0):=(blk_cell BKz66.out 3).trans rfl;have hfz143_0:=blk_frozen BKz66.out 0;have hfz143_1:=blk_frozen BKz66.out 1;have hfz143_2:=blk_frozen BKz66.out 2;have hfz143_3:=blk_frozen BKz66.out 3)|((with_reducible refine gate_store (t:=3) (p:=224) rfl ?_);refine store_event (t:=3) (p:=224) (v:=?vo_w144) (w1:=(w142.setCell ⟨gbz66,2,none⟩ (.int .i64 (x0_116.length:Int)))) ?hg ?ho ?hn ?hr ?_;(case ho=>rfl);(case hg=>rfl);(case hn=>rfl);(case hr=>first|(go_simp;done)|(go_simp;rfl));intro w144 hw;have n0_:Aside0 (Kd.R (Kd.int .u8) 5 w144 w0.heap.size (fun k_=>(P0_ k_∨w.heap.size≤k_)) (.slice (some ⟨go134,0,none⟩) x0_116.length co138) yz68):=⟨(by rw [hw];exact (by (with_reducible repeat (first|apply Kd.R_alloc|apply Kd.R_drewN|apply Kd.R_drew));exact Kd.R_mono (Kd.R_far (p:=⟨gbz66,2,none⟩) (Kd.R_types HO_0.out BKz66.out (by decide)) (fun _ hk=>hk.2) (.int .i64 (x0_116.length:Int))) (fun _ hk=>hk.1)))⟩;have n1_:Aside0 (Kd.R k82 82 w144 w0.heap.size (fun k_=>(P0_ k_∨w.heap.size≤k_)∧k_≠gbz66) u34 x34_4):=⟨(by rw [hw];exact (by (with_reducible repeat (first|apply Kd.R_alloc|apply Kd.R_drewN|apply Kd.R_drew));exact Kd.R_mono (Kd.R_far (p:=⟨gbz66,2,none⟩) (Kd.R_mono HO_34.out (fun k_ hk=>(⟨hk,hk.2⟩:_∧k_≠gbz66))) (fun _ hk=>hk.2) (.int .i64 (x0_116.length:Int))) (fun _ hk=>⟨hk.1.1,hk.1.2⟩)))⟩;have n2_:Aside0 (w144.heap[gbz66]? = some (.cells #[.int .i64 x2_4, .int .i64 0, .int .i64 (x0_116.length:Int), .int .i64 0] 82 (0,0))):=⟨(by rw [hw];exact (by (with_reducible repeat (first|refine blk_drewN ?_ _|refine blk_drew ?_|refine blk_alloc ?_ _));refine blk_put (cs := #[.int .i64 x2_4, .int .i64 0, .int .i64 0, .int .i64 0]) ?_ 2 _ rfl;(with_reducible repeat (first|refine blk_drewN ?_ _|refine blk_drew ?_|refine blk_alloc ?_ _));exact BKz66.out))⟩;have n3_:Aside0 (Kept w w144 (fun k_=>P0_ k_)):=⟨(by rw [hw];exact (oP1 GWz66.out))⟩;have n4_:Aside0 (Below w0.heap.size w0 w144):=⟨(by rw [hw];exact (oB1 GEz66.out))⟩;clear hw HO_0 HO_34 BKz66 HK HB;have HO_0:=n0_;have HO_34:=n1_;have BKz66:=n2_;have HK:=n3_;have HB:=n4_;clear n0_ n1_ n2_ n3_ n4_)|((with_reducible refine gate_callee (f:=47) rfl ?_);refine goesL_ (some 230) rfl rfl Try.func47 (by kernel_rfl) rfl #[.slice (some ⟨go134,0,none⟩) x0_116.length co138, .string a7, .string a8, .int .i64 (wrap64 (a10+1))] rfl oM ?_;(with_reducible refine (pT.calls kj116 (fun k_=>some k_=(.slice (some ⟨go134,0,none⟩) x0_116.length co138:Value).ownBlock) (.slice (some ⟨go134,0,none⟩) x0_116.length co138) yz68 a7 a8 (wrap64 (a10+1)) tz69 w0 _ ?side1 ?side2 A137.out).mono ?_);(case side1=>exact oB1 GEz66.out);(case side2=>exact Kd.R_tight rfl HO_0.out);rintro e w145 ⟨vz76,rfl,ho0,hb,hkp⟩;refine ⟨_,rfl,?_⟩;have _:=Ak (Kd.R_mono (ok':=fun k_=>(P0_ k_∨w.heap.size≤k_)∧k_≠gbz66) (Kd.R_keptB ((Kd.R_apart' HO_34.out (Kd.R_typed HO_0.out) (by decide))) hkp (fun k_ hk_ hs_=>(hk_.2) hs_)) (fun k_ hk_=>⟨hk_.1.1.1,hk_.1.1.2⟩));have _:=Ak (blk_kept (oL BKz66.out) hkp (fun hs_=>(fun e_=>(Kd.R_ne HO_0.out BKz66.out (by decide)) e_) hs_));have _:=Ak (Kd.R_mono (ok':=fun k_=>(P0_ k_∨w.heap.size≤k_)) ho0 (fun k_ hk_=>Or.elim hk_ (fun hs_=>(HO_0.out.1 k_ (hs_).symm)) (fun hn_=>(.inr (Nat.le_trans (by first|exact HK.out.1|exact (show Kept w _ (fun k_=>P0_ k_) from oP1 GWz66.out).1) hn_)))));have _:=Ak (Kept.then_ (S:=(fun k_=>P0_ k_)) (oP1 GWz66.out) hkp (fun k_ hs_=>(fun e_=>(HO_0.out.1 k_ e_.symm)) hs_));have _:=Ak (hb);clear HO_34 BKz66 HK HB HO_0;rename_i HO_34 BKz66 HOz77 HK HB;(try clear hb);(try clear hkp);(try clear ho0)))
            go_meet
            case rel=>exact ⟨_,(tz69),((x0_116.length:Int)),(x2_4),((x0_116.length:Int)),oS,H',⟨by have:=HJ13.out;have:=HJ42.out;have:=HJ45.out;have:=HK4.out;have:=HJ113.out;have:=HJ116.out;first|omega|exact Nat.le_refl _⟩,⟨oR HOz77.out⟩,⟨oR HO_34.out⟩,⟨oL BKz66.out⟩,⟨oP1 GWz66.out⟩,⟨oB1 GEz66.out⟩⟩
           replace c136:=Bool.eq_false_iff.mpr c136
           subst c136
           have H1:((pT.f kj116 yz68 a7 a8 (wrap64 (a10+1))).bind fun tz70=>(pO.j9 kj116 tz70 l1 x2_4 a3 a4 true a6 a7 a8 false a10 (x0_116.length:Int) a12 x34_4 x35_4 0 0 0 0))=some (r1,r2,r3,r4):=by rw [if_neg (show ¬ (false=true) by decide)] at H;exact H
           clear H
           have H:=H1
           clear H1
           replace H:=Option.bind_eq_some_iff.mp H
           obtain ⟨tz70,A1460,H⟩:=H
           replace H:(pO.j9 kj116 tz70 l1 x2_4 a3 a4 true a6 a7 a8 false a10 (x0_116.length:Int) a12 x34_4 x35_4 0 0 0 0)=some (r1,r2,r3,r4):=H
           have A146:=Ak A1460
           clear A1460
           have H':=Ak H
           clear H
           obtain ⟨Ao147,co147,eo147⟩:=Kd.R_slice HO_0.out
           subst eo147
           have pz67:0≤((ji130):Int):=of_decide_eq_true oA
           have qz67:(ji130)<(x0_116.length:Int):=of_decide_eq_true oA
           obtain ⟨adz67,ez67,hxz67_0⟩:=Kd.at_int (Kd.R_reads' HO_0.out).2.2 (ji130) pz67 qz67
           cases ez67
           replace pz67:=eq_true pz67
           replace qz67:=eq_true qz67
           have p134:0≤((ji130):Int):=of_decide_eq_true oA
           have q134:((ji130):Int)<((x0_116.length:Int):Int):=of_decide_eq_true oA
           obtain ⟨go134,co134,eo134,gb134,gl134,cl134,HG134⟩:=Kd.R_form HO_0.out (by omega)
           (first|cases eo134|(injection eo134 with ea_ en_ ec_;(first|subst ea_|(injection ea_ with ea_;subst ea_));subst ec_;clear en_))
           have GB134:=Ak gb134
           have GG134:=Ak HG134
           clear gb134 gl134 HG134
           have HMgo134:=Ak (show (P0_ go134∨w.heap.size≤go134) from (HO_0.out.1 _ rfl))
           (first|simp only [add_plain] at hxz67_0|skip)
           obtain ⟨hx134_0,hf134_0⟩:=Kd.R_celln 0 HO_0.out ((ji130):Int) p134 q134
           replace p134:=eq_true p134
           replace q134:=eq_true q134
           have HP148:=Kd.R_putg HO_0.out ((ji130):Int) 10
           go_wp2_with (first|((with_reducible refine gate_store (t:=5) (p:=211) rfl ?_);refine store_event (t:=5) (p:=211) (v:=?vo_w149) (w1:=(w128.setCell ⟨go134,((ji130):Int).toNat,none⟩ (.int .u8 10))) ?hg ?ho ?hn ?hr ?_;(case ho=>rfl);(case hg=>rfl);(case hn=>rfl);(case hr=>first|(go_simp;done)|(go_simp;rfl));intro w149 hw;have hg:w128.grownBy w149 (some go134):=(by rw [hw];exact HP148.2);have hp_:Kd.R (Kd.int .u8) 5 w149 w0.heap.size (fun k_=>(P0_ k_∨w.heap.size≤k_)) (.slice (some ⟨go134,0,none⟩) x0_116.length co147) yz68:=(by rw [hw,Nyz68.out];exact HP148.1);clear HP148;have _:=Ak (hp_);have _:=Ak (Kd.R_over' (v:=(.slice (some ⟨go134,0,none⟩) x0_116.length co147)) (oR HO_34.out) (Kd.R_typed HO_0.out) (by decide) hg);have _:=Ak (blk_grown (g:=gbz66) (o := .cells #[.int .i64 0, .int .i64 0, .int .i64 0, .int .i64 0] 82 (0,0)) (oL BKz66.out) hg (Kd.R_ne HO_0.out BKz66.out (by decide)));have _:=Ak ((by rw [hw];exact below_set (HB.out) GB134.out:Below w0.heap.size w0 w149));have _:=Ak (Kept.of_grown (S:=(fun k_=>P0_ k_)) hg (oP1 GWz66.out) (fun k_ e_=>(HO_0.out.1 k_ e_)));clear HO_0 HO_34 BKz66 HB HK;rename_i HO_0 HO_34 BKz66 HB HK;clear hg hw hp_)|((with_reducible refine gate_callee (f:=47) rfl ?_);refine goesL_ (some 230) rfl rfl Try.func47 (by kernel_rfl) rfl #[.slice (some ⟨go134,0,none⟩) x0_116.length co147, .string a7, .string a8, .int .i64 (wrap64 (a10+1))] rfl oM ?_;(with_reducible refine (pT.calls kj116 (fun k_=>some k_=(.slice (some ⟨go134,0,none⟩) x0_116.length co147:Value).ownBlock) (.slice (some ⟨go134,0,none⟩) x0_116.length co147) yz68 a7 a8 (wrap64 (a10+1)) tz70 w0 _ ?side1 ?side2 A146.out).mono ?_);(case side1=>exact oB1 GEz66.out);(case side2=>exact Kd.R_tight rfl HO_0.out);rintro e w150 ⟨vz78,rfl,ho0,hb,hkp⟩;refine ⟨_,rfl,?_⟩;have _:=Ak (Kd.R_mono (ok':=fun k_=>(P0_ k_∨w.heap.size≤k_)∧k_≠gbz66) (Kd.R_keptB ((Kd.R_apart' HO_34.out (Kd.R_typed HO_0.out) (by decide))) hkp (fun k_ hk_ hs_=>(hk_.2) hs_)) (fun k_ hk_=>⟨hk_.1.1.1,hk_.1.1.2⟩));have _:=Ak (blk_kept (oL BKz66.out) hkp (fun hs_=>(fun e_=>(Kd.R_ne HO_0.out BKz66.out (by decide)) e_) hs_));have _:=Ak (Kd.R_mono (ok':=fun k_=>(P0_ k_∨w.heap.size≤k_)) ho0 (fun k_ hk_=>Or.elim hk_ (fun hs_=>(HO_0.out.1 k_ (hs_).symm)) (fun hn_=>(.inr (Nat.le_trans (by first|exact HK.out.1|exact (show Kept w _ (fun k_=>P0_ k_) from oP1 GWz66.out).1) hn_)))));have _:=Ak (Kept.then_ (S:=(fun k_=>P0_ k_)) (oP1 GWz66.out) hkp (fun k_ hs_=>(fun e_=>(HO_0.out.1 k_ e_.symm)) hs_));have _:=Ak (hb);clear HO_34 BKz66 HK HB HO_0;rename_i HO_34 BKz66 HOz79 HK HB;(try clear hb);(try clear hkp);(try clear ho0)))
           go_meet
           case rel=>exact ⟨_,(tz70),((x0_116.length:Int)),(0),(0),oS,H',⟨by have:=HJ13.out;have:=HJ42.out;have:=HJ45.out;have:=HK4.out;have:=HJ113.out;have:=HJ116.out;first|omega|exact Nat.le_refl _⟩,⟨oR HOz79.out⟩,⟨oR HO_34.out⟩,⟨oL BKz66.out⟩,⟨oP1 GWz66.out⟩,⟨oB1 GEz66.out⟩⟩
          rw [if_neg c133] at H
          have c133b0:((rd x0_116 (ji130)) == 32)=false:=beq_eq_false_iff_ne.mpr c133
          have c133b1:((rd x0_116 (ji130)) != 32)=true:=bne_iff_ne.mpr c133
          by_cases c156:x0_116.length<140737488355328
          ·
           rw [if_pos c156] at H
           have LMc156:=Ak c156
           clear c156
           obtain ⟨yz72,hyz72⟩ : ∃ y_:List Int,y_=(x0_116++[10]):=⟨_,rfl⟩
           replace H:(if a3=123 then (if x9_4=true then ((pT.f kj116 yz72 a7 a8 (wrap64 (a10+1))).bind fun tz73=>(pO.j9 kj116 tz73 l1 x2_4 a3 a4 true a6 a7 a8 x9_4 a10 (x0_116.length:Int) a12 x34_4 x35_4 x2_4 0 (yz72.length:Int) 0)) else ((pT.f kj116 yz72 a7 a8 (wrap64 (a10+1))).bind fun tz74=>(pO.j9 kj116 tz74 l1 x2_4 a3 a4 true a6 a7 a8 x9_4 a10 (x0_116.length:Int) a12 x34_4 x35_4 0 0 0 0))) else ((pT.f kj116 yz72 a7 a8 (wrap64 (a10+1))).bind fun tz75=>(pO.j9 kj116 tz75 l1 x2_4 a3 a4 true a6 a7 a8 x9_4 a10 (x0_116.length:Int) a12 x34_4 x35_4 0 0 0 0)))=some (r1,r2,r3,r4):=by first|(rw [hyz72];with_reducible exact H)|(have H2_:=(Option.bind_some _ _).symm.trans H;rw [hyz72];with_reducible exact H2_)|(have H2_:=(Option.bind_some _ _).symm.trans H;with_reducible exact H2_)|with_reducible exact H|(rw [hyz72];exact H)|exact H
           have Nyz72:=Ak hyz72
           clear hyz72
           by_cases c157:a3=123
           rotate_left
           ·
            rw [if_neg c157] at H
            have c157b0:(a3 == 123)=false:=beq_eq_false_iff_ne.mpr c157
            have c157b1:(a3 != 123)=true:=bne_iff_ne.mpr c157
            replace H:=Option.bind_eq_some_iff.mp H
            obtain ⟨tz75,A1730,H⟩:=H
            replace H:(pO.j9 kj116 tz75 l1 x2_4 a3 a4 true a6 a7 a8 x9_4 a10 (x0_116.length:Int) a12 x34_4 x35_4 0 0 0 0)=some (r1,r2,r3,r4):=H
            have A173:=Ak A1730
            clear A1730
            have H':=Ak H
            clear H
            obtain ⟨Ao174,co174,eo174⟩:=Kd.R_slice HO_0.out
            subst eo174
            have pz67:0≤((ji130):Int):=of_decide_eq_true oA
            have qz67:(ji130)<(x0_116.length:Int):=of_decide_eq_true oA
            obtain ⟨adz67,ez67,hxz67_0⟩:=Kd.at_int (Kd.R_reads' HO_0.out).2.2 (ji130) pz67 qz67
            cases ez67
            replace pz67:=eq_true pz67
            replace qz67:=eq_true qz67
            go_wp2_with (first|((with_reducible refine gate_builtin (b := .append) (xs := #[.tmp 212, .tmp 213]) rfl ?_);(try (refine gate_guard (by rfl) ?_;dsimp only));at_builtin;refine Kd.R_append (Kd.int .u8) (w0:=w0) w0.heap.size rfl (.tmp 212) (.tmp 213) 44 5 (.int .u8 0) 1 rfl Try.underlying44 info5 rfl (by decide) (by omega) (.slice (some adz67) x0_116.length co174) x0_116 10 [.int .u8 10] (fun k_=>(P0_ k_∨w.heap.size≤k_)) (fun _=>False) rfl rfl ?aP (fun _ hk=>hk.elim) ?aF ?aO ?aB ?aS ?aL ?_;(case aP=>exact rfl);(case aB=>exact (oB1 GEz66.out));(case aF=>exact (fun k_ hk=>(.inr (Nat.le_trans (by first|exact HK.out.1|exact (show Kept w _ (fun k_=>P0_ k_) from oP1 GWz66.out).1) hk))));(case aO=>exact (oR HO_0.out));(case aS=>exact (below_size (oB1 GEz66.out)));(case aL=>have:=LMc156.out;omega);intro vz82 w175 ho hb hg hat;rw [← Nyz72.out] at ho;have _:=Ak (Kd.R_over' (oR HO_34.out) (Kd.R_typed (oR HO_0.out)) (by decide) hg);have _:=Ak (blk_grown (g:=gbz66) (o := .cells #[.int .i64 0, .int .i64 0, .int .i64 0, .int .i64 0] 82 (0,0)) (oL BKz66.out) hg (Kd.R_ne HO_0.out BKz66.out (by decide)));have _:=Ak (hb);have _:=Ak (Kept.of_grown (S:=(fun k_=>P0_ k_)) hg (oP1 GWz66.out) (fun k_ e_=>(HO_0.out.1 k_ e_)));have _:=Ak (ho);clear HO_34 BKz66 HB HK HO_0;rename_i HO_34 BKz66 HB HK HOz83;clear ho hb hg hat;obtain ⟨Ao176,co176,eo176⟩:=Kd.R_slice HOz83.out;subst eo176)|((with_reducible refine gate_callee (f:=47) rfl ?_);refine goesL_ (some 230) rfl rfl Try.func47 (by kernel_rfl) rfl #[.slice Ao176 yz72.length co176, .string a7, .string a8, .int .i64 (wrap64 (a10+1))] rfl oM ?_;(with_reducible refine (pT.calls kj116 (fun k_=>some k_=(.slice Ao176 yz72.length co176:Value).ownBlock) (.slice Ao176 yz72.length co176) yz72 a7 a8 (wrap64 (a10+1)) tz75 w0 _ ?side1 ?side2 A173.out).mono ?_);(case side1=>exact oB1 GEz66.out);(case side2=>exact Kd.R_tight rfl HOz83.out);rintro e w177 ⟨vz88,rfl,ho0,hb,hkp⟩;refine ⟨_,rfl,?_⟩;have _:=Ak (Kd.R_mono (ok':=fun k_=>(P0_ k_∨w.heap.size≤k_)∧k_≠gbz66) (Kd.R_keptB ((Kd.R_apart' HO_34.out (Kd.R_typed HOz83.out) (by decide))) hkp (fun k_ hk_ hs_=>(hk_.2) hs_)) (fun k_ hk_=>⟨hk_.1.1.1,hk_.1.1.2⟩));have _:=Ak (blk_kept (oL BKz66.out) hkp (fun hs_=>(fun e_=>(Kd.R_ne HOz83.out BKz66.out (by decide)) e_) hs_));have _:=Ak (Kd.R_mono (ok':=fun k_=>(P0_ k_∨w.heap.size≤k_)) ho0 (fun k_ hk_=>Or.elim hk_ (fun hs_=>(HOz83.out.1 k_ (hs_).symm)) (fun hn_=>(.inr (Nat.le_trans (by first|exact HK.out.1|exact (show Kept w _ (fun k_=>P0_ k_) from oP1 GWz66.out).1) hn_)))));have _:=Ak (Kept.then_ (S:=(fun k_=>P0_ k_)) (oP1 GWz66.out) hkp (fun k_ hs_=>(fun e_=>(HOz83.out.1 k_ e_.symm)) hs_));have _:=Ak (hb);clear HO_34 BKz66 HK HB HOz83;rename_i HO_34 BKz66 HOz89 HK HB;(try clear hb);(try clear hkp);(try clear ho0)))
            go_meet
            case rel=>exact ⟨_,(tz75),((x0_116.length:Int)),(0),(0),oS,H',⟨by have:=HJ13.out;have:=HJ42.out;have:=HJ45.out;have:=HK4.out;have:=HJ113.out;have:=HJ116.out;first|omega|exact Nat.le_refl _⟩,⟨oR HOz89.out⟩,⟨oR HO_34.out⟩,⟨oL BKz66.out⟩,⟨oP1 GWz66.out⟩,⟨oB1 GEz66.out⟩⟩
           rw [if_pos c157] at H
           have c157b0:(a3 == 123)=true:=beq_iff_eq.mpr c157
           have c157b1:(a3 != 123)=false:=bne_eq_false_iff_eq.mpr c157
           clear c157
           by_cases c158:x9_4=true
           ·
            subst c158
            have H1:((pT.f kj116 yz72 a7 a8 (wrap64 (a10+1))).bind fun tz73=>(pO.j9 kj116 tz73 l1 x2_4 a3 a4 true a6 a7 a8 true a10 (x0_116.length:Int) a12 x34_4 x35_4 x2_4 0 (yz72.length:Int) 0))=some (r1,r2,r3,r4):=by rw [if_pos rfl] at H;exact H
            clear H
            have H:=H1
            clear H1
            replace H:=Option.bind_eq_some_iff.mp H
            obtain ⟨tz73,A1590,H⟩:=H
            replace H:(pO.j9 kj116 tz73 l1 x2_4 a3 a4 true a6 a7 a8 true a10 (x0_116.length:Int) a12 x34_4 x35_4 x2_4 0 (yz72.length:Int) 0)=some (r1,r2,r3,r4):=H
            have A159:=Ak A1590
            clear A1590
            have H':=Ak H
            clear H
            obtain ⟨Ao160,co160,eo160⟩:=Kd.R_slice HO_0.out
            subst eo160
            have pz67:0≤((ji130):Int):=of_decide_eq_true oA
            have qz67:(ji130)<(x0_116.length:Int):=of_decide_eq_true oA
            obtain ⟨adz67,ez67,hxz67_0⟩:=Kd.at_int (Kd.R_reads' HO_0.out).2.2 (ji130) pz67 qz67
            cases ez67
            replace pz67:=eq_true pz67
            replace qz67:=eq_true qz67
            go_wp2_with (first|((with_reducible refine gate_builtin (b := .append) (xs := #[.tmp 212, .tmp 213]) rfl ?_);(try (refine gate_guard (by rfl) ?_;dsimp only));at_builtin;refine Kd.R_append (Kd.int .u8) (w0:=w0) w0.heap.size rfl (.tmp 212) (.tmp 213) 44 5 (.int .u8 0) 1 rfl Try.underlying44 info5 rfl (by decide) (by omega) (.slice (some adz67) x0_116.length co160) x0_116 10 [.int .u8 10] (fun k_=>(P0_ k_∨w.heap.size≤k_)) (fun _=>False) rfl rfl ?aP (fun _ hk=>hk.elim) ?aF ?aO ?aB ?aS ?aL ?_;(case aP=>exact rfl);(case aB=>exact (oB1 GEz66.out));(case aF=>exact (fun k_ hk=>(.inr (Nat.le_trans (by first|exact HK.out.1|exact (show Kept w _ (fun k_=>P0_ k_) from oP1 GWz66.out).1) hk))));(case aO=>exact (oR HO_0.out));(case aS=>exact (below_size (oB1 GEz66.out)));(case aL=>have:=LMc156.out;omega);intro vz82 w161 ho hb hg hat;rw [← Nyz72.out] at ho;have _:=Ak (Kd.R_over' (oR HO_34.out) (Kd.R_typed (oR HO_0.out)) (by decide) hg);have _:=Ak (blk_grown (g:=gbz66) (o := .cells #[.int .i64 0, .int .i64 0, .int .i64 0, .int .i64 0] 82 (0,0)) (oL BKz66.out) hg (Kd.R_ne HO_0.out BKz66.out (by decide)));have _:=Ak (hb);have _:=Ak (Kept.of_grown (S:=(fun k_=>P0_ k_)) hg (oP1 GWz66.out) (fun k_ e_=>(HO_0.out.1 k_ e_)));have _:=Ak (ho);clear HO_34 BKz66 HB HK HO_0;rename_i HO_34 BKz66 HB HK HOz83;clear ho hb hg hat;have hcz162_0:w161.cell? ⟨gbz66,0,none⟩=some (.int .i64 0):=(blk_cell BKz66.out 0).trans rfl;have hcz162_1:w161.cell? ⟨gbz66,1,none⟩=some (.int .i64 0):=(blk_cell BKz66.out 1).trans rfl;have hcz162_2:w161.cell? ⟨gbz66,2,none⟩=some (.int .i64 0):=(blk_cell BKz66.out 2).trans rfl;have hcz162_3:w161.cell? ⟨gbz66,3,none⟩=some (.int .i64 0):=(blk_cell BKz66.out 3).trans rfl;have hfz162_0:=blk_frozen BKz66.out 0;have hfz162_1:=blk_frozen BKz66.out 1;have hfz162_2:=blk_frozen BKz66.out 2;have hfz162_3:=blk_frozen BKz66.out 3)|((with_reducible refine gate_store (t:=3) (p:=221) rfl ?_);refine store_event (t:=3) (p:=221) (v:=?vo_w163) (w1:=(w161.setCell ⟨gbz66,0,none⟩ (.int .i64 x2_4))) ?hg ?ho ?hn ?hr ?_;(case ho=>rfl);(case hg=>rfl);(case hn=>rfl);(case hr=>first|(go_simp;done)|(go_simp;rfl));intro w163 hw;have n0_:Aside0 (Kd.R k82 82 w163 w0.heap.size (fun k_=>(P0_ k_∨w.heap.size≤k_)∧k_≠gbz66) u34 x34_4):=⟨(by rw [hw];exact (by (with_reducible repeat (first|apply Kd.R_alloc|apply Kd.R_drewN|apply Kd.R_drew));exact Kd.R_mono (Kd.R_far (p:=⟨gbz66,0,none⟩) (Kd.R_mono HO_34.out (fun k_ hk=>(⟨hk,hk.2⟩:_∧k_≠gbz66))) (fun _ hk=>hk.2) (.int .i64 x2_4)) (fun _ hk=>⟨hk.1.1,hk.1.2⟩)))⟩;have n1_:Aside0 (Kd.R (Kd.int .u8) 5 w163 w0.heap.size (fun k_=>(P0_ k_∨w.heap.size≤k_)) vz82 yz72):=⟨(by rw [hw];exact (by (with_reducible repeat (first|apply Kd.R_alloc|apply Kd.R_drewN|apply Kd.R_drew));exact Kd.R_mono (Kd.R_far (p:=⟨gbz66,0,none⟩) (Kd.R_types HOz83.out BKz66.out (by decide)) (fun _ hk=>hk.2) (.int .i64 x2_4)) (fun _ hk=>hk.1)))⟩;have n2_:Aside0 (w163.heap[gbz66]? = some (.cells #[.int .i64 x2_4, .int .i64 0, .int .i64 0, .int .i64 0] 82 (0,0))):=⟨(by rw [hw];exact (by (with_reducible repeat (first|refine blk_drewN ?_ _|refine blk_drew ?_|refine blk_alloc ?_ _));refine blk_put (cs := #[.int .i64 0, .int .i64 0, .int .i64 0, .int .i64 0]) ?_ 0 _ rfl;(with_reducible repeat (first|refine blk_drewN ?_ _|refine blk_drew ?_|refine blk_alloc ?_ _));exact BKz66.out))⟩;have n3_:Aside0 (Kept w w163 (fun k_=>P0_ k_)):=⟨(by rw [hw];exact (oP1 GWz66.out))⟩;have n4_:Aside0 (Below w0.heap.size w0 w163):=⟨(by rw [hw];exact (oB1 GEz66.out))⟩;clear hw HO_34 HOz83 BKz66 HK HB;have HO_34:=n0_;have HOz83:=n1_;have BKz66:=n2_;have HK:=n3_;have HB:=n4_;clear n0_ n1_ n2_ n3_ n4_;obtain ⟨Ao164,co164,eo164⟩:=Kd.R_slice HOz83.out;subst eo164;have hcz165_0:w163.cell? ⟨gbz66,0,none⟩=some (.int .i64 x2_4):=(blk_cell BKz66.out 0).trans rfl;have hcz165_1:w163.cell? ⟨gbz66,1,none⟩=some (.int .i64 0):=(blk_cell BKz66.out 1).trans rfl;have hcz165_2:w163.cell? ⟨gbz66,2,none⟩=some (.int .i64 0):=(blk_cell BKz66.out 2).trans rfl;have hcz165_3:w163.cell? ⟨gbz66,3,none⟩=some (.int .i64 0):=(blk_cell BKz66.out 3).trans rfl;have hfz165_0:=blk_frozen BKz66.out 0;have hfz165_1:=blk_frozen BKz66.out 1;have hfz165_2:=blk_frozen BKz66.out 2;have hfz165_3:=blk_frozen BKz66.out 3)|((with_reducible refine gate_store (t:=3) (p:=224) rfl ?_);refine store_event (t:=3) (p:=224) (v:=?vo_w166) (w1:=(w163.setCell ⟨gbz66,2,none⟩ (.int .i64 (yz72.length:Int)))) ?hg ?ho ?hn ?hr ?_;(case ho=>rfl);(case hg=>rfl);(case hn=>rfl);(case hr=>first|(go_simp;done)|(go_simp;rfl));intro w166 hw;have n0_:Aside0 (Kd.R k82 82 w166 w0.heap.size (fun k_=>(P0_ k_∨w.heap.size≤k_)∧k_≠gbz66) u34 x34_4):=⟨(by rw [hw];exact (by (with_reducible repeat (first|apply Kd.R_alloc|apply Kd.R_drewN|apply Kd.R_drew));exact Kd.R_mono (Kd.R_far (p:=⟨gbz66,2,none⟩) (Kd.R_mono HO_34.out (fun k_ hk=>(⟨hk,hk.2⟩:_∧k_≠gbz66))) (fun _ hk=>hk.2) (.int .i64 (yz72.length:Int))) (fun _ hk=>⟨hk.1.1,hk.1.2⟩)))⟩;have n1_:Aside0 (Kd.R (Kd.int .u8) 5 w166 w0.heap.size (fun k_=>(P0_ k_∨w.heap.size≤k_)) (.slice Ao164 yz72.length co164) yz72):=⟨(by rw [hw];exact (by (with_reducible repeat (first|apply Kd.R_alloc|apply Kd.R_drewN|apply Kd.R_drew));exact Kd.R_mono (Kd.R_far (p:=⟨gbz66,2,none⟩) (Kd.R_types HOz83.out BKz66.out (by decide)) (fun _ hk=>hk.2) (.int .i64 (yz72.length:Int))) (fun _ hk=>hk.1)))⟩;have n2_:Aside0 (w166.heap[gbz66]? = some (.cells #[.int .i64 x2_4, .int .i64 0, .int .i64 (yz72.length:Int), .int .i64 0] 82 (0,0))):=⟨(by rw [hw];exact (by (with_reducible repeat (first|refine blk_drewN ?_ _|refine blk_drew ?_|refine blk_alloc ?_ _));refine blk_put (cs := #[.int .i64 x2_4, .int .i64 0, .int .i64 0, .int .i64 0]) ?_ 2 _ rfl;(with_reducible repeat (first|refine blk_drewN ?_ _|refine blk_drew ?_|refine blk_alloc ?_ _));exact BKz66.out))⟩;have n3_:Aside0 (Kept w w166 (fun k_=>P0_ k_)):=⟨(by rw [hw];exact (oP1 GWz66.out))⟩;have n4_:Aside0 (Below w0.heap.size w0 w166):=⟨(by rw [hw];exact (oB1 GEz66.out))⟩;clear hw HO_34 HOz83 BKz66 HK HB;have HO_34:=n0_;have HOz83:=n1_;have BKz66:=n2_;have HK:=n3_;have HB:=n4_;clear n0_ n1_ n2_ n3_ n4_)|((with_reducible refine gate_callee (f:=47) rfl ?_);refine goesL_ (some 230) rfl rfl Try.func47 (by kernel_rfl) rfl #[.slice Ao164 yz72.length co164, .string a7, .string a8, .int .i64 (wrap64 (a10+1))] rfl oM ?_;(with_reducible refine (pT.calls kj116 (fun k_=>some k_=(.slice Ao164 yz72.length co164:Value).ownBlock) (.slice Ao164 yz72.length co164) yz72 a7 a8 (wrap64 (a10+1)) tz73 w0 _ ?side1 ?side2 A159.out).mono ?_);(case side1=>exact oB1 GEz66.out);(case side2=>exact Kd.R_tight rfl HOz83.out);rintro e w167 ⟨vz84,rfl,ho0,hb,hkp⟩;refine ⟨_,rfl,?_⟩;have _:=Ak (Kd.R_mono (ok':=fun k_=>(P0_ k_∨w.heap.size≤k_)∧k_≠gbz66) (Kd.R_keptB ((Kd.R_apart' HO_34.out (Kd.R_typed HOz83.out) (by decide))) hkp (fun k_ hk_ hs_=>(hk_.2) hs_)) (fun k_ hk_=>⟨hk_.1.1.1,hk_.1.1.2⟩));have _:=Ak (blk_kept (oL BKz66.out) hkp (fun hs_=>(fun e_=>(Kd.R_ne HOz83.out BKz66.out (by decide)) e_) hs_));have _:=Ak (Kd.R_mono (ok':=fun k_=>(P0_ k_∨w.heap.size≤k_)) ho0 (fun k_ hk_=>Or.elim hk_ (fun hs_=>(HOz83.out.1 k_ (hs_).symm)) (fun hn_=>(.inr (Nat.le_trans (by first|exact HK.out.1|exact (show Kept w _ (fun k_=>P0_ k_) from oP1 GWz66.out).1) hn_)))));have _:=Ak (Kept.then_ (S:=(fun k_=>P0_ k_)) (oP1 GWz66.out) hkp (fun k_ hs_=>(fun e_=>(HOz83.out.1 k_ e_.symm)) hs_));have _:=Ak (hb);clear HO_34 BKz66 HK HB HOz83;rename_i HO_34 BKz66 HOz85 HK HB;(try clear hb);(try clear hkp);(try clear ho0)))
            go_meet
            case rel=>exact ⟨_,(tz73),((x0_116.length:Int)),(x2_4),((yz72.length:Int)),oS,H',⟨by have:=HJ13.out;have:=HJ42.out;have:=HJ45.out;have:=HK4.out;have:=HJ113.out;have:=HJ116.out;first|omega|exact Nat.le_refl _⟩,⟨oR HOz85.out⟩,⟨oR HO_34.out⟩,⟨oL BKz66.out⟩,⟨oP1 GWz66.out⟩,⟨oB1 GEz66.out⟩⟩
           replace c158:=Bool.eq_false_iff.mpr c158
           subst c158
           have H1:((pT.f kj116 yz72 a7 a8 (wrap64 (a10+1))).bind fun tz74=>(pO.j9 kj116 tz74 l1 x2_4 a3 a4 true a6 a7 a8 false a10 (x0_116.length:Int) a12 x34_4 x35_4 0 0 0 0))=some (r1,r2,r3,r4):=by rw [if_neg (show ¬ (false=true) by decide)] at H;exact H
           clear H
           have H:=H1
           clear H1
           replace H:=Option.bind_eq_some_iff.mp H
           obtain ⟨tz74,A1680,H⟩:=H
           replace H:(pO.j9 kj116 tz74 l1 x2_4 a3 a4 true a6 a7 a8 false a10 (x0_116.length:Int) a12 x34_4 x35_4 0 0 0 0)=some (r1,r2,r3,r4):=H
           have A168:=Ak A1680
           clear A1680
           have H':=Ak H
           clear H
           obtain ⟨Ao169,co169,eo169⟩:=Kd.R_slice HO_0.out
           subst eo169
           have pz67:0≤((ji130):Int):=of_decide_eq_true oA
           have qz67:(ji130)<(x0_116.length:Int):=of_decide_eq_true oA
           obtain ⟨adz67,ez67,hxz67_0⟩:=Kd.at_int (Kd.R_reads' HO_0.out).2.2 (ji130) pz67 qz67
           cases ez67
           replace pz67:=eq_true pz67
           replace qz67:=eq_true qz67
           go_wp2_with (first|((with_reducible refine gate_builtin (b := .append) (xs := #[.tmp 212, .tmp 213]) rfl ?_);(try (refine gate_guard (by rfl) ?_;dsimp only));at_builtin;refine Kd.R_append (Kd.int .u8) (w0:=w0) w0.heap.size rfl (.tmp 212) (.tmp 213) 44 5 (.int .u8 0) 1 rfl Try.underlying44 info5 rfl (by decide) (by omega) (.slice (some adz67) x0_116.length co169) x0_116 10 [.int .u8 10] (fun k_=>(P0_ k_∨w.heap.size≤k_)) (fun _=>False) rfl rfl ?aP (fun _ hk=>hk.elim) ?aF ?aO ?aB ?aS ?aL ?_;(case aP=>exact rfl);(case aB=>exact (oB1 GEz66.out));(case aF=>exact (fun k_ hk=>(.inr (Nat.le_trans (by first|exact HK.out.1|exact (show Kept w _ (fun k_=>P0_ k_) from oP1 GWz66.out).1) hk))));(case aO=>exact (oR HO_0.out));(case aS=>exact (below_size (oB1 GEz66.out)));(case aL=>have:=LMc156.out;omega);intro vz82 w170 ho hb hg hat;rw [← Nyz72.out] at ho;have _:=Ak (Kd.R_over' (oR HO_34.out) (Kd.R_typed (oR HO_0.out)) (by decide) hg);have _:=Ak (blk_grown (g:=gbz66) (o := .cells #[.int .i64 0, .int .i64 0, .int .i64 0, .int .i64 0] 82 (0,0)) (oL BKz66.out) hg (Kd.R_ne HO_0.out BKz66.out (by decide)));have _:=Ak (hb);have _:=Ak (Kept.of_grown (S:=(fun k_=>P0_ k_)) hg (oP1 GWz66.out) (fun k_ e_=>(HO_0.out.1 k_ e_)));have _:=Ak (ho);clear HO_34 BKz66 HB HK HO_0;rename_i HO_34 BKz66 HB HK HOz83;clear ho hb hg hat;obtain ⟨Ao171,co171,eo171⟩:=Kd.R_slice HOz83.out;subst eo171)|((with_reducible refine gate_callee (f:=47) rfl ?_);refine goesL_ (some 230) rfl rfl Try.func47 (by kernel_rfl) rfl #[.slice Ao171 yz72.length co171, .string a7, .string a8, .int .i64 (wrap64 (a10+1))] rfl oM ?_;(with_reducible refine (pT.calls kj116 (fun k_=>some k_=(.slice Ao171 yz72.length co171:Value).ownBlock) (.slice Ao171 yz72.length co171) yz72 a7 a8 (wrap64 (a10+1)) tz74 w0 _ ?side1 ?side2 A168.out).mono ?_);(case side1=>exact oB1 GEz66.out);(case side2=>exact Kd.R_tight rfl HOz83.out);rintro e w172 ⟨vz86,rfl,ho0,hb,hkp⟩;refine ⟨_,rfl,?_⟩;have _:=Ak (Kd.R_mono (ok':=fun k_=>(P0_ k_∨w.heap.size≤k_)∧k_≠gbz66) (Kd.R_keptB ((Kd.R_apart' HO_34.out (Kd.R_typed HOz83.out) (by decide))) hkp (fun k_ hk_ hs_=>(hk_.2) hs_)) (fun k_ hk_=>⟨hk_.1.1.1,hk_.1.1.2⟩));have _:=Ak (blk_kept (oL BKz66.out) hkp (fun hs_=>(fun e_=>(Kd.R_ne HOz83.out BKz66.out (by decide)) e_) hs_));have _:=Ak (Kd.R_mono (ok':=fun k_=>(P0_ k_∨w.heap.size≤k_)) ho0 (fun k_ hk_=>Or.elim hk_ (fun hs_=>(HOz83.out.1 k_ (hs_).symm)) (fun hn_=>(.inr (Nat.le_trans (by first|exact HK.out.1|exact (show Kept w _ (fun k_=>P0_ k_) from oP1 GWz66.out).1) hn_)))));have _:=Ak (Kept.then_ (S:=(fun k_=>P0_ k_)) (oP1 GWz66.out) hkp (fun k_ hs_=>(fun e_=>(HOz83.out.1 k_ e_.symm)) hs_));have _:=Ak (hb);clear HO_34 BKz66 HK HB HOz83;rename_i HO_34 BKz66 HOz87 HK HB;(try clear hb);(try clear hkp);(try clear ho0)))
           go_meet
           case rel=>exact ⟨_,(tz74),((x0_116.length:Int)),(0),(0),oS,H',⟨by have:=HJ13.out;have:=HJ42.out;have:=HJ45.out;have:=HK4.out;have:=HJ113.out;have:=HJ116.out;first|omega|exact Nat.le_refl _⟩,⟨oR HOz87.out⟩,⟨oR HO_34.out⟩,⟨oL BKz66.out⟩,⟨oP1 GWz66.out⟩,⟨oB1 GEz66.out⟩⟩
          rw [if_neg c156] at H
          exact absurd H (by simp)
         rw [if_neg c131] at H
         exact absurd H (by simp)
        case rest=>as_aux_lemma =>
        clear HC127
        obtain ⟨kq,x0_126,x11_126,xz67000_126,xz67002_126,rfl,HA,HJ126,HO_0,HO_34,BKz66,HK,HB⟩:=hcut
        cases kq with
        | zero=>exact absurd HA.out (by simp [pO.j9])
        | succ kj126 =>
         have H:=HA.out
         clear HA
         simp only [pO.j9] at H
         have HC178:=Ak H
         clear H
         go_upto_if 232 with (fail)
         go_cut [0,2,11] from 200 to 232 (fun v0 v2 v11 wc => ∃ (kq:Nat) (x0_177:List Int) (x2_177:Int) (x11_177:Int) (xz67001_177:Int),v2 = .int .i64 x2_177∧v11 = .int .i64 x11_177∧Aside0 (pO.j10 kq x0_177 l1 x2_177 a3 a4 a5 a6 a7 a8 x9_4 a10 x11_177 a12 x34_4 x35_4 xz67000_126 xz67001_177 xz67002_126 0=some (r1,r2,r3,r4))∧Aside0 (kq≤kj126)∧Aside0 (Kd.R (Kd.int .u8) 5 wc w0.heap.size (fun k_=>(P0_ k_∨w.heap.size≤k_)) v0 x0_177)∧Aside0 (Kd.R k82 82 wc w0.heap.size (fun k_=>(P0_ k_∨w.heap.size≤k_)∧k_≠gbz66) u34 x34_4)∧Aside0 (wc.heap[gbz66]? = some (.cells #[.int .i64 xz67000_126, .int .i64 xz67001_177, .int .i64 xz67002_126, .int .i64 0] 82 (0,0)))∧Aside0 (Kept w wc (fun k_=>P0_ k_))∧Aside0 (Below w0.heap.size w0 wc))
         case first =>
          have H:=HC178.out
          clear HC178
          by_cases c179:a3=123
          rotate_left
          ·
           rw [if_neg c179] at H
           have c179b0:(a3 == 123)=false:=beq_eq_false_iff_ne.mpr c179
           have c179b1:(a3 != 123)=true:=bne_iff_ne.mpr c179
           (first|rw [c179b0]|(simp only [i64_w,i32_w];rw [c179b0])|skip)
           have H':=Ak H
           clear H
           go_wp2
           go_meet
           case rel=>exact ⟨_,(x0_126),(x2_4),(x11_126),(0),oS,oS,H',⟨by have:=HJ13.out;have:=HJ42.out;have:=HJ45.out;have:=HK4.out;have:=HJ113.out;have:=HJ116.out;have:=HJ126.out;first|omega|exact Nat.le_refl _⟩,⟨oR HO_0.out⟩,⟨oR HO_34.out⟩,⟨oL BKz66.out⟩,⟨oP1 GWz66.out⟩,⟨oB1 GEz66.out⟩⟩
          rw [if_pos c179] at H
          have c179b0:(a3 == 123)=true:=beq_iff_eq.mpr c179
          have c179b1:(a3 != 123)=false:=bne_eq_false_iff_eq.mpr c179
          clear c179
          (first|rw [c179b0]|(simp only [i64_w,i32_w];rw [c179b0])|skip)
          replace H:=Option.bind_eq_some_iff.mp H
          obtain ⟨⟨tz90,tz91,tz92,tz93⟩,A1800,H⟩:=H
          replace H:(if x9_4=true then (if tz90.length<140737488355328 then ((some (tz90++[58]:List Int)).bind fun yz94=>(if a5=true then (if yz94.length<140737488355328 then (pO.j10 kj126 (yz94++[32]) l1 tz91 a3 a4 a5 a6 a7 a8 x9_4 a10 tz92 a12 x34_4 x35_4 xz67000_126 tz91 xz67002_126 0) else (none)) else (pO.j10 kj126 yz94 l1 tz91 a3 a4 a5 a6 a7 a8 x9_4 a10 tz92 a12 x34_4 x35_4 xz67000_126 tz91 xz67002_126 0))) else (none)) else (if tz90.length<140737488355328 then ((some (tz90++[58]:List Int)).bind fun yz95=>(if a5=true then (if yz95.length<140737488355328 then (pO.j10 kj126 (yz95++[32]) l1 tz91 a3 a4 a5 a6 a7 a8 x9_4 a10 tz92 a12 x34_4 x35_4 xz67000_126 0 xz67002_126 0) else (none)) else (pO.j10 kj126 yz95 l1 tz91 a3 a4 a5 a6 a7 a8 x9_4 a10 tz92 a12 x34_4 x35_4 xz67000_126 0 xz67002_126 0))) else (none)))=some (r1,r2,r3,r4):=H
          have A180:=Ak A1800
          clear A1800
          by_cases c181:x9_4=true
          ·
           subst c181
           have H1:(if tz90.length<140737488355328 then ((some (tz90++[58]:List Int)).bind fun yz94=>(if a5=true then (if yz94.length<140737488355328 then (pO.j10 kj126 (yz94++[32]) l1 tz91 a3 a4 a5 a6 a7 a8 true a10 tz92 a12 x34_4 x35_4 xz67000_126 tz91 xz67002_126 0) else (none)) else (pO.j10 kj126 yz94 l1 tz91 a3 a4 a5 a6 a7 a8 true a10 tz92 a12 x34_4 x35_4 xz67000_126 tz91 xz67002_126 0))) else (none))=some (r1,r2,r3,r4):=by rw [if_pos rfl] at H;exact H
           clear H
           have H:=H1
           clear H1
           by_cases c182:tz90.length<140737488355328
           rotate_left
           ·
            rw [if_neg c182] at H
            exact absurd H (by simp)
           rw [if_pos c182] at H
           have LMc182:=Ak c182
           clear c182
           obtain ⟨yz94,hyz94⟩ : ∃ y_:List Int,y_=(tz90++[58]):=⟨_,rfl⟩
           replace H:(if a5=true then (if yz94.length<140737488355328 then (pO.j10 kj126 (yz94++[32]) l1 tz91 a3 a4 a5 a6 a7 a8 true a10 tz92 a12 x34_4 x35_4 xz67000_126 tz91 xz67002_126 0) else (none)) else (pO.j10 kj126 yz94 l1 tz91 a3 a4 a5 a6 a7 a8 true a10 tz92 a12 x34_4 x35_4 xz67000_126 tz91 xz67002_126 0))=some (r1,r2,r3,r4):=by first|(rw [hyz94];with_reducible exact H)|(have H2_:=(Option.bind_some _ _).symm.trans H;rw [hyz94];with_reducible exact H2_)|(have H2_:=(Option.bind_some _ _).symm.trans H;with_reducible exact H2_)|with_reducible exact H|(rw [hyz94];exact H)|exact H
           have Nyz94:=Ak hyz94
           clear hyz94
           by_cases c183:a5=true
           ·
            subst c183
            have H1:(if yz94.length<140737488355328 then (pO.j10 kj126 (yz94++[32]) l1 tz91 a3 a4 true a6 a7 a8 true a10 tz92 a12 x34_4 x35_4 xz67000_126 tz91 xz67002_126 0) else (none))=some (r1,r2,r3,r4):=by rw [if_pos rfl] at H;exact H
            clear H
            have H:=H1
            clear H1
            by_cases c184:yz94.length<140737488355328
            rotate_left
            ·
             rw [if_neg c184] at H
             exact absurd H (by simp)
            rw [if_pos c184] at H
            have LMc184:=Ak c184
            clear c184
            obtain ⟨yz96,hyz96⟩ : ∃ y_:List Int,y_=(yz94++[32]):=⟨_,rfl⟩
            replace H:(pO.j10 kj126 yz96 l1 tz91 a3 a4 true a6 a7 a8 true a10 tz92 a12 x34_4 x35_4 xz67000_126 tz91 xz67002_126 0)=some (r1,r2,r3,r4):=by first|(rw [hyz96];with_reducible exact H)|(have H2_:=(Option.bind_some _ _).symm.trans H;rw [hyz96];with_reducible exact H2_)|(have H2_:=(Option.bind_some _ _).symm.trans H;with_reducible exact H2_)|with_reducible exact H|(rw [hyz96];exact H)|exact H
            have Nyz96:=Ak hyz96
            clear hyz96
            have H':=Ak H
            clear H
            obtain ⟨Ao185,co185,eo185⟩:=Kd.R_slice HO_0.out
            subst eo185
            go_wp2_with (first|((with_reducible refine gate_callee (f:=38) rfl ?_);refine goesL_ (some 238) rfl rfl Try.func38 (by kernel_rfl) rfl #[.slice Ao185 x0_126.length co185, .slice (some adz16) l1.length c1, .int .i64 x2_4, .int .i64 x11_126] rfl oM ?_;(with_reducible refine (pS.calls kj126 (fun k_=>some k_=(.slice Ao185 x0_126.length co185:Value).ownBlock) (.slice Ao185 x0_126.length co185) x0_126 _ _ l1 x2_4 x11_126 tz90 tz91 tz92 tz93 w0 _ ?side1 ?side2 ?side3 ?side4 A180.out).mono ?_);(case side1=>exact oB1 GEz66.out);(case side2=>exact Kd.R_tight rfl HO_0.out);(case side3=>exact Kd.C_kept_call HR1.out (oP1 GWz66.out) (fun k_ hs_=>(fun e_=>(HO_0.out.1 k_ e_.symm)) hs_));(case side4=>exact HC1.out);rintro e w186 ⟨vz97,rfl,ho0,hb,hkp⟩;refine ⟨_,rfl,?_⟩;have _:=Ak (Kd.R_mono (ok':=fun k_=>(P0_ k_∨w.heap.size≤k_)∧k_≠gbz66) (Kd.R_keptB ((Kd.R_apart' HO_34.out (Kd.R_typed HO_0.out) (by decide))) hkp (fun k_ hk_ hs_=>(hk_.2) hs_)) (fun k_ hk_=>⟨hk_.1.1.1,hk_.1.1.2⟩));have _:=Ak (blk_kept (oL BKz66.out) hkp (fun hs_=>(fun e_=>(Kd.R_ne HO_0.out BKz66.out (by decide)) e_) hs_));have _:=Ak (Kd.R_mono (ok':=fun k_=>(P0_ k_∨w.heap.size≤k_)) ho0 (fun k_ hk_=>Or.elim hk_ (fun hs_=>(HO_0.out.1 k_ (hs_).symm)) (fun hn_=>(.inr (Nat.le_trans (by first|exact HK.out.1|exact (show Kept w _ (fun k_=>P0_ k_) from oP1 GWz66.out).1) hn_)))));have _:=Ak (Kept.then_ (S:=(fun k_=>P0_ k_)) (oP1 GWz66.out) hkp (fun k_ hs_=>(fun e_=>(HO_0.out.1 k_ e_.symm)) hs_));have _:=Ak (hb);clear HO_34 BKz66 HK HB HO_0;rename_i HO_34 BKz66 HOz98 HK HB;(try clear hb);(try clear hkp);(try clear ho0);have hcz187_0:w186.cell? ⟨gbz66,0,none⟩=some (.int .i64 xz67000_126):=(blk_cell BKz66.out 0).trans rfl;have hcz187_1:w186.cell? ⟨gbz66,1,none⟩=some (.int .i64 0):=(blk_cell BKz66.out 1).trans rfl;have hcz187_2:w186.cell? ⟨gbz66,2,none⟩=some (.int .i64 xz67002_126):=(blk_cell BKz66.out 2).trans rfl;have hcz187_3:w186.cell? ⟨gbz66,3,none⟩=some (.int .i64 0):=(blk_cell BKz66.out 3).trans rfl;have hfz187_0:=blk_frozen BKz66.out 0;have hfz187_1:=blk_frozen BKz66.out 1;have hfz187_2:=blk_frozen BKz66.out 2;have hfz187_3:=blk_frozen BKz66.out 3)|((with_reducible refine gate_builtin (b := .append) (xs := #[.tmp 246, .tmp 247]) rfl ?_);(try (refine gate_guard (by rfl) ?_;dsimp only));at_builtin;refine Kd.R_append (Kd.int .u8) (w0:=w0) w0.heap.size rfl (.tmp 246) (.tmp 247) 44 5 (.int .u8 0) 1 rfl Try.underlying44 info5 rfl (by decide) (by omega) vz97 tz90 58 [.int .u8 58] (fun k_=>(P0_ k_∨w.heap.size≤k_)) (fun _=>False) rfl (by first|(go_simp;done)|(go_simp;rfl)) ?aP (fun _ hk=>hk.elim) ?aF ?aO ?aB ?aS ?aL ?_;(case aP=>exact rfl);(case aB=>exact (oB1 GEz66.out));(case aF=>exact (fun k_ hk=>(.inr (Nat.le_trans (show Kept w _ (fun k_=>P0_ k_) from oP1 GWz66.out).1 hk))));(case aO=>exact (by (with_reducible repeat (first|apply Kd.R_alloc|apply Kd.R_drewN|apply Kd.R_drew));exact Kd.R_mono (Kd.R_far (p:=⟨gbz66,1,none⟩) (Kd.R_types HOz98.out BKz66.out (by decide)) (fun _ hk=>hk.2) (.int .i64 tz91)) (fun _ hk=>hk.1)));(case aS=>exact (below_size (oB1 GEz66.out)));(case aL=>have:=LMc182.out;omega);intro vz99 w188 ho hb hg hat;rw [← Nyz94.out] at ho;have _:=Ak (Kd.R_over' (by (with_reducible repeat (first|apply Kd.R_alloc|apply Kd.R_drewN|apply Kd.R_drew));exact (Kd.R_mono (Kd.R_far (p:=⟨gbz66,1,none⟩) (Kd.R_mono HO_34.out (fun k_ hk=>(⟨hk,hk.2⟩:_∧k_≠gbz66))) (fun _ hk=>hk.2) (.int .i64 tz91)) (fun _ h_=>h_.1))) (Kd.R_typed (by (with_reducible repeat (first|apply Kd.R_alloc|apply Kd.R_drewN|apply Kd.R_drew));exact (Kd.R_mono (Kd.R_far (p:=⟨gbz66,1,none⟩) (Kd.R_types HOz98.out BKz66.out (by decide)) (fun _ hk=>hk.2) (.int .i64 tz91)) (fun _ h_=>h_.1)))) (by decide) hg);have _:=Ak (blk_grown (g:=gbz66) (o := .cells #[.int .i64 xz67000_126, .int .i64 tz91, .int .i64 xz67002_126, .int .i64 0] 82 (0,0)) (by (with_reducible repeat (first|refine blk_drewN ?_ _|refine blk_drew ?_|refine blk_alloc ?_ _));refine blk_put (cs := #[.int .i64 xz67000_126, .int .i64 0, .int .i64 xz67002_126, .int .i64 0]) ?_ 1 _ rfl;(with_reducible repeat (first|refine blk_drewN ?_ _|refine blk_drew ?_|refine blk_alloc ?_ _));exact BKz66.out) hg (Kd.R_ne HOz98.out BKz66.out (by decide)));have _:=Ak (hb);have _:=Ak (Kept.of_grown (S:=(fun k_=>P0_ k_)) hg (oP1 GWz66.out) (fun k_ e_=>(HOz98.out.1 k_ e_)));have _:=Ak (ho);clear HO_34 BKz66 HB HK HOz98;rename_i HO_34 BKz66 HB HK HOz100;clear ho hb hg hat)|((with_reducible refine gate_builtin (b := .append) (xs := #[.tmp 250, .tmp 251]) rfl ?_);(try (refine gate_guard (by rfl) ?_;dsimp only));at_builtin;refine Kd.R_append (Kd.int .u8) (w0:=w0) w0.heap.size rfl (.tmp 250) (.tmp 251) 44 5 (.int .u8 0) 1 rfl Try.underlying44 info5 rfl (by decide) (by omega) vz99 yz94 32 [.int .u8 32] (fun k_=>(P0_ k_∨w.heap.size≤k_)) (fun _=>False) rfl rfl ?aP (fun _ hk=>hk.elim) ?aF ?aO ?aB ?aS ?aL ?_;(case aP=>exact rfl);(case aB=>exact (oB1 GEz66.out));(case aF=>exact (fun k_ hk=>(.inr (Nat.le_trans (by first|exact HK.out.1|exact (show Kept w _ (fun k_=>P0_ k_) from oP1 GWz66.out).1) hk))));(case aO=>exact (oR HOz100.out));(case aS=>exact (below_size (oB1 GEz66.out)));(case aL=>have:=LMc184.out;omega);intro vz101 w189 ho hb hg hat;rw [← Nyz96.out] at ho;have _:=Ak (Kd.R_over' (oR HO_34.out) (Kd.R_typed (oR HOz100.out)) (by decide) hg);have _:=Ak (blk_grown (g:=gbz66) (o := .cells #[.int .i64 xz67000_126, .int .i64 tz91, .int .i64 xz67002_126, .int .i64 0] 82 (0,0)) (oL BKz66.out) hg (Kd.R_ne HOz100.out BKz66.out (by decide)));have _:=Ak (hb);have _:=Ak (Kept.of_grown (S:=(fun k_=>P0_ k_)) hg (oP1 GWz66.out) (fun k_ e_=>(HOz100.out.1 k_ e_)));have _:=Ak (ho);clear HO_34 BKz66 HB HK HOz100;rename_i HO_34 BKz66 HB HK HOz102;clear ho hb hg hat))
            go_meet
            case rel=>exact ⟨_,(yz96),(tz91),(tz92),(tz91),oS,oS,H',⟨by have:=HJ13.out;have:=HJ42.out;have:=HJ45.out;have:=HK4.out;have:=HJ113.out;have:=HJ116.out;have:=HJ126.out;first|omega|exact Nat.le_refl _⟩,⟨oR HOz102.out⟩,⟨oR HO_34.out⟩,⟨oL BKz66.out⟩,⟨oP1 GWz66.out⟩,⟨oB1 GEz66.out⟩⟩
           replace c183:=Bool.eq_false_iff.mpr c183
           subst c183
           have H1:(pO.j10 kj126 yz94 l1 tz91 a3 a4 false a6 a7 a8 true a10 tz92 a12 x34_4 x35_4 xz67000_126 tz91 xz67002_126 0)=some (r1,r2,r3,r4):=by rw [if_neg (show ¬ (false=true) by decide)] at H;exact H
           clear H
           have H:=H1
           clear H1
           have H':=Ak H
           clear H
           obtain ⟨Ao190,co190,eo190⟩:=Kd.R_slice HO_0.out
           subst eo190
           go_wp2_with (first|((with_reducible refine gate_callee (f:=38) rfl ?_);refine goesL_ (some 238) rfl rfl Try.func38 (by kernel_rfl) rfl #[.slice Ao190 x0_126.length co190, .slice (some adz16) l1.length c1, .int .i64 x2_4, .int .i64 x11_126] rfl oM ?_;(with_reducible refine (pS.calls kj126 (fun k_=>some k_=(.slice Ao190 x0_126.length co190:Value).ownBlock) (.slice Ao190 x0_126.length co190) x0_126 _ _ l1 x2_4 x11_126 tz90 tz91 tz92 tz93 w0 _ ?side1 ?side2 ?side3 ?side4 A180.out).mono ?_);(case side1=>exact oB1 GEz66.out);(case side2=>exact Kd.R_tight rfl HO_0.out);(case side3=>exact Kd.C_kept_call HR1.out (oP1 GWz66.out) (fun k_ hs_=>(fun e_=>(HO_0.out.1 k_ e_.symm)) hs_));(case side4=>exact HC1.out);rintro e w191 ⟨vz97,rfl,ho0,hb,hkp⟩;refine ⟨_,rfl,?_⟩;have _:=Ak (Kd.R_mono (ok':=fun k_=>(P0_ k_∨w.heap.size≤k_)∧k_≠gbz66) (Kd.R_keptB ((Kd.R_apart' HO_34.out (Kd.R_typed HO_0.out) (by decide))) hkp (fun k_ hk_ hs_=>(hk_.2) hs_)) (fun k_ hk_=>⟨hk_.1.1.1,hk_.1.1.2⟩));have _:=Ak (blk_kept (oL BKz66.out) hkp (fun hs_=>(fun e_=>(Kd.R_ne HO_0.out BKz66.out (by decide)) e_) hs_));have _:=Ak (Kd.R_mono (ok':=fun k_=>(P0_ k_∨w.heap.size≤k_)) ho0 (fun k_ hk_=>Or.elim hk_ (fun hs_=>(HO_0.out.1 k_ (hs_).symm)) (fun hn_=>(.inr (Nat.le_trans (by first|exact HK.out.1|exact (show Kept w _ (fun k_=>P0_ k_) from oP1 GWz66.out).1) hn_)))));have _:=Ak (Kept.then_ (S:=(fun k_=>P0_ k_)) (oP1 GWz66.out) hkp (fun k_ hs_=>(fun e_=>(HO_0.out.1 k_ e_.symm)) hs_));have _:=Ak (hb);clear HO_34 BKz66 HK HB HO_0;rename_i HO_34 BKz66 HOz98 HK HB;(try clear hb);(try clear hkp);(try clear ho0);have hcz192_0:w191.cell? ⟨gbz66,0,none⟩=some (.int .i64 xz67000_126):=(blk_cell BKz66.out 0).trans rfl;have hcz192_1:w191.cell? ⟨gbz66,1,none⟩=some (.int .i64 0):=(blk_cell BKz66.out 1).trans rfl;have hcz192_2:w191.cell? ⟨gbz66,2,none⟩=some (.int .i64 xz67002_126):=(blk_cell BKz66.out 2).trans rfl;have hcz192_3:w191.cell? ⟨gbz66,3,none⟩=some (.int .i64 0):=(blk_cell BKz66.out 3).trans rfl;have hfz192_0:=blk_frozen BKz66.out 0;have hfz192_1:=blk_frozen BKz66.out 1;have hfz192_2:=blk_frozen BKz66.out 2;have hfz192_3:=blk_frozen BKz66.out 3)|((with_reducible refine gate_builtin (b := .append) (xs := #[.tmp 246, .tmp 247]) rfl ?_);(try (refine gate_guard (by rfl) ?_;dsimp only));at_builtin;refine Kd.R_append (Kd.int .u8) (w0:=w0) w0.heap.size rfl (.tmp 246) (.tmp 247) 44 5 (.int .u8 0) 1 rfl Try.underlying44 info5 rfl (by decide) (by omega) vz97 tz90 58 [.int .u8 58] (fun k_=>(P0_ k_∨w.heap.size≤k_)) (fun _=>False) rfl (by first|(go_simp;done)|(go_simp;rfl)) ?aP (fun _ hk=>hk.elim) ?aF ?aO ?aB ?aS ?aL ?_;(case aP=>exact rfl);(case aB=>exact (oB1 GEz66.out));(case aF=>exact (fun k_ hk=>(.inr (Nat.le_trans (show Kept w _ (fun k_=>P0_ k_) from oP1 GWz66.out).1 hk))));(case aO=>exact (by (with_reducible repeat (first|apply Kd.R_alloc|apply Kd.R_drewN|apply Kd.R_drew));exact Kd.R_mono (Kd.R_far (p:=⟨gbz66,1,none⟩) (Kd.R_types HOz98.out BKz66.out (by decide)) (fun _ hk=>hk.2) (.int .i64 tz91)) (fun _ hk=>hk.1)));(case aS=>exact (below_size (oB1 GEz66.out)));(case aL=>have:=LMc182.out;omega);intro vz99 w193 ho hb hg hat;rw [← Nyz94.out] at ho;have _:=Ak (Kd.R_over' (by (with_reducible repeat (first|apply Kd.R_alloc|apply Kd.R_drewN|apply Kd.R_drew));exact (Kd.R_mono (Kd.R_far (p:=⟨gbz66,1,none⟩) (Kd.R_mono HO_34.out (fun k_ hk=>(⟨hk,hk.2⟩:_∧k_≠gbz66))) (fun _ hk=>hk.2) (.int .i64 tz91)) (fun _ h_=>h_.1))) (Kd.R_typed (by (with_reducible repeat (first|apply Kd.R_alloc|apply Kd.R_drewN|apply Kd.R_drew));exact (Kd.R_mono (Kd.R_far (p:=⟨gbz66,1,none⟩) (Kd.R_types HOz98.out BKz66.out (by decide)) (fun _ hk=>hk.2) (.int .i64 tz91)) (fun _ h_=>h_.1)))) (by decide) hg);have _:=Ak (blk_grown (g:=gbz66) (o := .cells #[.int .i64 xz67000_126, .int .i64 tz91, .int .i64 xz67002_126, .int .i64 0] 82 (0,0)) (by (with_reducible repeat (first|refine blk_drewN ?_ _|refine blk_drew ?_|refine blk_alloc ?_ _));refine blk_put (cs := #[.int .i64 xz67000_126, .int .i64 0, .int .i64 xz67002_126, .int .i64 0]) ?_ 1 _ rfl;(with_reducible repeat (first|refine blk_drewN ?_ _|refine blk_drew ?_|refine blk_alloc ?_ _));exact BKz66.out) hg (Kd.R_ne HOz98.out BKz66.out (by decide)));have _:=Ak (hb);have _:=Ak (Kept.of_grown (S:=(fun k_=>P0_ k_)) hg (oP1 GWz66.out) (fun k_ e_=>(HOz98.out.1 k_ e_)));have _:=Ak (ho);clear HO_34 BKz66 HB HK HOz98;rename_i HO_34 BKz66 HB HK HOz100;clear ho hb hg hat))
           go_meet
           case rel=>exact ⟨_,(yz94),(tz91),(tz92),(tz91),oS,oS,H',⟨by have:=HJ13.out;have:=HJ42.out;have:=HJ45.out;have:=HK4.out;have:=HJ113.out;have:=HJ116.out;have:=HJ126.out;first|omega|exact Nat.le_refl _⟩,⟨oR HOz100.out⟩,⟨oR HO_34.out⟩,⟨oL BKz66.out⟩,⟨oP1 GWz66.out⟩,⟨oB1 GEz66.out⟩⟩
          replace c181:=Bool.eq_false_iff.mpr c181
          subst c181
          have H1:(if tz90.length<140737488355328 then ((some (tz90++[58]:List Int)).bind fun yz95=>(if a5=true then (if yz95.length<140737488355328 then (pO.j10 kj126 (yz95++[32]) l1 tz91 a3 a4 a5 a6 a7 a8 false a10 tz92 a12 x34_4 x35_4 xz67000_126 0 xz67002_126 0) else (none)) else (pO.j10 kj126 yz95 l1 tz91 a3 a4 a5 a6 a7 a8 false a10 tz92 a12 x34_4 x35_4 xz67000_126 0 xz67002_126 0))) else (none))=some (r1,r2,r3,r4):=by rw [if_neg (show ¬ (false=true) by decide)] at H;exact H
          clear H
          have H:=H1
          clear H1
          by_cases c194:tz90.length<140737488355328
          ·
           rw [if_pos c194] at H
           have LMc194:=Ak c194
           clear c194
           obtain ⟨yz95,hyz95⟩ : ∃ y_:List Int,y_=(tz90++[58]):=⟨_,rfl⟩
           replace H:(if a5=true then (if yz95.length<140737488355328 then (pO.j10 kj126 (yz95++[32]) l1 tz91 a3 a4 a5 a6 a7 a8 false a10 tz92 a12 x34_4 x35_4 xz67000_126 0 xz67002_126 0) else (none)) else (pO.j10 kj126 yz95 l1 tz91 a3 a4 a5 a6 a7 a8 false a10 tz92 a12 x34_4 x35_4 xz67000_126 0 xz67002_126 0))=some (r1,r2,r3,r4):=by first|(rw [hyz95];with_reducible exact H)|(have H2_:=(Option.bind_some _ _).symm.trans H;rw [hyz95];with_reducible exact H2_)|(have H2_:=(Option.bind_some _ _).symm.trans H;with_reducible exact H2_)|with_reducible exact H|(rw [hyz95];exact H)|exact H
           have Nyz95:=Ak hyz95
           clear hyz95
           by_cases c195:a5=true
           rotate_left
           ·
            replace c195:=Bool.eq_false_iff.mpr c195
            subst c195
            have H1:(pO.j10 kj126 yz95 l1 tz91 a3 a4 false a6 a7 a8 false a10 tz92 a12 x34_4 x35_4 xz67000_126 0 xz67002_126 0)=some (r1,r2,r3,r4):=by rw [if_neg (show ¬ (false=true) by decide)] at H;exact H
            clear H
            have H:=H1
            clear H1
            have H':=Ak H
            clear H
            obtain ⟨Ao201,co201,eo201⟩:=Kd.R_slice HO_0.out
            subst eo201
            go_wp2_with (first|((with_reducible refine gate_callee (f:=38) rfl ?_);refine goesL_ (some 238) rfl rfl Try.func38 (by kernel_rfl) rfl #[.slice Ao201 x0_126.length co201, .slice (some adz16) l1.length c1, .int .i64 x2_4, .int .i64 x11_126] rfl oM ?_;(with_reducible refine (pS.calls kj126 (fun k_=>some k_=(.slice Ao201 x0_126.length co201:Value).ownBlock) (.slice Ao201 x0_126.length co201) x0_126 _ _ l1 x2_4 x11_126 tz90 tz91 tz92 tz93 w0 _ ?side1 ?side2 ?side3 ?side4 A180.out).mono ?_);(case side1=>exact oB1 GEz66.out);(case side2=>exact Kd.R_tight rfl HO_0.out);(case side3=>exact Kd.C_kept_call HR1.out (oP1 GWz66.out) (fun k_ hs_=>(fun e_=>(HO_0.out.1 k_ e_.symm)) hs_));(case side4=>exact HC1.out);rintro e w202 ⟨vz97,rfl,ho0,hb,hkp⟩;refine ⟨_,rfl,?_⟩;have _:=Ak (Kd.R_mono (ok':=fun k_=>(P0_ k_∨w.heap.size≤k_)∧k_≠gbz66) (Kd.R_keptB ((Kd.R_apart' HO_34.out (Kd.R_typed HO_0.out) (by decide))) hkp (fun k_ hk_ hs_=>(hk_.2) hs_)) (fun k_ hk_=>⟨hk_.1.1.1,hk_.1.1.2⟩));have _:=Ak (blk_kept (oL BKz66.out) hkp (fun hs_=>(fun e_=>(Kd.R_ne HO_0.out BKz66.out (by decide)) e_) hs_));have _:=Ak (Kd.R_mono (ok':=fun k_=>(P0_ k_∨w.heap.size≤k_)) ho0 (fun k_ hk_=>Or.elim hk_ (fun hs_=>(HO_0.out.1 k_ (hs_).symm)) (fun hn_=>(.inr (Nat.le_trans (by first|exact HK.out.1|exact (show Kept w _ (fun k_=>P0_ k_) from oP1 GWz66.out).1) hn_)))));have _:=Ak (Kept.then_ (S:=(fun k_=>P0_ k_)) (oP1 GWz66.out) hkp (fun k_ hs_=>(fun e_=>(HO_0.out.1 k_ e_.symm)) hs_));have _:=Ak (hb);clear HO_34 BKz66 HK HB HO_0;rename_i HO_34 BKz66 HOz98 HK HB;(try clear hb);(try clear hkp);(try clear ho0))|((with_reducible refine gate_builtin (b := .append) (xs := #[.tmp 246, .tmp 247]) rfl ?_);(try (refine gate_guard (by rfl) ?_;dsimp only));at_builtin;refine Kd.R_append (Kd.int .u8) (w0:=w0) w0.heap.size rfl (.tmp 246) (.tmp 247) 44 5 (.int .u8 0) 1 rfl Try.underlying44 info5 rfl (by decide) (by omega) vz97 tz90 58 [.int .u8 58] (fun k_=>(P0_ k_∨w.heap.size≤k_)) (fun _=>False) rfl rfl ?aP (fun _ hk=>hk.elim) ?aF ?aO ?aB ?aS ?aL ?_;(case aP=>exact rfl);(case aB=>exact (oB1 GEz66.out));(case aF=>exact (fun k_ hk=>(.inr (Nat.le_trans (by first|exact HK.out.1|exact (show Kept w _ (fun k_=>P0_ k_) from oP1 GWz66.out).1) hk))));(case aO=>exact (oR HOz98.out));(case aS=>exact (below_size (oB1 GEz66.out)));(case aL=>have:=LMc194.out;omega);intro vz104 w203 ho hb hg hat;rw [← Nyz95.out] at ho;have _:=Ak (Kd.R_over' (oR HO_34.out) (Kd.R_typed (oR HOz98.out)) (by decide) hg);have _:=Ak (blk_grown (g:=gbz66) (o := .cells #[.int .i64 xz67000_126, .int .i64 0, .int .i64 xz67002_126, .int .i64 0] 82 (0,0)) (oL BKz66.out) hg (Kd.R_ne HOz98.out BKz66.out (by decide)));have _:=Ak (hb);have _:=Ak (Kept.of_grown (S:=(fun k_=>P0_ k_)) hg (oP1 GWz66.out) (fun k_ e_=>(HOz98.out.1 k_ e_)));have _:=Ak (ho);clear HO_34 BKz66 HB HK HOz98;rename_i HO_34 BKz66 HB HK HOz105;clear ho hb hg hat))
            go_meet
            case rel=>exact ⟨_,(yz95),(tz91),(tz92),(0),oS,oS,H',⟨by have:=HJ13.out;have:=HJ42.out;have:=HJ45.out;have:=HK4.out;have:=HJ113.out;have:=HJ116.out;have:=HJ126.out;first|omega|exact Nat.le_refl _⟩,⟨oR HOz105.out⟩,⟨oR HO_34.out⟩,⟨oL BKz66.out⟩,⟨oP1 GWz66.out⟩,⟨oB1 GEz66.out⟩⟩
           subst c195
           have H1:(if yz95.length<140737488355328 then (pO.j10 kj126 (yz95++[32]) l1 tz91 a3 a4 true a6 a7 a8 false a10 tz92 a12 x34_4 x35_4 xz67000_126 0 xz67002_126 0) else (none))=some (r1,r2,r3,r4):=by rw [if_pos rfl] at H;exact H
           clear H
           have H:=H1
           clear H1
           by_cases c196:yz95.length<140737488355328
           ·
            rw [if_pos c196] at H
            have LMc196:=Ak c196
            clear c196
            obtain ⟨yz103,hyz103⟩ : ∃ y_:List Int,y_=(yz95++[32]):=⟨_,rfl⟩
            replace H:(pO.j10 kj126 yz103 l1 tz91 a3 a4 true a6 a7 a8 false a10 tz92 a12 x34_4 x35_4 xz67000_126 0 xz67002_126 0)=some (r1,r2,r3,r4):=by first|(rw [hyz103];with_reducible exact H)|(have H2_:=(Option.bind_some _ _).symm.trans H;rw [hyz103];with_reducible exact H2_)|(have H2_:=(Option.bind_some _ _).symm.trans H;with_reducible exact H2_)|with_reducible exact H|(rw [hyz103];exact H)|exact H
            have Nyz103:=Ak hyz103
            clear hyz103
            have H':=Ak H
            clear H
            obtain ⟨Ao197,co197,eo197⟩:=Kd.R_slice HO_0.out
            subst eo197
            go_wp2_with (first|((with_reducible refine gate_callee (f:=38) rfl ?_);refine goesL_ (some 238) rfl rfl Try.func38 (by kernel_rfl) rfl #[.slice Ao197 x0_126.length co197, .slice (some adz16) l1.length c1, .int .i64 x2_4, .int .i64 x11_126] rfl oM ?_;(with_reducible refine (pS.calls kj126 (fun k_=>some k_=(.slice Ao197 x0_126.length co197:Value).ownBlock) (.slice Ao197 x0_126.length co197) x0_126 _ _ l1 x2_4 x11_126 tz90 tz91 tz92 tz93 w0 _ ?side1 ?side2 ?side3 ?side4 A180.out).mono ?_);(case side1=>exact oB1 GEz66.out);(case side2=>exact Kd.R_tight rfl HO_0.out);(case side3=>exact Kd.C_kept_call HR1.out (oP1 GWz66.out) (fun k_ hs_=>(fun e_=>(HO_0.out.1 k_ e_.symm)) hs_));(case side4=>exact HC1.out);rintro e w198 ⟨vz97,rfl,ho0,hb,hkp⟩;refine ⟨_,rfl,?_⟩;have _:=Ak (Kd.R_mono (ok':=fun k_=>(P0_ k_∨w.heap.size≤k_)∧k_≠gbz66) (Kd.R_keptB ((Kd.R_apart' HO_34.out (Kd.R_typed HO_0.out) (by decide))) hkp (fun k_ hk_ hs_=>(hk_.2) hs_)) (fun k_ hk_=>⟨hk_.1.1.1,hk_.1.1.2⟩));have _:=Ak (blk_kept (oL BKz66.out) hkp (fun hs_=>(fun e_=>(Kd.R_ne HO_0.out BKz66.out (by decide)) e_) hs_));have _:=Ak (Kd.R_mono (ok':=fun k_=>(P0_ k_∨w.heap.size≤k_)) ho0 (fun k_ hk_=>Or.elim hk_ (fun hs_=>(HO_0.out.1 k_ (hs_).symm)) (fun hn_=>(.inr (Nat.le_trans (by first|exact HK.out.1|exact (show Kept w _ (fun k_=>P0_ k_) from oP1 GWz66.out).1) hn_)))));have _:=Ak (Kept.then_ (S:=(fun k_=>P0_ k_)) (oP1 GWz66.out) hkp (fun k_ hs_=>(fun e_=>(HO_0.out.1 k_ e_.symm)) hs_));have _:=Ak (hb);clear HO_34 BKz66 HK HB HO_0;rename_i HO_34 BKz66 HOz98 HK HB;(try clear hb);(try clear hkp);(try clear ho0))|((with_reducible refine gate_builtin (b := .append) (xs := #[.tmp 246, .tmp 247]) rfl ?_);(try (refine gate_guard (by rfl) ?_;dsimp only));at_builtin;refine Kd.R_append (Kd.int .u8) (w0:=w0) w0.heap.size rfl (.tmp 246) (.tmp 247) 44 5 (.int .u8 0) 1 rfl Try.underlying44 info5 rfl (by decide) (by omega) vz97 tz90 58 [.int .u8 58] (fun k_=>(P0_ k_∨w.heap.size≤k_)) (fun _=>False) rfl rfl ?aP (fun _ hk=>hk.elim) ?aF ?aO ?aB ?aS ?aL ?_;(case aP=>exact rfl);(case aB=>exact (oB1 GEz66.out));(case aF=>exact (fun k_ hk=>(.inr (Nat.le_trans (by first|exact HK.out.1|exact (show Kept w _ (fun k_=>P0_ k_) from oP1 GWz66.out).1) hk))));(case aO=>exact (oR HOz98.out));(case aS=>exact (below_size (oB1 GEz66.out)));(case aL=>have:=LMc194.out;omega);intro vz104 w199 ho hb hg hat;rw [← Nyz95.out] at ho;have _:=Ak (Kd.R_over' (oR HO_34.out) (Kd.R_typed (oR HOz98.out)) (by decide) hg);have _:=Ak (blk_grown (g:=gbz66) (o := .cells #[.int .i64 xz67000_126, .int .i64 0, .int .i64 xz67002_126, .int .i64 0] 82 (0,0)) (oL BKz66.out) hg (Kd.R_ne HOz98.out BKz66.out (by decide)));have _:=Ak (hb);have _:=Ak (Kept.of_grown (S:=(fun k_=>P0_ k_)) hg (oP1 GWz66.out) (fun k_ e_=>(HOz98.out.1 k_ e_)));have _:=Ak (ho);clear HO_34 BKz66 HB HK HOz98;rename_i HO_34 BKz66 HB HK HOz105;clear ho hb hg hat)|((with_reducible refine gate_builtin (b := .append) (xs := #[.tmp 250, .tmp 251]) rfl ?_);(try (refine gate_guard (by rfl) ?_;dsimp only));at_builtin;refine Kd.R_append (Kd.int .u8) (w0:=w0) w0.heap.size rfl (.tmp 250) (.tmp 251) 44 5 (.int .u8 0) 1 rfl Try.underlying44 info5 rfl (by decide) (by omega) vz104 yz95 32 [.int .u8 32] (fun k_=>(P0_ k_∨w.heap.size≤k_)) (fun _=>False) rfl rfl ?aP (fun _ hk=>hk.elim) ?aF ?aO ?aB ?aS ?aL ?_;(case aP=>exact rfl);(case aB=>exact (oB1 GEz66.out));(case aF=>exact (fun k_ hk=>(.inr (Nat.le_trans (by first|exact HK.out.1|exact (show Kept w _ (fun k_=>P0_ k_) from oP1 GWz66.out).1) hk))));(case aO=>exact (oR HOz105.out));(case aS=>exact (below_size (oB1 GEz66.out)));(case aL=>have:=LMc196.out;omega);intro vz106 w200 ho hb hg hat;rw [← Nyz103.out] at ho;have _:=Ak (Kd.R_over' (oR HO_34.out) (Kd.R_typed (oR HOz105.out)) (by decide) hg);have _:=Ak (blk_grown (g:=gbz66) (o := .cells #[.int .i64 xz67000_126, .int .i64 0, .int .i64 xz67002_126, .int .i64 0] 82 (0,0)) (oL BKz66.out) hg (Kd.R_ne HOz105.out BKz66.out (by decide)));have _:=Ak (hb);have _:=Ak (Kept.of_grown (S:=(fun k_=>P0_ k_)) hg (oP1 GWz66.out) (fun k_ e_=>(HOz105.out.1 k_ e_)));have _:=Ak (ho);clear HO_34 BKz66 HB HK HOz105;rename_i HO_34 BKz66 HB HK HOz107;clear ho hb hg hat))
            go_meet
            case rel=>exact ⟨_,(yz103),(tz91),(tz92),(0),oS,oS,H',⟨by have:=HJ13.out;have:=HJ42.out;have:=HJ45.out;have:=HK4.out;have:=HJ113.out;have:=HJ116.out;have:=HJ126.out;first|omega|exact Nat.le_refl _⟩,⟨oR HOz107.out⟩,⟨oR HO_34.out⟩,⟨oL BKz66.out⟩,⟨oP1 GWz66.out⟩,⟨oB1 GEz66.out⟩⟩
           rw [if_neg c196] at H
           exact absurd H (by simp)
          rw [if_neg c194] at H
          exact absurd H (by simp)
         case rest=>as_aux_lemma =>
         clear HC178
         obtain ⟨kq,x0_177,x2_177,x11_177,xz67001_177,rfl,rfl,HA,HJ177,HO_0,HO_34,BKz66,HK,HB⟩:=hcut
         cases kq with
         | zero=>exact absurd HA.out (by simp [pO.j10])
         | succ kj177 =>
          have H:=HA.out
          clear HA
          simp only [pO.j10] at H
          replace H:=Option.bind_eq_some_iff.mp H
          obtain ⟨⟨tz108,tz109,tz110,tz111⟩,A2040,H⟩:=H
          replace H:(if a12=(-1) then (pO.j11 kj177 tz108 l1 tz109 a3 a4 a5 a6 a7 a8 x9_4 a10 tz110 a12 x34_4 x35_4 false xz67000_126 xz67001_177 xz67002_126 0) else (pO.j11 kj177 tz108 l1 tz109 a3 a4 a5 a6 a7 a8 x9_4 a10 tz110 a12 x34_4 x35_4 (!tz111) xz67000_126 xz67001_177 xz67002_126 0))=some (r1,r2,r3,r4):=H
          have A204:=Ak A2040
          clear A2040
          have HC205:=Ak H
          clear H
          obtain ⟨Ao206,co206,eo206⟩:=Kd.R_slice HO_0.out
          subst eo206
          go_upto_region 59 with (first|((with_reducible refine gate_callee (f:=21) rfl ?_);refine goesL_ (some 266) rfl rfl Try.func21 (by kernel_rfl) rfl #[.slice Ao206 x0_177.length co206, .slice (some adz16) l1.length c1, .int .i64 x2_177, .bool a5, .int .i64 a6, .string a7, .string a8, .bool x9_4, .int .i64 (wrap64 (a10+1)), .int .i64 x11_177, .int .i64 a12] rfl oM ?_;(with_reducible refine (ih_21 kj177 (by have:=HJ13.out;have:=HJ42.out;have:=HJ45.out;have:=HK4.out;have:=HJ113.out;have:=HJ116.out;have:=HJ126.out;have:=HJ177.out;omega) (fun k_=>some k_=(.slice Ao206 x0_177.length co206:Value).ownBlock) (.slice Ao206 x0_177.length co206) x0_177 _ _ l1 x2_177 a5 a6 a7 a8 x9_4 (wrap64 (a10+1)) x11_177 a12 tz108 tz109 tz110 tz111 w0 _ ?side1 ?side2 ?side3 ?side4 A204.out).mono ?_);(case side1=>exact oB1 GEz66.out);(case side2=>exact Kd.R_tight rfl HO_0.out);(case side3=>exact Kd.C_kept_call HR1.out (oP1 GWz66.out) (fun k_ hs_=>(fun e_=>(HO_0.out.1 k_ e_.symm)) hs_));(case side4=>exact HC1.out);rintro e w207 ⟨vz112,rfl,ho0,hb,hkp⟩;refine ⟨_,rfl,?_⟩;have _:=Ak (Kd.R_mono (ok':=fun k_=>(P0_ k_∨w.heap.size≤k_)∧k_≠gbz66) (Kd.R_keptB ((Kd.R_apart' HO_34.out (Kd.R_typed HO_0.out) (by decide))) hkp (fun k_ hk_ hs_=>(hk_.2) hs_)) (fun k_ hk_=>⟨hk_.1.1.1,hk_.1.1.2⟩));have _:=Ak (blk_kept (oL BKz66.out) hkp (fun hs_=>(fun e_=>(Kd.R_ne HO_0.out BKz66.out (by decide)) e_) hs_));have _:=Ak (Kd.R_mono (ok':=fun k_=>(P0_ k_∨w.heap.size≤k_)) ho0 (fun k_ hk_=>Or.elim hk_ (fun hs_=>(HO_0.out.1 k_ (hs_).symm)) (fun hn_=>(.inr (Nat.le_trans (by first|exact HK.out.1|exact (show Kept w _ (fun k_=>P0_ k_) from oP1 GWz66.out).1) hn_)))));have _:=Ak (Kept.then_ (S:=(fun k_=>P0_ k_)) (oP1 GWz66.out) hkp (fun k_ hs_=>(fun e_=>(HO_0.out.1 k_ e_.symm)) hs_));have _:=Ak (hb);clear HO_34 BKz66 HK HB HO_0;rename_i HO_34 BKz66 HOz113 HK HB;(try clear hb);(try clear hkp);(try clear ho0)))
          (try simp only [Act.put,List.setIfInBounds_toArray,List.set_cons_zero,List.set_cons_succ])
          go_cut [276] from 233 to 276 (fun v276 wc => ∃ (kq:Nat) (x276_204:Bool),v276 = .bool x276_204∧Aside0 (pO.j11 kq tz108 l1 tz109 a3 a4 a5 a6 a7 a8 x9_4 a10 tz110 a12 x34_4 x35_4 x276_204 xz67000_126 xz67001_177 xz67002_126 0=some (r1,r2,r3,r4))∧Aside0 (kq≤kj177)∧Aside0 (Kd.R (Kd.int .u8) 5 wc w0.heap.size (fun k_=>(P0_ k_∨w.heap.size≤k_)) vz112 tz108)∧Aside0 (Kd.R k82 82 wc w0.heap.size (fun k_=>(P0_ k_∨w.heap.size≤k_)∧k_≠gbz66) u34 x34_4)∧Aside0 (wc.heap[gbz66]? = some (.cells #[.int .i64 xz67000_126, .int .i64 xz67001_177, .int .i64 xz67002_126, .int .i64 0] 82 (0,0)))∧Aside0 (Kept w wc (fun k_=>P0_ k_))∧Aside0 (Below w0.heap.size w0 wc))
          case first =>
           have H:=HC205.out
           clear HC205
           by_cases c208:a12=(-1)
           ·
            rw [if_pos c208] at H
            have c208b0:(a12 == (-1))=true:=beq_iff_eq.mpr c208
            have c208b1:(a12 != (-1))=false:=bne_eq_false_iff_eq.mpr c208
            clear c208
            (first|rw [c208b0]|(simp only [i64_w,i32_w];rw [c208b0])|skip)
            have H':=Ak H
            clear H
            go_wp2
            go_meet
            case rel=>exact ⟨_,(false),oS,H',⟨by have:=HJ13.out;have:=HJ42.out;have:=HJ45.out;have:=HK4.out;have:=HJ113.out;have:=HJ116.out;have:=HJ126.out;have:=HJ177.out;first|omega|exact Nat.le_refl _⟩,⟨oR HOz113.out⟩,⟨oR HO_34.out⟩,⟨oL BKz66.out⟩,⟨oP1 GWz66.out⟩,⟨oB1 GEz66.out⟩⟩
           rw [if_neg c208] at H
           have c208b0:(a12 == (-1))=false:=beq_eq_false_iff_ne.mpr c208
           have c208b1:(a12 != (-1))=true:=bne_iff_ne.mpr c208
           (first|rw [c208b0]|(simp only [i64_w,i32_w];rw [c208b0])|skip)
           have H':=Ak H
           clear H
           go_wp2
           go_meet
           case rel=>exact ⟨_,(!tz111),oS,H',⟨by have:=HJ13.out;have:=HJ42.out;have:=HJ45.out;have:=HK4.out;have:=HJ113.out;have:=HJ116.out;have:=HJ126.out;have:=HJ177.out;first|omega|exact Nat.le_refl _⟩,⟨oR HOz113.out⟩,⟨oR HO_34.out⟩,⟨oL BKz66.out⟩,⟨oP1 GWz66.out⟩,⟨oB1 GEz66.out⟩⟩
          case rest=>as_aux_lemma =>
          clear HC205
          obtain ⟨kq,x276_204,rfl,HA,HJ204,HO_0,HO_34,BKz66,HK,HB⟩:=hcut
          cases kq with
          | zero=>exact absurd HA.out (by simp [pO.j11])
          | succ kj204 =>
           have H:=HA.out
           clear HA
           simp only [pO.j11] at H
           by_cases c209:x276_204=true
           ·
            subst c209
            have H1:(some (tz108,tz109,tz110,false))=some (r1,r2,r3,r4):=by rw [if_pos rfl] at H;exact H
            clear H
            have H:=H1
            clear H1
            simp only [Option.some.injEq,Prod.mk.injEq] at H
            obtain ⟨rfl,rfl,rfl,rfl⟩:=H
            go_wp2
            refine bodyPost_ret (results_list (rs:=[.tmp 26, .tmp 27, .tmp 28, .tmp 29]) rfl (by simp) (.tmp (.tmp (.tmp (.tmp .nil))))) rfl ?_
            exact ⟨_,oE,oR HO_0.out,oB1 GEz66.out,oP1 GWz66.out⟩
           replace c209:=Bool.eq_false_iff.mpr c209
           subst c209
           have H1:(if a5=true then (if a3=123 then (pO.j12 kj204 tz108 l1 tz109 a3 a4 a5 a6 a7 a8 x9_4 a10 tz110 a12 x34_4 x35_4 x9_4 xz67000_126 xz67001_177 xz67002_126 0) else (pO.j12 kj204 tz108 l1 tz109 a3 a4 a5 a6 a7 a8 x9_4 a10 tz110 a12 x34_4 x35_4 false xz67000_126 xz67001_177 xz67002_126 0)) else (pO.j12 kj204 tz108 l1 tz109 a3 a4 a5 a6 a7 a8 x9_4 a10 tz110 a12 x34_4 x35_4 false xz67000_126 xz67001_177 xz67002_126 0))=some (r1,r2,r3,r4):=by rw [if_neg (show ¬ (false=true) by decide)] at H;exact H
           clear H
           have H:=H1
           clear H1
           have HC210:=Ak H
           clear H
           go_upto_region 61 with (fail)
           go_cut [287] from 277 to 287 (fun v287 wc => ∃ (kq:Nat) (x287_209:Bool),v287 = .bool x287_209∧Aside0 (pO.j12 kq tz108 l1 tz109 a3 a4 a5 a6 a7 a8 x9_4 a10 tz110 a12 x34_4 x35_4 x287_209 xz67000_126 xz67001_177 xz67002_126 0=some (r1,r2,r3,r4))∧Aside0 (kq≤kj204)∧Aside0 (Kd.R (Kd.int .u8) 5 wc w0.heap.size (fun k_=>(P0_ k_∨w.heap.size≤k_)) vz112 tz108)∧Aside0 (Kd.R k82 82 wc w0.heap.size (fun k_=>(P0_ k_∨w.heap.size≤k_)∧k_≠gbz66) u34 x34_4)∧Aside0 (wc.heap[gbz66]? = some (.cells #[.int .i64 xz67000_126, .int .i64 xz67001_177, .int .i64 xz67002_126, .int .i64 0] 82 (0,0)))∧Aside0 (Kept w wc (fun k_=>P0_ k_))∧Aside0 (Below w0.heap.size w0 wc))
           case first =>
            have H:=HC210.out
            clear HC210
            by_cases c211:a5=true
            rotate_left
            ·
             replace c211:=Bool.eq_false_iff.mpr c211
             subst c211
             have H1:(pO.j12 kj204 tz108 l1 tz109 a3 a4 false a6 a7 a8 x9_4 a10 tz110 a12 x34_4 x35_4 false xz67000_126 xz67001_177 xz67002_126 0)=some (r1,r2,r3,r4):=by rw [if_neg (show ¬ (false=true) by decide)] at H;exact H
             clear H
             have H:=H1
             clear H1
             have H':=Ak H
             clear H
             go_wp2
             go_meet
             case rel=>exact ⟨_,(false),oS,H',⟨by have:=HJ13.out;have:=HJ42.out;have:=HJ45.out;have:=HK4.out;have:=HJ113.out;have:=HJ116.out;have:=HJ126.out;have:=HJ177.out;have:=HJ204.out;first|omega|exact Nat.le_refl _⟩,⟨oR HO_0.out⟩,⟨oR HO_34.out⟩,⟨oL BKz66.out⟩,⟨oP1 GWz66.out⟩,⟨oB1 GEz66.out⟩⟩
            subst c211
            have H1:(if a3=123 then (pO.j12 kj204 tz108 l1 tz109 a3 a4 true a6 a7 a8 x9_4 a10 tz110 a12 x34_4 x35_4 x9_4 xz67000_126 xz67001_177 xz67002_126 0) else (pO.j12 kj204 tz108 l1 tz109 a3 a4 true a6 a7 a8 x9_4 a10 tz110 a12 x34_4 x35_4 false xz67000_126 xz67001_177 xz67002_126 0))=some (r1,r2,r3,r4):=by rw [if_pos rfl] at H;exact H
            clear H
            have H:=H1
            clear H1
            by_cases c212:a3=123
            ·
             rw [if_pos c212] at H
             have c212b0:(a3 == 123)=true:=beq_iff_eq.mpr c212
             have c212b1:(a3 != 123)=false:=bne_eq_false_iff_eq.mpr c212
             clear c212
             (first|rw [c212b0]|(simp only [i64_w,i32_w];rw [c212b0])|skip)
             have H':=Ak H
             clear H
             go_wp2
             go_meet
             case rel=>exact ⟨_,(x9_4),oS,H',⟨by have:=HJ13.out;have:=HJ42.out;have:=HJ45.out;have:=HK4.out;have:=HJ113.out;have:=HJ116.out;have:=HJ126.out;have:=HJ177.out;have:=HJ204.out;first|omega|exact Nat.le_refl _⟩,⟨oR HO_0.out⟩,⟨oR HO_34.out⟩,⟨oL BKz66.out⟩,⟨oP1 GWz66.out⟩,⟨oB1 GEz66.out⟩⟩
            rw [if_neg c212] at H
            have c212b0:(a3 == 123)=false:=beq_eq_false_iff_ne.mpr c212
            have c212b1:(a3 != 123)=true:=bne_iff_ne.mpr c212
            (first|rw [c212b0]|(simp only [i64_w,i32_w];rw [c212b0])|skip)
            have H':=Ak H
            clear H
            go_wp2
            go_meet
            case rel=>exact ⟨_,(false),oS,H',⟨by have:=HJ13.out;have:=HJ42.out;have:=HJ45.out;have:=HK4.out;have:=HJ113.out;have:=HJ116.out;have:=HJ126.out;have:=HJ177.out;have:=HJ204.out;first|omega|exact Nat.le_refl _⟩,⟨oR HO_0.out⟩,⟨oR HO_34.out⟩,⟨oL BKz66.out⟩,⟨oP1 GWz66.out⟩,⟨oB1 GEz66.out⟩⟩
           case rest=>as_aux_lemma =>
           clear HC210
           obtain ⟨kq,x287_209,rfl,HA,HJ209,HO_0,HO_34,BKz66,HK,HB⟩:=hcut
           cases kq with
           | zero=>exact absurd HA.out (by simp [pO.j12])
           | succ kj209 =>
            have H:=HA.out
            clear HA
            simp only [pO.j12] at H
            by_cases c213:x287_209=true
            rotate_left
            ·
             replace c213:=Bool.eq_false_iff.mpr c213
             subst c213
             have H1:(pO.l0 kj209 tz108 l1 (wrap64 ((wrap64 (tz109 - 1))+1)) a3 a4 a5 a6 a7 a8 x9_4 a10 tz110 a12 x34_4 (wrap64 (x35_4+1)))=some (r1,r2,r3,r4):=by rw [if_neg (show ¬ (false=true) by decide)] at H;exact H
             clear H
             have H:=H1
             clear H1
             have H':=Ak H
             clear H
             go_wp2
             go_roundg kj209
             case measure=>have:=HJ13.out;have:=HJ42.out;have:=HJ45.out;have:=HK4.out;have:=HJ113.out;have:=HJ116.out;have:=HJ126.out;have:=HJ177.out;have:=HJ204.out;have:=HJ209.out;omega
             case rel=>exact ⟨(tz108),(wrap64 ((wrap64 (tz109 - 1))+1)),(x9_4),(tz110),(x34_4),(wrap64 (x35_4+1)),oS,oS,oS,oS,H',⟨by have:=HJ13.out;have:=HJ42.out;have:=HJ45.out;have:=HK4.out;have:=HJ113.out;have:=HJ116.out;have:=HJ126.out;have:=HJ177.out;have:=HJ204.out;have:=HJ209.out;omega⟩,⟨oR HO_0.out⟩,⟨by (with_reducible repeat (first|apply Kd.R_alloc|apply Kd.R_drewN|apply Kd.R_drew));exact Kd.R_mono HO_34.out (fun _ hk=>hk.1)⟩,⟨oP1 GWz66.out⟩,⟨oB1 GEz66.out⟩⟩
            subst c213
            have H1:(if xz67000_126>xz67001_177 then (pO.l0 kj209 tz108 l1 (wrap64 ((wrap64 (tz109 - 1))+1)) a3 a4 a5 a6 a7 a8 false a10 tz110 a12 x34_4 (wrap64 (x35_4+1))) else (if xz67002_126>(tz108.length:Int) then (pO.l0 kj209 tz108 l1 (wrap64 ((wrap64 (tz109 - 1))+1)) a3 a4 a5 a6 a7 a8 false a10 tz110 a12 x34_4 (wrap64 (x35_4+1))) else (if x34_4.length<4398046511104 then (pO.l0 kj209 tz108 l1 (wrap64 ((wrap64 (tz109 - 1))+1)) a3 a4 a5 a6 a7 a8 x9_4 a10 tz110 a12 (x34_4++[(⟨xz67000_126,xz67001_177,xz67002_126,(tz108.length:Int)⟩:S82)]) (wrap64 (x35_4+1))) else (none))))=some (r1,r2,r3,r4):=by rw [if_pos rfl] at H;exact H
            clear H
            have H:=H1
            clear H1
            by_cases c214:xz67000_126>xz67001_177
            ·
             rw [if_pos c214] at H
             have c214b0:decide (xz67001_177<xz67000_126)=true:=decide_eq_true c214
             clear c214
             have H':=Ak H
             clear H
             obtain ⟨Ao215,co215,eo215⟩:=Kd.R_slice HO_0.out
             subst eo215
             have hcz216_0:wc.cell? ⟨gbz66,0,none⟩=some (.int .i64 xz67000_126):=(blk_cell BKz66.out 0).trans rfl
             have hcz216_1:wc.cell? ⟨gbz66,1,none⟩=some (.int .i64 xz67001_177):=(blk_cell BKz66.out 1).trans rfl
             have hcz216_2:wc.cell? ⟨gbz66,2,none⟩=some (.int .i64 xz67002_126):=(blk_cell BKz66.out 2).trans rfl
             have hcz216_3:wc.cell? ⟨gbz66,3,none⟩=some (.int .i64 0):=(blk_cell BKz66.out 3).trans rfl
             have hfz216_0:=blk_frozen BKz66.out 0
             have hfz216_1:=blk_frozen BKz66.out 1
             have hfz216_2:=blk_frozen BKz66.out 2
             have hfz216_3:=blk_frozen BKz66.out 3
             go_wp2
             go_roundg kj209
             case measure=>have:=HJ13.out;have:=HJ42.out;have:=HJ45.out;have:=HK4.out;have:=HJ113.out;have:=HJ116.out;have:=HJ126.out;have:=HJ177.out;have:=HJ204.out;have:=HJ209.out;omega
             case rel=>exact ⟨(tz108),(wrap64 ((wrap64 (tz109 - 1))+1)),(false),(tz110),(x34_4),(wrap64 (x35_4+1)),oS,oS,oS,oS,H',⟨by have:=HJ13.out;have:=HJ42.out;have:=HJ45.out;have:=HK4.out;have:=HJ113.out;have:=HJ116.out;have:=HJ126.out;have:=HJ177.out;have:=HJ204.out;have:=HJ209.out;omega⟩,⟨by (with_reducible repeat (first|apply Kd.R_alloc|apply Kd.R_drewN|apply Kd.R_drew));exact Kd.R_mono (Kd.R_far (p:=⟨gbz66,3,none⟩) (Kd.R_types HO_0.out BKz66.out (by decide)) (fun _ hk=>hk.2) (.int .i64 (tz108.length:Int))) (fun _ hk=>hk.1)⟩,⟨by (with_reducible repeat (first|apply Kd.R_alloc|apply Kd.R_drewN|apply Kd.R_drew));exact Kd.R_mono (Kd.R_far (p:=⟨gbz66,3,none⟩) (Kd.R_mono HO_34.out (fun k_ hk=>(⟨hk,hk.2⟩:_∧k_≠gbz66))) (fun _ hk=>hk.2) (.int .i64 (tz108.length:Int))) (fun _ hk=>hk.1.1)⟩,⟨oP1 GWz66.out⟩,⟨oB1 GEz66.out⟩⟩
            rw [if_neg c214] at H
            have c214b0:decide (xz67001_177<xz67000_126)=false:=decide_eq_false c214
            clear c214
            by_cases c217:xz67002_126>(tz108.length:Int)
            ·
             rw [if_pos c217] at H
             have c217b0:decide ((tz108.length:Int)<xz67002_126)=true:=decide_eq_true c217
             clear c217
             have H':=Ak H
             clear H
             obtain ⟨Ao218,co218,eo218⟩:=Kd.R_slice HO_0.out
             subst eo218
             have hcz219_0:wc.cell? ⟨gbz66,0,none⟩=some (.int .i64 xz67000_126):=(blk_cell BKz66.out 0).trans rfl
             have hcz219_1:wc.cell? ⟨gbz66,1,none⟩=some (.int .i64 xz67001_177):=(blk_cell BKz66.out 1).trans rfl
             have hcz219_2:wc.cell? ⟨gbz66,2,none⟩=some (.int .i64 xz67002_126):=(blk_cell BKz66.out 2).trans rfl
             have hcz219_3:wc.cell? ⟨gbz66,3,none⟩=some (.int .i64 0):=(blk_cell BKz66.out 3).trans rfl
             have hfz219_0:=blk_frozen BKz66.out 0
             have hfz219_1:=blk_frozen BKz66.out 1
             have hfz219_2:=blk_frozen BKz66.out 2
             have hfz219_3:=blk_frozen BKz66.out 3
             go_wp2
             go_roundg kj209
             case measure=>have:=HJ13.out;have:=HJ42.out;have:=HJ45.out;have:=HK4.out;have:=HJ113.out;have:=HJ116.out;have:=HJ126.out;have:=HJ177.out;have:=HJ204.out;have:=HJ209.out;omega
             case rel=>exact ⟨(tz108),(wrap64 ((wrap64 (tz109 - 1))+1)),(false),(tz110),(x34_4),(wrap64 (x35_4+1)),oS,oS,oS,oS,H',⟨by have:=HJ13.out;have:=HJ42.out;have:=HJ45.out;have:=HK4.out;have:=HJ113.out;have:=HJ116.out;have:=HJ126.out;have:=HJ177.out;have:=HJ204.out;have:=HJ209.out;omega⟩,⟨by (with_reducible repeat (first|apply Kd.R_alloc|apply Kd.R_drewN|apply Kd.R_drew));exact Kd.R_mono (Kd.R_far (p:=⟨gbz66,3,none⟩) (Kd.R_types HO_0.out BKz66.out (by decide)) (fun _ hk=>hk.2) (.int .i64 (tz108.length:Int))) (fun _ hk=>hk.1)⟩,⟨by (with_reducible repeat (first|apply Kd.R_alloc|apply Kd.R_drewN|apply Kd.R_drew));exact Kd.R_mono (Kd.R_far (p:=⟨gbz66,3,none⟩) (Kd.R_mono HO_34.out (fun k_ hk=>(⟨hk,hk.2⟩:_∧k_≠gbz66))) (fun _ hk=>hk.2) (.int .i64 (tz108.length:Int))) (fun _ hk=>hk.1.1)⟩,⟨oP1 GWz66.out⟩,⟨oB1 GEz66.out⟩⟩
            rw [if_neg c217] at H
            have c217b0:decide ((tz108.length:Int)<xz67002_126)=false:=decide_eq_false c217
            clear c217
            by_cases c220:x34_4.length<4398046511104
            ·
             rw [if_pos c220] at H
             have LMc220:=Ak c220
             clear c220
             obtain ⟨yz114,hyz114⟩ : ∃ y_:List (S82),y_=(x34_4++[(⟨xz67000_126,xz67001_177,xz67002_126,(tz108.length:Int)⟩:S82)]):=⟨_,rfl⟩
             replace H:(pO.l0 kj209 tz108 l1 (wrap64 ((wrap64 (tz109 - 1))+1)) a3 a4 a5 a6 a7 a8 x9_4 a10 tz110 a12 yz114 (wrap64 (x35_4+1)))=some (r1,r2,r3,r4):=by first|(rw [hyz114];with_reducible exact H)|(have H2_:=(Option.bind_some _ _).symm.trans H;rw [hyz114];with_reducible exact H2_)|(have H2_:=(Option.bind_some _ _).symm.trans H;with_reducible exact H2_)|with_reducible exact H|(rw [hyz114];exact H)|exact H
             have Nyz114:=Ak hyz114
             clear hyz114
             have H':=Ak H
             clear H
             obtain ⟨Ao221,co221,eo221⟩:=Kd.R_slice HO_0.out
             subst eo221
             have hcz222_0:wc.cell? ⟨gbz66,0,none⟩=some (.int .i64 xz67000_126):=(blk_cell BKz66.out 0).trans rfl
             have hcz222_1:wc.cell? ⟨gbz66,1,none⟩=some (.int .i64 xz67001_177):=(blk_cell BKz66.out 1).trans rfl
             have hcz222_2:wc.cell? ⟨gbz66,2,none⟩=some (.int .i64 xz67002_126):=(blk_cell BKz66.out 2).trans rfl
             have hcz222_3:wc.cell? ⟨gbz66,3,none⟩=some (.int .i64 0):=(blk_cell BKz66.out 3).trans rfl
             have hfz222_0:=blk_frozen BKz66.out 0
             have hfz222_1:=blk_frozen BKz66.out 1
             have hfz222_2:=blk_frozen BKz66.out 2
             have hfz222_3:=blk_frozen BKz66.out 3
             go_wp2_with (first|((with_reducible refine gate_builtin (b := .append) (xs := #[.tmp 303, .tmp 305]) rfl ?_);(try (refine gate_guard (by rfl) ?_;dsimp only));at_builtin;refine Kd.R_append k82 (w0:=w0) w0.heap.size rfl (.tmp 303) (.tmp 305) 78 82 (.agg #[(.int .i64 0),(.int .i64 0),(.int .i64 0),(.int .i64 0)]) 32 rfl Try.underlying78 info82 rfl (by decide) (by omega) u34 x34_4 (⟨xz67000_126,xz67001_177,xz67002_126,(tz108.length:Int)⟩:S82) [.int .i64 xz67000_126, .int .i64 xz67001_177, .int .i64 xz67002_126, .int .i64 (tz108.length:Int)] (fun k_=>(P0_ k_∨w.heap.size≤k_)∧k_≠gbz66) (fun _=>False) rfl (by first|(go_simp;done)|(go_simp;rfl)) ?aP (fun _ hk=>hk.elim) ?aF ?aO ?aB ?aS ?aL ?_;(case aP=>exact k82_mkM _ _ _ (⟨xz67000_126,xz67001_177,xz67002_126,(tz108.length:Int)⟩:S82));(case aB=>exact (oB1 GEz66.out));(case aF=>exact (fun k_ hk=>⟨(.inr (Nat.le_trans (show Kept w _ (fun k_=>P0_ k_) from oP1 GWz66.out).1 hk)),Kd.freshB (g:=gbz66) (o := .cells #[.int .i64 xz67000_126, .int .i64 xz67001_177, .int .i64 xz67002_126, .int .i64 (tz108.length:Int)] 82 (0,0)) (by (with_reducible repeat (first|refine blk_drewN ?_ _|refine blk_drew ?_|refine blk_alloc ?_ _));refine blk_put (cs := #[.int .i64 xz67000_126, .int .i64 xz67001_177, .int .i64 xz67002_126, .int .i64 0]) ?_ 3 _ rfl;(with_reducible repeat (first|refine blk_drewN ?_ _|refine blk_drew ?_|refine blk_alloc ?_ _));exact BKz66.out) k_ hk⟩));(case aO=>exact (by (with_reducible repeat (first|apply Kd.R_alloc|apply Kd.R_drewN|apply Kd.R_drew));exact Kd.R_mono (Kd.R_far (p:=⟨gbz66,3,none⟩) (Kd.R_mono HO_34.out (fun k_ hk=>(⟨hk,hk.2⟩:_∧k_≠gbz66))) (fun _ hk=>hk.2) (.int .i64 (tz108.length:Int))) (fun _ hk=>⟨hk.1.1,hk.1.2⟩)));(case aS=>exact (below_size (oB1 GEz66.out)));(case aL=>have:=LMc220.out;omega);intro vz115 w223 ho hb hg hat;rw [← Nyz114.out] at ho;have _:=Ak (Kd.R_over' (by (with_reducible repeat (first|apply Kd.R_alloc|apply Kd.R_drewN|apply Kd.R_drew));exact (Kd.R_mono (Kd.R_far (p:=⟨gbz66,3,none⟩) (Kd.R_types HO_0.out BKz66.out (by decide)) (fun _ hk=>hk.2) (.int .i64 (tz108.length:Int))) (fun _ h_=>h_.1))) (Kd.R_typed (by (with_reducible repeat (first|apply Kd.R_alloc|apply Kd.R_drewN|apply Kd.R_drew));exact (Kd.R_mono (Kd.R_far (p:=⟨gbz66,3,none⟩) (Kd.R_mono HO_34.out (fun k_ hk=>(⟨hk,hk.2⟩:_∧k_≠gbz66))) (fun _ hk=>hk.2) (.int .i64 (tz108.length:Int))) (fun _ h_=>h_.1)))) (by decide) hg);have _:=Ak (blk_grown (g:=gbz66) (o := .cells #[.int .i64 xz67000_126, .int .i64 xz67001_177, .int .i64 xz67002_126, .int .i64 (tz108.length:Int)] 82 (0,0)) (by (with_reducible repeat (first|refine blk_drewN ?_ _|refine blk_drew ?_|refine blk_alloc ?_ _));refine blk_put (cs := #[.int .i64 xz67000_126, .int .i64 xz67001_177, .int .i64 xz67002_126, .int .i64 0]) ?_ 3 _ rfl;(with_reducible repeat (first|refine blk_drewN ?_ _|refine blk_drew ?_|refine blk_alloc ?_ _));exact BKz66.out) hg (Kd.R_away HO_34.out (fun _ hk=>hk.2)));have _:=Ak (hb);have _:=Ak (Kept.of_grown (S:=(fun k_=>P0_ k_)) hg (oP1 GWz66.out) (fun k_ e_=>(HO_34.out.1 k_ e_).1));have _:=Ak (ho);clear HO_0 BKz66 HB HK HO_34;rename_i HO_0 BKz66 HB HK HOz116;clear ho hb hg hat))
             go_roundg kj209
             case measure=>have:=HJ13.out;have:=HJ42.out;have:=HJ45.out;have:=HK4.out;have:=HJ113.out;have:=HJ116.out;have:=HJ126.out;have:=HJ177.out;have:=HJ204.out;have:=HJ209.out;omega
             case rel=>exact ⟨(tz108),(wrap64 ((wrap64 (tz109 - 1))+1)),(x9_4),(tz110),(yz114),(wrap64 (x35_4+1)),oS,oS,oS,oS,H',⟨by have:=HJ13.out;have:=HJ42.out;have:=HJ45.out;have:=HK4.out;have:=HJ113.out;have:=HJ116.out;have:=HJ126.out;have:=HJ177.out;have:=HJ204.out;have:=HJ209.out;omega⟩,⟨oR HO_0.out⟩,⟨by (with_reducible repeat (first|apply Kd.R_alloc|apply Kd.R_drewN|apply Kd.R_drew));exact Kd.R_mono HOz116.out (fun _ hk=>hk.1)⟩,⟨oP1 GWz66.out⟩,⟨oB1 GEz66.out⟩⟩
            rw [if_neg c220] at H
            exact absurd H (by simp)
     rw [if_neg c52] at H
     exact absurd H (by simp)
end Go.Proofs.Ytbkgoccnegjdhaa.Q

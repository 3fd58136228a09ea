/- Functions of the program as Lean functions, each with a proof that the call comes to what it gives. Written by prx.py (wip/pr). -/
import Derived.Test.YtbkgoccnegjdhaaB0
import Derived.Test.YtbkgoccnegjdhaaB5
import Derived.Test.YtbkgoccnegjdhaaB6
import Derived.Test.YtbkgoccnegjdhaaB9
namespace Go.Proofs.Ytbkgoccnegjdhaa.Q
open Go.RowKit Go.Proofs.YtbkgoccnegjdhaaW.PrintWords Go.Proofs.YtbkgoccnegjdhaaW.PrintLast Go.Proofs.YtbkgoccnegjdhaaW.PrintMore
attribute [local go_sem] max2_int min2_int max_two min_two max_three min_three max_four min_four   -- for this text's walks alone
set_option linter.unusedVariables false
set_option linter.unusedSimpArgs false
set_option maxHeartbeats 8000000 in
set_option maxRecDepth 100000 in
theorem pA.step (k:Nat) (ih_21 : ∀ m_:Nat,m_<k→(∀ (P0_:Nat→Prop) (u9000_:Value) (l0:List Int) (A1:Option Addr) (c1:Nat) (l1:List Int) (a2:Int) (a3:Bool) (a4:Int) (a5:ByteArray) (a6:ByteArray) (a7:Bool) (a8:Int) (a9:Int) (a10:Int) (r1:List Int) (r2:Int) (r3:Int) (r4:Bool) (w0 w:World) (hB:Below w0.heap.size w0 w) (ho0:Kd.R (Kd.int .u8) 5 w w0.heap.size P0_ u9000_ l0) (hr1 : ∀ W_,Kept w W_ (fun k_=>P0_ k_)→Kd.C (Kd.int .u8) W_ A1 l1.length l1) (hc1:l1.length≤c1) (h:pA.f m_ l0 l1 a2 a3 a4 a5 a6 a7 a8 a9 a10=some (r1,r2,r3,r4)),
 Calls Try.prog 21 #[u9000_, .slice A1 l1.length c1, .int .i64 a2, .bool a3, .int .i64 a4, .string a5, .string a6, .bool a7, .int .i64 a8, .int .i64 a9, .int .i64 a10] w fun e w' => ∃ v0_:Value,e = .returned (.tuple #[v0_, .int .i64 r2, .int .i64 r3, .bool r4])∧Kd.R (Kd.int .u8) 5 w' w0.heap.size (fun k_=>(P0_ k_∨w.heap.size≤k_)) v0_ r1∧Below w0.heap.size w0 w'∧Kept w w' (fun k_=>P0_ k_))) (ih_41 : ∀ m_:Nat,m_<k→(∀ (P0_:Nat→Prop) (u9000_:Value) (l0:List Int) (A1:Option Addr) (c1:Nat) (l1:List Int) (a2:Int) (a3:Int) (a4:Int) (a5:Bool) (a6:Int) (a7:ByteArray) (a8:ByteArray) (a9:Bool) (a10:Int) (a11:Int) (a12:Int) (r1:List Int) (r2:Int) (r3:Int) (r4:Bool) (w0 w:World) (hB:Below w0.heap.size w0 w) (ho0:Kd.R (Kd.int .u8) 5 w w0.heap.size P0_ u9000_ l0) (hr1 : ∀ W_,Kept w W_ (fun k_=>P0_ k_)→Kd.C (Kd.int .u8) W_ A1 l1.length l1) (hc1:l1.length≤c1) (h:pO.f m_ l0 l1 a2 a3 a4 a5 a6 a7 a8 a9 a10 a11 a12=some (r1,r2,r3,r4)),
 Calls Try.prog 41 #[u9000_, .slice A1 l1.length c1, .int .i64 a2, .int .u8 a3, .int .u8 a4, .bool a5, .int .i64 a6, .string a7, .string a8, .bool a9, .int .i64 a10, .int .i64 a11, .int .i64 a12] w fun e w' => ∃ v0_:Value,e = .returned (.tuple #[v0_, .int .i64 r2, .int .i64 r3, .bool r4])∧Kd.R (Kd.int .u8) 5 w' w0.heap.size (fun k_=>(P0_ k_∨w.heap.size≤k_)) v0_ r1∧Below w0.heap.size w0 w'∧Kept w w' (fun k_=>P0_ k_))) : ∀ (P0_:Nat→Prop) (u9000_:Value) (l0:List Int) (A1:Option Addr) (c1:Nat) (l1:List Int) (a2:Int) (a3:Bool) (a4:Int) (a5:ByteArray) (a6:ByteArray) (a7:Bool) (a8:Int) (a9:Int) (a10:Int) (r1:List Int) (r2:Int) (r3:Int) (r4:Bool) (w0 w:World) (hB:Below w0.heap.size w0 w) (ho0:Kd.R (Kd.int .u8) 5 w w0.heap.size P0_ u9000_ l0) (hr1 : ∀ W_,Kept w W_ (fun k_=>P0_ k_)→Kd.C (Kd.int .u8) W_ A1 l1.length l1) (hc1:l1.length≤c1) (h:pA.f k l0 l1 a2 a3 a4 a5 a6 a7 a8 a9 a10=some (r1,r2,r3,r4)),
 Calls Try.prog 21 #[u9000_, .slice A1 l1.length c1, .int .i64 a2, .bool a3, .int .i64 a4, .string a5, .string a6, .bool a7, .int .i64 a8, .int .i64 a9, .int .i64 a10] w fun e w' => ∃ v0_:Value,e = .returned (.tuple #[v0_, .int .i64 r2, .int .i64 r3, .bool r4])∧Kd.R (Kd.int .u8) 5 w' w0.heap.size (fun k_=>(P0_ k_∨w.heap.size≤k_)) v0_ r1∧Below w0.heap.size w0 w'∧Kept w w' (fun k_=>P0_ k_):=by
 intro P0_ u9000_ l0 A1 c1 l1 a2 a3 a4 a5 a6 a7 a8 a9 a10 r1 r2 r3 r4 w0 w hB ho0 hr1 hc1 h
 cases k with
 | zero=>exact absurd h (by simp [pA.f])
 | succ k =>
 simp only [pA.f] at h
 have HO0:=Ak (show Kd.R (Kd.int .u8) 5 w w0.heap.size (fun k_=>(P0_ k_∨w.heap.size≤k_)) u9000_ l0 from Kd.R_mono ho0 (fun k_ hk=>(.inl hk)))
 have HR1:=Ak hr1
 have HC1:=Ak hc1
 clear hr1 hc1
 have HK:=Ak (Kept.refl w (fun k_=>P0_ k_))
 have HW0:=Ak hB.size
 have HB:=Ak hB
 clear hB
 have H:(pA.l0 k l0 l1 a2 a3 a4 a5 a6 a7 a8 a9 a10)=some (r1,r2,r3,r4):=h
 clear h
 have H':=Ak H
 clear H
 go_enter Try.func21,Try.ntmps21
 go_wp2
 (try simp only [Act.put,List.setIfInBounds_toArray,List.set_cons_zero,List.set_cons_succ])
 go_loopg [2] k (fun kq v2 w' => ∃ (x2_1:Int),v2 = .int .i64 x2_1∧Aside0 (pA.l0 kq l0 l1 x2_1 a3 a4 a5 a6 a7 a8 a9 a10=some (r1,r2,r3,r4))∧Aside0 (kq≤k)∧Aside0 (Kd.R (Kd.int .u8) 5 w' w0.heap.size (fun k_=>(P0_ k_∨w.heap.size≤k_)) u9000_ l0)∧Aside0 (Kept w w' (fun k_=>P0_ k_))∧Aside0 (Below w0.heap.size w0 w'))
 case atStart=>exact ⟨(a2),oS,H',⟨Nat.le_refl _⟩,⟨oR HO0.out⟩,⟨oP⟩,⟨oB⟩⟩
 case round =>
 clear H'
 obtain ⟨x2_1,rfl,HA,HK1,HO_0,HK,HB⟩:=hrel
 cases gk with
 | zero=>exact absurd HA.out (by simp [pA.l0])
 | succ k1 =>
  have H:=HA.out
  clear HA
  simp only [pA.l0] at H
  by_cases c12:x2_1<(l1.length:Int)
  rotate_left
  ·
   rw [if_neg c12] at H
   have c12b0:decide (x2_1<(l1.length:Int))=false:=decide_eq_false c12
   clear c12
   simp only [Option.some.injEq,Prod.mk.injEq] at H
   obtain ⟨rfl,rfl,rfl,rfl⟩:=H
   go_wp2
   refine bodyPost_ret (results_list (rs:=[.tmp 22, .tmp 23, .tmp 24, .tmp 25]) rfl (by simp) (.tmp (.tmp (.tmp (.tmp .nil))))) rfl ?_
   exact ⟨_,oE,oR HO_0.out,oB,oP⟩
  rw [if_pos c12] at H
  have c12b0:decide (x2_1<(l1.length:Int))=true:=decide_eq_true c12
  clear c12
  by_cases c13:0≤x2_1
  ·
   rw [if_pos c13] at H
   have c13b0:decide (0≤x2_1)=true:=decide_eq_true c13
   clear c13
   by_cases c14:(rd l1 x2_1)≤32
   ·
    rw [if_pos c14] at H
    have c14b0:decide ((rd l1 x2_1)≤32)=true:=decide_eq_true c14
    clear c14
    have H':=Ak H
    clear H
    have pz0:0≤(x2_1:Int):=of_decide_eq_true oA
    have qz0:x2_1<(l1.length:Int):=of_decide_eq_true oA
    obtain ⟨adz0,ez0,hxz0_0⟩:=Kd.at_int (Kd.C_kept_now HR1.out HK.out) x2_1 pz0 qz0
    cases ez0
    replace pz0:=eq_true pz0
    replace qz0:=eq_true qz0
    go_wp2
    go_roundg k1
    case measure=>have:=HK1.out;omega
    case rel=>exact ⟨(wrap64 (x2_1+1)),oS,H',⟨by have:=HK1.out;omega⟩,⟨oR HO_0.out⟩,⟨oP⟩,⟨oB⟩⟩
   rw [if_neg c14] at H
   have c14b0:decide ((rd l1 x2_1)≤32)=false:=decide_eq_false c14
   clear c14
   by_cases c15:(rd l1 x2_1)=34
   ·
    rw [if_pos c15] at H
    have c15b0:((rd l1 x2_1) == 34)=true:=beq_iff_eq.mpr c15
    have c15b1:((rd l1 x2_1) != 34)=false:=bne_eq_false_iff_eq.mpr c15
    clear c15
    replace H:=Option.bind_eq_some_iff.mp H
    obtain ⟨⟨tz1,tz2,tz3,tz4⟩,A160,H⟩:=H
    replace H:(some (tz1,tz2,tz3,tz4))=some (r1,r2,r3,r4):=H
    have A16:=Ak A160
    clear A160
    simp only [Option.some.injEq,Prod.mk.injEq] at H
    obtain ⟨rfl,rfl,rfl,rfl⟩:=H
    have pz0:0≤(x2_1:Int):=of_decide_eq_true oA
    have qz0:x2_1<(l1.length:Int):=of_decide_eq_true oA
    obtain ⟨adz0,ez0,hxz0_0⟩:=Kd.at_int (Kd.C_kept_now HR1.out HK.out) x2_1 pz0 qz0
    cases ez0
    replace pz0:=eq_true pz0
    replace qz0:=eq_true qz0
    have pz5:0≤(x2_1:Int):=of_decide_eq_true oA
    have qz5:x2_1<(l1.length:Int):=of_decide_eq_true oA
    obtain ⟨adz5,ez5,hxz5_0⟩:=Kd.at_int (Kd.C_kept_now HR1.out HK.out) x2_1 pz5 qz5
    obtain rfl:adz0=adz5:=(by injection ez5)
    replace pz5:=eq_true pz5
    replace qz5:=eq_true qz5
    obtain ⟨Ao17,co17,eo17⟩:=Kd.R_slice HO_0.out
    subst eo17
    go_wp2_with (first|((with_reducible refine gate_callee (f:=38) rfl ?_);refine goesL_ (some 46) rfl rfl Try.func38 (by kernel_rfl) rfl #[.slice Ao17 l0.length co17, .slice (some adz0) l1.length c1, .int .i64 x2_1, .int .i64 a9] rfl oM ?_;(with_reducible refine (pS.calls k1 (fun k_=>some k_=(.slice Ao17 l0.length co17:Value).ownBlock) (.slice Ao17 l0.length co17) l0 _ _ l1 x2_1 a9 tz1 tz2 tz3 tz4 w0 _ ?side1 ?side2 ?side3 ?side4 A16.out).mono ?_);(case side1=>exact oB);(case side2=>exact Kd.R_tight rfl HO_0.out);(case side3=>exact Kd.C_kept_call HR1.out oP (fun k_ hs_=>(fun e_=>(HO_0.out.1 k_ e_.symm)) hs_));(case side4=>exact HC1.out);rintro e w18 ⟨vz6,rfl,ho0,hb,hkp⟩;refine ⟨_,rfl,?_⟩;have _:=Ak (Kd.R_mono (ok':=fun k_=>(P0_ k_∨w.heap.size≤k_)) ho0 (fun k_ hk_=>Or.elim hk_ (fun hs_=>(HO_0.out.1 k_ (hs_).symm)) (fun hn_=>(.inr (Nat.le_trans (by first|exact HK.out.1|exact (show Kept w _ (fun k_=>P0_ k_) from oP).1) hn_)))));have _:=Ak (Kept.then_ (S:=(fun k_=>P0_ k_)) oP hkp (fun k_ hs_=>(fun e_=>(HO_0.out.1 k_ e_.symm)) hs_));have _:=Ak (hb);clear HK HB HO_0;rename_i HOz7 HK HB;(try clear hb);(try clear hkp);(try clear ho0)))
    refine bodyPost_ret (results_list (rs:=[.tmp 22, .tmp 23, .tmp 24, .tmp 25]) rfl (by simp) (.tmp (.tmp (.tmp (.tmp .nil))))) rfl ?_
    exact ⟨_,oE,oR HOz7.out,oB,oP⟩
   rw [if_neg c15] at H
   have c15b0:((rd l1 x2_1) == 34)=false:=beq_eq_false_iff_ne.mpr c15
   have c15b1:((rd l1 x2_1) != 34)=true:=bne_iff_ne.mpr c15
   have HC19:=Ak H
   clear H
   have pz0:0≤(x2_1:Int):=of_decide_eq_true oA
   have qz0:x2_1<(l1.length:Int):=of_decide_eq_true oA
   obtain ⟨adz0,ez0,hxz0_0⟩:=Kd.at_int (Kd.C_kept_now HR1.out HK.out) x2_1 pz0 qz0
   cases ez0
   replace pz0:=eq_true pz0
   replace qz0:=eq_true qz0
   have pz5:0≤(x2_1:Int):=of_decide_eq_true oA
   have qz5:x2_1<(l1.length:Int):=of_decide_eq_true oA
   obtain ⟨adz5,ez5,hxz5_0⟩:=Kd.at_int (Kd.C_kept_now HR1.out HK.out) x2_1 pz5 qz5
   obtain rfl:adz0=adz5:=(by injection ez5)
   replace pz5:=eq_true pz5
   replace qz5:=eq_true qz5
   go_upto_region 6 with (fail)
   go_cut [75] (fun v75 wc => ∃ (kq:Nat) (x75_18:Bool),v75 = .bool x75_18∧Aside0 (pA.j1 kq l0 l1 x2_1 a3 a4 a5 a6 a7 a8 a9 a10 x75_18=some (r1,r2,r3,r4))∧Aside0 (kq≤k1)∧Aside0 (Kd.R (Kd.int .u8) 5 wc w0.heap.size (fun k_=>(P0_ k_∨w.heap.size≤k_)) u9000_ l0)∧Aside0 (Kept w wc (fun k_=>P0_ k_))∧Aside0 (Below w0.heap.size w0 wc))
   case first =>
    have H:=HC19.out
    clear HC19
    by_cases c20:(rd l1 x2_1) ≥ 48
    rotate_left
    ·
     rw [if_neg c20] at H
     have c20b0:decide (48≤(rd l1 x2_1))=false:=decide_eq_false c20
     clear c20
     (first|rw [c20b0]|(simp only [i64_w,i32_w];rw [c20b0])|skip)
     by_cases c27:(rd l1 x2_1)=45
     ·
      rw [if_pos c27] at H
      have c27b0:((rd l1 x2_1) == 45)=true:=beq_iff_eq.mpr c27
      have c27b1:((rd l1 x2_1) != 45)=false:=bne_eq_false_iff_eq.mpr c27
      clear c27
      have H':=Ak H
      clear H
      have pz8:0≤(x2_1:Int):=of_decide_eq_true oA
      have qz8:x2_1<(l1.length:Int):=of_decide_eq_true oA
      obtain ⟨adz8,ez8,hxz8_0⟩:=Kd.at_int (Kd.C_kept_now HR1.out HK.out) x2_1 pz8 qz8
      obtain rfl:adz0=adz8:=(by injection ez8)
      replace pz8:=eq_true pz8
      replace qz8:=eq_true qz8
      have pz14:0≤(x2_1:Int):=of_decide_eq_true oA
      have qz14:x2_1<(l1.length:Int):=of_decide_eq_true oA
      obtain ⟨adz14,ez14,hxz14_0⟩:=Kd.at_int (Kd.C_kept_now HR1.out HK.out) x2_1 pz14 qz14
      obtain rfl:adz0=adz14:=(by injection ez14)
      replace pz14:=eq_true pz14
      replace qz14:=eq_true qz14
      go_wp2
      go_meet
      case rel=>exact ⟨_,(true),oS,H',⟨by have:=HK1.out;first|omega|exact Nat.le_refl _⟩,⟨oR HO_0.out⟩,⟨oP⟩,⟨oB⟩⟩
     rw [if_neg c27] at H
     have c27b0:((rd l1 x2_1) == 45)=false:=beq_eq_false_iff_ne.mpr c27
     have c27b1:((rd l1 x2_1) != 45)=true:=bne_iff_ne.mpr c27
     have c28b0:=eq_true (of_decide_eq_true oA:0≤x2_1)
     by_cases c29:x2_1≤(l1.length:Int)
     ·
      rw [if_pos c29] at H
      have c29b0:=eq_true c29
      have c29b1:decide (x2_1≤(l1.length:Int))=true:=decide_eq_true c29
      clear c29
      obtain ⟨yz15,hyz15⟩ : ∃ y_:List Int,y_=(l1.drop (x2_1:Int).toNat):=⟨_,rfl⟩
      replace H:((pF.f yz15).bind fun tz16=>(pA.j1 k1 l0 l1 x2_1 a3 a4 a5 a6 a7 a8 a9 a10 tz16))=some (r1,r2,r3,r4):=by first|(rw [hyz15];with_reducible exact H)|(have H2_:=(Option.bind_some _ _).symm.trans H;rw [hyz15];with_reducible exact H2_)|(have H2_:=(Option.bind_some _ _).symm.trans H;with_reducible exact H2_)|with_reducible exact H|(rw [hyz15];exact H)|exact H
      have Nyz15:=Ak hyz15
      clear hyz15
      replace H:=Option.bind_eq_some_iff.mp H
      obtain ⟨tz16,A300,H⟩:=H
      replace H:(pA.j1 k1 l0 l1 x2_1 a3 a4 a5 a6 a7 a8 a9 a10 tz16)=some (r1,r2,r3,r4):=H
      have A30:=Ak A300
      clear A300
      have H':=Ak H
      clear H
      have pz8:0≤(x2_1:Int):=of_decide_eq_true oA
      have qz8:x2_1<(l1.length:Int):=of_decide_eq_true oA
      obtain ⟨adz8,ez8,hxz8_0⟩:=Kd.at_int (Kd.C_kept_now HR1.out HK.out) x2_1 pz8 qz8
      obtain rfl:adz0=adz8:=(by injection ez8)
      replace pz8:=eq_true pz8
      replace qz8:=eq_true qz8
      have pz14:0≤(x2_1:Int):=of_decide_eq_true oA
      have qz14:x2_1<(l1.length:Int):=of_decide_eq_true oA
      obtain ⟨adz14,ez14,hxz14_0⟩:=Kd.at_int (Kd.C_kept_now HR1.out HK.out) x2_1 pz14 qz14
      obtain rfl:adz0=adz14:=(by injection ez14)
      replace pz14:=eq_true pz14
      replace qz14:=eq_true qz14
      have q31:(x2_1:Int)≤((l1.length:Int):Int):=of_decide_eq_true oA
      obtain ⟨i031,hi031,_,hsz31,_⟩:=info_parts info5
      have hroom31:l1.length≤c1:=HC1.out
      have hC31:Kd.C (Kd.int .u8) _ (some adz0) l1.length l1:=(Kd.C_kept_now HR1.out HK.out)
      have q031:(0:Int)≤(x2_1:Int):=of_decide_eq_true oA
      have hcut31:=cut_from (P:=Try.prog) 44 5 .i64 Try.underlying44 hi031 1 hsz31 (some adz0) l1.length c1 x2_1 q031 q31
      have hr31:=Kd.C_drop (m:=(x2_1:Int).toNat) (c:=c1) hC31 (by omega) hroom31
      obtain ⟨A31,hA31⟩ : ∃ Aq_,Aq_=(if c1=(x2_1:Int).toNat then (some adz0) else ((some adz0):Option Addr).map (·.add ((x2_1:Int).toNat*1))):=⟨_,rfl⟩
      obtain ⟨c31,hc31⟩ : ∃ cq_,cq_=c1 - (x2_1:Int).toNat:=⟨_,rfl⟩
      have hy31:yz15.length=l1.length - (x2_1:Int).toNat:=(by rw [Nyz15.out,List.length_drop] <;> omega)
      rw [show (l1).drop (x2_1:Int).toNat=yz15 from Nyz15.out.symm] at hr31
      replace hr31:Kd.C (Kd.int .u8) _ A31 yz15.length yz15:=(by rw [hA31];exact hr31)
      rw [← hy31, ← hA31, ← hc31] at hcut31
      have HRz17:=Ak hr31
      have HCz17:=Ak (show yz15.length≤c31 from by rw [hy31,hc31];exact Nat.sub_le_sub_right hroom31 _)
      clear hr31 hC31 hroom31 hi031 hsz31 hc31
      have KY31:=Ak hy31
      have KA31:=Ak hA31
      clear hy31 hA31
      have KL31:=Ak (show (x2_1:Int).toNat≤l1.length from by omega)
      replace q31:=eq_true q31
      go_wp2_with (first|(go_at_call 39;(with_reducible refine (pF.calls _ _ yz15 tz16 _ ?side1 ?side2 A30.out).mono ?_);(case side1=>repeat (first|exact (by repeat (first|(with_reducible exact HRz17.out)|(with_reducible refine Kd.C_alloc ?_ _)|(with_reducible refine Kd.C_drewN ?_ _)|(with_reducible refine Kd.C_drew ?_)|exact HRz17.out))|(with_reducible refine Kd.C_alloc ?_ _)|(with_reducible refine Kd.C_drewN ?_ _)|(with_reducible refine Kd.C_drew ?_)));(case side2=>exact HCz17.out);rintro e w' ⟨rfl,⟨nd,rfl⟩⟩))
      go_meet
      case rel=>exact ⟨_,(tz16),oS,H',⟨by have:=HK1.out;first|omega|exact Nat.le_refl _⟩,⟨oR HO_0.out⟩,⟨oP⟩,⟨oB⟩⟩
     rw [if_neg c29] at H
     exact absurd H (by simp)
    rw [if_pos c20] at H
    have c20b0:decide (48≤(rd l1 x2_1))=true:=decide_eq_true c20
    clear c20
    (first|rw [c20b0]|(simp only [i64_w,i32_w];rw [c20b0])|skip)
    by_cases c21:(rd l1 x2_1)≤57
    ·
     rw [if_pos c21] at H
     have c21b0:decide ((rd l1 x2_1)≤57)=true:=decide_eq_true c21
     clear c21
     have H':=Ak H
     clear H
     have pz8:0≤(x2_1:Int):=of_decide_eq_true oA
     have qz8:x2_1<(l1.length:Int):=of_decide_eq_true oA
     obtain ⟨adz8,ez8,hxz8_0⟩:=Kd.at_int (Kd.C_kept_now HR1.out HK.out) x2_1 pz8 qz8
     obtain rfl:adz0=adz8:=(by injection ez8)
     replace pz8:=eq_true pz8
     replace qz8:=eq_true qz8
     have pz9:0≤(x2_1:Int):=of_decide_eq_true oA
     have qz9:x2_1<(l1.length:Int):=of_decide_eq_true oA
     obtain ⟨adz9,ez9,hxz9_0⟩:=Kd.at_int (Kd.C_kept_now HR1.out HK.out) x2_1 pz9 qz9
     obtain rfl:adz0=adz9:=(by injection ez9)
     replace pz9:=eq_true pz9
     replace qz9:=eq_true qz9
     go_wp2
     go_meet
     case rel=>exact ⟨_,(true),oS,H',⟨by have:=HK1.out;first|omega|exact Nat.le_refl _⟩,⟨oR HO_0.out⟩,⟨oP⟩,⟨oB⟩⟩
    rw [if_neg c21] at H
    have c21b0:decide ((rd l1 x2_1)≤57)=false:=decide_eq_false c21
    clear c21
    by_cases c22:(rd l1 x2_1)=45
    ·
     rw [if_pos c22] at H
     have c22b0:((rd l1 x2_1) == 45)=true:=beq_iff_eq.mpr c22
     have c22b1:((rd l1 x2_1) != 45)=false:=bne_eq_false_iff_eq.mpr c22
     clear c22
     have H':=Ak H
     clear H
     have pz8:0≤(x2_1:Int):=of_decide_eq_true oA
     have qz8:x2_1<(l1.length:Int):=of_decide_eq_true oA
     obtain ⟨adz8,ez8,hxz8_0⟩:=Kd.at_int (Kd.C_kept_now HR1.out HK.out) x2_1 pz8 qz8
     obtain rfl:adz0=adz8:=(by injection ez8)
     replace pz8:=eq_true pz8
     replace qz8:=eq_true qz8
     have pz9:0≤(x2_1:Int):=of_decide_eq_true oA
     have qz9:x2_1<(l1.length:Int):=of_decide_eq_true oA
     obtain ⟨adz9,ez9,hxz9_0⟩:=Kd.at_int (Kd.C_kept_now HR1.out HK.out) x2_1 pz9 qz9
     obtain rfl:adz0=adz9:=(by injection ez9)
     replace pz9:=eq_true pz9
     replace qz9:=eq_true qz9
     have pz10:0≤(x2_1:Int):=of_decide_eq_true oA
     have qz10:x2_1<(l1.length:Int):=of_decide_eq_true oA
     obtain ⟨adz10,ez10,hxz10_0⟩:=Kd.at_int (Kd.C_kept_now HR1.out HK.out) x2_1 pz10 qz10
     obtain rfl:adz0=adz10:=(by injection ez10)
     replace pz10:=eq_true pz10
     replace qz10:=eq_true qz10
     go_wp2
     go_meet
     case rel=>exact ⟨_,(true),oS,H',⟨by have:=HK1.out;first|omega|exact Nat.le_refl _⟩,⟨oR HO_0.out⟩,⟨oP⟩,⟨oB⟩⟩
    rw [if_neg c22] at H
    have c22b0:((rd l1 x2_1) == 45)=false:=beq_eq_false_iff_ne.mpr c22
    have c22b1:((rd l1 x2_1) != 45)=true:=bne_iff_ne.mpr c22
    have c23b0:=eq_true (of_decide_eq_true oA:0≤x2_1)
    by_cases c24:x2_1≤(l1.length:Int)
    ·
     rw [if_pos c24] at H
     have c24b0:=eq_true c24
     have c24b1:decide (x2_1≤(l1.length:Int))=true:=decide_eq_true c24
     clear c24
     obtain ⟨yz11,hyz11⟩ : ∃ y_:List Int,y_=(l1.drop (x2_1:Int).toNat):=⟨_,rfl⟩
     replace H:((pF.f yz11).bind fun tz12=>(pA.j1 k1 l0 l1 x2_1 a3 a4 a5 a6 a7 a8 a9 a10 tz12))=some (r1,r2,r3,r4):=by first|(rw [hyz11];with_reducible exact H)|(have H2_:=(Option.bind_some _ _).symm.trans H;rw [hyz11];with_reducible exact H2_)|(have H2_:=(Option.bind_some _ _).symm.trans H;with_reducible exact H2_)|with_reducible exact H|(rw [hyz11];exact H)|exact H
     have Nyz11:=Ak hyz11
     clear hyz11
     replace H:=Option.bind_eq_some_iff.mp H
     obtain ⟨tz12,A250,H⟩:=H
     replace H:(pA.j1 k1 l0 l1 x2_1 a3 a4 a5 a6 a7 a8 a9 a10 tz12)=some (r1,r2,r3,r4):=H
     have A25:=Ak A250
     clear A250
     have H':=Ak H
     clear H
     have pz8:0≤(x2_1:Int):=of_decide_eq_true oA
     have qz8:x2_1<(l1.length:Int):=of_decide_eq_true oA
     obtain ⟨adz8,ez8,hxz8_0⟩:=Kd.at_int (Kd.C_kept_now HR1.out HK.out) x2_1 pz8 qz8
     obtain rfl:adz0=adz8:=(by injection ez8)
     replace pz8:=eq_true pz8
     replace qz8:=eq_true qz8
     have pz9:0≤(x2_1:Int):=of_decide_eq_true oA
     have qz9:x2_1<(l1.length:Int):=of_decide_eq_true oA
     obtain ⟨adz9,ez9,hxz9_0⟩:=Kd.at_int (Kd.C_kept_now HR1.out HK.out) x2_1 pz9 qz9
     obtain rfl:adz0=adz9:=(by injection ez9)
     replace pz9:=eq_true pz9
     replace qz9:=eq_true qz9
     have pz10:0≤(x2_1:Int):=of_decide_eq_true oA
     have qz10:x2_1<(l1.length:Int):=of_decide_eq_true oA
     obtain ⟨adz10,ez10,hxz10_0⟩:=Kd.at_int (Kd.C_kept_now HR1.out HK.out) x2_1 pz10 qz10
     obtain rfl:adz0=adz10:=(by injection ez10)
     replace pz10:=eq_true pz10
     replace qz10:=eq_true qz10
     have q26:(x2_1:Int)≤((l1.length:Int):Int):=of_decide_eq_true oA
     obtain ⟨i026,hi026,_,hsz26,_⟩:=info_parts info5
     have hroom26:l1.length≤c1:=HC1.out
     have hC26:Kd.C (Kd.int .u8) _ (some adz0) l1.length l1:=(Kd.C_kept_now HR1.out HK.out)
     have q026:(0:Int)≤(x2_1:Int):=of_decide_eq_true oA
     have hcut26:=cut_from (P:=Try.prog) 44 5 .i64 Try.underlying44 hi026 1 hsz26 (some adz0) l1.length c1 x2_1 q026 q26
     have hr26:=Kd.C_drop (m:=(x2_1:Int).toNat) (c:=c1) hC26 (by omega) hroom26
     obtain ⟨A26,hA26⟩ : ∃ Aq_,Aq_=(if c1=(x2_1:Int).toNat then (some adz0) else ((some adz0):Option Addr).map (·.add ((x2_1:Int).toNat*1))):=⟨_,rfl⟩
     obtain ⟨c26,hc26⟩ : ∃ cq_,cq_=c1 - (x2_1:Int).toNat:=⟨_,rfl⟩
     have hy26:yz11.length=l1.length - (x2_1:Int).toNat:=(by rw [Nyz11.out,List.length_drop] <;> omega)
     rw [show (l1).drop (x2_1:Int).toNat=yz11 from Nyz11.out.symm] at hr26
     replace hr26:Kd.C (Kd.int .u8) _ A26 yz11.length yz11:=(by rw [hA26];exact hr26)
     rw [← hy26, ← hA26, ← hc26] at hcut26
     have HRz13:=Ak hr26
     have HCz13:=Ak (show yz11.length≤c26 from by rw [hy26,hc26];exact Nat.sub_le_sub_right hroom26 _)
     clear hr26 hC26 hroom26 hi026 hsz26 hc26
     have KY26:=Ak hy26
     have KA26:=Ak hA26
     clear hy26 hA26
     have KL26:=Ak (show (x2_1:Int).toNat≤l1.length from by omega)
     replace q26:=eq_true q26
     go_wp2_with (first|(go_at_call 39;(with_reducible refine (pF.calls _ _ yz11 tz12 _ ?side1 ?side2 A25.out).mono ?_);(case side1=>repeat (first|exact (by repeat (first|(with_reducible exact HRz13.out)|(with_reducible refine Kd.C_alloc ?_ _)|(with_reducible refine Kd.C_drewN ?_ _)|(with_reducible refine Kd.C_drew ?_)|exact HRz13.out))|(with_reducible refine Kd.C_alloc ?_ _)|(with_reducible refine Kd.C_drewN ?_ _)|(with_reducible refine Kd.C_drew ?_)));(case side2=>exact HCz13.out);rintro e w' ⟨rfl,⟨nd,rfl⟩⟩))
     go_meet
     case rel=>exact ⟨_,(tz12),oS,H',⟨by have:=HK1.out;first|omega|exact Nat.le_refl _⟩,⟨oR HO_0.out⟩,⟨oP⟩,⟨oB⟩⟩
    rw [if_neg c24] at H
    exact absurd H (by simp)
   case rest =>
   clear HC19
   clear c12b0 c13b0 c14b0 c15 c15b0 c15b1 hxz0_0 hxz5_0 pz0 pz5 qz0 qz5
   obtain ⟨kq,x75_18,rfl,HA,HJ18,HO_0,HK,HB⟩:=hcut
   cases kq with
   | zero=>exact absurd HA.out (by simp [pA.j1])
   | succ kj18 =>
    have H:=HA.out
    clear HA
    simp only [pA.j1] at H
    by_cases c32:x75_18=true
    ·
     subst c32
     have H1:((pN.f kj18 l0 l1 x2_1 a9).bind fun btz18=>(some (btz18.1,btz18.2.1,btz18.2.2.1,btz18.2.2.2)))=some (r1,r2,r3,r4):=by rw [if_pos rfl] at H;exact H
     clear H
     have H:=H1
     clear H1
     replace H:=Option.bind_eq_some_iff.mp H
     obtain ⟨⟨tz18,tz19,tz20,tz21⟩,A330,H⟩:=H
     replace H:(some (tz18,tz19,tz20,tz21))=some (r1,r2,r3,r4):=H
     have A33:=Ak A330
     clear A330
     simp only [Option.some.injEq,Prod.mk.injEq] at H
     obtain ⟨rfl,rfl,rfl,rfl⟩:=H
     obtain ⟨Ao34,co34,eo34⟩:=Kd.R_slice HO_0.out
     subst eo34
     go_wp2_with (first|((with_reducible refine gate_callee (f:=40) rfl ?_);refine goesL_ (some 80) rfl rfl Try.func40 (by kernel_rfl) rfl #[.slice Ao34 l0.length co34, .slice (some adz0) l1.length c1, .int .i64 x2_1, .int .i64 a9] rfl oM ?_;(with_reducible refine (pN.calls kj18 (fun k_=>some k_=(.slice Ao34 l0.length co34:Value).ownBlock) (.slice Ao34 l0.length co34) l0 _ _ l1 x2_1 a9 tz18 tz19 tz20 tz21 w0 _ ?side1 ?side2 ?side3 ?side4 A33.out).mono ?_);(case side1=>exact oB);(case side2=>exact Kd.R_tight rfl HO_0.out);(case side3=>exact Kd.C_kept_call HR1.out oP (fun k_ hs_=>(fun e_=>(HO_0.out.1 k_ e_.symm)) hs_));(case side4=>exact HC1.out);rintro e w35 ⟨vz22,rfl,ho0,hb,hkp⟩;refine ⟨_,rfl,?_⟩;have _:=Ak (Kd.R_mono (ok':=fun k_=>(P0_ k_∨w.heap.size≤k_)) ho0 (fun k_ hk_=>Or.elim hk_ (fun hs_=>(HO_0.out.1 k_ (hs_).symm)) (fun hn_=>(.inr (Nat.le_trans (by first|exact HK.out.1|exact (show Kept w _ (fun k_=>P0_ k_) from oP).1) hn_)))));have _:=Ak (Kept.then_ (S:=(fun k_=>P0_ k_)) oP hkp (fun k_ hs_=>(fun e_=>(HO_0.out.1 k_ e_.symm)) hs_));have _:=Ak (hb);clear HK HB HO_0;rename_i HOz23 HK HB;(try clear hb);(try clear hkp);(try clear ho0)))
     refine bodyPost_ret (results_list (rs:=[.tmp 22, .tmp 23, .tmp 24, .tmp 25]) rfl (by simp) (.tmp (.tmp (.tmp (.tmp .nil))))) rfl ?_
     exact ⟨_,oE,oR HOz23.out,oB,oP⟩
    replace c32:=Bool.eq_false_iff.mpr c32
    subst c32
    have H1:(if 0≤x2_1 then (if x2_1<(l1.length:Int) then (if (rd l1 x2_1)=123 then ((pO.f kj18 l0 l1 x2_1 123 125 a3 a4 a5 a6 a7 a8 a9 a10).bind fun btz24=>(some (btz24.1,btz24.2.1,btz24.2.2.1,btz24.2.2.2))) else (if (rd l1 x2_1)=91 then ((pO.f kj18 l0 l1 x2_1 91 93 a3 a4 a5 a6 a7 a8 a9 a10).bind fun btz25=>(some (btz25.1,btz25.2.1,btz25.2.2.1,btz25.2.2.2))) else (if (rd l1 x2_1)=116 then ((some (([116,114,117,101]:List Int):List Int)).bind fun yz26=>(if l0.length+yz26.length<140737488355328 then (some ((l0++yz26),wrap64 (x2_1+4),a9,true)) else (none))) else (if (rd l1 x2_1)=102 then ((some (([102,97,108,115,101]:List Int):List Int)).bind fun yz27=>(if l0.length+yz27.length<140737488355328 then (some ((l0++yz27),wrap64 (x2_1+5),a9,true)) else (none))) else (if (rd l1 x2_1)=110 then ((some (([110,117,108,108]:List Int):List Int)).bind fun yz28=>(if l0.length+yz28.length<140737488355328 then (some ((l0++yz28),wrap64 (x2_1+4),a9,true)) else (none))) else (pA.l0 kj18 l0 l1 (wrap64 (x2_1+1)) a3 a4 a5 a6 a7 a8 a9 a10)))))) else (none)) else (none))=some (r1,r2,r3,r4):=by rw [if_neg (show ¬ (false=true) by decide)] at H;exact H
    clear H
    have H:=H1
    clear H1
    by_cases c36:0≤x2_1
    ·
     rw [if_pos c36] at H
     have c36b0:decide (0≤x2_1)=true:=decide_eq_true c36
     clear c36
     by_cases c37:x2_1<(l1.length:Int)
     rotate_left
     ·
      rw [if_neg c37] at H
      exact absurd H (by simp)
     rw [if_pos c37] at H
     have c37b0:decide (x2_1<(l1.length:Int))=true:=decide_eq_true c37
     clear c37
     by_cases c38:(rd l1 x2_1)=123
     ·
      rw [if_pos c38] at H
      have c38b0:((rd l1 x2_1) == 123)=true:=beq_iff_eq.mpr c38
      have c38b1:((rd l1 x2_1) != 123)=false:=bne_eq_false_iff_eq.mpr c38
      clear c38
      replace H:=Option.bind_eq_some_iff.mp H
      obtain ⟨⟨tz24,tz29,tz30,tz31⟩,A390,H⟩:=H
      replace H:(some (tz24,tz29,tz30,tz31))=some (r1,r2,r3,r4):=H
      have A39:=Ak A390
      clear A390
      simp only [Option.some.injEq,Prod.mk.injEq] at H
      obtain ⟨rfl,rfl,rfl,rfl⟩:=H
      have pz32:0≤(x2_1:Int):=of_decide_eq_true oA
      have qz32:x2_1<(l1.length:Int):=of_decide_eq_true oA
      obtain ⟨adz32,ez32,hxz32_0⟩:=Kd.at_int (Kd.C_kept_now HR1.out HK.out) x2_1 pz32 qz32
      obtain rfl:adz0=adz32:=(by injection ez32)
      replace pz32:=eq_true pz32
      replace qz32:=eq_true qz32
      obtain ⟨Ao40,co40,eo40⟩:=Kd.R_slice HO_0.out
      subst eo40
      go_wp2_with (first|((with_reducible refine gate_callee (f:=41) rfl ?_);refine goesL_ (some 101) rfl rfl Try.func41 (by kernel_rfl) rfl #[.slice Ao40 l0.length co40, .slice (some adz0) l1.length c1, .int .i64 x2_1, .int .u8 123, .int .u8 125, .bool a3, .int .i64 a4, .string a5, .string a6, .bool a7, .int .i64 a8, .int .i64 a9, .int .i64 a10] rfl oM ?_;(with_reducible refine (ih_41 kj18 (by have:=HK1.out;have:=HJ18.out;omega) (fun k_=>some k_=(.slice Ao40 l0.length co40:Value).ownBlock) (.slice Ao40 l0.length co40) l0 _ _ l1 x2_1 123 125 a3 a4 a5 a6 a7 a8 a9 a10 tz24 tz29 tz30 tz31 w0 _ ?side1 ?side2 ?side3 ?side4 A39.out).mono ?_);(case side1=>exact oB);(case side2=>exact Kd.R_tight rfl HO_0.out);(case side3=>exact Kd.C_kept_call HR1.out oP (fun k_ hs_=>(fun e_=>(HO_0.out.1 k_ e_.symm)) hs_));(case side4=>exact HC1.out);rintro e w41 ⟨vz33,rfl,ho0,hb,hkp⟩;refine ⟨_,rfl,?_⟩;have _:=Ak (Kd.R_mono (ok':=fun k_=>(P0_ k_∨w.heap.size≤k_)) ho0 (fun k_ hk_=>Or.elim hk_ (fun hs_=>(HO_0.out.1 k_ (hs_).symm)) (fun hn_=>(.inr (Nat.le_trans (by first|exact HK.out.1|exact (show Kept w _ (fun k_=>P0_ k_) from oP).1) hn_)))));have _:=Ak (Kept.then_ (S:=(fun k_=>P0_ k_)) oP hkp (fun k_ hs_=>(fun e_=>(HO_0.out.1 k_ e_.symm)) hs_));have _:=Ak (hb);clear HK HB HO_0;rename_i HOz34 HK HB;(try clear hb);(try clear hkp);(try clear ho0)))
      refine bodyPost_ret (results_list (rs:=[.tmp 22, .tmp 23, .tmp 24, .tmp 25]) rfl (by simp) (.tmp (.tmp (.tmp (.tmp .nil))))) rfl ?_
      exact ⟨_,oE,oR HOz34.out,oB,oP⟩
     rw [if_neg c38] at H
     have c38b0:((rd l1 x2_1) == 123)=false:=beq_eq_false_iff_ne.mpr c38
     have c38b1:((rd l1 x2_1) != 123)=true:=bne_iff_ne.mpr c38
     by_cases c42:(rd l1 x2_1)=91
     ·
      rw [if_pos c42] at H
      have c42b0:((rd l1 x2_1) == 91)=true:=beq_iff_eq.mpr c42
      have c42b1:((rd l1 x2_1) != 91)=false:=bne_eq_false_iff_eq.mpr c42
      clear c42
      replace H:=Option.bind_eq_some_iff.mp H
      obtain ⟨⟨tz25,tz35,tz36,tz37⟩,A430,H⟩:=H
      replace H:(some (tz25,tz35,tz36,tz37))=some (r1,r2,r3,r4):=H
      have A43:=Ak A430
      clear A430
      simp only [Option.some.injEq,Prod.mk.injEq] at H
      obtain ⟨rfl,rfl,rfl,rfl⟩:=H
      have pz32:0≤(x2_1:Int):=of_decide_eq_true oA
      have qz32:x2_1<(l1.length:Int):=of_decide_eq_true oA
      obtain ⟨adz32,ez32,hxz32_0⟩:=Kd.at_int (Kd.C_kept_now HR1.out HK.out) x2_1 pz32 qz32
      obtain rfl:adz0=adz32:=(by injection ez32)
      replace pz32:=eq_true pz32
      replace qz32:=eq_true qz32
      have pz38:0≤(x2_1:Int):=of_decide_eq_true oA
      have qz38:x2_1<(l1.length:Int):=of_decide_eq_true oA
      obtain ⟨adz38,ez38,hxz38_0⟩:=Kd.at_int (Kd.C_kept_now HR1.out HK.out) x2_1 pz38 qz38
      obtain rfl:adz0=adz38:=(by injection ez38)
      replace pz38:=eq_true pz38
      replace qz38:=eq_true qz38
      obtain ⟨Ao44,co44,eo44⟩:=Kd.R_slice HO_0.out
      subst eo44
      go_wp2_with (first|((with_reducible refine gate_callee (f:=41) rfl ?_);refine goesL_ (some 122) rfl rfl Try.func41 (by kernel_rfl) rfl #[.slice Ao44 l0.length co44, .slice (some adz0) l1.length c1, .int .i64 x2_1, .int .u8 91, .int .u8 93, .bool a3, .int .i64 a4, .string a5, .string a6, .bool a7, .int .i64 a8, .int .i64 a9, .int .i64 a10] rfl oM ?_;(with_reducible refine (ih_41 kj18 (by have:=HK1.out;have:=HJ18.out;omega) (fun k_=>some k_=(.slice Ao44 l0.length co44:Value).ownBlock) (.slice Ao44 l0.length co44) l0 _ _ l1 x2_1 91 93 a3 a4 a5 a6 a7 a8 a9 a10 tz25 tz35 tz36 tz37 w0 _ ?side1 ?side2 ?side3 ?side4 A43.out).mono ?_);(case side1=>exact oB);(case side2=>exact Kd.R_tight rfl HO_0.out);(case side3=>exact Kd.C_kept_call HR1.out oP (fun k_ hs_=>(fun e_=>(HO_0.out.1 k_ e_.symm)) hs_));(case side4=>exact HC1.out);rintro e w45 ⟨vz39,rfl,ho0,hb,hkp⟩;refine ⟨_,rfl,?_⟩;have _:=Ak (Kd.R_mono (ok':=fun k_=>(P0_ k_∨w.heap.size≤k_)) ho0 (fun k_ hk_=>Or.elim hk_ (fun hs_=>(HO_0.out.1 k_ (hs_).symm)) (fun hn_=>(.inr (Nat.le_trans (by first|exact HK.out.1|exact (show Kept w _ (fun k_=>P0_ k_) from oP).1) hn_)))));have _:=Ak (Kept.then_ (S:=(fun k_=>P0_ k_)) oP hkp (fun k_ hs_=>(fun e_=>(HO_0.out.1 k_ e_.symm)) hs_));have _:=Ak (hb);clear HK HB HO_0;rename_i HOz40 HK HB;(try clear hb);(try clear hkp);(try clear ho0)))
      refine bodyPost_ret (results_list (rs:=[.tmp 22, .tmp 23, .tmp 24, .tmp 25]) rfl (by simp) (.tmp (.tmp (.tmp (.tmp .nil))))) rfl ?_
      exact ⟨_,oE,oR HOz40.out,oB,oP⟩
     rw [if_neg c42] at H
     have c42b0:((rd l1 x2_1) == 91)=false:=beq_eq_false_iff_ne.mpr c42
     have c42b1:((rd l1 x2_1) != 91)=true:=bne_iff_ne.mpr c42
     by_cases c46:(rd l1 x2_1)=116
     ·
      rw [if_pos c46] at H
      have c46b0:((rd l1 x2_1) == 116)=true:=beq_iff_eq.mpr c46
      have c46b1:((rd l1 x2_1) != 116)=false:=bne_eq_false_iff_eq.mpr c46
      clear c46
      obtain ⟨yz26,hyz26⟩ : ∃ y_:List Int,y_=(([116,114,117,101]:List Int)):=⟨_,rfl⟩
      replace H:(if l0.length+yz26.length<140737488355328 then (some ((l0++yz26),wrap64 (x2_1+4),a9,true)) else (none))=some (r1,r2,r3,r4):=by first|(rw [hyz26];with_reducible exact H)|(have H2_:=(Option.bind_some _ _).symm.trans H;rw [hyz26];with_reducible exact H2_)|(have H2_:=(Option.bind_some _ _).symm.trans H;with_reducible exact H2_)|with_reducible exact H|(rw [hyz26];exact H)|exact H
      have Nyz26:=Ak hyz26
      clear hyz26
      by_cases c47:l0.length+yz26.length<140737488355328
      rotate_left
      ·
       rw [if_neg c47] at H
       exact absurd H (by simp)
      rw [if_pos c47] at H
      have LMc47:=Ak c47
      clear c47
      obtain ⟨yz41,hyz41⟩ : ∃ y_:List Int,y_=(l0++yz26):=⟨_,rfl⟩
      replace H:(some (yz41,wrap64 (x2_1+4),a9,true))=some (r1,r2,r3,r4):=by first|(rw [hyz41];with_reducible exact H)|(have H2_:=(Option.bind_some _ _).symm.trans H;rw [hyz41];with_reducible exact H2_)|(have H2_:=(Option.bind_some _ _).symm.trans H;with_reducible exact H2_)|with_reducible exact H|(rw [hyz41];exact H)|exact H
      have Nyz41:=Ak hyz41
      clear hyz41
      simp only [Option.some.injEq,Prod.mk.injEq] at H
      obtain ⟨rfl,rfl,rfl,rfl⟩:=H
      have pz32:0≤(x2_1:Int):=of_decide_eq_true oA
      have qz32:x2_1<(l1.length:Int):=of_decide_eq_true oA
      obtain ⟨adz32,ez32,hxz32_0⟩:=Kd.at_int (Kd.C_kept_now HR1.out HK.out) x2_1 pz32 qz32
      obtain rfl:adz0=adz32:=(by injection ez32)
      replace pz32:=eq_true pz32
      replace qz32:=eq_true qz32
      have pz38:0≤(x2_1:Int):=of_decide_eq_true oA
      have qz38:x2_1<(l1.length:Int):=of_decide_eq_true oA
      obtain ⟨adz38,ez38,hxz38_0⟩:=Kd.at_int (Kd.C_kept_now HR1.out HK.out) x2_1 pz38 qz38
      obtain rfl:adz0=adz38:=(by injection ez38)
      replace pz38:=eq_true pz38
      replace qz38:=eq_true qz38
      have pz42:0≤(x2_1:Int):=of_decide_eq_true oA
      have qz42:x2_1<(l1.length:Int):=of_decide_eq_true oA
      obtain ⟨adz42,ez42,hxz42_0⟩:=Kd.at_int (Kd.C_kept_now HR1.out HK.out) x2_1 pz42 qz42
      obtain rfl:adz0=adz42:=(by injection ez42)
      replace pz42:=eq_true pz42
      replace qz42:=eq_true qz42
      go_wp2_with (first|((with_reducible refine gate_dst (N:=134) rfl ?_);refine Kd.R_lit (Kd.int .u8) _ 5 ?hg (N:=134) ?hd (xs:=([116,114,117,101]:List Int)) (inner:=[.int .u8 116, .int .u8 114, .int .u8 117, .int .u8 101]) (ok:=fun _=>True) (okp:=fun _=>True) ?hr ?hp (fun _ hk=>hk) trivial (Below.refl _ _) (Nat.le_refl _) (by simp) ?_;(case hd=>rfl);(case hg=>rfl);(case hr=>first|(go_simp;done)|(go_simp;rfl));(case hp=>exact (Reps.one (show Kd.M (Kd.int .u8) _ _ _ 116 [.int .u8 116] from rfl) (Reps.one (show Kd.M (Kd.int .u8) _ _ _ 114 [.int .u8 114] from rfl) (Reps.one (show Kd.M (Kd.int .u8) _ _ _ 117 [.int .u8 117] from rfl) (Reps.one (show Kd.M (Kd.int .u8) _ _ _ 101 [.int .u8 101] from rfl) (Reps.none _ _))))));intro vz43 w48 ho49 hb hg_ hnew_;clear hg_ hnew_;(first|rw [← Nyz26.out] at ho49|(simp only [Int.reduceToNat] at ho49;rw [← Nyz26.out] at ho49));have _:=Ak (Kd.R_elder' (oR HO_0.out) (Kd.R_base ho49) hb);have _:=Ak (Kd.R_lower (Kd.R_new' (Kd.R_newM (M:=fun k_=>(P0_ k_∨w.heap.size≤k_)) ho49 (by first|exact HK.out.1|exact (show Kept w _ (fun k_=>P0_ k_) from oP).1) (fun k_ h_ => .inr h_)) (Kd.R_lt (oR HO_0.out))) (below_size oB));have _:=Ak (Kept.below (S:=(fun k_=>P0_ k_)) oP hb);have _:=Ak (below_step oB hb);clear HO_0 HK HB;rename_i HO_0 HOz44 HK HB;clear hb ho49;obtain ⟨Ao51,co51,eo51⟩:=Kd.R_slice HOz44.out;subst eo51)|((with_reducible refine gate_builtin (b := .append) (xs := #[.tmp 133, .tmp 134]) rfl ?_);at_builtin;refine Kd.R_append_rows (Kd.int .u8) (w0:=w0) w0.heap.size rfl (.tmp 133) (.tmp 134) 44 5 (.int .u8 0) 1 rfl Try.underlying44 info5 rfl (by decide) (by omega) u9000_ l0 yz26 _ _ _ (fun k_=>(P0_ k_∨w.heap.size≤k_)∧some k_≠(.slice Ao51 yz26.length co51:Value).ownBlock) (fun _=>False) rfl rfl ?aO ?aR (fun _ _ h=>h) (fun _ h=>h.elim) ?aF ?aB ?aS ?aL ?_;(case aR=>repeat (first|exact (Kd.R_reads' HOz44.out).2.2|(with_reducible refine Kd.C_alloc ?_ _)|(with_reducible refine Kd.C_drewN ?_ _)|(with_reducible refine Kd.C_drew ?_)));(case aB=>exact oB);(case aF=>exact (fun k_ hk=>⟨(.inr (Nat.le_trans (by first|exact HK.out.1|exact (show Kept w _ (fun k_=>P0_ k_) from oP).1) hk)),Kd.fresh' (Kd.R_lt (oR HOz44.out)) k_ hk⟩));(case aO=>exact (oR HO_0.out));(case aS=>exact (below_size oB));(case aL=>have:=LMc47.out;omega);intro vz45 w50 ho hb hg hat;rw [← Nyz41.out] at ho;have _:=Ak (Kd.R_after (ok:=(fun k_=>(P0_ k_∨w.heap.size≤k_))) (by (with_reducible repeat (first|apply Kd.R_alloc|apply Kd.R_drewN|apply Kd.R_drew));exact Kd.R_mono HOz44.out (fun _ hk=>⟨hk.1.1,hk.2⟩)) hg hat);have _:=Ak (hb);have _:=Ak (Kept.of_grown (S:=(fun k_=>P0_ k_)) hg oP (fun k_ e_=>(HO_0.out.1 k_ e_).1));have _:=Ak (ho);clear HOz44 HB HK HO_0;rename_i HOz44 HB HK HOz46;clear ho hb hg hat))
      refine bodyPost_ret (results_list (rs:=[.tmp 22, .tmp 23, .tmp 24, .tmp 25]) rfl (by simp) (.tmp (.tmp (.tmp (.tmp .nil))))) rfl ?_
      exact ⟨_,oE,by (with_reducible repeat (first|apply Kd.R_alloc|apply Kd.R_drewN|apply Kd.R_drew));exact Kd.R_mono HOz46.out (fun _ hk=>hk.1),oB,oP⟩
     rw [if_neg c46] at H
     have c46b0:((rd l1 x2_1) == 116)=false:=beq_eq_false_iff_ne.mpr c46
     have c46b1:((rd l1 x2_1) != 116)=true:=bne_iff_ne.mpr c46
     by_cases c52:(rd l1 x2_1)=102
     ·
      rw [if_pos c52] at H
      have c52b0:((rd l1 x2_1) == 102)=true:=beq_iff_eq.mpr c52
      have c52b1:((rd l1 x2_1) != 102)=false:=bne_eq_false_iff_eq.mpr c52
      clear c52
      obtain ⟨yz27,hyz27⟩ : ∃ y_:List Int,y_=(([102,97,108,115,101]:List Int)):=⟨_,rfl⟩
      replace H:(if l0.length+yz27.length<140737488355328 then (some ((l0++yz27),wrap64 (x2_1+5),a9,true)) else (none))=some (r1,r2,r3,r4):=by first|(rw [hyz27];with_reducible exact H)|(have H2_:=(Option.bind_some _ _).symm.trans H;rw [hyz27];with_reducible exact H2_)|(have H2_:=(Option.bind_some _ _).symm.trans H;with_reducible exact H2_)|with_reducible exact H|(rw [hyz27];exact H)|exact H
      have Nyz27:=Ak hyz27
      clear hyz27
      by_cases c53:l0.length+yz27.length<140737488355328
      rotate_left
      ·
       rw [if_neg c53] at H
       exact absurd H (by simp)
      rw [if_pos c53] at H
      have LMc53:=Ak c53
      clear c53
      obtain ⟨yz47,hyz47⟩ : ∃ y_:List Int,y_=(l0++yz27):=⟨_,rfl⟩
      replace H:(some (yz47,wrap64 (x2_1+5),a9,true))=some (r1,r2,r3,r4):=by first|(rw [hyz47];with_reducible exact H)|(have H2_:=(Option.bind_some _ _).symm.trans H;rw [hyz47];with_reducible exact H2_)|(have H2_:=(Option.bind_some _ _).symm.trans H;with_reducible exact H2_)|with_reducible exact H|(rw [hyz47];exact H)|exact H
      have Nyz47:=Ak hyz47
      clear hyz47
      simp only [Option.some.injEq,Prod.mk.injEq] at H
      obtain ⟨rfl,rfl,rfl,rfl⟩:=H
      have pz32:0≤(x2_1:Int):=of_decide_eq_true oA
      have qz32:x2_1<(l1.length:Int):=of_decide_eq_true oA
      obtain ⟨adz32,ez32,hxz32_0⟩:=Kd.at_int (Kd.C_kept_now HR1.out HK.out) x2_1 pz32 qz32
      obtain rfl:adz0=adz32:=(by injection ez32)
      replace pz32:=eq_true pz32
      replace qz32:=eq_true qz32
      have pz38:0≤(x2_1:Int):=of_decide_eq_true oA
      have qz38:x2_1<(l1.length:Int):=of_decide_eq_true oA
      obtain ⟨adz38,ez38,hxz38_0⟩:=Kd.at_int (Kd.C_kept_now HR1.out HK.out) x2_1 pz38 qz38
      obtain rfl:adz0=adz38:=(by injection ez38)
      replace pz38:=eq_true pz38
      replace qz38:=eq_true qz38
      have pz42:0≤(x2_1:Int):=of_decide_eq_true oA
      have qz42:x2_1<(l1.length:Int):=of_decide_eq_true oA
      obtain ⟨adz42,ez42,hxz42_0⟩:=Kd.at_int (Kd.C_kept_now HR1.out HK.out) x2_1 pz42 qz42
      obtain rfl:adz0=adz42:=(by injection ez42)
      replace pz42:=eq_true pz42
      replace qz42:=eq_true qz42
      go_wp2_with (first|((with_reducible refine gate_dst (N:=142) rfl ?_);refine Kd.R_lit (Kd.int .u8) _ 5 ?hg (N:=142) ?hd (xs:=([102,97,108,115,101]:List Int)) (inner:=[.int .u8 102, .int .u8 97, .int .u8 108, .int .u8 115, .int .u8 101]) (ok:=fun _=>True) (okp:=fun _=>True) ?hr ?hp (fun _ hk=>hk) trivial (Below.refl _ _) (Nat.le_refl _) (by simp) ?_;(case hd=>rfl);(case hg=>rfl);(case hr=>first|(go_simp;done)|(go_simp;rfl));(case hp=>exact (Reps.one (show Kd.M (Kd.int .u8) _ _ _ 102 [.int .u8 102] from rfl) (Reps.one (show Kd.M (Kd.int .u8) _ _ _ 97 [.int .u8 97] from rfl) (Reps.one (show Kd.M (Kd.int .u8) _ _ _ 108 [.int .u8 108] from rfl) (Reps.one (show Kd.M (Kd.int .u8) _ _ _ 115 [.int .u8 115] from rfl) (Reps.one (show Kd.M (Kd.int .u8) _ _ _ 101 [.int .u8 101] from rfl) (Reps.none _ _)))))));intro vz48 w54 ho55 hb hg_ hnew_;clear hg_ hnew_;(first|rw [← Nyz27.out] at ho55|(simp only [Int.reduceToNat] at ho55;rw [← Nyz27.out] at ho55));have _:=Ak (Kd.R_elder' (oR HO_0.out) (Kd.R_base ho55) hb);have _:=Ak (Kd.R_lower (Kd.R_new' (Kd.R_newM (M:=fun k_=>(P0_ k_∨w.heap.size≤k_)) ho55 (by first|exact HK.out.1|exact (show Kept w _ (fun k_=>P0_ k_) from oP).1) (fun k_ h_ => .inr h_)) (Kd.R_lt (oR HO_0.out))) (below_size oB));have _:=Ak (Kept.below (S:=(fun k_=>P0_ k_)) oP hb);have _:=Ak (below_step oB hb);clear HO_0 HK HB;rename_i HO_0 HOz49 HK HB;clear hb ho55;obtain ⟨Ao57,co57,eo57⟩:=Kd.R_slice HOz49.out;subst eo57)|((with_reducible refine gate_builtin (b := .append) (xs := #[.tmp 141, .tmp 142]) rfl ?_);at_builtin;refine Kd.R_append_rows (Kd.int .u8) (w0:=w0) w0.heap.size rfl (.tmp 141) (.tmp 142) 44 5 (.int .u8 0) 1 rfl Try.underlying44 info5 rfl (by decide) (by omega) u9000_ l0 yz27 _ _ _ (fun k_=>(P0_ k_∨w.heap.size≤k_)∧some k_≠(.slice Ao57 yz27.length co57:Value).ownBlock) (fun _=>False) rfl rfl ?aO ?aR (fun _ _ h=>h) (fun _ h=>h.elim) ?aF ?aB ?aS ?aL ?_;(case aR=>repeat (first|exact (Kd.R_reads' HOz49.out).2.2|(with_reducible refine Kd.C_alloc ?_ _)|(with_reducible refine Kd.C_drewN ?_ _)|(with_reducible refine Kd.C_drew ?_)));(case aB=>exact oB);(case aF=>exact (fun k_ hk=>⟨(.inr (Nat.le_trans (by first|exact HK.out.1|exact (show Kept w _ (fun k_=>P0_ k_) from oP).1) hk)),Kd.fresh' (Kd.R_lt (oR HOz49.out)) k_ hk⟩));(case aO=>exact (oR HO_0.out));(case aS=>exact (below_size oB));(case aL=>have:=LMc53.out;omega);intro vz50 w56 ho hb hg hat;rw [← Nyz47.out] at ho;have _:=Ak (Kd.R_after (ok:=(fun k_=>(P0_ k_∨w.heap.size≤k_))) (by (with_reducible repeat (first|apply Kd.R_alloc|apply Kd.R_drewN|apply Kd.R_drew));exact Kd.R_mono HOz49.out (fun _ hk=>⟨hk.1.1,hk.2⟩)) hg hat);have _:=Ak (hb);have _:=Ak (Kept.of_grown (S:=(fun k_=>P0_ k_)) hg oP (fun k_ e_=>(HO_0.out.1 k_ e_).1));have _:=Ak (ho);clear HOz49 HB HK HO_0;rename_i HOz49 HB HK HOz51;clear ho hb hg hat))
      refine bodyPost_ret (results_list (rs:=[.tmp 22, .tmp 23, .tmp 24, .tmp 25]) rfl (by simp) (.tmp (.tmp (.tmp (.tmp .nil))))) rfl ?_
      exact ⟨_,oE,by (with_reducible repeat (first|apply Kd.R_alloc|apply Kd.R_drewN|apply Kd.R_drew));exact Kd.R_mono HOz51.out (fun _ hk=>hk.1),oB,oP⟩
     rw [if_neg c52] at H
     have c52b0:((rd l1 x2_1) == 102)=false:=beq_eq_false_iff_ne.mpr c52
     have c52b1:((rd l1 x2_1) != 102)=true:=bne_iff_ne.mpr c52
     by_cases c58:(rd l1 x2_1)=110
     ·
      rw [if_pos c58] at H
      have c58b0:((rd l1 x2_1) == 110)=true:=beq_iff_eq.mpr c58
      have c58b1:((rd l1 x2_1) != 110)=false:=bne_eq_false_iff_eq.mpr c58
      clear c58
      obtain ⟨yz28,hyz28⟩ : ∃ y_:List Int,y_=(([110,117,108,108]:List Int)):=⟨_,rfl⟩
      replace H:(if l0.length+yz28.length<140737488355328 then (some ((l0++yz28),wrap64 (x2_1+4),a9,true)) else (none))=some (r1,r2,r3,r4):=by first|(rw [hyz28];with_reducible exact H)|(have H2_:=(Option.bind_some _ _).symm.trans H;rw [hyz28];with_reducible exact H2_)|(have H2_:=(Option.bind_some _ _).symm.trans H;with_reducible exact H2_)|with_reducible exact H|(rw [hyz28];exact H)|exact H
      have Nyz28:=Ak hyz28
      clear hyz28
      by_cases c59:l0.length+yz28.length<140737488355328
      rotate_left
      ·
       rw [if_neg c59] at H
       exact absurd H (by simp)
      rw [if_pos c59] at H
      have LMc59:=Ak c59
      clear c59
      obtain ⟨yz52,hyz52⟩ : ∃ y_:List Int,y_=(l0++yz28):=⟨_,rfl⟩
      replace H:(some (yz52,wrap64 (x2_1+4),a9,true))=some (r1,r2,r3,r4):=by first|(rw [hyz52];with_reducible exact H)|(have H2_:=(Option.bind_some _ _).symm.trans H;rw [hyz52];with_reducible exact H2_)|(have H2_:=(Option.bind_some _ _).symm.trans H;with_reducible exact H2_)|with_reducible exact H|(rw [hyz52];exact H)|exact H
      have Nyz52:=Ak hyz52
      clear hyz52
      simp only [Option.some.injEq,Prod.mk.injEq] at H
      obtain ⟨rfl,rfl,rfl,rfl⟩:=H
      have pz32:0≤(x2_1:Int):=of_decide_eq_true oA
      have qz32:x2_1<(l1.length:Int):=of_decide_eq_true oA
      obtain ⟨adz32,ez32,hxz32_0⟩:=Kd.at_int (Kd.C_kept_now HR1.out HK.out) x2_1 pz32 qz32
      obtain rfl:adz0=adz32:=(by injection ez32)
      replace pz32:=eq_true pz32
      replace qz32:=eq_true qz32
      have pz38:0≤(x2_1:Int):=of_decide_eq_true oA
      have qz38:x2_1<(l1.length:Int):=of_decide_eq_true oA
      obtain ⟨adz38,ez38,hxz38_0⟩:=Kd.at_int (Kd.C_kept_now HR1.out HK.out) x2_1 pz38 qz38
      obtain rfl:adz0=adz38:=(by injection ez38)
      replace pz38:=eq_true pz38
      replace qz38:=eq_true qz38
      have pz42:0≤(x2_1:Int):=of_decide_eq_true oA
      have qz42:x2_1<(l1.length:Int):=of_decide_eq_true oA
      obtain ⟨adz42,ez42,hxz42_0⟩:=Kd.at_int (Kd.C_kept_now HR1.out HK.out) x2_1 pz42 qz42
      obtain rfl:adz0=adz42:=(by injection ez42)
      replace pz42:=eq_true pz42
      replace qz42:=eq_true qz42
      go_wp2_with (first|((with_reducible refine gate_dst (N:=150) rfl ?_);refine Kd.R_lit (Kd.int .u8) _ 5 ?hg (N:=150) ?hd (xs:=([110,117,108,108]:List Int)) (inner:=[.int .u8 110, .int .u8 117, .int .u8 108, .int .u8 108]) (ok:=fun _=>True) (okp:=fun _=>True) ?hr ?hp (fun _ hk=>hk) trivial (Below.refl _ _) (Nat.le_refl _) (by simp) ?_;(case hd=>rfl);(case hg=>rfl);(case hr=>first|(go_simp;done)|(go_simp;rfl));(case hp=>exact (Reps.one (show Kd.M (Kd.int .u8) _ _ _ 110 [.int .u8 110] from rfl) (Reps.one (show Kd.M (Kd.int .u8) _ _ _ 117 [.int .u8 117] from rfl) (Reps.one (show Kd.M (Kd.int .u8) _ _ _ 108 [.int .u8 108] from rfl) (Reps.one (show Kd.M (Kd.int .u8) _ _ _ 108 [.int .u8 108] from rfl) (Reps.none _ _))))));intro vz53 w60 ho61 hb hg_ hnew_;clear hg_ hnew_;(first|rw [← Nyz28.out] at ho61|(simp only [Int.reduceToNat] at ho61;rw [← Nyz28.out] at ho61));have _:=Ak (Kd.R_elder' (oR HO_0.out) (Kd.R_base ho61) hb);have _:=Ak (Kd.R_lower (Kd.R_new' (Kd.R_newM (M:=fun k_=>(P0_ k_∨w.heap.size≤k_)) ho61 (by first|exact HK.out.1|exact (show Kept w _ (fun k_=>P0_ k_) from oP).1) (fun k_ h_ => .inr h_)) (Kd.R_lt (oR HO_0.out))) (below_size oB));have _:=Ak (Kept.below (S:=(fun k_=>P0_ k_)) oP hb);have _:=Ak (below_step oB hb);clear HO_0 HK HB;rename_i HO_0 HOz54 HK HB;clear hb ho61;obtain ⟨Ao63,co63,eo63⟩:=Kd.R_slice HOz54.out;subst eo63)|((with_reducible refine gate_builtin (b := .append) (xs := #[.tmp 149, .tmp 150]) rfl ?_);at_builtin;refine Kd.R_append_rows (Kd.int .u8) (w0:=w0) w0.heap.size rfl (.tmp 149) (.tmp 150) 44 5 (.int .u8 0) 1 rfl Try.underlying44 info5 rfl (by decide) (by omega) u9000_ l0 yz28 _ _ _ (fun k_=>(P0_ k_∨w.heap.size≤k_)∧some k_≠(.slice Ao63 yz28.length co63:Value).ownBlock) (fun _=>False) rfl rfl ?aO ?aR (fun _ _ h=>h) (fun _ h=>h.elim) ?aF ?aB ?aS ?aL ?_;(case aR=>repeat (first|exact (Kd.R_reads' HOz54.out).2.2|(with_reducible refine Kd.C_alloc ?_ _)|(with_reducible refine Kd.C_drewN ?_ _)|(with_reducible refine Kd.C_drew ?_)));(case aB=>exact oB);(case aF=>exact (fun k_ hk=>⟨(.inr (Nat.le_trans (by first|exact HK.out.1|exact (show Kept w _ (fun k_=>P0_ k_) from oP).1) hk)),Kd.fresh' (Kd.R_lt (oR HOz54.out)) k_ hk⟩));(case aO=>exact (oR HO_0.out));(case aS=>exact (below_size oB));(case aL=>have:=LMc59.out;omega);intro vz55 w62 ho hb hg hat;rw [← Nyz52.out] at ho;have _:=Ak (Kd.R_after (ok:=(fun k_=>(P0_ k_∨w.heap.size≤k_))) (by (with_reducible repeat (first|apply Kd.R_alloc|apply Kd.R_drewN|apply Kd.R_drew));exact Kd.R_mono HOz54.out (fun _ hk=>⟨hk.1.1,hk.2⟩)) hg hat);have _:=Ak (hb);have _:=Ak (Kept.of_grown (S:=(fun k_=>P0_ k_)) hg oP (fun k_ e_=>(HO_0.out.1 k_ e_).1));have _:=Ak (ho);clear HOz54 HB HK HO_0;rename_i HOz54 HB HK HOz56;clear ho hb hg hat))
      refine bodyPost_ret (results_list (rs:=[.tmp 22, .tmp 23, .tmp 24, .tmp 25]) rfl (by simp) (.tmp (.tmp (.tmp (.tmp .nil))))) rfl ?_
      exact ⟨_,oE,by (with_reducible repeat (first|apply Kd.R_alloc|apply Kd.R_drewN|apply Kd.R_drew));exact Kd.R_mono HOz56.out (fun _ hk=>hk.1),oB,oP⟩
     rw [if_neg c58] at H
     have c58b0:((rd l1 x2_1) == 110)=false:=beq_eq_false_iff_ne.mpr c58
     have c58b1:((rd l1 x2_1) != 110)=true:=bne_iff_ne.mpr c58
     have H':=Ak H
     clear H
     have pz32:0≤(x2_1:Int):=of_decide_eq_true oA
     have qz32:x2_1<(l1.length:Int):=of_decide_eq_true oA
     obtain ⟨adz32,ez32,hxz32_0⟩:=Kd.at_int (Kd.C_kept_now HR1.out HK.out) x2_1 pz32 qz32
     obtain rfl:adz0=adz32:=(by injection ez32)
     replace pz32:=eq_true pz32
     replace qz32:=eq_true qz32
     have pz38:0≤(x2_1:Int):=of_decide_eq_true oA
     have qz38:x2_1<(l1.length:Int):=of_decide_eq_true oA
     obtain ⟨adz38,ez38,hxz38_0⟩:=Kd.at_int (Kd.C_kept_now HR1.out HK.out) x2_1 pz38 qz38
     obtain rfl:adz0=adz38:=(by injection ez38)
     replace pz38:=eq_true pz38
     replace qz38:=eq_true qz38
     have pz42:0≤(x2_1:Int):=of_decide_eq_true oA
     have qz42:x2_1<(l1.length:Int):=of_decide_eq_true oA
     obtain ⟨adz42,ez42,hxz42_0⟩:=Kd.at_int (Kd.C_kept_now HR1.out HK.out) x2_1 pz42 qz42
     obtain rfl:adz0=adz42:=(by injection ez42)
     replace pz42:=eq_true pz42
     replace qz42:=eq_true qz42
     go_wp2
     go_roundg kj18
     case measure=>have:=HK1.out;have:=HJ18.out;omega
     case rel=>exact ⟨(wrap64 (x2_1+1)),oS,H',⟨by have:=HK1.out;have:=HJ18.out;omega⟩,⟨oR HO_0.out⟩,⟨oP⟩,⟨oB⟩⟩
    rw [if_neg c36] at H
    exact absurd H (by simp)
  rw [if_neg c13] at H
  exact absurd H (by simp)
end Go.Proofs.Ytbkgoccnegjdhaa.Q

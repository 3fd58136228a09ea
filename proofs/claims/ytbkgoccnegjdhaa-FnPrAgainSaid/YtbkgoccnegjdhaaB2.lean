/- Functions of the program as Lean functions, each with a proof that the call comes to what it gives. Written by prx.py (wip/pr). -/
import Derived.Test.YtbkgoccnegjdhaaB0
import Derived.Test.YtbkgoccnegjdhaaB1
namespace Go.Proofs.Ytbkgoccnegjdhaa.Q
open Go.RowKit Go.Proofs.YtbkgoccnegjdhaaW.PrintWords Go.Proofs.YtbkgoccnegjdhaaW.PrintLast Go.Proofs.YtbkgoccnegjdhaaW.PrintMore
attribute [local go_sem] max2_int min2_int max_two min_two max_three min_three max_four min_four   -- for this text's walks alone
set_option linter.unusedVariables false
set_option linter.unusedSimpArgs false
/-! ### rX: function 44 -/
mutual
def rX.j0:Nat→Int→Bool→ByteArray→Int→Option (Bool × ByteArray × Int)
  | 0,_,_,_,_=>none
  | k+1,x7,x8,x1000,x1001=>if x8=true then (some (true,x1000,wrap64 (x1001+1))) else (if x7=117 then (rX.l0 k 0 x1000 (wrap64 (x1001+1))) else (some (false,x1000,x1001)))
def rX.l0:Nat→Int→ByteArray→Int→Option (Bool × ByteArray × Int)
  | 0,_,_,_=>none
  | k+1,x3,x1000,x1001=>if x3<4 then ((rH.f x1000 x1001).bind fun bt106=>((sH.f k bt106.1).bind fun bt109=>(if bt109.2=true then (rX.l0 k (wrap64 (x3+1)) bt106.2.1 (wrap64 (bt106.2.2+1))) else (some (false,bt106.2.1,bt106.2.2))))) else (some (true,x1000,x1001))
end
def rX.f (k:Nat) (s0_0:ByteArray) (s0_1:Int):Option (Bool × ByteArray × Int):=(rH.f s0_0 s0_1).bind fun bt103=>(if bt103.1=34 then (rX.j0 k bt103.1 (bt103.1 == 34) bt103.2.1 bt103.2.2) else (if bt103.1=92 then (rX.j0 k bt103.1 (bt103.1 == 92) bt103.2.1 bt103.2.2) else (if bt103.1=47 then (rX.j0 k bt103.1 (bt103.1 == 47) bt103.2.1 bt103.2.2) else (if bt103.1=98 then (rX.j0 k bt103.1 (bt103.1 == 98) bt103.2.1 bt103.2.2) else (if bt103.1=102 then (rX.j0 k bt103.1 (bt103.1 == 102) bt103.2.1 bt103.2.2) else (if bt103.1=110 then (rX.j0 k bt103.1 (bt103.1 == 110) bt103.2.1 bt103.2.2) else (if bt103.1=114 then (rX.j0 k bt103.1 (bt103.1 == 114) bt103.2.1 bt103.2.2) else (rX.j0 k bt103.1 (bt103.1 == 116) bt103.2.1 bt103.2.2))))))))
theorem rX.mono_l : ∀ k,(∀ y0 y1 y2 y3,LeO (rX.j0 k y0 y1 y2 y3) (rX.j0 (k+1) y0 y1 y2 y3))∧(∀ y0 y1 y2,LeO (rX.l0 k y0 y1 y2) (rX.l0 (k+1) y0 y1 y2))
  | 0=>⟨fun _ _ _ _ r h=>by simp [rX.j0] at h,fun _ _ _ r h=>by simp [rX.l0] at h⟩
  | k+1=>by
    obtain ⟨ih0,ih1⟩:=rX.mono_l k
    refine ⟨?_,?_⟩
    · intro y0 y1 y2 y3
      unfold rX.j0
      repeat' first|(with_reducible first|apply ih0|apply ih1|apply sH.mono|apply LeO.refl|apply LeO.none|refine LeO.ite ?_ ?_|refine LeO.bind ?_ (fun _=>?_))|apply ih0|apply ih1|apply sH.mono|apply LeO.none|refine LeO.ite ?_ ?_|refine LeO.bind ?_ (fun _=>?_)
    · intro y0 y1 y2
      unfold rX.l0
      repeat' first|(with_reducible first|apply ih0|apply ih1|apply sH.mono|apply LeO.refl|apply LeO.none|refine LeO.ite ?_ ?_|refine LeO.bind ?_ (fun _=>?_))|apply ih0|apply ih1|apply sH.mono|apply LeO.none|refine LeO.ite ?_ ?_|refine LeO.bind ?_ (fun _=>?_)
theorem rX.mono : ∀ a0 a1 k,LeO (rX.f k a0 a1) (rX.f (k+1) a0 a1):=by
 intro a0 a1 k
 obtain ⟨ih0,ih1⟩:=rX.mono_l k
 unfold rX.f
 repeat' first|(with_reducible first|apply ih0|apply ih1|apply sH.mono|apply LeO.refl|apply LeO.none|refine LeO.ite ?_ ?_|refine LeO.bind ?_ (fun _=>?_))|apply ih0|apply ih1|apply sH.mono|apply LeO.none|refine LeO.ite ?_ ?_|refine LeO.bind ?_ (fun _=>?_)
set_option maxHeartbeats 8000000 in
set_option maxRecDepth 100000 in
theorem rX.calls (k:Nat) (g:Nat) (s0_0:ByteArray) (s0_1:Int) (r1:Bool) (r2:ByteArray) (r3:Int) (w0 w:World) (hI:IsS54 w0 w g s0_0 s0_1) (hB:Below w0.heap.size w0 w) (h:rX.f k s0_0 s0_1=some (r1,r2,r3)) :
 Calls Try.prog 44 #[.pointer (some ⟨g,0,none⟩)] w fun e w'=>e = .returned (.bool r1)∧IsS54 w0 w' g r2 r3∧Below w0.heap.size w0 w'∧KeepBut w w' g none:=by
 have HI0:=Ak hI
 have HK:=Ak (KeepBut.refl w g none)
 have HL:=Ak hB.size
 clear hI
 have HW0:=Ak hB.size
 have HB:=Ak hB
 clear hB
 have H:((rH.f s0_0 s0_1).bind fun bt103=>(if bt103.1=34 then (rX.j0 k bt103.1 (bt103.1 == 34) bt103.2.1 bt103.2.2) else (if bt103.1=92 then (rX.j0 k bt103.1 (bt103.1 == 92) bt103.2.1 bt103.2.2) else (if bt103.1=47 then (rX.j0 k bt103.1 (bt103.1 == 47) bt103.2.1 bt103.2.2) else (if bt103.1=98 then (rX.j0 k bt103.1 (bt103.1 == 98) bt103.2.1 bt103.2.2) else (if bt103.1=102 then (rX.j0 k bt103.1 (bt103.1 == 102) bt103.2.1 bt103.2.2) else (if bt103.1=110 then (rX.j0 k bt103.1 (bt103.1 == 110) bt103.2.1 bt103.2.2) else (if bt103.1=114 then (rX.j0 k bt103.1 (bt103.1 == 114) bt103.2.1 bt103.2.2) else (rX.j0 k bt103.1 (bt103.1 == 116) bt103.2.1 bt103.2.2)))))))))=some (r1,r2,r3):=h
 clear h
 replace H:=Option.bind_eq_some_iff.mp H
 obtain ⟨⟨t103,t104,t105⟩,A20,H⟩:=H
 replace H:(if t103=34 then (rX.j0 k t103 (t103 == 34) t104 t105) else (if t103=92 then (rX.j0 k t103 (t103 == 92) t104 t105) else (if t103=47 then (rX.j0 k t103 (t103 == 47) t104 t105) else (if t103=98 then (rX.j0 k t103 (t103 == 98) t104 t105) else (if t103=102 then (rX.j0 k t103 (t103 == 102) t104 t105) else (if t103=110 then (rX.j0 k t103 (t103 == 110) t104 t105) else (if t103=114 then (rX.j0 k t103 (t103 == 114) t104 t105) else (rX.j0 k t103 (t103 == 116) t104 t105))))))))=some (r1,r2,r3):=H
 have A2:=Ak A20
 clear A20
 have HC3:=Ak H
 clear H
 go_enter Try.func44,Try.ntmps44
 go_upto_if 8 with (first|((with_reducible refine gate_callee (f:=32) rfl ?_);refine goesL_ (some 7) rfl rfl Try.func32 (by kernel_rfl) rfl #[.pointer (some ⟨g,0,none⟩)] rfl oM ?_;(with_reducible refine (rH.calls g s0_0 s0_1 t103 t104 t105 w0 _ ?side1 ?side2 A2.out).mono ?_);(case side1=>exact oI);(case side2=>exact oG);rintro e w4 ⟨rfl,hi,hb,hk⟩;refine ⟨_,rfl,?_⟩;have _:=Ak (KeepBut.trans oK hk (.inl rfl));have _:=Ak (hb);have _:=Ak (hi);clear HK HB HI0;rename_i HK HB HI0;(try clear hb);(try clear hb2);(try clear hk);(try clear hi)))
 (try simp only [Act.put,List.setIfInBounds_toArray,List.set_cons_zero,List.set_cons_succ])
 go_cut [8] (fun v8 wc => ∃ (kq:Nat) (x8_2:Bool),v8 = .bool x8_2∧Aside0 (rX.j0 kq t103 x8_2 t104 t105=some (r1,r2,r3))∧Aside0 (kq≤k)∧Aside0 (IsS54 w0 wc g t104 t105)∧Aside0 (KeepBut w wc g none)∧Aside0 (Below w0.heap.size w0 wc))
 case first =>
  have H:=HC3.out
  clear HC3
  by_cases c5:t103=34
  ·
   rw [if_pos c5] at H
   have c5b0:(t103 == 34)=true:=beq_iff_eq.mpr c5
   have c5b1:(t103 != 34)=false:=bne_eq_false_iff_eq.mpr c5
   clear c5
   (first|rw [c5b0]|(simp only [i64_w,i32_w];rw [c5b0])|skip)
   have H':=Ak H
   clear H
   go_wp2
   go_meet
   case rel=>exact ⟨_,((t103 == 34)),oS,H',⟨by first|omega|exact Nat.le_refl _⟩,⟨oI⟩,⟨oK⟩,⟨oG⟩⟩
  rw [if_neg c5] at H
  have c5b0:(t103 == 34)=false:=beq_eq_false_iff_ne.mpr c5
  have c5b1:(t103 != 34)=true:=bne_iff_ne.mpr c5
  (first|rw [c5b0]|(simp only [i64_w,i32_w];rw [c5b0])|skip)
  by_cases c6:t103=92
  ·
   rw [if_pos c6] at H
   have c6b0:(t103 == 92)=true:=beq_iff_eq.mpr c6
   have c6b1:(t103 != 92)=false:=bne_eq_false_iff_eq.mpr c6
   clear c6
   have H':=Ak H
   clear H
   go_wp2
   go_meet
   case rel=>exact ⟨_,((t103 == 92)),oS,H',⟨by first|omega|exact Nat.le_refl _⟩,⟨oI⟩,⟨oK⟩,⟨oG⟩⟩
  rw [if_neg c6] at H
  have c6b0:(t103 == 92)=false:=beq_eq_false_iff_ne.mpr c6
  have c6b1:(t103 != 92)=true:=bne_iff_ne.mpr c6
  by_cases c7:t103=47
  ·
   rw [if_pos c7] at H
   have c7b0:(t103 == 47)=true:=beq_iff_eq.mpr c7
   have c7b1:(t103 != 47)=false:=bne_eq_false_iff_eq.mpr c7
   clear c7
   have H':=Ak H
   clear H
   go_wp2
   go_meet
   case rel=>exact ⟨_,((t103 == 47)),oS,H',⟨by first|omega|exact Nat.le_refl _⟩,⟨oI⟩,⟨oK⟩,⟨oG⟩⟩
  rw [if_neg c7] at H
  have c7b0:(t103 == 47)=false:=beq_eq_false_iff_ne.mpr c7
  have c7b1:(t103 != 47)=true:=bne_iff_ne.mpr c7
  by_cases c8:t103=98
  ·
   rw [if_pos c8] at H
   have c8b0:(t103 == 98)=true:=beq_iff_eq.mpr c8
   have c8b1:(t103 != 98)=false:=bne_eq_false_iff_eq.mpr c8
   clear c8
   have H':=Ak H
   clear H
   go_wp2
   go_meet
   case rel=>exact ⟨_,((t103 == 98)),oS,H',⟨by first|omega|exact Nat.le_refl _⟩,⟨oI⟩,⟨oK⟩,⟨oG⟩⟩
  rw [if_neg c8] at H
  have c8b0:(t103 == 98)=false:=beq_eq_false_iff_ne.mpr c8
  have c8b1:(t103 != 98)=true:=bne_iff_ne.mpr c8
  by_cases c9:t103=102
  ·
   rw [if_pos c9] at H
   have c9b0:(t103 == 102)=true:=beq_iff_eq.mpr c9
   have c9b1:(t103 != 102)=false:=bne_eq_false_iff_eq.mpr c9
   clear c9
   have H':=Ak H
   clear H
   go_wp2
   go_meet
   case rel=>exact ⟨_,((t103 == 102)),oS,H',⟨by first|omega|exact Nat.le_refl _⟩,⟨oI⟩,⟨oK⟩,⟨oG⟩⟩
  rw [if_neg c9] at H
  have c9b0:(t103 == 102)=false:=beq_eq_false_iff_ne.mpr c9
  have c9b1:(t103 != 102)=true:=bne_iff_ne.mpr c9
  by_cases c10:t103=110
  ·
   rw [if_pos c10] at H
   have c10b0:(t103 == 110)=true:=beq_iff_eq.mpr c10
   have c10b1:(t103 != 110)=false:=bne_eq_false_iff_eq.mpr c10
   clear c10
   have H':=Ak H
   clear H
   go_wp2
   go_meet
   case rel=>exact ⟨_,((t103 == 110)),oS,H',⟨by first|omega|exact Nat.le_refl _⟩,⟨oI⟩,⟨oK⟩,⟨oG⟩⟩
  rw [if_neg c10] at H
  have c10b0:(t103 == 110)=false:=beq_eq_false_iff_ne.mpr c10
  have c10b1:(t103 != 110)=true:=bne_iff_ne.mpr c10
  by_cases c11:t103=114
  ·
   rw [if_pos c11] at H
   have c11b0:(t103 == 114)=true:=beq_iff_eq.mpr c11
   have c11b1:(t103 != 114)=false:=bne_eq_false_iff_eq.mpr c11
   clear c11
   have H':=Ak H
   clear H
   go_wp2
   go_meet
   case rel=>exact ⟨_,((t103 == 114)),oS,H',⟨by first|omega|exact Nat.le_refl _⟩,⟨oI⟩,⟨oK⟩,⟨oG⟩⟩
  rw [if_neg c11] at H
  have c11b0:(t103 == 114)=false:=beq_eq_false_iff_ne.mpr c11
  have c11b1:(t103 != 114)=true:=bne_iff_ne.mpr c11
  have H':=Ak H
  clear H
  go_wp2
  go_meet
  case rel=>exact ⟨_,((t103 == 116)),oS,H',⟨by first|omega|exact Nat.le_refl _⟩,⟨oI⟩,⟨oK⟩,⟨oG⟩⟩
 case rest =>
 clear HC3
 obtain ⟨kq,x8_2,rfl,HA,HJ2,HI0,HK,HB⟩:=hcut
 cases kq with
 | zero=>exact absurd HA.out (by simp [rX.j0])
 | succ kj2 =>
  have H:=HA.out
  clear HA
  simp only [rX.j0] at H
  by_cases c12:x8_2=true
  ·
   subst c12
   have H1:(some (true,t104,wrap64 (t105+1)))=some (r1,r2,r3):=by rw [if_pos rfl] at H;exact H
   clear H
   have H:=H1
   clear H1
   simp only [Option.some.injEq,Prod.mk.injEq] at H
   obtain ⟨rfl,rfl,rfl⟩:=H
   obtain ⟨HGz13,hgz13⟩:=HI0.out
   have hcz13_0:=cellS54_0 HGz13
   have hcz13_1:=cellS54_1 HGz13
   have hfz13_0:=blk_frozen HGz13 0
   have hfz13_1:=blk_frozen HGz13 1
   clear HGz13 hgz13
   go_wp2
   go_ret
   exact ⟨oE,oI,oG,oK⟩
  replace c12:=Bool.eq_false_iff.mpr c12
  subst c12
  have H1:(if t103=117 then (rX.l0 kj2 0 t104 (wrap64 (t105+1))) else (some (false,t104,t105)))=some (r1,r2,r3):=by rw [if_neg (show ¬ (false=true) by decide)] at H;exact H
  clear H
  have H:=H1
  clear H1
  by_cases c14:t103=117
  ·
   rw [if_pos c14] at H
   have c14b0:(t103 == 117)=true:=beq_iff_eq.mpr c14
   have c14b1:(t103 != 117)=false:=bne_eq_false_iff_eq.mpr c14
   clear c14
   have H':=Ak H
   clear H
   obtain ⟨HGz15,hgz15⟩:=HI0.out
   have hcz15_0:=cellS54_0 HGz15
   have hcz15_1:=cellS54_1 HGz15
   have hfz15_0:=blk_frozen HGz15 0
   have hfz15_1:=blk_frozen HGz15 1
   clear HGz15 hgz15
   go_wp2
   (try simp only [Act.put,List.setIfInBounds_toArray,List.set_cons_zero,List.set_cons_succ])
   go_loopg [3] kj2 (fun kq v3 w' => ∃ (x3_2:Int) (x1000_2:ByteArray) (x1001_2:Int),v3 = .int .i64 x3_2∧Aside0 (rX.l0 kq x3_2 x1000_2 x1001_2=some (r1,r2,r3))∧Aside0 (kq≤kj2)∧Aside0 (IsS54 w0 w' g x1000_2 x1001_2)∧Aside0 (KeepBut w w' g none)∧Aside0 (Below w0.heap.size w0 w'))
   case atStart=>exact ⟨(0),(t104),(wrap64 (t105+1)),oS,H',⟨Nat.le_refl _⟩,⟨oI⟩,⟨oK⟩,⟨oG⟩⟩
   case round =>
   clear H'
   clear c14b0 c14b1 hcz15_0 hcz15_1 hfz15_0 hfz15_1
   obtain ⟨x3_2,x1000_2,x1001_2,rfl,HA,HK2,HI0,HK,HB⟩:=hrel
   cases gk with
   | zero=>exact absurd HA.out (by simp [rX.l0])
   | succ k2 =>
    have H:=HA.out
    clear HA
    simp only [rX.l0] at H
    by_cases c16:x3_2<4
    rotate_left
    ·
     rw [if_neg c16] at H
     have c16b0:decide (x3_2<4)=false:=decide_eq_false c16
     clear c16
     simp only [Option.some.injEq,Prod.mk.injEq] at H
     obtain ⟨rfl,rfl,rfl⟩:=H
     go_wp2
     go_ret
     exact ⟨oE,oI,oG,oK⟩
    rw [if_pos c16] at H
    have c16b0:decide (x3_2<4)=true:=decide_eq_true c16
    clear c16
    replace H:=Option.bind_eq_some_iff.mp H
    obtain ⟨⟨t106,t107,t108⟩,A170,H⟩:=H
    replace H:((sH.f k2 t106).bind fun bt109=>(if bt109.2=true then (rX.l0 k2 (wrap64 (x3_2+1)) t107 (wrap64 (t108+1))) else (some (false,t107,t108))))=some (r1,r2,r3):=H
    have A17:=Ak A170
    clear A170
    replace H:=Option.bind_eq_some_iff.mp H
    obtain ⟨⟨t109,t110⟩,A180,H⟩:=H
    replace H:(if t110=true then (rX.l0 k2 (wrap64 (x3_2+1)) t107 (wrap64 (t108+1))) else (some (false,t107,t108)))=some (r1,r2,r3):=H
    have A18:=Ak A180
    clear A180
    by_cases c19:t110=true
    ·
     subst c19
     have H1:(rX.l0 k2 (wrap64 (x3_2+1)) t107 (wrap64 (t108+1)))=some (r1,r2,r3):=by rw [if_pos rfl] at H;exact H
     clear H
     have H:=H1
     clear H1
     have H':=Ak H
     clear H
     go_wp2_with (first|((with_reducible refine gate_callee (f:=32) rfl ?_);refine goesL_ (some 39) rfl rfl Try.func32 (by kernel_rfl) rfl #[.pointer (some ⟨g,0,none⟩)] rfl oM ?_;(with_reducible refine (rH.calls g x1000_2 x1001_2 t106 t107 t108 w0 _ ?side1 ?side2 A17.out).mono ?_);(case side1=>exact oI);(case side2=>exact oG);rintro e w20 ⟨rfl,hi,hb,hk⟩;refine ⟨_,rfl,?_⟩;have _:=Ak (KeepBut.trans oK hk (.inl rfl));have _:=Ak (hb);have _:=Ak (hi);clear HK HB HI0;rename_i HK HB HI0;(try clear hb);(try clear hb2);(try clear hk);(try clear hi))|((with_reducible refine gate_callee (f:=42) rfl ?_);refine goesL_ (some 40) rfl rfl Try.func42 (by kernel_rfl) rfl #[.int .u8 t106] rfl oM ?_;(with_reducible refine (sH.calls k2 t106 t109 true _ A18.out).mono ?_);rintro e w' ⟨rfl,⟨nd,rfl⟩⟩;refine ⟨_,rfl,?_⟩;(try (rw [drewN_self w20];generalize hq_:World.drewN w20 _=w20;have n0_:Aside0 (IsS54 w0 w20 g t107 t108):=⟨by rw [← hq_];exact oI⟩;have n1_:Aside0 (KeepBut w w20 g none):=⟨by rw [← hq_];exact oK⟩;have n2_:Aside0 (Below w0.heap.size w0 w20):=⟨by rw [← hq_];exact oG⟩;clear HI0 HK HB hq_;have HI0:=n0_;have HK:=n1_;have HB:=n2_;clear n0_ n1_ n2_));obtain ⟨HGz21,hgz21⟩:=HI0.out;have hcz21_0:=cellS54_0 HGz21;have hcz21_1:=cellS54_1 HGz21;have hfz21_0:=blk_frozen HGz21 0;have hfz21_1:=blk_frozen HGz21 1;clear HGz21 hgz21))
     go_roundg k2
     case measure=>have:=HJ2.out;have:=HK2.out;omega
     case rel=>exact ⟨(wrap64 (x3_2+1)),(t107),(wrap64 (t108+1)),oS,H',⟨by have:=HJ2.out;have:=HK2.out;omega⟩,⟨oI⟩,⟨oK⟩,⟨oG⟩⟩
    replace c19:=Bool.eq_false_iff.mpr c19
    subst c19
    have H1:(some (false,t107,t108))=some (r1,r2,r3):=by rw [if_neg (show ¬ (false=true) by decide)] at H;exact H
    clear H
    have H:=H1
    clear H1
    simp only [Option.some.injEq,Prod.mk.injEq] at H
    obtain ⟨rfl,rfl,rfl⟩:=H
    go_wp2_with (first|((with_reducible refine gate_callee (f:=32) rfl ?_);refine goesL_ (some 39) rfl rfl Try.func32 (by kernel_rfl) rfl #[.pointer (some ⟨g,0,none⟩)] rfl oM ?_;(with_reducible refine (rH.calls g x1000_2 x1001_2 t106 t107 t108 w0 _ ?side1 ?side2 A17.out).mono ?_);(case side1=>exact oI);(case side2=>exact oG);rintro e w22 ⟨rfl,hi,hb,hk⟩;refine ⟨_,rfl,?_⟩;have _:=Ak (KeepBut.trans oK hk (.inl rfl));have _:=Ak (hb);have _:=Ak (hi);clear HK HB HI0;rename_i HK HB HI0;(try clear hb);(try clear hb2);(try clear hk);(try clear hi))|((with_reducible refine gate_callee (f:=42) rfl ?_);refine goesL_ (some 40) rfl rfl Try.func42 (by kernel_rfl) rfl #[.int .u8 t106] rfl oM ?_;(with_reducible refine (sH.calls k2 t106 t109 false _ A18.out).mono ?_);rintro e w' ⟨rfl,⟨nd,rfl⟩⟩;refine ⟨_,rfl,?_⟩))
    go_ret
    exact ⟨oE,oI,oG,oK⟩
  rw [if_neg c14] at H
  have c14b0:(t103 == 117)=false:=beq_eq_false_iff_ne.mpr c14
  have c14b1:(t103 != 117)=true:=bne_iff_ne.mpr c14
  simp only [Option.some.injEq,Prod.mk.injEq] at H
  obtain ⟨rfl,rfl,rfl⟩:=H
  go_wp2
  go_ret
  exact ⟨oE,oI,oG,oK⟩
/-! ### rQ: function 35 -/
def rQ.l0:Nat→ByteArray→Int→Option (Bool × ByteArray × Int)
  | 0,_,_=>none
  | k+1,x1000,x1001=>if x1001<(x1000.size:Int) then (if 0≤x1001 then (if (bt x1000 x1001)=34 then (some (true,x1000,wrap64 (x1001+1))) else (if (bt x1000 x1001)<32 then (some (false,x1000,wrap64 (x1001+1))) else (if (bt x1000 x1001)=92 then ((rX.f k x1000 (wrap64 (x1001+1))).bind fun bt111=>(if bt111.1=true then (rQ.l0 k bt111.2.1 bt111.2.2) else (some (false,bt111.2.1,bt111.2.2)))) else (rQ.l0 k x1000 (wrap64 (x1001+1)))))) else (none)) else (some (false,x1000,x1001))
def rQ.f (k:Nat) (s0_0:ByteArray) (s0_1:Int):Option (Bool × ByteArray × Int):=rQ.l0 k s0_0 (wrap64 (s0_1+1))
theorem rQ.mono_l : ∀ k,(∀ y0 y1,LeO (rQ.l0 k y0 y1) (rQ.l0 (k+1) y0 y1))
  | 0=>fun _ _ r h=>by simp [rQ.l0] at h
  | k+1=>by
    have ih0:=rQ.mono_l k
    · intro y0 y1
      unfold rQ.l0
      repeat' first|(with_reducible first|apply ih0|apply rX.mono|apply LeO.refl|apply LeO.none|refine LeO.ite ?_ ?_|refine LeO.bind ?_ (fun _=>?_))|apply ih0|apply rX.mono|apply LeO.none|refine LeO.ite ?_ ?_|refine LeO.bind ?_ (fun _=>?_)
theorem rQ.mono : ∀ a0 a1 k,LeO (rQ.f k a0 a1) (rQ.f (k+1) a0 a1):=by
 intro a0 a1 k
 have ih0:=rQ.mono_l k
 unfold rQ.f
 repeat' first|(with_reducible first|apply ih0|apply rX.mono|apply LeO.refl|apply LeO.none|refine LeO.ite ?_ ?_|refine LeO.bind ?_ (fun _=>?_))|apply ih0|apply rX.mono|apply LeO.none|refine LeO.ite ?_ ?_|refine LeO.bind ?_ (fun _=>?_)
set_option maxHeartbeats 8000000 in
set_option maxRecDepth 100000 in
theorem rQ.calls (k:Nat) (g:Nat) (s0_0:ByteArray) (s0_1:Int) (r1:Bool) (r2:ByteArray) (r3:Int) (w0 w:World) (hI:IsS54 w0 w g s0_0 s0_1) (hB:Below w0.heap.size w0 w) (h:rQ.f k s0_0 s0_1=some (r1,r2,r3)) :
 Calls Try.prog 35 #[.pointer (some ⟨g,0,none⟩)] w fun e w'=>e = .returned (.bool r1)∧IsS54 w0 w' g r2 r3∧Below w0.heap.size w0 w'∧KeepBut w w' g none:=by
 have HI0:=Ak hI
 have HK:=Ak (KeepBut.refl w g none)
 have HL:=Ak hB.size
 clear hI
 have HW0:=Ak hB.size
 have HB:=Ak hB
 clear hB
 have H:(rQ.l0 k s0_0 (wrap64 (s0_1+1)))=some (r1,r2,r3):=h
 clear h
 have H':=Ak H
 clear H
 obtain ⟨HGz2,hgz2⟩:=HI0.out
 have hcz2_0:=cellS54_0 HGz2
 have hcz2_1:=cellS54_1 HGz2
 have hfz2_0:=blk_frozen HGz2 0
 have hfz2_1:=blk_frozen HGz2 1
 clear HGz2 hgz2
 go_enter Try.func35,Try.ntmps35
 go_wp2
 repeat (go_quiet (fail);try go_wp2)
 (try simp only [Act.put,List.setIfInBounds_toArray,List.set_cons_zero,List.set_cons_succ])
 go_loopg [] k (fun kq w' => ∃ (x1000_1:ByteArray) (x1001_1:Int),Aside0 (rQ.l0 kq x1000_1 x1001_1=some (r1,r2,r3))∧Aside0 (kq≤k)∧Aside0 (IsS54 w0 w' g x1000_1 x1001_1)∧Aside0 (KeepBut w w' g none)∧Aside0 (Below w0.heap.size w0 w'))
 case atStart=>exact ⟨(s0_0),(wrap64 (s0_1+1)),H',⟨Nat.le_refl _⟩,⟨oI⟩,⟨oK⟩,⟨oG⟩⟩
 case round =>
 clear H'
 clear hcz2_0 hcz2_1 hfz2_0 hfz2_1
 obtain ⟨x1000_1,x1001_1,HA,HK1,HI0,HK,HB⟩:=hrel
 cases gk with
 | zero=>exact absurd HA.out (by simp [rQ.l0])
 | succ k1 =>
  have H:=HA.out
  clear HA
  simp only [rQ.l0] at H
  by_cases c3:x1001_1<(x1000_1.size:Int)
  rotate_left
  ·
   rw [if_neg c3] at H
   have c3b0:decide (x1001_1<(x1000_1.size:Int))=false:=decide_eq_false c3
   clear c3
   simp only [Option.some.injEq,Prod.mk.injEq] at H
   obtain ⟨rfl,rfl,rfl⟩:=H
   obtain ⟨HGz18,hgz18⟩:=HI0.out
   have hcz18_0:=cellS54_0 HGz18
   have hcz18_1:=cellS54_1 HGz18
   have hfz18_0:=blk_frozen HGz18 0
   have hfz18_1:=blk_frozen HGz18 1
   clear HGz18 hgz18
   go_wp2
   repeat (go_quiet (fail);try go_wp2)
   go_ret
   exact ⟨oE,oI,oG,oK⟩
  rw [if_pos c3] at H
  have c3b0:decide (x1001_1<(x1000_1.size:Int))=true:=decide_eq_true c3
  clear c3
  by_cases c4:0≤x1001_1
  ·
   rw [if_pos c4] at H
   have c4b0:decide (0≤x1001_1)=true:=decide_eq_true c4
   clear c4
   by_cases c6:(bt x1000_1 x1001_1)=34
   ·
    rw [if_pos c6] at H
    have c6b0:((bt x1000_1 x1001_1) == 34)=true:=beq_iff_eq.mpr c6
    have c6b1:((bt x1000_1 x1001_1) != 34)=false:=bne_eq_false_iff_eq.mpr c6
    clear c6
    simp only [Option.some.injEq,Prod.mk.injEq] at H
    obtain ⟨rfl,rfl,rfl⟩:=H
    obtain ⟨HGz7,hgz7⟩:=HI0.out
    have hcz7_0:=cellS54_0 HGz7
    have hcz7_1:=cellS54_1 HGz7
    have hfz7_0:=blk_frozen HGz7 0
    have hfz7_1:=blk_frozen HGz7 1
    clear HGz7 hgz7
    have p5:0≤(x1001_1:Int):=of_decide_eq_true oA
    have q5:x1001_1<(x1000_1.size:Int):=of_decide_eq_true oA
    have hx5:=bt_at x1000_1 x1001_1
    replace p5:=eq_true p5
    replace q5:=eq_true q5
    go_wp2
    repeat (go_quiet (fail);try go_wp2)
    go_ret
    exact ⟨oE,oI,oG,oK⟩
   rw [if_neg c6] at H
   have c6b0:((bt x1000_1 x1001_1) == 34)=false:=beq_eq_false_iff_ne.mpr c6
   have c6b1:((bt x1000_1 x1001_1) != 34)=true:=bne_iff_ne.mpr c6
   by_cases c8:(bt x1000_1 x1001_1)<32
   ·
    rw [if_pos c8] at H
    have c8b0:decide ((bt x1000_1 x1001_1)<32)=true:=decide_eq_true c8
    clear c8
    simp only [Option.some.injEq,Prod.mk.injEq] at H
    obtain ⟨rfl,rfl,rfl⟩:=H
    obtain ⟨HGz9,hgz9⟩:=HI0.out
    have hcz9_0:=cellS54_0 HGz9
    have hcz9_1:=cellS54_1 HGz9
    have hfz9_0:=blk_frozen HGz9 0
    have hfz9_1:=blk_frozen HGz9 1
    clear HGz9 hgz9
    have p5:0≤(x1001_1:Int):=of_decide_eq_true oA
    have q5:x1001_1<(x1000_1.size:Int):=of_decide_eq_true oA
    have hx5:=bt_at x1000_1 x1001_1
    replace p5:=eq_true p5
    replace q5:=eq_true q5
    go_wp2
    repeat (go_quiet (fail);try go_wp2)
    go_ret
    exact ⟨oE,oI,oG,oK⟩
   rw [if_neg c8] at H
   have c8b0:decide ((bt x1000_1 x1001_1)<32)=false:=decide_eq_false c8
   clear c8
   by_cases c10:(bt x1000_1 x1001_1)=92
   ·
    rw [if_pos c10] at H
    have c10b0:((bt x1000_1 x1001_1) == 92)=true:=beq_iff_eq.mpr c10
    have c10b1:((bt x1000_1 x1001_1) != 92)=false:=bne_eq_false_iff_eq.mpr c10
    clear c10
    replace H:=Option.bind_eq_some_iff.mp H
    obtain ⟨⟨t111,t112,t113⟩,A110,H⟩:=H
    replace H:(if t111=true then (rQ.l0 k1 t112 t113) else (some (false,t112,t113)))=some (r1,r2,r3):=H
    have A11:=Ak A110
    clear A110
    by_cases c12:t111=true
    ·
     subst c12
     have H1:(rQ.l0 k1 t112 t113)=some (r1,r2,r3):=by rw [if_pos rfl] at H;exact H
     clear H
     have H:=H1
     clear H1
     have H':=Ak H
     clear H
     obtain ⟨HGz13,hgz13⟩:=HI0.out
     have hcz13_0:=cellS54_0 HGz13
     have hcz13_1:=cellS54_1 HGz13
     have hfz13_0:=blk_frozen HGz13 0
     have hfz13_1:=blk_frozen HGz13 1
     clear HGz13 hgz13
     have p5:0≤(x1001_1:Int):=of_decide_eq_true oA
     have q5:x1001_1<(x1000_1.size:Int):=of_decide_eq_true oA
     have hx5:=bt_at x1000_1 x1001_1
     replace p5:=eq_true p5
     replace q5:=eq_true q5
     go_wp2_with (first|(go_at_call 44;(with_reducible refine (rX.calls k1 g x1000_1 (wrap64 (x1001_1+1)) true t112 t113 w0 _ ?side1 ?side2 A11.out).mono ?_);(case side1=>exact oI);(case side2=>exact oG);rintro e w14 ⟨rfl,hi,hb,hk⟩;have _:=Ak (KeepBut.trans oK hk (.inl rfl));have _:=Ak (hb);have _:=Ak (hi);clear HK HB HI0;rename_i HK HB HI0;(try clear hb);(try clear hb2);(try clear hk);(try clear hi)))
     repeat (go_quiet (first|(go_at_call 44;(with_reducible refine (rX.calls k1 g x1000_1 (wrap64 (x1001_1+1)) true t112 t113 w0 _ ?side1 ?side2 A11.out).mono ?_);(case side1=>exact oI);(case side2=>exact oG);rintro e w14 ⟨rfl,hi,hb,hk⟩;have _:=Ak (KeepBut.trans oK hk (.inl rfl));have _:=Ak (hb);have _:=Ak (hi);clear HK HB HI0;rename_i HK HB HI0;(try clear hb);(try clear hb2);(try clear hk);(try clear hi)));try go_wp2_with (first|(go_at_call 44;(with_reducible refine (rX.calls k1 g x1000_1 (wrap64 (x1001_1+1)) true t112 t113 w0 _ ?side1 ?side2 A11.out).mono ?_);(case side1=>exact oI);(case side2=>exact oG);rintro e w14 ⟨rfl,hi,hb,hk⟩;have _:=Ak (KeepBut.trans oK hk (.inl rfl));have _:=Ak (hb);have _:=Ak (hi);clear HK HB HI0;rename_i HK HB HI0;(try clear hb);(try clear hb2);(try clear hk);(try clear hi))))
     go_roundg k1
     case measure=>have:=HK1.out;omega
     case rel=>exact ⟨(t112),(t113),H',⟨by have:=HK1.out;omega⟩,⟨oI⟩,⟨oK⟩,⟨oG⟩⟩
    replace c12:=Bool.eq_false_iff.mpr c12
    subst c12
    have H1:(some (false,t112,t113))=some (r1,r2,r3):=by rw [if_neg (show ¬ (false=true) by decide)] at H;exact H
    clear H
    have H:=H1
    clear H1
    simp only [Option.some.injEq,Prod.mk.injEq] at H
    obtain ⟨rfl,rfl,rfl⟩:=H
    obtain ⟨HGz15,hgz15⟩:=HI0.out
    have hcz15_0:=cellS54_0 HGz15
    have hcz15_1:=cellS54_1 HGz15
    have hfz15_0:=blk_frozen HGz15 0
    have hfz15_1:=blk_frozen HGz15 1
    clear HGz15 hgz15
    have p5:0≤(x1001_1:Int):=of_decide_eq_true oA
    have q5:x1001_1<(x1000_1.size:Int):=of_decide_eq_true oA
    have hx5:=bt_at x1000_1 x1001_1
    replace p5:=eq_true p5
    replace q5:=eq_true q5
    go_wp2_with (first|(go_at_call 44;(with_reducible refine (rX.calls k1 g x1000_1 (wrap64 (x1001_1+1)) false t112 t113 w0 _ ?side1 ?side2 A11.out).mono ?_);(case side1=>exact oI);(case side2=>exact oG);rintro e w16 ⟨rfl,hi,hb,hk⟩;have _:=Ak (KeepBut.trans oK hk (.inl rfl));have _:=Ak (hb);have _:=Ak (hi);clear HK HB HI0;rename_i HK HB HI0;(try clear hb);(try clear hb2);(try clear hk);(try clear hi)))
    repeat (go_quiet (first|(go_at_call 44;(with_reducible refine (rX.calls k1 g x1000_1 (wrap64 (x1001_1+1)) false t112 t113 w0 _ ?side1 ?side2 A11.out).mono ?_);(case side1=>exact oI);(case side2=>exact oG);rintro e w16 ⟨rfl,hi,hb,hk⟩;have _:=Ak (KeepBut.trans oK hk (.inl rfl));have _:=Ak (hb);have _:=Ak (hi);clear HK HB HI0;rename_i HK HB HI0;(try clear hb);(try clear hb2);(try clear hk);(try clear hi)));try go_wp2_with (first|(go_at_call 44;(with_reducible refine (rX.calls k1 g x1000_1 (wrap64 (x1001_1+1)) false t112 t113 w0 _ ?side1 ?side2 A11.out).mono ?_);(case side1=>exact oI);(case side2=>exact oG);rintro e w16 ⟨rfl,hi,hb,hk⟩;have _:=Ak (KeepBut.trans oK hk (.inl rfl));have _:=Ak (hb);have _:=Ak (hi);clear HK HB HI0;rename_i HK HB HI0;(try clear hb);(try clear hb2);(try clear hk);(try clear hi))))
    go_ret
    exact ⟨oE,oI,oG,oK⟩
   rw [if_neg c10] at H
   have c10b0:((bt x1000_1 x1001_1) == 92)=false:=beq_eq_false_iff_ne.mpr c10
   have c10b1:((bt x1000_1 x1001_1) != 92)=true:=bne_iff_ne.mpr c10
   have H':=Ak H
   clear H
   obtain ⟨HGz17,hgz17⟩:=HI0.out
   have hcz17_0:=cellS54_0 HGz17
   have hcz17_1:=cellS54_1 HGz17
   have hfz17_0:=blk_frozen HGz17 0
   have hfz17_1:=blk_frozen HGz17 1
   clear HGz17 hgz17
   have p5:0≤(x1001_1:Int):=of_decide_eq_true oA
   have q5:x1001_1<(x1000_1.size:Int):=of_decide_eq_true oA
   have hx5:=bt_at x1000_1 x1001_1
   replace p5:=eq_true p5
   replace q5:=eq_true q5
   go_wp2
   repeat (go_quiet (fail);try go_wp2)
   go_roundg k1
   case measure=>have:=HK1.out;omega
   case rel=>exact ⟨(x1000_1),(wrap64 (x1001_1+1)),H',⟨by have:=HK1.out;omega⟩,⟨oI⟩,⟨oK⟩,⟨oG⟩⟩
  rw [if_neg c4] at H
  exact absurd H (by simp)
/-! ### rT: function 43 -/
def rT.f (s0_0:ByteArray) (s0_1:Int) (a1:Int):Option (Bool × ByteArray × Int):=if s0_1<(s0_0.size:Int) then (if 0≤s0_1 then (if (bt s0_0 s0_1)=a1 then (some (true,s0_0,wrap64 (s0_1+1))) else (some (false,s0_0,s0_1))) else (none)) else (some (false,s0_0,s0_1))
set_option maxHeartbeats 8000000 in
set_option maxRecDepth 100000 in
theorem rT.calls (g:Nat) (s0_0:ByteArray) (s0_1:Int) (a1:Int) (r1:Bool) (r2:ByteArray) (r3:Int) (w0 w:World) (hI:IsS54 w0 w g s0_0 s0_1) (hB:Below w0.heap.size w0 w) (h:rT.f s0_0 s0_1 a1=some (r1,r2,r3)) :
 Calls Try.prog 43 #[.pointer (some ⟨g,0,none⟩), .int .u8 a1] w fun e w'=>e = .returned (.bool r1)∧IsS54 w0 w' g r2 r3∧Below w0.heap.size w0 w'∧KeepBut w w' g none:=by
 have HI0:=Ak hI
 have HK:=Ak (KeepBut.refl w g none)
 have HL:=Ak hB.size
 clear hI
 have HW0:=Ak hB.size
 have HB:=Ak hB
 clear hB
 have H:(if s0_1<(s0_0.size:Int) then (if 0≤s0_1 then (if (bt s0_0 s0_1)=a1 then (some (true,s0_0,wrap64 (s0_1+1))) else (some (false,s0_0,s0_1))) else (none)) else (some (false,s0_0,s0_1)))=some (r1,r2,r3):=h
 clear h
 by_cases c3:s0_1<(s0_0.size:Int)
 rotate_left
 ·
  rw [if_neg c3] at H
  have c3b0:decide (s0_1<(s0_0.size:Int))=false:=decide_eq_false c3
  clear c3
  simp only [Option.some.injEq,Prod.mk.injEq] at H
  obtain ⟨rfl,rfl,rfl⟩:=H
  obtain ⟨HGz9,hgz9⟩:=HI0.out
  have hcz9_0:=cellS54_0 HGz9
  have hcz9_1:=cellS54_1 HGz9
  have hfz9_0:=blk_frozen HGz9 0
  have hfz9_1:=blk_frozen HGz9 1
  clear HGz9 hgz9
  go_enter Try.func43,Try.ntmps43
  go_wp2
  repeat (go_quiet (fail);try go_wp2)
  go_ret
  exact ⟨oE,oI,oG,oK⟩
 rw [if_pos c3] at H
 have c3b0:decide (s0_1<(s0_0.size:Int))=true:=decide_eq_true c3
 clear c3
 by_cases c4:0≤s0_1
 ·
  rw [if_pos c4] at H
  have c4b0:decide (0≤s0_1)=true:=decide_eq_true c4
  clear c4
  by_cases c6:(bt s0_0 s0_1)=a1
  ·
   rw [if_pos c6] at H
   have c6b0:((bt s0_0 s0_1) == a1)=true:=beq_iff_eq.mpr c6
   have c6b1:((bt s0_0 s0_1) != a1)=false:=bne_eq_false_iff_eq.mpr c6
   clear c6
   simp only [Option.some.injEq,Prod.mk.injEq] at H
   obtain ⟨rfl,rfl,rfl⟩:=H
   obtain ⟨HGz7,hgz7⟩:=HI0.out
   have hcz7_0:=cellS54_0 HGz7
   have hcz7_1:=cellS54_1 HGz7
   have hfz7_0:=blk_frozen HGz7 0
   have hfz7_1:=blk_frozen HGz7 1
   clear HGz7 hgz7
   have p5:0≤(s0_1:Int):=of_decide_eq_true oA
   have q5:s0_1<(s0_0.size:Int):=of_decide_eq_true oA
   have hx5:=bt_at s0_0 s0_1
   replace p5:=eq_true p5
   replace q5:=eq_true q5
   go_enter Try.func43,Try.ntmps43
   go_wp2
   repeat (go_quiet (fail);try go_wp2)
   go_ret
   exact ⟨oE,oI,oG,oK⟩
  rw [if_neg c6] at H
  have c6b0:((bt s0_0 s0_1) == a1)=false:=beq_eq_false_iff_ne.mpr c6
  have c6b1:((bt s0_0 s0_1) != a1)=true:=bne_iff_ne.mpr c6
  simp only [Option.some.injEq,Prod.mk.injEq] at H
  obtain ⟨rfl,rfl,rfl⟩:=H
  obtain ⟨HGz8,hgz8⟩:=HI0.out
  have hcz8_0:=cellS54_0 HGz8
  have hcz8_1:=cellS54_1 HGz8
  have hfz8_0:=blk_frozen HGz8 0
  have hfz8_1:=blk_frozen HGz8 1
  clear HGz8 hgz8
  have p5:0≤(s0_1:Int):=of_decide_eq_true oA
  have q5:s0_1<(s0_0.size:Int):=of_decide_eq_true oA
  have hx5:=bt_at s0_0 s0_1
  replace p5:=eq_true p5
  replace q5:=eq_true q5
  go_enter Try.func43,Try.ntmps43
  go_wp2
  repeat (go_quiet (fail);try go_wp2)
  go_ret
  exact ⟨oE,oI,oG,oK⟩
 rw [if_neg c4] at H
 exact absurd H (by simp)
/-! ### rD: function 45 -/
def rD.l0:Nat→Int→Int→ByteArray→Int→Option (Bool × ByteArray × Int)
  | 0,_,_,_,_=>none
  | k+1,x3,x4,x1000,x1001=>if 48≤x4 then (if x4≤57 then ((rH.f x1000 (wrap64 (x1001+1))).bind fun bt117=>(rD.l0 k x3 bt117.1 bt117.2.1 bt117.2.2)) else (some (decide (x1001>x3),x1000,x1001))) else (some (decide (x1001>x3),x1000,x1001))
def rD.f (k:Nat) (s0_0:ByteArray) (s0_1:Int):Option (Bool × ByteArray × Int):=(rH.f s0_0 s0_1).bind fun bt114=>(rD.l0 k s0_1 bt114.1 bt114.2.1 bt114.2.2)
theorem rD.mono_l : ∀ k,(∀ y0 y1 y2 y3,LeO (rD.l0 k y0 y1 y2 y3) (rD.l0 (k+1) y0 y1 y2 y3))
  | 0=>fun _ _ _ _ r h=>by simp [rD.l0] at h
  | k+1=>by
    have ih0:=rD.mono_l k
    · intro y0 y1 y2 y3
      unfold rD.l0
      repeat' first|(with_reducible first|apply ih0|apply LeO.refl|apply LeO.none|refine LeO.ite ?_ ?_|refine LeO.bind ?_ (fun _=>?_))|apply ih0|apply LeO.none|refine LeO.ite ?_ ?_|refine LeO.bind ?_ (fun _=>?_)
theorem rD.mono : ∀ a0 a1 k,LeO (rD.f k a0 a1) (rD.f (k+1) a0 a1):=by
 intro a0 a1 k
 have ih0:=rD.mono_l k
 unfold rD.f
 repeat' first|(with_reducible first|apply ih0|apply LeO.refl|apply LeO.none|refine LeO.ite ?_ ?_|refine LeO.bind ?_ (fun _=>?_))|apply ih0|apply LeO.none|refine LeO.ite ?_ ?_|refine LeO.bind ?_ (fun _=>?_)
set_option maxHeartbeats 8000000 in
set_option maxRecDepth 100000 in
theorem rD.calls (k:Nat) (g:Nat) (s0_0:ByteArray) (s0_1:Int) (r1:Bool) (r2:ByteArray) (r3:Int) (w0 w:World) (hI:IsS54 w0 w g s0_0 s0_1) (hB:Below w0.heap.size w0 w) (h:rD.f k s0_0 s0_1=some (r1,r2,r3)) :
 Calls Try.prog 45 #[.pointer (some ⟨g,0,none⟩)] w fun e w'=>e = .returned (.bool r1)∧IsS54 w0 w' g r2 r3∧Below w0.heap.size w0 w'∧KeepBut w w' g none:=by
 have HI0:=Ak hI
 have HK:=Ak (KeepBut.refl w g none)
 have HL:=Ak hB.size
 clear hI
 have HW0:=Ak hB.size
 have HB:=Ak hB
 clear hB
 have H:((rH.f s0_0 s0_1).bind fun bt114=>(rD.l0 k s0_1 bt114.1 bt114.2.1 bt114.2.2))=some (r1,r2,r3):=h
 clear h
 replace H:=Option.bind_eq_some_iff.mp H
 obtain ⟨⟨t114,t115,t116⟩,A20,H⟩:=H
 replace H:(rD.l0 k s0_1 t114 t115 t116)=some (r1,r2,r3):=H
 have A2:=Ak A20
 clear A20
 have H':=Ak H
 clear H
 obtain ⟨HGz3,hgz3⟩:=HI0.out
 have hcz3_0:=cellS54_0 HGz3
 have hcz3_1:=cellS54_1 HGz3
 have hfz3_0:=blk_frozen HGz3 0
 have hfz3_1:=blk_frozen HGz3 1
 clear HGz3 hgz3
 go_enter Try.func45,Try.ntmps45
 go_wp2_with (first|((with_reducible refine gate_callee (f:=32) rfl ?_);refine goesL_ (some 10) rfl rfl Try.func32 (by kernel_rfl) rfl #[.pointer (some ⟨g,0,none⟩)] rfl oM ?_;(with_reducible refine (rH.calls g s0_0 s0_1 t114 t115 t116 w0 _ ?side1 ?side2 A2.out).mono ?_);(case side1=>exact oI);(case side2=>exact oG);rintro e w4 ⟨rfl,hi,hb,hk⟩;refine ⟨_,rfl,?_⟩;have _:=Ak (KeepBut.trans oK hk (.inl rfl));have _:=Ak (hb);have _:=Ak (hi);clear HK HB HI0;rename_i HK HB HI0;(try clear hb);(try clear hb2);(try clear hk);(try clear hi)))
 (try simp only [Act.put,List.setIfInBounds_toArray,List.set_cons_zero,List.set_cons_succ])
 go_loopg [4] k (fun kq v4 w' => ∃ (x4_1:Int) (x1000_1:ByteArray) (x1001_1:Int),v4 = .int .u8 x4_1∧Aside0 (rD.l0 kq s0_1 x4_1 x1000_1 x1001_1=some (r1,r2,r3))∧Aside0 (kq≤k)∧Aside0 (IsS54 w0 w' g x1000_1 x1001_1)∧Aside0 (KeepBut w w' g none)∧Aside0 (Below w0.heap.size w0 w'))
 case atStart=>exact ⟨(t114),(t115),(t116),oS,H',⟨Nat.le_refl _⟩,⟨oI⟩,⟨oK⟩,⟨oG⟩⟩
 case round =>
 clear H'
 clear hcz3_0 hcz3_1 hfz3_0 hfz3_1
 obtain ⟨x4_1,x1000_1,x1001_1,rfl,HA,HK1,HI0,HK,HB⟩:=hrel
 cases gk with
 | zero=>exact absurd HA.out (by simp [rD.l0])
 | succ k1 =>
  have H:=HA.out
  clear HA
  simp only [rD.l0] at H
  by_cases c5:48≤x4_1
  rotate_left
  ·
   rw [if_neg c5] at H
   have c5b0:decide (48≤x4_1)=false:=decide_eq_false c5
   clear c5
   simp only [Option.some.injEq,Prod.mk.injEq] at H
   obtain ⟨rfl,rfl,rfl⟩:=H
   obtain ⟨HGz11,hgz11⟩:=HI0.out
   have hcz11_0:=cellS54_0 HGz11
   have hcz11_1:=cellS54_1 HGz11
   have hfz11_0:=blk_frozen HGz11 0
   have hfz11_1:=blk_frozen HGz11 1
   clear HGz11 hgz11
   go_wp2
   go_ret
   exact ⟨oE,oI,oG,oK⟩
  rw [if_pos c5] at H
  have c5b0:decide (48≤x4_1)=true:=decide_eq_true c5
  clear c5
  by_cases c6:x4_1≤57
  ·
   rw [if_pos c6] at H
   have c6b0:decide (x4_1≤57)=true:=decide_eq_true c6
   clear c6
   replace H:=Option.bind_eq_some_iff.mp H
   obtain ⟨⟨t117,t118,t119⟩,A70,H⟩:=H
   replace H:(rD.l0 k1 s0_1 t117 t118 t119)=some (r1,r2,r3):=H
   have A7:=Ak A70
   clear A70
   have H':=Ak H
   clear H
   obtain ⟨HGz8,hgz8⟩:=HI0.out
   have hcz8_0:=cellS54_0 HGz8
   have hcz8_1:=cellS54_1 HGz8
   have hfz8_0:=blk_frozen HGz8 0
   have hfz8_1:=blk_frozen HGz8 1
   clear HGz8 hgz8
   go_wp2_with (first|((with_reducible refine gate_callee (f:=32) rfl ?_);refine goesL_ (some 18) rfl rfl Try.func32 (by kernel_rfl) rfl #[.pointer (some ⟨g,0,none⟩)] rfl oM ?_;(with_reducible refine (rH.calls g x1000_1 (wrap64 (x1001_1+1)) t117 t118 t119 w0 _ ?side1 ?side2 A7.out).mono ?_);(case side1=>exact oI);(case side2=>exact oG);rintro e w9 ⟨rfl,hi,hb,hk⟩;refine ⟨_,rfl,?_⟩;have _:=Ak (KeepBut.trans oK hk (.inl rfl));have _:=Ak (hb);have _:=Ak (hi);clear HK HB HI0;rename_i HK HB HI0;(try clear hb);(try clear hb2);(try clear hk);(try clear hi)))
   go_roundg k1
   case measure=>have:=HK1.out;omega
   case rel=>exact ⟨(t117),(t118),(t119),oS,H',⟨by have:=HK1.out;omega⟩,⟨oI⟩,⟨oK⟩,⟨oG⟩⟩
  rw [if_neg c6] at H
  have c6b0:decide (x4_1≤57)=false:=decide_eq_false c6
  clear c6
  simp only [Option.some.injEq,Prod.mk.injEq] at H
  obtain ⟨rfl,rfl,rfl⟩:=H
  obtain ⟨HGz10,hgz10⟩:=HI0.out
  have hcz10_0:=cellS54_0 HGz10
  have hcz10_1:=cellS54_1 HGz10
  have hfz10_0:=blk_frozen HGz10 0
  have hfz10_1:=blk_frozen HGz10 1
  clear HGz10 hgz10
  go_wp2
  go_ret
  exact ⟨oE,oI,oG,oK⟩
end Go.Proofs.Ytbkgoccnegjdhaa.Q

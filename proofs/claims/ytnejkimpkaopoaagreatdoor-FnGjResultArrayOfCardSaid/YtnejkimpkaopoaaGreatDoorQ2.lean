/- Functions of the program as Lean functions, each with a proof that the call comes to what it gives. Written by prx.py (wip/pr). -/
import Derived.Test.YtnejkimpkaopoaaGreatDoorQ0
import Derived.Test.YtnejkimpkaopoaaGreatDoorQ1
namespace Go.Proofs.YtnejkimpkaopoaaGreatDoor.Q
open RowKit YtnejkimpkaopoaaGreatDoorW.PrintWords YtnejkimpkaopoaaGreatDoorW.PrintLast YtnejkimpkaopoaaGreatDoorW.PrintMore
set_option maxHeartbeats 8000000
set_option maxRecDepth 100000
attribute [local go_sem] max2_int min2_int max_two min_two max_three min_three max_four min_four
set_option linter.unusedVariables false
set_option linter.unusedSimpArgs false
/-! ### rQ: function 153 -/
def rQ.l0:Nat→ByteArray→Int→Option (Bool × ByteArray × Int)
  | 0,_,_=>none
  | k+1,x1000,x1001=>if x1001<(x1000.size:Int) then (if 0≤x1001 then (if (bt x1000 x1001)=34 then (some (true,x1000,wrap64 (x1001+1))) else (if (bt x1000 x1001)<32 then (some (false,x1000,wrap64 (x1001+1))) else (if (bt x1000 x1001)=92 then ((rX.f k x1000 (wrap64 (x1001+1))).bind fun bt110=>(if bt110.1=true then (rQ.l0 k bt110.2.1 bt110.2.2) else (some (false,bt110.2.1,bt110.2.2)))) else (rQ.l0 k x1000 (wrap64 (x1001+1)))))) else (none)) else (some (false,x1000,x1001))
def rQ.f (k:Nat) (s0_0:ByteArray) (s0_1:Int):Option (Bool × ByteArray × Int):=rQ.l0 k s0_0 (wrap64 (s0_1+1))
theorem rQ.calls (k:Nat) (g:Nat) (s0_0:ByteArray) (s0_1:Int) (r1:Bool) (r2:ByteArray) (r3:Int) (w0 w:World) (hI:IsS152 w0 w g s0_0 s0_1) (hB:Below w0.heap.size w0 w) (h:rQ.f k s0_0 s0_1=some (r1,r2,r3)) :
 Calls Tryz.prog 153 #[.pointer (some ⟨g,0,none⟩)] w fun e w'=>e = .returned (.bool r1)∧IsS152 w0 w' g r2 r3∧Below w0.heap.size w0 w'∧KeepBut w w' g none:=by
 have HI0:=Ak hI
 have HK:=Ak (KeepBut.refl w g none)
 have HL:=Ak hB.size
 clear hI
 have HW0:=Ak hB.size
 have HB:=Ak hB
 clear hB
 have H:(rQ.l0 k s0_0 (wrap64 (s0_1+1)))=some (r1,r2,r3):=h
 clear h
 have H':=Ak H
 clear H
 obtain ⟨HGz2,hgz2⟩:=HI0.out
 have hcz2_0:=cellS152_0 HGz2
 have hcz2_1:=cellS152_1 HGz2
 have hfz2_0:=blk_frozen HGz2 0
 have hfz2_1:=blk_frozen HGz2 1
 clear HGz2 hgz2
 go_enter Tryz.func153,Tryz.ntmps153
 go_wp2
 repeat (go_quiet (fail);try go_wp2)
 (try simp only [Act.put,List.setIfInBounds_toArray,List.set_cons_zero,List.set_cons_succ])
 go_loopg [] k (fun kq w' => ∃ (x1000_1:ByteArray) (x1001_1:Int),Aside0 (rQ.l0 kq x1000_1 x1001_1=some (r1,r2,r3))∧Aside0 (kq≤k)∧Aside0 (IsS152 w0 w' g x1000_1 x1001_1)∧Aside0 (KeepBut w w' g none)∧Aside0 (Below w0.heap.size w0 w'))
 case atStart=>exact ⟨(s0_0),(wrap64 (s0_1+1)),H',⟨Nat.le_refl _⟩,⟨oI⟩,⟨oK⟩,⟨oG⟩⟩
 case round =>
 clear H'
 try clear c1
 try clear p2
 try clear hcz2_0
 try clear hcz2_1
 try clear hfz2_0
 try clear hfz2_1
 obtain ⟨x1000_1,x1001_1,HA,HK1,HI0,HK,HB⟩:=hrel
 cases gk with
 | zero=>exact absurd HA.out (by simp [rQ.l0])
 | succ k1 =>
  have H:=HA.out
  clear HA
  simp only [rQ.l0] at H
  by_cases c3:x1001_1<(x1000_1.size:Int)
  rotate_left
  ·
   rw [if_neg c3] at H
   have c3b0:decide (x1001_1<(x1000_1.size:Int))=false:=decide_eq_false c3
   clear c3
   simp only [Option.some.injEq,Prod.mk.injEq] at H
   obtain ⟨rfl,rfl,rfl⟩:=H
   obtain ⟨HGz18,hgz18⟩:=HI0.out
   have hcz18_0:=cellS152_0 HGz18
   have hcz18_1:=cellS152_1 HGz18
   have hfz18_0:=blk_frozen HGz18 0
   have hfz18_1:=blk_frozen HGz18 1
   clear HGz18 hgz18
   go_wp2
   repeat (go_quiet (fail);try go_wp2)
   go_ret
   exact ⟨oE,oI,oG,oK⟩
  rw [if_pos c3] at H
  have c3b0:decide (x1001_1<(x1000_1.size:Int))=true:=decide_eq_true c3
  clear c3
  by_cases c4:0≤x1001_1
  ·
   rw [if_pos c4] at H
   have c4b0:decide (0≤x1001_1)=true:=decide_eq_true c4
   clear c4
   by_cases c6:(bt x1000_1 x1001_1)=34
   ·
    rw [if_pos c6] at H
    have c6b0:((bt x1000_1 x1001_1) == 34)=true:=beq_iff_eq.mpr c6
    have c6b1:((bt x1000_1 x1001_1) != 34)=false:=bne_eq_false_iff_eq.mpr c6
    clear c6
    simp only [Option.some.injEq,Prod.mk.injEq] at H
    obtain ⟨rfl,rfl,rfl⟩:=H
    obtain ⟨HGz7,hgz7⟩:=HI0.out
    have hcz7_0:=cellS152_0 HGz7
    have hcz7_1:=cellS152_1 HGz7
    have hfz7_0:=blk_frozen HGz7 0
    have hfz7_1:=blk_frozen HGz7 1
    clear HGz7 hgz7
    have p5:0≤(x1001_1:Int):=of_decide_eq_true oA
    have q5:x1001_1<(x1000_1.size:Int):=of_decide_eq_true oA
    have hx5:=bt_at x1000_1 x1001_1
    replace p5:=eq_true p5
    replace q5:=eq_true q5
    go_wp2
    repeat (go_quiet (fail);try go_wp2)
    go_ret
    exact ⟨oE,oI,oG,oK⟩
   rw [if_neg c6] at H
   have c6b0:((bt x1000_1 x1001_1) == 34)=false:=beq_eq_false_iff_ne.mpr c6
   have c6b1:((bt x1000_1 x1001_1) != 34)=true:=bne_iff_ne.mpr c6
   by_cases c8:(bt x1000_1 x1001_1)<32
   ·
    rw [if_pos c8] at H
    have c8b0:decide ((bt x1000_1 x1001_1)<32)=true:=decide_eq_true c8
    clear c8
    simp only [Option.some.injEq,Prod.mk.injEq] at H
    obtain ⟨rfl,rfl,rfl⟩:=H
    obtain ⟨HGz9,hgz9⟩:=HI0.out
    have hcz9_0:=cellS152_0 HGz9
    have hcz9_1:=cellS152_1 HGz9
    have hfz9_0:=blk_frozen HGz9 0
    have hfz9_1:=blk_frozen HGz9 1
    clear HGz9 hgz9
    have p5:0≤(x1001_1:Int):=of_decide_eq_true oA
    have q5:x1001_1<(x1000_1.size:Int):=of_decide_eq_true oA
    have hx5:=bt_at x1000_1 x1001_1
    replace p5:=eq_true p5
    replace q5:=eq_true q5
    go_wp2
    repeat (go_quiet (fail);try go_wp2)
    go_ret
    exact ⟨oE,oI,oG,oK⟩
   rw [if_neg c8] at H
   have c8b0:decide ((bt x1000_1 x1001_1)<32)=false:=decide_eq_false c8
   clear c8
   by_cases c10:(bt x1000_1 x1001_1)=92
   ·
    rw [if_pos c10] at H
    have c10b0:((bt x1000_1 x1001_1) == 92)=true:=beq_iff_eq.mpr c10
    have c10b1:((bt x1000_1 x1001_1) != 92)=false:=bne_eq_false_iff_eq.mpr c10
    clear c10
    replace H:=Option.bind_eq_some_iff.mp H
    obtain ⟨⟨t110,t111,t112⟩,A110,H⟩:=H
    replace H:(if t110=true then (rQ.l0 k1 t111 t112) else (some (false,t111,t112)))=some (r1,r2,r3):=H
    have A11:=Ak A110
    clear A110
    by_cases c12:t110=true
    ·
     subst c12
     have H1:(rQ.l0 k1 t111 t112)=some (r1,r2,r3):=by rw [if_pos rfl] at H;exact H
     clear H
     have H:=H1
     clear H1
     have H':=Ak H
     clear H
     obtain ⟨HGz13,hgz13⟩:=HI0.out
     have hcz13_0:=cellS152_0 HGz13
     have hcz13_1:=cellS152_1 HGz13
     have hfz13_0:=blk_frozen HGz13 0
     have hfz13_1:=blk_frozen HGz13 1
     clear HGz13 hgz13
     have p5:0≤(x1001_1:Int):=of_decide_eq_true oA
     have q5:x1001_1<(x1000_1.size:Int):=of_decide_eq_true oA
     have hx5:=bt_at x1000_1 x1001_1
     replace p5:=eq_true p5
     replace q5:=eq_true q5
     go_wp2_with (first|(go_at_call 186;(with_reducible refine (rX.calls k1 g x1000_1 (wrap64 (x1001_1+1)) true t111 t112 w0 _ ?side1 ?side2 A11.out).mono ?_);(case side1=>exact oI);(case side2=>exact oG);rintro e w14 ⟨rfl,hi,hb,hk⟩;have _:=Ak (KeepBut.trans oK hk (.inl rfl));have _:=Ak (hb);have _:=Ak (hi);clear HK HB HI0;rename_i HK HB HI0;clear hb hk hi))
     repeat (go_quiet (first|(go_at_call 186;(with_reducible refine (rX.calls k1 g x1000_1 (wrap64 (x1001_1+1)) true t111 t112 w0 _ ?side1 ?side2 A11.out).mono ?_);(case side1=>exact oI);(case side2=>exact oG);rintro e w14 ⟨rfl,hi,hb,hk⟩;have _:=Ak (KeepBut.trans oK hk (.inl rfl));have _:=Ak (hb);have _:=Ak (hi);clear HK HB HI0;rename_i HK HB HI0;clear hb hk hi));try go_wp2_with (first|(go_at_call 186;(with_reducible refine (rX.calls k1 g x1000_1 (wrap64 (x1001_1+1)) true t111 t112 w0 _ ?side1 ?side2 A11.out).mono ?_);(case side1=>exact oI);(case side2=>exact oG);rintro e w14 ⟨rfl,hi,hb,hk⟩;have _:=Ak (KeepBut.trans oK hk (.inl rfl));have _:=Ak (hb);have _:=Ak (hi);clear HK HB HI0;rename_i HK HB HI0;clear hb hk hi)))
     go_roundg k1
     case measure=>have:=HK1.out;omega
     case rel=>exact ⟨(t111),(t112),H',⟨by have:=HK1.out;omega⟩,⟨oI⟩,⟨oK⟩,⟨oG⟩⟩
    replace c12:=Bool.eq_false_iff.mpr c12
    subst c12
    have H1:(some (false,t111,t112))=some (r1,r2,r3):=by rw [if_neg (show ¬ (false=true) by decide)] at H;exact H
    clear H
    have H:=H1
    clear H1
    simp only [Option.some.injEq,Prod.mk.injEq] at H
    obtain ⟨rfl,rfl,rfl⟩:=H
    obtain ⟨HGz15,hgz15⟩:=HI0.out
    have hcz15_0:=cellS152_0 HGz15
    have hcz15_1:=cellS152_1 HGz15
    have hfz15_0:=blk_frozen HGz15 0
    have hfz15_1:=blk_frozen HGz15 1
    clear HGz15 hgz15
    have p5:0≤(x1001_1:Int):=of_decide_eq_true oA
    have q5:x1001_1<(x1000_1.size:Int):=of_decide_eq_true oA
    have hx5:=bt_at x1000_1 x1001_1
    replace p5:=eq_true p5
    replace q5:=eq_true q5
    go_wp2_with (first|(go_at_call 186;(with_reducible refine (rX.calls k1 g x1000_1 (wrap64 (x1001_1+1)) false t111 t112 w0 _ ?side1 ?side2 A11.out).mono ?_);(case side1=>exact oI);(case side2=>exact oG);rintro e w16 ⟨rfl,hi,hb,hk⟩;have _:=Ak (KeepBut.trans oK hk (.inl rfl));have _:=Ak (hb);have _:=Ak (hi);clear HK HB HI0;rename_i HK HB HI0;clear hb hk hi))
    repeat (go_quiet (first|(go_at_call 186;(with_reducible refine (rX.calls k1 g x1000_1 (wrap64 (x1001_1+1)) false t111 t112 w0 _ ?side1 ?side2 A11.out).mono ?_);(case side1=>exact oI);(case side2=>exact oG);rintro e w16 ⟨rfl,hi,hb,hk⟩;have _:=Ak (KeepBut.trans oK hk (.inl rfl));have _:=Ak (hb);have _:=Ak (hi);clear HK HB HI0;rename_i HK HB HI0;clear hb hk hi));try go_wp2_with (first|(go_at_call 186;(with_reducible refine (rX.calls k1 g x1000_1 (wrap64 (x1001_1+1)) false t111 t112 w0 _ ?side1 ?side2 A11.out).mono ?_);(case side1=>exact oI);(case side2=>exact oG);rintro e w16 ⟨rfl,hi,hb,hk⟩;have _:=Ak (KeepBut.trans oK hk (.inl rfl));have _:=Ak (hb);have _:=Ak (hi);clear HK HB HI0;rename_i HK HB HI0;clear hb hk hi)))
    go_ret
    exact ⟨oE,oI,oG,oK⟩
   rw [if_neg c10] at H
   have c10b0:((bt x1000_1 x1001_1) == 92)=false:=beq_eq_false_iff_ne.mpr c10
   have c10b1:((bt x1000_1 x1001_1) != 92)=true:=bne_iff_ne.mpr c10
   have H':=Ak H
   clear H
   obtain ⟨HGz17,hgz17⟩:=HI0.out
   have hcz17_0:=cellS152_0 HGz17
   have hcz17_1:=cellS152_1 HGz17
   have hfz17_0:=blk_frozen HGz17 0
   have hfz17_1:=blk_frozen HGz17 1
   clear HGz17 hgz17
   have p5:0≤(x1001_1:Int):=of_decide_eq_true oA
   have q5:x1001_1<(x1000_1.size:Int):=of_decide_eq_true oA
   have hx5:=bt_at x1000_1 x1001_1
   replace p5:=eq_true p5
   replace q5:=eq_true q5
   go_wp2
   repeat (go_quiet (fail);try go_wp2)
   go_roundg k1
   case measure=>have:=HK1.out;omega
   case rel=>exact ⟨(x1000_1),(wrap64 (x1001_1+1)),H',⟨by have:=HK1.out;omega⟩,⟨oI⟩,⟨oK⟩,⟨oG⟩⟩
  rw [if_neg c4] at H
  exact absurd H (by simp)
/-! ### rT: function 185 -/
def rT.f (s0_0:ByteArray) (s0_1:Int) (a1:Int):Option (Bool × ByteArray × Int):=if s0_1<(s0_0.size:Int) then (if 0≤s0_1 then (if (bt s0_0 s0_1)=a1 then (some (true,s0_0,wrap64 (s0_1+1))) else (some (false,s0_0,s0_1))) else (none)) else (some (false,s0_0,s0_1))
theorem rT.calls (g:Nat) (s0_0:ByteArray) (s0_1:Int) (a1:Int) (r1:Bool) (r2:ByteArray) (r3:Int) (w0 w:World) (hI:IsS152 w0 w g s0_0 s0_1) (hB:Below w0.heap.size w0 w) (h:rT.f s0_0 s0_1 a1=some (r1,r2,r3)) :
 Calls Tryz.prog 185 #[.pointer (some ⟨g,0,none⟩), .int .u8 a1] w fun e w'=>e = .returned (.bool r1)∧IsS152 w0 w' g r2 r3∧Below w0.heap.size w0 w'∧KeepBut w w' g none:=by
 have HI0:=Ak hI
 have HK:=Ak (KeepBut.refl w g none)
 have HL:=Ak hB.size
 clear hI
 have HW0:=Ak hB.size
 have HB:=Ak hB
 clear hB
 have H:(if s0_1<(s0_0.size:Int) then (if 0≤s0_1 then (if (bt s0_0 s0_1)=a1 then (some (true,s0_0,wrap64 (s0_1+1))) else (some (false,s0_0,s0_1))) else (none)) else (some (false,s0_0,s0_1)))=some (r1,r2,r3):=h
 clear h
 by_cases c3:s0_1<(s0_0.size:Int)
 rotate_left
 ·
  rw [if_neg c3] at H
  have c3b0:decide (s0_1<(s0_0.size:Int))=false:=decide_eq_false c3
  clear c3
  simp only [Option.some.injEq,Prod.mk.injEq] at H
  obtain ⟨rfl,rfl,rfl⟩:=H
  obtain ⟨HGz9,hgz9⟩:=HI0.out
  have hcz9_0:=cellS152_0 HGz9
  have hcz9_1:=cellS152_1 HGz9
  have hfz9_0:=blk_frozen HGz9 0
  have hfz9_1:=blk_frozen HGz9 1
  clear HGz9 hgz9
  go_enter Tryz.func185,Tryz.ntmps185
  go_wp2
  repeat (go_quiet (fail);try go_wp2)
  go_ret
  exact ⟨oE,oI,oG,oK⟩
 rw [if_pos c3] at H
 have c3b0:decide (s0_1<(s0_0.size:Int))=true:=decide_eq_true c3
 clear c3
 by_cases c4:0≤s0_1
 ·
  rw [if_pos c4] at H
  have c4b0:decide (0≤s0_1)=true:=decide_eq_true c4
  clear c4
  by_cases c6:(bt s0_0 s0_1)=a1
  ·
   rw [if_pos c6] at H
   have c6b0:((bt s0_0 s0_1) == a1)=true:=beq_iff_eq.mpr c6
   have c6b1:((bt s0_0 s0_1) != a1)=false:=bne_eq_false_iff_eq.mpr c6
   clear c6
   simp only [Option.some.injEq,Prod.mk.injEq] at H
   obtain ⟨rfl,rfl,rfl⟩:=H
   obtain ⟨HGz7,hgz7⟩:=HI0.out
   have hcz7_0:=cellS152_0 HGz7
   have hcz7_1:=cellS152_1 HGz7
   have hfz7_0:=blk_frozen HGz7 0
   have hfz7_1:=blk_frozen HGz7 1
   clear HGz7 hgz7
   have p5:0≤(s0_1:Int):=of_decide_eq_true oA
   have q5:s0_1<(s0_0.size:Int):=of_decide_eq_true oA
   have hx5:=bt_at s0_0 s0_1
   replace p5:=eq_true p5
   replace q5:=eq_true q5
   go_enter Tryz.func185,Tryz.ntmps185
   go_wp2
   repeat (go_quiet (fail);try go_wp2)
   go_ret
   exact ⟨oE,oI,oG,oK⟩
  rw [if_neg c6] at H
  have c6b0:((bt s0_0 s0_1) == a1)=false:=beq_eq_false_iff_ne.mpr c6
  have c6b1:((bt s0_0 s0_1) != a1)=true:=bne_iff_ne.mpr c6
  simp only [Option.some.injEq,Prod.mk.injEq] at H
  obtain ⟨rfl,rfl,rfl⟩:=H
  obtain ⟨HGz8,hgz8⟩:=HI0.out
  have hcz8_0:=cellS152_0 HGz8
  have hcz8_1:=cellS152_1 HGz8
  have hfz8_0:=blk_frozen HGz8 0
  have hfz8_1:=blk_frozen HGz8 1
  clear HGz8 hgz8
  have p5:0≤(s0_1:Int):=of_decide_eq_true oA
  have q5:s0_1<(s0_0.size:Int):=of_decide_eq_true oA
  have hx5:=bt_at s0_0 s0_1
  replace p5:=eq_true p5
  replace q5:=eq_true q5
  go_enter Tryz.func185,Tryz.ntmps185
  go_wp2
  repeat (go_quiet (fail);try go_wp2)
  go_ret
  exact ⟨oE,oI,oG,oK⟩
 rw [if_neg c4] at H
 exact absurd H (by simp)
/-! ### rD: function 187 -/
def rD.l0:Nat→Int→Int→ByteArray→Int→Option (Bool × ByteArray × Int)
  | 0,_,_,_,_=>none
  | k+1,x3,x4,x1000,x1001=>if 48≤x4 then (if x4≤57 then ((rH.f x1000 (wrap64 (x1001+1))).bind fun bt116=>(rD.l0 k x3 bt116.1 bt116.2.1 bt116.2.2)) else (some (decide (x1001>x3),x1000,x1001))) else (some (decide (x1001>x3),x1000,x1001))
def rD.f (k:Nat) (s0_0:ByteArray) (s0_1:Int):Option (Bool × ByteArray × Int):=(rH.f s0_0 s0_1).bind fun bt113=>(rD.l0 k s0_1 bt113.1 bt113.2.1 bt113.2.2)
theorem rD.calls (k:Nat) (g:Nat) (s0_0:ByteArray) (s0_1:Int) (r1:Bool) (r2:ByteArray) (r3:Int) (w0 w:World) (hI:IsS152 w0 w g s0_0 s0_1) (hB:Below w0.heap.size w0 w) (h:rD.f k s0_0 s0_1=some (r1,r2,r3)) :
 Calls Tryz.prog 187 #[.pointer (some ⟨g,0,none⟩)] w fun e w'=>e = .returned (.bool r1)∧IsS152 w0 w' g r2 r3∧Below w0.heap.size w0 w'∧KeepBut w w' g none:=by
 have HI0:=Ak hI
 have HK:=Ak (KeepBut.refl w g none)
 have HL:=Ak hB.size
 clear hI
 have HW0:=Ak hB.size
 have HB:=Ak hB
 clear hB
 have H:((rH.f s0_0 s0_1).bind fun bt113=>(rD.l0 k s0_1 bt113.1 bt113.2.1 bt113.2.2))=some (r1,r2,r3):=h
 clear h
 replace H:=Option.bind_eq_some_iff.mp H
 obtain ⟨⟨t113,t114,t115⟩,A20,H⟩:=H
 replace H:(rD.l0 k s0_1 t113 t114 t115)=some (r1,r2,r3):=H
 have A2:=Ak A20
 clear A20
 have H':=Ak H
 clear H
 obtain ⟨HGz3,hgz3⟩:=HI0.out
 have hcz3_0:=cellS152_0 HGz3
 have hcz3_1:=cellS152_1 HGz3
 have hfz3_0:=blk_frozen HGz3 0
 have hfz3_1:=blk_frozen HGz3 1
 clear HGz3 hgz3
 go_enter Tryz.func187,Tryz.ntmps187
 go_wp2_with (first|((with_reducible refine gate_callee (f:=150) rfl ?_);refine goesL_ (some 10) rfl rfl Tryz.func150 (by kernel_rfl) rfl #[.pointer (some ⟨g,0,none⟩)] rfl oM ?_;(with_reducible refine (rH.calls g s0_0 s0_1 t113 t114 t115 w0 _ ?side1 ?side2 A2.out).mono ?_);(case side1=>exact oI);(case side2=>exact oG);rintro e w4 ⟨rfl,hi,hb,hk⟩;refine ⟨_,rfl,?_⟩;have _:=Ak (KeepBut.trans oK hk (.inl rfl));have _:=Ak (hb);have _:=Ak (hi);clear HK HB HI0;rename_i HK HB HI0;clear hb hk hi))
 (try simp only [Act.put,List.setIfInBounds_toArray,List.set_cons_zero,List.set_cons_succ])
 go_loopg [4] k (fun kq v4 w' => ∃ (x4_1:Int) (x1000_1:ByteArray) (x1001_1:Int),v4 = .int .u8 x4_1∧Aside0 (rD.l0 kq s0_1 x4_1 x1000_1 x1001_1=some (r1,r2,r3))∧Aside0 (kq≤k)∧Aside0 (IsS152 w0 w' g x1000_1 x1001_1)∧Aside0 (KeepBut w w' g none)∧Aside0 (Below w0.heap.size w0 w'))
 case atStart=>exact ⟨(t113),(t114),(t115),oS,H',⟨Nat.le_refl _⟩,⟨oI⟩,⟨oK⟩,⟨oG⟩⟩
 case round =>
 clear H'
 try clear c1
 try clear p2
 try clear hcz3_0
 try clear hcz3_1
 try clear hfz3_0
 try clear hfz3_1
 obtain ⟨x4_1,x1000_1,x1001_1,rfl,HA,HK1,HI0,HK,HB⟩:=hrel
 cases gk with
 | zero=>exact absurd HA.out (by simp [rD.l0])
 | succ k1 =>
  have H:=HA.out
  clear HA
  simp only [rD.l0] at H
  by_cases c5:48≤x4_1
  rotate_left
  ·
   rw [if_neg c5] at H
   have c5b0:decide (48≤x4_1)=false:=decide_eq_false c5
   clear c5
   simp only [Option.some.injEq,Prod.mk.injEq] at H
   obtain ⟨rfl,rfl,rfl⟩:=H
   obtain ⟨HGz11,hgz11⟩:=HI0.out
   have hcz11_0:=cellS152_0 HGz11
   have hcz11_1:=cellS152_1 HGz11
   have hfz11_0:=blk_frozen HGz11 0
   have hfz11_1:=blk_frozen HGz11 1
   clear HGz11 hgz11
   go_wp2
   go_ret
   exact ⟨oE,oI,oG,oK⟩
  rw [if_pos c5] at H
  have c5b0:decide (48≤x4_1)=true:=decide_eq_true c5
  clear c5
  by_cases c6:x4_1≤57
  ·
   rw [if_pos c6] at H
   have c6b0:decide (x4_1≤57)=true:=decide_eq_true c6
   clear c6
   replace H:=Option.bind_eq_some_iff.mp H
   obtain ⟨⟨t116,t117,t118⟩,A70,H⟩:=H
   replace H:(rD.l0 k1 s0_1 t116 t117 t118)=some (r1,r2,r3):=H
   have A7:=Ak A70
   clear A70
   have H':=Ak H
   clear H
   obtain ⟨HGz8,hgz8⟩:=HI0.out
   have hcz8_0:=cellS152_0 HGz8
   have hcz8_1:=cellS152_1 HGz8
   have hfz8_0:=blk_frozen HGz8 0
   have hfz8_1:=blk_frozen HGz8 1
   clear HGz8 hgz8
   go_wp2_with (first|((with_reducible refine gate_callee (f:=150) rfl ?_);refine goesL_ (some 18) rfl rfl Tryz.func150 (by kernel_rfl) rfl #[.pointer (some ⟨g,0,none⟩)] rfl oM ?_;(with_reducible refine (rH.calls g x1000_1 (wrap64 (x1001_1+1)) t116 t117 t118 w0 _ ?side1 ?side2 A7.out).mono ?_);(case side1=>exact oI);(case side2=>exact oG);rintro e w9 ⟨rfl,hi,hb,hk⟩;refine ⟨_,rfl,?_⟩;have _:=Ak (KeepBut.trans oK hk (.inl rfl));have _:=Ak (hb);have _:=Ak (hi);clear HK HB HI0;rename_i HK HB HI0;clear hb hk hi))
   go_roundg k1
   case measure=>have:=HK1.out;omega
   case rel=>exact ⟨(t116),(t117),(t118),oS,H',⟨by have:=HK1.out;omega⟩,⟨oI⟩,⟨oK⟩,⟨oG⟩⟩
  rw [if_neg c6] at H
  have c6b0:decide (x4_1≤57)=false:=decide_eq_false c6
  clear c6
  simp only [Option.some.injEq,Prod.mk.injEq] at H
  obtain ⟨rfl,rfl,rfl⟩:=H
  obtain ⟨HGz10,hgz10⟩:=HI0.out
  have hcz10_0:=cellS152_0 HGz10
  have hcz10_1:=cellS152_1 HGz10
  have hfz10_0:=blk_frozen HGz10 0
  have hfz10_1:=blk_frozen HGz10 1
  clear HGz10 hgz10
  go_wp2
  go_ret
  exact ⟨oE,oI,oG,oK⟩
/-! ### rN: function 154 -/
mutual
def rN.j0:Nat→Bool→ByteArray→Int→Option (Bool × ByteArray × Int)
  | 0,_,_,_=>none
  | k+1,x12,x1000,x1001=>if x12=true then (some (false,x1000,x1001)) else ((rT.f x1000 x1001 46).bind fun bt128=>(if bt128.1=true then ((rD.f k bt128.2.1 bt128.2.2).bind fun bt131=>(rN.j1 k (!bt131.1) bt131.2.1 bt131.2.2)) else (rN.j1 k false bt128.2.1 bt128.2.2)))
def rN.j1:Nat→Bool→ByteArray→Int→Option (Bool × ByteArray × Int)
  | 0,_,_,_=>none
  | k+1,x19,x1000,x1001=>if x19=true then (some (false,x1000,x1001)) else ((rT.f x1000 x1001 101).bind fun bt134=>(if bt134.1=true then (rN.j2 k true bt134.2.1 bt134.2.2) else ((rT.f bt134.2.1 bt134.2.2 69).bind fun bt137=>(rN.j2 k bt137.1 bt137.2.1 bt137.2.2))))
def rN.j2:Nat→Bool→ByteArray→Int→Option (Bool × ByteArray × Int)
  | 0,_,_,_=>none
  | k+1,x25,x1000,x1001=>if x25=true then ((rT.f x1000 x1001 43).bind fun bt140=>(if bt140.1=true then ((rD.f k bt140.2.1 bt140.2.2).bind fun bt143=>(some (bt143.1,bt143.2.1,bt143.2.2))) else ((rT.f bt140.2.1 bt140.2.2 45).bind fun bt146=>((rD.f k bt146.2.1 bt146.2.2).bind fun bt149=>(some (bt149.1,bt149.2.1,bt149.2.2)))))) else (some (true,x1000,x1001))
end
def rN.f (k:Nat) (s0_0:ByteArray) (s0_1:Int):Option (Bool × ByteArray × Int):=(rT.f s0_0 s0_1 45).bind fun bt119=>((rT.f bt119.2.1 bt119.2.2 48).bind fun bt122=>(if bt122.1=true then (rN.j0 k false bt122.2.1 bt122.2.2) else ((rD.f k bt122.2.1 bt122.2.2).bind fun bt125=>(rN.j0 k (!bt125.1) bt125.2.1 bt125.2.2))))
theorem rN.calls (k:Nat) (g:Nat) (s0_0:ByteArray) (s0_1:Int) (r1:Bool) (r2:ByteArray) (r3:Int) (w0 w:World) (hI:IsS152 w0 w g s0_0 s0_1) (hB:Below w0.heap.size w0 w) (h:rN.f k s0_0 s0_1=some (r1,r2,r3)) :
 Calls Tryz.prog 154 #[.pointer (some ⟨g,0,none⟩)] w fun e w'=>e = .returned (.bool r1)∧IsS152 w0 w' g r2 r3∧Below w0.heap.size w0 w'∧KeepBut w w' g none:=by
 have HI0:=Ak hI
 have HK:=Ak (KeepBut.refl w g none)
 have HL:=Ak hB.size
 clear hI
 have HW0:=Ak hB.size
 have HB:=Ak hB
 clear hB
 have H:((rT.f s0_0 s0_1 45).bind fun bt119=>((rT.f bt119.2.1 bt119.2.2 48).bind fun bt122=>(if bt122.1=true then (rN.j0 k false bt122.2.1 bt122.2.2) else ((rD.f k bt122.2.1 bt122.2.2).bind fun bt125=>(rN.j0 k (!bt125.1) bt125.2.1 bt125.2.2)))))=some (r1,r2,r3):=h
 clear h
 replace H:=Option.bind_eq_some_iff.mp H
 obtain ⟨⟨t119,t120,t121⟩,A20,H⟩:=H
 replace H:((rT.f t120 t121 48).bind fun bt122=>(if bt122.1=true then (rN.j0 k false bt122.2.1 bt122.2.2) else ((rD.f k bt122.2.1 bt122.2.2).bind fun bt125=>(rN.j0 k (!bt125.1) bt125.2.1 bt125.2.2))))=some (r1,r2,r3):=H
 have A2:=Ak A20
 clear A20
 have HC3:=Ak H
 clear H
 go_enter Tryz.func154,Tryz.ntmps154
 go_upto_region 2 with (first|((with_reducible refine gate_callee (f:=185) rfl ?_);refine goesL_ (some 4) rfl rfl Tryz.func185 (by kernel_rfl) rfl #[.pointer (some ⟨g,0,none⟩), .int .u8 45] rfl oM ?_;(with_reducible refine (rT.calls g s0_0 s0_1 45 t119 t120 t121 w0 _ ?side1 ?side2 A2.out).mono ?_);(case side1=>exact oI);(case side2=>exact oG);rintro e w4 ⟨rfl,hi,hb,hk⟩;refine ⟨_,rfl,?_⟩;have _:=Ak (KeepBut.trans oK hk (.inl rfl));have _:=Ak (hb);have _:=Ak (hi);clear HK HB HI0;rename_i HK HB HI0;clear hb hk hi))
 (try simp only [Act.put,List.setIfInBounds_toArray,List.set_cons_zero,List.set_cons_succ])
 go_cut [12] (fun v12 wc => ∃ (kq:Nat) (x12_2:Bool) (x1000_2:ByteArray) (x1001_2:Int),v12 = .bool x12_2∧Aside0 (rN.j0 kq x12_2 x1000_2 x1001_2=some (r1,r2,r3))∧Aside0 (kq≤k)∧Aside0 (IsS152 w0 wc g x1000_2 x1001_2)∧Aside0 (KeepBut w wc g none)∧Aside0 (Below w0.heap.size w0 wc))
 case first =>
  have H:=HC3.out
  clear HC3
  replace H:=Option.bind_eq_some_iff.mp H
  obtain ⟨⟨t122,t123,t124⟩,A50,H⟩:=H
  replace H:(if t122=true then (rN.j0 k false t123 t124) else ((rD.f k t123 t124).bind fun bt125=>(rN.j0 k (!bt125.1) bt125.2.1 bt125.2.2)))=some (r1,r2,r3):=H
  have A5:=Ak A50
  clear A50
  by_cases c6:t122=true
  ·
   subst c6
   have H1:(rN.j0 k false t123 t124)=some (r1,r2,r3):=by rw [if_pos rfl] at H;exact H
   clear H
   have H:=H1
   clear H1
   have H':=Ak H
   clear H
   go_wp2_with (first|((with_reducible refine gate_callee (f:=185) rfl ?_);refine goesL_ (some 6) rfl rfl Tryz.func185 (by kernel_rfl) rfl #[.pointer (some ⟨g,0,none⟩), .int .u8 48] rfl oM ?_;(with_reducible refine (rT.calls g t120 t121 48 true t123 t124 w0 _ ?side1 ?side2 A5.out).mono ?_);(case side1=>exact oI);(case side2=>exact oG);rintro e w7 ⟨rfl,hi,hb,hk⟩;refine ⟨_,rfl,?_⟩;have _:=Ak (KeepBut.trans oK hk (.inl rfl));have _:=Ak (hb);have _:=Ak (hi);clear HK HB HI0;rename_i HK HB HI0;clear hb hk hi))
   go_meet
   case rel=>exact ⟨_,(false),(t123),(t124),oS,H',⟨by first|omega|exact Nat.le_refl _⟩,⟨oI⟩,⟨oK⟩,⟨oG⟩⟩
  replace c6:=Bool.eq_false_iff.mpr c6
  subst c6
  have H1:((rD.f k t123 t124).bind fun bt125=>(rN.j0 k (!bt125.1) bt125.2.1 bt125.2.2))=some (r1,r2,r3):=by rw [if_neg (show ¬ (false=true) by decide)] at H;exact H
  clear H
  have H:=H1
  clear H1
  replace H:=Option.bind_eq_some_iff.mp H
  obtain ⟨⟨t125,t126,t127⟩,A80,H⟩:=H
  replace H:(rN.j0 k (!t125) t126 t127)=some (r1,r2,r3):=H
  have A8:=Ak A80
  clear A80
  have H':=Ak H
  clear H
  go_wp2_with (first|((with_reducible refine gate_callee (f:=185) rfl ?_);refine goesL_ (some 6) rfl rfl Tryz.func185 (by kernel_rfl) rfl #[.pointer (some ⟨g,0,none⟩), .int .u8 48] rfl oM ?_;(with_reducible refine (rT.calls g t120 t121 48 false t123 t124 w0 _ ?side1 ?side2 A5.out).mono ?_);(case side1=>exact oI);(case side2=>exact oG);rintro e w9 ⟨rfl,hi,hb,hk⟩;refine ⟨_,rfl,?_⟩;have _:=Ak (KeepBut.trans oK hk (.inl rfl));have _:=Ak (hb);have _:=Ak (hi);clear HK HB HI0;rename_i HK HB HI0;clear hb hk hi)|(go_at_call 187;(with_reducible refine (rD.calls k g t123 t124 t125 t126 t127 w0 _ ?side1 ?side2 A8.out).mono ?_);(case side1=>exact oI);(case side2=>exact oG);rintro e w10 ⟨rfl,hi,hb,hk⟩;have _:=Ak (KeepBut.trans oK hk (.inl rfl));have _:=Ak (hb);have _:=Ak (hi);clear HK HB HI0;rename_i HK HB HI0;clear hb hk hi))
  go_meet
  case rel=>exact ⟨_,(!t125),(t126),(t127),oS,H',⟨by first|omega|exact Nat.le_refl _⟩,⟨oI⟩,⟨oK⟩,⟨oG⟩⟩
 case rest =>
 clear HC3
 try clear c1
 try clear p2
 try clear c6
 obtain ⟨kq,x12_2,x1000_2,x1001_2,rfl,HA,HJ2,HI0,HK,HB⟩:=hcut
 cases kq with
 | zero=>exact absurd HA.out (by simp [rN.j0])
 | succ kj2 =>
  have H:=HA.out
  clear HA
  simp only [rN.j0] at H
  by_cases c11:x12_2=true
  ·
   subst c11
   have H1:(some (false,x1000_2,x1001_2))=some (r1,r2,r3):=by rw [if_pos rfl] at H;exact H
   clear H
   have H:=H1
   clear H1
   simp only [Option.some.injEq,Prod.mk.injEq] at H
   obtain ⟨rfl,rfl,rfl⟩:=H
   go_wp2
   go_ret
   exact ⟨oE,oI,oG,oK⟩
  replace c11:=Bool.eq_false_iff.mpr c11
  subst c11
  have H1:((rT.f x1000_2 x1001_2 46).bind fun bt128=>(if bt128.1=true then ((rD.f kj2 bt128.2.1 bt128.2.2).bind fun bt131=>(rN.j1 kj2 (!bt131.1) bt131.2.1 bt131.2.2)) else (rN.j1 kj2 false bt128.2.1 bt128.2.2)))=some (r1,r2,r3):=by rw [if_neg (show ¬ (false=true) by decide)] at H;exact H
  clear H
  have H:=H1
  clear H1
  have HC12:=Ak H
  clear H
  go_upto_region 4 with (fail)
  go_cut [19] (fun v19 wc => ∃ (kq:Nat) (x19_11:Bool) (x1000_11:ByteArray) (x1001_11:Int),v19 = .bool x19_11∧Aside0 (rN.j1 kq x19_11 x1000_11 x1001_11=some (r1,r2,r3))∧Aside0 (kq≤kj2)∧Aside0 (IsS152 w0 wc g x1000_11 x1001_11)∧Aside0 (KeepBut w wc g none)∧Aside0 (Below w0.heap.size w0 wc))
  case first =>
   have H:=HC12.out
   clear HC12
   replace H:=Option.bind_eq_some_iff.mp H
   obtain ⟨⟨t128,t129,t130⟩,A130,H⟩:=H
   replace H:(if t128=true then ((rD.f kj2 t129 t130).bind fun bt131=>(rN.j1 kj2 (!bt131.1) bt131.2.1 bt131.2.2)) else (rN.j1 kj2 false t129 t130))=some (r1,r2,r3):=H
   have A13:=Ak A130
   clear A130
   by_cases c14:t128=true
   rotate_left
   ·
    replace c14:=Bool.eq_false_iff.mpr c14
    subst c14
    have H1:(rN.j1 kj2 false t129 t130)=some (r1,r2,r3):=by rw [if_neg (show ¬ (false=true) by decide)] at H;exact H
    clear H
    have H:=H1
    clear H1
    have H':=Ak H
    clear H
    go_wp2_with (first|((with_reducible refine gate_callee (f:=185) rfl ?_);refine goesL_ (some 14) rfl rfl Tryz.func185 (by kernel_rfl) rfl #[.pointer (some ⟨g,0,none⟩), .int .u8 46] rfl oM ?_;(with_reducible refine (rT.calls g x1000_2 x1001_2 46 false t129 t130 w0 _ ?side1 ?side2 A13.out).mono ?_);(case side1=>exact oI);(case side2=>exact oG);rintro e w18 ⟨rfl,hi,hb,hk⟩;refine ⟨_,rfl,?_⟩;have _:=Ak (KeepBut.trans oK hk (.inl rfl));have _:=Ak (hb);have _:=Ak (hi);clear HK HB HI0;rename_i HK HB HI0;clear hb hk hi))
    go_meet
    case rel=>exact ⟨_,(false),(t129),(t130),oS,H',⟨by have:=HJ2.out;first|omega|exact Nat.le_refl _⟩,⟨oI⟩,⟨oK⟩,⟨oG⟩⟩
   subst c14
   have H1:((rD.f kj2 t129 t130).bind fun bt131=>(rN.j1 kj2 (!bt131.1) bt131.2.1 bt131.2.2))=some (r1,r2,r3):=by rw [if_pos rfl] at H;exact H
   clear H
   have H:=H1
   clear H1
   replace H:=Option.bind_eq_some_iff.mp H
   obtain ⟨⟨t131,t132,t133⟩,A150,H⟩:=H
   replace H:(rN.j1 kj2 (!t131) t132 t133)=some (r1,r2,r3):=H
   have A15:=Ak A150
   clear A150
   have H':=Ak H
   clear H
   go_wp2_with (first|((with_reducible refine gate_callee (f:=185) rfl ?_);refine goesL_ (some 14) rfl rfl Tryz.func185 (by kernel_rfl) rfl #[.pointer (some ⟨g,0,none⟩), .int .u8 46] rfl oM ?_;(with_reducible refine (rT.calls g x1000_2 x1001_2 46 true t129 t130 w0 _ ?side1 ?side2 A13.out).mono ?_);(case side1=>exact oI);(case side2=>exact oG);rintro e w16 ⟨rfl,hi,hb,hk⟩;refine ⟨_,rfl,?_⟩;have _:=Ak (KeepBut.trans oK hk (.inl rfl));have _:=Ak (hb);have _:=Ak (hi);clear HK HB HI0;rename_i HK HB HI0;clear hb hk hi)|(go_at_call 187;(with_reducible refine (rD.calls kj2 g t129 t130 t131 t132 t133 w0 _ ?side1 ?side2 A15.out).mono ?_);(case side1=>exact oI);(case side2=>exact oG);rintro e w17 ⟨rfl,hi,hb,hk⟩;have _:=Ak (KeepBut.trans oK hk (.inl rfl));have _:=Ak (hb);have _:=Ak (hi);clear HK HB HI0;rename_i HK HB HI0;clear hb hk hi))
   go_meet
   case rel=>exact ⟨_,(!t131),(t132),(t133),oS,H',⟨by have:=HJ2.out;first|omega|exact Nat.le_refl _⟩,⟨oI⟩,⟨oK⟩,⟨oG⟩⟩
  case rest =>
  clear HC12
  try clear c1
  try clear p2
  try clear c6
  try clear c11
  try clear c14
  try clear c15
  try clear c18
  try clear p2
  obtain ⟨kq,x19_11,x1000_11,x1001_11,rfl,HA,HJ11,HI0,HK,HB⟩:=hcut
  cases kq with
  | zero=>exact absurd HA.out (by simp [rN.j1])
  | succ kj11 =>
   have H:=HA.out
   clear HA
   simp only [rN.j1] at H
   by_cases c19:x19_11=true
   ·
    subst c19
    have H1:(some (false,x1000_11,x1001_11))=some (r1,r2,r3):=by rw [if_pos rfl] at H;exact H
    clear H
    have H:=H1
    clear H1
    simp only [Option.some.injEq,Prod.mk.injEq] at H
    obtain ⟨rfl,rfl,rfl⟩:=H
    go_wp2
    go_ret
    exact ⟨oE,oI,oG,oK⟩
   replace c19:=Bool.eq_false_iff.mpr c19
   subst c19
   have H1:((rT.f x1000_11 x1001_11 101).bind fun bt134=>(if bt134.1=true then (rN.j2 kj11 true bt134.2.1 bt134.2.2) else ((rT.f bt134.2.1 bt134.2.2 69).bind fun bt137=>(rN.j2 kj11 bt137.1 bt137.2.1 bt137.2.2))))=some (r1,r2,r3):=by rw [if_neg (show ¬ (false=true) by decide)] at H;exact H
   clear H
   have H:=H1
   clear H1
   have HC20:=Ak H
   clear H
   go_upto_region 6 with (fail)
   go_cut [25] (fun v25 wc => ∃ (kq:Nat) (x25_19:Bool) (x1000_19:ByteArray) (x1001_19:Int),v25 = .bool x25_19∧Aside0 (rN.j2 kq x25_19 x1000_19 x1001_19=some (r1,r2,r3))∧Aside0 (kq≤kj11)∧Aside0 (IsS152 w0 wc g x1000_19 x1001_19)∧Aside0 (KeepBut w wc g none)∧Aside0 (Below w0.heap.size w0 wc))
   case first =>
    have H:=HC20.out
    clear HC20
    replace H:=Option.bind_eq_some_iff.mp H
    obtain ⟨⟨t134,t135,t136⟩,A210,H⟩:=H
    replace H:(if t134=true then (rN.j2 kj11 true t135 t136) else ((rT.f t135 t136 69).bind fun bt137=>(rN.j2 kj11 bt137.1 bt137.2.1 bt137.2.2)))=some (r1,r2,r3):=H
    have A21:=Ak A210
    clear A210
    by_cases c22:t134=true
    ·
     subst c22
     have H1:(rN.j2 kj11 true t135 t136)=some (r1,r2,r3):=by rw [if_pos rfl] at H;exact H
     clear H
     have H:=H1
     clear H1
     have H':=Ak H
     clear H
     go_wp2_with (first|((with_reducible refine gate_callee (f:=185) rfl ?_);refine goesL_ (some 21) rfl rfl Tryz.func185 (by kernel_rfl) rfl #[.pointer (some ⟨g,0,none⟩), .int .u8 101] rfl oM ?_;(with_reducible refine (rT.calls g x1000_11 x1001_11 101 true t135 t136 w0 _ ?side1 ?side2 A21.out).mono ?_);(case side1=>exact oI);(case side2=>exact oG);rintro e w23 ⟨rfl,hi,hb,hk⟩;refine ⟨_,rfl,?_⟩;have _:=Ak (KeepBut.trans oK hk (.inl rfl));have _:=Ak (hb);have _:=Ak (hi);clear HK HB HI0;rename_i HK HB HI0;clear hb hk hi))
     go_meet
     case rel=>exact ⟨_,(true),(t135),(t136),oS,H',⟨by have:=HJ2.out;have:=HJ11.out;first|omega|exact Nat.le_refl _⟩,⟨oI⟩,⟨oK⟩,⟨oG⟩⟩
    replace c22:=Bool.eq_false_iff.mpr c22
    subst c22
    have H1:((rT.f t135 t136 69).bind fun bt137=>(rN.j2 kj11 bt137.1 bt137.2.1 bt137.2.2))=some (r1,r2,r3):=by rw [if_neg (show ¬ (false=true) by decide)] at H;exact H
    clear H
    have H:=H1
    clear H1
    replace H:=Option.bind_eq_some_iff.mp H
    obtain ⟨⟨t137,t138,t139⟩,A240,H⟩:=H
    replace H:(rN.j2 kj11 t137 t138 t139)=some (r1,r2,r3):=H
    have A24:=Ak A240
    clear A240
    have H':=Ak H
    clear H
    go_wp2_with (first|((with_reducible refine gate_callee (f:=185) rfl ?_);refine goesL_ (some 21) rfl rfl Tryz.func185 (by kernel_rfl) rfl #[.pointer (some ⟨g,0,none⟩), .int .u8 101] rfl oM ?_;(with_reducible refine (rT.calls g x1000_11 x1001_11 101 false t135 t136 w0 _ ?side1 ?side2 A21.out).mono ?_);(case side1=>exact oI);(case side2=>exact oG);rintro e w25 ⟨rfl,hi,hb,hk⟩;refine ⟨_,rfl,?_⟩;have _:=Ak (KeepBut.trans oK hk (.inl rfl));have _:=Ak (hb);have _:=Ak (hi);clear HK HB HI0;rename_i HK HB HI0;clear hb hk hi)|(go_at_call 185;(with_reducible refine (rT.calls g t135 t136 69 t137 t138 t139 w0 _ ?side1 ?side2 A24.out).mono ?_);(case side1=>exact oI);(case side2=>exact oG);rintro e w26 ⟨rfl,hi,hb,hk⟩;have _:=Ak (KeepBut.trans oK hk (.inl rfl));have _:=Ak (hb);have _:=Ak (hi);clear HK HB HI0;rename_i HK HB HI0;clear hb hk hi))
    go_meet
    case rel=>exact ⟨_,(t137),(t138),(t139),oS,H',⟨by have:=HJ2.out;have:=HJ11.out;first|omega|exact Nat.le_refl _⟩,⟨oI⟩,⟨oK⟩,⟨oG⟩⟩
   case rest =>
   clear HC20
   try clear c1
   try clear c2
   try clear p2
   try clear c6
   try clear c11
   try clear c14
   try clear c15
   try clear c18
   try clear c19
   try clear c22
   try clear p2
   obtain ⟨kq,x25_19,x1000_19,x1001_19,rfl,HA,HJ19,HI0,HK,HB⟩:=hcut
   cases kq with
   | zero=>exact absurd HA.out (by simp [rN.j2])
   | succ kj19 =>
    have H:=HA.out
    clear HA
    simp only [rN.j2] at H
    by_cases c27:x25_19=true
    rotate_left
    ·
     replace c27:=Bool.eq_false_iff.mpr c27
     subst c27
     have H1:(some (true,x1000_19,x1001_19))=some (r1,r2,r3):=by rw [if_neg (show ¬ (false=true) by decide)] at H;exact H
     clear H
     have H:=H1
     clear H1
     simp only [Option.some.injEq,Prod.mk.injEq] at H
     obtain ⟨rfl,rfl,rfl⟩:=H
     go_wp2
     go_ret
     exact ⟨oE,oI,oG,oK⟩
    subst c27
    have H1:((rT.f x1000_19 x1001_19 43).bind fun bt140=>(if bt140.1=true then ((rD.f kj19 bt140.2.1 bt140.2.2).bind fun bt143=>(some (bt143.1,bt143.2.1,bt143.2.2))) else ((rT.f bt140.2.1 bt140.2.2 45).bind fun bt146=>((rD.f kj19 bt146.2.1 bt146.2.2).bind fun bt149=>(some (bt149.1,bt149.2.1,bt149.2.2))))))=some (r1,r2,r3):=by rw [if_pos rfl] at H;exact H
    clear H
    have H:=H1
    clear H1
    replace H:=Option.bind_eq_some_iff.mp H
    obtain ⟨⟨t140,t141,t142⟩,A280,H⟩:=H
    replace H:(if t140=true then ((rD.f kj19 t141 t142).bind fun bt143=>(some (bt143.1,bt143.2.1,bt143.2.2))) else ((rT.f t141 t142 45).bind fun bt146=>((rD.f kj19 bt146.2.1 bt146.2.2).bind fun bt149=>(some (bt149.1,bt149.2.1,bt149.2.2)))))=some (r1,r2,r3):=H
    have A28:=Ak A280
    clear A280
    by_cases c29:t140=true
    ·
     subst c29
     have H1:((rD.f kj19 t141 t142).bind fun bt143=>(some (bt143.1,bt143.2.1,bt143.2.2)))=some (r1,r2,r3):=by rw [if_pos rfl] at H;exact H
     clear H
     have H:=H1
     clear H1
     replace H:=Option.bind_eq_some_iff.mp H
     obtain ⟨⟨t143,t144,t145⟩,A300,H⟩:=H
     replace H:(some (t143,t144,t145))=some (r1,r2,r3):=H
     have A30:=Ak A300
     clear A300
     simp only [Option.some.injEq,Prod.mk.injEq] at H
     obtain ⟨rfl,rfl,rfl⟩:=H
     go_wp2_with (first|((with_reducible refine gate_callee (f:=185) rfl ?_);refine goesL_ (some 27) rfl rfl Tryz.func185 (by kernel_rfl) rfl #[.pointer (some ⟨g,0,none⟩), .int .u8 43] rfl oM ?_;(with_reducible refine (rT.calls g x1000_19 x1001_19 43 true t141 t142 w0 _ ?side1 ?side2 A28.out).mono ?_);(case side1=>exact oI);(case side2=>exact oG);rintro e w31 ⟨rfl,hi,hb,hk⟩;refine ⟨_,rfl,?_⟩;have _:=Ak (KeepBut.trans oK hk (.inl rfl));have _:=Ak (hb);have _:=Ak (hi);clear HK HB HI0;rename_i HK HB HI0;clear hb hk hi)|((with_reducible refine gate_callee (f:=187) rfl ?_);refine goesL_ (some 32) rfl rfl Tryz.func187 (by kernel_rfl) rfl #[.pointer (some ⟨g,0,none⟩)] rfl oM ?_;(with_reducible refine (rD.calls kj19 g t141 t142 t143 t144 t145 w0 _ ?side1 ?side2 A30.out).mono ?_);(case side1=>exact oI);(case side2=>exact oG);rintro e w32 ⟨rfl,hi,hb,hk⟩;refine ⟨_,rfl,?_⟩;have _:=Ak (KeepBut.trans oK hk (.inl rfl));have _:=Ak (hb);have _:=Ak (hi);clear HK HB HI0;rename_i HK HB HI0;clear hb hk hi))
     go_ret
     exact ⟨oE,oI,oG,oK⟩
    replace c29:=Bool.eq_false_iff.mpr c29
    subst c29
    have H1:((rT.f t141 t142 45).bind fun bt146=>((rD.f kj19 bt146.2.1 bt146.2.2).bind fun bt149=>(some (bt149.1,bt149.2.1,bt149.2.2))))=some (r1,r2,r3):=by rw [if_neg (show ¬ (false=true) by decide)] at H;exact H
    clear H
    have H:=H1
    clear H1
    replace H:=Option.bind_eq_some_iff.mp H
    obtain ⟨⟨t146,t147,t148⟩,A330,H⟩:=H
    replace H:((rD.f kj19 t147 t148).bind fun bt149=>(some (bt149.1,bt149.2.1,bt149.2.2)))=some (r1,r2,r3):=H
    have A33:=Ak A330
    clear A330
    replace H:=Option.bind_eq_some_iff.mp H
    obtain ⟨⟨t149,t150,t151⟩,A340,H⟩:=H
    replace H:(some (t149,t150,t151))=some (r1,r2,r3):=H
    have A34:=Ak A340
    clear A340
    simp only [Option.some.injEq,Prod.mk.injEq] at H
    obtain ⟨rfl,rfl,rfl⟩:=H
    go_wp2_with (first|((with_reducible refine gate_callee (f:=185) rfl ?_);refine goesL_ (some 27) rfl rfl Tryz.func185 (by kernel_rfl) rfl #[.pointer (some ⟨g,0,none⟩), .int .u8 43] rfl oM ?_;(with_reducible refine (rT.calls g x1000_19 x1001_19 43 false t141 t142 w0 _ ?side1 ?side2 A28.out).mono ?_);(case side1=>exact oI);(case side2=>exact oG);rintro e w35 ⟨rfl,hi,hb,hk⟩;refine ⟨_,rfl,?_⟩;have _:=Ak (KeepBut.trans oK hk (.inl rfl));have _:=Ak (hb);have _:=Ak (hi);clear HK HB HI0;rename_i HK HB HI0;clear hb hk hi)|((with_reducible refine gate_callee (f:=185) rfl ?_);refine goesL_ (some 30) rfl rfl Tryz.func185 (by kernel_rfl) rfl #[.pointer (some ⟨g,0,none⟩), .int .u8 45] rfl oM ?_;(with_reducible refine (rT.calls g t141 t142 45 t146 t147 t148 w0 _ ?side1 ?side2 A33.out).mono ?_);(case side1=>exact oI);(case side2=>exact oG);rintro e w36 ⟨rfl,hi,hb,hk⟩;refine ⟨_,rfl,?_⟩;have _:=Ak (KeepBut.trans oK hk (.inl rfl));have _:=Ak (hb);have _:=Ak (hi);clear HK HB HI0;rename_i HK HB HI0;clear hb hk hi)|((with_reducible refine gate_callee (f:=187) rfl ?_);refine goesL_ (some 32) rfl rfl Tryz.func187 (by kernel_rfl) rfl #[.pointer (some ⟨g,0,none⟩)] rfl oM ?_;(with_reducible refine (rD.calls kj19 g t147 t148 t149 t150 t151 w0 _ ?side1 ?side2 A34.out).mono ?_);(case side1=>exact oI);(case side2=>exact oG);rintro e w37 ⟨rfl,hi,hb,hk⟩;refine ⟨_,rfl,?_⟩;have _:=Ak (KeepBut.trans oK hk (.inl rfl));have _:=Ak (hb);have _:=Ak (hi);clear HK HB HI0;rename_i HK HB HI0;clear hb hk hi))
    go_ret
    exact ⟨oE,oI,oG,oK⟩
end Go.Proofs.YtnejkimpkaopoaaGreatDoor.Q

/- Functions of the program as Lean functions, each with a proof that the call comes to what it gives. Written by prx.py (wip/pr). -/
import Derived.Test.YtnejkimpkaopoaaGreatDoorQ0
namespace Go.Proofs.YtnejkimpkaopoaaGreatDoor.Q
open RowKit YtnejkimpkaopoaaGreatDoorW.PrintWords YtnejkimpkaopoaaGreatDoorW.PrintLast YtnejkimpkaopoaaGreatDoorW.PrintMore
set_option maxHeartbeats 8000000
set_option maxRecDepth 100000
attribute [local go_sem] max2_int min2_int max_two min_two max_three min_three max_four min_four
set_option linter.unusedVariables false
set_option linter.unusedSimpArgs false
/-! ### sB: function 67 -/
def sB.f (a0:Int):Option (Bool):=if a0=32 then (some true) else (if a0=9 then (some true) else (if a0=10 then (some true) else (some (a0 == 13))))
theorem sB.calls (a0:Int) (r:Bool) (w:World) (h:sB.f a0=some r) :
 Calls Tryz.prog 67 #[.int .u8 a0] w fun e w'=>e = .returned (.bool r)∧Drawn0 w w':=by
 have H:(if a0=32 then (some true) else (if a0=9 then (some true) else (if a0=10 then (some true) else (some (a0 == 13)))))=some r:=h
 clear h
 by_cases c2:a0=32
 ·
  rw [if_pos c2] at H
  have c2b0:(a0 == 32)=true:=beq_iff_eq.mpr c2
  have c2b1:(a0 != 32)=false:=bne_eq_false_iff_eq.mpr c2
  clear c2
  obtain rfl:=Option.some.inj H
  go_enter Tryz.func67,Tryz.ntmps67
  go_wp2
  go_ret
  exact ⟨oS,by repeat (first|exact Drawn0.refl _|apply Drawn0.step)⟩
 rw [if_neg c2] at H
 have c2b0:(a0 == 32)=false:=beq_eq_false_iff_ne.mpr c2
 have c2b1:(a0 != 32)=true:=bne_iff_ne.mpr c2
 by_cases c3:a0=9
 ·
  rw [if_pos c3] at H
  have c3b0:(a0 == 9)=true:=beq_iff_eq.mpr c3
  have c3b1:(a0 != 9)=false:=bne_eq_false_iff_eq.mpr c3
  clear c3
  obtain rfl:=Option.some.inj H
  go_enter Tryz.func67,Tryz.ntmps67
  go_wp2
  go_ret
  exact ⟨oS,by repeat (first|exact Drawn0.refl _|apply Drawn0.step)⟩
 rw [if_neg c3] at H
 have c3b0:(a0 == 9)=false:=beq_eq_false_iff_ne.mpr c3
 have c3b1:(a0 != 9)=true:=bne_iff_ne.mpr c3
 by_cases c4:a0=10
 ·
  rw [if_pos c4] at H
  have c4b0:(a0 == 10)=true:=beq_iff_eq.mpr c4
  have c4b1:(a0 != 10)=false:=bne_eq_false_iff_eq.mpr c4
  clear c4
  obtain rfl:=Option.some.inj H
  go_enter Tryz.func67,Tryz.ntmps67
  go_wp2
  go_ret
  exact ⟨oS,by repeat (first|exact Drawn0.refl _|apply Drawn0.step)⟩
 rw [if_neg c4] at H
 have c4b0:(a0 == 10)=false:=beq_eq_false_iff_ne.mpr c4
 have c4b1:(a0 != 10)=true:=bne_iff_ne.mpr c4
 obtain rfl:=Option.some.inj H
 go_enter Tryz.func67,Tryz.ntmps67
 go_wp2
 go_ret
 exact ⟨oS,by repeat (first|exact Drawn0.refl _|apply Drawn0.step)⟩
def IsS152 (w0 W:World) (g:Nat) (f0:ByteArray) (f1:Int):Prop:=W.heap[g]? = some (.cells #[.string f0, .int .i64 f1] 152 (0,0))∧w0.heap.size≤g
theorem IsS152.grown {w0 W:World} {g:Nat} {f0:ByteArray} {f1:Int} {W1:World} {row:Option Nat} (h:IsS152 w0 W g f0 f1) (hw:W.grownBy W1 row) (hne:some g≠row):IsS152 w0 W1 g f0 f1:=by
 obtain ⟨hb,hg⟩:=h
 exact ⟨blk_grown hb hw hne,hg⟩
theorem IsS152.below {w0 W:World} {g:Nat} {f0:ByteArray} {f1:Int} {W1:World} (h:IsS152 w0 W g f0 f1) (hw:Below W.heap.size W W1):IsS152 w0 W1 g f0 f1:=h.grown (grown_of_below hw none) (by simp)
theorem IsS152.drewN {w0 W:World} {g:Nat} {f0:ByteArray} {f1:Int} (h:IsS152 w0 W g f0 f1) (m:Nat):IsS152 w0 (W.drewN m) g f0 f1:=h
theorem IsS152.apart {w0 W:World} {g:Nat} {f0:ByteArray} {f1:Int} {α:Type} {d:Kd α} {e:Nat} {base:Nat} {ok:Nat→Prop} {v:Value} {xs:List α} (h:IsS152 w0 W g f0 f1) (ho:d.R e W base ok v xs) (ht : ∀ q,q ∈ e :: d.E→q≠152):d.R e W base (fun k=>ok k∧k≠g) v xs:=by
 obtain ⟨hb,hg⟩:=h
 exact Kd.R_types ho hb ht
theorem IsS152.own_ne {w0 W:World} {g:Nat} {f0:ByteArray} {f1:Int} {α:Type} {d:Kd α} {e:Nat} {base:Nat} {ok:Nat→Prop} {v:Value} {xs:List α} (h:IsS152 w0 W g f0 f1) (ho:d.R e W base ok v xs) (ht:e≠152):some g≠v.ownBlock:=by
 obtain ⟨hb,hg⟩:=h
 exact Kd.R_ne ho hb ht
theorem IsS152.lt {w0 W:World} {g:Nat} {f0:ByteArray} {f1:Int} (h:IsS152 w0 W g f0 f1):g<W.heap.size:=by
 obtain ⟨hb,hg⟩:=h
 exact blk_lt hb
theorem IsS152.ge {w0 W:World} {g:Nat} {f0:ByteArray} {f1:Int} (h:IsS152 w0 W g f0 f1):w0.heap.size≤g:=by
 obtain ⟨hb,hg⟩:=h
 exact hg
theorem IsS152.far {w0 W:World} {g:Nat} {f0:ByteArray} {f1:Int} {p:Addr} (h:IsS152 w0 W g f0 f1) (hne:g≠p.block) (u:Value):IsS152 w0 (W.setCell p u) g f0 f1:=by
 obtain ⟨hb,hg⟩:=h
 exact ⟨blk_far hb hne u,hg⟩
theorem cellS152_0 {W:World} {g:Nat} {f0:ByteArray} {f1:Int} (h:W.heap[g]? = some (.cells #[.string f0, .int .i64 f1] 152 (0,0))):W.cell? ⟨g,0,none⟩=some (.string f0):=(blk_cell h 0).trans rfl
theorem cellS152_1 {W:World} {g:Nat} {f0:ByteArray} {f1:Int} (h:W.heap[g]? = some (.cells #[.string f0, .int .i64 f1] 152 (0,0))):W.cell? ⟨g,1,none⟩=some (.int .i64 f1):=(blk_cell h 1).trans rfl
theorem IsS152.set_1 {w0 W:World} {g:Nat} {f0:ByteArray} {f1:Int} (h:IsS152 w0 W g f0 f1) (x:Int):IsS152 w0 (W.setCell ⟨g,1,none⟩ (.int .i64 x)) g f0 x:=by
 obtain ⟨hb,hg⟩:=h
 exact ⟨by simpa using blk_set hb 1 (.int .i64 x),hg⟩
/-! ### rB: function 103 -/
def rB.l0:Nat→ByteArray→Int→Option (ByteArray × Int)
  | 0,_,_=>none
  | k+1,x1000,x1001=>if x1001<(x1000.size:Int) then (if 0≤x1001 then ((sB.f (bt x1000 x1001)).bind fun t101=>(if t101=true then (rB.l0 k x1000 (wrap64 (x1001+1))) else (some (x1000,x1001)))) else (none)) else (some (x1000,x1001))
def rB.f (k:Nat) (s0_0:ByteArray) (s0_1:Int):Option (ByteArray × Int):=rB.l0 k s0_0 s0_1
theorem rB.calls (k:Nat) (g:Nat) (s0_0:ByteArray) (s0_1:Int) (r1:ByteArray) (r2:Int) (w0 w:World) (hI:IsS152 w0 w g s0_0 s0_1) (hB:Below w0.heap.size w0 w) (h:rB.f k s0_0 s0_1=some (r1,r2)) :
 Calls Tryz.prog 103 #[.pointer (some ⟨g,0,none⟩)] w fun e w'=>e = .returned (.tuple #[])∧IsS152 w0 w' g r1 r2∧Below w0.heap.size w0 w'∧KeepBut w w' g none:=by
 have HI0:=Ak hI
 have HK:=Ak (KeepBut.refl w g none)
 have HL:=Ak hB.size
 clear hI
 have HW0:=Ak hB.size
 have HB:=Ak hB
 clear hB
 have H:(rB.l0 k s0_0 s0_1)=some (r1,r2):=h
 clear h
 have H':=Ak H
 clear H
 go_enter Tryz.func103,Tryz.ntmps103
 go_wp2
 repeat (go_quiet (fail);try go_wp2)
 (try simp only [Act.put,List.setIfInBounds_toArray,List.set_cons_zero,List.set_cons_succ])
 go_loopg [] k (fun kq w' => ∃ (x1001_1:Int),Aside0 (rB.l0 kq s0_0 x1001_1=some (r1,r2))∧Aside0 (kq≤k)∧Aside0 (IsS152 w0 w' g s0_0 x1001_1)∧Aside0 (KeepBut w w' g none)∧Aside0 (Below w0.heap.size w0 w'))
 case atStart=>exact ⟨(s0_1),H',⟨Nat.le_refl _⟩,⟨oI⟩,⟨oK⟩,⟨oG⟩⟩
 case round =>
 clear H'
 try clear c1
 obtain ⟨x1001_1,HA,HK1,HI0,HK,HB⟩:=hrel
 cases gk with
 | zero=>exact absurd HA.out (by simp [rB.l0])
 | succ k1 =>
  have H:=HA.out
  clear HA
  simp only [rB.l0] at H
  by_cases c2:x1001_1<(s0_0.size:Int)
  rotate_left
  ·
   rw [if_neg c2] at H
   have c2b0:decide (x1001_1<(s0_0.size:Int))=false:=decide_eq_false c2
   clear c2
   simp only [Option.some.injEq,Prod.mk.injEq] at H
   obtain ⟨rfl,rfl⟩:=H
   obtain ⟨HGz9,hgz9⟩:=HI0.out
   have hcz9_0:=cellS152_0 HGz9
   have hcz9_1:=cellS152_1 HGz9
   have hfz9_0:=blk_frozen HGz9 0
   have hfz9_1:=blk_frozen HGz9 1
   clear HGz9 hgz9
   go_wp2
   repeat (go_quiet (fail);try go_wp2)
   first|go_end0|((try simp only [Exit.inBlock,Exit.then]);refine bodyPost_ret (results_none rfl _ _ _) rfl ?_)
   exact ⟨oE,oI,oG,oK⟩
  rw [if_pos c2] at H
  have c2b0:decide (x1001_1<(s0_0.size:Int))=true:=decide_eq_true c2
  clear c2
  by_cases c3:0≤x1001_1
  ·
   rw [if_pos c3] at H
   have c3b0:decide (0≤x1001_1)=true:=decide_eq_true c3
   clear c3
   replace H:=Option.bind_eq_some_iff.mp H
   obtain ⟨t101,A50,H⟩:=H
   replace H:(if t101=true then (rB.l0 k1 s0_0 (wrap64 (x1001_1+1))) else (some (s0_0,x1001_1)))=some (r1,r2):=H
   have A5:=Ak A50
   clear A50
   by_cases c6:t101=true
   ·
    subst c6
    have H1:(rB.l0 k1 s0_0 (wrap64 (x1001_1+1)))=some (r1,r2):=by rw [if_pos rfl] at H;exact H
    clear H
    have H:=H1
    clear H1
    have H':=Ak H
    clear H
    obtain ⟨HGz7,hgz7⟩:=HI0.out
    have hcz7_0:=cellS152_0 HGz7
    have hcz7_1:=cellS152_1 HGz7
    have hfz7_0:=blk_frozen HGz7 0
    have hfz7_1:=blk_frozen HGz7 1
    clear HGz7 hgz7
    have p4:0≤(x1001_1:Int):=of_decide_eq_true oA
    have q4:x1001_1<(s0_0.size:Int):=of_decide_eq_true oA
    have hx4:=bt_at s0_0 x1001_1
    replace p4:=eq_true p4
    replace q4:=eq_true q4
    go_wp2_with (first|(go_at_call 67;(with_reducible refine (sB.calls (bt s0_0 x1001_1) true _ A5.out).mono ?_);rintro e w' ⟨rfl,⟨nd,rfl⟩⟩;(try first|exact ⟨rfl,_,World.drewN_drewN _ _ _⟩|exact ⟨rfl,_,Eq.trans (World.drewN_drewN _ _ _) (congrArg (World.drewN _) (Nat.add_assoc _ _ _))⟩)))
    repeat (go_quiet (first|(go_at_call 67;(with_reducible refine (sB.calls (bt s0_0 x1001_1) true _ A5.out).mono ?_);rintro e w' ⟨rfl,⟨nd,rfl⟩⟩;(try first|exact ⟨rfl,_,World.drewN_drewN _ _ _⟩|exact ⟨rfl,_,Eq.trans (World.drewN_drewN _ _ _) (congrArg (World.drewN _) (Nat.add_assoc _ _ _))⟩)));try go_wp2_with (first|(go_at_call 67;(with_reducible refine (sB.calls (bt s0_0 x1001_1) true _ A5.out).mono ?_);rintro e w' ⟨rfl,⟨nd,rfl⟩⟩;(try first|exact ⟨rfl,_,World.drewN_drewN _ _ _⟩|exact ⟨rfl,_,Eq.trans (World.drewN_drewN _ _ _) (congrArg (World.drewN _) (Nat.add_assoc _ _ _))⟩))))
    go_roundg k1
    case measure=>have:=HK1.out;omega
    case rel=>exact ⟨(wrap64 (x1001_1+1)),H',⟨by have:=HK1.out;omega⟩,⟨oI⟩,⟨oK⟩,⟨oG⟩⟩
   replace c6:=Bool.eq_false_iff.mpr c6
   subst c6
   have H1:(some (s0_0,x1001_1))=some (r1,r2):=by rw [if_neg (show ¬ (false=true) by decide)] at H;exact H
   clear H
   have H:=H1
   clear H1
   simp only [Option.some.injEq,Prod.mk.injEq] at H
   obtain ⟨rfl,rfl⟩:=H
   obtain ⟨HGz8,hgz8⟩:=HI0.out
   have hcz8_0:=cellS152_0 HGz8
   have hcz8_1:=cellS152_1 HGz8
   have hfz8_0:=blk_frozen HGz8 0
   have hfz8_1:=blk_frozen HGz8 1
   clear HGz8 hgz8
   have p4:0≤(x1001_1:Int):=of_decide_eq_true oA
   have q4:x1001_1<(s0_0.size:Int):=of_decide_eq_true oA
   have hx4:=bt_at s0_0 x1001_1
   replace p4:=eq_true p4
   replace q4:=eq_true q4
   go_wp2_with (first|(go_at_call 67;(with_reducible refine (sB.calls (bt s0_0 x1001_1) false _ A5.out).mono ?_);rintro e w' ⟨rfl,⟨nd,rfl⟩⟩;(try first|exact ⟨rfl,_,World.drewN_drewN _ _ _⟩|exact ⟨rfl,_,Eq.trans (World.drewN_drewN _ _ _) (congrArg (World.drewN _) (Nat.add_assoc _ _ _))⟩)))
   repeat (go_quiet (first|(go_at_call 67;(with_reducible refine (sB.calls (bt s0_0 x1001_1) false _ A5.out).mono ?_);rintro e w' ⟨rfl,⟨nd,rfl⟩⟩;(try first|exact ⟨rfl,_,World.drewN_drewN _ _ _⟩|exact ⟨rfl,_,Eq.trans (World.drewN_drewN _ _ _) (congrArg (World.drewN _) (Nat.add_assoc _ _ _))⟩)));try go_wp2_with (first|(go_at_call 67;(with_reducible refine (sB.calls (bt s0_0 x1001_1) false _ A5.out).mono ?_);rintro e w' ⟨rfl,⟨nd,rfl⟩⟩;(try first|exact ⟨rfl,_,World.drewN_drewN _ _ _⟩|exact ⟨rfl,_,Eq.trans (World.drewN_drewN _ _ _) (congrArg (World.drewN _) (Nat.add_assoc _ _ _))⟩))))
   first|go_end0|((try simp only [Exit.inBlock,Exit.then]);refine bodyPost_ret (results_none rfl _ _ _) rfl ?_)
   exact ⟨oE,oI,oG,oK⟩
  rw [if_neg c3] at H
  exact absurd H (by simp)
/-! ### rH: function 150 -/
def rH.f (s0_0:ByteArray) (s0_1:Int):Option (Int × ByteArray × Int):=if s0_1<(s0_0.size:Int) then (if 0≤s0_1 then (some (bt s0_0 s0_1,s0_0,s0_1)) else (none)) else (some (0,s0_0,s0_1))
theorem rH.calls (g:Nat) (s0_0:ByteArray) (s0_1:Int) (r1:Int) (r2:ByteArray) (r3:Int) (w0 w:World) (hI:IsS152 w0 w g s0_0 s0_1) (hB:Below w0.heap.size w0 w) (h:rH.f s0_0 s0_1=some (r1,r2,r3)) :
 Calls Tryz.prog 150 #[.pointer (some ⟨g,0,none⟩)] w fun e w'=>e = .returned (.int .u8 r1)∧IsS152 w0 w' g r2 r3∧Below w0.heap.size w0 w'∧KeepBut w w' g none:=by
 have HI0:=Ak hI
 have HK:=Ak (KeepBut.refl w g none)
 have HL:=Ak hB.size
 clear hI
 have HW0:=Ak hB.size
 have HB:=Ak hB
 clear hB
 have H:(if s0_1<(s0_0.size:Int) then (if 0≤s0_1 then (some (bt s0_0 s0_1,s0_0,s0_1)) else (none)) else (some (0,s0_0,s0_1)))=some (r1,r2,r3):=h
 clear h
 by_cases c2:s0_1<(s0_0.size:Int)
 rotate_left
 ·
  rw [if_neg c2] at H
  have c2b0:decide (s0_1<(s0_0.size:Int))=false:=decide_eq_false c2
  clear c2
  simp only [Option.some.injEq,Prod.mk.injEq] at H
  obtain ⟨rfl,rfl,rfl⟩:=H
  obtain ⟨HGz6,hgz6⟩:=HI0.out
  have hcz6_0:=cellS152_0 HGz6
  have hcz6_1:=cellS152_1 HGz6
  have hfz6_0:=blk_frozen HGz6 0
  have hfz6_1:=blk_frozen HGz6 1
  clear HGz6 hgz6
  go_enter Tryz.func150,Tryz.ntmps150
  go_wp2
  repeat (go_quiet (fail);try go_wp2)
  go_ret
  exact ⟨oE,oI,oG,oK⟩
 rw [if_pos c2] at H
 have c2b0:decide (s0_1<(s0_0.size:Int))=true:=decide_eq_true c2
 clear c2
 by_cases c3:0≤s0_1
 ·
  rw [if_pos c3] at H
  have c3b0:decide (0≤s0_1)=true:=decide_eq_true c3
  clear c3
  simp only [Option.some.injEq,Prod.mk.injEq] at H
  obtain ⟨rfl,rfl,rfl⟩:=H
  obtain ⟨HGz5,hgz5⟩:=HI0.out
  have hcz5_0:=cellS152_0 HGz5
  have hcz5_1:=cellS152_1 HGz5
  have hfz5_0:=blk_frozen HGz5 0
  have hfz5_1:=blk_frozen HGz5 1
  clear HGz5 hgz5
  have p4:0≤(s0_1:Int):=of_decide_eq_true oA
  have q4:s0_1<(s0_0.size:Int):=of_decide_eq_true oA
  have hx4:=bt_at s0_0 s0_1
  replace p4:=eq_true p4
  replace q4:=eq_true q4
  go_enter Tryz.func150,Tryz.ntmps150
  go_wp2
  repeat (go_quiet (fail);try go_wp2)
  go_ret
  exact ⟨oE,oI,oG,oK⟩
 rw [if_neg c3] at H
 exact absurd H (by simp)
/-! ### sH: function 106 -/
mutual
def sH.j0:Nat→Int→Bool→Option (Int × Bool)
  | 0,_,_=>none
  | k+1,x0,x4=>if x4=true then (some ((x0 - 48) % 256,true)) else (if 97≤x0 then (sH.j1 k x0 (decide (x0≤102))) else (sH.j1 k x0 false))
def sH.j1:Nat→Int→Bool→Option (Int × Bool)
  | 0,_,_=>none
  | k+1,x0,x14=>if x14=true then (some (((x0 - 97) % 256)+10,true)) else (if 65≤x0 then (if x0≤70 then (some (((x0 - 65) % 256)+10,true)) else (some (0,false))) else (some (0,false)))
end
def sH.f (k:Nat) (a0:Int):Option (Int × Bool):=if 48≤a0 then (sH.j0 k a0 (decide (a0≤57))) else (sH.j0 k a0 false)
theorem sH.mono_l : ∀ k,(∀ y0 y1,LeO (sH.j0 k y0 y1) (sH.j0 (k+1) y0 y1))∧(∀ y0 y1,LeO (sH.j1 k y0 y1) (sH.j1 (k+1) y0 y1))
  | 0=>⟨fun _ _ r h=>by simp [sH.j0] at h,fun _ _ r h=>by simp [sH.j1] at h⟩
  | k+1=>by
    obtain ⟨ih0,ih1⟩:=sH.mono_l k
    refine ⟨?_,?_⟩
    · intro y0 y1
      unfold sH.j0
      repeat' first|(with_reducible first|apply ih0|apply ih1|apply LeO.refl|apply LeO.none|refine LeO.ite ?_ ?_|refine LeO.bind ?_ (fun _=>?_))|apply ih0|apply ih1|apply LeO.none|refine LeO.ite ?_ ?_|refine LeO.bind ?_ (fun _=>?_)
    · intro y0 y1
      unfold sH.j1
      repeat' first|(with_reducible first|apply ih0|apply ih1|apply LeO.refl|apply LeO.none|refine LeO.ite ?_ ?_|refine LeO.bind ?_ (fun _=>?_))|apply ih0|apply ih1|apply LeO.none|refine LeO.ite ?_ ?_|refine LeO.bind ?_ (fun _=>?_)
theorem sH.mono : ∀ a0 k,LeO (sH.f k a0) (sH.f (k+1) a0):=by
 intro a0 k
 obtain ⟨ih0,ih1⟩:=sH.mono_l k
 unfold sH.f
 repeat' first|(with_reducible first|apply ih0|apply ih1|apply LeO.refl|apply LeO.none|refine LeO.ite ?_ ?_|refine LeO.bind ?_ (fun _=>?_))|apply ih0|apply ih1|apply LeO.none|refine LeO.ite ?_ ?_|refine LeO.bind ?_ (fun _=>?_)
theorem sH.calls (k:Nat) (a0:Int) (r1:Int) (r2:Bool) (w:World) (h:sH.f k a0=some (r1,r2)) :
 Calls Tryz.prog 106 #[.int .u8 a0] w fun e w'=>e = .returned (.tuple #[.int .i64 r1, .bool r2])∧Drawn0 w w':=by
 have H:(if 48≤a0 then (sH.j0 k a0 (decide (a0≤57))) else (sH.j0 k a0 false))=some (r1,r2):=h
 clear h
 have HC2:=Ak H
 clear H
 go_enter Tryz.func106,Tryz.ntmps106
 go_upto_region 1 with (fail)
 go_cut [4] (fun v4 wc => ∃ (kq:Nat) (x4_1:Bool),v4 = .bool x4_1∧Aside0 (sH.j0 kq a0 x4_1=some (r1,r2))∧Aside0 (kq≤k)∧Drawn0 w wc)
 case first =>
  have H:=HC2.out
  clear HC2
  by_cases c3:48≤a0
  ·
   rw [if_pos c3] at H
   have c3b0:decide (48≤a0)=true:=decide_eq_true c3
   clear c3
   (first|rw [c3b0]|(simp only [i64_w,i32_w];rw [c3b0])|skip)
   have H':=Ak H
   clear H
   go_wp2
   go_meet
   case rel=>exact ⟨_,(decide (a0≤57)),oS,H',⟨by first|omega|exact Nat.le_refl _⟩,by repeat (first|exact Drawn0.refl _|apply Drawn0.step)⟩
  rw [if_neg c3] at H
  have c3b0:decide (48≤a0)=false:=decide_eq_false c3
  clear c3
  (first|rw [c3b0]|(simp only [i64_w,i32_w];rw [c3b0])|skip)
  have H':=Ak H
  clear H
  go_wp2
  go_meet
  case rel=>exact ⟨_,(false),oS,H',⟨by first|omega|exact Nat.le_refl _⟩,by repeat (first|exact Drawn0.refl _|apply Drawn0.step)⟩
 case rest =>
 clear HC2
 try clear c1
 try clear p2
 try clear c3
 try clear c3b0
 obtain ⟨kq,x4_1,rfl,HA,HJ1,⟨mc1,rfl⟩⟩:=hcut
 cases kq with
 | zero=>exact absurd HA.out (by simp [sH.j0])
 | succ kj1 =>
  have H:=HA.out
  clear HA
  simp only [sH.j0] at H
  by_cases c4:x4_1=true
  ·
   subst c4
   have H1:(some ((a0 - 48) % 256,true))=some (r1,r2):=by rw [if_pos rfl] at H;exact H
   clear H
   have H:=H1
   clear H1
   simp only [Option.some.injEq,Prod.mk.injEq] at H
   obtain ⟨rfl,rfl⟩:=H
   go_wp2
   go_ret2
   exact ⟨oS,by repeat (first|exact Drawn0.refl _|apply Drawn0.step)⟩
  replace c4:=Bool.eq_false_iff.mpr c4
  subst c4
  have H1:(if 97≤a0 then (sH.j1 kj1 a0 (decide (a0≤102))) else (sH.j1 kj1 a0 false))=some (r1,r2):=by rw [if_neg (show ¬ (false=true) by decide)] at H;exact H
  clear H
  have H:=H1
  clear H1
  have HC5:=Ak H
  clear H
  go_upto_region 3 with (fail)
  go_cut [14] (fun v14 wc => ∃ (kq:Nat) (x14_4:Bool),v14 = .bool x14_4∧Aside0 (sH.j1 kq a0 x14_4=some (r1,r2))∧Aside0 (kq≤kj1)∧Drawn0 w wc)
  case first =>
   have H:=HC5.out
   clear HC5
   by_cases c6:97≤a0
   ·
    rw [if_pos c6] at H
    have c6b0:decide (97≤a0)=true:=decide_eq_true c6
    clear c6
    (first|rw [c6b0]|(simp only [i64_w,i32_w];rw [c6b0])|skip)
    have H':=Ak H
    clear H
    go_wp2
    go_meet
    case rel=>exact ⟨_,(decide (a0≤102)),oS,H',⟨by have:=HJ1.out;first|omega|exact Nat.le_refl _⟩,by repeat (first|exact Drawn0.refl _|apply Drawn0.step)⟩
   rw [if_neg c6] at H
   have c6b0:decide (97≤a0)=false:=decide_eq_false c6
   clear c6
   (first|rw [c6b0]|(simp only [i64_w,i32_w];rw [c6b0])|skip)
   have H':=Ak H
   clear H
   go_wp2
   go_meet
   case rel=>exact ⟨_,(false),oS,H',⟨by have:=HJ1.out;first|omega|exact Nat.le_refl _⟩,by repeat (first|exact Drawn0.refl _|apply Drawn0.step)⟩
  case rest =>
  clear HC5
  try clear c1
  try clear p2
  try clear c3
  try clear c3b0
  try clear c4
  try clear c6
  try clear c6b0
  try clear p2
  obtain ⟨kq,x14_4,rfl,HA,HJ4,⟨mc4,rfl⟩⟩:=hcut
  cases kq with
  | zero=>exact absurd HA.out (by simp [sH.j1])
  | succ kj4 =>
   have H:=HA.out
   clear HA
   simp only [sH.j1] at H
   by_cases c7:x14_4=true
   ·
    subst c7
    have H1:(some (((a0 - 97) % 256)+10,true))=some (r1,r2):=by rw [if_pos rfl] at H;exact H
    clear H
    have H:=H1
    clear H1
    simp only [Option.some.injEq,Prod.mk.injEq] at H
    obtain ⟨rfl,rfl⟩:=H
    go_wp2
    go_ret2
    exact ⟨oS,by repeat (first|exact Drawn0.refl _|apply Drawn0.step)⟩
   replace c7:=Bool.eq_false_iff.mpr c7
   subst c7
   have H1:(if 65≤a0 then (if a0≤70 then (some (((a0 - 65) % 256)+10,true)) else (some (0,false))) else (some (0,false)))=some (r1,r2):=by rw [if_neg (show ¬ (false=true) by decide)] at H;exact H
   clear H
   have H:=H1
   clear H1
   by_cases c8:65≤a0
   ·
    rw [if_pos c8] at H
    have c8b0:decide (65≤a0)=true:=decide_eq_true c8
    clear c8
    by_cases c9:a0≤70
    ·
     rw [if_pos c9] at H
     have c9b0:decide (a0≤70)=true:=decide_eq_true c9
     clear c9
     simp only [Option.some.injEq,Prod.mk.injEq] at H
     obtain ⟨rfl,rfl⟩:=H
     go_wp2
     go_ret2
     exact ⟨oS,by repeat (first|exact Drawn0.refl _|apply Drawn0.step)⟩
    rw [if_neg c9] at H
    have c9b0:decide (a0≤70)=false:=decide_eq_false c9
    clear c9
    simp only [Option.some.injEq,Prod.mk.injEq] at H
    obtain ⟨rfl,rfl⟩:=H
    go_wp2
    go_ret2
    exact ⟨oS,by repeat (first|exact Drawn0.refl _|apply Drawn0.step)⟩
   rw [if_neg c8] at H
   have c8b0:decide (65≤a0)=false:=decide_eq_false c8
   clear c8
   simp only [Option.some.injEq,Prod.mk.injEq] at H
   obtain ⟨rfl,rfl⟩:=H
   go_wp2
   go_ret2
   exact ⟨oS,by repeat (first|exact Drawn0.refl _|apply Drawn0.step)⟩
/-! ### rX: function 186 -/
mutual
def rX.j0:Nat→Int→Bool→ByteArray→Int→Option (Bool × ByteArray × Int)
  | 0,_,_,_,_=>none
  | k+1,x7,x8,x1000,x1001=>if x8=true then (some (true,x1000,wrap64 (x1001+1))) else (if x7=117 then (rX.l0 k 0 x1000 (wrap64 (x1001+1))) else (some (false,x1000,x1001)))
def rX.l0:Nat→Int→ByteArray→Int→Option (Bool × ByteArray × Int)
  | 0,_,_,_=>none
  | k+1,x3,x1000,x1001=>if x3<4 then ((rH.f x1000 x1001).bind fun bt105=>((sH.f k bt105.1).bind fun bt108=>(if bt108.2=true then (rX.l0 k (wrap64 (x3+1)) bt105.2.1 (wrap64 (bt105.2.2+1))) else (some (false,bt105.2.1,bt105.2.2))))) else (some (true,x1000,x1001))
end
def rX.f (k:Nat) (s0_0:ByteArray) (s0_1:Int):Option (Bool × ByteArray × Int):=(rH.f s0_0 s0_1).bind fun bt102=>(if bt102.1=34 then (rX.j0 k bt102.1 (bt102.1 == 34) bt102.2.1 bt102.2.2) else (if bt102.1=92 then (rX.j0 k bt102.1 (bt102.1 == 92) bt102.2.1 bt102.2.2) else (if bt102.1=47 then (rX.j0 k bt102.1 (bt102.1 == 47) bt102.2.1 bt102.2.2) else (if bt102.1=98 then (rX.j0 k bt102.1 (bt102.1 == 98) bt102.2.1 bt102.2.2) else (if bt102.1=102 then (rX.j0 k bt102.1 (bt102.1 == 102) bt102.2.1 bt102.2.2) else (if bt102.1=110 then (rX.j0 k bt102.1 (bt102.1 == 110) bt102.2.1 bt102.2.2) else (if bt102.1=114 then (rX.j0 k bt102.1 (bt102.1 == 114) bt102.2.1 bt102.2.2) else (rX.j0 k bt102.1 (bt102.1 == 116) bt102.2.1 bt102.2.2))))))))
theorem rX.calls (k:Nat) (g:Nat) (s0_0:ByteArray) (s0_1:Int) (r1:Bool) (r2:ByteArray) (r3:Int) (w0 w:World) (hI:IsS152 w0 w g s0_0 s0_1) (hB:Below w0.heap.size w0 w) (h:rX.f k s0_0 s0_1=some (r1,r2,r3)) :
 Calls Tryz.prog 186 #[.pointer (some ⟨g,0,none⟩)] w fun e w'=>e = .returned (.bool r1)∧IsS152 w0 w' g r2 r3∧Below w0.heap.size w0 w'∧KeepBut w w' g none:=by
 have HI0:=Ak hI
 have HK:=Ak (KeepBut.refl w g none)
 have HL:=Ak hB.size
 clear hI
 have HW0:=Ak hB.size
 have HB:=Ak hB
 clear hB
 have H:((rH.f s0_0 s0_1).bind fun bt102=>(if bt102.1=34 then (rX.j0 k bt102.1 (bt102.1 == 34) bt102.2.1 bt102.2.2) else (if bt102.1=92 then (rX.j0 k bt102.1 (bt102.1 == 92) bt102.2.1 bt102.2.2) else (if bt102.1=47 then (rX.j0 k bt102.1 (bt102.1 == 47) bt102.2.1 bt102.2.2) else (if bt102.1=98 then (rX.j0 k bt102.1 (bt102.1 == 98) bt102.2.1 bt102.2.2) else (if bt102.1=102 then (rX.j0 k bt102.1 (bt102.1 == 102) bt102.2.1 bt102.2.2) else (if bt102.1=110 then (rX.j0 k bt102.1 (bt102.1 == 110) bt102.2.1 bt102.2.2) else (if bt102.1=114 then (rX.j0 k bt102.1 (bt102.1 == 114) bt102.2.1 bt102.2.2) else (rX.j0 k bt102.1 (bt102.1 == 116) bt102.2.1 bt102.2.2)))))))))=some (r1,r2,r3):=h
 clear h
 replace H:=Option.bind_eq_some_iff.mp H
 obtain ⟨⟨t102,t103,t104⟩,A20,H⟩:=H
 replace H:(if t102=34 then (rX.j0 k t102 (t102 == 34) t103 t104) else (if t102=92 then (rX.j0 k t102 (t102 == 92) t103 t104) else (if t102=47 then (rX.j0 k t102 (t102 == 47) t103 t104) else (if t102=98 then (rX.j0 k t102 (t102 == 98) t103 t104) else (if t102=102 then (rX.j0 k t102 (t102 == 102) t103 t104) else (if t102=110 then (rX.j0 k t102 (t102 == 110) t103 t104) else (if t102=114 then (rX.j0 k t102 (t102 == 114) t103 t104) else (rX.j0 k t102 (t102 == 116) t103 t104))))))))=some (r1,r2,r3):=H
 have A2:=Ak A20
 clear A20
 have HC3:=Ak H
 clear H
 go_enter Tryz.func186,Tryz.ntmps186
 go_upto_if 8 with (first|((with_reducible refine gate_callee (f:=150) rfl ?_);refine goesL_ (some 7) rfl rfl Tryz.func150 (by kernel_rfl) rfl #[.pointer (some ⟨g,0,none⟩)] rfl oM ?_;(with_reducible refine (rH.calls g s0_0 s0_1 t102 t103 t104 w0 _ ?side1 ?side2 A2.out).mono ?_);(case side1=>exact oI);(case side2=>exact oG);rintro e w4 ⟨rfl,hi,hb,hk⟩;refine ⟨_,rfl,?_⟩;have _:=Ak (KeepBut.trans oK hk (.inl rfl));have _:=Ak (hb);have _:=Ak (hi);clear HK HB HI0;rename_i HK HB HI0;clear hb hk hi))
 (try simp only [Act.put,List.setIfInBounds_toArray,List.set_cons_zero,List.set_cons_succ])
 go_cut [8] (fun v8 wc => ∃ (kq:Nat) (x8_2:Bool),v8 = .bool x8_2∧Aside0 (rX.j0 kq t102 x8_2 t103 t104=some (r1,r2,r3))∧Aside0 (kq≤k)∧Aside0 (IsS152 w0 wc g t103 t104)∧Aside0 (KeepBut w wc g none)∧Aside0 (Below w0.heap.size w0 wc))
 case first =>
  have H:=HC3.out
  clear HC3
  by_cases c5:t102=34
  ·
   rw [if_pos c5] at H
   have c5b0:(t102 == 34)=true:=beq_iff_eq.mpr c5
   have c5b1:(t102 != 34)=false:=bne_eq_false_iff_eq.mpr c5
   clear c5
   (first|rw [c5b0]|(simp only [i64_w,i32_w];rw [c5b0])|skip)
   have H':=Ak H
   clear H
   go_wp2
   go_meet
   case rel=>exact ⟨_,((t102 == 34)),oS,H',⟨by first|omega|exact Nat.le_refl _⟩,⟨oI⟩,⟨oK⟩,⟨oG⟩⟩
  rw [if_neg c5] at H
  have c5b0:(t102 == 34)=false:=beq_eq_false_iff_ne.mpr c5
  have c5b1:(t102 != 34)=true:=bne_iff_ne.mpr c5
  (first|rw [c5b0]|(simp only [i64_w,i32_w];rw [c5b0])|skip)
  by_cases c6:t102=92
  ·
   rw [if_pos c6] at H
   have c6b0:(t102 == 92)=true:=beq_iff_eq.mpr c6
   have c6b1:(t102 != 92)=false:=bne_eq_false_iff_eq.mpr c6
   clear c6
   have H':=Ak H
   clear H
   go_wp2
   go_meet
   case rel=>exact ⟨_,((t102 == 92)),oS,H',⟨by first|omega|exact Nat.le_refl _⟩,⟨oI⟩,⟨oK⟩,⟨oG⟩⟩
  rw [if_neg c6] at H
  have c6b0:(t102 == 92)=false:=beq_eq_false_iff_ne.mpr c6
  have c6b1:(t102 != 92)=true:=bne_iff_ne.mpr c6
  by_cases c7:t102=47
  ·
   rw [if_pos c7] at H
   have c7b0:(t102 == 47)=true:=beq_iff_eq.mpr c7
   have c7b1:(t102 != 47)=false:=bne_eq_false_iff_eq.mpr c7
   clear c7
   have H':=Ak H
   clear H
   go_wp2
   go_meet
   case rel=>exact ⟨_,((t102 == 47)),oS,H',⟨by first|omega|exact Nat.le_refl _⟩,⟨oI⟩,⟨oK⟩,⟨oG⟩⟩
  rw [if_neg c7] at H
  have c7b0:(t102 == 47)=false:=beq_eq_false_iff_ne.mpr c7
  have c7b1:(t102 != 47)=true:=bne_iff_ne.mpr c7
  by_cases c8:t102=98
  ·
   rw [if_pos c8] at H
   have c8b0:(t102 == 98)=true:=beq_iff_eq.mpr c8
   have c8b1:(t102 != 98)=false:=bne_eq_false_iff_eq.mpr c8
   clear c8
   have H':=Ak H
   clear H
   go_wp2
   go_meet
   case rel=>exact ⟨_,((t102 == 98)),oS,H',⟨by first|omega|exact Nat.le_refl _⟩,⟨oI⟩,⟨oK⟩,⟨oG⟩⟩
  rw [if_neg c8] at H
  have c8b0:(t102 == 98)=false:=beq_eq_false_iff_ne.mpr c8
  have c8b1:(t102 != 98)=true:=bne_iff_ne.mpr c8
  by_cases c9:t102=102
  ·
   rw [if_pos c9] at H
   have c9b0:(t102 == 102)=true:=beq_iff_eq.mpr c9
   have c9b1:(t102 != 102)=false:=bne_eq_false_iff_eq.mpr c9
   clear c9
   have H':=Ak H
   clear H
   go_wp2
   go_meet
   case rel=>exact ⟨_,((t102 == 102)),oS,H',⟨by first|omega|exact Nat.le_refl _⟩,⟨oI⟩,⟨oK⟩,⟨oG⟩⟩
  rw [if_neg c9] at H
  have c9b0:(t102 == 102)=false:=beq_eq_false_iff_ne.mpr c9
  have c9b1:(t102 != 102)=true:=bne_iff_ne.mpr c9
  by_cases c10:t102=110
  ·
   rw [if_pos c10] at H
   have c10b0:(t102 == 110)=true:=beq_iff_eq.mpr c10
   have c10b1:(t102 != 110)=false:=bne_eq_false_iff_eq.mpr c10
   clear c10
   have H':=Ak H
   clear H
   go_wp2
   go_meet
   case rel=>exact ⟨_,((t102 == 110)),oS,H',⟨by first|omega|exact Nat.le_refl _⟩,⟨oI⟩,⟨oK⟩,⟨oG⟩⟩
  rw [if_neg c10] at H
  have c10b0:(t102 == 110)=false:=beq_eq_false_iff_ne.mpr c10
  have c10b1:(t102 != 110)=true:=bne_iff_ne.mpr c10
  by_cases c11:t102=114
  ·
   rw [if_pos c11] at H
   have c11b0:(t102 == 114)=true:=beq_iff_eq.mpr c11
   have c11b1:(t102 != 114)=false:=bne_eq_false_iff_eq.mpr c11
   clear c11
   have H':=Ak H
   clear H
   go_wp2
   go_meet
   case rel=>exact ⟨_,((t102 == 114)),oS,H',⟨by first|omega|exact Nat.le_refl _⟩,⟨oI⟩,⟨oK⟩,⟨oG⟩⟩
  rw [if_neg c11] at H
  have c11b0:(t102 == 114)=false:=beq_eq_false_iff_ne.mpr c11
  have c11b1:(t102 != 114)=true:=bne_iff_ne.mpr c11
  have H':=Ak H
  clear H
  go_wp2
  go_meet
  case rel=>exact ⟨_,((t102 == 116)),oS,H',⟨by first|omega|exact Nat.le_refl _⟩,⟨oI⟩,⟨oK⟩,⟨oG⟩⟩
 case rest =>
 clear HC3
 try clear c1
 try clear p2
 try clear c5
 try clear c5b0
 try clear c5b1
 try clear c6
 try clear c6b0
 try clear c6b1
 try clear c7
 try clear c7b0
 try clear c7b1
 try clear c8
 try clear c8b0
 try clear c8b1
 try clear c9
 try clear c9b0
 try clear c9b1
 try clear c10
 try clear c10b0
 try clear c10b1
 try clear c11
 try clear c11b0
 try clear c11b1
 obtain ⟨kq,x8_2,rfl,HA,HJ2,HI0,HK,HB⟩:=hcut
 cases kq with
 | zero=>exact absurd HA.out (by simp [rX.j0])
 | succ kj2 =>
  have H:=HA.out
  clear HA
  simp only [rX.j0] at H
  by_cases c12:x8_2=true
  ·
   subst c12
   have H1:(some (true,t103,wrap64 (t104+1)))=some (r1,r2,r3):=by rw [if_pos rfl] at H;exact H
   clear H
   have H:=H1
   clear H1
   simp only [Option.some.injEq,Prod.mk.injEq] at H
   obtain ⟨rfl,rfl,rfl⟩:=H
   obtain ⟨HGz13,hgz13⟩:=HI0.out
   have hcz13_0:=cellS152_0 HGz13
   have hcz13_1:=cellS152_1 HGz13
   have hfz13_0:=blk_frozen HGz13 0
   have hfz13_1:=blk_frozen HGz13 1
   clear HGz13 hgz13
   go_wp2
   go_ret
   exact ⟨oE,oI,oG,oK⟩
  replace c12:=Bool.eq_false_iff.mpr c12
  subst c12
  have H1:(if t102=117 then (rX.l0 kj2 0 t103 (wrap64 (t104+1))) else (some (false,t103,t104)))=some (r1,r2,r3):=by rw [if_neg (show ¬ (false=true) by decide)] at H;exact H
  clear H
  have H:=H1
  clear H1
  by_cases c14:t102=117
  ·
   rw [if_pos c14] at H
   have c14b0:(t102 == 117)=true:=beq_iff_eq.mpr c14
   have c14b1:(t102 != 117)=false:=bne_eq_false_iff_eq.mpr c14
   clear c14
   have H':=Ak H
   clear H
   obtain ⟨HGz15,hgz15⟩:=HI0.out
   have hcz15_0:=cellS152_0 HGz15
   have hcz15_1:=cellS152_1 HGz15
   have hfz15_0:=blk_frozen HGz15 0
   have hfz15_1:=blk_frozen HGz15 1
   clear HGz15 hgz15
   go_wp2
   (try simp only [Act.put,List.setIfInBounds_toArray,List.set_cons_zero,List.set_cons_succ])
   go_loopg [3] kj2 (fun kq v3 w' => ∃ (x3_2:Int) (x1000_2:ByteArray) (x1001_2:Int),v3 = .int .i64 x3_2∧Aside0 (rX.l0 kq x3_2 x1000_2 x1001_2=some (r1,r2,r3))∧Aside0 (kq≤kj2)∧Aside0 (IsS152 w0 w' g x1000_2 x1001_2)∧Aside0 (KeepBut w w' g none)∧Aside0 (Below w0.heap.size w0 w'))
   case atStart=>exact ⟨(0),(t103),(wrap64 (t104+1)),oS,H',⟨Nat.le_refl _⟩,⟨oI⟩,⟨oK⟩,⟨oG⟩⟩
   case round =>
   clear H'
   try clear c1
   try clear p2
   try clear c5
   try clear c5b0
   try clear c5b1
   try clear c6
   try clear c6b0
   try clear c6b1
   try clear p6
   try clear c7
   try clear c7b0
   try clear c7b1
   try clear c8
   try clear c8b0
   try clear c8b1
   try clear c9
   try clear c9b0
   try clear c9b1
   try clear c10
   try clear c10b0
   try clear c10b1
   try clear c11
   try clear c11b0
   try clear c11b1
   try clear c12
   try clear c14
   try clear c14b0
   try clear c14b1
   try clear c15
   try clear hcz13_0
   try clear hcz13_1
   try clear hcz15_0
   try clear hcz15_1
   try clear hfz13_0
   try clear hfz13_1
   try clear hfz15_0
   try clear hfz15_1
   try clear p2
   obtain ⟨x3_2,x1000_2,x1001_2,rfl,HA,HK2,HI0,HK,HB⟩:=hrel
   cases gk with
   | zero=>exact absurd HA.out (by simp [rX.l0])
   | succ k2 =>
    have H:=HA.out
    clear HA
    simp only [rX.l0] at H
    by_cases c16:x3_2<4
    rotate_left
    ·
     rw [if_neg c16] at H
     have c16b0:decide (x3_2<4)=false:=decide_eq_false c16
     clear c16
     simp only [Option.some.injEq,Prod.mk.injEq] at H
     obtain ⟨rfl,rfl,rfl⟩:=H
     go_wp2
     go_ret
     exact ⟨oE,oI,oG,oK⟩
    rw [if_pos c16] at H
    have c16b0:decide (x3_2<4)=true:=decide_eq_true c16
    clear c16
    replace H:=Option.bind_eq_some_iff.mp H
    obtain ⟨⟨t105,t106,t107⟩,A170,H⟩:=H
    replace H:((sH.f k2 t105).bind fun bt108=>(if bt108.2=true then (rX.l0 k2 (wrap64 (x3_2+1)) t106 (wrap64 (t107+1))) else (some (false,t106,t107))))=some (r1,r2,r3):=H
    have A17:=Ak A170
    clear A170
    replace H:=Option.bind_eq_some_iff.mp H
    obtain ⟨⟨t108,t109⟩,A180,H⟩:=H
    replace H:(if t109=true then (rX.l0 k2 (wrap64 (x3_2+1)) t106 (wrap64 (t107+1))) else (some (false,t106,t107)))=some (r1,r2,r3):=H
    have A18:=Ak A180
    clear A180
    by_cases c19:t109=true
    ·
     subst c19
     have H1:(rX.l0 k2 (wrap64 (x3_2+1)) t106 (wrap64 (t107+1)))=some (r1,r2,r3):=by rw [if_pos rfl] at H;exact H
     clear H
     have H:=H1
     clear H1
     have H':=Ak H
     clear H
     go_wp2_with (first|((with_reducible refine gate_callee (f:=150) rfl ?_);refine goesL_ (some 39) rfl rfl Tryz.func150 (by kernel_rfl) rfl #[.pointer (some ⟨g,0,none⟩)] rfl oM ?_;(with_reducible refine (rH.calls g x1000_2 x1001_2 t105 t106 t107 w0 _ ?side1 ?side2 A17.out).mono ?_);(case side1=>exact oI);(case side2=>exact oG);rintro e w20 ⟨rfl,hi,hb,hk⟩;refine ⟨_,rfl,?_⟩;have _:=Ak (KeepBut.trans oK hk (.inl rfl));have _:=Ak (hb);have _:=Ak (hi);clear HK HB HI0;rename_i HK HB HI0;clear hb hk hi)|((with_reducible refine gate_callee (f:=106) rfl ?_);refine goesL_ (some 40) rfl rfl Tryz.func106 (by kernel_rfl) rfl #[.int .u8 t105] rfl oM ?_;(with_reducible refine (sH.calls k2 t105 t108 true _ A18.out).mono ?_);rintro e w' ⟨rfl,⟨nd,rfl⟩⟩;refine ⟨_,rfl,?_⟩;(try (rw [drewN_self w20];generalize hq_:World.drewN w20 _=w20;have n0_:Aside0 (IsS152 w0 w20 g t106 t107):=⟨by rw [← hq_];exact oI⟩;have n1_:Aside0 (KeepBut w w20 g none):=⟨by rw [← hq_];exact oK⟩;have n2_:Aside0 (Below w0.heap.size w0 w20):=⟨by rw [← hq_];exact oG⟩;clear HI0 HK HB hq_;have HI0:=n0_;have HK:=n1_;have HB:=n2_;clear n0_ n1_ n2_));obtain ⟨HGz21,hgz21⟩:=HI0.out;have hcz21_0:=cellS152_0 HGz21;have hcz21_1:=cellS152_1 HGz21;have hfz21_0:=blk_frozen HGz21 0;have hfz21_1:=blk_frozen HGz21 1;clear HGz21 hgz21))
     go_roundg k2
     case measure=>have:=HJ2.out;have:=HK2.out;omega
     case rel=>exact ⟨(wrap64 (x3_2+1)),(t106),(wrap64 (t107+1)),oS,H',⟨by have:=HJ2.out;have:=HK2.out;omega⟩,⟨oI⟩,⟨oK⟩,⟨oG⟩⟩
    replace c19:=Bool.eq_false_iff.mpr c19
    subst c19
    have H1:(some (false,t106,t107))=some (r1,r2,r3):=by rw [if_neg (show ¬ (false=true) by decide)] at H;exact H
    clear H
    have H:=H1
    clear H1
    simp only [Option.some.injEq,Prod.mk.injEq] at H
    obtain ⟨rfl,rfl,rfl⟩:=H
    go_wp2_with (first|((with_reducible refine gate_callee (f:=150) rfl ?_);refine goesL_ (some 39) rfl rfl Tryz.func150 (by kernel_rfl) rfl #[.pointer (some ⟨g,0,none⟩)] rfl oM ?_;(with_reducible refine (rH.calls g x1000_2 x1001_2 t105 t106 t107 w0 _ ?side1 ?side2 A17.out).mono ?_);(case side1=>exact oI);(case side2=>exact oG);rintro e w22 ⟨rfl,hi,hb,hk⟩;refine ⟨_,rfl,?_⟩;have _:=Ak (KeepBut.trans oK hk (.inl rfl));have _:=Ak (hb);have _:=Ak (hi);clear HK HB HI0;rename_i HK HB HI0;clear hb hk hi)|((with_reducible refine gate_callee (f:=106) rfl ?_);refine goesL_ (some 40) rfl rfl Tryz.func106 (by kernel_rfl) rfl #[.int .u8 t105] rfl oM ?_;(with_reducible refine (sH.calls k2 t105 t108 false _ A18.out).mono ?_);rintro e w' ⟨rfl,⟨nd,rfl⟩⟩;refine ⟨_,rfl,?_⟩))
    go_ret
    exact ⟨oE,oI,oG,oK⟩
  rw [if_neg c14] at H
  have c14b0:(t102 == 117)=false:=beq_eq_false_iff_ne.mpr c14
  have c14b1:(t102 != 117)=true:=bne_iff_ne.mpr c14
  simp only [Option.some.injEq,Prod.mk.injEq] at H
  obtain ⟨rfl,rfl,rfl⟩:=H
  go_wp2
  go_ret
  exact ⟨oE,oI,oG,oK⟩
end Go.Proofs.YtnejkimpkaopoaaGreatDoor.Q

/- Functions of the program as Lean functions, each with a proof that the call comes to what it gives. Written by prx.py (wip/pr). -/
import Derived.Test.YtbkgoccnegjdhaaB0
namespace Go.Proofs.Ytbkgoccnegjdhaa.Q
open Go.RowKit Go.Proofs.YtbkgoccnegjdhaaW.PrintWords Go.Proofs.YtbkgoccnegjdhaaW.PrintLast Go.Proofs.YtbkgoccnegjdhaaW.PrintMore
attribute [local go_sem] max2_int min2_int max_two min_two max_three min_three max_four min_four   -- for this text's walks alone
set_option linter.unusedVariables false
set_option linter.unusedSimpArgs false
/-! ### lZ: function 5 -/
def lZ.f (a0_0:Int) (a0_1:ByteArray) (a0_2:ByteArray) (a0_3:Bool):Option (Bool):=if (a0_1.size:Int)>2147483647 then (some false) else (if (a0_2.size:Int)>2147483647 then (some false) else (some true))
set_option maxHeartbeats 8000000 in
set_option maxRecDepth 100000 in
theorem lZ.calls (a0_0:Int) (a0_1:ByteArray) (a0_2:ByteArray) (a0_3:Bool) (r:Bool) (w:World) (h:lZ.f a0_0 a0_1 a0_2 a0_3=some r) :
 Calls Try.prog 5 #[.agg #[.int .i64 a0_0, .string a0_1, .string a0_2, .bool a0_3]] w fun e w'=>e = .returned (.bool r)∧Below w.heap.size w w':=by
 have hu23:=Try.underlying23
 have HB:=Ak (Below.refl w.heap.size w)
 have H:(if (a0_1.size:Int)>2147483647 then (some false) else (if (a0_2.size:Int)>2147483647 then (some false) else (some true)))=some r:=h
 clear h
 by_cases c2:(a0_1.size:Int)>2147483647
 ·
  rw [if_pos c2] at H
  have c2b0:decide (2147483647<(a0_1.size:Int))=true:=decide_eq_true c2
  have c2b1:decide (2147483647<a0_1.size)=true:=decide_eq_true (by omega)
  clear c2
  obtain rfl:=Option.some.inj H
  go_enter Try.func5,Try.ntmps5
  go_wp2_with (first|((with_reducible refine gate_dst (N:=1) rfl ?_);refine box_event ?hg (N:=1) ?hd (cs := #[.int .i64 a0_0, .string a0_1, .string a0_2, .bool a0_3]) (t:=23) ?hr ?_;(case hd=>rfl);(case hg=>rfl);(case hr=>first|(go_simp;done)|(go_simp;rfl));intro gb101 hg w3 hbox hb;have _:=Ak (below_step oB hb);have _:=Ak (hbox);have _:=Ak ((by rw [hg];exact (below_size oB):w.heap.size≤gb101));have _:=Ak ((by rw [hg];exact (below_size oB):w.heap.size≤gb101));clear HB;rename_i HB BK101 GW101 GE101;clear hb hbox hg;have hcz4_0:w3.cell? ⟨gb101,0,none⟩=some (.int .i64 a0_0):=(blk_cell BK101.out 0).trans rfl;have hcz4_1:w3.cell? ⟨gb101,1,none⟩=some (.string a0_1):=(blk_cell BK101.out 1).trans rfl;have hcz4_2:w3.cell? ⟨gb101,2,none⟩=some (.string a0_2):=(blk_cell BK101.out 2).trans rfl;have hcz4_3:w3.cell? ⟨gb101,3,none⟩=some (.bool a0_3):=(blk_cell BK101.out 3).trans rfl;have hfz4_0:=blk_frozen BK101.out 0;have hfz4_1:=blk_frozen BK101.out 1;have hfz4_2:=blk_frozen BK101.out 2;have hfz4_3:=blk_frozen BK101.out 3))
  go_ret
  exact ⟨oE,oB1 GE101.out⟩
 rw [if_neg c2] at H
 have c2b0:decide (2147483647<(a0_1.size:Int))=false:=decide_eq_false c2
 have c2b1:decide (2147483647<a0_1.size)=false:=decide_eq_false (by omega)
 clear c2
 by_cases c5:(a0_2.size:Int)>2147483647
 ·
  rw [if_pos c5] at H
  have c5b0:decide (2147483647<(a0_2.size:Int))=true:=decide_eq_true c5
  have c5b1:decide (2147483647<a0_2.size)=true:=decide_eq_true (by omega)
  clear c5
  obtain rfl:=Option.some.inj H
  go_enter Try.func5,Try.ntmps5
  go_wp2_with (first|((with_reducible refine gate_dst (N:=1) rfl ?_);refine box_event ?hg (N:=1) ?hd (cs := #[.int .i64 a0_0, .string a0_1, .string a0_2, .bool a0_3]) (t:=23) ?hr ?_;(case hd=>rfl);(case hg=>rfl);(case hr=>first|(go_simp;done)|(go_simp;rfl));intro gb101 hg w6 hbox hb;have _:=Ak (below_step oB hb);have _:=Ak (hbox);have _:=Ak ((by rw [hg];exact (below_size oB):w.heap.size≤gb101));have _:=Ak ((by rw [hg];exact (below_size oB):w.heap.size≤gb101));clear HB;rename_i HB BK101 GW101 GE101;clear hb hbox hg;have hcz7_0:w6.cell? ⟨gb101,0,none⟩=some (.int .i64 a0_0):=(blk_cell BK101.out 0).trans rfl;have hcz7_1:w6.cell? ⟨gb101,1,none⟩=some (.string a0_1):=(blk_cell BK101.out 1).trans rfl;have hcz7_2:w6.cell? ⟨gb101,2,none⟩=some (.string a0_2):=(blk_cell BK101.out 2).trans rfl;have hcz7_3:w6.cell? ⟨gb101,3,none⟩=some (.bool a0_3):=(blk_cell BK101.out 3).trans rfl;have hfz7_0:=blk_frozen BK101.out 0;have hfz7_1:=blk_frozen BK101.out 1;have hfz7_2:=blk_frozen BK101.out 2;have hfz7_3:=blk_frozen BK101.out 3))
  go_ret
  exact ⟨oE,oB1 GE101.out⟩
 rw [if_neg c5] at H
 have c5b0:decide (2147483647<(a0_2.size:Int))=false:=decide_eq_false c5
 have c5b1:decide (2147483647<a0_2.size)=false:=decide_eq_false (by omega)
 clear c5
 obtain rfl:=Option.some.inj H
 go_enter Try.func5,Try.ntmps5
 go_wp2_with (first|((with_reducible refine gate_dst (N:=1) rfl ?_);refine box_event ?hg (N:=1) ?hd (cs := #[.int .i64 a0_0, .string a0_1, .string a0_2, .bool a0_3]) (t:=23) ?hr ?_;(case hd=>rfl);(case hg=>rfl);(case hr=>first|(go_simp;done)|(go_simp;rfl));intro gb101 hg w8 hbox hb;have _:=Ak (below_step oB hb);have _:=Ak (hbox);have _:=Ak ((by rw [hg];exact (below_size oB):w.heap.size≤gb101));have _:=Ak ((by rw [hg];exact (below_size oB):w.heap.size≤gb101));clear HB;rename_i HB BK101 GW101 GE101;clear hb hbox hg;have hcz9_0:w8.cell? ⟨gb101,0,none⟩=some (.int .i64 a0_0):=(blk_cell BK101.out 0).trans rfl;have hcz9_1:w8.cell? ⟨gb101,1,none⟩=some (.string a0_1):=(blk_cell BK101.out 1).trans rfl;have hcz9_2:w8.cell? ⟨gb101,2,none⟩=some (.string a0_2):=(blk_cell BK101.out 2).trans rfl;have hcz9_3:w8.cell? ⟨gb101,3,none⟩=some (.bool a0_3):=(blk_cell BK101.out 3).trans rfl;have hfz9_0:=blk_frozen BK101.out 0;have hfz9_1:=blk_frozen BK101.out 1;have hfz9_2:=blk_frozen BK101.out 2;have hfz9_3:=blk_frozen BK101.out 3))
 go_ret
 exact ⟨oE,oB1 GE101.out⟩
/-! ### sB: function 31 -/
def sB.f (a0:Int):Option (Bool):=if a0=32 then (some true) else (if a0=9 then (some true) else (if a0=10 then (some true) else (some (a0 == 13))))
set_option maxHeartbeats 8000000 in
set_option maxRecDepth 100000 in
theorem sB.calls (a0:Int) (r:Bool) (w:World) (h:sB.f a0=some r) :
 Calls Try.prog 31 #[.int .u8 a0] w fun e w'=>e = .returned (.bool r)∧Drawn0 w w':=by
 have H:(if a0=32 then (some true) else (if a0=9 then (some true) else (if a0=10 then (some true) else (some (a0 == 13)))))=some r:=h
 clear h
 by_cases c2:a0=32
 ·
  rw [if_pos c2] at H
  have c2b0:(a0 == 32)=true:=beq_iff_eq.mpr c2
  have c2b1:(a0 != 32)=false:=bne_eq_false_iff_eq.mpr c2
  clear c2
  obtain rfl:=Option.some.inj H
  go_enter Try.func31,Try.ntmps31
  go_wp2
  go_ret
  exact ⟨oS,by repeat (first|exact Drawn0.refl _|apply Drawn0.step)⟩
 rw [if_neg c2] at H
 have c2b0:(a0 == 32)=false:=beq_eq_false_iff_ne.mpr c2
 have c2b1:(a0 != 32)=true:=bne_iff_ne.mpr c2
 by_cases c3:a0=9
 ·
  rw [if_pos c3] at H
  have c3b0:(a0 == 9)=true:=beq_iff_eq.mpr c3
  have c3b1:(a0 != 9)=false:=bne_eq_false_iff_eq.mpr c3
  clear c3
  obtain rfl:=Option.some.inj H
  go_enter Try.func31,Try.ntmps31
  go_wp2
  go_ret
  exact ⟨oS,by repeat (first|exact Drawn0.refl _|apply Drawn0.step)⟩
 rw [if_neg c3] at H
 have c3b0:(a0 == 9)=false:=beq_eq_false_iff_ne.mpr c3
 have c3b1:(a0 != 9)=true:=bne_iff_ne.mpr c3
 by_cases c4:a0=10
 ·
  rw [if_pos c4] at H
  have c4b0:(a0 == 10)=true:=beq_iff_eq.mpr c4
  have c4b1:(a0 != 10)=false:=bne_eq_false_iff_eq.mpr c4
  clear c4
  obtain rfl:=Option.some.inj H
  go_enter Try.func31,Try.ntmps31
  go_wp2
  go_ret
  exact ⟨oS,by repeat (first|exact Drawn0.refl _|apply Drawn0.step)⟩
 rw [if_neg c4] at H
 have c4b0:(a0 == 10)=false:=beq_eq_false_iff_ne.mpr c4
 have c4b1:(a0 != 10)=true:=bne_iff_ne.mpr c4
 obtain rfl:=Option.some.inj H
 go_enter Try.func31,Try.ntmps31
 go_wp2
 go_ret
 exact ⟨oS,by repeat (first|exact Drawn0.refl _|apply Drawn0.step)⟩
/-- A state of type 54 at block g of W; what its slices lead to came in by w0. -/
def IsS54 (w0 W:World) (g:Nat) (f0:ByteArray) (f1:Int):Prop:=W.heap[g]? = some (.cells #[.string f0, .int .i64 f1] 54 (0,0))∧w0.heap.size≤g
theorem IsS54.grown {w0 W:World} {g:Nat} {f0:ByteArray} {f1:Int} {W1:World} {row:Option Nat} (h:IsS54 w0 W g f0 f1) (hw:W.grownBy W1 row) (hne:some g≠row):IsS54 w0 W1 g f0 f1:=by
 obtain ⟨hb,hg⟩:=h
 exact ⟨blk_grown hb hw hne,hg⟩
theorem IsS54.own_neN {w0 W:World} {g:Nat} {f0:ByteArray} {f1:Int} {α:Type} {d:Kd α} {e:Nat} {base:Nat} {ok:Nat→Prop} {v:Value} {xs:List α} (h:IsS54 w0 W g f0 f1) (ho:Kd.N d e W base ok v xs) (ht:e≠54):some g≠v.ownBlock:=by
 obtain ⟨hb,hg⟩:=h
 exact Kd.N_ne ho hb ht
theorem IsS54.fresh {w0 W:World} {g:Nat} {f0:ByteArray} {f1:Int} (h:IsS54 w0 W g f0 f1) : ∀ k,W.heap.size≤k→k≠g:=by
 obtain ⟨hb,hg⟩:=h
 exact Kd.freshB hb
theorem IsS54.kept {w0 W:World} {g:Nat} {f0:ByteArray} {f1:Int} {W1:World} {S:Nat→Prop} (h:IsS54 w0 W g f0 f1) (hk:Kept W W1 S) (hne : ¬ S g):IsS54 w0 W1 g f0 f1:=by
 obtain ⟨hb,hg⟩:=h
 exact ⟨blk_kept hb hk hne,hg⟩
theorem IsS54.below {w0 W:World} {g:Nat} {f0:ByteArray} {f1:Int} {W1:World} (h:IsS54 w0 W g f0 f1) (hw:Below W.heap.size W W1):IsS54 w0 W1 g f0 f1:=h.grown (grown_of_below hw none) (by simp)
theorem IsS54.alloc {w0 W:World} {g:Nat} {f0:ByteArray} {f1:Int} (h:IsS54 w0 W g f0 f1) (o:Obj):IsS54 w0 (W.alloc o) g f0 f1:=h.below (below_alloc (Below.refl _ _) o)
theorem IsS54.drewN {w0 W:World} {g:Nat} {f0:ByteArray} {f1:Int} (h:IsS54 w0 W g f0 f1) (m:Nat):IsS54 w0 (W.drewN m) g f0 f1:=h
theorem IsS54.drew {w0 W:World} {g:Nat} {f0:ByteArray} {f1:Int} (h:IsS54 w0 W g f0 f1):IsS54 w0 W.drew g f0 f1:=h
theorem IsS54.at_ {w0 W:World} {g:Nat} {f0:ByteArray} {f1:Int} {w':World} {m:Nat} (hq:W.drewN m=w') (h:IsS54 w0 W g f0 f1):IsS54 w0 w' g f0 f1:=by subst hq;exact IsS54.drewN h m
theorem IsS54.apart {w0 W:World} {g:Nat} {f0:ByteArray} {f1:Int} {α:Type} {d:Kd α} {e:Nat} {base:Nat} {ok:Nat→Prop} {v:Value} {xs:List α} (h:IsS54 w0 W g f0 f1) (ho:d.R e W base ok v xs) (ht : ∀ q,q ∈ e :: d.E→q≠54):d.R e W base (fun k=>ok k∧k≠g) v xs:=by
 obtain ⟨hb,hg⟩:=h
 exact Kd.R_types ho hb ht
theorem IsS54.own_ne {w0 W:World} {g:Nat} {f0:ByteArray} {f1:Int} {α:Type} {d:Kd α} {e:Nat} {base:Nat} {ok:Nat→Prop} {v:Value} {xs:List α} (h:IsS54 w0 W g f0 f1) (ho:d.R e W base ok v xs) (ht:e≠54):some g≠v.ownBlock:=by
 obtain ⟨hb,hg⟩:=h
 exact Kd.R_ne ho hb ht
theorem IsS54.apartQ {w0 W:World} {g:Nat} {f0:ByteArray} {f1:Int} {α:Type} {d:Kd α} {e:Nat} {base:Nat} {ok:Nat→Prop} {v:Value} {xs:List α} (h:IsS54 w0 W g f0 f1) (ho:d.Q e W base ok v xs) (ht : ∀ q,q ∈ e :: d.E→q≠54):d.Q e W base (fun k=>ok k∧k≠g) v xs:=by
 obtain ⟨hb,hg⟩:=h
 exact Kd.Q_types ho hb ht
theorem IsS54.own_neQ {w0 W:World} {g:Nat} {f0:ByteArray} {f1:Int} {α:Type} {d:Kd α} {e:Nat} {base:Nat} {ok:Nat→Prop} {v:Value} {xs:List α} (h:IsS54 w0 W g f0 f1) (ho:d.Q e W base ok v xs) (ht:e≠54):some g≠v.ownBlock:=by
 obtain ⟨hb,hg⟩:=h
 exact Kd.Q_ne ho hb ht
theorem IsS54.apartS {w0 W:World} {g:Nat} {f0:ByteArray} {f1:Int} {α:Type} {d:Kd α} {e:Nat} {base:Nat} {ok:Nat→Prop} {v:Value} {xs:List α} (h:IsS54 w0 W g f0 f1) (ho:d.S e W base ok v xs) (ht : ∀ q,q ∈ e :: d.E→q≠54):d.S e W base (fun k=>ok k∧k≠g) v xs:=by
 obtain ⟨hb,hg⟩:=h
 exact Kd.S_types ho hb ht
theorem IsS54.own_neS {w0 W:World} {g:Nat} {f0:ByteArray} {f1:Int} {α:Type} {d:Kd α} {e:Nat} {base:Nat} {ok:Nat→Prop} {v:Value} {xs:List α} (h:IsS54 w0 W g f0 f1) (ho:d.S e W base ok v xs) (ht:e≠54):some g≠v.ownBlock:=by
 obtain ⟨hb,hg⟩:=h
 exact Kd.S_ne ho hb ht
theorem IsS54.lt {w0 W:World} {g:Nat} {f0:ByteArray} {f1:Int} (h:IsS54 w0 W g f0 f1):g<W.heap.size:=by
 obtain ⟨hb,hg⟩:=h
 exact blk_lt hb
theorem IsS54.ge {w0 W:World} {g:Nat} {f0:ByteArray} {f1:Int} (h:IsS54 w0 W g f0 f1):w0.heap.size≤g:=by
 obtain ⟨hb,hg⟩:=h
 exact hg
theorem IsS54.ne_blk {w0 W:World} {g:Nat} {f0:ByteArray} {f1:Int} {a:Nat} {cs:Array Value} {t:TypeId} {fr:Nat × Nat} (h:IsS54 w0 W g f0 f1) (hb2:W.heap[a]? = some (.cells cs t fr)) (ht:t≠54):g≠a:=by
 obtain ⟨hb,hg⟩:=h
 rintro rfl
 rw [hb] at hb2
 injection hb2 with hb2
 injection hb2 with _ ht2
 exact ht ht2.symm
theorem IsS54.far {w0 W:World} {g:Nat} {f0:ByteArray} {f1:Int} {p:Addr} (h:IsS54 w0 W g f0 f1) (hne:g≠p.block) (u:Value):IsS54 w0 (W.setCell p u) g f0 f1:=by
 obtain ⟨hb,hg⟩:=h
 exact ⟨blk_far hb hne u,hg⟩
theorem cellS54_0 {W:World} {g:Nat} {f0:ByteArray} {f1:Int} (h:W.heap[g]? = some (.cells #[.string f0, .int .i64 f1] 54 (0,0))):W.cell? ⟨g,0,none⟩=some (.string f0):=(blk_cell h 0).trans rfl
theorem IsS54.set_0 {w0 W:World} {g:Nat} {f0:ByteArray} {f1:Int} (h:IsS54 w0 W g f0 f1) (x:ByteArray):IsS54 w0 (W.setCell ⟨g,0,none⟩ (.string x)) g x f1:=by
 obtain ⟨hb,hg⟩:=h
 exact ⟨by simpa using blk_set hb 0 (.string x),hg⟩
theorem cellS54_1 {W:World} {g:Nat} {f0:ByteArray} {f1:Int} (h:W.heap[g]? = some (.cells #[.string f0, .int .i64 f1] 54 (0,0))):W.cell? ⟨g,1,none⟩=some (.int .i64 f1):=(blk_cell h 1).trans rfl
theorem IsS54.set_1 {w0 W:World} {g:Nat} {f0:ByteArray} {f1:Int} (h:IsS54 w0 W g f0 f1) (x:Int):IsS54 w0 (W.setCell ⟨g,1,none⟩ (.int .i64 x)) g f0 x:=by
 obtain ⟨hb,hg⟩:=h
 exact ⟨by simpa using blk_set hb 1 (.int .i64 x),hg⟩
theorem IsS54.new (w0 W:World) (f0:ByteArray) (f1:Int) (hB:Below w0.heap.size w0 W):IsS54 w0 (W.alloc (.cells #[.string f0, .int .i64 f1] 54)) W.heap.size f0 f1:=⟨by simpa using heap_alloc_new W _,hB.size⟩
/-! ### rB: function 19 -/
def rB.l0:Nat→ByteArray→Int→Option (ByteArray × Int)
  | 0,_,_=>none
  | k+1,x1000,x1001=>if x1001<(x1000.size:Int) then (if 0≤x1001 then ((sB.f (bt x1000 x1001)).bind fun t102=>(if t102=true then (rB.l0 k x1000 (wrap64 (x1001+1))) else (some (x1000,x1001)))) else (none)) else (some (x1000,x1001))
def rB.f (k:Nat) (s0_0:ByteArray) (s0_1:Int):Option (ByteArray × Int):=rB.l0 k s0_0 s0_1
theorem rB.mono_l : ∀ k,(∀ y0 y1,LeO (rB.l0 k y0 y1) (rB.l0 (k+1) y0 y1))
  | 0=>fun _ _ r h=>by simp [rB.l0] at h
  | k+1=>by
    have ih0:=rB.mono_l k
    · intro y0 y1
      unfold rB.l0
      repeat' first|(with_reducible first|apply ih0|apply LeO.refl|apply LeO.none|refine LeO.ite ?_ ?_|refine LeO.bind ?_ (fun _=>?_))|apply ih0|apply LeO.none|refine LeO.ite ?_ ?_|refine LeO.bind ?_ (fun _=>?_)
theorem rB.mono : ∀ a0 a1 k,LeO (rB.f k a0 a1) (rB.f (k+1) a0 a1):=by
 intro a0 a1 k
 have ih0:=rB.mono_l k
 unfold rB.f
 repeat' first|(with_reducible first|apply ih0|apply LeO.refl|apply LeO.none|refine LeO.ite ?_ ?_|refine LeO.bind ?_ (fun _=>?_))|apply ih0|apply LeO.none|refine LeO.ite ?_ ?_|refine LeO.bind ?_ (fun _=>?_)
set_option maxHeartbeats 8000000 in
set_option maxRecDepth 100000 in
theorem rB.calls (k:Nat) (g:Nat) (s0_0:ByteArray) (s0_1:Int) (r1:ByteArray) (r2:Int) (w0 w:World) (hI:IsS54 w0 w g s0_0 s0_1) (hB:Below w0.heap.size w0 w) (h:rB.f k s0_0 s0_1=some (r1,r2)) :
 Calls Try.prog 19 #[.pointer (some ⟨g,0,none⟩)] w fun e w'=>e = .returned (.tuple #[])∧IsS54 w0 w' g r1 r2∧Below w0.heap.size w0 w'∧KeepBut w w' g none:=by
 have HI0:=Ak hI
 have HK:=Ak (KeepBut.refl w g none)
 have HL:=Ak hB.size
 clear hI
 have HW0:=Ak hB.size
 have HB:=Ak hB
 clear hB
 have H:(rB.l0 k s0_0 s0_1)=some (r1,r2):=h
 clear h
 have H':=Ak H
 clear H
 go_enter Try.func19,Try.ntmps19
 go_wp2
 repeat (go_quiet (fail);try go_wp2)
 (try simp only [Act.put,List.setIfInBounds_toArray,List.set_cons_zero,List.set_cons_succ])
 go_loopg [] k (fun kq w' => ∃ (x1001_1:Int),Aside0 (rB.l0 kq s0_0 x1001_1=some (r1,r2))∧Aside0 (kq≤k)∧Aside0 (IsS54 w0 w' g s0_0 x1001_1)∧Aside0 (KeepBut w w' g none)∧Aside0 (Below w0.heap.size w0 w'))
 case atStart=>exact ⟨(s0_1),H',⟨Nat.le_refl _⟩,⟨oI⟩,⟨oK⟩,⟨oG⟩⟩
 case round =>
 clear H'
 obtain ⟨x1001_1,HA,HK1,HI0,HK,HB⟩:=hrel
 cases gk with
 | zero=>exact absurd HA.out (by simp [rB.l0])
 | succ k1 =>
  have H:=HA.out
  clear HA
  simp only [rB.l0] at H
  by_cases c2:x1001_1<(s0_0.size:Int)
  rotate_left
  ·
   rw [if_neg c2] at H
   have c2b0:decide (x1001_1<(s0_0.size:Int))=false:=decide_eq_false c2
   clear c2
   simp only [Option.some.injEq,Prod.mk.injEq] at H
   obtain ⟨rfl,rfl⟩:=H
   obtain ⟨HGz9,hgz9⟩:=HI0.out
   have hcz9_0:=cellS54_0 HGz9
   have hcz9_1:=cellS54_1 HGz9
   have hfz9_0:=blk_frozen HGz9 0
   have hfz9_1:=blk_frozen HGz9 1
   clear HGz9 hgz9
   go_wp2
   repeat (go_quiet (fail);try go_wp2)
   first|go_end0|((try simp only [Exit.inBlock,Exit.then]);refine bodyPost_ret (results_none rfl _ _ _) rfl ?_)
   exact ⟨oE,oI,oG,oK⟩
  rw [if_pos c2] at H
  have c2b0:decide (x1001_1<(s0_0.size:Int))=true:=decide_eq_true c2
  clear c2
  by_cases c3:0≤x1001_1
  ·
   rw [if_pos c3] at H
   have c3b0:decide (0≤x1001_1)=true:=decide_eq_true c3
   clear c3
   replace H:=Option.bind_eq_some_iff.mp H
   obtain ⟨t102,A50,H⟩:=H
   replace H:(if t102=true then (rB.l0 k1 s0_0 (wrap64 (x1001_1+1))) else (some (s0_0,x1001_1)))=some (r1,r2):=H
   have A5:=Ak A50
   clear A50
   by_cases c6:t102=true
   ·
    subst c6
    have H1:(rB.l0 k1 s0_0 (wrap64 (x1001_1+1)))=some (r1,r2):=by rw [if_pos rfl] at H;exact H
    clear H
    have H:=H1
    clear H1
    have H':=Ak H
    clear H
    obtain ⟨HGz7,hgz7⟩:=HI0.out
    have hcz7_0:=cellS54_0 HGz7
    have hcz7_1:=cellS54_1 HGz7
    have hfz7_0:=blk_frozen HGz7 0
    have hfz7_1:=blk_frozen HGz7 1
    clear HGz7 hgz7
    have p4:0≤(x1001_1:Int):=of_decide_eq_true oA
    have q4:x1001_1<(s0_0.size:Int):=of_decide_eq_true oA
    have hx4:=bt_at s0_0 x1001_1
    replace p4:=eq_true p4
    replace q4:=eq_true q4
    go_wp2_with (first|(go_at_call 31;(with_reducible refine (sB.calls (bt s0_0 x1001_1) true _ A5.out).mono ?_);rintro e w' ⟨rfl,⟨nd,rfl⟩⟩;(try first|exact ⟨rfl,_,World.drewN_drewN _ _ _⟩|exact ⟨rfl,_,Eq.trans (World.drewN_drewN _ _ _) (congrArg (World.drewN _) (Nat.add_assoc _ _ _))⟩)))
    repeat (go_quiet (first|(go_at_call 31;(with_reducible refine (sB.calls (bt s0_0 x1001_1) true _ A5.out).mono ?_);rintro e w' ⟨rfl,⟨nd,rfl⟩⟩;(try first|exact ⟨rfl,_,World.drewN_drewN _ _ _⟩|exact ⟨rfl,_,Eq.trans (World.drewN_drewN _ _ _) (congrArg (World.drewN _) (Nat.add_assoc _ _ _))⟩)));try go_wp2_with (first|(go_at_call 31;(with_reducible refine (sB.calls (bt s0_0 x1001_1) true _ A5.out).mono ?_);rintro e w' ⟨rfl,⟨nd,rfl⟩⟩;(try first|exact ⟨rfl,_,World.drewN_drewN _ _ _⟩|exact ⟨rfl,_,Eq.trans (World.drewN_drewN _ _ _) (congrArg (World.drewN _) (Nat.add_assoc _ _ _))⟩))))
    go_roundg k1
    case measure=>have:=HK1.out;omega
    case rel=>exact ⟨(wrap64 (x1001_1+1)),H',⟨by have:=HK1.out;omega⟩,⟨oI⟩,⟨oK⟩,⟨oG⟩⟩
   replace c6:=Bool.eq_false_iff.mpr c6
   subst c6
   have H1:(some (s0_0,x1001_1))=some (r1,r2):=by rw [if_neg (show ¬ (false=true) by decide)] at H;exact H
   clear H
   have H:=H1
   clear H1
   simp only [Option.some.injEq,Prod.mk.injEq] at H
   obtain ⟨rfl,rfl⟩:=H
   obtain ⟨HGz8,hgz8⟩:=HI0.out
   have hcz8_0:=cellS54_0 HGz8
   have hcz8_1:=cellS54_1 HGz8
   have hfz8_0:=blk_frozen HGz8 0
   have hfz8_1:=blk_frozen HGz8 1
   clear HGz8 hgz8
   have p4:0≤(x1001_1:Int):=of_decide_eq_true oA
   have q4:x1001_1<(s0_0.size:Int):=of_decide_eq_true oA
   have hx4:=bt_at s0_0 x1001_1
   replace p4:=eq_true p4
   replace q4:=eq_true q4
   go_wp2_with (first|(go_at_call 31;(with_reducible refine (sB.calls (bt s0_0 x1001_1) false _ A5.out).mono ?_);rintro e w' ⟨rfl,⟨nd,rfl⟩⟩;(try first|exact ⟨rfl,_,World.drewN_drewN _ _ _⟩|exact ⟨rfl,_,Eq.trans (World.drewN_drewN _ _ _) (congrArg (World.drewN _) (Nat.add_assoc _ _ _))⟩)))
   repeat (go_quiet (first|(go_at_call 31;(with_reducible refine (sB.calls (bt s0_0 x1001_1) false _ A5.out).mono ?_);rintro e w' ⟨rfl,⟨nd,rfl⟩⟩;(try first|exact ⟨rfl,_,World.drewN_drewN _ _ _⟩|exact ⟨rfl,_,Eq.trans (World.drewN_drewN _ _ _) (congrArg (World.drewN _) (Nat.add_assoc _ _ _))⟩)));try go_wp2_with (first|(go_at_call 31;(with_reducible refine (sB.calls (bt s0_0 x1001_1) false _ A5.out).mono ?_);rintro e w' ⟨rfl,⟨nd,rfl⟩⟩;(try first|exact ⟨rfl,_,World.drewN_drewN _ _ _⟩|exact ⟨rfl,_,Eq.trans (World.drewN_drewN _ _ _) (congrArg (World.drewN _) (Nat.add_assoc _ _ _))⟩))))
   first|go_end0|((try simp only [Exit.inBlock,Exit.then]);refine bodyPost_ret (results_none rfl _ _ _) rfl ?_)
   exact ⟨oE,oI,oG,oK⟩
  rw [if_neg c3] at H
  exact absurd H (by simp)
/-! ### rH: function 32 -/
def rH.f (s0_0:ByteArray) (s0_1:Int):Option (Int × ByteArray × Int):=if s0_1<(s0_0.size:Int) then (if 0≤s0_1 then (some (bt s0_0 s0_1,s0_0,s0_1)) else (none)) else (some (0,s0_0,s0_1))
set_option maxHeartbeats 8000000 in
set_option maxRecDepth 100000 in
theorem rH.calls (g:Nat) (s0_0:ByteArray) (s0_1:Int) (r1:Int) (r2:ByteArray) (r3:Int) (w0 w:World) (hI:IsS54 w0 w g s0_0 s0_1) (hB:Below w0.heap.size w0 w) (h:rH.f s0_0 s0_1=some (r1,r2,r3)) :
 Calls Try.prog 32 #[.pointer (some ⟨g,0,none⟩)] w fun e w'=>e = .returned (.int .u8 r1)∧IsS54 w0 w' g r2 r3∧Below w0.heap.size w0 w'∧KeepBut w w' g none:=by
 have HI0:=Ak hI
 have HK:=Ak (KeepBut.refl w g none)
 have HL:=Ak hB.size
 clear hI
 have HW0:=Ak hB.size
 have HB:=Ak hB
 clear hB
 have H:(if s0_1<(s0_0.size:Int) then (if 0≤s0_1 then (some (bt s0_0 s0_1,s0_0,s0_1)) else (none)) else (some (0,s0_0,s0_1)))=some (r1,r2,r3):=h
 clear h
 by_cases c2:s0_1<(s0_0.size:Int)
 rotate_left
 ·
  rw [if_neg c2] at H
  have c2b0:decide (s0_1<(s0_0.size:Int))=false:=decide_eq_false c2
  clear c2
  simp only [Option.some.injEq,Prod.mk.injEq] at H
  obtain ⟨rfl,rfl,rfl⟩:=H
  obtain ⟨HGz6,hgz6⟩:=HI0.out
  have hcz6_0:=cellS54_0 HGz6
  have hcz6_1:=cellS54_1 HGz6
  have hfz6_0:=blk_frozen HGz6 0
  have hfz6_1:=blk_frozen HGz6 1
  clear HGz6 hgz6
  go_enter Try.func32,Try.ntmps32
  go_wp2
  repeat (go_quiet (fail);try go_wp2)
  go_ret
  exact ⟨oE,oI,oG,oK⟩
 rw [if_pos c2] at H
 have c2b0:decide (s0_1<(s0_0.size:Int))=true:=decide_eq_true c2
 clear c2
 by_cases c3:0≤s0_1
 ·
  rw [if_pos c3] at H
  have c3b0:decide (0≤s0_1)=true:=decide_eq_true c3
  clear c3
  simp only [Option.some.injEq,Prod.mk.injEq] at H
  obtain ⟨rfl,rfl,rfl⟩:=H
  obtain ⟨HGz5,hgz5⟩:=HI0.out
  have hcz5_0:=cellS54_0 HGz5
  have hcz5_1:=cellS54_1 HGz5
  have hfz5_0:=blk_frozen HGz5 0
  have hfz5_1:=blk_frozen HGz5 1
  clear HGz5 hgz5
  have p4:0≤(s0_1:Int):=of_decide_eq_true oA
  have q4:s0_1<(s0_0.size:Int):=of_decide_eq_true oA
  have hx4:=bt_at s0_0 s0_1
  replace p4:=eq_true p4
  replace q4:=eq_true q4
  go_enter Try.func32,Try.ntmps32
  go_wp2
  repeat (go_quiet (fail);try go_wp2)
  go_ret
  exact ⟨oE,oI,oG,oK⟩
 rw [if_neg c3] at H
 exact absurd H (by simp)
/-! ### sH: function 42 -/
mutual
def sH.j0:Nat→Int→Bool→Option (Int × Bool)
  | 0,_,_=>none
  | k+1,x0,x4=>if x4=true then (some ((x0 - 48) % 256,true)) else (if 97≤x0 then (sH.j1 k x0 (decide (x0≤102))) else (sH.j1 k x0 false))
def sH.j1:Nat→Int→Bool→Option (Int × Bool)
  | 0,_,_=>none
  | k+1,x0,x14=>if x14=true then (some (((x0 - 97) % 256)+10,true)) else (if 65≤x0 then (if x0≤70 then (some (((x0 - 65) % 256)+10,true)) else (some (0,false))) else (some (0,false)))
end
def sH.f (k:Nat) (a0:Int):Option (Int × Bool):=if 48≤a0 then (sH.j0 k a0 (decide (a0≤57))) else (sH.j0 k a0 false)
theorem sH.mono_l : ∀ k,(∀ y0 y1,LeO (sH.j0 k y0 y1) (sH.j0 (k+1) y0 y1))∧(∀ y0 y1,LeO (sH.j1 k y0 y1) (sH.j1 (k+1) y0 y1))
  | 0=>⟨fun _ _ r h=>by simp [sH.j0] at h,fun _ _ r h=>by simp [sH.j1] at h⟩
  | k+1=>by
    obtain ⟨ih0,ih1⟩:=sH.mono_l k
    refine ⟨?_,?_⟩
    · intro y0 y1
      unfold sH.j0
      repeat' first|(with_reducible first|apply ih0|apply ih1|apply LeO.refl|apply LeO.none|refine LeO.ite ?_ ?_|refine LeO.bind ?_ (fun _=>?_))|apply ih0|apply ih1|apply LeO.none|refine LeO.ite ?_ ?_|refine LeO.bind ?_ (fun _=>?_)
    · intro y0 y1
      unfold sH.j1
      repeat' first|(with_reducible first|apply ih0|apply ih1|apply LeO.refl|apply LeO.none|refine LeO.ite ?_ ?_|refine LeO.bind ?_ (fun _=>?_))|apply ih0|apply ih1|apply LeO.none|refine LeO.ite ?_ ?_|refine LeO.bind ?_ (fun _=>?_)
theorem sH.mono : ∀ a0 k,LeO (sH.f k a0) (sH.f (k+1) a0):=by
 intro a0 k
 obtain ⟨ih0,ih1⟩:=sH.mono_l k
 unfold sH.f
 repeat' first|(with_reducible first|apply ih0|apply ih1|apply LeO.refl|apply LeO.none|refine LeO.ite ?_ ?_|refine LeO.bind ?_ (fun _=>?_))|apply ih0|apply ih1|apply LeO.none|refine LeO.ite ?_ ?_|refine LeO.bind ?_ (fun _=>?_)
set_option maxHeartbeats 8000000 in
set_option maxRecDepth 100000 in
theorem sH.calls (k:Nat) (a0:Int) (r1:Int) (r2:Bool) (w:World) (h:sH.f k a0=some (r1,r2)) :
 Calls Try.prog 42 #[.int .u8 a0] w fun e w'=>e = .returned (.tuple #[.int .i64 r1, .bool r2])∧Drawn0 w w':=by
 have H:(if 48≤a0 then (sH.j0 k a0 (decide (a0≤57))) else (sH.j0 k a0 false))=some (r1,r2):=h
 clear h
 have HC2:=Ak H
 clear H
 go_enter Try.func42,Try.ntmps42
 go_upto_region 1 with (fail)
 go_cut [4] (fun v4 wc => ∃ (kq:Nat) (x4_1:Bool),v4 = .bool x4_1∧Aside0 (sH.j0 kq a0 x4_1=some (r1,r2))∧Aside0 (kq≤k)∧Drawn0 w wc)
 case first =>
  have H:=HC2.out
  clear HC2
  by_cases c3:48≤a0
  ·
   rw [if_pos c3] at H
   have c3b0:decide (48≤a0)=true:=decide_eq_true c3
   clear c3
   (first|rw [c3b0]|(simp only [i64_w,i32_w];rw [c3b0])|skip)
   have H':=Ak H
   clear H
   go_wp2
   go_meet
   case rel=>exact ⟨_,(decide (a0≤57)),oS,H',⟨by first|omega|exact Nat.le_refl _⟩,by repeat (first|exact Drawn0.refl _|apply Drawn0.step)⟩
  rw [if_neg c3] at H
  have c3b0:decide (48≤a0)=false:=decide_eq_false c3
  clear c3
  (first|rw [c3b0]|(simp only [i64_w,i32_w];rw [c3b0])|skip)
  have H':=Ak H
  clear H
  go_wp2
  go_meet
  case rel=>exact ⟨_,(false),oS,H',⟨by first|omega|exact Nat.le_refl _⟩,by repeat (first|exact Drawn0.refl _|apply Drawn0.step)⟩
 case rest =>
 clear HC2
 obtain ⟨kq,x4_1,rfl,HA,HJ1,⟨mc1,rfl⟩⟩:=hcut
 cases kq with
 | zero=>exact absurd HA.out (by simp [sH.j0])
 | succ kj1 =>
  have H:=HA.out
  clear HA
  simp only [sH.j0] at H
  by_cases c4:x4_1=true
  ·
   subst c4
   have H1:(some ((a0 - 48) % 256,true))=some (r1,r2):=by rw [if_pos rfl] at H;exact H
   clear H
   have H:=H1
   clear H1
   simp only [Option.some.injEq,Prod.mk.injEq] at H
   obtain ⟨rfl,rfl⟩:=H
   go_wp2
   go_ret2
   exact ⟨oS,by repeat (first|exact Drawn0.refl _|apply Drawn0.step)⟩
  replace c4:=Bool.eq_false_iff.mpr c4
  subst c4
  have H1:(if 97≤a0 then (sH.j1 kj1 a0 (decide (a0≤102))) else (sH.j1 kj1 a0 false))=some (r1,r2):=by rw [if_neg (show ¬ (false=true) by decide)] at H;exact H
  clear H
  have H:=H1
  clear H1
  have HC5:=Ak H
  clear H
  go_upto_region 3 with (fail)
  go_cut [14] (fun v14 wc => ∃ (kq:Nat) (x14_4:Bool),v14 = .bool x14_4∧Aside0 (sH.j1 kq a0 x14_4=some (r1,r2))∧Aside0 (kq≤kj1)∧Drawn0 w wc)
  case first =>
   have H:=HC5.out
   clear HC5
   by_cases c6:97≤a0
   ·
    rw [if_pos c6] at H
    have c6b0:decide (97≤a0)=true:=decide_eq_true c6
    clear c6
    (first|rw [c6b0]|(simp only [i64_w,i32_w];rw [c6b0])|skip)
    have H':=Ak H
    clear H
    go_wp2
    go_meet
    case rel=>exact ⟨_,(decide (a0≤102)),oS,H',⟨by have:=HJ1.out;first|omega|exact Nat.le_refl _⟩,by repeat (first|exact Drawn0.refl _|apply Drawn0.step)⟩
   rw [if_neg c6] at H
   have c6b0:decide (97≤a0)=false:=decide_eq_false c6
   clear c6
   (first|rw [c6b0]|(simp only [i64_w,i32_w];rw [c6b0])|skip)
   have H':=Ak H
   clear H
   go_wp2
   go_meet
   case rel=>exact ⟨_,(false),oS,H',⟨by have:=HJ1.out;first|omega|exact Nat.le_refl _⟩,by repeat (first|exact Drawn0.refl _|apply Drawn0.step)⟩
  case rest =>
  clear HC5
  obtain ⟨kq,x14_4,rfl,HA,HJ4,⟨mc4,rfl⟩⟩:=hcut
  cases kq with
  | zero=>exact absurd HA.out (by simp [sH.j1])
  | succ kj4 =>
   have H:=HA.out
   clear HA
   simp only [sH.j1] at H
   by_cases c7:x14_4=true
   ·
    subst c7
    have H1:(some (((a0 - 97) % 256)+10,true))=some (r1,r2):=by rw [if_pos rfl] at H;exact H
    clear H
    have H:=H1
    clear H1
    simp only [Option.some.injEq,Prod.mk.injEq] at H
    obtain ⟨rfl,rfl⟩:=H
    go_wp2
    go_ret2
    exact ⟨oS,by repeat (first|exact Drawn0.refl _|apply Drawn0.step)⟩
   replace c7:=Bool.eq_false_iff.mpr c7
   subst c7
   have H1:(if 65≤a0 then (if a0≤70 then (some (((a0 - 65) % 256)+10,true)) else (some (0,false))) else (some (0,false)))=some (r1,r2):=by rw [if_neg (show ¬ (false=true) by decide)] at H;exact H
   clear H
   have H:=H1
   clear H1
   by_cases c8:65≤a0
   ·
    rw [if_pos c8] at H
    have c8b0:decide (65≤a0)=true:=decide_eq_true c8
    clear c8
    by_cases c9:a0≤70
    ·
     rw [if_pos c9] at H
     have c9b0:decide (a0≤70)=true:=decide_eq_true c9
     clear c9
     simp only [Option.some.injEq,Prod.mk.injEq] at H
     obtain ⟨rfl,rfl⟩:=H
     go_wp2
     go_ret2
     exact ⟨oS,by repeat (first|exact Drawn0.refl _|apply Drawn0.step)⟩
    rw [if_neg c9] at H
    have c9b0:decide (a0≤70)=false:=decide_eq_false c9
    clear c9
    simp only [Option.some.injEq,Prod.mk.injEq] at H
    obtain ⟨rfl,rfl⟩:=H
    go_wp2
    go_ret2
    exact ⟨oS,by repeat (first|exact Drawn0.refl _|apply Drawn0.step)⟩
   rw [if_neg c8] at H
   have c8b0:decide (65≤a0)=false:=decide_eq_false c8
   clear c8
   simp only [Option.some.injEq,Prod.mk.injEq] at H
   obtain ⟨rfl,rfl⟩:=H
   go_wp2
   go_ret2
   exact ⟨oS,by repeat (first|exact Drawn0.refl _|apply Drawn0.step)⟩
end Go.Proofs.Ytbkgoccnegjdhaa.Q

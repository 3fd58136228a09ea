/- byKeyVal's Len, Less, Swap. -/
import Derived.Test.YtbkgoccnegjdhaaN6
import Derived.BigRegion
namespace Go.Proofs.Ytbkgoccnegjdhaa.Q
open Go.RowKit Go.Proofs.YtbkgoccnegjdhaaW.PrintWords Go.Proofs.YtbkgoccnegjdhaaW.PrintLast Go.Proofs.YtbkgoccnegjdhaaW.PrintMore Go.Proofs.Ytbkgoccnegjdhaa.M
attribute [local go_sem] max2_int min2_int max_two min_two max_three min_three max_four min_four
set_option linter.unusedVariables false
set_option linter.unusedSimpArgs false
set_option maxHeartbeats 8000000 in
set_option maxRecDepth 100000 in
theorem len_walk (w:World) (g G N cap:Nat) (h3:w.cell? ⟨g,3,none⟩=some (.slice (some ⟨G,0,none⟩) N cap)) :
    Calls Try.prog 70 #[.pointer (some ⟨g,0,none⟩)] w fun e w'=>e = .returned (.int .i64 N)∧w'=w:=by
  go_enter Try.func70,Try.ntmps70
  go_wp2
  go_ret
  exact ⟨rfl,rfl⟩
/-- Eight cells of a row: two elements of four, each at the other's place. -/
def swpA (cs:Array Value) (i j:Nat) (a0 a1 a2 a3 b0 b1 b2 b3:Int):Array Value :=
  (((((((cs.setIfInBounds (i*4) (.int .i64 b0)).setIfInBounds (i*4+1) (.int .i64 b1)).setIfInBounds (i*4+2) (.int .i64 b2)).setIfInBounds (i*4+3) (.int .i64 b3)).setIfInBounds (j*4) (.int .i64 a0)).setIfInBounds (j*4+1) (.int .i64 a1)).setIfInBounds (j*4+2) (.int .i64 a2)).setIfInBounds (j*4+3) (.int .i64 a3)
structure Beside (w w':World) (g G:Nat):Prop where
  rest : ∀ k,k≠g→k≠G→w'.heap[k]? = w.heap[k]?
  size:w'.heap.size=w.heap.size
  os:w'.os=w.os
  tape:w'.tape=w.tape
  output:w'.output=w.output
theorem Beside.refl (w:World) (g G:Nat):Beside w w g G:=⟨fun _ _ _=>rfl,rfl,rfl,rfl,rfl⟩
theorem Beside.set {w w':World} {g G:Nat} (h:Beside w w' g G) {p:Addr} (hp:p.block=g∨p.block=G) (u:Value):Beside w (w'.setCell p u) g G :=
  ⟨fun k h1 h2=>(Below.heap_setCell w' p u k (by rcases hp with e|e <;> rw [e] <;> assumption)).trans (h.rest k h1 h2),by simpa [World.setCell] using h.size,h.os,h.tape,h.output⟩
theorem Beside.trans {w w' w2:World} {g G:Nat} (h:Beside w w' g G) (k:Beside w' w2 g G):Beside w w2 g G :=
  ⟨fun q h1 h2=>(k.rest q h1 h2).trans (h.rest q h1 h2),k.size.trans h.size,k.os.trans h.os,k.tape.trans h.tape,k.output.trans h.output⟩
theorem Beside.drewN {w w':World} {g G:Nat} (h:Beside w w' g G) (m:Nat):Beside w (w'.drewN m) g G:=⟨h.rest,h.size,h.os,h.tape,h.output⟩
theorem drew_heap (w:World):w.drew.heap=w.heap:=rfl
theorem swap_state (w:World) (g G N cap i j:Nat) (a0 a1 a2 a3 b0 b1 b2 b3:Int) (cs:Array Value) (js bs:Value) (b:Bool) (hgG:g≠G)
    (hg:w.heap[g]? = some (.cells #[.bool b,js,bs, .slice (some ⟨G,0,none⟩) N cap] 84 (0,0))) (hG:w.heap[G]? = some (.cells cs 82 (0,0))) (W2:World) (hW2:((((((((w.setCell ⟨G,i*4,none⟩ (.int .i64 b0)).setCell ⟨G,i*4+1,none⟩ (.int .i64 b1)).setCell ⟨G,i*4+2,none⟩ (.int .i64 b2)).setCell ⟨G,i*4+3,none⟩ (.int .i64 b3)).setCell ⟨G,j*4,none⟩ (.int .i64 a0)).setCell ⟨G,j*4+1,none⟩ (.int .i64 a1)).setCell ⟨G,j*4+2,none⟩ (.int .i64 a2)).setCell ⟨G,j*4+3,none⟩ (.int .i64 a3)).drew=W2) :
    W2.heap[g]? = some (.cells #[.bool b,js,bs, .slice (some ⟨G,0,none⟩) N cap] 84 (0,0))∧W2.heap[G]? = some (.cells (swpA cs i j a0 a1 a2 a3 b0 b1 b2 b3) 82 (0,0))∧Beside w W2 g G:=by
  have g0:=hg
  have r0:=hG
  have z0:=Beside.refl w g G
  have g1:=blk_far g0 (p:=⟨G,i*4,none⟩) hgG (.int .i64 b0)
  have r1:=blk_set r0 (i*4) (.int .i64 b0)
  have z1:=z0.set (p:=⟨G,i*4,none⟩) (.inr rfl) (.int .i64 b0)
  have g2:=blk_far g1 (p:=⟨G,i*4+1,none⟩) hgG (.int .i64 b1)
  have r2:=blk_set r1 (i*4+1) (.int .i64 b1)
  have z2:=z1.set (p:=⟨G,i*4+1,none⟩) (.inr rfl) (.int .i64 b1)
  have g3:=blk_far g2 (p:=⟨G,i*4+2,none⟩) hgG (.int .i64 b2)
  have r3:=blk_set r2 (i*4+2) (.int .i64 b2)
  have z3:=z2.set (p:=⟨G,i*4+2,none⟩) (.inr rfl) (.int .i64 b2)
  have g4:=blk_far g3 (p:=⟨G,i*4+3,none⟩) hgG (.int .i64 b3)
  have r4:=blk_set r3 (i*4+3) (.int .i64 b3)
  have z4:=z3.set (p:=⟨G,i*4+3,none⟩) (.inr rfl) (.int .i64 b3)
  have g5:=blk_far g4 (p:=⟨G,j*4,none⟩) hgG (.int .i64 a0)
  have r5:=blk_set r4 (j*4) (.int .i64 a0)
  have z5:=z4.set (p:=⟨G,j*4,none⟩) (.inr rfl) (.int .i64 a0)
  have g6:=blk_far g5 (p:=⟨G,j*4+1,none⟩) hgG (.int .i64 a1)
  have r6:=blk_set r5 (j*4+1) (.int .i64 a1)
  have z6:=z5.set (p:=⟨G,j*4+1,none⟩) (.inr rfl) (.int .i64 a1)
  have g7:=blk_far g6 (p:=⟨G,j*4+2,none⟩) hgG (.int .i64 a2)
  have r7:=blk_set r6 (j*4+2) (.int .i64 a2)
  have z7:=z6.set (p:=⟨G,j*4+2,none⟩) (.inr rfl) (.int .i64 a2)
  have g8:=blk_far g7 (p:=⟨G,j*4+3,none⟩) hgG (.int .i64 a3)
  have r8:=blk_set r7 (j*4+3) (.int .i64 a3)
  have z8:=z7.set (p:=⟨G,j*4+3,none⟩) (.inr rfl) (.int .i64 a3)
  rw [← hW2,drew_heap]
  exact ⟨g8,r8,z8.drewN 1⟩
set_option maxHeartbeats 8000000 in
set_option maxRecDepth 100000 in
theorem swap_walk (w:World) (g G N cap i j:Nat) (a0 a1 a2 a3 b0 b1 b2 b3:Int) (cs:Array Value) (js bs:Value) (b:Bool) (hgG:g≠G) (hi:i<N) (hj:j<N) (hij:i≠j)
    (hg:w.heap[g]? = some (.cells #[.bool b,js,bs, .slice (some ⟨G,0,none⟩) N cap] 84 (0,0))) (hG:w.heap[G]? = some (.cells cs 82 (0,0)))
    (ha0:cs[i*4]? = some (.int .i64 a0)) (ha1:cs[i*4+1]? = some (.int .i64 a1)) (ha2:cs[i*4+2]? = some (.int .i64 a2)) (ha3:cs[i*4+3]? = some (.int .i64 a3))
    (hb0:cs[j*4]? = some (.int .i64 b0)) (hb1:cs[j*4+1]? = some (.int .i64 b1)) (hb2:cs[j*4+2]? = some (.int .i64 b2)) (hb3:cs[j*4+3]? = some (.int .i64 b3)) :
    Calls Try.prog 72 #[.pointer (some ⟨g,0,none⟩), .int .i64 i, .int .i64 j] w fun e w'=>e = .returned (.tuple #[]) ∧
      w'.heap[g]? = some (.cells #[.bool true,js,bs, .slice (some ⟨G,0,none⟩) N cap] 84 (0,0))∧w'.heap[G]? = some (.cells (swpA cs i j a0 a1 a2 a3 b0 b1 b2 b3) 82 (0,0))∧Beside w w' g G:=by
  have c1:(i:Int)<(N:Int):=by omega
  have c2:(j:Int)<(N:Int):=by omega
  have p1:(0:Int)≤(i:Int):=by omega
  have p2:(0:Int)≤(j:Int):=by omega
  have h3:w.cell? ⟨g,3,none⟩=some (.slice (some ⟨G,0,none⟩) N cap):=(blk_cell hg 3).trans rfl
  have fG:=blk_frozen hG
  have ca0:=(blk_cell hG (i*4)).trans ha0
  have ca1:=(blk_cell hG (i*4+1)).trans ha1
  have ca2:=(blk_cell hG (i*4+2)).trans ha2
  have ca3:=(blk_cell hG (i*4+3)).trans ha3
  have cb0:=(blk_cell hG (j*4)).trans hb0
  have cb1:=(blk_cell hG (j*4+1)).trans hb1
  have cb2:=(blk_cell hG (j*4+2)).trans hb2
  have cb3:=(blk_cell hG (j*4+3)).trans hb3
  have HGG:=Ak hG
  have Hg:=Ak hg
  clear ha0 ha1 ha2 ha3 hb0 hb1 hb2 hb3 hG hg
  go_enter Try.func72,Try.ntmps72
  go_wp2
  go_region
  generalize hW2:World.drew _=W2
  have HA:Aside0 (W2.heap[g]? = some (.cells #[.bool b,js,bs, .slice (some ⟨G,0,none⟩) N cap] 84 (0,0))∧W2.heap[G]? = some (.cells (swpA cs i j a0 a1 a2 a3 b0 b1 b2 b3) 82 (0,0))∧Beside w W2 g G):=⟨by
    exact swap_state w g G N cap i j a0 a1 a2 a3 b0 b1 b2 b3 cs js bs b hgG Hg.out HGG.out W2 hW2⟩
  have f4:W2.frozen? ⟨g,0,none⟩=false:=blk_frozen HA.out.1 0
  have f5:W2.cell? ⟨g,0,none⟩=some (.bool b):=(blk_cell HA.out.1 0).trans rfl
  clear hW2 fG ca0 ca1 ca2 ca3 cb0 cb1 cb2 cb3 h3
  go_wp2
  first|go_end0|((try simp only [Exit.inBlock,Exit.then]);refine bodyPost_ret (results_none rfl _ _ _) rfl ?_)
  exact ⟨rfl,blk_put HA.out.1 0 _ rfl,blk_far HA.out.2.1 hgG.symm _,HA.out.2.2.set (.inl rfl) _⟩
end Go.Proofs.Ytbkgoccnegjdhaa.Q
/- getjtype and parsestr of a quoted name without backslashes. -/
namespace Go.Proofs.Ytbkgoccnegjdhaa.Q
open Go.RowKit Go.Proofs.YtbkgoccnegjdhaaW.PrintWords Go.Proofs.YtbkgoccnegjdhaaW.PrintLast Go.Proofs.YtbkgoccnegjdhaaW.PrintMore Go.Proofs.Ytbkgoccnegjdhaa.M
attribute [local go_sem] max2_int min2_int max_two min_two max_three min_three max_four min_four
set_option linter.unusedVariables false
set_option linter.unusedSimpArgs false
set_option maxHeartbeats 8000000 in
set_option maxRecDepth 100000 in
theorem getjtype_walk (w:World) (B o n cap:Nat) (hn:0<n) (h:w.cell? ⟨B,o,none⟩=some (.int .u8 34)) :
    Calls Try.prog 75 #[.slice (some ⟨B,o,none⟩) n cap] w fun e w'=>e = .returned (.int .i64 3)∧w'=w:=by
  have c1:((n:Int) == 0)=false:=beq_eq_false_iff_ne.mpr om
  have c2:(0:Int)<(n:Int):=by omega
  go_enter Try.func75,Try.ntmps75
  go_wp2
  go_ret
  exact ⟨rfl,rfl⟩
set_option maxHeartbeats 8000000 in
set_option maxRecDepth 100000 in
theorem parsestr_walk (w:World) (B o m L cap:Nat) (C:Nat→Int) (hm:L=m+2∧m+2≤cap∧m+2≤3000000000) (h : ∀ q,q<m→w.cell? ⟨B,o+1+q,none⟩=some (.int .u8 (C q))∧C q≠34∧C q≠92) (h2:w.cell? ⟨B,o+1+m,none⟩=some (.int .u8 34)) :
    Calls Try.prog 76 #[.slice (some ⟨B,o,none⟩) L cap] w fun e w'=>e = .returned (.slice (some ⟨B,o+1,none⟩) m (cap - 1))∧w'=w:=by
  have HM:=Ak hm
  have HC:=Ak h
  have HE:=Ak h2
  clear hm h h2
  go_enter Try.func76,Try.ntmps76
  go_wp2
  (try simp only [Act.put,List.setIfInBounds_toArray,List.set_cons_zero,List.set_cons_succ])
  go_loopg [3] m (fun kq v3 w' => ∃ (i:Nat),v3 = .int .i64 i∧Aside0 (1≤i∧i≤m+1∧m+1≤i+kq)∧w'=w)
  case atStart=>exact ⟨1,rfl,⟨by omega⟩,rfl⟩
  case round =>
    obtain ⟨i,rfl,HI,rfl⟩:=hrel
    by_cases c:i≤m
    · obtain ⟨x,hx⟩ : ∃ x,x=C (i - 1):=⟨_,rfl⟩
      have h1:=HC.out (i - 1) (by have:=HI.out;omega)
      rw [← hx,show o+1+(i - 1)=o+i by have:=HI.out;omega] at h1
      obtain ⟨hc,h34,h92⟩:=h1
      have b1:(x == 92)=false:=beq_eq_false_iff_ne.mpr h92
      have b2:(x == 34)=false:=beq_eq_false_iff_ne.mpr h34
      have c1:decide ((i:Int)<(L:Int))=true:=decide_eq_true (by have:=HM.out;omega)
      have c2:(i:Int)<(L:Int):=by have:=HM.out;omega
      have c3:(0:Int)≤(i:Int):=by omega
      have E1:Aside0 (wrap64 ((i:Int)+1)=((i+1:Nat):Int)):=⟨wsucc (by have:=HM.out;omega)⟩
      clear hx h34 h92
      go_wp2
      rw [E1.out]
      go_roundg (gk - 1)
      case measure=>have:=HI.out;omega
      case rel=>exact ⟨i+1,rfl,⟨by have:=HI.out;omega⟩,rfl⟩
    · have e:i=m+1:=by have:=HI.out;omega
      have hc:=HE.out
      rw [show o+1+m=o+i by omega] at hc
      have c1:decide ((i:Int)<(L:Int))=true:=decide_eq_true (by have:=HM.out;omega)
      have c2:(i:Int)<(L:Int):=by have:=HM.out;omega
      have c3:(0:Int)≤(i:Int):=by omega
      have c4:(1:Int)≤(i:Int):=by omega
      have c5:(i:Int)≤(cap:Int):=by have:=HM.out;omega
      have HX:=Ak e
      clear e
      go_wp2
      · exact absurd HM.out om
      · go_ret
        refine ⟨?_,rfl⟩
        show Ending.returned (Value.slice (some ⟨B,o+1,none⟩) (i - 1) (cap - 1))=_
        rw [show i - 1=m by have:=HX.out;omega]
end Go.Proofs.Ytbkgoccnegjdhaa.Q
/- isLess by key, of two quoted names without backslashes. -/
namespace Go.Proofs.Ytbkgoccnegjdhaa.Q
open Go.RowKit Go.Proofs.YtbkgoccnegjdhaaW.PrintWords Go.Proofs.YtbkgoccnegjdhaaW.PrintLast Go.Proofs.YtbkgoccnegjdhaaW.PrintMore Go.Proofs.Ytbkgoccnegjdhaa.M
attribute [local go_sem] max2_int min2_int max_two min_two max_three min_three max_four min_four
set_option linter.unusedVariables false
set_option linter.unusedSimpArgs false
/-- Names in the order of their bytes. -/
def klt (a b:List Int):Bool:=Op.bytesLess (strOfNums a).toList (strOfNums b).toList
/-- A quoted name stands in the bytes at B, o: its bytes are c. -/
def Named (w:World) (B o:Nat) (c:List Int):Prop :=
  w.cell? ⟨B,o,none⟩=some (.int .u8 34)∧(∀ q,q<c.length→w.cell? ⟨B,o+1+q,none⟩=some (.int .u8 (c.getD q 0))∧c.getD q 0≠34∧c.getD q 0≠92)∧w.cell? ⟨B,o+1+c.length,none⟩=some (.int .u8 34)
theorem Named.drewN {w:World} {B o:Nat} {c:List Int} (h:Named w B o c) (m:Nat):Named (w.drewN m) B o c:=h
set_option maxHeartbeats 8000000 in
set_option maxRecDepth 100000 in
theorem isLess_walk (w:World) (g G N cap i j B o n c si sj ei ej:Nat) (ci cj:List Int) (hi:i<N) (hj:j<N) (h1:w.cell? ⟨g,1,none⟩=some (.slice (some ⟨B,o,none⟩) n c)) (h3:w.cell? ⟨g,3,none⟩=some (.slice (some ⟨G,0,none⟩) N cap))
    (ha0:w.cell? ⟨G,i*4,none⟩=some (.int .i64 si)) (ha1:w.cell? ⟨G,i*4+1,none⟩=some (.int .i64 ei)) (hb0:w.cell? ⟨G,j*4,none⟩=some (.int .i64 sj)) (hb1:w.cell? ⟨G,j*4+1,none⟩=some (.int .i64 ej))
    (hbi:ei=si+(ci.length+2)∧ei≤n) (hbj:ej=sj+(cj.length+2)∧ej≤n) (hn:n≤c∧n≤2000000000) (hci:Named w B (o+si) ci) (hcj:Named w B (o+sj) cj) :
    Calls Try.prog 73 #[.pointer (some ⟨g,0,none⟩), .int .i64 i, .int .i64 j, .int .i64 0] w fun e w'=>(∃ m,w'=w.drewN m)∧e = .returned (.bool (klt ci cj)):=by
  have c1:(i:Int)<(N:Int):=by omega
  have c2:(j:Int)<(N:Int):=by omega
  have p1:(0:Int)≤(i:Int):=by omega
  have p2:(0:Int)≤(j:Int):=by omega
  have q1:(si:Int)≤(ei:Int):=by omega
  have q2:(sj:Int)≤(ej:Int):=by omega
  have q3:(ei:Int)≤(c:Int):=by omega
  have q4:(ej:Int)≤(c:Int):=by omega
  have q5:(0:Int)≤(si:Int):=by omega
  have q6:(0:Int)≤(sj:Int):=by omega
  have HI:=Ak hbi
  have HJ:=Ak hbj
  have HN:=Ak hn
  have HCI:=Ak hci
  have HCJ:=Ak hcj
  clear hbi hbj hn hci hcj
  go_enter Try.func73,Try.ntmps73
  go_wp2
  go_quiet (fail)
  rw [if_neg (show ¬ c=si by have:=HI.out;have:=HN.out;omega)]
  go_wp2
  go_quiet (fail)
  rw [if_neg (show ¬ c=sj by have:=HJ.out;have:=HN.out;omega)]
  obtain ⟨li,hli⟩ : ∃ li,li=ei - si:=⟨_,rfl⟩
  obtain ⟨lj,hlj⟩ : ∃ lj,lj=ej - sj:=⟨_,rfl⟩
  rw [← hli, ← hlj]
  have HLI:=Ak (show li=ci.length+2 by have:=HI.out;omega)
  have HLJ:=Ak (show lj=cj.length+2 by have:=HJ.out;omega)
  clear hli hlj
  generalize hW2:World.drewN _ _=W2
  have HW:=Ak (show ∃ m,W2=w.drewN m from ⟨_,by rw [← hW2,World.drewN_drewN]⟩)
  have HCI2:Aside0 (Named W2 B (o+si) ci):=⟨by rw [← hW2];exact HCI.out⟩
  have HCJ2:Aside0 (Named W2 B (o+sj) cj):=⟨by rw [← hW2];exact HCJ.out⟩
  clear hW2 HCI HCJ
  have hv1:=run_convert_bytes_arg (P:=Try.prog) W2 44 5 Try.underlying44 Try.underlying5 B (o+si+1) ci.length (c - si - 1) ci rfl (fun q hq=>(HCI2.out.2.1 q hq).1) 9 Try.underlying9
  have hv2:=run_convert_bytes_arg (P:=Try.prog) W2 44 5 Try.underlying44 Try.underlying5 B (o+sj+1) cj.length (c - sj - 1) cj rfl (fun q hq=>(HCJ2.out.2.1 q hq).1) 9 Try.underlying9
  go_wp2_with (first
    | ((with_reducible refine gate_callee (f:=75) rfl ?_);refine goesL_ (some 136) rfl rfl Try.func75 (by kernel_rfl) rfl #[.slice (some ⟨B,o+si,none⟩) li (c - si)] rfl (by go_simp;done) ?_;refine ((getjtype_walk _ B (o+si) li (c - si) (by have:=HLI.out;omega) ?hh1).mono ?_);(case hh1=>exact HCI2.out.1);rintro e w2 ⟨rfl,rfl⟩;refine ⟨_,rfl,?_⟩)
    | ((with_reducible refine gate_callee (f:=75) rfl ?_);refine goesL_ (some 138) rfl rfl Try.func75 (by kernel_rfl) rfl #[.slice (some ⟨B,o+sj,none⟩) lj (c - sj)] rfl (by go_simp;done) ?_;refine ((getjtype_walk _ B (o+sj) lj (c - sj) (by have:=HLJ.out;omega) ?hh1).mono ?_);(case hh1=>exact HCJ2.out.1);rintro e w2 ⟨rfl,rfl⟩;refine ⟨_,rfl,?_⟩)
    | ((with_reducible refine gate_callee (f:=76) rfl ?_);refine goesL_ (some 148) rfl rfl Try.func76 (by kernel_rfl) rfl #[.slice (some ⟨B,o+si,none⟩) li (c - si)] rfl (by go_simp;done) ?_;refine ((parsestr_walk _ B (o+si) ci.length li (c - si) (fun q=>ci.getD q 0) (by have:=HLI.out;have:=HI.out;have:=HN.out;omega) ?hh1 ?hh2).mono ?_);(case hh1=>exact HCI2.out.2.1);(case hh2=>exact HCI2.out.2.2);rintro e w2 ⟨rfl,rfl⟩;refine ⟨_,rfl,?_⟩)
    | ((with_reducible refine gate_callee (f:=76) rfl ?_);refine goesL_ (some 150) rfl rfl Try.func76 (by kernel_rfl) rfl #[.slice (some ⟨B,o+sj,none⟩) lj (c - sj)] rfl (by go_simp;done) ?_;refine ((parsestr_walk _ B (o+sj) cj.length lj (c - sj) (fun q=>cj.getD q 0) (by have:=HLJ.out;have:=HJ.out;have:=HN.out;omega) ?hh1 ?hh2).mono ?_);(case hh1=>exact HCJ2.out.2.1);(case hh2=>exact HCJ2.out.2.2);rintro e w2 ⟨rfl,rfl⟩;refine ⟨_,rfl,?_⟩))
  go_ret
  exact ⟨HW.out,rfl⟩
set_option maxHeartbeats 8000000 in
set_option maxRecDepth 100000 in
theorem less_walk (w:World) (g G N cap i j B o n c si sj ei ej:Nat) (ci cj:List Int) (hi:i<N) (hj:j<N) (h1:w.cell? ⟨g,1,none⟩=some (.slice (some ⟨B,o,none⟩) n c)) (h3:w.cell? ⟨g,3,none⟩=some (.slice (some ⟨G,0,none⟩) N cap))
    (ha0:w.cell? ⟨G,i*4,none⟩=some (.int .i64 si)) (ha1:w.cell? ⟨G,i*4+1,none⟩=some (.int .i64 ei)) (hb0:w.cell? ⟨G,j*4,none⟩=some (.int .i64 sj)) (hb1:w.cell? ⟨G,j*4+1,none⟩=some (.int .i64 ej))
    (hbi:ei=si+(ci.length+2)∧ei≤n) (hbj:ej=sj+(cj.length+2)∧ej≤n) (hn:n≤c∧n≤2000000000) (hci:Named w B (o+si) ci) (hcj:Named w B (o+sj) cj) (hd:klt ci cj=true∨klt cj ci=true) :
    Calls Try.prog 71 #[.pointer (some ⟨g,0,none⟩), .int .i64 i, .int .i64 j] w fun e w'=>(∃ m,w'=w.drewN m)∧e = .returned (.bool (klt ci cj)):=by
  have T1:=Ak (fun m=>isLess_walk (w.drewN m) g G N cap i j B o n c si sj ei ej ci cj hi hj h1 h3 ha0 ha1 hb0 hb1 hbi hbj hn hci hcj)
  have T2:=Ak (fun m=>isLess_walk (w.drewN m) g G N cap j i B o n c sj si ej ei cj ci hj hi h1 h3 hb0 hb1 ha0 ha1 hbj hbi hn hcj hci)
  have HD:=Ak hd
  clear h1 h3 ha0 ha1 hb0 hb1 hbi hbj hn hci hcj hd
  cases hl:klt ci cj with
  | true =>
    go_enter Try.func71,Try.ntmps71
    go_wp2_with (first
      | ((with_reducible refine gate_callee (f:=73) rfl ?_);refine goesL_ (some 10) rfl rfl Try.func73 (by kernel_rfl) rfl #[.pointer (some ⟨g,0,none⟩), .int .i64 i, .int .i64 j, .int .i64 0] rfl (by go_simp;done) ?_;refine ((T1.out 0).mono ?_);rintro e w2 ⟨hw,rfl⟩;refine ⟨_,rfl,?_⟩;rw [hl];have HW:=Ak hw;clear hw))
    go_ret
    exact ⟨HW.out,rfl⟩
  | false =>
    have hl2:klt cj ci=true:=by rcases HD.out with h|h;rw [hl] at h;cases h;exact h
    go_enter Try.func71,Try.ntmps71
    go_wp2_with (first
      | ((with_reducible refine gate_callee (f:=73) rfl ?_);refine goesL_ (some 10) rfl rfl Try.func73 (by kernel_rfl) rfl #[.pointer (some ⟨g,0,none⟩), .int .i64 i, .int .i64 j, .int .i64 0] rfl (by go_simp;done) ?_;refine ((T1.out 0).mono ?_);rintro e w2 ⟨hw,rfl⟩;refine ⟨_,rfl,?_⟩;rw [hl];obtain ⟨m,rfl⟩:=hw)
      | ((with_reducible refine gate_callee (f:=73) rfl ?_);refine goesL_ (some 14) rfl rfl Try.func73 (by kernel_rfl) rfl #[.pointer (some ⟨g,0,none⟩), .int .i64 j, .int .i64 i, .int .i64 0] rfl (by go_simp;done) ?_;refine ((T2.out m).mono ?_);rintro e w2 ⟨hw,rfl⟩;refine ⟨_,rfl,?_⟩;rw [hl2];have HW:=Ak hw;clear hw))
    go_ret
    exact ⟨by obtain ⟨q,hq⟩:=HW.out;exact ⟨_,by rw [hq,World.drewN_drewN]⟩,rfl⟩
end Go.Proofs.Ytbkgoccnegjdhaa.Q

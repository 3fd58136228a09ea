/- arrayOrMap's blocks (77): the result (g6), the value (g9) behind the box of t (g3); the elements of an array's text. -/
import Derived.Test.YtnejkimpkaopoaaGreatDoorHg
import Derived.Test.YtnejkimpkaopoaaGreatDoorEf
import Derived.Test.YtnejkimpkaopoaaGreatDoorEa
import Derived.Test.YtnejkimpkaopoaaGreatDoorQ11
import Derived.Test.YtnejkimpkaopoaaGreatDoorQ13
namespace Go.Proofs.YtnejkimpkaopoaaGreatDoorW.PrintLast
open Go.Proofs.YtnejkimpkaopoaaGreatDoorW.PrintWords
section
variable {P:Program} {ops:Array Oper} {rest:List Oper} {o:Oper} {a:Act} {Q:Exit→Act→World→Prop}
theorem cell_put {W:World} (hgd:o.guard=none) {t:TypeId} {p:Tmp} {v:Operand} (ho:o.op = .store t (.tmp p) v) (hN:o.dst=none) {g j:Nat} {u:Value} {cs cs':Array Value} {tb:TypeId}
 (hp:a.eval (.tmp p) = .pointer (some ⟨g,j,none⟩)) (hv:a.eval v=u) (hu:u.cells = #[u]) (hb:W.heap[g]? = some (.cells cs tb (0,0))) (hj:j<cs.size) (hs:cs.setIfInBounds j u=cs')
 (ht:(P.info? t).map (·.size)=some 1) (h1:u.oneCell'=true) (h : ∀ w1,PutBox W w1 g cs' tb→wpList P ops Q rest a w1):wpList P ops Q (o :: rest) a W:=by
 refine wpList_plain hgd fun K hK=>?_
 have hrun:(Instr.storeAt t (.pointer (some ⟨g,j,none⟩)) u).run P W = .ok () (W.setCells g j [u]) :=
  run_store_run t u [u] hb (by rw [hu]) (by rw [ht];rfl) (by simp only [List.length_cons,List.length_nil];omega) (by intro q hq;rw [List.mem_singleton] at hq;rw [hq];exact h1)
 obtain ⟨s1,s2,s3,s4⟩:=setCells_same g [u] j W
 unfold Oper.wp execOp
 simp only [ho,hp,hv,Sem.run_bind,Sem.run_pure,Result.andThen_ok,hrun]
 show K (a.put o.dst undef) _
 rw [hN]
 exact hK a _ (h _ ⟨by rw [← hs];exact blk_set hb j u,s1,s2,s3,s4,fun k hk=>setCells_far [u] j k hk⟩)
end
end Go.Proofs.YtnejkimpkaopoaaGreatDoorW.PrintLast
namespace Go.Proofs.YtnejkimpkaopoaaGreatDoor.Q
open RowKit YtnejkimpkaopoaaGreatDoorW.PrintWords YtnejkimpkaopoaaGreatDoorW.PrintLast YtnejkimpkaopoaaGreatDoorW.PrintMore
set_option linter.unusedVariables false
set_option linter.unusedSimpArgs false
theorem PF.up {b b':Nat} {w w':World} (h:PF b w) (hb:b≤b') (k:Below b w w'):PF b' w':=by
 obtain ⟨⟨⟨lt,a,cap,h1,h2,h3⟩,i0,i1,i2,a2,cap2,p1,p2,p3⟩,tp,⟨a4,cap4,f1,f2,f3⟩,opt⟩:=h.below k
 exact ⟨⟨⟨Nat.lt_of_lt_of_le lt hb,a,cap,h1,Nat.lt_of_lt_of_le h2 hb,h3⟩,i0,i1,i2,a2,cap2,p1,Nat.lt_of_lt_of_le p2 hb,p3⟩,tp,⟨a4,cap4,f1,Nat.lt_of_lt_of_le f2 hb,f3⟩,opt⟩
theorem PE.up {b b':Nat} {w w':World} (h:PE b w) (hb:b≤b') (k:Below b w w'):PE b' w':=by
 obtain ⟨lt,s,r⟩:=h.below k
 exact ⟨Nat.lt_of_lt_of_le lt hb,s,r⟩
structure AM (w W:World) (g3 g6 g9 g11:Nat) (v3:Value) (c:Value) (v x0 x1 x2 x3 x4:Value):Prop where
  b3 : ∃ y0 y1 y2 y3,W.heap[g3]? = some (.cells #[y0,y1,y2,y3,v3, .slice none 0 0] 62 (0,0))
  b6:W.heap[g6]? = some (.cells #[v, .slice none 0 0, .map none, .map none,c] 115 (0,0))
  b9:W.heap[g9]? = some (.cells #[x0,x1,x2,x3,x4, .slice none 0 0] 62 (0,0))
  lo:w.heap.size≤g3∧g3<g6∧g6<g9∧g9<g11
  hi:g11<W.heap.size
  below:Below w.heap.size w W
section
variable {w W W1:World} {g3 g6 g9 g11:Nat} {v3 c v x0 x1 x2 x3 x4:Value}
theorem AM.step (h:AM w W g3 g6 g9 g11 v3 c v x0 x1 x2 x3 x4) (hb:Below W.heap.size W W1):AM w W1 g3 g6 g9 g11 v3 c v x0 x1 x2 x3 x4:=by
 obtain ⟨⟨y0,y1,y2,y3,b3⟩,b6,b9,lo,hi,hB⟩:=h
 exact ⟨⟨y0,y1,y2,y3,blk_below b3 hb⟩,blk_below b6 hb,blk_below b9 hb,lo,Nat.lt_of_lt_of_le hi hb.size,below_step hB hb⟩
theorem AM.far (h:AM w W g3 g6 g9 g11 v3 c v x0 x1 x2 x3 x4) (hB:Below w.heap.size w W1) (hf : ∀ k,k<g11+1→W1.heap[k]? = W.heap[k]?):AM w W1 g3 g6 g9 g11 v3 c v x0 x1 x2 x3 x4:=by
 obtain ⟨⟨y0,y1,y2,y3,b3⟩,b6,b9,lo,hi,_⟩:=h
 refine ⟨⟨y0,y1,y2,y3,by rw [hf _ (by omega)];exact b3⟩,by rw [hf _ (by omega)];exact b6,by rw [hf _ (by omega)];exact b9,lo,?_,hB⟩
 have h1:=hf g11 (by omega)
 rcases Nat.lt_or_ge g11 W1.heap.size with h2|h2
 ·
  exact h2
 rw [Array.getElem?_eq_none h2,Array.getElem?_eq_getElem hi] at h1
 cases h1
theorem AM.put9 {z0 z1 z2 z3 z4:Value} (h:AM w W g3 g6 g9 g11 v3 c v x0 x1 x2 x3 x4) (hp:PutBox W W1 g9 #[z0,z1,z2,z3,z4, .slice none 0 0] 62):AM w W1 g3 g6 g9 g11 v3 c v z0 z1 z2 z3 z4:=by
 obtain ⟨⟨y0,y1,y2,y3,b3⟩,b6,b9,lo,hi,hB⟩:=h
 exact ⟨⟨y0,y1,y2,y3,by rw [hp.far _ (by omega)];exact b3⟩,by rw [hp.far _ (by omega)];exact b6,hp.blk,lo,by rw [hp.size];exact hi,hp.below hB (by omega)⟩
theorem AM.put6 {z c':Value} (h:AM w W g3 g6 g9 g11 v3 c v x0 x1 x2 x3 x4) (hp:PutBox W W1 g6 #[z, .slice none 0 0, .map none, .map none,c'] 115):AM w W1 g3 g6 g9 g11 v3 c' z x0 x1 x2 x3 x4:=by
 obtain ⟨⟨y0,y1,y2,y3,b3⟩,b6,b9,lo,hi,hB⟩:=h
 exact ⟨⟨y0,y1,y2,y3,by rw [hp.far _ (by omega)];exact b3⟩,hp.blk,by rw [hp.far _ (by omega)];exact b9,lo,by rw [hp.size];exact hi,hp.below hB (by omega)⟩
theorem AM.cells (h:AM w W g3 g6 g9 g11 v3 c v x0 x1 x2 x3 x4):W.cell? ⟨g3,4,none⟩=some v3∧W.cell? ⟨g6,0,none⟩=some v∧W.cell? ⟨g6,4,none⟩=some c∧W.cell? ⟨g9,0,none⟩=some x0∧W.cell? ⟨g9,1,none⟩=some x1∧W.cell? ⟨g9,2,none⟩=some x2∧W.cell? ⟨g9,3,none⟩=some x3∧W.cell? ⟨g9,4,none⟩=some x4∧W.cell? ⟨g9,5,none⟩=some (.slice none 0 0)∧W.cell? ⟨g3,5,none⟩=some (.slice none 0 0):=by
 obtain ⟨⟨y0,y1,y2,y3,b3⟩,b6,b9,lo,hi,hB⟩:=h
 exact ⟨(blk_cell b3 4).trans rfl,(blk_cell b6 0).trans rfl,(blk_cell b6 4).trans rfl,(blk_cell b9 0).trans rfl,(blk_cell b9 1).trans rfl,(blk_cell b9 2).trans rfl,(blk_cell b9 3).trans rfl,(blk_cell b9 4).trans rfl,(blk_cell b9 5).trans rfl,(blk_cell b3 5).trans rfl⟩
theorem RG.put {b g:Nat} {xs:List GRes} {cs:Array Value} {t:TypeId} (h:RG w W b v xs) (hp:PutBox W W1 g cs t) (hg:g<b):RG w W1 b v xs:=h.far (fun k hk=>hp.far k (by omega))
end
theorem RG.one {w0 W:World} {b:Nat} {v:Value} {xs:List GRes} (h:RG w0 W b v xs):v.cells = #[v]∧v.oneCell'=true:=by
 obtain ⟨A,c,rfl,_⟩:=Kd.R_reads h
 exact ⟨rfl,rfl⟩
theorem bt_from {s:ByteArray} {i:Nat} (h:i<s.size):bt (s.extract i s.size) 0=bt s i:=by
 have h1:0<(s.extract i s.size).size:=by rw [ByteArray.size_extract];omega
 show bt (s.extract i s.size) ((0:Nat):Int)=_
 rw [← bt_nat h1, ← bt_nat h,ByteArray.getElem_extract]
 simp
inductive El (s:ByteArray) (i:Nat):Nat→Int × ByteArray × ByteArray→Prop
  | num {n:Nat} : NumAt (s.extract i s.size) n→El s i n (2,(s.extract i s.size).extract 0 n,ByteArray.empty)
  | json {k:Nat} {r:ByteArray} : (bt s i=91∨bt s i=123)→gS.f k (s.extract i s.size)=some r→El s i r.size (5,r,ByteArray.empty)
  | null {k:Nat} {r:ByteArray} : bt s i=110→gjson_tolit.f k (s.extract i s.size)=some r→El s i r.size (0,r,ByteArray.empty)
  | true_ {k:Nat} {r:ByteArray} : bt s i=116→gjson_tolit.f k (s.extract i s.size)=some r→El s i r.size (4,r,ByteArray.empty)
  | false_ {k:Nat} {r:ByteArray} : bt s i=102→gjson_tolit.f k (s.extract i s.size)=some r→El s i r.size (1,r,ByteArray.empty)
  | str {B O rest:List Int} : StrAt (s.extract i s.size) B O rest→El s i (B.length+2) (3,(s.extract i s.size).extract 0 (B.length+2),strOfNums O)
theorem El.byte {s:ByteArray} {i n:Nat} {x:Int × ByteArray × ByteArray} (hi:i<s.size) (h:El s i n x):32<bt s i∧bt s i≠93∧bt s i≠125:=by
 cases h with
 | num h =>
  have hd:=h.head
  rw [bt_from hi] at hd
  omega
 | json h _=>omega
 | null h _=>omega
 | true_ h _=>omega
 | false_ h _=>omega
 | str h =>
  have h0:=(bt_from hi).symm.trans (drop_cons (i:=0) (by rw [List.drop_zero];exact h.eq)).2.1
  omega
inductive Els (s:ByteArray):Nat→List (Int × ByteArray × ByteArray)→Prop
  | stop {i:Nat} : i<s.size→bt s i=93→Els s i []
  | blank {i:Nat} {l:List (Int × ByteArray × ByteArray)} : i<s.size→bt s i≤32→Els s (i+1) l→Els s i l
  | comma {i:Nat} {l:List (Int × ByteArray × ByteArray)} : i<s.size→bt s i=44→Els s (i+1) l→Els s i l
  | elem {i n:Nat} {x:Int × ByteArray × ByteArray} {l:List (Int × ByteArray × ByteArray)} : El s i n x→0<n→i+n≤s.size→x.2.1.size=n→Els s (i+n) l→Els s i (x :: l)
def GRes.core (r:GRes):Int × ByteArray × ByteArray:=(r.ty,r.raw,r.str)
end Go.Proofs.YtnejkimpkaopoaaGreatDoor.Q

/- byKeyVal over pairs whose names differ is a Sorter. -/
import Derived.Test.YtbkgoccnegjdhaaN9
namespace Go.Proofs.Ytbkgoccnegjdhaa.Q
open Go.RowKit Go.Proofs.YtbkgoccnegjdhaaW.PrintWords Go.Proofs.YtbkgoccnegjdhaaW.PrintLast Go.Proofs.YtbkgoccnegjdhaaW.PrintMore Go.Proofs.Ytbkgoccnegjdhaa.M
theorem bytesLess_lt : ∀ (x y:List UInt8),Op.bytesLess x y=decide (x<y)
  | [],[]=>by simp [Op.bytesLess]
  | _ :: _,[]=>by simp [Op.bytesLess]
  | [],_ :: _=>by simp [Op.bytesLess]
  | a :: x,b :: y=>by
    rw [Op.bytesLess,bytesLess_lt x y]
    simp only [List.cons_lt_cons_iff]
    by_cases h1:a<b <;> by_cases h2:a=b <;> by_cases h3:x<y <;> simp [h1,h2,h3]
theorem klt_eq (a b:List Int):klt a b=decide ((strOfNums a).toList<(strOfNums b).toList):=bytesLess_lt _ _
theorem klt_order:Order klt where
  asym:=fun x y h=>by
    rw [klt_eq,decide_eq_true_eq] at h
    rw [klt_eq,decide_eq_false_iff_not]
    exact fun h2=>List.lt_irrefl _ (List.lt_trans h h2)
  tr:=fun x y z h1 h2=>by
    rw [klt_eq,decide_eq_true_eq] at h1 h2 ⊢
    exact List.lt_trans h1 h2
/-- The four cells of the k-th pair. -/
def PairAt (cs:Array Value) (k:Nat) (x:S82):Prop:=cs[k*4]? = some (.int .i64 x.f0)∧cs[k*4+1]? = some (.int .i64 x.f1)∧cs[k*4+2]? = some (.int .i64 x.f2)∧cs[k*4+3]? = some (.int .i64 x.f3)
theorem PairAt.lt {cs:Array Value} {k:Nat} {x:S82} (h:PairAt cs k x):k*4+3<cs.size:=(Array.getElem?_eq_some_iff.1 h.2.2.2).1
theorem swpA_size (cs:Array Value) (i j:Nat) (a0 a1 a2 a3 b0 b1 b2 b3:Int):(swpA cs i j a0 a1 a2 a3 b0 b1 b2 b3).size=cs.size:=by unfold swpA;simp
theorem swpA_far (cs:Array Value) {i j q:Nat} (a0 a1 a2 a3 b0 b1 b2 b3:Int) (h1 : ¬ (i*4≤q∧q<i*4+4)) (h2 : ¬ (j*4≤q∧q<j*4+4)):(swpA cs i j a0 a1 a2 a3 b0 b1 b2 b3)[q]? = cs[q]? := by
  unfold swpA
  rw [Array.getElem?_setIfInBounds_ne om,Array.getElem?_setIfInBounds_ne om,Array.getElem?_setIfInBounds_ne om,Array.getElem?_setIfInBounds_ne om,Array.getElem?_setIfInBounds_ne om,Array.getElem?_setIfInBounds_ne om,Array.getElem?_setIfInBounds_ne om,Array.getElem?_setIfInBounds_ne om]
theorem set_at {cs:Array Value} {i:Nat} {v:Value} (h:i<cs.size):(cs.setIfInBounds i v)[i]? = some v:=by
  rw [Array.getElem?_setIfInBounds_self_of_lt h]
theorem swpA_j (cs:Array Value) {i j:Nat} (a0 a1 a2 a3 b0 b1 b2 b3:Int) (h:j*4+3<cs.size):PairAt (swpA cs i j a0 a1 a2 a3 b0 b1 b2 b3) j ⟨a0,a1,a2,a3⟩:=by
  unfold swpA
  refine ⟨?_,?_,?_,?_⟩
  · rw [Array.getElem?_setIfInBounds_ne om,Array.getElem?_setIfInBounds_ne om,Array.getElem?_setIfInBounds_ne om,set_at (by simp;omega)]
  · rw [Array.getElem?_setIfInBounds_ne om,Array.getElem?_setIfInBounds_ne om,set_at (by simp;omega)]
  · rw [Array.getElem?_setIfInBounds_ne om,set_at (by simp;omega)]
  · rw [set_at (by simp;omega)]
theorem swpA_i (cs:Array Value) {i j:Nat} (a0 a1 a2 a3 b0 b1 b2 b3:Int) (hij:i≠j) (h:i*4+3<cs.size):PairAt (swpA cs i j a0 a1 a2 a3 b0 b1 b2 b3) i ⟨b0,b1,b2,b3⟩:=by
  unfold swpA
  refine ⟨?_,?_,?_,?_⟩
  · rw [Array.getElem?_setIfInBounds_ne om,Array.getElem?_setIfInBounds_ne om,Array.getElem?_setIfInBounds_ne om,Array.getElem?_setIfInBounds_ne om,Array.getElem?_setIfInBounds_ne om,Array.getElem?_setIfInBounds_ne om,Array.getElem?_setIfInBounds_ne om,set_at om]
  · rw [Array.getElem?_setIfInBounds_ne om,Array.getElem?_setIfInBounds_ne om,Array.getElem?_setIfInBounds_ne om,Array.getElem?_setIfInBounds_ne om,Array.getElem?_setIfInBounds_ne om,Array.getElem?_setIfInBounds_ne om,set_at (by simp;omega)]
  · rw [Array.getElem?_setIfInBounds_ne om,Array.getElem?_setIfInBounds_ne om,Array.getElem?_setIfInBounds_ne om,Array.getElem?_setIfInBounds_ne om,Array.getElem?_setIfInBounds_ne om,set_at (by simp;omega)]
  · rw [Array.getElem?_setIfInBounds_ne om,Array.getElem?_setIfInBounds_ne om,Array.getElem?_setIfInBounds_ne om,Array.getElem?_setIfInBounds_ne om,set_at (by simp;omega)]
/-- A pair's name stands in the text: between the quotation marks, without backslashes, whatever becomes of the blocks g and G. -/
def NameAt (w1:World) (g G B o n:Nat) (key:S82→List Int) (x:S82):Prop:=0≤x.f0∧x.f1=x.f0+((key x).length+2:Nat)∧x.f1≤n ∧ ∀ W_,Beside w1 W_ g G→Named W_ B (o+x.f0.toNat) (key x)
def plt (key:S82→List Int) (x y:S82):Bool:=klt (key x) (key y)
theorem plt_order (key:S82→List Int):Order (plt key):=⟨fun _ _ h=>klt_order.asym _ _ h,fun _ _ _ h1 h2=>klt_order.tr _ _ _ h1 h2⟩
/-- The state of the sort: the struct's block, the row of pairs with what is spare behind it, all else as in w1. -/
structure SSt (w1:World) (g G N cap:Nat) (bs:Value) (B o n c:Nat) (key:S82→List Int) (sz:Nat) (sp:Nat→Option Value) (w:World) (f:Nat→S82) (b:Bool):Prop where
  arr:w.heap[g]? = some (.cells #[.bool b, .slice (some ⟨B,o,none⟩) n c,bs, .slice (some ⟨G,0,none⟩) N cap] 84 (0,0))
  row : ∃ cs:Array Value,w.heap[G]? = some (.cells cs 82 (0,0))∧(∀ k,k<N→PairAt cs k (f k))∧(∀ q,N*4≤q→cs[q]? = sp q)∧cs.size=sz
  beside:Beside w1 w g G
  good : ∀ k,k<N→NameAt w1 g G B o n key (f k)
  dist:Dist (plt key) f N
theorem sorter (w1:World) (g G N cap:Nat) (bs:Value) (B o n c:Nat) (key:S82→List Int) (sz:Nat) (sp:Nat→Option Value) (hgG:g≠G) (hN:N≤1000000000) (hn:n≤c∧n≤2000000000) :
    Sorter (some ⟨g,0,none⟩) N (plt key) (SSt w1 g G N cap bs B o n c key sz sp) where
  small:=hN
  len:=fun w f b h=>(len_walk w g G N cap ((blk_cell h.arr 3).trans rfl)).mono (by rintro e w' ⟨rfl,rfl⟩;exact ⟨rfl,h⟩)
  less:=fun w f b i j h hi hj hij=>by
    obtain ⟨cs,hG,hp,hs,hz⟩:=h.row
    obtain ⟨i1,i2,i3,i4⟩:=h.good i hi
    obtain ⟨j1,j2,j3,j4⟩:=h.good j hj
    obtain ⟨pi0,pi1, -, -⟩:=hp i hi
    obtain ⟨pj0,pj1, -, -⟩:=hp j hj
    refine (less_walk w g G N cap i j B o n c (f i).f0.toNat (f j).f0.toNat (f i).f1.toNat (f j).f1.toNat (key (f i)) (key (f j)) hi hj ((blk_cell h.arr 1).trans rfl) ((blk_cell h.arr 3).trans rfl)
      ((blk_cell hG _).trans (by rw [pi0,Int.toNat_of_nonneg i1])) ((blk_cell hG _).trans (by rw [pi1,Int.toNat_of_nonneg om])) ((blk_cell hG _).trans (by rw [pj0,Int.toNat_of_nonneg j1])) ((blk_cell hG _).trans (by rw [pj1,Int.toNat_of_nonneg om]))
      om om hn (i4 w h.beside) (j4 w h.beside) (h.dist i j hi hj hij)).mono ?_
    rintro e w' ⟨⟨m,rfl⟩,rfl⟩
    exact ⟨rfl,h.arr,⟨cs,hG,hp,hs,hz⟩,h.beside.drewN m,h.good,h.dist⟩
  swap:=fun w f b i j h hi hj hij=>by
    obtain ⟨cs,hG,hp,hs,hz⟩:=h.row
    have pi:=hp i hi
    have pj:=hp j hj
    refine (swap_walk w g G N cap i j (f i).f0 (f i).f1 (f i).f2 (f i).f3 (f j).f0 (f j).f1 (f j).f2 (f j).f3 cs _ bs b hgG hi hj hij h.arr hG pi.1 pi.2.1 pi.2.2.1 pi.2.2.2 pj.1 pj.2.1 pj.2.2.1 pj.2.2.2).mono ?_
    rintro e w' ⟨rfl,h1,h2,h3⟩
    refine ⟨rfl,h1,⟨_,h2,fun k hk=>?_,fun q hq=>?_,by rw [swpA_size];exact hz⟩,h.beside.trans h3,fun k hk=>?_,h.dist.rearr (Rearr.swap f ⟨Nat.zero_le _,hi⟩ ⟨Nat.zero_le _,hj⟩) (Nat.le_refl _)⟩
    · unfold swp
      by_cases e1:k=i
      · subst e1;rw [if_pos rfl];exact swpA_i cs _ _ _ _ _ _ _ _ hij pi.lt
      · rw [if_neg e1]
        by_cases e2:k=j
        · subst e2;rw [if_pos rfl];exact swpA_j cs _ _ _ _ _ _ _ _ pj.lt
        · rw [if_neg e2]
          have pk:=hp k hk
          refine ⟨?_,?_,?_,?_⟩
          · rw [swpA_far _ _ _ _ _ _ _ _ _ om om];exact pk.1
          · rw [swpA_far _ _ _ _ _ _ _ _ _ om om];exact pk.2.1
          · rw [swpA_far _ _ _ _ _ _ _ _ _ om om];exact pk.2.2.1
          · rw [swpA_far _ _ _ _ _ _ _ _ _ om om];exact pk.2.2.2
    · rw [swpA_far _ _ _ _ _ _ _ _ _ om om];exact hs q hq
    · exact (Rearr.swap f ⟨Nat.zero_le _,hi⟩ ⟨Nat.zero_le _,hj⟩).all (p:=NameAt w1 g G B o n key) (fun q _ hq=>h.good q hq) k (Nat.zero_le _) hk
end Go.Proofs.Ytbkgoccnegjdhaa.Q

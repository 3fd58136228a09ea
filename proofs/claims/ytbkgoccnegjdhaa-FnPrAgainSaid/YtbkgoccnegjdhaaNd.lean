/- sortPairs as a Lean function. -/
import Derived.Test.YtbkgoccnegjdhaaNb
namespace Go.Proofs.Ytbkgoccnegjdhaa.Q
open Go.RowKit Go.Proofs.YtbkgoccnegjdhaaW.PrintWords Go.Proofs.YtbkgoccnegjdhaaW.PrintLast Go.Proofs.YtbkgoccnegjdhaaW.PrintMore Go.Proofs.Ytbkgoccnegjdhaa.M
variable {α:Type}
def ins (lt:α→α→Bool) (x:α):List α→List α
  | []=>[x]
  | y :: r=>if lt y x=true then y :: ins lt x r else x :: y :: r
def isort (lt:α→α→Bool):List α→List α
  | []=>[]
  | x :: r=>ins lt x (isort lt r)
theorem mem_ins {lt:α→α→Bool} {x z:α} : ∀ {r:List α}, z ∈ ins lt x r ↔ z=x∨z ∈ r
  | []=>by simp [ins]
  | y :: r=>by
    rw [ins]
    split
    · rw [List.mem_cons,mem_ins,List.mem_cons]
      constructor
      · rintro (h|h|h)
        · exact .inr (.inl h)
        · exact .inl h
        · exact .inr (.inr h)
      · rintro (h|h|h)
        · exact .inr (.inl h)
        · exact .inl h
        · exact .inr (.inr h)
    · simp [List.mem_cons]
theorem mem_isort {lt:α→α→Bool} {z:α} : ∀ {r:List α}, z ∈ isort lt r ↔ z ∈ r
  | []=>by simp [isort]
  | x :: r=>by rw [isort,mem_ins,mem_isort,List.mem_cons]
theorem ins_length {lt:α→α→Bool} {x:α} : ∀ {r:List α}, (ins lt x r).length=r.length+1
  | []=>rfl
  | y :: r=>by
    rw [ins]
    split
    · rw [List.length_cons,ins_length,List.length_cons]
    · rfl
theorem isort_length {lt:α→α→Bool} : ∀ {r:List α}, (isort lt r).length=r.length
  | []=>rfl
  | x :: r=>by rw [isort,ins_length,isort_length,List.length_cons]
theorem ins_sorted {lt:α→α→Bool} (ho:Order lt) {x:α} : ∀ {r:List α}, r.Pairwise (fun a b=>lt a b=true)→(∀ y,y ∈ r→lt x y=true∨lt y x=true)→(ins lt x r).Pairwise (fun a b=>lt a b=true)
  | [],_,_=>by simp [ins]
  | y :: r,h,hd=>by
    rw [List.pairwise_cons] at h
    rw [ins]
    split
    · rename_i c
      rw [List.pairwise_cons]
      refine ⟨fun z hz=>?_,ins_sorted ho h.2 (fun z hz=>hd z (List.mem_cons_of_mem _ hz))⟩
      rcases mem_ins.1 hz with rfl|hz
      · exact c
      · exact h.1 z hz
    · rename_i c
      have c2:lt x y=true:=(hd y (List.mem_cons_self ..)).resolve_right c
      rw [List.pairwise_cons,List.pairwise_cons]
      refine ⟨fun z hz=>?_,h⟩
      rcases List.mem_cons.1 hz with rfl|hz
      · exact c2
      · exact ho.tr _ _ _ c2 (h.1 z hz)
theorem isort_sorted {lt:α→α→Bool} (ho:Order lt) : ∀ {r:List α}, r.Pairwise (fun a b=>lt a b=true∨lt b a=true)→(isort lt r).Pairwise (fun a b=>lt a b=true)
  | [],_=>by simp [isort]
  | x :: r,h=>by
    rw [List.pairwise_cons] at h
    exact ins_sorted ho (isort_sorted ho h.2) fun y hy=>h.1 y (mem_isort.1 hy)
/-- Two sorted rows of the same elements are the same. -/
theorem sorted_unique {lt:α→α→Bool} (ho:Order lt) : ∀ {a b:List α}, a.Pairwise (fun a b=>lt a b=true)→b.Pairwise (fun a b=>lt a b=true)→(∀ x,x ∈ a ↔ x ∈ b)→a=b
  | [],[],_,_,_=>rfl
  | [],y :: b,_,_,h=>absurd ((h y).2 (List.mem_cons_self ..)) (by simp)
  | x :: a,[],_,_,h=>absurd ((h x).1 (List.mem_cons_self ..)) (by simp)
  | x :: a,y :: b,ha,hb,h=>by
    rw [List.pairwise_cons] at ha hb
    have irr : ∀ z, ¬ lt z z=true:=fun z hz=>by have:=ho.asym _ _ hz;rw [hz] at this;cases this
    have e:x=y:=by
      rcases List.mem_cons.1 ((h x).1 (List.mem_cons_self ..)) with h1|h1
      · exact h1
      · rcases List.mem_cons.1 ((h y).2 (List.mem_cons_self ..)) with h2|h2
        · exact h2.symm
        · have h3:=ho.asym _ _ (hb.1 x h1)
          rw [ha.1 y h2] at h3;cases h3
    subst e
    refine congrArg _ (sorted_unique ho ha.2 hb.2 fun z=>⟨fun hz=>?_,fun hz=>?_⟩)
    · rcases List.mem_cons.1 ((h z).1 (List.mem_cons_of_mem _ hz)) with rfl|h1
      · exact absurd (ha.1 _ hz) (irr _)
      · exact h1
    · rcases List.mem_cons.1 ((h z).2 (List.mem_cons_of_mem _ hz)) with rfl|h1
      · exact absurd (hb.1 _ hz) (irr _)
      · exact h1
/-- Two names of which one is ahead of the other. -/
def apart (key:S82→List Int) (x y:S82):Prop:=plt key x y=true∨plt key y x=true
structure Ready (l xs:List Int) (ps:List S82):Prop where
  few:ps.length≤100000
  short:l.length≤2000000000
  small:xs.length≤1300000000
  name : ∀ x,x ∈ ps→0≤x.f0∧x.f0+2≤x.f1∧x.f1≤(l.length:Int)∧l[x.f0.toNat]? = some 34∧l[x.f1.toNat - 1]? = some 34 ∧ ∀ c,c ∈ keyOf l x→c≠34∧c≠92
  seg : ∀ x,x ∈ ps→0≤x.f2∧x.f2≤x.f3∧x.f3≤(xs.length:Int)
  ends:(ps.getD 0 z82).f2≤(ps.getD (ps.length - 1) z82).f3
  dist:ps.Pairwise (apart (keyOf l))
open Classical in
/-- What sortPairs answers. -/
noncomputable def pQ.f (l xs:List Int) (ps:List S82):Option (List Int) :=
  if ps=[] then some xs else if Ready l xs ps then
    (if isort (plt (keyOf l)) ps=ps then some xs else some (xs.take (ps.getD 0 z82).f2.toNat++sg xs (fun k=>(isort (plt (keyOf l)) ps).getD k z82) ps.length ps.length))
  else none
theorem sg_congr {xs:List Int} {f g:Nat→S82} {N:Nat} (h : ∀ k,k<N→f k=g k) : ∀ i,i≤N→sg xs f N i=sg xs g N i
  | 0,_=>rfl
  | i+1,hi=>by rw [sg,sg,sg_congr h i om,h i om]
/-- The rearranged and sorted row is the one that isort gives. -/
theorem sorted_row {lt:S82→S82→Bool} (ho:Order lt) {ps:List S82} (hd:ps.Pairwise (fun a b=>lt a b=true∨lt b a=true)) {g:Nat→S82} (hr:Rearr 0 ps.length (fun k=>ps.getD k z82) g) (hs:Srt lt g 0 ps.length) :
    (List.range ps.length).map g=isort lt ps:=by
  refine sorted_unique ho ?_ (isort_sorted ho hd) fun x=>?_
  · rw [List.pairwise_map]
    exact List.pairwise_lt_range.imp_of_mem fun {a b} ha hb hab=>hs a b (Nat.zero_le _) hab (List.mem_range.1 hb)
  · rw [mem_isort,List.mem_map]
    obtain ⟨s,t,p1,p2,p3,p4⟩:=hr
    constructor
    · rintro ⟨k,hk,rfl⟩
      have h1:=Rearr.inside p1 p3 ⟨Nat.zero_le _,List.mem_range.1 hk⟩
      rw [p4]
      show ps.getD (s k) z82 ∈ ps
      rw [List.getD_eq_getElem?_getD,List.getElem?_eq_getElem h1.2]
      exact List.getElem_mem _
    · intro hx
      obtain ⟨k,hk,rfl⟩:=List.mem_iff_getElem.1 hx
      have q3 : ∀ k, ¬ (0≤k∧k<ps.length)→t k=k:=fun k hk=>by have:=p3 k hk;have h2:=p1 k;rw [this] at h2;exact h2
      have h1:=Rearr.inside p2 q3 ⟨Nat.zero_le _,hk⟩
      refine ⟨t k,List.mem_range.2 h1.2,?_⟩
      rw [p4,p2]
      show ps.getD k z82=_
      rw [List.getD_eq_getElem?_getD,List.getElem?_eq_getElem hk]
      rfl
end Go.Proofs.Ytbkgoccnegjdhaa.Q
/- sortPairs: the call comes to what its function gives. -/
namespace Go.Proofs.Ytbkgoccnegjdhaa.Q
open Go.RowKit Go.Proofs.YtbkgoccnegjdhaaW.PrintWords Go.Proofs.YtbkgoccnegjdhaaW.PrintLast Go.Proofs.YtbkgoccnegjdhaaW.PrintMore Go.Proofs.Ytbkgoccnegjdhaa.M
attribute [local go_sem] max2_int min2_int max_two min_two max_three min_three max_four min_four
set_option linter.unusedVariables false
set_option linter.unusedSimpArgs false
theorem sortPairs.none_walk (w:World) (A:Option Addr) (c1 nl:Nat) (u:Value) (A2:Option Addr) (c2:Nat) :
    Calls Try.prog 46 #[.slice A nl c1,u, .slice A2 0 c2] w fun e w'=>e = .returned u∧w'=w:=by
  have b0:((0:Int) == 0)=true:=rfl
  go_enter Try.func46,Try.ntmps46
  go_wp2
  go_ret
  exact ⟨rfl,rfl⟩
theorem getD_mem {ps:List S82} {k:Nat} (hk:k<ps.length):ps.getD k z82 ∈ ps:=by
  rw [List.getD_eq_getElem?_getD,List.getElem?_eq_getElem hk]
  exact List.getElem_mem _
theorem keyOf_length {l:List Int} {x:S82} (h:0≤x.f0∧x.f0+2≤x.f1∧x.f1≤(l.length:Int)):(keyOf l x).length=x.f1.toNat - x.f0.toNat - 2:=by
  unfold keyOf;rw [List.length_take,List.length_drop];omega
theorem keyOf_getD {l:List Int} {x:S82} {q:Nat} (hq:q<(keyOf l x).length):(keyOf l x).getD q 0=l.getD (x.f0.toNat+1+q) 0:=by
  unfold keyOf at hq ⊢
  rw [List.length_take] at hq
  rw [List.getD_eq_getElem?_getD,List.getD_eq_getElem?_getD,List.getElem?_take_of_lt om,List.getElem?_drop]
theorem named_of {w:World} {B o nl:Nat} {l:List Int} {x:S82} (hc : ∀ j,j<nl→w.cell? ⟨B,o+j,none⟩=some (.int .u8 (l.getD j 0))) (hnl:l.length=nl)
    (h:0≤x.f0∧x.f0+2≤x.f1∧x.f1≤(l.length:Int)∧l[x.f0.toNat]? = some 34∧l[x.f1.toNat - 1]? = some 34 ∧ ∀ c,c ∈ keyOf l x→c≠34∧c≠92):Named w B (o+x.f0.toNat) (keyOf l x):=by
  have hl:=keyOf_length ⟨h.1,h.2.1,h.2.2.1⟩
  refine ⟨?_,fun q hq=>⟨?_,?_⟩,?_⟩
  · rw [hc _ om,List.getD_eq_getElem?_getD,h.2.2.2.1];rfl
  · rw [show o+x.f0.toNat+1+q=o+(x.f0.toNat+1+q) by omega,hc _ om,keyOf_getD hq]
  · have:=h.2.2.2.2.2 ((keyOf l x).getD q 0) (by rw [List.getD_eq_getElem?_getD,List.getElem?_eq_getElem hq];exact List.getElem_mem _)
    exact this
  · rw [show o+x.f0.toNat+1+(keyOf l x).length=o+(x.f1.toNat - 1) by omega,hc _ om,List.getD_eq_getElem?_getD,h.2.2.2.2.1];rfl
set_option maxHeartbeats 4000000 in
theorem pQ.calls (A0:Option Addr) (c0:Nat) (l0:List Int) (P1_:Nat→Prop) (u9001_:Value) (l1:List Int) (P2_:Nat→Prop) (u9002_:Value) (l2:List S82) (r:List Int) (w0 w:World) (hB:Below w0.heap.size w0 w)
    (hr0 : ∀ W_,Kept w W_ (fun k_=>P1_ k_∨P2_ k_)→Kd.C (Kd.int .u8) W_ A0 l0.length l0) (hc0:l0.length≤c0) (ho1:Kd.R (Kd.int .u8) 5 w w0.heap.size P1_ u9001_ l1) (ho2:Kd.R k82 82 w w0.heap.size P2_ u9002_ l2)
    (h:pQ.f l0 l1 l2=some r) :
    Calls Try.prog 46 #[.slice A0 l0.length c0,u9001_,u9002_] w fun e w' => ∃ v0_:Value,e = .returned (v0_)∧Kd.R (Kd.int .u8) 5 w' w0.heap.size (fun k_=>(P1_ k_∨w.heap.size≤k_)) v0_ r∧Below w0.heap.size w0 w'∧Kept w w' (fun k_=>P1_ k_∨P2_ k_):=by
  classical
  unfold pQ.f at h
  by_cases c:l2=[]
  · rw [if_pos c] at h
    injection h with h
    subst h;subst c
    obtain ⟨A2,c2,rfl⟩:=Kd.R_slice ho2
    exact (sortPairs.none_walk w A0 c0 l0.length u9001_ A2 c2).mono (by rintro e w' ⟨rfl,rfl⟩;exact ⟨_,rfl,Kd.R_mono ho1 (fun k hk => .inl hk),hB,Kept.refl _ _⟩)
  · rw [if_neg c] at h
    by_cases hr:Ready l0 l1 l2
    · rw [if_pos hr] at h
      have hn:0<l2.length:=List.length_pos_iff.2 c
      obtain ⟨G,cap,cs,rfl,hbG,hok,hG,hcap,hmax,hp⟩:=pairs_open ho2 hn
      have hx0:=hr.name _ (getD_mem hn)
      obtain ⟨ad,hA,hc⟩:=(Kd.reads_of_C (enc:=Value.int .u8) (d:=(0:Int)) (h1:=fun _=>rfl) (hr0 w (Kept.refl _ _))).2.2 om
      subst hA
      have hc00:=hc 0 om
      obtain ⟨B,o,sp⟩:=ad
      have hsp:sp=none:=by
        cases sp with
        | none=>rfl
        | some z =>
          exfalso
          have:w.cell? (Addr.add ⟨B,o,some z⟩ 0)=none:=by
            unfold World.cell?
            split
            · rename_i hh;simp [Addr.add]
            · rfl
          rw [this] at hc00;cases hc00
      subst hsp
      have hd:Dist (plt (keyOf l0)) (fun k=>l2.getD k z82) l2.length:=fun i j hi hj hne=>by
        have hpw:=List.pairwise_iff_getElem.1 hr.dist
        have ge : ∀ k (hk:k<l2.length),l2.getD k z82=l2[k]:=fun k hk=>by rw [List.getD_eq_getElem?_getD,List.getElem?_eq_getElem hk];rfl
        show plt (keyOf l0) (l2.getD i z82) (l2.getD j z82)=true∨plt (keyOf l0) (l2.getD j z82) (l2.getD i z82)=true
        rw [ge i hi,ge j hj]
        rcases Nat.lt_or_gt_of_ne hne with h1|h1
        · exact hpw i j hi hj h1
        · exact (hpw j i hj hi h1).symm
      refine (sortPairs.walk w0 w P1_ B o c0 l0.length u9001_ l1 G l2.length cap cs (fun k=>l2.getD k z82) (keyOf l0) hB ho1 hbG hG ⟨hn,hcap,hr.few⟩ ⟨hc0,hr.short⟩ hr.small hp
        (fun k hk=>?_) hd (fun k hk=>hr.seg _ (getD_mem hk)) hr.ends).mono ?_
      · have hx:=hr.name _ (getD_mem hk)
        have hkl:=keyOf_length ⟨hx.1,hx.2.1,hx.2.2.1⟩
        refine ⟨hx.1,?_,hx.2.2.1,fun W_ hW=>?_⟩
        · show (l2.getD k z82).f1=(l2.getD k z82).f0+((keyOf l0 (l2.getD k z82)).length+2:Nat)
          rw [hkl];omega
        · obtain ⟨ad2,hA2,hc2⟩:=(Kd.reads_of_C (enc:=Value.int .u8) (d:=(0:Int)) (h1:=fun _=>rfl) (hr0 W_ (hW.mono (fun q hq => .inr (by rw [hq];exact hok))))).2.2 om
          injection hA2 with hA2
          subst hA2
          exact named_of (nl:=l0.length) (fun j hj=>by have h5:=hc2 j hj;rw [show Addr.add ⟨B,o,none⟩ j=⟨B,o+j,none⟩ from by unfold Addr.add;split <;> simp_all] at h5;exact h5) rfl hx
      · rintro e w' ⟨v0,rfl,g',b',ht,hs,hR,hB',hK⟩
        refine ⟨v0,rfl,?_,hB',hK.mono (fun k hk=>hk.imp id (fun e=>by rw [e];exact hok))⟩
        have hd2:l2.Pairwise (fun a b=>plt (keyOf l0) a b=true∨plt (keyOf l0) b a=true):=hr.dist
        have hrow:=sorted_row (plt_order (keyOf l0)) hd2 ht.1 hs
        have hgk : ∀ k,k<l2.length→g' k=(isort (plt (keyOf l0)) l2).getD k z82:=fun k hk=>by
          rw [← hrow,List.getD_eq_getElem?_getD,List.getElem?_map,List.getElem?_range hk];rfl
        rcases ht.2 with ⟨e1,e2⟩|⟨e1,e2⟩
        · subst e1
          rw [if_neg (by decide)] at hR
          have:isort (plt (keyOf l0)) l2=l2:=by
            rw [← hrow,e2]
            apply List.ext_getElem?
            intro k
            rw [List.getElem?_map]
            by_cases hk:k<l2.length
            · rw [List.getElem?_range hk]
              show some (l2.getD k z82)=l2[k]?
              rw [List.getD_eq_getElem?_getD,List.getElem?_eq_getElem hk];rfl
            · rw [List.getElem?_eq_none (by simp;omega),List.getElem?_eq_none om];rfl
          rw [if_pos this] at h
          injection h with h
          subst h
          exact hR
        · subst e1
          rw [if_pos rfl] at hR
          have : ¬ isort (plt (keyOf l0)) l2=l2:=fun e=>e2 (fun i j hi hij hj=>by
            have h1:=isort_sorted (plt_order (keyOf l0)) hd2
            rw [e] at h1
            have h2:=List.pairwise_iff_getElem.1 h1 i j om hj hij
            have ge : ∀ k (hk:k<l2.length),l2.getD k z82=l2[k]:=fun k hk=>by rw [List.getD_eq_getElem?_getD,List.getElem?_eq_getElem hk];rfl
            show plt (keyOf l0) (l2.getD i z82) (l2.getD j z82)=true
            rw [ge i om,ge j hj];exact h2)
          rw [if_neg this] at h
          injection h with h
          subst h
          rw [← sg_congr (N:=l2.length) hgk _ (Nat.le_refl _)]
          exact hR
    · rw [if_neg hr] at h;cases h
end Go.Proofs.Ytbkgoccnegjdhaa.Q

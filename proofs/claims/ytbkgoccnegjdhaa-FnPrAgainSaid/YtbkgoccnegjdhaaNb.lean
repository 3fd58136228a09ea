/- sortPairs: the members' texts in the order of their names. -/
import Derived.Test.YtbkgoccnegjdhaaNa
import Derived.Test.YtbkgoccnegjdhaaX1
namespace Go.Proofs.Ytbkgoccnegjdhaa.Q
open Go.RowKit Go.Proofs.YtbkgoccnegjdhaaW.PrintWords Go.Proofs.YtbkgoccnegjdhaaW.PrintLast Go.Proofs.YtbkgoccnegjdhaaW.PrintMore Go.Proofs.Ytbkgoccnegjdhaa.M
attribute [local go_sem] max2_int min2_int max_two min_two max_three min_three max_four min_four
set_option linter.unusedVariables false
set_option linter.unusedSimpArgs false
/-- The row of pairs, opened to its block's cells. -/
theorem pairs_open {w:World} {base:Nat} {ok:Nat→Prop} {v:Value} {ps:List S82} (h:Kd.R k82 82 w base ok v ps) (hn:0<ps.length) :
    ∃ G cap cs,v = .slice (some ⟨G,0,none⟩) ps.length cap∧base≤G∧ok G∧w.heap[G]? = some (.cells cs 82 (0,0))∧ps.length≤cap∧cap≤maxLen ∧ ∀ k,k<ps.length→PairAt cs k (ps.getD k z82):=by
  obtain ⟨h0,inner,⟨hl,ho⟩,hr⟩:=h
  rcases ho with ⟨-, h1⟩|⟨G,cap,cur,rfl,hb,hg,hc,hm,hz,ht⟩
  · omega
  · refine ⟨G,cap,cur,rfl,hb,h0 G rfl,hg,hc,hm,fun k hk=>?_⟩
    have hk1:ps[k]? = some (ps.getD k z82):=by rw [List.getD_eq_getElem?_getD,List.getElem?_eq_getElem hk];rfl
    have h2:=k82_openM (hr.2 k _ hk1)
    have e : ∀ q,q<4→cur[k*4+q]? = ((inner.drop (k*4)).take 4)[q]? := fun q hq=>by
      rw [List.getElem?_take_of_lt hq,List.getElem?_drop, ← ht,List.getElem?_take_of_lt (by show k*4+q<ps.length*4;omega),Array.getElem?_toList]
    have e2:(inner.drop (k*4)).take 4=[.int .i64 (ps.getD k z82).f0, .int .i64 (ps.getD k z82).f1, .int .i64 (ps.getD k z82).f2, .int .i64 (ps.getD k z82).f3]:=h2
    rw [e2] at e
    exact ⟨e 0 om,e 1 om,e 2 om,e 3 om⟩
/-- The bytes between the quotation marks that a pair tells. -/
def keyOf (l:List Int) (x:S82):List Int:=(l.drop (x.f0.toNat+1)).take (x.f1.toNat - x.f0.toNat - 2)
theorem fc_grown {w0 w3 W W1:World} {v:Value} (h3:Below w3.heap.size w3 W) (hW:Below w0.heap.size w0 W) (hb:Below w0.heap.size w0 W1) (hg:W.grownBy W1 v.ownBlock) (ho : ∀ k,v.ownBlock=some k→w3.heap.size≤k):Below w3.heap.size w3 W1 :=
  ⟨(hb.os.trans hW.os.symm).trans h3.os,(hb.tape.trans hW.tape.symm).trans h3.tape,(hb.output.trans hW.output.symm).trans h3.output,Nat.le_trans h3.size hg.size,fun k hk=>(hg.block k (Nat.lt_of_lt_of_le hk h3.size) (fun e=>by have:=ho k e.symm;omega)).trans (h3.block k hk)⟩
def segOf (xs:List Int) (x:S82):List Int:=(xs.take x.f3.toNat).drop x.f2.toNat
/-- The first i members' texts, a comma and a line feed behind each but the N-th. -/
def sg (xs:List Int) (f:Nat→S82) (N:Nat):Nat→List Int
  | 0=>[]
  | i+1=>sg xs f N i++segOf xs (f i)++(if i+1<N then [44,10] else [])
theorem sg_len {xs:List Int} {f:Nat→S82} {N L:Nat} (h : ∀ k,k<N→(segOf xs (f k)).length≤L) : ∀ i,i≤N→(sg xs f N i).length≤i*(L+2)
  | 0,_=>by simp [sg]
  | i+1,hi=>by
    have h1:=sg_len h i om
    have h2:=h i om
    rw [sg,List.length_append,List.length_append,Nat.succ_mul]
    by_cases c:i+1<N
    · rw [if_pos c];simp only [List.length_cons,List.length_nil];omega
    · rw [if_neg c];simp only [List.length_nil];omega
theorem seg_len {xs:List Int} {x:S82} (h:0≤x.f2∧x.f2≤x.f3∧x.f3≤(xs.length:Int)):(segOf xs x).length≤xs.length:=by
  unfold segOf;rw [List.length_drop,List.length_take];omega
set_option maxHeartbeats 8000000 in
set_option maxRecDepth 100000 in
theorem sortPairs.walk (w0 w:World) (P1:Nat→Prop) (B o c1 nl:Nat) (u:Value) (xs:List Int) (G N cap:Nat) (cs:Array Value) (f:Nat→S82) (key:S82→List Int) (hB:Below w0.heap.size w0 w)
    (ho:Kd.R (Kd.int .u8) 5 w w0.heap.size P1 u xs) (hbG:w0.heap.size≤G) (hG:w.heap[G]? = some (.cells cs 82 (0,0))) (hN:0<N∧N≤cap∧N≤100000) (hl:nl≤c1∧nl≤2000000000) (hxs:xs.length≤1300000000)
    (hp : ∀ k,k<N→PairAt cs k (f k)) (hnm : ∀ k,k<N→0≤(f k).f0∧(f k).f1=(f k).f0+((key (f k)).length+2:Nat)∧(f k).f1≤nl ∧ ∀ W_,Kept w W_ (fun q=>q=G)→Named W_ B (o+(f k).f0.toNat) (key (f k)))
    (hd:Dist (plt key) f N) (hv : ∀ k,k<N→0≤(f k).f2∧(f k).f2≤(f k).f3∧(f k).f3≤(xs.length:Int)) (hvv:(f 0).f2≤(f (N - 1)).f3) :
    Calls Try.prog 46 #[.slice (some ⟨B,o,none⟩) nl c1,u, .slice (some ⟨G,0,none⟩) N cap] w fun e w' => ∃ v0,e = .returned v0 ∧ ∃ g' b',Trk (plt key) 0 N f false g' b'∧Srt (plt key) g' 0 N ∧
      Kd.R (Kd.int .u8) 5 w' w0.heap.size (fun k=>P1 k∨w.heap.size≤k) v0 (if b'=true then xs.take (f 0).f2.toNat++sg xs g' N N else xs)∧Below w0.heap.size w0 w'∧Kept w w' (fun k=>P1 k∨k=G):=by
  have hu84:=Try.underlying84
  have HB:=Ak hB
  have HO:=Ak ho
  have HG:=Ak hG
  have HBG:=Ak hbG
  have HN:=Ak hN
  have HL:=Ak hl
  have HXS:=Ak hxs
  have HPA:=Ak hp
  have HNM:=Ak hnm
  have HD:=Ak hd
  have HV:=Ak hv
  have HVV:=Ak hvv
  obtain ⟨x0,hx0⟩ : ∃ x,x=f 0:=⟨_,rfl⟩
  obtain ⟨xn,hxn⟩ : ∃ x,x=f (N - 1):=⟨_,rfl⟩
  have HX0:=Ak hx0
  have HXN:=Ak hxn
  have cz0:w.cell? ⟨G,2,none⟩=some (.int .i64 x0.f2):=(blk_cell hG 2).trans (by rw [hx0];exact (hp 0 hN.1).2.2.1)
  have cz1:w.cell? ⟨G,(N - 1)*4+3,none⟩=some (.int .i64 xn.f3):=(blk_cell hG _).trans (by rw [hxn];exact (hp (N - 1) om).2.2.2)
  have E1:Aside0 (wrap64 ((N:Int) - 1)=((N - 1:Nat):Int)):=⟨wpred om om⟩
  have b0:((N:Int) == 0)=false:=beq_eq_false_iff_ne.mpr om
  have p0:(0:Int)<(N:Int):=by omega
  have p1:((N - 1:Nat):Int)<(N:Int):=by omega
  have p2:(0:Int)≤((N - 1:Nat):Int):=by omega
  obtain ⟨Au,cu,rfl⟩:=Kd.R_slice ho
  clear hB ho hG hbG hN hl hxs hp hnm hd hv hvv hx0 hxn
  go_enter Try.func46,Try.ntmps46
  go_upto_region 4 with (fail)
  (try simp only [Act.put,List.setIfInBounds_toArray,List.set_cons_zero,List.set_cons_succ])
  have e1:=E1.out
  go_upto_region 6 with (first
    | ((with_reducible refine gate_dst (N:=9) rfl ?_);refine box_event ?hg (N:=9) ?hd (cs := #[.bool false, .slice none 0 0, .slice none 0 0, .slice none 0 0]) (t:=84) ?hr ?_;(case hd=>rfl);(case hg=>rfl);(case hr=>first|(go_simp;done)|(go_simp;rfl));intro g hg w1 hb1 hB1;have HGE:=Ak (show g=w.heap.size from hg);have HB1:=Ak (below_step HB.out hB1);have HF1:=Ak hB1;have BK1:=Ak hb1;clear hg hb1 hB1)
    | ((with_reducible refine gate_store (t:=84) (p:=9) rfl ?_);refine box_put (g:=g) (cs := #[.bool false, .slice none 0 0, .slice none 0 0, .slice none 0 0]) (cs' := #[.bool false, .slice (some ⟨B,o,none⟩) nl c1, .slice Au xs.length cu, .slice (some ⟨G,0,none⟩) N cap]) rfl rfl rfl rfl rfl rfl BK1.out rfl (by kernel_rfl) ?h1 ?_;(case h1=>intro q hq;simp only [List.mem_cons,List.not_mem_nil,or_false] at hq;rcases hq with rfl|rfl|rfl|rfl;exact rfl;exact rfl;exact rfl;exact rfl);intro w2 pb2;have PB2:=Ak pb2;clear pb2))
  have NE:=Ak (show g≠G from by have:=blk_lt HG.out;have:=HGE.out;omega)
  have F2:=Ak (show ∀ q,q<w.heap.size→w2.heap[q]? = w.heap[q]? from fun q hq=>(PB2.out.far q (by have:=HGE.out;omega)).trans (HF1.out.block q hq))
  have SZ2:=Ak (show w.heap.size≤w2.heap.size from by rw [PB2.out.size];exact HF1.out.size)
  have HB2:=Ak (PB2.out.below HB1.out (by rw [HGE.out];exact HB.out.size))
  have SOR:=Ak (sorter w2 g G N cap (.slice Au xs.length cu) B o nl c1 key cs.size (fun q=>cs[q]?) NE.out (by have:=HN.out;omega) HL.out)
  have ST2:Aside0 (SSt w2 g G N cap (.slice Au xs.length cu) B o nl c1 key cs.size (fun q=>cs[q]?) w2 f false):=⟨{
    arr:=PB2.out.blk
    row:=⟨cs,(F2.out G (blk_lt HG.out)).trans HG.out,HPA.out,fun _ _=>rfl,rfl⟩
    beside:=Beside.refl _ _ _
    good:=fun k hk=>⟨(HNM.out k hk).1,(HNM.out k hk).2.1,(HNM.out k hk).2.2.1,fun W_ hW=>(HNM.out k hk).2.2.2 W_ ⟨by rw [hW.size];exact SZ2.out,fun q hq hne=>(hW.rest q (by have:=HGE.out;omega) hne).trans (F2.out q hq)⟩⟩
    dist:=HD.out }⟩
  go_upto_region 7 with (first
    | ((with_reducible refine gate_callee (f:=48) rfl ?_);refine goesL_ (some 33) rfl rfl Try.func48 (by kernel_rfl) rfl #[.iface 86 (.pointer (some ⟨g,0,none⟩))] rfl (by go_simp;done) ?_;refine ((Stable.calls SOR.out (plt_order key) f false _ HD.out ST2.out).mono ?_);rintro e w3 ⟨rfl,g',b',h2,h3,h4⟩;refine ⟨_,rfl,?_⟩;have ST3:=Ak h2;have HT:=Ak h3;have HSR:=Ak h4;clear h2 h3 h4 ST2))
  have SZ3:=Ak (show w3.heap.size=w2.heap.size from ST3.out.beside.size)
  have F3:=Ak (show ∀ q,q<w.heap.size→q≠G→w3.heap[q]? = w.heap[q]? from fun q hq hne=>(ST3.out.beside.rest q (by have:=HGE.out;omega) hne).trans (F2.out q hq))
  have HK3:=Ak (show Kept w w3 (fun k=>P1 k∨k=G) from ⟨by rw [SZ3.out];exact SZ2.out,fun q hq hne=>F3.out q hq (fun e=>hne (.inr e))⟩)
  have HB3:=Ak (show Below w0.heap.size w0 w3 from ⟨ST3.out.beside.os.trans HB2.out.os,ST3.out.beside.tape.trans HB2.out.tape,ST3.out.beside.output.trans HB2.out.output,by rw [SZ3.out];exact HB2.out.size,fun k hk=>(F3.out k (by have:=HB.out.size;omega) (by have:=HBG.out;omega)).trans (HB.out.block k hk)⟩)
  have HO3:=Ak (show Kd.R (Kd.int .u8) 5 w3 w0.heap.size (fun k=>some k=(Value.slice Au xs.length cu).ownBlock) (.slice Au xs.length cu) xs from Kd.R_step (Kd.R_tight rfl HO.out) fun k hk hlt=>F3.out k hlt (by
    intro e
    subst e
    exact Kd.R_ne HO.out HG.out (by decide) hk))
  have ca:w3.cell? ⟨g,0,none⟩=some (.bool b'):=(blk_cell ST3.out.arr 0).trans rfl
  cases b' with
  | false =>
    go_wp2
    go_ret
    exact ⟨_,rfl,g',false,HT.out,HSR.out,Kd.R_mono HO3.out (fun k hk => .inl (HO.out.1 k hk.symm)),HB3.out,HK3.out⟩
  | true =>
    obtain ⟨vd,hvd⟩ : ∃ z,z=xn.f3 - x0.f2:=⟨_,rfl⟩
    have HVD:=Ak (show 0≤vd∧vd≤100000000000000 from by
      have h1:=HV.out (N - 1) (by have:=HN.out;omega)
      have h2:=HV.out 0 HN.out.1
      have h3:=HVV.out
      rw [← HX0.out, ← HXN.out] at h3
      rw [← HX0.out] at h2
      rw [← HXN.out] at h1
      have:=HXS.out
      omega)
    have E2:Aside0 (wrap64 (xn.f3 - x0.f2)=vd):=⟨by rw [← hvd];exact wq (by have:=HVD.out;omega) (by have:=HVD.out;omega)⟩
    clear hvd
    go_upto_region 10 with (first
      | ((with_reducible refine gate_dst (N:=41) rfl ?_);refine Kd.R_make0 (Kd.int .u8) (w0:=w0) w0.heap.size 5 rfl (N:=41) rfl 44 _ _ rfl vd rfl ?hn Try.underlying44 (.int .u8 0) 1 rfl rfl (by decide) om 0 (okp:=fun _=>False) (ok:=fun k=>w3.heap.size≤k) rfl (fun _ hk=>hk.elim) (Nat.le_refl _) HVD.out.1 (by have:=HVD.out;omega) HB3.out HB3.out.size ?_;(case hn=>first|exact E2.out|(go_simp;exact E2.out));intro v4 w4 ho4 hb4 hg4 hat4;have HO4:=Ak ho4;have HB4:=Ak hb4;have HG4:=Ak hg4;clear ho4 hb4 hg4 hat4))
    have F4:=Ak (show Below w3.heap.size w3 w4 from ⟨HB4.out.os.trans HB3.out.os.symm,HB4.out.tape.trans HB3.out.tape.symm,HB4.out.output.trans HB3.out.output.symm,HG4.out.size,fun k hk=>HG4.out.block k hk (by simp)⟩)
    obtain ⟨cs3,hG3,hp3, -, -⟩:=ST3.out.row
    have HG3:=Ak hG3
    have HP3:=Ak hp3
    clear hG3 hp3 ca cz0 cz1 e1
    have HVG:=Ak (HT.out.1.all (p:=fun x=>0≤x.f2∧x.f2≤x.f3∧x.f3≤(xs.length:Int)) (fun k _ hk=>HV.out k hk))
    have HRU:=Ak (Kd.R_reads' HO3.out)
    obtain ⟨i5,hi5,_,hsz5,_⟩:=info_parts info5
    have HI5:=Ak hi5
    have HSZ5:=Ak hsz5
    clear hi5 hsz5
    go_wp2
    (try simp only [Act.put,List.setIfInBounds_toArray,List.set_cons_zero,List.set_cons_succ])
    go_loopg [10,11,12,44] N (fun kq v10 v11 v12 v44 wc => ∃ (i:Nat),v44 = .int .i64 i∧Aside0 (i≤N∧N≤i+kq)∧Aside0 (Kd.R (Kd.int .u8) 5 wc w0.heap.size (fun k=>w3.heap.size≤k) v10 (sg xs g' N i))∧Aside0 (Below w0.heap.size w0 wc)∧Aside0 (Below w3.heap.size w3 wc))
    case atStart=>exact ⟨0,rfl,⟨by omega⟩,HO4,HB4,F4⟩
    case round =>
      clear HO4 HB4 F4
      obtain ⟨i,rfl,HI,HOC,HBC,FC⟩:=hrel
      by_cases c:i<N
      · obtain ⟨x,hx⟩ : ∃ x,x=g' i:=⟨_,rfl⟩
        have HX:=Ak hx
        have hcell:=fun q=>(blk_cell ((FC.out.block G (blk_lt HG3.out)).trans HG3.out) q)
        have hpi:=HP3.out i c
        rw [← hx] at hpi
        have cx0:wr.cell? ⟨G,i*4,none⟩=some (.int .i64 x.f0):=(hcell _).trans hpi.1
        have cx1:wr.cell? ⟨G,i*4+1,none⟩=some (.int .i64 x.f1):=(hcell _).trans hpi.2.1
        have cx2:wr.cell? ⟨G,i*4+2,none⟩=some (.int .i64 x.f2):=(hcell _).trans hpi.2.2.1
        have cx3:wr.cell? ⟨G,i*4+3,none⟩=some (.int .i64 x.f3):=(hcell _).trans hpi.2.2.2
        have HVX:=Ak (show 0≤x.f2∧x.f2≤x.f3∧x.f3≤(xs.length:Int) from by rw [hx];exact HVG.out i (Nat.zero_le _) c)
        clear hx hpi hcell
        have hcut:=cut_mid (P:=Try.prog) 44 5 .i64 .i64 Try.underlying44 HI5.out 1 HSZ5.out Au xs.length cu x.f2 x.f3 HVX.out.1 HVX.out.2.1 HVX.out.2.2 HRU.out.2.1
        have cb:decide ((i:Int)<(N:Int))=true:=decide_eq_true om
        have q0:(0:Int)≤(i:Int):=by omega
        have q1:(i:Int)<(N:Int):=by omega
        obtain ⟨ys,hys⟩ : ∃ z,z=segOf xs x:=⟨_,rfl⟩
        have HYS:=Ak hys
        have hyl:ys.length=x.f3.toNat - x.f2.toNat:=by rw [hys];unfold segOf;rw [List.length_drop,List.length_take];have:=HVX.out;omega
        have HYL:=Ak (show (ys.length:Int)≤(xs.length:Int) from by have:=HVX.out;omega)
        obtain ⟨A5,hA5⟩ : ∃ z,z=(if cu=x.f2.toNat then Au else (Au:Option Addr).map (·.add (x.f2.toNat*1))):=⟨_,rfl⟩
        obtain ⟨c5,hc5⟩ : ∃ z,z=cu - x.f2.toNat:=⟨_,rfl⟩
        have HR5:=Ak (show Kd.C (Kd.int .u8) wr A5 ys.length ys from by
          have h:=Kd.C_mid (lo:=x.f2.toNat) (hi:=x.f3.toNat) (c:=cu) (Kd.C_below HRU.out.2.2 FC.out) (by have:=HVX.out;omega) (by have:=HVX.out;omega) HRU.out.2.1
          rw [hys,hA5];exact h)
        rw [← hyl, ← hA5, ← hc5] at hcut
        have HLS:=Ak (show (sg xs g' N i).length+ys.length+2≤140000000000000 from by
          have h1:=sg_len (L:=xs.length) (fun k hk=>seg_len (HVG.out k (Nat.zero_le _) hk)) i om
          have h2:i*(xs.length+2)≤99999*(1300000002):=Nat.mul_le_mul (by have:=HN.out;omega) (by have:=HXS.out;omega)
          have:=HYL.out;have:=HXS.out;omega)
        clear hys hyl hA5 hc5
        obtain ⟨acc,hacc⟩ : ∃ z,z=sg xs g' N i:=⟨_,rfl⟩
        have HACC:=Ak hacc
        rw [← hacc] at HOC HLS
        clear hacc
        obtain ⟨acc2,hacc2⟩ : ∃ z,z=acc++ys:=⟨_,rfl⟩
        have HACC2:=Ak hacc2
        have HL2:=Ak (show acc2.length+2≤140000000000000 from by have:=HLS.out;rw [hacc2,List.length_append];omega)
        clear hacc2
        by_cases c2:i<N - 1
        · have cb2:decide ((i:Int)<wrap64 ((N:Int) - 1))=true:=by rw [E1.out];exact decide_eq_true om
          go_upto_region 17 with (first
            | ((with_reducible refine gate_dst (N:=12) rfl ?_);refine box_event ?hg (N:=12) ?hd (cs := #[.int .i64 0, .int .i64 0, .int .i64 0, .int .i64 0]) (t:=82) ?hr ?_;(case hd=>rfl);(case hg=>rfl);(case hr=>first|(go_simp;done)|(go_simp;rfl));intro gp hgp w5 hb5 hB5;have HGP:=Ak (show wr.heap.size≤gp from by rw [hgp];exact Nat.le_refl _);have BK5:=Ak hb5;have F5:=Ak hB5;clear hgp hb5 hB5)
            | ((with_reducible refine gate_store (t:=82) (p:=12) rfl ?_);refine box_put (g:=gp) (cs := #[.int .i64 0, .int .i64 0, .int .i64 0, .int .i64 0]) (cs' := #[.int .i64 x.f0, .int .i64 x.f1, .int .i64 x.f2, .int .i64 x.f3]) rfl rfl rfl rfl rfl rfl BK5.out rfl (by kernel_rfl) ?h1 ?_;(case h1=>intro q hq;simp only [List.mem_cons,List.not_mem_nil,or_false] at hq;rcases hq with rfl|rfl|rfl|rfl;exact rfl;exact rfl;exact rfl;exact rfl);intro w6 pb6;have F6:=Ak (show Below wr.heap.size wr w6 from pb6.below F5.out HGP.out);have HBC6:=Ak (below_step HBC.out F6.out);have FC6:=Ak (below_step FC.out F6.out);have HO6:=Ak (Kd.R_below HOC.out F6.out);have HR6:=Ak (Kd.C_below HR5.out F6.out);have cp2:w6.cell? ⟨gp,2,none⟩=some (.int .i64 x.f2):=(blk_cell pb6.blk 2).trans rfl;have cp3:w6.cell? ⟨gp,3,none⟩=some (.int .i64 x.f3):=(blk_cell pb6.blk 3).trans rfl;clear pb6)
            | ((with_reducible refine gate_builtin (b := .append) (xs := #[.tmp 49, .tmp 55]) rfl ?_);at_builtin;refine Kd.R_append_rows (Kd.int .u8) (w0:=w0) w0.heap.size rfl (.tmp 49) (.tmp 55) 44 5 (.int .u8 0) 1 rfl Try.underlying44 info5 rfl (by decide) om u10 acc ys _ _ _ (fun k_=>w3.heap.size≤k_) (fun _=>False) rfl rfl ?aO ?aR (fun _ _ h=>h) (fun _ h=>h.elim) ?aF ?aB ?aS ?aL ?_;(case aR=>exact HR6.out);(case aB=>exact HBC6.out);(case aF=>exact (fun k_ hk=>Nat.le_trans FC6.out.size hk));(case aO=>exact HO6.out);(case aS=>exact HBC6.out.size);(case aL=>have:=HLS.out;omega);intro v7 w7 ho hb hg hat;rw [← HACC2.out] at ho;have FC7:=Ak (fc_grown FC6.out HBC6.out hb hg HO6.out.1);have HBC7:=Ak hb;have HO7:=Ak ho;clear ho hb hg hat)
            | ((with_reducible refine gate_builtin (b := .append) (xs := #[.tmp 62, .tmp 63]) rfl ?_);at_builtin;refine Kd.R_append (Kd.int .u8) (w0:=w0) w0.heap.size rfl (.tmp 62) (.tmp 63) 44 5 (.int .u8 0) 1 rfl Try.underlying44 info5 rfl (by decide) om v7 acc2 44 [.int .u8 44] (fun k_=>w3.heap.size≤k_) (fun _=>False) rfl rfl ?aP (fun _ hk=>hk.elim) ?aF ?aO ?aB ?aS ?aL ?_;(case aP=>exact rfl);(case aB=>exact HBC7.out);(case aF=>exact (fun k_ hk=>Nat.le_trans FC7.out.size hk));(case aO=>exact HO7.out);(case aS=>exact HBC7.out.size);(case aL=>have:=HL2.out;omega);intro v8 w8 ho hb hg hat;have FC8:=Ak (fc_grown FC7.out HBC7.out hb hg HO7.out.1);have HBC8:=Ak hb;have HO8:=Ak ho;clear ho hb hg hat)
            | ((with_reducible refine gate_builtin (b := .append) (xs := #[.tmp 65, .tmp 66]) rfl ?_);at_builtin;refine Kd.R_append (Kd.int .u8) (w0:=w0) w0.heap.size rfl (.tmp 65) (.tmp 66) 44 5 (.int .u8 0) 1 rfl Try.underlying44 info5 rfl (by decide) om v8 (acc2++[44]) 10 [.int .u8 10] (fun k_=>w3.heap.size≤k_) (fun _=>False) rfl rfl ?aP (fun _ hk=>hk.elim) ?aF ?aO ?aB ?aS ?aL ?_;(case aP=>exact rfl);(case aB=>exact HBC8.out);(case aF=>exact (fun k_ hk=>Nat.le_trans FC8.out.size hk));(case aO=>exact HO8.out);(case aS=>exact HBC8.out.size);(case aL=>have:=HL2.out;(simp only [List.length_append,List.length_cons,List.length_nil]);omega);intro v9 w9 ho hb hg hat;have FC9:=Ak (fc_grown FC8.out HBC8.out hb hg HO8.out.1);have HBC9:=Ak hb;have HO9:=Ak ho;clear ho hb hg hat))
          have E3:Aside0 (wrap64 ((i:Int)+1)=((i+1:Nat):Int)):=⟨wsucc (by have:=HN.out;omega)⟩
          go_wp2
          rw [E3.out]
          go_roundg (gk - 1)
          case measure=>have:=HI.out;omega
          case rel=>exact ⟨i+1,rfl,⟨by have:=HI.out;omega⟩,⟨by
            have h:=HO9.out
            rw [HACC2.out,HACC.out,HYS.out,HX.out] at h
            rw [sg,if_pos om]
            simpa using h⟩,HBC9,FC9⟩
        · have cb2:decide ((i:Int)<wrap64 ((N:Int) - 1))=false:=by rw [E1.out];exact decide_eq_false om
          go_upto_region 17 with (first
            | ((with_reducible refine gate_dst (N:=12) rfl ?_);refine box_event ?hg (N:=12) ?hd (cs := #[.int .i64 0, .int .i64 0, .int .i64 0, .int .i64 0]) (t:=82) ?hr ?_;(case hd=>rfl);(case hg=>rfl);(case hr=>first|(go_simp;done)|(go_simp;rfl));intro gp hgp w5 hb5 hB5;have HGP:=Ak (show wr.heap.size≤gp from by rw [hgp];exact Nat.le_refl _);have BK5:=Ak hb5;have F5:=Ak hB5;clear hgp hb5 hB5)
            | ((with_reducible refine gate_store (t:=82) (p:=12) rfl ?_);refine box_put (g:=gp) (cs := #[.int .i64 0, .int .i64 0, .int .i64 0, .int .i64 0]) (cs' := #[.int .i64 x.f0, .int .i64 x.f1, .int .i64 x.f2, .int .i64 x.f3]) rfl rfl rfl rfl rfl rfl BK5.out rfl (by kernel_rfl) ?h1 ?_;(case h1=>intro q hq;simp only [List.mem_cons,List.not_mem_nil,or_false] at hq;rcases hq with rfl|rfl|rfl|rfl;exact rfl;exact rfl;exact rfl;exact rfl);intro w6 pb6;have F6:=Ak (show Below wr.heap.size wr w6 from pb6.below F5.out HGP.out);have HBC6:=Ak (below_step HBC.out F6.out);have FC6:=Ak (below_step FC.out F6.out);have HO6:=Ak (Kd.R_below HOC.out F6.out);have HR6:=Ak (Kd.C_below HR5.out F6.out);have cp2:w6.cell? ⟨gp,2,none⟩=some (.int .i64 x.f2):=(blk_cell pb6.blk 2).trans rfl;have cp3:w6.cell? ⟨gp,3,none⟩=some (.int .i64 x.f3):=(blk_cell pb6.blk 3).trans rfl;clear pb6)
            | ((with_reducible refine gate_builtin (b := .append) (xs := #[.tmp 49, .tmp 55]) rfl ?_);at_builtin;refine Kd.R_append_rows (Kd.int .u8) (w0:=w0) w0.heap.size rfl (.tmp 49) (.tmp 55) 44 5 (.int .u8 0) 1 rfl Try.underlying44 info5 rfl (by decide) om u10 acc ys _ _ _ (fun k_=>w3.heap.size≤k_) (fun _=>False) rfl rfl ?aO ?aR (fun _ _ h=>h) (fun _ h=>h.elim) ?aF ?aB ?aS ?aL ?_;(case aR=>exact HR6.out);(case aB=>exact HBC6.out);(case aF=>exact (fun k_ hk=>Nat.le_trans FC6.out.size hk));(case aO=>exact HO6.out);(case aS=>exact HBC6.out.size);(case aL=>have:=HLS.out;omega);intro v7 w7 ho hb hg hat;rw [← HACC2.out] at ho;have FC7:=Ak (fc_grown FC6.out HBC6.out hb hg HO6.out.1);have HBC7:=Ak hb;have HO7:=Ak ho;clear ho hb hg hat))
          have E3:Aside0 (wrap64 ((i:Int)+1)=((i+1:Nat):Int)):=⟨wsucc (by have:=HN.out;omega)⟩
          go_wp2
          rw [E3.out]
          go_roundg (gk - 1)
          case measure=>have:=HI.out;omega
          case rel=>exact ⟨i+1,rfl,⟨by have:=HI.out;omega⟩,⟨by
            have h:=HO7.out
            rw [HACC2.out,HACC.out,HYS.out,HX.out] at h
            rw [sg,if_neg om,List.append_nil]
            exact h⟩,HBC7,FC7⟩
      · have cb:decide ((i:Int)<(N:Int))=false:=decide_eq_false om
        have e:i=N:=by have:=HI.out;omega
        subst e
        have HV0:=Ak (show 0≤x0.f2∧x0.f2≤(xs.length:Int) from by have h:=HV.out 0 HN.out.1;rw [← HX0.out] at h;omega)
        have hcut:=cut_to (P:=Try.prog) 44 5 .i64 Try.underlying44 HI5.out Au xs.length cu x0.f2 HV0.out.1 HV0.out.2 HRU.out.2.1
        have HOT:=Ak (Kd.R_mono (ok':=fun k=>P1 k∨w.heap.size≤k) (Kd.R_take (m:=x0.f2.toNat) (Kd.R_below HO3.out FC.out) (by have:=HV0.out;omega)) (fun k hk => .inl (HO.out.1 k hk.symm)))
        obtain ⟨An,cn,en,hcn,hRn⟩:=Kd.R_reads HOC.out
        subst en
        have HRN:=Ak hRn
        have HSL:=Ak (show (sg xs g' i i).length≤140000000000000 from by
          have h1:=sg_len (L:=xs.length) (fun k hk=>seg_len (HVG.out k (Nat.zero_le _) hk)) i (Nat.le_refl _)
          have h2:i*(xs.length+2)≤100000*(1300000002):=Nat.mul_le_mul (by have:=HN.out;omega) (by have:=HXS.out;omega)
          omega)
        have HTL:=Ak (show (xs.take x0.f2.toNat).length≤1300000000 from by rw [List.length_take];have:=HXS.out;omega)
        have HWW:=Ak (show w.heap.size≤wr.heap.size from by have:=FC.out.size;have:=SZ3.out;have:=SZ2.out;omega)
        obtain ⟨ns,hns⟩ : ∃ z,z=sg xs g' i i:=⟨_,rfl⟩
        have HNS:=Ak hns
        rw [← hns] at HRN HSL HOC
        obtain ⟨nn,hnn⟩ : ∃ z,z=ns.length:=⟨_,rfl⟩
        rw [← hns] at hcn
        rw [← hns]
        clear hns hRn hnn nn
        go_wp2_with (first
          | ((with_reducible refine gate_builtin (b := .append) (xs := #[.tmp 71, .tmp 72]) rfl ?_);at_builtin;refine Kd.R_append_rows (Kd.int .u8) (w0:=w0) w0.heap.size rfl (.tmp 71) (.tmp 72) 44 5 (.int .u8 0) 1 rfl Try.underlying44 info5 rfl (by decide) om (.slice Au x0.f2.toNat cu) (xs.take x0.f2.toNat) ns _ _ _ (fun k_=>P1 k_∨w.heap.size≤k_) (fun _=>False) rfl rfl ?aO ?aR (fun _ _ h=>h) (fun _ h=>h.elim) ?aF ?aB ?aS ?aL ?_;(case aR=>exact HRN.out);(case aB=>exact HBC.out);(case aF=>exact (fun k_ hk => .inr (Nat.le_trans HWW.out hk)));(case aO=>exact HOT.out);(case aS=>exact HBC.out.size);(case aL=>have:=HSL.out;have:=HTL.out;omega);intro v7 w7 ho hb hg hat;have HG7:=Ak hg;have HBC7:=Ak hb;have HO7:=Ak ho;clear ho hb hg hat))
        go_ret
        exact ⟨_,rfl,g',true,HT.out,HSR.out,by rw [if_pos rfl, ← HX0.out, ← HNS.out];exact HO7.out,HBC7.out,⟨Nat.le_trans HK3.out.1 (Nat.le_trans FC.out.size HG7.out.size),fun q hq hne=>(HG7.out.block q (by have:=HWW.out;omega) (fun e=>(HOT.out.1 q e.symm).elim (fun h=>hne (.inl h)) (fun h=>by omega))).trans ((FC.out.block q (by have:=SZ3.out;have:=SZ2.out;omega)).trans (HK3.out.2 q hq hne))⟩⟩
end Go.Proofs.Ytbkgoccnegjdhaa.Q

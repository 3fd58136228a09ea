/- utf8.EncodeRune into a row of bytes of the call's own. -/
import Derived.Test.YtnejkimpkaopoaaGreatDoorDg
import Derived.Test.YtnejkimpkaopoaaGreatDoorX1
section
namespace Go.Proofs.YtnejkimpkaopoaaGreatDoor.Q
open RowKit YtnejkimpkaopoaaGreatDoorW.PrintWords YtnejkimpkaopoaaGreatDoorW.PrintLast YtnejkimpkaopoaaGreatDoorW.PrintMore
set_option maxHeartbeats 8000000
set_option maxRecDepth 100000
attribute [local go_sem] max2_int min2_int max_two min_two max_three min_three max_four min_four
set_option linter.unusedVariables false
set_option linter.unusedSimpArgs false
def encR (r:Int):List Int :=
  if r<128 then [r]
  else if r<2048 then [192+r / 64,128+r % 64]
  else if 55296≤r∧r≤57343 then [239,191,189]
  else if r<65536 then [224+r / 4096,128+r / 64 % 64,128+r % 64]
  else [240+r / 262144,128+r / 4096 % 64,128+r / 64 % 64,128+r % 64]
def putB (w:World) (g:Nat):Nat→List Int→World
  | _,[]=>w
  | o,b :: bs=>putB (w.setCell ⟨g,o,none⟩ (.int .u8 b)) g (o+1) bs
def EncP (w:World) (g o:Nat) (r:Int) (e:Ending) (w':World):Prop:=e = .returned (.int .i64 ((encR r).length:Int))∧w'=putB w g o (encR r)
structure Row4 (w:World) (g o:Nat):Prop where
  c : ∀ k:Nat,k<4 → ∃ x:Int,w.cell? ⟨g,o+k,none⟩=some (.int .u8 x)
  f : ∀ k:Nat,w.frozen? ⟨g,k,none⟩=false
theorem utf8_encode173.calls (g o cap:Nat) (r:Int) (hr:128≤r∧r≤1114111) (w:World) (hR:Row4 w g o) :
 Calls Tryz.prog 173 #[.slice (some ⟨g,o,none⟩) 8 cap, .int .i32 r] w fun e w'=>EncP w g o r e w':=by
 obtain ⟨x0,c0⟩:=hR.c 0 (by omega)
 obtain ⟨x1,c1⟩:=hR.c 1 (by omega)
 obtain ⟨x2,c2⟩:=hR.c 2 (by omega)
 obtain ⟨x3,c3⟩:=hR.c 3 (by omega)
 have f0:=hR.f o
 have f1:=hR.f (o+1)
 have f2:=hR.f (o+2)
 have f3:=hR.f (o+3)
 clear hR
 rw [Nat.add_zero] at c0
 have h0:=hr.1
 have h1:=hr.2
 go_enter Tryz.func173,Tryz.ntmps173
 by_cases k1:r<2048
 ·
  go_wp2
  go_ret
  have he:encR r=[192+r / 64,128+r % 64]:=by unfold encR;rw [if_neg (by omega),if_pos (by omega)]
  exact ⟨by rw [he];rfl,by rw [he];rfl⟩
 by_cases k2:r<55296
 ·
  go_wp2
  go_ret
  have he:encR r=[224+r / 4096,128+r / 64 % 64,128+r % 64]:=by unfold encR;rw [if_neg (by omega),if_neg (by omega),if_neg (by omega),if_pos (by omega)]
  exact ⟨by rw [he];rfl,by rw [he];rfl⟩
 by_cases k3:r≤57343
 ·
  have d1:decide (57343<r)=false:=decide_eq_false (by omega)
  go_wp2
  go_ret
  have he:encR r=[239,191,189]:=by unfold encR;rw [if_neg (by omega),if_neg (by omega),if_pos (by omega)]
  exact ⟨by rw [he];rfl,by rw [he];rfl⟩
 have d1:decide (57343<r)=true:=decide_eq_true (by omega)
 by_cases k4:r≤65535
 ·
  have d2:decide (r≤65535)=true:=decide_eq_true k4
  go_wp2
  go_ret
  have he:encR r=[224+r / 4096,128+r / 64 % 64,128+r % 64]:=by unfold encR;rw [if_neg (by omega),if_neg (by omega),if_neg (by omega),if_pos (by omega)]
  exact ⟨by rw [he];rfl,by rw [he];rfl⟩
 have d2:decide (r≤65535)=false:=decide_eq_false k4
 have d3:decide (r≤1114111)=true:=decide_eq_true h1
 have d4:decide (65535<r)=true:=decide_eq_true (by omega)
 go_wp2
 go_ret
 have he:encR r=[240+r / 262144,128+r / 4096 % 64,128+r / 64 % 64,128+r % 64]:=by unfold encR;rw [if_neg (by omega),if_neg (by omega),if_neg (by omega),if_neg (by omega)]
 exact ⟨by rw [he];rfl,by rw [he];rfl⟩
theorem utf8_EncodeRune.calls (g o cap:Nat) (r:Int) (hr:0≤r∧r≤1114111) (w:World) (hR:Row4 w g o) :
 Calls Tryz.prog 136 #[.slice (some ⟨g,o,none⟩) 8 cap, .int .i32 r] w fun e w'=>EncP w g o r e w':=by
 have h0:=hr.1
 have h1:=hr.2
 by_cases k1:r≤127
 rotate_left
 ·
  have H:=Ak (utf8_encode173.calls g o cap r ⟨by omega,h1⟩ w hR)
  clear hR
  go_enter Tryz.func136,Tryz.ntmps136
  go_wp2_with (first|(go_at_call 173;(refine (H.out).mono ?_);rintro e w2 hE;obtain ⟨rfl,hE2⟩:=hE;have HE:=Ak hE2;clear hE2))
  go_ret
  exact ⟨rfl,HE.out⟩
 obtain ⟨x0,c0⟩:=hR.c 0 (by omega)
 have f0:=hR.f o
 rw [Nat.add_zero] at c0
 clear hR
 go_enter Tryz.func136,Tryz.ntmps136
 go_wp2
 go_ret
 have he:encR r=[r]:=by unfold encR;rw [if_pos (by omega)]
 exact ⟨by rw [he];rfl,by rw [he];rfl⟩
end Go.Proofs.YtnejkimpkaopoaaGreatDoor.Q
end
section
/- Rows of bytes of the call's own: one byte behind, eight zeros behind, bytes written over, cut, as a string. -/
namespace Go.Proofs.YtnejkimpkaopoaaGreatDoor.Q
open RowKit YtnejkimpkaopoaaGreatDoorW.PrintWords YtnejkimpkaopoaaGreatDoorW.PrintLast YtnejkimpkaopoaaGreatDoorW.PrintMore
set_option linter.unusedVariables false
set_option linter.unusedSimpArgs false
def RB (w0 W:World) (v:Value) (xs:List Int):Prop:=Kd.R (Kd.int .u8) 5 W w0.heap.size (fun _=>True) v xs
theorem RB.drewN {w0 W:World} {v:Value} {xs:List Int} (h:RB w0 W v xs) (n:Nat):RB w0 (W.drewN n) v xs:=Kd.R_drewN h n
theorem RB.below {w0 W W1:World} {v:Value} {xs:List Int} (h:RB w0 W v xs) (hb:Below W.heap.size W W1):RB w0 W1 v xs :=
  Kd.R_mono (Kd.R_move (Kd.R_bound h) (fun k hk=>hb.block k hk.2.2.1)) (fun k hk=>hk.1)
theorem RB.slice {w0 W:World} {v:Value} {xs:List Int} (h:RB w0 W v xs) : ∃ A c,v = .slice A xs.length c:=Kd.R_slice h
theorem RB.string {w0 W:World} {A:Option Addr} {n c:Nat} {xs:List Int} (h:RB w0 W (.slice A n c) xs):(convert 67 9 (.slice A n c)).run Tryz.prog W = .ok (.string (strOfNums xs)) W:=by
 obtain ⟨rfl,_,h3⟩:=Kd.R_reads' h
 exact Kd.C_string (e:=5) (by kernel_rfl) (by kernel_rfl) (by kernel_rfl) h3
section
variable {ops:Array Oper} {rest:List Oper} {o:Oper} {a:Act} {Q:Exit→Act→World→Prop} {w0 W:World}
theorem ap1 (hgd:o.guard=none) (s x:Operand) (ho:o.op = .call { callee := .builtin .append,args := #[s,x],argTypes := #[67,67] })
    (v:Value) (xs:List Int) (b:Int) (hs:a.eval s=v) (hx:a.eval x = .slice (some ⟨W.heap.size,0,none⟩) 1 1)
    (HO:RB w0 W v xs) (HB:Below w0.heap.size w0 W) (hl:xs.length<100000000)
    (h : ∀ v1 w1,RB w0 w1 v1 (xs++[b])→Below w0.heap.size w0 w1→wpList Tryz.prog ops Q rest (a.put o.dst v1) w1) :
    wpList Tryz.prog ops Q (o :: rest) a (W.alloc (.cells #[.int .u8 b] 5)) :=
  Kd.R_append (Kd.int .u8) (w0:=w0) w0.heap.size hgd s x 67 5 (.int .u8 0) 1 ho Tryz.underlying67 info5 rfl (by decide) (by omega) v xs b [.int .u8 b] (fun _=>True) (fun _=>False) hs hx rfl (fun _ hk=>hk.elim) (fun _ _=>trivial) HO HB HB.size (by omega) (fun v1 w1 h1 h2 _ _=>h v1 w1 h1 h2)
theorem ap8 (hgd:o.guard=none) (s x:Operand) (ho:o.op = .call { callee := .builtin .append,args := #[s,x],argTypes := #[67,67] })
 (v:Value) (xs:List Int) (hs:a.eval s=v) (hx:a.eval x = .slice (some ⟨W.heap.size,0,none⟩) 8 8)
 (HO:RB w0 W v xs) (HB:Below w0.heap.size w0 W) (hl:xs.length<100000000)
 (h : ∀ v1 w1,RB w0 w1 v1 (xs++[0,0,0,0,0,0,0,0])→Below w0.heap.size w0 w1→wpList Tryz.prog ops Q rest (a.put o.dst v1) w1) :
 wpList Tryz.prog ops Q (o :: rest) a (W.alloc (.cells #[.int .u8 0, .int .u8 0, .int .u8 0, .int .u8 0, .int .u8 0, .int .u8 0, .int .u8 0, .int .u8 0] 5)):=by
 refine Kd.R_append_rows (Kd.int .u8) (w0:=w0) (Rr:=fun (p:Int) cs=>cs=[.int .u8 p]) w0.heap.size hgd s x 67 5 (.int .u8 0) 1 ho Tryz.underlying67 info5 rfl (by decide) (by omega) v xs [0,0,0,0,0,0,0,0] _ _ _ (fun _=>True) (fun _=>False) hs hx ?_ ?_ (fun _ _ h=>h) (fun _ h=>h.elim) (fun _ _=>trivial) (below_alloc HB _) (below_alloc HB _).size (by omega) (fun v1 w1 h1 h2 _ _=>h v1 w1 h1 h2)
 ·
  exact Kd.R_alloc HO _
 refine ⟨rfl,by decide,fun _=>⟨_,rfl,fun j p hj=>⟨[.int .u8 p],rfl,rfl,fun i u hu=>?_⟩⟩⟩
 have hi:i=0:=by
  rcases i with _|i
  ·
   rfl
  simp at hu
 subst hi
 have hp:u = .int .u8 p:=by simpa using hu.symm
 subst hp
 have hb:=heap_alloc_new W (.cells #[.int .u8 0, .int .u8 0, .int .u8 0, .int .u8 0, .int .u8 0, .int .u8 0, .int .u8 0, .int .u8 0] 5)
 have hj8:j<8:=by
  rcases Nat.lt_or_ge j 8 with h'|h'
  ·
   exact h'
  rw [List.getElem?_eq_none (by simpa using h')] at hj;cases hj
 have e:(⟨W.heap.size,0,none⟩:Addr).add (j*(Kd.int .u8).sz+0)=⟨W.heap.size,j,none⟩:=by
  rw [show j*(Kd.int .u8).sz+0=j from Nat.mul_one j];exact add_plain _ _
 rw [e,blk_cell hb j]
 have hp0:p=0:=by
  have:j=0∨j=1∨j=2∨j=3∨j=4∨j=5∨j=6∨j=7:=by omega
  rcases this with rfl|rfl|rfl|rfl|rfl|rfl|rfl|rfl <;> simpa using hj.symm
 subst hp0
 have:j=0∨j=1∨j=2∨j=3∨j=4∨j=5∨j=6∨j=7:=by omega
 rcases this with rfl|rfl|rfl|rfl|rfl|rfl|rfl|rfl <;> rfl
end
theorem RB.put {w0:World} {g n c:Nat} : ∀ (bs xs zs:List Int) {W:World}, bs.length≤zs.length→RB w0 W (.slice (some ⟨g,0,none⟩) n c) (xs++zs)→RB w0 (putB W g xs.length bs) (.slice (some ⟨g,0,none⟩) n c) (xs++bs++zs.drop bs.length)
  | [],xs,zs,W,_,h=>by simpa [putB] using h
  | b :: bs,xs,[],W,hl,h=>by simp at hl
  | b :: bs,xs,z :: zs,W,hl,h=>by
    have h1:=Kd.R_putn h (xs.length:Int) b
    have e:(xs++z :: zs).set (xs.length:Int).toNat b=(xs++[b])++zs:=by
      rw [Int.toNat_natCast,List.set_append_right _ _ (Nat.le_refl _),Nat.sub_self]
      simp
    rw [e,Int.toNat_natCast] at h1
    have h2:=RB.put (w0:=w0) bs (xs++[b]) zs (by simpa using hl) h1
    rw [List.length_append] at h2
    simpa [putB] using h2
theorem putB_below {b:Nat} {g:Nat} (hg:b≤g) : ∀ (bs:List Int) (o:Nat) {w W:World}, Below b w W→Below b w (putB W g o bs)
  | [],o,w,W,h=>h
  | x :: bs,o,w,W,h=>putB_below hg bs (o+1) (h.setCell hg _)
theorem RB.row4 {w0 W:World} {g n c:Nat} {xs zs:List Int} (h:RB w0 W (.slice (some ⟨g,0,none⟩) n c) (xs++zs)) (hz:4≤zs.length):Row4 W g xs.length:=by
 obtain ⟨hn,_,_⟩:=Kd.R_reads' h
 subst hn
 have hc : ∀ k:Nat,k<(xs++zs).length→W.cell? ⟨g,k,none⟩=some (.int .u8 (rdOf 0 (xs++zs) k))∧W.frozen? ⟨g,k,none⟩=false:=fun k hk=>by
  have:=Kd.R_cell (0:Int) h (k:Int) (by omega) (by omega)
  simpa using this
 refine ⟨fun k hk=>⟨_,(hc (xs.length+k) (by rw [List.length_append];omega)).1⟩,fun k=>?_⟩
 obtain ⟨g',c',e,_,_,cells,hg⟩:=Kd.R_form h (by rw [List.length_append];omega)
 injection e with e1 e2 e3
 injection e1 with e1
 injection e1 with e1
 subst e1
 exact blk_frozen hg k
end Go.Proofs.YtnejkimpkaopoaaGreatDoor.Q
end

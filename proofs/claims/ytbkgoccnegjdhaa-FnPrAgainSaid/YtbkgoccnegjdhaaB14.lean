/- Functions of the program as Lean functions, each with a proof that the call comes to what it gives. Written by prx.py (wip/pr); Unquote without its branch for a backslash (where it meets one, its function has no answer). -/
import Derived.Test.YtbkgoccnegjdhaaB0
namespace Go.Proofs.Ytbkgoccnegjdhaa.Q
open Go.RowKit Go.Proofs.YtbkgoccnegjdhaaW.PrintWords Go.Proofs.YtbkgoccnegjdhaaW.PrintLast Go.Proofs.YtbkgoccnegjdhaaW.PrintMore
attribute [local go_sem] max2_int min2_int max_two min_two max_three min_three max_four min_four   -- for this text's walks alone
set_option linter.unusedVariables false
set_option linter.unusedSimpArgs false
/-! ### sU: function 18 -/
def sU.l0:Nat→List Int→ByteArray→Int→Option (ByteArray)
  | 0,_,_,_=>none
  | k+1,x3,x4,x5=>if x5<(x4.size:Int) then (if 0≤x5 then (if (bt x4 x5)=92 then (none) else (if x3.length<140737488355328 then (sU.l0 k (x3++[bt x4 x5]) x4 (wrap64 (x5+1))) else (none))) else (none)) else (some (strOfNums x3))
def sU.f (k:Nat) (a0:ByteArray):Option (ByteArray):=if 1≤(wrap64 ((a0.size:Int) - 1)) then (if (wrap64 ((a0.size:Int) - 1))≤(a0.size:Int) then (sU.l0 k ([]:List Int) (a0.extract 1 ((wrap64 ((a0.size:Int) - 1)):Int).toNat) 0) else (none)) else (none)
theorem sU.mono_l : ∀ k,(∀ y0 y1 y2,LeO (sU.l0 k y0 y1 y2) (sU.l0 (k+1) y0 y1 y2))
  | 0=>fun _ _ _ r h=>by simp [sU.l0] at h
  | k+1=>by
    have ih0:=sU.mono_l k
    · intro y0 y1 y2
      unfold sU.l0
      repeat' first|(with_reducible first|apply ih0|apply LeO.refl|apply LeO.none|refine LeO.ite ?_ ?_|refine LeO.bind ?_ (fun _=>?_))|apply ih0|apply LeO.none|refine LeO.ite ?_ ?_|refine LeO.bind ?_ (fun _=>?_)
theorem sU.mono : ∀ a0 k,LeO (sU.f k a0) (sU.f (k+1) a0):=by
 intro a0 k
 have ih0:=sU.mono_l k
 unfold sU.f
 repeat' first|(with_reducible first|apply ih0|apply LeO.refl|apply LeO.none|refine LeO.ite ?_ ?_|refine LeO.bind ?_ (fun _=>?_))|apply ih0|apply LeO.none|refine LeO.ite ?_ ?_|refine LeO.bind ?_ (fun _=>?_)
set_option maxHeartbeats 8000000 in
set_option maxRecDepth 100000 in
theorem sU.calls (k:Nat) (a0:ByteArray) (r:ByteArray) (w:World) (h:sU.f k a0=some r) :
 Calls Try.prog 18 #[.string a0] w fun e w'=>e = .returned (.string r)∧Below w.heap.size w w':=by
 have HB:=Ak (Below.refl w.heap.size w)
 have H:(if 1≤(wrap64 ((a0.size:Int) - 1)) then (if (wrap64 ((a0.size:Int) - 1))≤(a0.size:Int) then (sU.l0 k ([]:List Int) (a0.extract 1 ((wrap64 ((a0.size:Int) - 1)):Int).toNat) 0) else (none)) else (none))=some r:=h
 clear h
 by_cases c2:1≤(wrap64 ((a0.size:Int) - 1))
 rotate_left
 ·
  rw [if_neg c2] at H
  exact absurd H (by simp)
 rw [if_pos c2] at H
 have c2b0:=eq_true c2
 have c2b1:decide (1≤(wrap64 ((a0.size:Int) - 1)))=true:=decide_eq_true c2
 clear c2
 by_cases c3:(wrap64 ((a0.size:Int) - 1))≤(a0.size:Int)
 ·
  rw [if_pos c3] at H
  have c3b0:=eq_true c3
  have c3b1:decide ((wrap64 ((a0.size:Int) - 1))≤(a0.size:Int))=true:=decide_eq_true c3
  clear c3
  have H':=Ak H
  clear H
  go_enter Try.func18,Try.ntmps18
  go_wp2
  (try simp only [Act.put,List.setIfInBounds_toArray,List.set_cons_zero,List.set_cons_succ])
  generalize a0.extract 1 (wrap64 ((a0.size:Int) - 1)).toNat=s at H' ⊢
  go_loopg [3,5] k (fun kq v3 v5 w' => ∃ (x3_1:List Int) (x5_1:Int),v5 = .int .i64 x5_1∧Aside0 (sU.l0 kq x3_1 s x5_1=some r)∧Aside0 (kq≤k)∧Aside0 (Kd.R (Kd.int .u8) 5 w' w.heap.size (fun _=>True) v3 x3_1)∧Aside0 (Below w.heap.size w w'))
  case atStart=>exact ⟨(([]:List Int)),(0),oS,H',⟨Nat.le_refl _⟩,⟨by first|exact Kd.R_nil _ _ _ _ _|exact Kd.N_nil _ _ _ _ _|exact Kd.V_nil _ _ _ _ _|exact Kd.Q_nil _ _ _ _ _|exact Kd.S_nil _ _ _ _ _⟩,⟨oB⟩⟩
  case round =>
  clear H'
  clear c2b0 c2b1 c3b0 c3b1
  obtain ⟨x3_1,x5_1,rfl,HA,HK1,HO_3,HB⟩:=hrel
  cases gk with
  | zero=>exact absurd HA.out (by simp [sU.l0])
  | succ k1 =>
   have H:=HA.out
   clear HA
   simp only [sU.l0] at H
   by_cases c4:x5_1<(s.size:Int)
   rotate_left
   ·
    rw [if_neg c4] at H
    have c4b0:decide (x5_1<(s.size:Int))=false:=decide_eq_false c4
    clear c4
    obtain rfl:=Option.some.inj H
    have hcv38:=own_string (P:=Try.prog) Try.underlying44 Try.underlying5 Try.underlying9 (Kd.own_of_R HO_3.out)
    go_wp2
    go_ret
    exact ⟨oE,oB⟩
   rw [if_pos c4] at H
   have c4b0:decide (x5_1<(s.size:Int))=true:=decide_eq_true c4
   clear c4
   by_cases c5:0≤x5_1
   ·
    rw [if_pos c5] at H
    have c5b0:decide (0≤x5_1)=true:=decide_eq_true c5
    clear c5
    by_cases c7:(bt s x5_1)=92
    ·
     rw [if_pos c7] at H
     exact absurd H (by simp)
    rw [if_neg c7] at H
    have c7b0:((bt s x5_1) == 92)=false:=beq_eq_false_iff_ne.mpr c7
    have c7b1:((bt s x5_1) != 92)=true:=bne_iff_ne.mpr c7
    by_cases c36:x3_1.length<140737488355328
    ·
     rw [if_pos c36] at H
     have LMc36:=Ak c36
     clear c36
     obtain ⟨yz0,hyz0⟩ : ∃ y_:List Int,y_=(x3_1++[bt s x5_1]):=⟨_,rfl⟩
     replace H:(sU.l0 k1 yz0 s (wrap64 (x5_1+1)))=some r:=by first|(rw [hyz0];with_reducible exact H)|(have H2_:=(Option.bind_some _ _).symm.trans H;rw [hyz0];with_reducible exact H2_)|(have H2_:=(Option.bind_some _ _).symm.trans H;with_reducible exact H2_)|with_reducible exact H|(rw [hyz0];exact H)|exact H
     have Nyz0:=Ak hyz0
     clear hyz0
     have H':=Ak H
     clear H
     have p6:0≤(x5_1:Int):=of_decide_eq_true oA
     have q6:x5_1<(s.size:Int):=of_decide_eq_true oA
     have hx6:=bt_at s x5_1
     replace p6:=eq_true p6
     replace q6:=eq_true q6
     have p35:0≤(x5_1:Int):=of_decide_eq_true oA
     have q35:x5_1<(s.size:Int):=of_decide_eq_true oA
     have hx35:=bt_at s x5_1
     replace p35:=eq_true p35
     replace q35:=eq_true q35
     go_wp2_with (first|((with_reducible refine gate_builtin (b := .append) (xs := #[.tmp 23, .tmp 27]) rfl ?_);at_builtin;refine Kd.R_append (Kd.int .u8) (w0:=w) w.heap.size rfl (.tmp 23) (.tmp 27) 44 5 (.int .u8 0) 1 rfl Try.underlying44 info5 rfl (by decide) (by omega) u3 x3_1 (bt s x5_1) [.int .u8 (bt s x5_1)] (fun _=>True) (fun _=>False) rfl rfl ?aP (fun _ hk=>hk.elim) ?aF ?aO ?aB ?aS ?aL ?_;(case aP=>exact rfl);(case aB=>exact oB);(case aF=>exact (fun _ _=>trivial));(case aO=>exact (oR HO_3.out));(case aS=>exact (below_size oB));(case aL=>have:=LMc36.out;omega);intro vz1 w37 ho hb hg hat;rw [← Nyz0.out] at ho;have _:=Ak (hb);have _:=Ak (ho);clear HB HO_3;rename_i HB HOz2;clear ho hb hg hat))
     go_roundg k1
     case measure=>have:=HK1.out;omega
     case rel=>exact ⟨(yz0),(wrap64 (x5_1+1)),oS,H',⟨by have:=HK1.out;omega⟩,⟨oR HOz2.out⟩,⟨oB⟩⟩
    rw [if_neg c36] at H
    exact absurd H (by simp)
   rw [if_neg c5] at H
   exact absurd H (by simp)
 rw [if_neg c3] at H
 exact absurd H (by simp)
end Go.Proofs.Ytbkgoccnegjdhaa.Q

/- stable and Stable over any Sorter: the row comes out sorted; a sorted row is left alone. -/
import Derived.Test.YtbkgoccnegjdhaaN5
import Derived.Test.YtbkgoccnegjdhaaM2
namespace Go.Proofs.Ytbkgoccnegjdhaa.Q
open Go.RowKit Go.Proofs.YtbkgoccnegjdhaaW.PrintWords Go.Proofs.YtbkgoccnegjdhaaW.PrintLast Go.Proofs.YtbkgoccnegjdhaaW.PrintMore Go.Proofs.Ytbkgoccnegjdhaa.M
attribute [local go_sem] max2_int min2_int max_two min_two max_three min_three max_four min_four
set_option linter.unusedVariables false
set_option linter.unusedSimpArgs false
variable {α:Type} {a:Option Addr} {N:Nat} {lt:α→α→Bool} {St:World→(Nat→α)→Bool→Prop}
set_option maxHeartbeats 8000000 in
set_option maxRecDepth 100000 in
theorem stable.calls (S:Sorter a N lt St) (ho:Order lt) (f:Nat→α) (b:Bool) (w:World) (hd:Dist lt f N) (h:St w f b) :
    Calls Try.prog 49 #[.iface 86 (.pointer a), .int .i64 N] w fun e w'=>e = .returned (.tuple #[]) ∧ ∃ g b',St w' g b'∧Trk lt 0 N f b g b'∧Srt lt g 0 N:=by
  have HS:=Ak S
  have HN:=Ak S.small
  have H:=Ak h
  have HO:=Ak ho
  have HD:=Ak hd
  clear h S ho hd
  go_enter Try.func49,Try.ntmps49
  go_wp2
  (try simp only [Act.put,List.setIfInBounds_toArray,List.set_cons_zero,List.set_cons_succ])
  go_loopg [5,6] N (fun kq v5 v6 w' => ∃ (t p q:Nat) (g:Nat→α) (b1:Bool),v5 = .int .i64 p∧v6 = .int .i64 q∧Aside0 (p=t*20∧q=p+20∧p≤N∧N≤p+kq)∧Aside0 (St w' g b1)∧Aside0 (Trk lt 0 N f b g b1)∧Aside0 (SB lt g 20 0 p))
  case atStart=>exact ⟨0,0,20,f,b,rfl,rfl,⟨by omega⟩,H,⟨Trk.refl _ _ _ _⟩,⟨SB.none _ _ _⟩⟩
  case round =>
    clear H
    obtain ⟨t,p,q,g,b1,rfl,rfl,HI,HST,HW,HB⟩:=hrel
    obtain ⟨gk0,rfl⟩ : ∃ q:Nat,q=gk:=⟨gk,rfl⟩
    by_cases c:q≤N
    · have cb:decide ((q:Int)≤(N:Int))=true:=decide_eq_true om
      have E1:Aside0 (wrap64 ((q:Int)+20)=((q+20:Nat):Int)):=⟨wadd (p:=q) (q:=20) (by have:=HN.out;omega)⟩
      go_wp2_with (first|((with_reducible refine gate_callee (f:=50) rfl ?_);refine goesL_ (some 15) rfl rfl Try.func50 (by kernel_rfl) rfl #[.iface 86 (.pointer a), .int .i64 p, .int .i64 q] rfl (by go_simp;done) ?_;refine ((insertionSort.calls HS.out HO.out p q g b1 _ (HD.out.rearr HW.out.1 (Nat.le_refl _)) (by have:=HI.out;omega) c HST.out).mono ?_);rintro e w2 ⟨rfl,g1,b2,h2,h3,h4⟩;refine ⟨_,rfl,?_⟩;have H2:=Ak h2;have H3:=Ak h3;have H4:=Ak h4;clear h2 h3 h4 HST))
      rw [E1.out]
      go_roundg (gk0 - 20)
      case measure=>have:=HI.out;omega
      case rel=>exact ⟨t+1,q,q+20,g1,b2,rfl,rfl,⟨by have:=HI.out;omega⟩,H2,⟨HW.out.trans (H3.out.mono (Nat.zero_le _) c)⟩,⟨by
        have h1:=HB.out
        have h2:=H4.out
        have h5:=HI.out
        rw [h5.1] at h1 h2
        exact h1.ext h2 om fun k hk=>H3.out.1.same om⟩⟩
    · have cb:decide ((q:Int)≤(N:Int))=false:=decide_eq_false om
      go_wp2_with (first|((with_reducible refine gate_callee (f:=50) rfl ?_);refine goesL_ (some 23) rfl rfl Try.func50 (by kernel_rfl) rfl #[.iface 86 (.pointer a), .int .i64 p, .int .i64 N] rfl (by go_simp;done) ?_;refine ((insertionSort.calls HS.out HO.out p N g b1 _ (HD.out.rearr HW.out.1 (Nat.le_refl _)) (by have:=HI.out;omega) (Nat.le_refl _) HST.out).mono ?_);rintro e w2 ⟨rfl,g1,b2,h2,h3,h4⟩;refine ⟨_,rfl,?_⟩;have H2:=Ak h2;have H3:=Ak h3;have H4:=Ak h4;clear h2 h3 h4 HST))
      (try simp only [Act.put,List.setIfInBounds_toArray,List.set_cons_zero,List.set_cons_succ])
      have HB1:Aside0 (SB lt g1 20 0 N):=⟨by
        have h1:=HB.out
        have h2:=H4.out
        have h5:=HI.out
        rw [h5.1] at h1 h2
        exact h1.ext h2 om fun k hk=>H3.out.1.same om⟩
      have HW1:=Ak (HW.out.trans (H3.out.mono (Nat.zero_le _) (Nat.le_refl _)))
      clear HB H4 HW H3
      go_loopg [4,5,6,7] N (fun kq v4 v5 v6 v7 w' => ∃ (s:Nat) (g:Nat→α) (b3:Bool),v4 = .int .i64 s∧Aside0 (20≤s∧s≤2*N+40∧N≤s+kq)∧Aside0 (St w' g b3)∧Aside0 (Trk lt 0 N f b g b3)∧Aside0 (SB lt g s 0 N))
      case atStart=>exact ⟨20,g1,b2,rfl,⟨by omega⟩,H2,HW1,HB1⟩
      case round =>
        clear H2 HW1 HB1 HI
        obtain ⟨s,g2,b3,rfl,HI,HST,HW,HB⟩:=hrel
        by_cases c2:s<N
        · have cb2:decide ((s:Int)<(N:Int))=true:=decide_eq_true om
          obtain ⟨gk1,rfl⟩ : ∃ q:Nat,q=gk:=⟨gk,rfl⟩
          obtain ⟨d2,hd2⟩ : ∃ d2,d2=2*s:=⟨_,rfl⟩
          have HD2:=Ak hd2
          have E2:Aside0 (wrap64 (2*(s:Int))=(d2:Int)):=⟨by rw [hd2];exact wmul2 (by have:=HN.out;have:=HI.out;omega)⟩
          clear hd2
          go_wp2
          (try simp only [Act.put,List.setIfInBounds_toArray,List.set_cons_zero,List.set_cons_succ])
          rw [E2.out]
          go_loopg [5,6] N (fun kq v5 v6 w' => ∃ (t p q:Nat) (g:Nat→α) (b4:Bool),v5 = .int .i64 p∧v6 = .int .i64 q∧Aside0 (p=t*d2∧q=p+d2∧p≤N∧N≤p+kq)∧Aside0 (St w' g b4)∧Aside0 (Trk lt 0 N f b g b4)∧Aside0 (SB lt g d2 0 p∧SB lt g s (2*t) N))
          case atStart=>exact ⟨0,0,d2,g2,b3,rfl,rfl,⟨by omega⟩,HST,HW,⟨SB.none _ _ _,HB.out⟩⟩
          case round =>
            clear HST HW HB
            obtain ⟨t,p,q,g,b4,rfl,rfl,HJ,HST,HW,HB⟩:=hrel
            obtain ⟨m,hm⟩ : ∃ m,m=p+s:=⟨_,rfl⟩
            have HM:=Ak hm
            have E3:Aside0 (wrap64 ((p:Int)+(s:Int))=(m:Int)):=⟨by rw [hm];exact wadd (by have:=HN.out;have:=HI.out;have:=HJ.out;omega)⟩
            clear hm
            by_cases c3:q≤N
            · have cb3:decide ((q:Int)≤(N:Int))=true:=decide_eq_true om
              have HT:Aside0 (Two lt g N p m q):=⟨by
                have h1:=HJ.out
                have h2:=HD2.out
                have h3:=HM.out
                have h4:=HI.out
                have hh:=HB.out.2.halves (e:=q) (by rw [← h2, ← h1.1];omega) c3
                rw [← h2, ← h1.1, ← h3] at hh
                exact ⟨HO.out,HD.out.rearr HW.out.1 (Nat.le_refl _),hh.1.sub (Nat.le_refl _) om,hh.2,by omega,by omega,c3⟩⟩
              go_wp2_with (first|((with_reducible refine gate_callee (f:=51) rfl ?_);refine goesL_ (some 38) rfl rfl Try.func51 (by kernel_rfl) rfl #[.iface 86 (.pointer a), .int .i64 p, .int .i64 m, .int .i64 q] rfl (by go_simp;exact E3.out) ?_;refine ((symMerge.calls HS.out (q - p) p m q g b4 _ (Nat.le_refl _) HT.out HST.out).mono ?_);rintro e w2 ⟨rfl,g1,b5,h2,h3,h4⟩;refine ⟨_,rfl,?_⟩;have H2:=Ak h2;have H3:=Ak h3;have H4:=Ak h4;clear h2 h3 h4 HST))
              have E4:Aside0 (wrap64 ((q:Int)+(d2:Int))=((q+d2:Nat):Int)):=⟨wadd (by have:=HN.out;have:=HI.out;have:=HD2.out;omega)⟩
              rw [E2.out,E4.out]
              go_roundg (gk - 1)
              case measure=>have:=HJ.out;have:=HD2.out;have:=HI.out;omega
              case rel=>exact ⟨t+1,q,q+d2,g1,b5,rfl,rfl,⟨by have:=HJ.out;have:=HD2.out;have:=HI.out;have:=Nat.add_mul t 1 d2;omega⟩,H2,⟨HW.out.trans (H3.out.mono (Nat.zero_le _) c3)⟩,⟨by
                have h1:=HB.out.1
                have h2:=H4.out
                have h5:=HJ.out
                rw [h5.1] at h1 h2
                exact h1.ext h2 om fun k hk=>H3.out.1.same om,by
                have h5:=HJ.out
                have h6:=HD2.out
                refine (HB.out.2.from (v':=2*(t+1)) om).later fun k hk=>H3.out.1.same ?_
                rw [show 2*(t+1)=2*t+2 by omega,dbl2, ← h6, ← h5.1] at hk
                omega⟩⟩
            · have cb3:decide ((q:Int)≤(N:Int))=false:=decide_eq_false om
              have E5:Aside0 (wrap64 ((s:Int)*2)=(d2:Int)):=⟨by rw [Int.mul_comm];exact E2.out⟩
              have HF:=Ak (show ∀ g1 b5,Trk lt p N g b4 g1 b5→Srt lt g1 p N→Aside0 (Trk lt 0 N f b g1 b5)∧Aside0 (SB lt g1 d2 0 N) from fun g1 b5 h3 h4=>by
                refine ⟨⟨HW.out.trans (h3.mono (Nat.zero_le _) (Nat.le_refl _))⟩,⟨?_⟩⟩
                have h1:=HB.out.1
                have h5:=HJ.out
                rw [h5.1] at h1 h4
                exact h1.ext h4 om fun k hk=>h3.1.same om)
              have HL:=Ak (show Srt lt g p (min m N)∧Srt lt g m N from by
                have h1:=HJ.out
                have h2:=HD2.out
                have h3:=HM.out
                have hh:=HB.out.2.halves (e:=N) (by rw [← h2, ← h1.1];omega) (Nat.le_refl _)
                rw [← h2, ← h1.1, ← h3] at hh
                exact hh)
              by_cases c4:m<N
              · have cb4:decide ((m:Int)<(N:Int))=true:=decide_eq_true om
                have HT:Aside0 (Two lt g N p m N):=⟨⟨HO.out,HD.out.rearr HW.out.1 (Nat.le_refl _),HL.out.1.sub (Nat.le_refl _) om,HL.out.2,by have:=HM.out;have:=HI.out;omega,c4,Nat.le_refl _⟩⟩
                go_upto_if 49 with (fail)
                (try simp only [Act.put,List.setIfInBounds_toArray,List.set_cons_zero,List.set_cons_succ])
                rw [E3.out]
                go_wp2_with (first|((with_reducible refine gate_callee (f:=51) rfl ?_);refine goesL_ (some 54) rfl rfl Try.func51 (by kernel_rfl) rfl #[.iface 86 (.pointer a), .int .i64 p, .int .i64 m, .int .i64 N] rfl (by go_simp;done) ?_;refine ((symMerge.calls HS.out (N - p) p m N g b4 _ (Nat.le_refl _) HT.out HST.out).mono ?_);rintro e w2 ⟨rfl,g1,b5,h2,h3,h4⟩;refine ⟨_,rfl,?_⟩;have H2:=Ak h2;have H3:=Ak h3;have H4:=Ak h4;clear h2 h3 h4 HST))
                rw [E5.out]
                go_roundg (gk1 - 1)
                case measure=>have:=HI.out;omega
                case rel=>exact ⟨d2,g1,b5,rfl,⟨by have:=HI.out;have:=HD2.out;omega⟩,H2,HF.out g1 b5 H3.out H4.out⟩
              · have cb4:decide ((m:Int)<(N:Int))=false:=decide_eq_false om
                go_upto_if 49 with (fail)
                (try simp only [Act.put,List.setIfInBounds_toArray,List.set_cons_zero,List.set_cons_succ])
                rw [E3.out]
                go_wp2
                rw [E5.out]
                go_roundg (gk1 - 1)
                case measure=>have:=HI.out;omega
                case rel=>exact ⟨d2,g,b4,rfl,⟨by have:=HI.out;have:=HD2.out;omega⟩,HST,HF.out g b4 (Trk.refl _ _ _ _) (HL.out.1.sub (Nat.le_refl _) om)⟩
        · have cb2:decide ((s:Int)<(N:Int))=false:=decide_eq_false om
          go_wp2
          first|go_end0|((try simp only [Exit.inBlock,Exit.then]);refine bodyPost_ret (results_none rfl _ _ _) rfl ?_)
          exact ⟨rfl,g2,b3,HST.out,HW.out,HB.out.all om⟩
set_option maxHeartbeats 8000000 in
set_option maxRecDepth 100000 in
/-- sort.Stable: the row comes out sorted, its elements changed among themselves; where something was swapped it was not sorted before. -/
theorem Stable.calls (S:Sorter a N lt St) (ho:Order lt) (f:Nat→α) (b:Bool) (w:World) (hd:Dist lt f N) (h:St w f b) :
    Calls Try.prog 48 #[.iface 86 (.pointer a)] w fun e w'=>e = .returned (.tuple #[]) ∧ ∃ g b',St w' g b'∧Trk lt 0 N f b g b'∧Srt lt g 0 N:=by
  have HS:=Ak S
  have H:=Ak h
  have HO:=Ak ho
  have HD:=Ak hd
  clear h S ho hd
  go_enter Try.func48,Try.ntmps48
  go_wp2_with (first
    | ((with_reducible refine gate_invoke (m := "Len") rfl ?_); refine goesI_ (some 4) rfl rfl rfl rfl (methodLen _ _) Try.func70 (by kernel_rfl) rfl #[.pointer a] ?hz ?_; (case hz => (go_simp; done)); refine ((HS.out.len _ f b H.out).mono ?_); rintro e w2 ⟨rfl, h2⟩; refine ⟨_, rfl, ?_⟩; have H2 := Ak h2; clear h2 H)
    | ((with_reducible refine gate_callee (f:=49) rfl ?_);refine goesL_ (some 5) rfl rfl Try.func49 (by kernel_rfl) rfl #[.iface 86 (.pointer a), .int .i64 N] rfl (by go_simp;done) ?_;refine ((stable.calls HS.out HO.out f b _ HD.out H2.out).mono ?_);rintro e w3 ⟨rfl,g,b1,h2,h3,h4⟩;refine ⟨_,rfl,?_⟩;have H3:=Ak h2;have H4:=Ak h3;have H5:=Ak h4;clear h2 h3 h4 H2))
  first|go_end0|((try simp only [Exit.inBlock,Exit.then]);refine bodyPost_ret (results_none rfl _ _ _) rfl ?_)
  exact ⟨rfl,g,b1,H3.out,H4.out,H5.out⟩
end Go.Proofs.Ytbkgoccnegjdhaa.Q

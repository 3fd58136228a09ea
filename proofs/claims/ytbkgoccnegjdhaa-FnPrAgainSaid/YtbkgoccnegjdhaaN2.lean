/- insertionSort over any Sorter. -/
import Derived.Test.YtbkgoccnegjdhaaN1
import Derived.Test.YtbkgoccnegjdhaaM2
namespace Go.Proofs.Ytbkgoccnegjdhaa.Q
open Go.RowKit Go.Proofs.YtbkgoccnegjdhaaW.PrintWords Go.Proofs.YtbkgoccnegjdhaaW.PrintLast Go.Proofs.YtbkgoccnegjdhaaW.PrintMore Go.Proofs.Ytbkgoccnegjdhaa.M
attribute [local go_sem] max2_int min2_int max_two min_two max_three min_three max_four min_four
set_option linter.unusedVariables false
set_option linter.unusedSimpArgs false
variable {α:Type} {a:Option Addr} {N:Nat} {lt:α→α→Bool} {St:World→(Nat→α)→Bool→Prop}
set_option maxHeartbeats 8000000 in
set_option maxRecDepth 100000 in
theorem insertionSort.calls (S:Sorter a N lt St) (ho:Order lt) (x y:Nat) (f:Nat→α) (b:Bool) (w:World) (hd:Dist lt f N) (hxy:x≤y) (hy:y≤N) (h:St w f b) :
    Calls Try.prog 50 #[.iface 86 (.pointer a), .int .i64 x, .int .i64 y] w fun e w'=>e = .returned (.tuple #[]) ∧ ∃ g b',St w' g b'∧Trk lt x y f b g b'∧Srt lt g x y:=by
  have HS:=Ak S
  have HN:=Ak S.small
  have H:=Ak h
  clear h S
  have E1:Aside0 (wrap64 ((x:Int)+1)=((x+1:Nat):Int)):=⟨wsucc (by have:=HN.out;omega)⟩
  go_enter Try.func50,Try.ntmps50
  go_wp2
  (try simp only [Act.put,List.setIfInBounds_toArray,List.set_cons_zero,List.set_cons_succ])
  rw [E1.out]
  go_loopg [6] (y - x) (fun kq v6 w' => ∃ (i:Nat) (g:Nat→α) (b':Bool),v6 = .int .i64 i∧Aside0 (x+1≤i∧(i≤y∨i=x+1)∧y≤i+kq)∧Aside0 (St w' g b')∧Aside0 (Trk lt x y f b g b')∧Aside0 (Srt lt g x i))
  case atStart=>exact ⟨x+1,f,b,rfl,⟨by omega⟩,H,⟨Trk.refl _ _ _ _⟩,⟨fun p q h1 h2 h3=>by omega⟩⟩
  case round =>
    clear H
    obtain ⟨i,g,b',rfl,HI,HST,HW,HG⟩:=hrel
    obtain ⟨gk0,rfl⟩ : ∃ q:Nat,q=gk:=⟨gk,rfl⟩
    by_cases c:i<y
    · have cb:decide ((i:Int)<(y:Int))=true:=decide_eq_true om
      have E2:Aside0 (wrap64 ((i:Int)+1)=((i+1:Nat):Int)):=⟨wsucc (by have:=HN.out;omega)⟩
      go_wp2
      (try simp only [Act.put,List.setIfInBounds_toArray,List.set_cons_zero,List.set_cons_succ])
      go_loopg [7] i (fun kq v7 w' => ∃ (j:Nat) (h:Nat→α) (b2:Bool),v7 = .int .i64 j∧Aside0 (x≤j∧j≤i∧j≤kq)∧Aside0 (St w' h b2)∧Aside0 (Trk lt x y f b h b2)∧Aside0 (Ins lt h x j i))
      case atStart=>exact ⟨i,g,b',rfl,⟨by have:=HI.out;omega⟩,HST,HW,⟨Ins.start HG.out⟩⟩
      case round =>
        clear HST HW HG
        obtain ⟨j,h,b2,rfl,HJ,HST,HW,HG⟩:=hrel
        by_cases c2:x<j
        · have cb2:decide ((x:Int)<(j:Int))=true:=decide_eq_true om
          have E3:Aside0 (wrap64 ((j:Int) - 1)=((j - 1:Nat):Int)):=⟨wpred om (by have:=HN.out;have:=HJ.out;omega)⟩
          cases hl:lt (h j) (h (j - 1)) with
          | true =>
            go_wp2_with (first
              | ((with_reducible refine gate_invoke (m := "Less") rfl ?_); (try (refine gate_guard (by rfl) ?_; dsimp only)); refine goesI_ (some 24) rfl rfl rfl rfl (methodLess _ _) Try.func71 (by kernel_rfl) rfl #[.pointer a, .int .i64 j, .int .i64 ((j - 1 : Nat) : Int)] ?hz ?_; (case hz => (go_simp; exact E3.out)); refine ((HS.out.less _ h b2 j (j - 1) HST.out (by have := HJ.out; omega) (by have := HJ.out; omega) om).mono ?_); rintro e w2 ⟨rfl, h2⟩; refine ⟨_, rfl, ?_⟩; rw [hl]; have H2 := Ak h2; clear h2 HST)
              | ((with_reducible refine gate_invoke (m := "Swap") rfl ?_); refine goesI_ (some 32) rfl rfl rfl rfl (methodSwap _ _) Try.func72 (by kernel_rfl) rfl #[.pointer a, .int .i64 j, .int .i64 ((j - 1 : Nat) : Int)] ?hz ?_; (case hz => (go_simp; exact E3.out)); refine ((HS.out.swap _ h b2 j (j - 1) H2.out (by have := HJ.out; omega) (by have := HJ.out; omega) om).mono ?_); rintro e w3 ⟨rfl, h3⟩; refine ⟨_, rfl, ?_⟩; have H3 := Ak h3; clear h3 H2))
            rw [E3.out]
            go_roundg (gk - 1)
            case measure=>have:=HJ.out;omega
            case rel=>exact ⟨j - 1,_,true,rfl,⟨by have:=HJ.out;omega⟩,H3,⟨HW.out.swap ho om om (by have:=HJ.out;omega) hl⟩,⟨HG.out.step c2 (by have:=HJ.out;omega) hl⟩⟩
          | false =>
            go_wp2_with (first
              | ((with_reducible refine gate_invoke (m := "Less") rfl ?_); (try (refine gate_guard (by rfl) ?_; dsimp only)); refine goesI_ (some 24) rfl rfl rfl rfl (methodLess _ _) Try.func71 (by kernel_rfl) rfl #[.pointer a, .int .i64 j, .int .i64 ((j - 1 : Nat) : Int)] ?hz ?_; (case hz => (go_simp; exact E3.out)); refine ((HS.out.less _ h b2 j (j - 1) HST.out (by have := HJ.out; omega) (by have := HJ.out; omega) om).mono ?_); rintro e w2 ⟨rfl, h2⟩; refine ⟨_, rfl, ?_⟩; rw [hl]; have H2 := Ak h2; clear h2 HST))
            rw [E2.out]
            go_roundg (gk0 - 1)
            case measure=>have:=HI.out;omega
            case rel=>exact ⟨i+1,h,b2,rfl,⟨by have:=HI.out;omega⟩,H2,HW,⟨HG.out.stop ho om (by have:=HJ.out;omega) (.inr (Dist.of_neg (hd.rearr HW.out.1 hy) (by have:=HJ.out;omega) (by have:=HJ.out;omega) om hl))⟩⟩
        · have cb2:decide ((x:Int)<(j:Int))=false:=decide_eq_false om
          go_wp2
          rw [E2.out]
          go_roundg (gk0 - 1)
          case measure=>have:=HI.out;omega
          case rel=>exact ⟨i+1,h,b2,rfl,⟨by have:=HI.out;omega⟩,HST,HW,⟨HG.out.stop ho (by have:=HJ.out;omega) (by have:=HJ.out;omega) (.inl (by have:=HJ.out;omega))⟩⟩
    · have cb:decide ((i:Int)<(y:Int))=false:=decide_eq_false om
      go_wp2
      first|go_end0|((try simp only [Exit.inBlock,Exit.then]);refine bodyPost_ret (results_none rfl _ _ _) rfl ?_)
      exact ⟨rfl,g,b',HST.out,HW.out,HG.out.sub (Nat.le_refl _) om⟩
end Go.Proofs.Ytbkgoccnegjdhaa.Q

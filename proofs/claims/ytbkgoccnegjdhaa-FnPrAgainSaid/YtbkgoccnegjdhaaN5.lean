/- symMerge over any Sorter: the two cases of one element. -/
import Derived.Test.YtbkgoccnegjdhaaN2
namespace Go.Proofs.Ytbkgoccnegjdhaa.Q
open Go.RowKit Go.Proofs.YtbkgoccnegjdhaaW.PrintWords Go.Proofs.YtbkgoccnegjdhaaW.PrintLast Go.Proofs.YtbkgoccnegjdhaaW.PrintMore Go.Proofs.Ytbkgoccnegjdhaa.M
attribute [local go_sem] max2_int min2_int max_two min_two max_three min_three max_four min_four
set_option linter.unusedVariables false
set_option linter.unusedSimpArgs false
variable {α:Type} {a:Option Addr} {N:Nat} {lt:α→α→Bool} {St:World→(Nat→α)→Bool→Prop}
set_option maxHeartbeats 8000000 in
set_option maxRecDepth 100000 in
theorem symMerge.up (S:Sorter a N lt St) (x m y:Nat) (f:Nat→α) (b:Bool) (w:World) (hT:Two lt f N x m y) (hm:m=x+1) (h:St w f b) :
    Calls Try.prog 51 #[.iface 86 (.pointer a), .int .i64 x, .int .i64 m, .int .i64 y] w fun e w'=>e = .returned (.tuple #[]) ∧ ∃ g b',St w' g b'∧Trk lt x y f b g b'∧Srt lt g x y:=by
  have HS:=Ak S
  have HN:=Ak S.small
  have H:=Ak h
  have HY:=Ak hT.bN
  have HM:=Ak hT.mb
  have HT:=Ak hT
  have HX:=Ak hm
  have HS2:=Ak (show Srt lt f (x+1) y from by rw [← hm];exact hT.s2)
  have E1:Aside0 (wrap64 ((m:Int) - (x:Int))=1):=⟨(wsub (p:=m) (q:=x) om (by have:=HN.out;have:=HY.out;have:=HM.out;omega)).trans om⟩
  have cb0:((wrap64 ((m:Int) - (x:Int))) == 1)=true:=by rw [E1.out];rfl
  clear h S hT hm
  go_enter Try.func51,Try.ntmps51
  go_wp2
  (try simp only [Act.put,List.setIfInBounds_toArray,List.set_cons_zero,List.set_cons_succ])
  go_loopg [8,9] (y - x) (fun kq v8 v9 w' => ∃ (i j:Nat),v8 = .int .i64 i∧v9 = .int .i64 j∧Aside0 (x+1≤i∧i≤j∧j≤y∧j≤i+kq)∧Aside0 (St w' f b)∧Aside0 ((∀ q,x+1≤q→q<i→lt (f q) (f x)=true) ∧ ∀ q,j≤q→q<y→lt (f x) (f q)=true))
  case atStart=>exact ⟨m,y,rfl,rfl,⟨by have:=HM.out;have:=HX.out;omega⟩,H,⟨fun q h1 h2=>by have:=HX.out;omega,fun q h1 h2=>by omega⟩⟩
  case round =>
    clear H
    obtain ⟨i,j,rfl,rfl,HI,HST,HG⟩:=hrel
    obtain ⟨gk0,rfl⟩ : ∃ q:Nat,q=gk:=⟨gk,rfl⟩
    by_cases c:i<j
    · have cb:decide ((i:Int)<(j:Int))=true:=decide_eq_true om
      have E2:Aside0 (wrap64 (IntKind.u64.wrap (wrap64 ((i:Int)+(j:Int))) / 2)=(((i+j) / 2:Nat):Int)):=⟨whalf (by have:=HN.out;have:=HY.out;have:=HI.out;omega)⟩
      have E3:Aside0 (wrap64 (((((i+j) / 2:Nat)):Int)+1)=(((i+j) / 2+1:Nat):Int)):=⟨wsucc (by have:=HN.out;have:=HY.out;have:=HI.out;omega)⟩
      cases hl:lt (f ((i+j) / 2)) (f x) with
      | true =>
        go_wp2_with (first
          | ((with_reducible refine gate_invoke (m := "Less") rfl ?_); refine goesI_ (some 41) rfl rfl rfl rfl (methodLess _ _) Try.func71 (by kernel_rfl) rfl #[.pointer a, .int .i64 (((i + j) / 2 : Nat) : Int), .int .i64 x] ?hz ?_; (case hz => (go_simp; exact E2.out)); refine ((HS.out.less _ f b ((i + j) / 2) x HST.out (by have := HI.out; have := HY.out; omega) (by have := HI.out; have := HY.out; omega) (by have := HI.out; omega)).mono ?_); rintro e w2 ⟨rfl, h2⟩; refine ⟨_, rfl, ?_⟩; rw [hl]; have H2 := Ak h2; clear h2 HST))
        rw [E2.out,E3.out]
        go_roundg (gk0 - 1)
        case measure=>have:=HI.out;omega
        case rel=>exact ⟨(i+j) / 2+1,j,rfl,rfl,⟨by have:=HI.out;omega⟩,H2,⟨fun q h1 h2=>by
          by_cases e:q=(i+j) / 2
          · rw [e];exact hl
          · exact HT.out.o.tr _ _ _ (HS2.out q ((i+j) / 2) h1 om (by have:=HI.out;omega)) hl,HG.out.2⟩⟩
      | false =>
        go_wp2_with (first
          | ((with_reducible refine gate_invoke (m := "Less") rfl ?_); refine goesI_ (some 41) rfl rfl rfl rfl (methodLess _ _) Try.func71 (by kernel_rfl) rfl #[.pointer a, .int .i64 (((i + j) / 2 : Nat) : Int), .int .i64 x] ?hz ?_; (case hz => (go_simp; exact E2.out)); refine ((HS.out.less _ f b ((i + j) / 2) x HST.out (by have := HI.out; have := HY.out; omega) (by have := HI.out; have := HY.out; omega) (by have := HI.out; omega)).mono ?_); rintro e w2 ⟨rfl, h2⟩; refine ⟨_, rfl, ?_⟩; rw [hl]; have H2 := Ak h2; clear h2 HST))
        rw [E2.out]
        go_roundg (gk0 - 1)
        case measure=>have:=HI.out;omega
        case rel=>exact ⟨i,(i+j) / 2,rfl,rfl,⟨by have:=HI.out;omega⟩,H2,⟨HG.out.1,fun q h1 h2=>by
          have h3:=Dist.of_neg HT.out.d (i:=(i+j) / 2) (j:=x) (by have:=HI.out;have:=HY.out;omega) (by have:=HI.out;have:=HY.out;omega) (by have:=HI.out;omega) hl
          by_cases e:q=(i+j) / 2
          · rw [e];exact h3
          · exact HT.out.o.tr _ _ _ h3 (HS2.out ((i+j) / 2) q (by have:=HI.out;omega) om h2)⟩⟩
    · have cb:decide ((i:Int)<(j:Int))=false:=decide_eq_false om
      have E2:Aside0 (wrap64 ((i:Int) - 1)=((i - 1:Nat):Int)):=⟨wpred (by have:=HI.out;omega) (by have:=HN.out;have:=HY.out;have:=HI.out;omega)⟩
      go_wp2
      (try simp only [Act.put,List.setIfInBounds_toArray,List.set_cons_zero,List.set_cons_succ])
      go_loopg [11] (i - x) (fun kq v11 w' => ∃ (k:Nat) (b2:Bool),v11 = .int .i64 k∧Aside0 (x≤k∧k≤i - 1∧i≤k+kq)∧Aside0 (St w' (rot x (x+1) (k+1) f) b2)∧Aside0 ((k=x∧b2=b)∨(x<k∧b2=true)))
      case atStart=>exact ⟨x,b,rfl,⟨by have:=HI.out;omega⟩,⟨by rw [rot_none];exact HST.out⟩,⟨.inl ⟨rfl,rfl⟩⟩⟩
      case round =>
        clear HST
        obtain ⟨k,b2,rfl,HK,HST,HB⟩:=hrel
        by_cases c3:k<i - 1
        · have cb3:decide ((k:Int)<wrap64 ((i:Int) - 1))=true:=by rw [E2.out];exact decide_eq_true om
          have E3:Aside0 (wrap64 ((k:Int)+1)=((k+1:Nat):Int)):=⟨wsucc (by have:=HN.out;have:=HY.out;have:=HI.out;omega)⟩
          go_wp2_with (first
            | ((with_reducible refine gate_invoke (m := "Swap") rfl ?_); refine goesI_ (some 56) rfl rfl rfl rfl (methodSwap _ _) Try.func72 (by kernel_rfl) rfl #[.pointer a, .int .i64 k, .int .i64 ((k + 1 : Nat) : Int)] ?hz ?_; (case hz => (go_simp; exact E3.out)); refine ((HS.out.swap _ _ b2 k (k + 1) HST.out (by have := HI.out; have := HY.out; omega) (by have := HI.out; have := HY.out; omega) om).mono ?_); rintro e w2 ⟨rfl, h2⟩; refine ⟨_, rfl, ?_⟩; rw [rot_up (by have := HK.out; omega)] at h2; have H2 := Ak h2; clear h2 HST))
          rw [E3.out]
          go_roundg (gk - 1)
          case measure=>have:=HK.out;omega
          case rel=>exact ⟨k+1,true,rfl,⟨by have:=HK.out;omega⟩,H2,⟨.inr ⟨by have:=HK.out;omega,rfl⟩⟩⟩
        · have cb3:decide ((k:Int)<wrap64 ((i:Int) - 1))=false:=by rw [E2.out];exact decide_eq_false om
          go_wp2
          first|go_end0|((try simp only [Exit.inBlock,Exit.then]);refine bodyPost_ret (results_none rfl _ _ _) rfl ?_)
          have e:k+1=i:=by have:=HK.out;have:=HI.out;omega
          have hi:=HI.out
          have hy:=HY.out
          have hst:=HST.out
          rw [e] at hst
          have hij:j=i:=by omega
          refine ⟨rfl,rot x (x+1) i f,b2,hst,⟨(Rearr.rot om om f).mono (Nat.le_refl _) om,?_⟩,srt_up HS2.out om om HG.out.1 (by rw [← hij];exact HG.out.2)⟩
          rcases HB.out with ⟨h1,h2⟩|⟨h1,h2⟩
          · left
            refine ⟨h2,?_⟩
            rw [show i=x+1 by omega,rot_none]
          · right
            refine ⟨h2,fun hs=>?_⟩
            have h3:=hs x (x+1) (Nat.le_refl _) om om
            rw [HT.out.o.asym _ _ (HG.out.1 (x+1) (Nat.le_refl _) om)] at h3
            cases h3
end Go.Proofs.Ytbkgoccnegjdhaa.Q
/- symMerge over any Sorter: its second case of one element. -/
namespace Go.Proofs.Ytbkgoccnegjdhaa.Q
open Go.RowKit Go.Proofs.YtbkgoccnegjdhaaW.PrintWords Go.Proofs.YtbkgoccnegjdhaaW.PrintLast Go.Proofs.YtbkgoccnegjdhaaW.PrintMore Go.Proofs.Ytbkgoccnegjdhaa.M
attribute [local go_sem] max2_int min2_int max_two min_two max_three min_three max_four min_four
set_option linter.unusedVariables false
set_option linter.unusedSimpArgs false
variable {α:Type} {a:Option Addr} {N:Nat} {lt:α→α→Bool} {St:World→(Nat→α)→Bool→Prop}
set_option maxHeartbeats 8000000 in
set_option maxRecDepth 100000 in
theorem symMerge.down (S:Sorter a N lt St) (x m y:Nat) (f:Nat→α) (b:Bool) (w:World) (hT:Two lt f N x m y) (hm:y=m+1) (hx:m≠x+1) (h:St w f b) :
    Calls Try.prog 51 #[.iface 86 (.pointer a), .int .i64 x, .int .i64 m, .int .i64 y] w fun e w'=>e = .returned (.tuple #[]) ∧ ∃ g b',St w' g b'∧Trk lt x y f b g b'∧Srt lt g x y:=by
  have HS:=Ak S
  have HN:=Ak S.small
  have H:=Ak h
  have HY:=Ak hT.bN
  have HM:=Ak hT.am
  have HT:=Ak hT
  have HX:=Ak hm
  have E0:Aside0 (wrap64 ((m:Int) - (x:Int))=((m - x:Nat):Int)):=⟨wsub (p:=m) (q:=x) (by have:=HM.out;omega) (by have:=HN.out;have:=HY.out;have:=HX.out;omega)⟩
  have cb0:((wrap64 ((m:Int) - (x:Int))) == 1)=false:=by rw [E0.out];exact beq_eq_false_iff_ne.mpr (by have:=HM.out;omega)
  have E1:Aside0 (wrap64 ((y:Int) - (m:Int))=1):=⟨(wsub (p:=y) (q:=m) om (by have:=HN.out;have:=HY.out;omega)).trans om⟩
  have cb1:((wrap64 ((y:Int) - (m:Int))) == 1)=true:=by rw [E1.out];rfl
  clear h S hT hm
  go_enter Try.func51,Try.ntmps51
  go_wp2
  (try simp only [Act.put,List.setIfInBounds_toArray,List.set_cons_zero,List.set_cons_succ])
  go_loopg [12,13] (m - x) (fun kq v12 v13 w' => ∃ (i j:Nat),v12 = .int .i64 i∧v13 = .int .i64 j∧Aside0 (x≤i∧i≤j∧j≤m∧j≤i+kq)∧Aside0 (St w' f b)∧Aside0 ((∀ q,x≤q→q<i→lt (f q) (f m)=true) ∧ ∀ q,j≤q→q<m→lt (f m) (f q)=true))
  case atStart=>exact ⟨x,m,rfl,rfl,⟨by have:=HM.out;omega⟩,H,⟨fun q h1 h2=>by omega,fun q h1 h2=>by omega⟩⟩
  case round =>
    clear H
    obtain ⟨i,j,rfl,rfl,HI,HST,HG⟩:=hrel
    obtain ⟨gk0,rfl⟩ : ∃ q:Nat,q=gk:=⟨gk,rfl⟩
    by_cases c:i<j
    · have cb:decide ((i:Int)<(j:Int))=true:=decide_eq_true om
      have E2:Aside0 (wrap64 (IntKind.u64.wrap (wrap64 ((i:Int)+(j:Int))) / 2)=(((i+j) / 2:Nat):Int)):=⟨whalf (by have:=HN.out;have:=HY.out;have:=HX.out;have:=HI.out;omega)⟩
      have E3:Aside0 (wrap64 (((((i+j) / 2:Nat)):Int)+1)=(((i+j) / 2+1:Nat):Int)):=⟨wsucc (by have:=HN.out;have:=HY.out;have:=HX.out;have:=HI.out;omega)⟩
      cases hl:lt (f m) (f ((i+j) / 2)) with
      | false =>
        go_wp2_with (first
          | ((with_reducible refine gate_invoke (m := "Less") rfl ?_); refine goesI_ (some 75) rfl rfl rfl rfl (methodLess _ _) Try.func71 (by kernel_rfl) rfl #[.pointer a, .int .i64 m, .int .i64 (((i + j) / 2 : Nat) : Int)] ?hz ?_; (case hz => (go_simp; exact E2.out)); refine ((HS.out.less _ f b m ((i + j) / 2) HST.out (by have := HX.out; have := HY.out; omega) (by have := HI.out; have := HX.out; have := HY.out; omega) (by have := HI.out; omega)).mono ?_); rintro e w2 ⟨rfl, h2⟩; refine ⟨_, rfl, ?_⟩; rw [hl]; have H2 := Ak h2; clear h2 HST))
        rw [E2.out,E3.out]
        go_roundg (gk0 - 1)
        case measure=>have:=HI.out;omega
        case rel=>exact ⟨(i+j) / 2+1,j,rfl,rfl,⟨by have:=HI.out;omega⟩,H2,⟨fun q h1 h2=>by
          have h3:=Dist.of_neg HT.out.d (i:=m) (j:=(i+j) / 2) (by have:=HX.out;have:=HY.out;omega) (by have:=HI.out;have:=HX.out;have:=HY.out;omega) (by have:=HI.out;omega) hl
          by_cases e:q=(i+j) / 2
          · rw [e];exact h3
          · exact HT.out.o.tr _ _ _ (HT.out.s1 q ((i+j) / 2) h1 om (by have:=HI.out;omega)) h3,HG.out.2⟩⟩
      | true =>
        go_wp2_with (first
          | ((with_reducible refine gate_invoke (m := "Less") rfl ?_); refine goesI_ (some 75) rfl rfl rfl rfl (methodLess _ _) Try.func71 (by kernel_rfl) rfl #[.pointer a, .int .i64 m, .int .i64 (((i + j) / 2 : Nat) : Int)] ?hz ?_; (case hz => (go_simp; exact E2.out)); refine ((HS.out.less _ f b m ((i + j) / 2) HST.out (by have := HX.out; have := HY.out; omega) (by have := HI.out; have := HX.out; have := HY.out; omega) (by have := HI.out; omega)).mono ?_); rintro e w2 ⟨rfl, h2⟩; refine ⟨_, rfl, ?_⟩; rw [hl]; have H2 := Ak h2; clear h2 HST))
        rw [E2.out]
        go_roundg (gk0 - 1)
        case measure=>have:=HI.out;omega
        case rel=>exact ⟨i,(i+j) / 2,rfl,rfl,⟨by have:=HI.out;omega⟩,H2,⟨HG.out.1,fun q h1 h2=>by
          by_cases e:q=(i+j) / 2
          · rw [e];exact hl
          · exact HT.out.o.tr _ _ _ hl (HT.out.s1 ((i+j) / 2) q (by have:=HI.out;omega) om h2)⟩⟩
    · have cb:decide ((i:Int)<(j:Int))=false:=decide_eq_false om
      go_wp2
      (try simp only [Act.put,List.setIfInBounds_toArray,List.set_cons_zero,List.set_cons_succ])
      go_loopg [15] (m - i) (fun kq v15 w' => ∃ (k:Nat) (b2:Bool),v15 = .int .i64 k∧Aside0 (i≤k∧k≤m∧k≤i+kq)∧Aside0 (St w' (rot k m (m+1) f) b2)∧Aside0 ((k=m∧b2=b)∨(k<m∧b2=true)))
      case atStart=>exact ⟨m,b,rfl,⟨by have:=HI.out;omega⟩,⟨by rw [rot_none'];exact HST.out⟩,⟨.inl ⟨rfl,rfl⟩⟩⟩
      case round =>
        clear HST
        obtain ⟨k,b2,rfl,HK,HST,HB⟩:=hrel
        by_cases c3:i<k
        · have cb3:decide ((i:Int)<(k:Int))=true:=decide_eq_true om
          have E3:Aside0 (wrap64 ((k:Int) - 1)=((k - 1:Nat):Int)):=⟨wpred om (by have:=HN.out;have:=HY.out;have:=HX.out;have:=HK.out;omega)⟩
          go_wp2_with (first
            | ((with_reducible refine gate_invoke (m := "Swap") rfl ?_); refine goesI_ (some 90) rfl rfl rfl rfl (methodSwap _ _) Try.func72 (by kernel_rfl) rfl #[.pointer a, .int .i64 k, .int .i64 ((k - 1 : Nat) : Int)] ?hz ?_; (case hz => (go_simp; exact E3.out)); refine ((HS.out.swap _ _ b2 k (k - 1) HST.out (by have := HK.out; have := HX.out; have := HY.out; omega) (by have := HK.out; have := HX.out; have := HY.out; omega) om).mono ?_); rintro e w2 ⟨rfl, h2⟩; refine ⟨_, rfl, ?_⟩; rw [rot_down om (by have := HK.out; omega)] at h2; have H2 := Ak h2; clear h2 HST))
          rw [E3.out]
          go_roundg (gk - 1)
          case measure=>have:=HK.out;omega
          case rel=>exact ⟨k - 1,true,rfl,⟨by have:=HK.out;omega⟩,H2,⟨.inr ⟨by have:=HK.out;omega,rfl⟩⟩⟩
        · have cb3:decide ((i:Int)<(k:Int))=false:=decide_eq_false om
          go_wp2
          first|go_end0|((try simp only [Exit.inBlock,Exit.then]);refine bodyPost_ret (results_none rfl _ _ _) rfl ?_)
          have hi:=HI.out
          have hy:=HY.out
          have hxx:=HX.out
          have hk:=HK.out
          have e:k=i:=by omega
          have hst:=HST.out
          rw [e] at hst
          have hij:j=i:=by omega
          have hs:=srt_down (i:=i) HT.out.s1 om om HG.out.1 (by rw [← hij];exact HG.out.2)
          rw [← hxx] at hst hs
          refine ⟨rfl,rot i m y f,b2,hst,⟨(Rearr.rot om om f).mono om (Nat.le_refl _),?_⟩,hs⟩
          rcases HB.out with ⟨h1,h2⟩|⟨h1,h2⟩
          · left
            refine ⟨h2,?_⟩
            rw [show i=m by omega,rot_none']
          · right
            refine ⟨h2,fun hs=>?_⟩
            have h3:=hs (m - 1) m om om om
            rw [HT.out.o.asym _ _ (HG.out.2 (m - 1) om om)] at h3
            cases h3
end Go.Proofs.Ytbkgoccnegjdhaa.Q
/- symMerge over any Sorter, whole. -/
namespace Go.Proofs.Ytbkgoccnegjdhaa.Q
open Go.RowKit Go.Proofs.YtbkgoccnegjdhaaW.PrintWords Go.Proofs.YtbkgoccnegjdhaaW.PrintLast Go.Proofs.YtbkgoccnegjdhaaW.PrintMore Go.Proofs.Ytbkgoccnegjdhaa.M
attribute [local go_sem] max2_int min2_int max_two min_two max_three min_three max_four min_four
set_option linter.unusedVariables false
set_option linter.unusedSimpArgs false
variable {α:Type} {a:Option Addr} {N:Nat} {lt:α→α→Bool} {St:World→(Nat→α)→Bool→Prop}
set_option maxHeartbeats 8000000 in
set_option maxRecDepth 100000 in
theorem symMerge.calls (S:Sorter a N lt St) (d:Nat) : ∀ (x m y:Nat) (f:Nat→α) (b:Bool) (w:World),y - x≤d→Two lt f N x m y→St w f b →
    Calls Try.prog 51 #[.iface 86 (.pointer a), .int .i64 x, .int .i64 m, .int .i64 y] w fun e w'=>e = .returned (.tuple #[]) ∧ ∃ g b',St w' g b'∧Trk lt x y f b g b'∧Srt lt g x y:=by
  induction d with
  | zero=>intro x m y f b w hd hT h;have:=hT.am;have:=hT.mb;omega
  | succ d ih =>
  intro x m y f b w hd hT h
  by_cases h1:m=x+1
  · exact symMerge.up S x m y f b w hT h1 h
  by_cases h2:y=m+1
  · exact symMerge.down S x m y f b w hT h2 h1 h
  have IH:=Ak ih
  have HS:=Ak S
  have HN:=Ak S.small
  have H:=Ak h
  have HY:=Ak hT.bN
  have HM:=Ak hT.am
  have HMB:=Ak hT.mb
  have HT:=Ak hT
  have HD:=Ak hd
  have HH:=Ak (show m≠x+1∧y≠m+1 from ⟨h1,h2⟩)
  have E0:Aside0 (wrap64 ((m:Int) - (x:Int))=((m - x:Nat):Int)):=⟨wsub (p:=m) (q:=x) (by have:=HM.out;omega) (by have:=HN.out;have:=HY.out;have:=HMB.out;omega)⟩
  have cb0:((wrap64 ((m:Int) - (x:Int))) == 1)=false:=by rw [E0.out];exact beq_eq_false_iff_ne.mpr (by have:=HM.out;omega)
  have E1:Aside0 (wrap64 ((y:Int) - (m:Int))=((y - m:Nat):Int)):=⟨wsub (p:=y) (q:=m) (by have:=HMB.out;omega) (by have:=HN.out;have:=HY.out;omega)⟩
  have cb1:((wrap64 ((y:Int) - (m:Int))) == 1)=false:=by rw [E1.out];exact beq_eq_false_iff_ne.mpr (by have:=HMB.out;omega)
  obtain ⟨M,hM⟩ : ∃ M,M=(x+y) / 2:=⟨_,rfl⟩
  have HMM:=Ak hM
  have E2:Aside0 (wrap64 (IntKind.u64.wrap (wrap64 ((x:Int)+(y:Int))) / 2)=(M:Int)):=⟨by rw [hM];exact whalf (by have:=HN.out;have:=HY.out;have:=HMB.out;have:=HM.out;omega)⟩
  obtain ⟨n,hn⟩ : ∃ n,n=M+m:=⟨_,rfl⟩
  have HNN:=Ak hn
  have E3:Aside0 (wrap64 ((M:Int)+(m:Int))=(n:Int)):=⟨by rw [hn];exact wadd (by have:=HN.out;have:=HY.out;have:=HMB.out;have:=HM.out;omega)⟩
  obtain ⟨p,hp⟩ : ∃ p,p=n - 1:=⟨_,rfl⟩
  have HP:=Ak hp
  have E5:Aside0 (wrap64 ((n:Int) - 1)=(p:Int)):=⟨by rw [hp];exact wpred (by have:=HM.out;omega) (by have:=HN.out;have:=HY.out;have:=HMB.out;have:=HM.out;omega)⟩
  obtain ⟨s0,hs0⟩ : ∃ s0,s0=sm_s0 x m y:=⟨_,rfl⟩
  obtain ⟨r0,hr0⟩ : ∃ r0,r0=sm_r0 x m y:=⟨_,rfl⟩
  have HS0:=Ak hs0
  have HR0:=Ak hr0
  have HL:=Ak (show s0≤r0∧r0≤m from by
    have:=HM.out;have:=HMB.out
    rw [hs0,hr0];unfold sm_s0 sm_r0
    by_cases c:(x+y) / 2<m
    · rw [if_pos c,if_pos c];omega
    · rw [if_neg c,if_neg c];omega)
  clear h S hT hd h1 h2 ih hM hn hp hs0 hr0
  go_enter Try.func51,Try.ntmps51
  go_upto_if 102 with (fail)
  (try simp only [Act.put,List.setIfInBounds_toArray,List.set_cons_zero,List.set_cons_succ])
  rw [E2.out,E3.out]
  go_cut [18,19] from 103 to 108 (fun v18 v19 wc=>v18 = .int .i64 s0∧v19 = .int .i64 r0∧Aside0 (St wc f b))
  case first =>
    by_cases c:M<m
    · have cb:decide ((M:Int)<(m:Int))=true:=decide_eq_true om
      have E4:Aside0 (wrap64 ((n:Int) - (y:Int))=(s0:Int)):=⟨by
        rw [wsub (p:=n) (q:=y) (by have:=HNN.out;have:=HMM.out;have:=HM.out;have:=HMB.out;omega) (by have:=HN.out;have:=HY.out;have:=HNN.out;have:=HMM.out;have:=HMB.out;omega)]
        have h1:=HS0.out
        have h2:=HMM.out
        unfold sm_s0 at h1
        rw [if_pos (by rw [← h2];exact c)] at h1
        rw [h1,HNN.out,h2]⟩
      have E6:Aside0 (M=r0):=⟨by
        have h1:=HR0.out
        have h2:=HMM.out
        unfold sm_r0 at h1
        rw [if_pos (by rw [← h2];exact c)] at h1
        rw [h1,h2]⟩
      go_wp2
      go_meet
      case rel=>exact ⟨by rw [E4.out],by rw [E6.out],H⟩
    · have cb:decide ((M:Int)<(m:Int))=false:=decide_eq_false om
      have E4:Aside0 (x=s0∧m=r0):=⟨by
        have h1:=HS0.out
        have h2:=HMM.out
        have h3:=HR0.out
        unfold sm_s0 at h1
        unfold sm_r0 at h3
        rw [if_neg (by rw [← h2];exact c)] at h1 h3
        exact ⟨h1.symm,h3.symm⟩⟩
      go_wp2
      go_meet
      case rel=>exact ⟨by rw [E4.out.1],by rw [E4.out.2],H⟩
  case rest =>
    clear H
    obtain ⟨rfl,rfl,HST⟩:=hcut
    go_wp2
    (try simp only [Act.put,List.setIfInBounds_toArray,List.set_cons_zero,List.set_cons_succ])
    rw [E5.out]
    generalize decide ((M:Int)<(m:Int))=dd
    go_loopg [18,19,21] (r0 - s0) (fun kq v18 v19 v21 w' => ∃ (s r:Nat),v18 = .int .i64 s∧v19 = .int .i64 r∧Aside0 (s0≤s∧s≤r∧r≤r0∧r≤s+kq)∧Aside0 (St w' f b)∧Aside0 (Cut lt f p s0 r0 s r))
    case atStart=>exact ⟨s0,r0,rfl,rfl,⟨by have:=HL.out;omega⟩,HST,⟨Cut.init _ _ _ _⟩⟩
    case round =>
      clear HST
      obtain ⟨s,r,rfl,rfl,HI,HST,HC⟩:=hrel
      by_cases c:s<r
      · have cb:decide ((s:Int)<(r:Int))=true:=decide_eq_true om
        obtain ⟨c1,hc1⟩ : ∃ c1,c1=(s+r) / 2:=⟨_,rfl⟩
        have HC1:=Ak (show c1=(s+r) / 2∧s≤c1∧c1<r from ⟨hc1,by omega,by omega⟩)
        have HPB:=Ak (show p=M+m - 1∧p≤2*N∧c1≤p∧p - c1<N∧c1<m∧m≤p - c1 from by
          have:=HP.out;have:=HNN.out;have:=HMM.out;have:=HM.out;have:=HMB.out;have:=HY.out;have:=HI.out;have:=HC1.out
          have h1:=HS0.out
          have h3:=HR0.out
          have h2:=HMM.out
          unfold sm_s0 at h1
          unfold sm_r0 at h3
          by_cases c:M<m
          · rw [if_pos (by rw [← h2];exact c)] at h1 h3;omega
          · rw [if_neg (by rw [← h2];exact c)] at h1 h3;omega)
        have E6:Aside0 (wrap64 (IntKind.u64.wrap (wrap64 ((s:Int)+(r:Int))) / 2)=(c1:Int)):=⟨by rw [hc1];exact whalf (by have:=HN.out;have:=HY.out;have:=HMB.out;have:=HL.out;have:=HI.out;omega)⟩
        have E7:Aside0 (wrap64 ((c1:Int)+1)=((c1+1:Nat):Int)):=⟨wsucc (by have:=HN.out;have:=HPB.out;have:=HY.out;have:=HMB.out;omega)⟩
        obtain ⟨q,hq⟩ : ∃ q,q=p - c1:=⟨_,rfl⟩
        have HQ:=Ak hq
        have E8:Aside0 (wrap64 ((p:Int) - (c1:Int))=(q:Int)):=⟨by rw [hq];exact wsub (by have:=HPB.out;omega) (by have:=HN.out;have:=HPB.out;omega)⟩
        clear hc1 hq
        cases hl:lt (f q) (f c1) with
        | false =>
          go_wp2_with (first
            | ((with_reducible refine gate_invoke (m := "Less") rfl ?_); refine goesI_ (some 125) rfl rfl rfl rfl (methodLess _ _) Try.func71 (by kernel_rfl) rfl #[.pointer a, .int .i64 q, .int .i64 c1] ?hz ?_; (case hz => (go_simp; rw [E6.out]; exact ⟨E8.out, rfl⟩)); refine ((HS.out.less _ f b q c1 HST.out (by have := HPB.out; have := HQ.out; omega) (by have := HPB.out; have := HY.out; have := HMB.out; omega) (by have := HPB.out; have := HQ.out; omega)).mono ?_); rintro e w2 ⟨rfl, h2⟩; refine ⟨_, rfl, ?_⟩; rw [hl]; have H2 := Ak h2; clear h2 HST))
          rw [E6.out,E7.out]
          go_roundg (gk - 1)
          case measure=>have:=HI.out;omega
          case rel=>exact ⟨c1+1,r,rfl,rfl,⟨by have:=HI.out;have:=HC1.out;omega⟩,H2,⟨by
            have h:=HC.out
            have hp:=HPB.out.1
            rw [hp,HMM.out,HS0.out,HR0.out] at h ⊢
            refine h.no HT.out (by rw [← HS0.out];exact HI.out.1) (by rw [← HR0.out];exact HI.out.2.2.1) HC1.out.2 ?_
            rw [← HMM.out, ← hp, ← HQ.out];exact hl⟩⟩
        | true =>
          go_wp2_with (first
            | ((with_reducible refine gate_invoke (m := "Less") rfl ?_); refine goesI_ (some 125) rfl rfl rfl rfl (methodLess _ _) Try.func71 (by kernel_rfl) rfl #[.pointer a, .int .i64 q, .int .i64 c1] ?hz ?_; (case hz => (go_simp; rw [E6.out]; exact ⟨E8.out, rfl⟩)); refine ((HS.out.less _ f b q c1 HST.out (by have := HPB.out; have := HQ.out; omega) (by have := HPB.out; have := HY.out; have := HMB.out; omega) (by have := HPB.out; have := HQ.out; omega)).mono ?_); rintro e w2 ⟨rfl, h2⟩; refine ⟨_, rfl, ?_⟩; rw [hl]; have H2 := Ak h2; clear h2 HST))
          rw [E6.out]
          go_roundg (gk - 1)
          case measure=>have:=HI.out;have:=HC1.out;omega
          case rel=>exact ⟨s,c1,rfl,rfl,⟨by have:=HI.out;have:=HC1.out;omega⟩,H2,⟨by
            have h:=HC.out
            have hp:=HPB.out.1
            rw [hp,HMM.out,HS0.out,HR0.out] at h ⊢
            refine h.yes HT.out (by rw [← HS0.out];exact HI.out.1) (by rw [← HR0.out];exact HI.out.2.2.1) HC1.out.2 ?_
            rw [← HMM.out, ← hp, ← HQ.out];exact hl⟩⟩
      · have cb:decide ((s:Int)<(r:Int))=false:=decide_eq_false om
        obtain ⟨en,hen⟩ : ∃ en,en=n - s:=⟨_,rfl⟩
        have HEN:=Ak hen
        have E6:Aside0 (wrap64 ((n:Int) - (s:Int))=(en:Int)):=⟨by rw [hen];exact wsub (by have:=HI.out;have:=HL.out;have:=HNN.out;omega) (by have:=HN.out;have:=HY.out;have:=HNN.out;have:=HMM.out;have:=HMB.out;have:=HM.out;omega)⟩
        clear hen
        go_upto_region 39 with (fail)
        (try simp only [Act.put,List.setIfInBounds_toArray,List.set_cons_zero,List.set_cons_succ])
        rw [E6.out]
        go_cut [140] from 133 to 140 (fun v140 wc=>v140 = .bool (decide (s<m∧m<en))∧Aside0 (St wc f b))
        case first =>
          by_cases c1:s<m
          · have cb1:decide ((s:Int)<(m:Int))=true:=decide_eq_true om
            by_cases c2:m<en
            · have cb2:decide ((m:Int)<(en:Int))=true:=decide_eq_true om
              go_wp2
              go_meet
              case rel=>exact ⟨by rw [decide_eq_true (show s<m∧m<en from ⟨c1,c2⟩)],HST⟩
            · have cb2:decide ((m:Int)<(en:Int))=false:=decide_eq_false om
              go_wp2
              go_meet
              case rel=>exact ⟨by rw [decide_eq_false (show ¬ (s<m∧m<en) from fun h=>c2 h.2)],HST⟩
          · have cb1:decide ((s:Int)<(m:Int))=false:=decide_eq_false om
            go_wp2
            go_meet
            case rel=>exact ⟨by rw [decide_eq_false (show ¬ (s<m∧m<en) from fun h=>c1 h.1)],HST⟩
        case rest =>
          clear HST
          obtain ⟨rfl,HST⟩:=hcut
          have HB:=Ak (show x≤s∧s≤m∧s≤M∧m≤en∧en≤y∧M≤en∧x<M∧M<y from by
            have h:=Cut.bounds (s:=s) HM.out HMB.out (by rw [← HS0.out];exact HI.out.1) (by rw [← HR0.out];have:=HI.out;omega)
            have h2:=HEN.out
            rw [HNN.out] at h2
            rw [← HMM.out, ← h2] at h
            exact h)
          have HG:=Ak (show Srt lt (rot s m en f) x s∧Srt lt (rot s m en f) s M∧Srt lt (rot s m en f) M en∧Srt lt (rot s m en f) en y∧(∀ i j,x≤i→i<M→M≤j→j<y→lt (rot s m en f i) (rot s m en f j)=true)∧(s<m→m<en → ¬ Srt lt f x y) from by
            have h:=HC.out
            rw [show r=s by have:=HI.out;omega,HP.out,HNN.out,HMM.out,HS0.out,HR0.out] at h
            have h1:=h.done HT.out (by rw [← HS0.out];exact HI.out.1) (by rw [← HR0.out];have:=HI.out;omega)
            have h2:=HEN.out
            rw [HNN.out] at h2
            rw [← HMM.out, ← h2] at h1
            exact h1)
          clear HC
          go_upto_if 140 with (fail)
          go_cut [] from 141 to 145 (fun wc => ∃ b1,Aside0 (St wc (rot s m en f) b1)∧Aside0 (Trk lt x y f b (rot s m en f) b1))
          case first =>
            by_cases c1:s<m∧m<en
            · have cb1:decide (s<m∧m<en)=true:=decide_eq_true c1
              go_wp2_with (first|((with_reducible refine gate_callee (f:=52) rfl ?_);refine goesL_ (some 145) rfl rfl Try.func52 (by kernel_rfl) rfl #[.iface 86 (.pointer a), .int .i64 s, .int .i64 m, .int .i64 en] rfl (by go_simp;done) ?_;refine ((rotate.calls HS.out s m en f b _ c1.1 c1.2 (by have:=HB.out;have:=HY.out;omega) HST.out).mono ?_);rintro e w2 ⟨rfl,h2⟩;refine ⟨_,rfl,?_⟩;have H2:=Ak h2;clear h2 HST))
              go_meet
              case rel=>exact ⟨true,H2,⟨(Rearr.rot om om f).mono (by have:=HB.out;omega) (by have:=HB.out;omega), .inr ⟨rfl,HG.out.2.2.2.2.2 c1.1 c1.2⟩⟩⟩
            · have cb1:decide (s<m∧m<en)=false:=decide_eq_false c1
              have e:rot s m en f=f:=by
                by_cases h:s=m
                · rw [h,rot_none']
                · rw [show en=m by have:=HB.out;omega,rot_none]
              go_wp2
              go_meet
              case rel=>exact ⟨b,⟨by rw [e];exact HST.out⟩,⟨by rw [e];exact Trk.refl _ _ _ _⟩⟩
          case rest =>
            clear HST
            obtain ⟨b1,HST,HW⟩:=hcut
            obtain ⟨g,hg⟩ : ∃ g,g=rot s m en f:=⟨_,rfl⟩
            rw [← hg] at HST HW HG
            clear hg
            go_upto_region 41 with (fail)
            go_cut [153] from 146 to 153 (fun v153 wc=>v153 = .bool (decide (x<s∧s<M))∧Aside0 (St wc g b1))
            case first =>
              by_cases c1:x<s
              · have cb1:decide ((x:Int)<(s:Int))=true:=decide_eq_true om
                by_cases c2:s<M
                · have cb2:decide ((s:Int)<(M:Int))=true:=decide_eq_true om
                  go_wp2
                  go_meet
                  case rel=>exact ⟨by rw [decide_eq_true (show x<s∧s<M from ⟨c1,c2⟩)],HST⟩
                · have cb2:decide ((s:Int)<(M:Int))=false:=decide_eq_false om
                  go_wp2
                  go_meet
                  case rel=>exact ⟨by rw [decide_eq_false (show ¬ (x<s∧s<M) from fun h=>c2 h.2)],HST⟩
              · have cb1:decide ((x:Int)<(s:Int))=false:=decide_eq_false om
                go_wp2
                go_meet
                case rel=>exact ⟨by rw [decide_eq_false (show ¬ (x<s∧s<M) from fun h=>c1 h.1)],HST⟩
            case rest =>
              clear HST
              obtain ⟨rfl,HST⟩:=hcut
              go_upto_if 153 with (fail)
              go_cut [] from 154 to 158 (fun wc => ∃ g1 b2,Aside0 (St wc g1 b2)∧Aside0 (Trk lt x M g b1 g1 b2)∧Aside0 (Srt lt g1 x M))
              case first =>
                by_cases c1:x<s∧s<M
                · have cb1:decide (x<s∧s<M)=true:=decide_eq_true c1
                  have HT2:Aside0 (Two lt g N x s M):=⟨⟨HT.out.o,HT.out.d.rearr HW.out.1 HY.out,HG.out.1,HG.out.2.1,c1.1,c1.2,by have:=HB.out;have:=HY.out;omega⟩⟩
                  go_wp2_with (first|((with_reducible refine gate_callee (f:=51) rfl ?_);refine goesL_ (some 158) rfl rfl Try.func51 (by kernel_rfl) rfl #[.iface 86 (.pointer a), .int .i64 x, .int .i64 s, .int .i64 M] rfl (by go_simp;done) ?_;refine ((IH.out x s M g b1 _ (by have:=HB.out;have:=HD.out;omega) HT2.out HST.out).mono ?_);rintro e w2 ⟨rfl,g1,b2,h2,h3,h4⟩;refine ⟨_,rfl,?_⟩;have H2:=Ak h2;have H3:=Ak h3;have H4:=Ak h4;clear h2 h3 h4 HST))
                  go_meet
                  case rel=>exact ⟨g1,b2,H2,H3,H4⟩
                · have cb1:decide (x<s∧s<M)=false:=decide_eq_false c1
                  go_wp2
                  go_meet
                  case rel=>exact ⟨g,b1,HST,⟨Trk.refl _ _ _ _⟩,⟨by
                    by_cases h:x=s
                    · rw [h];exact HG.out.2.1
                    · rw [show M=s by have:=HB.out;omega];exact HG.out.1⟩⟩
              case rest =>
                clear HST
                obtain ⟨g1,b2,HST,HW1,HG1⟩:=hcut
                have HG2:=Ak (show Srt lt g1 M en∧Srt lt g1 en y from by
                  have e : ∀ k,M≤k→k<y→g1 k=g k:=fun k h1 h2=>HW1.out.1.same om
                  have:=HB.out
                  exact ⟨HG.out.2.2.1.congr fun k h1 h2=>e k h1 om,HG.out.2.2.2.1.congr fun k h1 h2=>e k om h2⟩)
                go_upto_region 43 with (fail)
                go_cut [166] from 159 to 166 (fun v166 wc=>v166 = .bool (decide (M<en∧en<y))∧Aside0 (St wc g1 b2))
                case first =>
                  by_cases c1:M<en
                  · have cb1:decide ((M:Int)<(en:Int))=true:=decide_eq_true om
                    by_cases c2:en<y
                    · have cb2:decide ((en:Int)<(y:Int))=true:=decide_eq_true om
                      go_wp2
                      go_meet
                      case rel=>exact ⟨by rw [decide_eq_true (show M<en∧en<y from ⟨c1,c2⟩)],HST⟩
                    · have cb2:decide ((en:Int)<(y:Int))=false:=decide_eq_false om
                      go_wp2
                      go_meet
                      case rel=>exact ⟨by rw [decide_eq_false (show ¬ (M<en∧en<y) from fun h=>c2 h.2)],HST⟩
                  · have cb1:decide ((M:Int)<(en:Int))=false:=decide_eq_false om
                    go_wp2
                    go_meet
                    case rel=>exact ⟨by rw [decide_eq_false (show ¬ (M<en∧en<y) from fun h=>c1 h.1)],HST⟩
                case rest =>
                  clear HST
                  obtain ⟨rfl,HST⟩:=hcut
                  -- what is left to say of a last row g2 that differs from g1 in [M, y) alone
                  have HE:=Ak (show ∀ g2 b3,Trk lt M y g1 b2 g2 b3→Srt lt g2 M y→Trk lt x y f b g2 b3∧Srt lt g2 x y from fun g2 b3 h1 h2=>by
                    have hb:=HB.out
                    refine ⟨HW.out.trans ((HW1.out.mono (Nat.le_refl _) om).trans (h1.mono om (Nat.le_refl _))),Srt.join (m:=M) (HG1.out.congr fun k h3 h4=>h1.1.same om) h2 fun i j h3 h4 h5 h6=>?_⟩
                    have e1:g2 i=g1 i:=h1.1.same om
                    rw [e1]
                    have k1 : ∀ k,M≤k→k<y → ∀ l,x≤l→l<M→lt (g1 l) (g k)=true:=fun k h7 h8=>HW1.out.1.all (p:=fun z=>lt z (g k)=true) fun l h9 h10=>HG.out.2.2.2.2.1 l k h9 h10 h7 h8
                    have k2 : ∀ k,M≤k→k<y→lt (g1 i) (g2 k)=true:=h1.1.all (p:=fun z=>lt (g1 i) z=true) fun k h7 h8=>by
                      rw [show g1 k=g k from HW1.out.1.same om]
                      exact k1 k h7 h8 i h3 h4
                    exact k2 j h5 h6)
                  by_cases c1:M<en∧en<y
                  · have cb1:decide (M<en∧en<y)=true:=decide_eq_true c1
                    have HT2:Aside0 (Two lt g1 N M en y):=⟨⟨HT.out.o,(HT.out.d.rearr HW.out.1 HY.out).rearr HW1.out.1 (by have:=HB.out;have:=HY.out;omega),HG2.out.1,HG2.out.2,c1.1,c1.2,HY.out⟩⟩
                    go_wp2_with (first|((with_reducible refine gate_callee (f:=51) rfl ?_);refine goesL_ (some 171) rfl rfl Try.func51 (by kernel_rfl) rfl #[.iface 86 (.pointer a), .int .i64 M, .int .i64 en, .int .i64 y] rfl (by go_simp;done) ?_;refine ((IH.out M en y g1 b2 _ (by have:=HB.out;have:=HD.out;omega) HT2.out HST.out).mono ?_);rintro e w2 ⟨rfl,g2,b3,h2,h3,h4⟩;refine ⟨_,rfl,?_⟩;have H2:=Ak h2;have H3:=Ak h3;have H4:=Ak h4;clear h2 h3 h4 HST))
                    first|go_end0|((try simp only [Exit.inBlock,Exit.then]);refine bodyPost_ret (results_none rfl _ _ _) rfl ?_)
                    exact ⟨rfl,g2,b3,H2.out,HE.out g2 b3 H3.out H4.out⟩
                  · have cb1:decide (M<en∧en<y)=false:=decide_eq_false c1
                    go_wp2
                    first|go_end0|((try simp only [Exit.inBlock,Exit.then]);refine bodyPost_ret (results_none rfl _ _ _) rfl ?_)
                    refine ⟨rfl,g1,b2,HST.out,HE.out g1 b2 (Trk.refl _ _ _ _) ?_⟩
                    by_cases h:M=en
                    · rw [h];exact HG2.out.2
                    · rw [show y=en by have:=HB.out;omega];exact HG2.out.1
end Go.Proofs.Ytbkgoccnegjdhaa.Q

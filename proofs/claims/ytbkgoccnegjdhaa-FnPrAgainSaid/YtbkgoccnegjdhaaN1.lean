/- The sort's own functions over any state that tells of a row, its order and whether something was swapped: swapRange, rotate. -/
import Derived.Test.YtbkgoccnegjdhaaN0
namespace Go.Proofs.Ytbkgoccnegjdhaa.Q
open Go.RowKit Go.Proofs.YtbkgoccnegjdhaaW.PrintWords Go.Proofs.YtbkgoccnegjdhaaW.PrintLast Go.Proofs.YtbkgoccnegjdhaaW.PrintMore Go.Proofs.Ytbkgoccnegjdhaa.M
attribute [local go_sem] max2_int min2_int max_two min_two max_three min_three max_four min_four
set_option linter.unusedVariables false
set_option linter.unusedSimpArgs false
/-- A row of N elements behind the pointer a, told as a function; the state's Len, Less and Swap do what their names say. -/
structure Sorter {α:Type} (a:Option Addr) (N:Nat) (lt:α→α→Bool) (St:World→(Nat→α)→Bool→Prop):Prop where
  small:N≤1000000000
  len : ∀ w f b,St w f b→Calls Try.prog 70 #[.pointer a] w fun e w'=>e = .returned (.int .i64 N)∧St w' f b
  less : ∀ w f b (i j:Nat),St w f b→i<N→j<N→i≠j→Calls Try.prog 71 #[.pointer a, .int .i64 i, .int .i64 j] w fun e w'=>e = .returned (.bool (lt (f i) (f j)))∧St w' f b
  swap : ∀ w f b (i j:Nat),St w f b→i<N→j<N→i≠j→Calls Try.prog 72 #[.pointer a, .int .i64 i, .int .i64 j] w fun e w'=>e = .returned (.tuple #[])∧St w' (swp f i j) true
theorem gate_invoke {P:Program} {ops:Array Oper} {Q:Exit→Act→World→Prop} {rest:List Oper} {o:Oper} {a:Act} {W:World} {x:Operand} {m:String} {xs:Array Operand} {ts:Array TypeId} (_ho:o.op = .call { callee := .invoke x m,args:=xs,argTypes:=ts }) (h:wpList P ops Q (o :: rest) a W):wpList P ops Q (o :: rest) a W:=h
def dataV (a:Option Addr):Value := .iface 86 (.pointer a)
variable {α:Type} {a:Option Addr} {N:Nat} {lt:α→α→Bool} {St:World→(Nat→α)→Bool→Prop}
set_option maxHeartbeats 8000000 in
set_option maxRecDepth 100000 in
theorem swapRange.calls (S:Sorter a N lt St) (x y n:Nat) (f:Nat→α) (b:Bool) (w:World) (hxy:x+n≤y) (hy:y+n≤N) (h:St w f b) :
    Calls Try.prog 53 #[.iface 86 (.pointer a), .int .i64 x, .int .i64 y, .int .i64 n] w fun e w'=>e = .returned (.tuple #[]) ∧ ∃ b',St w' (swr x y n f) b'∧(b'=true∨n=0):=by
  have HS:=Ak S
  have HN:=Ak S.small
  have H:=Ak h
  clear h S
  go_enter Try.func53,Try.ntmps53
  go_wp2
  (try simp only [Act.put,List.setIfInBounds_toArray,List.set_cons_zero,List.set_cons_succ])
  go_loopg [8] n (fun kq v8 w' => ∃ (i:Nat) (b':Bool),v8 = .int .i64 i∧Aside0 (i+kq=n)∧Aside0 (St w' (swr x y i f) b')∧Aside0 (b'=true∨i=0))
  case atStart=>exact ⟨0,b,rfl,⟨by omega⟩,⟨by rw [swr_zero];exact H.out⟩,⟨.inr rfl⟩⟩
  case round =>
    clear H
    obtain ⟨i,b',rfl,HI,HST,HB⟩:=hrel
    by_cases c:i<n
    · have cb:decide ((i:Int)<(n:Int))=true:=decide_eq_true om
      have E1:Aside0 (wrap64 ((x:Int)+(i:Int))=(x:Int)+(i:Int)):=⟨(wadd (p:=x) (q:=i) (by have:=HN.out;have:=HI.out;omega)).trans (Int.natCast_add _ _)⟩
      have E2:Aside0 (wrap64 ((y:Int)+(i:Int))=(y:Int)+(i:Int)):=⟨(wadd (p:=y) (q:=i) (by have:=HN.out;have:=HI.out;omega)).trans (Int.natCast_add _ _)⟩
      have E3:Aside0 (wrap64 ((i:Int)+1)=((i+1:Nat):Int)):=⟨wsucc (by have:=HN.out;omega)⟩
      go_wp2_with (first | ((with_reducible refine gate_invoke (m := "Swap") rfl ?_); refine goesI_ (some 21) rfl rfl rfl rfl (methodSwap _ _) Try.func72 (by kernel_rfl) rfl #[.pointer a, .int .i64 ((x + i : Nat) : Int), .int .i64 ((y + i : Nat) : Int)] ?hz ?_; (case hz => (go_simp; exact ⟨E1.out, E2.out⟩)); refine ((HS.out.swap _ _ b' (x + i) (y + i) HST.out om om om).mono ?_); rintro e w2 ⟨rfl, h2⟩; refine ⟨_, rfl, ?_⟩; rw [← swr_succ om] at h2; have H2 := Ak h2; clear h2 HST))
      rw [E3.out]
      go_roundg (gk - 1)
      case measure=>have:=HI.out;omega
      case rel=>exact ⟨i+1,true,rfl,⟨by have:=HI.out;omega⟩,H2,⟨.inl rfl⟩⟩
    · have cb:decide ((i:Int)<(n:Int))=false:=decide_eq_false om
      go_wp2
      first|go_end0|((try simp only [Exit.inBlock,Exit.then]);refine bodyPost_ret (results_none rfl _ _ _) rfl ?_)
      have e:i=n:=by have:=HI.out;omega
      subst e
      exact ⟨rfl,b',HST.out,HB.out⟩
set_option maxHeartbeats 8000000 in
set_option maxRecDepth 100000 in
theorem rotate.calls (S:Sorter a N lt St) (x m y:Nat) (f:Nat→α) (b:Bool) (w:World) (hxm:x<m) (hmy:m<y) (hy:y≤N) (h:St w f b) :
    Calls Try.prog 52 #[.iface 86 (.pointer a), .int .i64 x, .int .i64 m, .int .i64 y] w fun e w'=>e = .returned (.tuple #[])∧St w' (rot x m y f) true:=by
  have HS:=Ak S
  have HN:=Ak S.small
  have H:=Ak h
  clear h S
  have E1:Aside0 (wrap64 ((m:Int) - (x:Int))=((m - x:Nat):Int)):=⟨wsub om (by have:=HN.out;omega)⟩
  have E2:Aside0 (wrap64 ((y:Int) - (m:Int))=((y - m:Nat):Int)):=⟨wsub om (by have:=HN.out;omega)⟩
  go_enter Try.func52,Try.ntmps52
  go_wp2
  (try simp only [Act.put,List.setIfInBounds_toArray,List.set_cons_zero,List.set_cons_succ])
  rw [E1.out,E2.out]
  go_loopg [8,9] (y - x) (fun kq v8 v9 w' => ∃ (i j:Nat) (g:Nat→α) (b':Bool),v8 = .int .i64 i∧v9 = .int .i64 j∧Aside0 (0<i∧0<j∧i≤m - x∧j≤y - m∧i+j≤kq)∧Aside0 (rot (m - i) m (m+j) g=rot x m y f)∧Aside0 (St w' g b'))
  case atStart=>exact ⟨m - x,y - m,f,b,rfl,rfl,⟨by omega⟩,⟨by rw [show m - (m - x)=x by omega,show m+(y - m)=y by omega]⟩,H⟩
  case round =>
    clear H
    obtain ⟨i,j,g,b',rfl,rfl,HI,HR,HST⟩:=hrel
    by_cases c:i=j
    · subst c
      have cb:((i:Int) != (i:Int))=false:=bne_eq_false_iff_eq.mpr rfl
      have E3:Aside0 (wrap64 ((m:Int) - (i:Int))=((m - i:Nat):Int)):=⟨wsub (by have:=HI.out;omega) (by have:=HN.out;omega)⟩
      go_wp2_with (first|((with_reducible refine gate_callee (f:=53) rfl ?_);refine goesL_ (some 52) rfl rfl Try.func53 (by kernel_rfl) rfl #[.iface 86 (.pointer a), .int .i64 ((m - i:Nat):Int), .int .i64 m, .int .i64 i] rfl (by go_simp;first|done|exact E3.out) ?_;refine ((swapRange.calls HS.out (m - i) m i g b' _ (by have:=HI.out;omega) (by have:=HI.out;omega) HST.out).mono ?_);rintro e w2 ⟨rfl,b2,h2,h3⟩;refine ⟨_,rfl,?_⟩;have H2:=Ak h2;have H3:=Ak h3;clear h2 h3 HST))
      first|go_end0|((try simp only [Exit.inBlock,Exit.then]);refine bodyPost_ret (results_none rfl _ _ _) rfl ?_)
      have hb:b2=true:=by rcases H3.out with h|h;exact h;have:=HI.out;omega
      refine ⟨rfl,?_⟩
      have h4:=HR.out
      rw [rot_eq (by have:=HI.out;omega)] at h4
      rw [← h4, ← hb]
      exact H2.out
    · have cb:((i:Int) != (j:Int))=true:=bne_iff_ne.mpr om
      have E3:Aside0 (wrap64 ((m:Int) - (i:Int))=((m - i:Nat):Int)):=⟨wsub (by have:=HI.out;omega) (by have:=HN.out;omega)⟩
      by_cases c2:j<i
      · have cb2:decide ((j:Int)<(i:Int))=true:=decide_eq_true om
        have E4:Aside0 (wrap64 ((i:Int) - (j:Int))=((i - j:Nat):Int)):=⟨wsub (by have:=HI.out;omega) (by have:=HN.out;have:=HI.out;omega)⟩
        go_wp2_with (first|((with_reducible refine gate_callee (f:=53) rfl ?_);refine goesL_ (some 28) rfl rfl Try.func53 (by kernel_rfl) rfl #[.iface 86 (.pointer a), .int .i64 ((m - i:Nat):Int), .int .i64 m, .int .i64 j] rfl (by go_simp;first|done|exact E3.out) ?_;refine ((swapRange.calls HS.out (m - i) m j g b' _ (by have:=HI.out;omega) (by have:=HI.out;omega) HST.out).mono ?_);rintro e w2 ⟨rfl,b2,h2,h3⟩;refine ⟨_,rfl,?_⟩;have H2:=Ak h2;clear h2 h3 HST))
        go_roundg (gk - 1)
        case measure=>have:=HI.out;omega
        case rel=>exact ⟨i - j,j,_,b2,by rw [E4.out],rfl,⟨by have:=HI.out;omega⟩,⟨by rw [← rot_gt (by have:=HI.out;omega) c2];exact HR.out⟩,H2⟩
      · have cb2:decide ((j:Int)<(i:Int))=false:=decide_eq_false om
        have E4:Aside0 (wrap64 ((j:Int) - (i:Int))=((j - i:Nat):Int)):=⟨wsub (by have:=HI.out;omega) (by have:=HN.out;have:=HI.out;omega)⟩
        have E5:Aside0 (wrap64 ((m:Int)+(j:Int))=((m:Int)+(j:Int))):=⟨(wadd (p:=m) (q:=j) (by have:=HN.out;have:=HI.out;omega)).trans (Int.natCast_add _ _)⟩
        have E6:Aside0 (wrap64 ((m:Int)+(j:Int) - (i:Int))=((m+j - i:Nat):Int)):=⟨wadds (p:=m) (q:=j) (r:=i) (by have:=HI.out;omega) (by have:=HN.out;have:=HI.out;omega)⟩
        go_wp2_with (first|((with_reducible refine gate_callee (f:=53) rfl ?_);refine goesL_ (some 42) rfl rfl Try.func53 (by kernel_rfl) rfl #[.iface 86 (.pointer a), .int .i64 ((m - i:Nat):Int), .int .i64 ((m+j - i:Nat):Int), .int .i64 i] rfl (by go_simp;rw [E5.out];exact ⟨E3.out,E6.out⟩) ?_;refine ((swapRange.calls HS.out (m - i) (m+j - i) i g b' _ (by have:=HI.out;omega) (by have:=HI.out;omega) HST.out).mono ?_);rintro e w2 ⟨rfl,b2,h2,h3⟩;refine ⟨_,rfl,?_⟩;have H2:=Ak h2;clear h2 h3 HST))
        go_roundg (gk - 1)
        case measure=>have:=HI.out;omega
        case rel=>exact ⟨i,j - i,_,b2,rfl,by rw [E4.out],⟨by have:=HI.out;omega⟩,⟨by rw [← rot_lt (by have:=HI.out;omega) om];exact HR.out⟩,H2⟩
end Go.Proofs.Ytbkgoccnegjdhaa.Q

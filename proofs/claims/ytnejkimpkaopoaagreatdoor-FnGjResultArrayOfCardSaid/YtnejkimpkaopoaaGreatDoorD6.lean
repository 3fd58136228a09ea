/- floatBits of internal/strconv's decimal: it returns. -/
import Derived.Test.YtnejkimpkaopoaaGreatDoorD4
import Derived.Test.YtnejkimpkaopoaaGreatDoorD5
import Derived.BigGuard
import Derived.Deep.DeepMust
namespace Go
def Exit.thenAt (P:Program) (c:Code) (Q:Exit→Act→World→Prop):Exit→Act→World→Prop
  | .goto l,a,w => ∃ rest,findLabel c l=some rest∧rest.wp P (Exit.noGoto Q) a w
  | e,a,w=>Q e a w
theorem wp_scope_at {P:Program} {c:Code} {Q:Exit→Act→World→Prop} {a:Act} {w:World} (h:c.wp P (Exit.thenAt P c Q) a w):(Code.scope c).wp P Q a w:=by
 intro b k cs
 obtain ⟨e,a₁,w₁,hq,harr⟩:=h b (.inScope c :: k) cs
 cases e with
 | normal=>exact ⟨.normal,a₁,w₁,hq, .head step_scope (Steps.trans harr (.one step_inScope))⟩
 | exit id=>exact ⟨.exit id,a₁,w₁,hq,fun k' hk => .head step_scope (harr k' (by simp [exitTo,hk]))⟩
 | goto l =>
  obtain ⟨rest,hf,hr⟩:=hq
  have hg:gotoIn l (.inScope c :: k)=some (.code rest :: .inScope c :: k):=by simp [gotoIn,hf]
  obtain ⟨e₂,a₂,w₂,hq₂,harr₂⟩:=hr b (.inScope c :: k) cs
  cases e₂ with
  | normal=>exact ⟨.normal,a₂,w₂,hq₂, .head step_scope (Steps.trans (harr _ hg) (Steps.trans harr₂ (.one step_inScope)))⟩
  | exit id=>exact ⟨.exit id,a₂,w₂,hq₂,fun k' hk => .head step_scope (Steps.trans (harr _ hg) (harr₂ k' (by simp [exitTo,hk])))⟩
  | goto l'=>exact hq₂.elim
  | ret=>exact ⟨_,a₂,w₂,hq₂, .of_steps (.head step_scope (harr _ hg)) harr₂⟩
  | panic ch=>exact ⟨_,a₂,w₂,hq₂, .of_steps (.head step_scope (harr _ hg)) harr₂⟩
  | outgrown=>exact ⟨_,a₂,w₂,hq₂, .of_steps (.head step_scope (harr _ hg)) harr₂⟩
 | ret=>exact ⟨_,a₁,w₁,hq, .of_steps (.one step_scope) harr⟩
 | panic ch=>exact ⟨_,a₁,w₁,hq, .of_steps (.one step_scope) harr⟩
 | outgrown=>exact ⟨_,a₁,w₁,hq, .of_steps (.one step_scope) harr⟩
theorem thenAt_goto {P:Program} {c rest:Code} {Q:Exit→Act→World→Prop} {l:Nat} {a:Act} {w:World} (hf:findLabel c l=some rest) (h:rest.wp P (Exit.noGoto Q) a w):Exit.thenAt P c Q (.goto l) a w:=⟨rest,hf,h⟩
theorem then_goto {K:Act→World→Prop} {Q:Exit→Act→World→Prop} {l:Nat} {a:Act} {w:World} (h:Q (.goto l) a w):Exit.then K Q (.goto l) a w:=h
end Go
namespace Go.Proofs.YtnejkimpkaopoaaGreatDoor.Q
open RowKit YtnejkimpkaopoaaGreatDoorW.PrintWords YtnejkimpkaopoaaGreatDoorW.PrintLast YtnejkimpkaopoaaGreatDoorW.PrintMore
attribute [local go_sem] max2_int min2_int max_two min_two max_three min_three max_four min_four
set_option linter.unusedVariables false
set_option linter.unusedSimpArgs false
structure FB (b:Nat) (w:World):Prop where
  lc:LC b w
  i0:w.cell? ⟨11,0,none⟩=some (.int .u64 52)
  i1:w.cell? ⟨11,1,none⟩=some (.int .u64 11)
  i2:w.cell? ⟨11,2,none⟩=some (.int .i64 (-1023))
  pt : ∃ (a:Addr) (cap:Nat),w.cell? ⟨15,0,none⟩=some (.slice (some a) 9 cap)∧a.block<b ∧ ∀ i:Nat,i<9 → ∃ p:Nat,1≤p∧p≤27∧w.cell? (a.add i)=some (.int .i64 (p:Int))
theorem FB.below {b:Nat} {w w':World} (h:FB b w) (k:Below b w w'):FB b w':=by
 obtain ⟨lc,i0,i1,i2,a,cap,h1,h2,h3⟩:=h
 have lt:=lc.lt
 refine ⟨lc.below k,(k.cell (p:=⟨11,0,none⟩) (show 11<b by omega)).trans i0,(k.cell (p:=⟨11,1,none⟩) (show 11<b by omega)).trans i1,(k.cell (p:=⟨11,2,none⟩) (show 11<b by omega)).trans i2,a,cap,(k.cell (p:=⟨15,0,none⟩) (show 15<b by omega)).trans h1,h2,fun i hi=>?_⟩
 obtain ⟨p,p1,p2,p3⟩:=h3 i hi
 refine ⟨p,p1,p2,(k.cell (p:=a.add i) ?_).trans p3⟩
 unfold Addr.add;split <;> exact h2
def FBP (e:Ending):Prop := ∃ (n:Int) (o:Bool),e = .returned (.tuple #[.int .u64 n, .bool o])
theorem FBP.mk (n:Int) (o:Bool):FBP (.returned (.tuple #[.int .u64 n, .bool o])):=⟨n,o,rfl⟩
def DK (b g:Nat) (w W:World) (d:Nat→Int) (nd dp:Int) (neg tr:Bool):Prop:=Dec W g d nd dp neg tr∧KB b g w W
theorem DK.drewN {b g:Nat} {w W:World} {d:Nat→Int} {nd dp:Int} {neg tr:Bool} (h:DK b g w W d nd dp neg tr) (n:Nat):DK b g w (W.drewN n) d nd dp neg tr:=⟨h.1.drewN n,h.2.drewN n⟩
theorem DK.fb {b g:Nat} {w W:World} {d:Nat→Int} {nd dp:Int} {neg tr:Bool} (h:DK b g w W d nd dp neg tr) (hF:FB b w):FB b W:=hF.below h.2.below
def ShR (b g:Nat) (w w':World) (d:Nat→Int) (dp:Int) (neg:Bool):Prop := ∃ (d3:Nat→Int) (m3:Nat) (dp3:Int) (tr3:Bool),DK b g w w' d3 m3 dp3 neg tr3∧0<m3∧Dig d3 m3∧dp - 20≤dp3∧dp3≤dp∧10*dp3+d3 0<10*dp+d 0
def ShL (b g:Nat) (w w':World) (d:Nat→Int) (dp:Int) (neg:Bool):Prop := ∃ (d3:Nat→Int) (m3:Nat) (dp3:Int) (tr3:Bool),DK b g w w' d3 m3 dp3 neg tr3∧0<m3∧Dig d3 m3∧dp≤dp3∧dp3≤dp+20∧10*dp+d 0<10*dp3+d3 0
def ShA (b g:Nat) (w w':World) (dp:Int) (neg:Bool):Prop := ∃ (d3:Nat→Int) (m3:Nat) (dp3:Int) (tr3:Bool),DK b g w w' d3 m3 dp3 neg tr3∧0<m3∧Dig d3 m3∧dp - 1000020≤dp3∧dp3≤dp+1000020
section
variable {b g nd:Nat} {d:Nat→Int} {dp:Int} {neg tr:Bool} {w W:World}
theorem shiftR (hF:FB b w) (h:DK b g w W d nd dp neg tr) (hn:0<nd) (hd:Dig d nd) (n:Nat) (hk:1≤n∧n≤60) (hdp : -50000000≤dp∧dp≤50000000) :
 Calls Tryz.prog 238 #[.pointer (some ⟨g,0,none⟩), .int .i64 (-(n:Int))] W fun e w'=>e = .returned (.tuple #[])∧ShR b g w w' d dp neg:=by
 refine (strconv_Shift.calls b g nd (-(n:Int)) d dp neg tr W (h.fb hF).lc h.1 hd h.2.ge ⟨by omega,by omega⟩ hdp).mono ?_
 rintro e w' ⟨rfl,d3,m3,dp3,tr3,h1,h2,h3,h4,h5,h6,h7,h8,h9⟩
 obtain ⟨q1,q2,q3⟩:=h9 hn (by omega) (by omega)
 have a1:=hd.2.2 hn
 have a2:=h4.2.1 0 (h2 hn)
 refine ⟨rfl,d3,m3,dp3,tr3,⟨h1,h.2.trans h5⟩,h2 hn,h4,q1,q2,?_⟩
 by_cases e:dp3=dp
 ·
  have:=q3 e;omega
 omega
theorem shiftL (hF:FB b w) (h:DK b g w W d nd dp neg tr) (hn:0<nd) (hd:Dig d nd) (n:Nat) (hk:1≤n∧n≤60) (hdp : -50000000≤dp∧dp≤50000000) :
 Calls Tryz.prog 238 #[.pointer (some ⟨g,0,none⟩), .int .i64 (n:Int)] W fun e w'=>e = .returned (.tuple #[])∧ShL b g w w' d dp neg:=by
 refine (strconv_Shift.calls b g nd (n:Int) d dp neg tr W (h.fb hF).lc h.1 hd h.2.ge ⟨by omega,by omega⟩ hdp).mono ?_
 rintro e w' ⟨rfl,d3,m3,dp3,tr3,h1,h2,h3,h4,h5,h6,h7,h8,h9⟩
 obtain ⟨q1,q2,q3⟩:=h8 hn (by omega) (by omega)
 have a1:=hd.2.1 0 hn
 have a2:=h4.2.2 (h2 hn)
 refine ⟨rfl,d3,m3,dp3,tr3,⟨h1,h.2.trans h5⟩,h2 hn,h4,q1,q2,?_⟩
 by_cases e:dp3=dp
 ·
  have:=q3 e;omega
 omega
theorem shiftA (hF:FB b w) (h:DK b g w W d nd dp neg tr) (hn:0<nd) (hd:Dig d nd) (k:Int) (hk : -1000000≤k∧k≤1000000) (hdp : -50000000≤dp∧dp≤50000000) :
 Calls Tryz.prog 238 #[.pointer (some ⟨g,0,none⟩), .int .i64 k] W fun e w'=>e = .returned (.tuple #[])∧ShA b g w w' dp neg:=by
 refine (strconv_Shift.calls b g nd k d dp neg tr W (h.fb hF).lc h.1 hd h.2.ge hk hdp).mono ?_
 rintro e w' ⟨rfl,d3,m3,dp3,tr3,h1,h2,h3,h4,h5,h6,h7,h8,h9⟩
 exact ⟨rfl,d3,m3,dp3,tr3,⟨h1,h.2.trans h5⟩,h2 hn,h4,h6,h7⟩
end
theorem loop2_lo {M ex:Int} (c:M<53) (h2 : -94500≤ex+27*M) : -96000≤ex:=by omega
theorem wr64 {x:Int} (h0 : -9000000000≤x) (h1:x≤9000000000):wrap64 x=x:=by unfold wrap64;omega
theorem loop2_neg {dp x M:Int} (h:10*dp+x=M) (c:M<53) (hx:48≤x) : ∃ j:Nat,dp = -(j:Int):=⟨(-dp).toNat,by omega⟩
theorem loop2_or {j:Nat} {x M:Int} (h:10*(-(j:Int))+x=M) (c:M<53):0<j∨(j=0∧x<53):=by omega
theorem loop2_out {dp x M:Int} (h:10*dp+x=M) (c : ¬ M<53) (hx:x≤57) : ∃ j:Nat,dp=(j:Int)∧(j=0→53≤x):=⟨dp.toNat,by omega,by omega⟩
theorem loop2_ex {dp x M ex:Int} (h:10*dp+x=M) (hd:dp≤20) (hx:x≤57) (h2 : -94500≤ex+27*M) : -200000≤ex:=by omega
theorem loop2_next {y x x3 M ex dp3 p:Int} {k1:Nat} (h:10*y+x=M) {z:Int} (hz:z=x) (h2 : -94500≤ex+27*M) (h6:60 - M<((k1+1:Nat):Int)) (hp:p≤27) (h0:1≤p) (q:10*y+z<10*dp3+x3) : -94500≤ex - p+27*(10*dp3+x3)∧60 - (10*dp3+x3)<(k1:Int):=by
 obtain ⟨M3,h3⟩ : ∃ M3,10*dp3+x3=M3:=⟨_,rfl⟩
 rw [h3] at q ⊢
 rw [hz,h] at q
 clear h3 h hz
 omega
set_option maxHeartbeats 16000000 in
set_option maxRecDepth 100000 in
theorem strconv_floatBits.calls (b g nd:Nat) (d:Nat→Int) (dp:Int) (neg tr:Bool) (w:World) (hF:FB b w) (hD:Dec w g d nd dp neg tr) (hd:Dig d nd) (hb:b≤g) :
    Calls Tryz.prog 221 #[.pointer (some ⟨g,0,none⟩), .pointer (some ⟨11,0,none⟩)] w fun e w'=>FBP e∧KB b g w w':=by
  have HD:=Ak hD
  have Hd:=Ak hd
  have HF:=Ak hF
  clear hD hd hF
  have hc0:=HD.out.c800
  have hc1:=HD.out.c801
  have hc2:=HD.out.c802
  have hi0:=HF.out.i0
  have hi1:=HF.out.i1
  have hi2:=HF.out.i2
  go_enter Tryz.func221,Tryz.ntmps221
  go_wp2
  apply wp_scope_at
  generalize hPQ:Exit.thenAt _ _ _=PQ
  have HPQ:=Ak hPQ
  clear hPQ
  by_cases c0:nd=0
  · subst c0
    go_wp2
    go_step3
    first|refine then_goto ?_|refine then_goto (then_goto ?_)|skip
    rw [← HPQ.out]
    refine thenAt_goto (by rfl) ?_
    go_wp2
    go_quiet (fail)
    cases neg with
    | false =>
      go_wp2
      (try rw [Exit.noGoto_ret])
      go_ret2
      exact ⟨FBP.mk _ _,by first|exact (KB.refl w hb)|exact (KB.refl w hb).drewN _|exact ((KB.refl w hb).drewN _).drewN _|exact (((KB.refl w hb).drewN _).drewN _).drewN _|exact ((((KB.refl w hb).drewN _).drewN _).drewN _).drewN _⟩
    | true =>
      go_wp2
      go_quiet (fail)
      go_wp2
      (try rw [Exit.noGoto_ret])
      go_ret2
      exact ⟨FBP.mk _ _,by first|exact (KB.refl w hb)|exact (KB.refl w hb).drewN _|exact ((KB.refl w hb).drewN _).drewN _|exact (((KB.refl w hb).drewN _).drewN _).drewN _|exact ((((KB.refl w hb).drewN _).drewN _).drewN _).drewN _⟩
  have hn:0<nd:=by omega
  have cb:((nd:Int) == 0)=false:=by simp;omega
  by_cases c1:310<dp
  · go_wp2
    go_step3
    first|refine then_goto ?_|refine then_goto (then_goto ?_)|skip
    rw [← HPQ.out]
    refine thenAt_goto (by rfl) ?_
    go_wp2
    go_quiet (fail)
    go_wp2
    go_step3
    go_wp2
    go_quiet (fail)
    cases neg with
    | false =>
      go_wp2
      (try rw [Exit.noGoto_ret])
      go_ret2
      exact ⟨FBP.mk _ _,by first|exact (KB.refl w hb)|exact (KB.refl w hb).drewN _|exact ((KB.refl w hb).drewN _).drewN _|exact (((KB.refl w hb).drewN _).drewN _).drewN _|exact ((((KB.refl w hb).drewN _).drewN _).drewN _).drewN _⟩
    | true =>
      go_wp2
      go_quiet (fail)
      go_wp2
      (try rw [Exit.noGoto_ret])
      go_ret2
      exact ⟨FBP.mk _ _,by first|exact (KB.refl w hb)|exact (KB.refl w hb).drewN _|exact ((KB.refl w hb).drewN _).drewN _|exact (((KB.refl w hb).drewN _).drewN _).drewN _|exact ((((KB.refl w hb).drewN _).drewN _).drewN _).drewN _⟩
  by_cases c2:dp < -330
  · go_wp2
    go_step3
    first|refine then_goto ?_|refine then_goto (then_goto ?_)|skip
    rw [← HPQ.out]
    refine thenAt_goto (by rfl) ?_
    go_wp2
    go_quiet (fail)
    cases neg with
    | false =>
      go_wp2
      (try rw [Exit.noGoto_ret])
      go_ret2
      exact ⟨FBP.mk _ _,by first|exact (KB.refl w hb)|exact (KB.refl w hb).drewN _|exact ((KB.refl w hb).drewN _).drewN _|exact (((KB.refl w hb).drewN _).drewN _).drewN _|exact ((((KB.refl w hb).drewN _).drewN _).drewN _).drewN _⟩
    | true =>
      go_wp2
      go_quiet (fail)
      go_wp2
      (try rw [Exit.noGoto_ret])
      go_ret2
      exact ⟨FBP.mk _ _,by first|exact (KB.refl w hb)|exact (KB.refl w hb).drewN _|exact ((KB.refl w hb).drewN _).drewN _|exact (((KB.refl w hb).drewN _).drewN _).drewN _|exact ((((KB.refl w hb).drewN _).drewN _).drewN _).drewN _⟩
  go_upto_block 0 with (fail)
  go_cut [6] (fun v6 wc => ∃ (ex:Int) (d2:Nat→Int) (m:Nat) (dp2:Int) (tr2:Bool),v6 = .int .i64 ex∧Aside0 (0≤ex∧ex≤200000 ∧ -350≤dp2∧dp2≤0∧0<m∧Dig d2 m)∧Aside0 (DK b g w wc d2 m dp2 neg tr2))
  case first =>
    go_wp2
    have h00:=Hd.out.2.1 0 hn
    go_loopg [6] 3200 (fun kq v6 wl => ∃ (ex:Int) (d2:Nat→Int) (m:Nat) (dp2:Int) (tr2:Bool),v6 = .int .i64 ex∧Aside0 (0≤ex∧ex+27*(10*dp2+d2 0)≤90000 ∧ -350≤dp2∧dp2≤310∧0<m∧10*dp2+d2 0<kq+48∧Dig d2 m)∧Aside0 (DK b g w wl d2 m dp2 neg tr2))
    case atStart=>exact ⟨0,d,nd,dp,tr,rfl,⟨by omega,by omega,by omega,by omega,hn,by omega,Hd.out⟩,⟨HD.out,KB.refl w hb⟩⟩
    case round =>
      clear HD hc0 hc1 hc2 hi0 hi1 hi2
      obtain ⟨ex,d2,m,dp2,tr2,rfl,HA,HK2⟩:=hrel
      obtain ⟨f1,f2,f3,f4,f5,f6,f7⟩:=HA.out
      clear HA
      have hc1:=HK2.out.1.c801
      have h20:=f7.2.1 0 f5
      have f7:=Ak f7
      obtain ⟨a,cap,g1,g2,g3⟩:=(HK2.out.fb HF.out).pt
      have g3:=Ak g3
      by_cases c:0<dp2
      · cases gk with
        | zero=>omega
        | succ k1 =>
        obtain ⟨j,rfl⟩ : ∃ j:Nat,dp2=(j:Int):=⟨dp2.toNat,by omega⟩
        by_cases c9:9≤j
        · have c9t:((9:Int)≤(j:Int))=True:=eq_true (by omega)
          go_wp2
          go_quiet (fail)
          go_wp2_with (first|(go_at_call 238;(refine (shiftR HF.out (HK2.out.drewN _) f5 f7.out 27 ⟨by omega,by omega⟩ ⟨by omega,by omega⟩).mono ?_);rintro e w9 ⟨rfl,d3,m3,dp3,tr3,HK3,m1,Hd3,q1,q2,q3⟩;have HK3:=Ak HK3;have Hd3:=Ak Hd3))
          have hw1:wrap64 (ex+27)=ex+27:=by unfold wrap64;omega
          go_wp2
          go_roundg k1
          case measure=>omega
          case rel=>exact ⟨ex+27,d3,m3,dp3,tr3,rfl,⟨by omega,by omega,by omega,by omega,m1,by omega,Hd3.out⟩,HK3⟩
        · have c9t:((9:Int)≤(j:Int))=False:=eq_false (by omega)
          have c9u:((j:Int)<9)=True:=eq_true (by omega)
          obtain ⟨p,p1,p2,p3⟩:=g3.out j (by omega)
          have hw1:wrap64 (-(p:Int)) = -(p:Int):=by unfold wrap64;omega
          have hw2:wrap64 (ex+(p:Int))=ex+(p:Int):=by unfold wrap64;omega
          go_wp2
          go_quiet (fail)
          go_wp2
          go_quiet (fail)
          go_wp2_with (first|(go_at_call 238;(refine (shiftR HF.out (HK2.out.drewN _) f5 f7.out p ⟨by omega,by omega⟩ ⟨by omega,by omega⟩).mono ?_);rintro e w9 ⟨rfl,d3,m3,dp3,tr3,HK3,m1,Hd3,q1,q2,q3⟩;have HK3:=Ak HK3;have Hd3:=Ak Hd3))
          go_wp2
          go_roundg k1
          case measure=>omega
          case rel=>exact ⟨ex+p,d3,m3,dp3,tr3,rfl,⟨by omega,by omega,by omega,by omega,m1,by omega,Hd3.out⟩,HK3⟩
      · go_wp2
        go_meet
        case rel=>exact ⟨ex,d2,m,dp2,tr2,rfl,⟨f1,by omega,f3,by omega,f5,f7.out⟩,HK2⟩
  case rest =>
    clear HD hc0 hc1 hc2 hi0 hi1 hi2
    obtain ⟨ex0,d0,m0,dp0,tr0,rfl,HA,HK0⟩:=hcut
    obtain ⟨f1,f2,f3,f4,f5,f7⟩:=HA.out
    clear HA
    have h00:=f7.2.1 0 f5
    have f7:=Ak f7
    go_upto_block 2 with (fail)
    go_cut [6] (fun v6 wc => ∃ (ex:Int) (d2:Nat→Int) (m:Nat) (dp2:Int) (tr2:Bool),v6 = .int .i64 ex∧Aside0 (-200000≤ex∧ex≤200000∧0≤dp2∧dp2≤20∧0<m∧Dig d2 m)∧Aside0 (DK b g w wc d2 m dp2 neg tr2))
    case first =>
      go_wp2
      go_loopg [6] 3600 (fun kq v6 wl => ∃ (ex:Int) (d2:Nat→Int) (m:Nat) (dp2 M:Int) (tr2:Bool),v6 = .int .i64 ex∧Aside0 (ex≤200000 ∧ -94500≤ex+27*M ∧ -350≤dp2∧dp2≤20∧0<m∧60 - M<kq∧Dig d2 m∧10*dp2+d2 0=M)∧Aside0 (DK b g w wl d2 m dp2 neg tr2))
      case atStart=>exact ⟨ex0,d0,m0,dp0,_,tr0,rfl,⟨by omega,by omega,by omega,by omega,f5,by omega,f7.out,rfl⟩,HK0⟩
      case round =>
        clear HK0 f1 f2 f3 f4 f5 f7 h00
        obtain ⟨ex,d2,m,dp2,M,tr2,rfl,HA,HK2⟩:=hrel
        obtain ⟨f1,f2,f3,f4,f5,f6,f7,f8⟩:=HA.out
        clear HA
        have hc1:=HK2.out.1.c801
        have hcd:=HK2.out.1.digit 0 (by omega)
        have h20:=f7.2.1 0 f5
        have f7:=Ak f7
        obtain ⟨x,hx⟩ : ∃ x,d2 0=x:=⟨_,rfl⟩
        rw [hx] at hcd h20 f8
        have hx:=Ak hx
        obtain ⟨a,cap,g1,g2,g3⟩:=(HK2.out.fb HF.out).pt
        have g3:=Ak g3
        by_cases c:M<53
        · cases gk with
          | zero=>omega
          | succ k1 =>
          obtain ⟨j,hj⟩:=loop2_neg f8 c h20.1
          have cor:=loop2_or (hj ▸ f8) c
          have f8:=Ak f8
          have hlo:=loop2_lo c f2
          have f2:=Ak f2
          have f6:=Ak f6
          have h20:=Ak h20
          by_cases c9:9≤j
          · have c9t:((9:Int)≤(j:Int))=True:=eq_true (by omega)
            have cjt:(dp2<0)=True:=eq_true (by omega)
            have hwj:wrap64 (-dp2)=(j:Int):=by rw [hj,Int.neg_neg];exact wr64 (by omega) (by omega)
            have cju:((0:Int)<(j:Int))=True:=eq_true (by omega)
            have hw1:wrap64 (ex - 27)=ex - 27:=wr64 (by omega) (by omega)
            go_wp2
            go_quiet (fail)
            go_wp2_with (first|(go_at_call 238;(refine (shiftL HF.out (HK2.out.drewN _) f5 f7.out 27 ⟨by omega,by omega⟩ ⟨by omega,by omega⟩).mono ?_);rintro e w9 ⟨rfl,d3,m3,dp3,tr3,HK3,m1,Hd3,q1,q2,q3⟩;have HK3:=Ak HK3;have Hd3:=Ak Hd3))
            go_wp2
            go_roundg k1
            case measure=>omega
            case rel =>
              have h9:=loop2_next (p:=27) f8.out hx.out f2.out f6.out (by omega) (by omega) q3
              exact ⟨ex - 27,d3,m3,dp3,_,tr3,rfl,⟨by omega,h9.1,by omega,by omega,m1,h9.2,Hd3.out,rfl⟩,HK3⟩
          · have c9t:((9:Int)≤(j:Int))=False:=eq_false (by omega)
            have c9u:((j:Int)<9)=True:=eq_true (by omega)
            obtain ⟨p,p1,p2,p3⟩:=g3.out j (by omega)
            have hw2:wrap64 (ex - (p:Int))=ex - (p:Int):=wr64 (by omega) (by omega)
            rcases cor with cj|⟨cj0,cx⟩
            · have cjt:(dp2<0)=True:=eq_true (by omega)
              have hwj:wrap64 (-dp2)=(j:Int):=by rw [hj,Int.neg_neg];exact wr64 (by omega) (by omega)
              have cju:((0:Int)<(j:Int))=True:=eq_true (by omega)
              go_wp2
              go_quiet (fail)
              go_wp2
              go_quiet (fail)
              go_wp2_with (first|(go_at_call 238;(refine (shiftL HF.out (HK2.out.drewN _) f5 f7.out p ⟨by omega,by omega⟩ ⟨by omega,by omega⟩).mono ?_);rintro e w9 ⟨rfl,d3,m3,dp3,tr3,HK3,m1,Hd3,q1,q2,q3⟩;have HK3:=Ak HK3;have Hd3:=Ak Hd3))
              go_wp2
              go_roundg k1
              case measure=>omega
              case rel =>
              have h9:=loop2_next (p:=p) f8.out hx.out f2.out f6.out (by omega) (by omega) q3
              exact ⟨ex - p,d3,m3,dp3,_,tr3,rfl,⟨by omega,h9.1,by omega,by omega,m1,h9.2,Hd3.out,rfl⟩,HK3⟩
            · obtain rfl:dp2=0:=by omega
              subst cj0
              clear hj
              have p4:=p3
              rw [show a.add 0=a by simp [Addr.add]] at p4
              go_wp2
              go_quiet (fail)
              go_wp2
              go_quiet (fail)
              go_wp2_with (first|(go_at_call 238;(refine (shiftL HF.out (HK2.out.drewN _) f5 f7.out p ⟨by omega,by omega⟩ ⟨by omega,by omega⟩).mono ?_);rintro e w9 ⟨rfl,d3,m3,dp3,tr3,HK3,m1,Hd3,q1,q2,q3⟩;have HK3:=Ak HK3;have Hd3:=Ak Hd3))
              go_wp2
              go_roundg k1
              case measure=>omega
              case rel =>
              have h9:=loop2_next (p:=p) f8.out hx.out f2.out f6.out (by omega) (by omega) q3
              exact ⟨ex - p,d3,m3,dp3,_,tr3,rfl,⟨by omega,h9.1,by omega,by omega,m1,h9.2,Hd3.out,rfl⟩,HK3⟩
        · obtain ⟨j,rfl,hj0⟩:=loop2_out f8 c h20.2
          have hex:=loop2_ex f8 f4 h20.2 f2
          clear f2 f6 f8 c h20
          by_cases cj:j=0
          · subst cj
            have cx:(x<53)=False:=eq_false (by have:=hj0 rfl;omega)
            clear hj0
            go_wp2
            go_meet
            case rel=>exact ⟨ex,d2,m,0,tr2,rfl,⟨hex,f1,by omega,by omega,f5,f7.out⟩,HK2⟩
          · have cjt:((j:Int) == 0)=false:=by simp;omega
            have cju:((j:Int)<0)=False:=eq_false (by omega)
            go_wp2
            go_meet
            case rel=>exact ⟨ex,d2,m,j,tr2,rfl,⟨hex,f1,by omega,by omega,f5,f7.out⟩,HK2⟩
    case rest =>
      clear HK0 f1 f2 f3 f4 f5 f7 h00
      obtain ⟨ex,d2,m,dp2,tr2,rfl,HA,HK2⟩:=hcut
      obtain ⟨f1,f2,f3,f4,f5,f7⟩:=HA.out
      clear HA
      have f7:=Ak f7
      obtain ⟨e1,he⟩ : ∃ e1,ex - 1=e1:=⟨_,rfl⟩
      have he1 : -200001≤e1∧e1≤200000:=by omega
      have hw0:wrap64 (ex - 1)=e1:=by rw [he];exact wr64 (by omega) (by omega)
      have HW0:=Ak hw0
      clear f1 f2 he hw0
      have hi0:=(HK2.out.fb HF.out).i0
      have hi1:=(HK2.out.fb HF.out).i1
      have hi2:=(HK2.out.fb HF.out).i2
      have hw0:=HW0.out
      go_upto_if 111 with (fail)
      simp only [hw0]
      clear hw0
      go_cut [6] (fun v6 wc => ∃ (ex:Int) (d2:Nat→Int) (m:Nat) (dp2:Int) (tr2:Bool),v6 = .int .i64 ex∧Aside0 (-1022≤ex∧ex≤200000 ∧ -2000000≤dp2∧dp2≤2000000∧0<m∧Dig d2 m)∧Aside0 (DK b g w wc d2 m dp2 neg tr2))
      case first =>
        by_cases c3:e1 < -1022
        · have b2 : -50000000≤dp2∧dp2≤50000000:=by omega
          go_wp2_with (first|(go_at_call 238;go_must (refine (shiftA HF.out HK2.out f5 f7.out _ (by omega) b2).mono ?_);rintro e w9 ⟨rfl,d3,m3,dp3,tr3,HK3,m1,Hd3,q1,q2⟩;have HK3:=Ak HK3;have Hd3:=Ak Hd3))
          go_wp2
          go_meet
          case rel=>exact ⟨_,d3,m3,dp3,tr3,rfl,⟨by omega,by omega,by omega,by omega,m1,Hd3.out⟩,HK3⟩
        · go_wp2
          go_meet
          case rel =>
            exact ⟨e1,d2,m,dp2,tr2,rfl,⟨by omega,by omega,by omega,by omega,f5,f7.out⟩,HK2⟩
      case rest =>
        clear HK2 he1 f3 f4 f5 f7 HW0 hi0 hi1 hi2
        obtain ⟨e2,d2,m,dp2,tr2,rfl,HA,HK2⟩:=hcut
        obtain ⟨f1,f2,f3,f4,f5,f7⟩:=HA.out
        clear HA
        have f7:=Ak f7
        have HKX:=HK2.out.2
        have HKX:=Ak HKX
        have hi0:=(HK2.out.fb HF.out).i0
        have hi1:=(HK2.out.fb HF.out).i1
        have hi2:=(HK2.out.fb HF.out).i2
        have hc2:=HK2.out.1.c802
        have hw1:wrap64 (e2+1023)=e2+1023:=wr64 (by omega) (by omega)
        by_cases c4:1024≤e2
        · have c4t:((2047:Int)≤e2+1023)=True:=eq_true (by omega)
          go_wp2
          go_quiet (fail)
          go_wp2
          go_step3
          first|refine then_goto ?_|refine then_goto (then_goto ?_)|skip
          rw [← HPQ.out]
          refine thenAt_goto (by rfl) ?_
          go_wp2
          go_quiet (fail)
          go_wp2
          go_step3
          go_wp2
          go_quiet (fail)
          cases neg with
          | false =>
            go_wp2
            (try rw [Exit.noGoto_ret])
            go_ret2
            exact ⟨FBP.mk _ _,by first|exact HKX.out|exact HKX.out.drewN _|exact (HKX.out.drewN _).drewN _|exact ((HKX.out.drewN _).drewN _).drewN _|exact (((HKX.out.drewN _).drewN _).drewN _).drewN _⟩
          | true =>
            go_wp2
            go_quiet (fail)
            go_wp2
            (try rw [Exit.noGoto_ret])
            go_ret2
            exact ⟨FBP.mk _ _,by first|exact HKX.out|exact HKX.out.drewN _|exact (HKX.out.drewN _).drewN _|exact ((HKX.out.drewN _).drewN _).drewN _|exact (((HKX.out.drewN _).drewN _).drewN _).drewN _⟩
        · have c4t:((2047:Int)≤e2+1023)=False:=eq_false (by omega)
          have b2 : -50000000≤dp2∧dp2≤50000000:=by omega
          have hwe:wrap64 (e2+1)=e2+1:=wr64 (by omega) (by omega)
          have hwf:wrap64 (e2+1+1023)=e2+1024:=by rw [show e2+1+1023=e2+1024 by omega];exact wr64 (by omega) (by omega)
          go_wp2
          go_quiet (fail)
          go_wp2_with (first|(go_at_call 238;(refine (shiftA HF.out (HK2.out.drewN _) f5 f7.out 53 ⟨by decide,by decide⟩ b2).mono ?_);rintro e w9 ⟨rfl,d3,m3,dp3,tr3,HK3,m1,Hd3,q1,q2⟩;have HK3:=Ak HK3;have Hd3:=Ak Hd3;clear q1 q2 hi0 hi1 hi2 hc2;have HKY:=Ak HK3.out.2;have hi0:=(HK3.out.fb HF.out).i0;have hi1:=(HK3.out.fb HF.out).i1;have hi2:=(HK3.out.fb HF.out).i2;have hc2:=HK3.out.1.c802))
          go_wp2_with (first|(go_at_call 252;(refine (strconv_RoundedInteger.calls g m3 d3 dp3 neg tr3 _ HK3.out.1 Hd3.out).mono ?_);rintro e w8 ⟨⟨n,n1,rfl⟩,rfl⟩))
          any_goals (go_quiet (fail);go_wp2)
          all_goals first
            | (
               go_step3
               first|refine then_goto ?_|refine then_goto (then_goto ?_)|skip
               rw [← HPQ.out]
               refine thenAt_goto (by rfl) ?_
               go_wp2
               go_quiet (fail)
               cases neg with
               | false =>
                 go_wp2
                 (try rw [Exit.noGoto_ret])
                 go_ret2
                 exact ⟨FBP.mk _ _,by first|exact HKY.out|exact HKY.out.drewN _|exact (HKY.out.drewN _).drewN _|exact ((HKY.out.drewN _).drewN _).drewN _|exact (((HKY.out.drewN _).drewN _).drewN _).drewN _⟩
               | true =>
                 go_wp2
                 go_quiet (fail)
                 go_wp2
                 (try rw [Exit.noGoto_ret])
                 go_ret2
                 exact ⟨FBP.mk _ _,by first|exact HKY.out|exact HKY.out.drewN _|exact (HKY.out.drewN _).drewN _|exact ((HKY.out.drewN _).drewN _).drewN _|exact (((HKY.out.drewN _).drewN _).drewN _).drewN _⟩
              )
            | (
               go_step3
               first|refine then_goto ?_|refine then_goto (then_goto ?_)|skip
               rw [← HPQ.out]
               refine thenAt_goto (by rfl) ?_
               go_wp2
               go_quiet (fail)
               go_wp2
               go_step3
               go_wp2
               go_quiet (fail)
               cases neg with
               | false =>
                 go_wp2
                 (try rw [Exit.noGoto_ret])
                 go_ret2
                 exact ⟨FBP.mk _ _,by first|exact HKY.out|exact HKY.out.drewN _|exact (HKY.out.drewN _).drewN _|exact ((HKY.out.drewN _).drewN _).drewN _|exact (((HKY.out.drewN _).drewN _).drewN _).drewN _⟩
               | true =>
                 go_wp2
                 go_quiet (fail)
                 go_wp2
                 (try rw [Exit.noGoto_ret])
                 go_ret2
                 exact ⟨FBP.mk _ _,by first|exact HKY.out|exact HKY.out.drewN _|exact (HKY.out.drewN _).drewN _|exact ((HKY.out.drewN _).drewN _).drewN _|exact (((HKY.out.drewN _).drewN _).drewN _).drewN _⟩
              )
end Go.Proofs.YtnejkimpkaopoaaGreatDoor.Q

/- Functions of the program as Lean functions, each with a proof that the call comes to what it gives. Written by prx.py (wip/pr). -/
import Derived.Test.YtbkgoccnegjdhaaB0
import Derived.Test.YtbkgoccnegjdhaaB1
import Derived.Test.YtbkgoccnegjdhaaB2
namespace Go.Proofs.Ytbkgoccnegjdhaa.Q
open Go.RowKit Go.Proofs.YtbkgoccnegjdhaaW.PrintWords Go.Proofs.YtbkgoccnegjdhaaW.PrintLast Go.Proofs.YtbkgoccnegjdhaaW.PrintMore
attribute [local go_sem] max2_int min2_int max_two min_two max_three min_three max_four min_four   -- for this text's walks alone
set_option linter.unusedVariables false
set_option linter.unusedSimpArgs false
/-! ### rN: function 36 -/
mutual
def rN.j0:Nat→Bool→ByteArray→Int→Option (Bool × ByteArray × Int)
  | 0,_,_,_=>none
  | k+1,x12,x1000,x1001=>if x12=true then (some (false,x1000,x1001)) else ((rT.f x1000 x1001 46).bind fun bt129=>(if bt129.1=true then ((rD.f k bt129.2.1 bt129.2.2).bind fun bt132=>(rN.j1 k (!bt132.1) bt132.2.1 bt132.2.2)) else (rN.j1 k false bt129.2.1 bt129.2.2)))
def rN.j1:Nat→Bool→ByteArray→Int→Option (Bool × ByteArray × Int)
  | 0,_,_,_=>none
  | k+1,x19,x1000,x1001=>if x19=true then (some (false,x1000,x1001)) else ((rT.f x1000 x1001 101).bind fun bt135=>(if bt135.1=true then (rN.j2 k true bt135.2.1 bt135.2.2) else ((rT.f bt135.2.1 bt135.2.2 69).bind fun bt138=>(rN.j2 k bt138.1 bt138.2.1 bt138.2.2))))
def rN.j2:Nat→Bool→ByteArray→Int→Option (Bool × ByteArray × Int)
  | 0,_,_,_=>none
  | k+1,x25,x1000,x1001=>if x25=true then ((rT.f x1000 x1001 43).bind fun bt141=>(if bt141.1=true then ((rD.f k bt141.2.1 bt141.2.2).bind fun bt144=>(some (bt144.1,bt144.2.1,bt144.2.2))) else ((rT.f bt141.2.1 bt141.2.2 45).bind fun bt147=>((rD.f k bt147.2.1 bt147.2.2).bind fun bt150=>(some (bt150.1,bt150.2.1,bt150.2.2)))))) else (some (true,x1000,x1001))
end
def rN.f (k:Nat) (s0_0:ByteArray) (s0_1:Int):Option (Bool × ByteArray × Int):=(rT.f s0_0 s0_1 45).bind fun bt120=>((rT.f bt120.2.1 bt120.2.2 48).bind fun bt123=>(if bt123.1=true then (rN.j0 k false bt123.2.1 bt123.2.2) else ((rD.f k bt123.2.1 bt123.2.2).bind fun bt126=>(rN.j0 k (!bt126.1) bt126.2.1 bt126.2.2))))
theorem rN.mono_l : ∀ k,(∀ y0 y1 y2,LeO (rN.j0 k y0 y1 y2) (rN.j0 (k+1) y0 y1 y2))∧(∀ y0 y1 y2,LeO (rN.j1 k y0 y1 y2) (rN.j1 (k+1) y0 y1 y2))∧(∀ y0 y1 y2,LeO (rN.j2 k y0 y1 y2) (rN.j2 (k+1) y0 y1 y2))
  | 0=>⟨fun _ _ _ r h=>by simp [rN.j0] at h,fun _ _ _ r h=>by simp [rN.j1] at h,fun _ _ _ r h=>by simp [rN.j2] at h⟩
  | k+1=>by
    obtain ⟨ih0,ih1,ih2⟩:=rN.mono_l k
    refine ⟨?_,?_,?_⟩
    · intro y0 y1 y2
      unfold rN.j0
      repeat' first|(with_reducible first|apply ih0|apply ih1|apply ih2|apply rD.mono|apply LeO.refl|apply LeO.none|refine LeO.ite ?_ ?_|refine LeO.bind ?_ (fun _=>?_))|apply ih0|apply ih1|apply ih2|apply rD.mono|apply LeO.none|refine LeO.ite ?_ ?_|refine LeO.bind ?_ (fun _=>?_)
    · intro y0 y1 y2
      unfold rN.j1
      repeat' first|(with_reducible first|apply ih0|apply ih1|apply ih2|apply rD.mono|apply LeO.refl|apply LeO.none|refine LeO.ite ?_ ?_|refine LeO.bind ?_ (fun _=>?_))|apply ih0|apply ih1|apply ih2|apply rD.mono|apply LeO.none|refine LeO.ite ?_ ?_|refine LeO.bind ?_ (fun _=>?_)
    · intro y0 y1 y2
      unfold rN.j2
      repeat' first|(with_reducible first|apply ih0|apply ih1|apply ih2|apply rD.mono|apply LeO.refl|apply LeO.none|refine LeO.ite ?_ ?_|refine LeO.bind ?_ (fun _=>?_))|apply ih0|apply ih1|apply ih2|apply rD.mono|apply LeO.none|refine LeO.ite ?_ ?_|refine LeO.bind ?_ (fun _=>?_)
theorem rN.mono : ∀ a0 a1 k,LeO (rN.f k a0 a1) (rN.f (k+1) a0 a1):=by
 intro a0 a1 k
 obtain ⟨ih0,ih1,ih2⟩:=rN.mono_l k
 unfold rN.f
 repeat' first|(with_reducible first|apply ih0|apply ih1|apply ih2|apply rD.mono|apply LeO.refl|apply LeO.none|refine LeO.ite ?_ ?_|refine LeO.bind ?_ (fun _=>?_))|apply ih0|apply ih1|apply ih2|apply rD.mono|apply LeO.none|refine LeO.ite ?_ ?_|refine LeO.bind ?_ (fun _=>?_)
set_option maxHeartbeats 8000000 in
set_option maxRecDepth 100000 in
theorem rN.calls (k:Nat) (g:Nat) (s0_0:ByteArray) (s0_1:Int) (r1:Bool) (r2:ByteArray) (r3:Int) (w0 w:World) (hI:IsS54 w0 w g s0_0 s0_1) (hB:Below w0.heap.size w0 w) (h:rN.f k s0_0 s0_1=some (r1,r2,r3)) :
 Calls Try.prog 36 #[.pointer (some ⟨g,0,none⟩)] w fun e w'=>e = .returned (.bool r1)∧IsS54 w0 w' g r2 r3∧Below w0.heap.size w0 w'∧KeepBut w w' g none:=by
 have HI0:=Ak hI
 have HK:=Ak (KeepBut.refl w g none)
 have HL:=Ak hB.size
 clear hI
 have HW0:=Ak hB.size
 have HB:=Ak hB
 clear hB
 have H:((rT.f s0_0 s0_1 45).bind fun bt120=>((rT.f bt120.2.1 bt120.2.2 48).bind fun bt123=>(if bt123.1=true then (rN.j0 k false bt123.2.1 bt123.2.2) else ((rD.f k bt123.2.1 bt123.2.2).bind fun bt126=>(rN.j0 k (!bt126.1) bt126.2.1 bt126.2.2)))))=some (r1,r2,r3):=h
 clear h
 replace H:=Option.bind_eq_some_iff.mp H
 obtain ⟨⟨t120,t121,t122⟩,A20,H⟩:=H
 replace H:((rT.f t121 t122 48).bind fun bt123=>(if bt123.1=true then (rN.j0 k false bt123.2.1 bt123.2.2) else ((rD.f k bt123.2.1 bt123.2.2).bind fun bt126=>(rN.j0 k (!bt126.1) bt126.2.1 bt126.2.2))))=some (r1,r2,r3):=H
 have A2:=Ak A20
 clear A20
 have HC3:=Ak H
 clear H
 go_enter Try.func36,Try.ntmps36
 go_upto_region 2 with (first|((with_reducible refine gate_callee (f:=43) rfl ?_);refine goesL_ (some 4) rfl rfl Try.func43 (by kernel_rfl) rfl #[.pointer (some ⟨g,0,none⟩), .int .u8 45] rfl oM ?_;(with_reducible refine (rT.calls g s0_0 s0_1 45 t120 t121 t122 w0 _ ?side1 ?side2 A2.out).mono ?_);(case side1=>exact oI);(case side2=>exact oG);rintro e w4 ⟨rfl,hi,hb,hk⟩;refine ⟨_,rfl,?_⟩;have _:=Ak (KeepBut.trans oK hk (.inl rfl));have _:=Ak (hb);have _:=Ak (hi);clear HK HB HI0;rename_i HK HB HI0;(try clear hb);(try clear hb2);(try clear hk);(try clear hi)))
 (try simp only [Act.put,List.setIfInBounds_toArray,List.set_cons_zero,List.set_cons_succ])
 go_cut [12] (fun v12 wc => ∃ (kq:Nat) (x12_2:Bool) (x1000_2:ByteArray) (x1001_2:Int),v12 = .bool x12_2∧Aside0 (rN.j0 kq x12_2 x1000_2 x1001_2=some (r1,r2,r3))∧Aside0 (kq≤k)∧Aside0 (IsS54 w0 wc g x1000_2 x1001_2)∧Aside0 (KeepBut w wc g none)∧Aside0 (Below w0.heap.size w0 wc))
 case first =>
  have H:=HC3.out
  clear HC3
  replace H:=Option.bind_eq_some_iff.mp H
  obtain ⟨⟨t123,t124,t125⟩,A50,H⟩:=H
  replace H:(if t123=true then (rN.j0 k false t124 t125) else ((rD.f k t124 t125).bind fun bt126=>(rN.j0 k (!bt126.1) bt126.2.1 bt126.2.2)))=some (r1,r2,r3):=H
  have A5:=Ak A50
  clear A50
  by_cases c6:t123=true
  ·
   subst c6
   have H1:(rN.j0 k false t124 t125)=some (r1,r2,r3):=by rw [if_pos rfl] at H;exact H
   clear H
   have H:=H1
   clear H1
   have H':=Ak H
   clear H
   go_wp2_with (first|((with_reducible refine gate_callee (f:=43) rfl ?_);refine goesL_ (some 6) rfl rfl Try.func43 (by kernel_rfl) rfl #[.pointer (some ⟨g,0,none⟩), .int .u8 48] rfl oM ?_;(with_reducible refine (rT.calls g t121 t122 48 true t124 t125 w0 _ ?side1 ?side2 A5.out).mono ?_);(case side1=>exact oI);(case side2=>exact oG);rintro e w7 ⟨rfl,hi,hb,hk⟩;refine ⟨_,rfl,?_⟩;have _:=Ak (KeepBut.trans oK hk (.inl rfl));have _:=Ak (hb);have _:=Ak (hi);clear HK HB HI0;rename_i HK HB HI0;(try clear hb);(try clear hb2);(try clear hk);(try clear hi)))
   go_meet
   case rel=>exact ⟨_,(false),(t124),(t125),oS,H',⟨by first|omega|exact Nat.le_refl _⟩,⟨oI⟩,⟨oK⟩,⟨oG⟩⟩
  replace c6:=Bool.eq_false_iff.mpr c6
  subst c6
  have H1:((rD.f k t124 t125).bind fun bt126=>(rN.j0 k (!bt126.1) bt126.2.1 bt126.2.2))=some (r1,r2,r3):=by rw [if_neg (show ¬ (false=true) by decide)] at H;exact H
  clear H
  have H:=H1
  clear H1
  replace H:=Option.bind_eq_some_iff.mp H
  obtain ⟨⟨t126,t127,t128⟩,A80,H⟩:=H
  replace H:(rN.j0 k (!t126) t127 t128)=some (r1,r2,r3):=H
  have A8:=Ak A80
  clear A80
  have H':=Ak H
  clear H
  go_wp2_with (first|((with_reducible refine gate_callee (f:=43) rfl ?_);refine goesL_ (some 6) rfl rfl Try.func43 (by kernel_rfl) rfl #[.pointer (some ⟨g,0,none⟩), .int .u8 48] rfl oM ?_;(with_reducible refine (rT.calls g t121 t122 48 false t124 t125 w0 _ ?side1 ?side2 A5.out).mono ?_);(case side1=>exact oI);(case side2=>exact oG);rintro e w9 ⟨rfl,hi,hb,hk⟩;refine ⟨_,rfl,?_⟩;have _:=Ak (KeepBut.trans oK hk (.inl rfl));have _:=Ak (hb);have _:=Ak (hi);clear HK HB HI0;rename_i HK HB HI0;(try clear hb);(try clear hb2);(try clear hk);(try clear hi))|(go_at_call 45;(with_reducible refine (rD.calls k g t124 t125 t126 t127 t128 w0 _ ?side1 ?side2 A8.out).mono ?_);(case side1=>exact oI);(case side2=>exact oG);rintro e w10 ⟨rfl,hi,hb,hk⟩;have _:=Ak (KeepBut.trans oK hk (.inl rfl));have _:=Ak (hb);have _:=Ak (hi);clear HK HB HI0;rename_i HK HB HI0;(try clear hb);(try clear hb2);(try clear hk);(try clear hi)))
  go_meet
  case rel=>exact ⟨_,(!t126),(t127),(t128),oS,H',⟨by first|omega|exact Nat.le_refl _⟩,⟨oI⟩,⟨oK⟩,⟨oG⟩⟩
 case rest =>
 clear HC3
 obtain ⟨kq,x12_2,x1000_2,x1001_2,rfl,HA,HJ2,HI0,HK,HB⟩:=hcut
 cases kq with
 | zero=>exact absurd HA.out (by simp [rN.j0])
 | succ kj2 =>
  have H:=HA.out
  clear HA
  simp only [rN.j0] at H
  by_cases c11:x12_2=true
  ·
   subst c11
   have H1:(some (false,x1000_2,x1001_2))=some (r1,r2,r3):=by rw [if_pos rfl] at H;exact H
   clear H
   have H:=H1
   clear H1
   simp only [Option.some.injEq,Prod.mk.injEq] at H
   obtain ⟨rfl,rfl,rfl⟩:=H
   go_wp2
   go_ret
   exact ⟨oE,oI,oG,oK⟩
  replace c11:=Bool.eq_false_iff.mpr c11
  subst c11
  have H1:((rT.f x1000_2 x1001_2 46).bind fun bt129=>(if bt129.1=true then ((rD.f kj2 bt129.2.1 bt129.2.2).bind fun bt132=>(rN.j1 kj2 (!bt132.1) bt132.2.1 bt132.2.2)) else (rN.j1 kj2 false bt129.2.1 bt129.2.2)))=some (r1,r2,r3):=by rw [if_neg (show ¬ (false=true) by decide)] at H;exact H
  clear H
  have H:=H1
  clear H1
  have HC12:=Ak H
  clear H
  go_upto_region 4 with (fail)
  go_cut [19] (fun v19 wc => ∃ (kq:Nat) (x19_11:Bool) (x1000_11:ByteArray) (x1001_11:Int),v19 = .bool x19_11∧Aside0 (rN.j1 kq x19_11 x1000_11 x1001_11=some (r1,r2,r3))∧Aside0 (kq≤kj2)∧Aside0 (IsS54 w0 wc g x1000_11 x1001_11)∧Aside0 (KeepBut w wc g none)∧Aside0 (Below w0.heap.size w0 wc))
  case first =>
   have H:=HC12.out
   clear HC12
   replace H:=Option.bind_eq_some_iff.mp H
   obtain ⟨⟨t129,t130,t131⟩,A130,H⟩:=H
   replace H:(if t129=true then ((rD.f kj2 t130 t131).bind fun bt132=>(rN.j1 kj2 (!bt132.1) bt132.2.1 bt132.2.2)) else (rN.j1 kj2 false t130 t131))=some (r1,r2,r3):=H
   have A13:=Ak A130
   clear A130
   by_cases c14:t129=true
   rotate_left
   ·
    replace c14:=Bool.eq_false_iff.mpr c14
    subst c14
    have H1:(rN.j1 kj2 false t130 t131)=some (r1,r2,r3):=by rw [if_neg (show ¬ (false=true) by decide)] at H;exact H
    clear H
    have H:=H1
    clear H1
    have H':=Ak H
    clear H
    go_wp2_with (first|((with_reducible refine gate_callee (f:=43) rfl ?_);refine goesL_ (some 14) rfl rfl Try.func43 (by kernel_rfl) rfl #[.pointer (some ⟨g,0,none⟩), .int .u8 46] rfl oM ?_;(with_reducible refine (rT.calls g x1000_2 x1001_2 46 false t130 t131 w0 _ ?side1 ?side2 A13.out).mono ?_);(case side1=>exact oI);(case side2=>exact oG);rintro e w18 ⟨rfl,hi,hb,hk⟩;refine ⟨_,rfl,?_⟩;have _:=Ak (KeepBut.trans oK hk (.inl rfl));have _:=Ak (hb);have _:=Ak (hi);clear HK HB HI0;rename_i HK HB HI0;(try clear hb);(try clear hb2);(try clear hk);(try clear hi)))
    go_meet
    case rel=>exact ⟨_,(false),(t130),(t131),oS,H',⟨by have:=HJ2.out;first|omega|exact Nat.le_refl _⟩,⟨oI⟩,⟨oK⟩,⟨oG⟩⟩
   subst c14
   have H1:((rD.f kj2 t130 t131).bind fun bt132=>(rN.j1 kj2 (!bt132.1) bt132.2.1 bt132.2.2))=some (r1,r2,r3):=by rw [if_pos rfl] at H;exact H
   clear H
   have H:=H1
   clear H1
   replace H:=Option.bind_eq_some_iff.mp H
   obtain ⟨⟨t132,t133,t134⟩,A150,H⟩:=H
   replace H:(rN.j1 kj2 (!t132) t133 t134)=some (r1,r2,r3):=H
   have A15:=Ak A150
   clear A150
   have H':=Ak H
   clear H
   go_wp2_with (first|((with_reducible refine gate_callee (f:=43) rfl ?_);refine goesL_ (some 14) rfl rfl Try.func43 (by kernel_rfl) rfl #[.pointer (some ⟨g,0,none⟩), .int .u8 46] rfl oM ?_;(with_reducible refine (rT.calls g x1000_2 x1001_2 46 true t130 t131 w0 _ ?side1 ?side2 A13.out).mono ?_);(case side1=>exact oI);(case side2=>exact oG);rintro e w16 ⟨rfl,hi,hb,hk⟩;refine ⟨_,rfl,?_⟩;have _:=Ak (KeepBut.trans oK hk (.inl rfl));have _:=Ak (hb);have _:=Ak (hi);clear HK HB HI0;rename_i HK HB HI0;(try clear hb);(try clear hb2);(try clear hk);(try clear hi))|(go_at_call 45;(with_reducible refine (rD.calls kj2 g t130 t131 t132 t133 t134 w0 _ ?side1 ?side2 A15.out).mono ?_);(case side1=>exact oI);(case side2=>exact oG);rintro e w17 ⟨rfl,hi,hb,hk⟩;have _:=Ak (KeepBut.trans oK hk (.inl rfl));have _:=Ak (hb);have _:=Ak (hi);clear HK HB HI0;rename_i HK HB HI0;(try clear hb);(try clear hb2);(try clear hk);(try clear hi)))
   go_meet
   case rel=>exact ⟨_,(!t132),(t133),(t134),oS,H',⟨by have:=HJ2.out;first|omega|exact Nat.le_refl _⟩,⟨oI⟩,⟨oK⟩,⟨oG⟩⟩
  case rest =>
  clear HC12
  obtain ⟨kq,x19_11,x1000_11,x1001_11,rfl,HA,HJ11,HI0,HK,HB⟩:=hcut
  cases kq with
  | zero=>exact absurd HA.out (by simp [rN.j1])
  | succ kj11 =>
   have H:=HA.out
   clear HA
   simp only [rN.j1] at H
   by_cases c19:x19_11=true
   ·
    subst c19
    have H1:(some (false,x1000_11,x1001_11))=some (r1,r2,r3):=by rw [if_pos rfl] at H;exact H
    clear H
    have H:=H1
    clear H1
    simp only [Option.some.injEq,Prod.mk.injEq] at H
    obtain ⟨rfl,rfl,rfl⟩:=H
    go_wp2
    go_ret
    exact ⟨oE,oI,oG,oK⟩
   replace c19:=Bool.eq_false_iff.mpr c19
   subst c19
   have H1:((rT.f x1000_11 x1001_11 101).bind fun bt135=>(if bt135.1=true then (rN.j2 kj11 true bt135.2.1 bt135.2.2) else ((rT.f bt135.2.1 bt135.2.2 69).bind fun bt138=>(rN.j2 kj11 bt138.1 bt138.2.1 bt138.2.2))))=some (r1,r2,r3):=by rw [if_neg (show ¬ (false=true) by decide)] at H;exact H
   clear H
   have H:=H1
   clear H1
   have HC20:=Ak H
   clear H
   go_upto_region 6 with (fail)
   go_cut [25] (fun v25 wc => ∃ (kq:Nat) (x25_19:Bool) (x1000_19:ByteArray) (x1001_19:Int),v25 = .bool x25_19∧Aside0 (rN.j2 kq x25_19 x1000_19 x1001_19=some (r1,r2,r3))∧Aside0 (kq≤kj11)∧Aside0 (IsS54 w0 wc g x1000_19 x1001_19)∧Aside0 (KeepBut w wc g none)∧Aside0 (Below w0.heap.size w0 wc))
   case first =>
    have H:=HC20.out
    clear HC20
    replace H:=Option.bind_eq_some_iff.mp H
    obtain ⟨⟨t135,t136,t137⟩,A210,H⟩:=H
    replace H:(if t135=true then (rN.j2 kj11 true t136 t137) else ((rT.f t136 t137 69).bind fun bt138=>(rN.j2 kj11 bt138.1 bt138.2.1 bt138.2.2)))=some (r1,r2,r3):=H
    have A21:=Ak A210
    clear A210
    by_cases c22:t135=true
    ·
     subst c22
     have H1:(rN.j2 kj11 true t136 t137)=some (r1,r2,r3):=by rw [if_pos rfl] at H;exact H
     clear H
     have H:=H1
     clear H1
     have H':=Ak H
     clear H
     go_wp2_with (first|((with_reducible refine gate_callee (f:=43) rfl ?_);refine goesL_ (some 21) rfl rfl Try.func43 (by kernel_rfl) rfl #[.pointer (some ⟨g,0,none⟩), .int .u8 101] rfl oM ?_;(with_reducible refine (rT.calls g x1000_11 x1001_11 101 true t136 t137 w0 _ ?side1 ?side2 A21.out).mono ?_);(case side1=>exact oI);(case side2=>exact oG);rintro e w23 ⟨rfl,hi,hb,hk⟩;refine ⟨_,rfl,?_⟩;have _:=Ak (KeepBut.trans oK hk (.inl rfl));have _:=Ak (hb);have _:=Ak (hi);clear HK HB HI0;rename_i HK HB HI0;(try clear hb);(try clear hb2);(try clear hk);(try clear hi)))
     go_meet
     case rel=>exact ⟨_,(true),(t136),(t137),oS,H',⟨by have:=HJ2.out;have:=HJ11.out;first|omega|exact Nat.le_refl _⟩,⟨oI⟩,⟨oK⟩,⟨oG⟩⟩
    replace c22:=Bool.eq_false_iff.mpr c22
    subst c22
    have H1:((rT.f t136 t137 69).bind fun bt138=>(rN.j2 kj11 bt138.1 bt138.2.1 bt138.2.2))=some (r1,r2,r3):=by rw [if_neg (show ¬ (false=true) by decide)] at H;exact H
    clear H
    have H:=H1
    clear H1
    replace H:=Option.bind_eq_some_iff.mp H
    obtain ⟨⟨t138,t139,t140⟩,A240,H⟩:=H
    replace H:(rN.j2 kj11 t138 t139 t140)=some (r1,r2,r3):=H
    have A24:=Ak A240
    clear A240
    have H':=Ak H
    clear H
    go_wp2_with (first|((with_reducible refine gate_callee (f:=43) rfl ?_);refine goesL_ (some 21) rfl rfl Try.func43 (by kernel_rfl) rfl #[.pointer (some ⟨g,0,none⟩), .int .u8 101] rfl oM ?_;(with_reducible refine (rT.calls g x1000_11 x1001_11 101 false t136 t137 w0 _ ?side1 ?side2 A21.out).mono ?_);(case side1=>exact oI);(case side2=>exact oG);rintro e w25 ⟨rfl,hi,hb,hk⟩;refine ⟨_,rfl,?_⟩;have _:=Ak (KeepBut.trans oK hk (.inl rfl));have _:=Ak (hb);have _:=Ak (hi);clear HK HB HI0;rename_i HK HB HI0;(try clear hb);(try clear hb2);(try clear hk);(try clear hi))|(go_at_call 43;(with_reducible refine (rT.calls g t136 t137 69 t138 t139 t140 w0 _ ?side1 ?side2 A24.out).mono ?_);(case side1=>exact oI);(case side2=>exact oG);rintro e w26 ⟨rfl,hi,hb,hk⟩;have _:=Ak (KeepBut.trans oK hk (.inl rfl));have _:=Ak (hb);have _:=Ak (hi);clear HK HB HI0;rename_i HK HB HI0;(try clear hb);(try clear hb2);(try clear hk);(try clear hi)))
    go_meet
    case rel=>exact ⟨_,(t138),(t139),(t140),oS,H',⟨by have:=HJ2.out;have:=HJ11.out;first|omega|exact Nat.le_refl _⟩,⟨oI⟩,⟨oK⟩,⟨oG⟩⟩
   case rest =>
   clear HC20
   obtain ⟨kq,x25_19,x1000_19,x1001_19,rfl,HA,HJ19,HI0,HK,HB⟩:=hcut
   cases kq with
   | zero=>exact absurd HA.out (by simp [rN.j2])
   | succ kj19 =>
    have H:=HA.out
    clear HA
    simp only [rN.j2] at H
    by_cases c27:x25_19=true
    rotate_left
    ·
     replace c27:=Bool.eq_false_iff.mpr c27
     subst c27
     have H1:(some (true,x1000_19,x1001_19))=some (r1,r2,r3):=by rw [if_neg (show ¬ (false=true) by decide)] at H;exact H
     clear H
     have H:=H1
     clear H1
     simp only [Option.some.injEq,Prod.mk.injEq] at H
     obtain ⟨rfl,rfl,rfl⟩:=H
     go_wp2
     go_ret
     exact ⟨oE,oI,oG,oK⟩
    subst c27
    have H1:((rT.f x1000_19 x1001_19 43).bind fun bt141=>(if bt141.1=true then ((rD.f kj19 bt141.2.1 bt141.2.2).bind fun bt144=>(some (bt144.1,bt144.2.1,bt144.2.2))) else ((rT.f bt141.2.1 bt141.2.2 45).bind fun bt147=>((rD.f kj19 bt147.2.1 bt147.2.2).bind fun bt150=>(some (bt150.1,bt150.2.1,bt150.2.2))))))=some (r1,r2,r3):=by rw [if_pos rfl] at H;exact H
    clear H
    have H:=H1
    clear H1
    replace H:=Option.bind_eq_some_iff.mp H
    obtain ⟨⟨t141,t142,t143⟩,A280,H⟩:=H
    replace H:(if t141=true then ((rD.f kj19 t142 t143).bind fun bt144=>(some (bt144.1,bt144.2.1,bt144.2.2))) else ((rT.f t142 t143 45).bind fun bt147=>((rD.f kj19 bt147.2.1 bt147.2.2).bind fun bt150=>(some (bt150.1,bt150.2.1,bt150.2.2)))))=some (r1,r2,r3):=H
    have A28:=Ak A280
    clear A280
    by_cases c29:t141=true
    ·
     subst c29
     have H1:((rD.f kj19 t142 t143).bind fun bt144=>(some (bt144.1,bt144.2.1,bt144.2.2)))=some (r1,r2,r3):=by rw [if_pos rfl] at H;exact H
     clear H
     have H:=H1
     clear H1
     replace H:=Option.bind_eq_some_iff.mp H
     obtain ⟨⟨t144,t145,t146⟩,A300,H⟩:=H
     replace H:(some (t144,t145,t146))=some (r1,r2,r3):=H
     have A30:=Ak A300
     clear A300
     simp only [Option.some.injEq,Prod.mk.injEq] at H
     obtain ⟨rfl,rfl,rfl⟩:=H
     go_wp2_with (first|((with_reducible refine gate_callee (f:=43) rfl ?_);refine goesL_ (some 27) rfl rfl Try.func43 (by kernel_rfl) rfl #[.pointer (some ⟨g,0,none⟩), .int .u8 43] rfl oM ?_;(with_reducible refine (rT.calls g x1000_19 x1001_19 43 true t142 t143 w0 _ ?side1 ?side2 A28.out).mono ?_);(case side1=>exact oI);(case side2=>exact oG);rintro e w31 ⟨rfl,hi,hb,hk⟩;refine ⟨_,rfl,?_⟩;have _:=Ak (KeepBut.trans oK hk (.inl rfl));have _:=Ak (hb);have _:=Ak (hi);clear HK HB HI0;rename_i HK HB HI0;(try clear hb);(try clear hb2);(try clear hk);(try clear hi))|((with_reducible refine gate_callee (f:=45) rfl ?_);refine goesL_ (some 32) rfl rfl Try.func45 (by kernel_rfl) rfl #[.pointer (some ⟨g,0,none⟩)] rfl oM ?_;(with_reducible refine (rD.calls kj19 g t142 t143 t144 t145 t146 w0 _ ?side1 ?side2 A30.out).mono ?_);(case side1=>exact oI);(case side2=>exact oG);rintro e w32 ⟨rfl,hi,hb,hk⟩;refine ⟨_,rfl,?_⟩;have _:=Ak (KeepBut.trans oK hk (.inl rfl));have _:=Ak (hb);have _:=Ak (hi);clear HK HB HI0;rename_i HK HB HI0;(try clear hb);(try clear hb2);(try clear hk);(try clear hi)))
     go_ret
     exact ⟨oE,oI,oG,oK⟩
    replace c29:=Bool.eq_false_iff.mpr c29
    subst c29
    have H1:((rT.f t142 t143 45).bind fun bt147=>((rD.f kj19 bt147.2.1 bt147.2.2).bind fun bt150=>(some (bt150.1,bt150.2.1,bt150.2.2))))=some (r1,r2,r3):=by rw [if_neg (show ¬ (false=true) by decide)] at H;exact H
    clear H
    have H:=H1
    clear H1
    replace H:=Option.bind_eq_some_iff.mp H
    obtain ⟨⟨t147,t148,t149⟩,A330,H⟩:=H
    replace H:((rD.f kj19 t148 t149).bind fun bt150=>(some (bt150.1,bt150.2.1,bt150.2.2)))=some (r1,r2,r3):=H
    have A33:=Ak A330
    clear A330
    replace H:=Option.bind_eq_some_iff.mp H
    obtain ⟨⟨t150,t151,t152⟩,A340,H⟩:=H
    replace H:(some (t150,t151,t152))=some (r1,r2,r3):=H
    have A34:=Ak A340
    clear A340
    simp only [Option.some.injEq,Prod.mk.injEq] at H
    obtain ⟨rfl,rfl,rfl⟩:=H
    go_wp2_with (first|((with_reducible refine gate_callee (f:=43) rfl ?_);refine goesL_ (some 27) rfl rfl Try.func43 (by kernel_rfl) rfl #[.pointer (some ⟨g,0,none⟩), .int .u8 43] rfl oM ?_;(with_reducible refine (rT.calls g x1000_19 x1001_19 43 false t142 t143 w0 _ ?side1 ?side2 A28.out).mono ?_);(case side1=>exact oI);(case side2=>exact oG);rintro e w35 ⟨rfl,hi,hb,hk⟩;refine ⟨_,rfl,?_⟩;have _:=Ak (KeepBut.trans oK hk (.inl rfl));have _:=Ak (hb);have _:=Ak (hi);clear HK HB HI0;rename_i HK HB HI0;(try clear hb);(try clear hb2);(try clear hk);(try clear hi))|((with_reducible refine gate_callee (f:=43) rfl ?_);refine goesL_ (some 30) rfl rfl Try.func43 (by kernel_rfl) rfl #[.pointer (some ⟨g,0,none⟩), .int .u8 45] rfl oM ?_;(with_reducible refine (rT.calls g t142 t143 45 t147 t148 t149 w0 _ ?side1 ?side2 A33.out).mono ?_);(case side1=>exact oI);(case side2=>exact oG);rintro e w36 ⟨rfl,hi,hb,hk⟩;refine ⟨_,rfl,?_⟩;have _:=Ak (KeepBut.trans oK hk (.inl rfl));have _:=Ak (hb);have _:=Ak (hi);clear HK HB HI0;rename_i HK HB HI0;(try clear hb);(try clear hb2);(try clear hk);(try clear hi))|((with_reducible refine gate_callee (f:=45) rfl ?_);refine goesL_ (some 32) rfl rfl Try.func45 (by kernel_rfl) rfl #[.pointer (some ⟨g,0,none⟩)] rfl oM ?_;(with_reducible refine (rD.calls kj19 g t148 t149 t150 t151 t152 w0 _ ?side1 ?side2 A34.out).mono ?_);(case side1=>exact oI);(case side2=>exact oG);rintro e w37 ⟨rfl,hi,hb,hk⟩;refine ⟨_,rfl,?_⟩;have _:=Ak (KeepBut.trans oK hk (.inl rfl));have _:=Ak (hb);have _:=Ak (hi);clear HK HB HI0;rename_i HK HB HI0;(try clear hb);(try clear hb2);(try clear hk);(try clear hi)))
    go_ret
    exact ⟨oE,oI,oG,oK⟩
/-! ### rW: function 37 -/
def rW.f (s0_0:ByteArray) (s0_1:Int) (a1:ByteArray):Option (Bool × ByteArray × Int):=if (wrap64 ((s0_0.size:Int) - s0_1))<(a1.size:Int) then (some (false,s0_0,s0_1)) else (if 0≤s0_1 then (if s0_1≤(wrap64 (s0_1+(a1.size:Int))) then (if (wrap64 (s0_1+(a1.size:Int)))≤(s0_0.size:Int) then (if (s0_0.extract (s0_1:Int).toNat ((wrap64 (s0_1+(a1.size:Int))):Int).toNat).toList=a1.toList then (some (true,s0_0,wrap64 (s0_1+(a1.size:Int)))) else (some (false,s0_0,s0_1))) else (none)) else (none)) else (none))
set_option maxHeartbeats 8000000 in
set_option maxRecDepth 100000 in
theorem rW.calls (g:Nat) (s0_0:ByteArray) (s0_1:Int) (a1:ByteArray) (r1:Bool) (r2:ByteArray) (r3:Int) (w0 w:World) (hI:IsS54 w0 w g s0_0 s0_1) (hB:Below w0.heap.size w0 w) (h:rW.f s0_0 s0_1 a1=some (r1,r2,r3)) :
 Calls Try.prog 37 #[.pointer (some ⟨g,0,none⟩), .string a1] w fun e w'=>e = .returned (.bool r1)∧IsS54 w0 w' g r2 r3∧Below w0.heap.size w0 w'∧KeepBut w w' g none:=by
 have HI0:=Ak hI
 have HK:=Ak (KeepBut.refl w g none)
 have HL:=Ak hB.size
 clear hI
 have HW0:=Ak hB.size
 have HB:=Ak hB
 clear hB
 have H:(if (wrap64 ((s0_0.size:Int) - s0_1))<(a1.size:Int) then (some (false,s0_0,s0_1)) else (if 0≤s0_1 then (if s0_1≤(wrap64 (s0_1+(a1.size:Int))) then (if (wrap64 (s0_1+(a1.size:Int)))≤(s0_0.size:Int) then (if (s0_0.extract (s0_1:Int).toNat ((wrap64 (s0_1+(a1.size:Int))):Int).toNat).toList=a1.toList then (some (true,s0_0,wrap64 (s0_1+(a1.size:Int)))) else (some (false,s0_0,s0_1))) else (none)) else (none)) else (none)))=some (r1,r2,r3):=h
 clear h
 by_cases c3:(wrap64 ((s0_0.size:Int) - s0_1))<(a1.size:Int)
 ·
  rw [if_pos c3] at H
  have c3b0:decide ((wrap64 ((s0_0.size:Int) - s0_1))<(a1.size:Int))=true:=decide_eq_true c3
  clear c3
  simp only [Option.some.injEq,Prod.mk.injEq] at H
  obtain ⟨rfl,rfl,rfl⟩:=H
  obtain ⟨HGz4,hgz4⟩:=HI0.out
  have hcz4_0:=cellS54_0 HGz4
  have hcz4_1:=cellS54_1 HGz4
  have hfz4_0:=blk_frozen HGz4 0
  have hfz4_1:=blk_frozen HGz4 1
  clear HGz4 hgz4
  go_enter Try.func37,Try.ntmps37
  go_wp2
  repeat (go_quiet (fail);try go_wp2)
  go_ret
  exact ⟨oE,oI,oG,oK⟩
 rw [if_neg c3] at H
 have c3b0:decide ((wrap64 ((s0_0.size:Int) - s0_1))<(a1.size:Int))=false:=decide_eq_false c3
 clear c3
 by_cases c5:0≤s0_1
 ·
  rw [if_pos c5] at H
  have c5b0:=eq_true c5
  have c5b1:decide (0≤s0_1)=true:=decide_eq_true c5
  clear c5
  by_cases c6:s0_1≤(wrap64 (s0_1+(a1.size:Int)))
  rotate_left
  ·
   rw [if_neg c6] at H
   exact absurd H (by simp)
  rw [if_pos c6] at H
  have c6b0:=eq_true c6
  have c6b1:decide (s0_1≤(wrap64 (s0_1+(a1.size:Int))))=true:=decide_eq_true c6
  by_cases c7:(wrap64 (s0_1+(a1.size:Int)))≤(s0_0.size:Int)
  ·
   rw [if_pos c7] at H
   have c7b0:=eq_true c7
   have c7b1:decide ((wrap64 (s0_1+(a1.size:Int)))≤(s0_0.size:Int))=true:=decide_eq_true c7
   by_cases c8:(s0_0.extract (s0_1:Int).toNat ((wrap64 (s0_1+(a1.size:Int))):Int).toNat).toList=a1.toList
   ·
    rw [if_pos c8] at H
    have c8b0:((s0_0.extract (s0_1:Int).toNat ((wrap64 (s0_1+(a1.size:Int))):Int).toNat).toList == a1.toList)=true:=beq_iff_eq.mpr c8
    have c8b1:((s0_0.extract (s0_1:Int).toNat ((wrap64 (s0_1+(a1.size:Int))):Int).toNat).toList != a1.toList)=false:=bne_eq_false_iff_eq.mpr c8
    clear c8
    simp only [Option.some.injEq,Prod.mk.injEq] at H
    obtain ⟨rfl,rfl,rfl⟩:=H
    obtain ⟨HGz9,hgz9⟩:=HI0.out
    have hcz9_0:=cellS54_0 HGz9
    have hcz9_1:=cellS54_1 HGz9
    have hfz9_0:=blk_frozen HGz9 0
    have hfz9_1:=blk_frozen HGz9 1
    clear HGz9 hgz9
    go_enter Try.func37,Try.ntmps37
    go_wp2
    repeat (go_quiet (fail);try go_wp2)
    go_ret
    exact ⟨oE,oI,oG,oK⟩
   rw [if_neg c8] at H
   have c8b0:((s0_0.extract (s0_1:Int).toNat ((wrap64 (s0_1+(a1.size:Int))):Int).toNat).toList == a1.toList)=false:=beq_eq_false_iff_ne.mpr c8
   have c8b1:((s0_0.extract (s0_1:Int).toNat ((wrap64 (s0_1+(a1.size:Int))):Int).toNat).toList != a1.toList)=true:=bne_iff_ne.mpr c8
   simp only [Option.some.injEq,Prod.mk.injEq] at H
   obtain ⟨rfl,rfl,rfl⟩:=H
   obtain ⟨HGz10,hgz10⟩:=HI0.out
   have hcz10_0:=cellS54_0 HGz10
   have hcz10_1:=cellS54_1 HGz10
   have hfz10_0:=blk_frozen HGz10 0
   have hfz10_1:=blk_frozen HGz10 1
   clear HGz10 hgz10
   go_enter Try.func37,Try.ntmps37
   go_wp2
   repeat (go_quiet (fail);try go_wp2)
   go_ret
   exact ⟨oE,oI,oG,oK⟩
  rw [if_neg c7] at H
  exact absurd H (by simp)
 rw [if_neg c5] at H
 exact absurd H (by simp)
/-! ### rV: function 20 -/
/-! ### rM: function 33 -/
/-! ### rE: function 34 -/
mutual
def rV.j0:Nat→Bool→Bool→ByteArray→Int→Int→Int→Int→Option (Int × Int × Int × (List (S52)) × (List (S28)) × Bool × ByteArray × Int)
  | 0,_,_,_,_,_,_,_=>none
  | k+1,x5,x42,x1000,x1001,xz0000,xz0001,xz0002=>if x42=true then ((rN.f k x1000 x1001).bind fun btz1=>(some (3,xz0001,btz1.2.2,([]:List (S52)),([]:List (S28)),btz1.1,btz1.2.1,btz1.2.2))) else ((rW.f x1000 x1001 (⟨#[110,117,108,108]⟩:ByteArray)).bind fun btz2=>(if btz2.1=true then (some (0,xz0001,btz2.2.2,([]:List (S52)),([]:List (S28)),x5,btz2.2.1,btz2.2.2)) else ((rW.f btz2.2.1 btz2.2.2 (⟨#[102,97,108,115,101]⟩:ByteArray)).bind fun btz3=>(if btz3.1=true then (some (1,xz0001,btz3.2.2,([]:List (S52)),([]:List (S28)),x5,btz3.2.1,btz3.2.2)) else ((rW.f btz3.2.1 btz3.2.2 (⟨#[116,114,117,101]⟩:ByteArray)).bind fun btz4=>(if btz4.1=true then (some (2,xz0001,btz4.2.2,([]:List (S52)),([]:List (S28)),x5,btz4.2.1,btz4.2.2)) else (some (xz0000,xz0001,btz4.2.2,([]:List (S52)),([]:List (S28)),false,btz4.2.1,btz4.2.2))))))))
def rV.f:Nat→ByteArray→Int→Option (Int × Int × Int × (List (S52)) × (List (S28)) × Bool × ByteArray × Int)
  | 0,_,_=>none
  | k+1,s0_0,s0_1=>(rH.f s0_0 s0_1).bind fun btz0=>(if btz0.1=123 then ((rM.f k btz0.2.1 btz0.2.2).bind fun btz1=>(some (6,s0_1,btz1.2.2.2.2,btz1.1,btz1.2.1,btz1.2.2.1,btz1.2.2.2.1,btz1.2.2.2.2))) else (if btz0.1=91 then ((rE.f k btz0.2.1 btz0.2.2).bind fun btz2=>(some (5,s0_1,btz2.2.2.2,([]:List (S52)),btz2.1,btz2.2.1,btz2.2.2.1,btz2.2.2.2))) else (if btz0.1=34 then ((rQ.f k btz0.2.1 btz0.2.2).bind fun btz3=>(some (4,s0_1,btz3.2.2,([]:List (S52)),([]:List (S28)),btz3.1,btz3.2.1,btz3.2.2))) else (if btz0.1=45 then (rV.j0 k true true btz0.2.1 btz0.2.2 0 s0_1 0) else (if 48≤btz0.1 then (rV.j0 k true (decide (btz0.1≤57)) btz0.2.1 btz0.2.2 0 s0_1 0) else (rV.j0 k true false btz0.2.1 btz0.2.2 0 s0_1 0))))))
def rM.l0:Nat→List (S52)→List (S28)→ByteArray→Int→Option ((List (S52)) × (List (S28)) × Bool × ByteArray × Int)
  | 0,_,_,_,_=>none
  | k+1,x5,x6,x1000,x1001=>(rH.f x1000 x1001).bind fun btz0=>(if btz0.1=34 then ((rQ.f k btz0.2.1 btz0.2.2).bind fun btz1=>(rM.j1 k x5 x6 x1001 (!btz1.1) btz1.2.1 btz1.2.2)) else (rM.j1 k x5 x6 x1001 true btz0.2.1 btz0.2.2))
def rM.j1:Nat→List (S52)→List (S28)→Int→Bool→ByteArray→Int→Option ((List (S52)) × (List (S28)) × Bool × ByteArray × Int)
  | 0,_,_,_,_,_,_=>none
  | k+1,x5,x6,x7,x32,x1000,x1001=>if x32=true then (some (([]:List (S52)),([]:List (S28)),false,x1000,x1001)) else (if x5.length<8796093022208 then ((some (x5++[(⟨x7,x1001⟩:S52)]:List (S52))).bind fun yz0=>((rB.f k x1000 x1001).bind fun btz1=>((rT.f btz1.1 btz1.2 58).bind fun btz2=>(if btz2.1=true then ((rB.f k btz2.2.1 btz2.2.2).bind fun btz3=>((rV.f k btz3.1 btz3.2).bind fun btz4=>(if btz4.2.2.2.2.2.1=true then (if x6.length<1954687338268 then ((some (x6++[(⟨btz4.1,btz4.2.1,btz4.2.2.1,btz4.2.2.2.1,btz4.2.2.2.2.1⟩:S28)]:List (S28))).bind fun yz5=>((rB.f k btz4.2.2.2.2.2.2.1 btz4.2.2.2.2.2.2.2).bind fun btz6=>((rT.f btz6.1 btz6.2 125).bind fun btz7=>(if btz7.1=true then (some (yz0,yz5,true,btz7.2.1,btz7.2.2)) else ((rT.f btz7.2.1 btz7.2.2 44).bind fun btz8=>(if btz8.1=true then ((rB.f k btz8.2.1 btz8.2.2).bind fun btz9=>(rM.l0 k yz0 yz5 btz9.1 btz9.2)) else (some (([]:List (S52)),([]:List (S28)),false,btz8.2.1,btz8.2.2)))))))) else (none)) else (some (([]:List (S52)),([]:List (S28)),false,btz4.2.2.2.2.2.2.1,btz4.2.2.2.2.2.2.2))))) else (some (([]:List (S52)),([]:List (S28)),false,btz2.2.1,btz2.2.2)))))) else (none))
def rM.f:Nat→ByteArray→Int→Option ((List (S52)) × (List (S28)) × Bool × ByteArray × Int)
  | 0,_,_=>none
  | k+1,s0_0,s0_1=>(rB.f k s0_0 (wrap64 (s0_1+1))).bind fun btz0=>((rT.f btz0.1 btz0.2 125).bind fun btz1=>(if btz1.1=true then (some (([]:List (S52)),([]:List (S28)),true,btz1.2.1,btz1.2.2)) else (rM.l0 k ([]:List (S52)) ([]:List (S28)) btz1.2.1 btz1.2.2)))
def rE.l0:Nat→List (S28)→ByteArray→Int→Option ((List (S28)) × Bool × ByteArray × Int)
  | 0,_,_,_=>none
  | k+1,x4,x1000,x1001=>(rV.f k x1000 x1001).bind fun btz0=>(if btz0.2.2.2.2.2.1=true then (if x4.length<1954687338268 then ((some (x4++[(⟨btz0.1,btz0.2.1,btz0.2.2.1,btz0.2.2.2.1,btz0.2.2.2.2.1⟩:S28)]:List (S28))).bind fun yz1=>((rB.f k btz0.2.2.2.2.2.2.1 btz0.2.2.2.2.2.2.2).bind fun btz2=>((rT.f btz2.1 btz2.2 93).bind fun btz3=>(if btz3.1=true then (some (yz1,true,btz3.2.1,btz3.2.2)) else ((rT.f btz3.2.1 btz3.2.2 44).bind fun btz4=>(if btz4.1=true then ((rB.f k btz4.2.1 btz4.2.2).bind fun btz5=>(rE.l0 k yz1 btz5.1 btz5.2)) else (some (([]:List (S28)),false,btz4.2.1,btz4.2.2)))))))) else (none)) else (some (([]:List (S28)),false,btz0.2.2.2.2.2.2.1,btz0.2.2.2.2.2.2.2)))
def rE.f:Nat→ByteArray→Int→Option ((List (S28)) × Bool × ByteArray × Int)
  | 0,_,_=>none
  | k+1,s0_0,s0_1=>(rB.f k s0_0 (wrap64 (s0_1+1))).bind fun btz0=>((rT.f btz0.1 btz0.2 93).bind fun btz1=>(if btz1.1=true then (some (([]:List (S28)),true,btz1.2.1,btz1.2.2)) else (rE.l0 k ([]:List (S28)) btz1.2.1 btz1.2.2)))
end
theorem grp_rV.mono_l : ∀ k,(∀ y0 y1,LeO (rV.f k y0 y1) (rV.f (k+1) y0 y1))∧(∀ y0 y1 y2 y3 y4 y5 y6,LeO (rV.j0 k y0 y1 y2 y3 y4 y5 y6) (rV.j0 (k+1) y0 y1 y2 y3 y4 y5 y6))∧(∀ y0 y1,LeO (rM.f k y0 y1) (rM.f (k+1) y0 y1))∧(∀ y0 y1 y2 y3,LeO (rM.l0 k y0 y1 y2 y3) (rM.l0 (k+1) y0 y1 y2 y3))∧(∀ y0 y1 y2 y3 y4 y5,LeO (rM.j1 k y0 y1 y2 y3 y4 y5) (rM.j1 (k+1) y0 y1 y2 y3 y4 y5))∧(∀ y0 y1,LeO (rE.f k y0 y1) (rE.f (k+1) y0 y1))∧(∀ y0 y1 y2,LeO (rE.l0 k y0 y1 y2) (rE.l0 (k+1) y0 y1 y2))
  | 0=>⟨fun _ _ r h=>by simp [rV.f] at h,fun _ _ _ _ _ _ _ r h=>by simp [rV.j0] at h,fun _ _ r h=>by simp [rM.f] at h,fun _ _ _ _ r h=>by simp [rM.l0] at h,fun _ _ _ _ _ _ r h=>by simp [rM.j1] at h,fun _ _ r h=>by simp [rE.f] at h,fun _ _ _ r h=>by simp [rE.l0] at h⟩
  | k+1=>by
    obtain ⟨ih0,ih1,ih2,ih3,ih4,ih5,ih6⟩:=grp_rV.mono_l k
    refine ⟨?_,?_,?_,?_,?_,?_,?_⟩
    · intro y0 y1
      unfold rV.f
      repeat' first|(with_reducible first|apply ih0|apply ih1|apply ih2|apply ih3|apply ih4|apply ih5|apply ih6|apply rB.mono|apply rN.mono|apply rQ.mono|apply LeO.refl|apply LeO.none|refine LeO.ite ?_ ?_|refine LeO.bind ?_ (fun _=>?_))|apply ih0|apply ih1|apply ih2|apply ih3|apply ih4|apply ih5|apply ih6|apply rB.mono|apply rN.mono|apply rQ.mono|apply LeO.none|refine LeO.ite ?_ ?_|refine LeO.bind ?_ (fun _=>?_)
    · intro y0 y1 y2 y3 y4 y5 y6
      unfold rV.j0
      repeat' first|(with_reducible first|apply ih0|apply ih1|apply ih2|apply ih3|apply ih4|apply ih5|apply ih6|apply rB.mono|apply rN.mono|apply rQ.mono|apply LeO.refl|apply LeO.none|refine LeO.ite ?_ ?_|refine LeO.bind ?_ (fun _=>?_))|apply ih0|apply ih1|apply ih2|apply ih3|apply ih4|apply ih5|apply ih6|apply rB.mono|apply rN.mono|apply rQ.mono|apply LeO.none|refine LeO.ite ?_ ?_|refine LeO.bind ?_ (fun _=>?_)
    · intro y0 y1
      unfold rM.f
      repeat' first|(with_reducible first|apply ih0|apply ih1|apply ih2|apply ih3|apply ih4|apply ih5|apply ih6|apply rB.mono|apply rN.mono|apply rQ.mono|apply LeO.refl|apply LeO.none|refine LeO.ite ?_ ?_|refine LeO.bind ?_ (fun _=>?_))|apply ih0|apply ih1|apply ih2|apply ih3|apply ih4|apply ih5|apply ih6|apply rB.mono|apply rN.mono|apply rQ.mono|apply LeO.none|refine LeO.ite ?_ ?_|refine LeO.bind ?_ (fun _=>?_)
    · intro y0 y1 y2 y3
      unfold rM.l0
      repeat' first|(with_reducible first|apply ih0|apply ih1|apply ih2|apply ih3|apply ih4|apply ih5|apply ih6|apply rB.mono|apply rN.mono|apply rQ.mono|apply LeO.refl|apply LeO.none|refine LeO.ite ?_ ?_|refine LeO.bind ?_ (fun _=>?_))|apply ih0|apply ih1|apply ih2|apply ih3|apply ih4|apply ih5|apply ih6|apply rB.mono|apply rN.mono|apply rQ.mono|apply LeO.none|refine LeO.ite ?_ ?_|refine LeO.bind ?_ (fun _=>?_)
    · intro y0 y1 y2 y3 y4 y5
      unfold rM.j1
      repeat' first|(with_reducible first|apply ih0|apply ih1|apply ih2|apply ih3|apply ih4|apply ih5|apply ih6|apply rB.mono|apply rN.mono|apply rQ.mono|apply LeO.refl|apply LeO.none|refine LeO.ite ?_ ?_|refine LeO.bind ?_ (fun _=>?_))|apply ih0|apply ih1|apply ih2|apply ih3|apply ih4|apply ih5|apply ih6|apply rB.mono|apply rN.mono|apply rQ.mono|apply LeO.none|refine LeO.ite ?_ ?_|refine LeO.bind ?_ (fun _=>?_)
    · intro y0 y1
      unfold rE.f
      repeat' first|(with_reducible first|apply ih0|apply ih1|apply ih2|apply ih3|apply ih4|apply ih5|apply ih6|apply rB.mono|apply rN.mono|apply rQ.mono|apply LeO.refl|apply LeO.none|refine LeO.ite ?_ ?_|refine LeO.bind ?_ (fun _=>?_))|apply ih0|apply ih1|apply ih2|apply ih3|apply ih4|apply ih5|apply ih6|apply rB.mono|apply rN.mono|apply rQ.mono|apply LeO.none|refine LeO.ite ?_ ?_|refine LeO.bind ?_ (fun _=>?_)
    · intro y0 y1 y2
      unfold rE.l0
      repeat' first|(with_reducible first|apply ih0|apply ih1|apply ih2|apply ih3|apply ih4|apply ih5|apply ih6|apply rB.mono|apply rN.mono|apply rQ.mono|apply LeO.refl|apply LeO.none|refine LeO.ite ?_ ?_|refine LeO.bind ?_ (fun _=>?_))|apply ih0|apply ih1|apply ih2|apply ih3|apply ih4|apply ih5|apply ih6|apply rB.mono|apply rN.mono|apply rQ.mono|apply LeO.none|refine LeO.ite ?_ ?_|refine LeO.bind ?_ (fun _=>?_)
theorem rV.mono : ∀ a0 a1 k,LeO (rV.f k a0 a1) (rV.f (k+1) a0 a1):=fun a0 a1 k=>(grp_rV.mono_l k).1 a0 a1
theorem rV.mono_j0 : ∀ a0 a1 a2 a3 a4 a5 a6 k,LeO (rV.j0 k a0 a1 a2 a3 a4 a5 a6) (rV.j0 (k+1) a0 a1 a2 a3 a4 a5 a6):=fun a0 a1 a2 a3 a4 a5 a6 k=>(grp_rV.mono_l k).2.1 a0 a1 a2 a3 a4 a5 a6
theorem rM.mono : ∀ a0 a1 k,LeO (rM.f k a0 a1) (rM.f (k+1) a0 a1):=fun a0 a1 k=>(grp_rV.mono_l k).2.2.1 a0 a1
theorem rM.mono_l0 : ∀ a0 a1 a2 a3 k,LeO (rM.l0 k a0 a1 a2 a3) (rM.l0 (k+1) a0 a1 a2 a3):=fun a0 a1 a2 a3 k=>(grp_rV.mono_l k).2.2.2.1 a0 a1 a2 a3
theorem rM.mono_j1 : ∀ a0 a1 a2 a3 a4 a5 k,LeO (rM.j1 k a0 a1 a2 a3 a4 a5) (rM.j1 (k+1) a0 a1 a2 a3 a4 a5):=fun a0 a1 a2 a3 a4 a5 k=>(grp_rV.mono_l k).2.2.2.2.1 a0 a1 a2 a3 a4 a5
theorem rE.mono : ∀ a0 a1 k,LeO (rE.f k a0 a1) (rE.f (k+1) a0 a1):=fun a0 a1 k=>(grp_rV.mono_l k).2.2.2.2.2.1 a0 a1
theorem rE.mono_l0 : ∀ a0 a1 a2 k,LeO (rE.l0 k a0 a1 a2) (rE.l0 (k+1) a0 a1 a2):=fun a0 a1 a2 k=>(grp_rV.mono_l k).2.2.2.2.2.2 a0 a1 a2
end Go.Proofs.Ytbkgoccnegjdhaa.Q

/- pack64 of internal/strconv: it returns a float and no error, where the exponent is no greater than 971. -/
import Derived.Test.YtnejkimpkaopoaaGreatDoorQ0
import Derived.BigGuard
import Derived.Deep.DeepMust
import Derived.Laws.Externs
import Derived.Test.YtnejkimpkaopoaaGreatDoorQ11
import Derived.Test.YtnejkimpkaopoaaGreatDoorX1
import GoSem.PinnedTables
import Derived.Laws.FloatArith
import Derived.Laws.FloatBits
section
namespace Go.Proofs.YtnejkimpkaopoaaGreatDoor.Q
open RowKit YtnejkimpkaopoaaGreatDoorW.PrintWords YtnejkimpkaopoaaGreatDoorW.PrintLast YtnejkimpkaopoaaGreatDoorW.PrintMore
attribute [local go_sem] max2_int min2_int max_two min_two max_three min_three max_four min_four
set_option linter.unusedVariables false
set_option linter.unusedSimpArgs false
theorem run_from223 (x:Int) (w:World):(callFunc 223 #[.int .u64 x]).run Tryz.prog w = .ok (.value (.float .f64 x.toNat)) w:=by
 rw [run_callFunc_extern Tryz.func223 (by kernel_rfl) (by kernel_rfl) (by kernel_rfl) (e:=Extern.MathFloatBits.float64frombits) (by kernel_rfl)]
 rfl
def PackP (e:Ending):Prop := ∃ (f:Nat) (v:Value),e = .returned (.tuple #[.float .f64 f,v])∧(v = .nilIface∨v = .iface 217 (.int .i64 1))
set_option maxHeartbeats 8000000 in
set_option maxRecDepth 100000 in
theorem strconv_pack64.calls (n x:Int) (w:World) (hx : -5000≤x∧x≤5000) :
 Calls Tryz.prog 253 #[.int .u64 n, .int .i64 x] w fun e w'=>PackP e∧w=w':=by
 have hr:=run_from223
 go_enter Tryz.func253,Tryz.ntmps253
 cases hb:(Go.bits .and .u64 n 4503599627370496 == 0) with
 | true =>
  go_wp2
  go_ret2
  exact ⟨⟨_,_,rfl, .inl rfl⟩,rfl⟩
 | false =>
  by_cases c:972≤x
  ·
   go_wp2
   go_ret2
   exact ⟨⟨_,_,rfl, .inr rfl⟩,rfl⟩
  go_wp2
  go_ret2
  exact ⟨⟨_,_,rfl, .inl rfl⟩,rfl⟩
end Go.Proofs.YtnejkimpkaopoaaGreatDoor.Q
end
section
/- prescale of internal/strconv (as T1 of wip/bf). -/
namespace Go.Proofs.YtnejkimpkaopoaaGreatDoor.Q
open RowKit YtnejkimpkaopoaaGreatDoorW.PrintWords YtnejkimpkaopoaaGreatDoorW.PrintLast YtnejkimpkaopoaaGreatDoorW.PrintMore
attribute [local go_sem] max2_int min2_int max_two min_two max_three min_three max_four min_four
set_option linter.unusedVariables false
set_option linter.unusedSimpArgs false
def pHi (i:Nat):Int:=((Go.Pinned.pow10Rows.getD i (0,0)).1:Nat)
def pLo (i:Nat):Int:=((Go.Pinned.pow10Rows.getD i (0,0)).2:Nat)
def TabP (w:World):Prop := ∀ i:Nat,i<696→w.cell? ⟨18,i*2,none⟩=some (.int .u64 (pHi i))∧w.cell? ⟨18,i*2+1,none⟩=some (.int .u64 (pLo i))
set_option maxHeartbeats 8000000 in
set_option maxRecDepth 100000 in
theorem strconv_prescale.calls (g:Nat) (f0 f1 f2:Int) (ex p lp:Int) (w0 w:World) (hI:IsS282 w0 w g f0 f1 f2) (hB:Below w0.heap.size w0 w) (hp : -348≤p∧p≤347) (hT:TabP w) (h3:18<w0.heap.size) :
 Calls Tryz.prog 246 #[.pointer (some ⟨g,0,none⟩), .int .i64 ex, .int .i64 p, .int .i64 lp] w fun e w'=>e = .returned (.tuple #[])∧IsS282 w0 w' g (pHi (p+348).toNat) (pLo (p+348).toNat) (wrap64 (-wrap64 (wrap64 (ex+lp)+3)))∧Below w0.heap.size w0 w'∧KeepBut w w' g none:=by
 have hg:g≠18:=by have:=hI.2;omega
 have hi:(p+348).toNat<696:=by omega
 obtain ⟨t0,t1⟩:=hT _ hi
 obtain ⟨HGz,hgz⟩:=hI
 have hcz0:=cellS282_0 HGz
 have hcz1:=cellS282_1 HGz
 have hcz2:=cellS282_2 HGz
 have hfz0:=blk_frozen HGz 0
 have hfz1:=blk_frozen HGz 1
 have hfz2:=blk_frozen HGz 2
 have hw:wrap64 (p+348)=p+348:=by unfold wrap64;omega
 go_enter Tryz.func246,Tryz.ntmps246
 go_wp2
 refine bodyPost_end (v := .tuple #[]) ?_ rfl ⟨rfl,?_,?_,?_⟩
 ·
  exact results_none rfl _ _ _
 ·
  exact ((IsS282.set_2 (IsS282.set_1 (IsS282.set_0 ⟨HGz,hgz⟩ _) _) _))
 ·
  exact below_set (below_set (below_set hB hgz) hgz) hgz
 exact ((((KeepBut.refl w g none).set_ 0 _).set_ 1 _).set_ 2 _)
end Go.Proofs.YtnejkimpkaopoaaGreatDoor.Q
end
section
/- uscale always gives a value. -/
namespace Go.Proofs.YtnejkimpkaopoaaGreatDoor.Q
open RowKit YtnejkimpkaopoaaGreatDoorW.PrintWords YtnejkimpkaopoaaGreatDoorW.PrintLast YtnejkimpkaopoaaGreatDoorW.PrintMore
set_option linter.unusedVariables false
set_option linter.unusedSimpArgs false
theorem uscale_some (a h l s:Int) (hs:0≤Go.bits .and .i64 s 63) : ∃ r,strconv_uscale.f a h l s=some (r,h,l,s):=by
 unfold strconv_uscale.f
 obtain ⟨x,hx⟩ : ∃ x,bits_Mul64.f a h=some x:=⟨_,rfl⟩
 obtain ⟨y,hy⟩ : ∃ y,bits_Mul64.f a l=some y:=⟨_,rfl⟩
 rw [hx,hy]
 simp only [Option.bind_some,if_pos hs]
 split
 ·
  unfold strconv_bool2_uint64.f
  split
  ·
   simp only [Option.bind_some]
   split
   ·
    exact ⟨_,rfl⟩
   exact ⟨_,rfl⟩
  simp only [Option.bind_some]
  split
  ·
   exact ⟨_,rfl⟩
  exact ⟨_,rfl⟩
 exact ⟨_,rfl⟩
end Go.Proofs.YtnejkimpkaopoaaGreatDoor.Q
end
section
/- Floats: products and quotients by a number other than 0 are there, and no NaN. -/
namespace Go.Proofs.YtnejkimpkaopoaaGreatDoor.Q
open Ieee
set_option linter.unusedVariables false
theorem read_word (f:Format) (neg:Bool) {r:Nat} (h:r≤f.infRung):(f.read (f.word neg r)).isNaN=false:=by
 have h1:=f.infRung_lt
 have h2:f.word neg r % f.signWeight=r:=by
  unfold Format.word
  split
  ·
   rw [Nat.add_mod_left,Nat.mod_eq_of_lt (by omega)]
  exact Nat.mod_eq_of_lt (by omega)
 unfold Format.read
 simp only [h2]
 split
 ·
  rfl
 split
 ·
  rfl
 rw [if_pos (by omega)];rfl
theorem write_noNaN (f:Format) {d:Datum} (h:d.isNaN=false):(f.read (f.write d)).isNaN=false:=by
 cases d with
 | number s m p =>
  show (f.read (f.nearest s m p)).isNaN=false
  unfold Format.nearest
  dsimp only
  split
  ·
   exact read_word f s (Nat.zero_le _)
  exact read_word f s (Nat.min_le_right ..)
 | infinity s=>exact read_word f s (Nat.le_refl _)
 | nan s t=>cases h
def Num (f:Format) (y:Nat):Prop := ∃ s m p,f.read y = .number s m p∧m≠0
theorem mul_some (f:Format) {x y:Nat} (hx:(f.read x).isNaN=false) (hy:Num f y) : ∃ r,f.mul x y=some r∧(f.read r).isNaN=false:=by
 obtain ⟨s,m,p,h,hm⟩:=hy
 unfold Format.mul
 rw [h]
 cases hr:f.read x with
 | number t n j=>exact ⟨_,rfl,write_noNaN f rfl⟩
 | infinity t =>
  refine ⟨f.write (.infinity (t ^^ s)),?_,write_noNaN f rfl⟩
  show Option.map f.write (if m=0 then none else some (.infinity (t ^^ s)))=_
  rw [if_neg hm];rfl
 | nan t u=>rw [hr] at hx;cases hx
theorem div_some (f:Format) {x y:Nat} (hx:(f.read x).isNaN=false) (hy:Num f y) : ∃ r,f.div x y=some r∧(f.read r).isNaN=false:=by
 obtain ⟨s,m,p,h,hm⟩:=hy
 unfold Format.div
 rw [h]
 cases hr:f.read x with
 | number t n j =>
  unfold Datum.quotient
  dsimp only
  rw [if_neg hm]
  exact ⟨_,rfl,write_noNaN f rfl⟩
 | infinity t=>exact ⟨_,rfl,write_noNaN f rfl⟩
 | nan t u=>rw [hr] at hx;cases hx
end Go.Proofs.YtnejkimpkaopoaaGreatDoor.Q
end
section
/- Floats: the walk's steps, with no NaN. -/
namespace Go.Proofs.YtnejkimpkaopoaaGreatDoor.Q
open Ieee
set_option linter.unusedVariables false
def NN (x:Nat):Prop:=(FloatKind.f64.format.read x).isNaN=false
theorem NN_rung {f:Format} {a b:Nat} (h:a % f.signWeight=b % f.signWeight):(f.read a).isNaN=(f.read b).isNaN:=by
 unfold Format.read
 simp only [h]
 split
 ·
  rfl
 split
 ·
  rfl
 split <;> rfl
theorem NN_int (n:Int):NN (floatOfInt .f64 n):=write_noNaN FloatKind.f64.format (d := .number (n<0) n.natAbs 0) rfl
theorem run_neg (x:Nat) (w:World):(Op.unary UnOp.neg (.float .f64 x)).run Tryz.prog w = .ok (.float .f64 (x ^^^ 2 ^ 63)) w:=rfl
theorem NN_neg {x:Nat} (h:NN x):NN (x ^^^ 2 ^ 63):=by
 unfold NN at *
 rw [NN_rung (f:=FloatKind.f64.format) (b:=x)]
 ·
  exact h
 have e:FloatKind.f64.format.signWeight=2 ^ 63:=rfl
 rw [e,Nat.xor_mod_two_pow,Nat.mod_self,Nat.xor_zero]
theorem step_mul {x y:Nat} (hx:NN x) (hy:Num FloatKind.f64.format y) : ∃ r,NN r ∧ ∀ w:World,(binOp BinOp.mul 30 (.float .f64 x) (.float .f64 y)).run Tryz.prog w = .ok (.float .f64 r) w:=by
 obtain ⟨r,h1,h2⟩:=mul_some FloatKind.f64.format hx hy
 exact ⟨r,h2,fun w=>run_float_arith w BinOp.mul 30 .f64 x y r h1⟩
theorem step_quo {x y:Nat} (hx:NN x) (hy:Num FloatKind.f64.format y) : ∃ r,NN r ∧ ∀ w:World,(binOp BinOp.quo 30 (.float .f64 x) (.float .f64 y)).run Tryz.prog w = .ok (.float .f64 r) w:=by
 obtain ⟨r,h1,h2⟩:=div_some FloatKind.f64.format hx hy
 exact ⟨r,h2,fun w=>run_float_arith w BinOp.quo 30 .f64 x y r h1⟩
end Go.Proofs.YtnejkimpkaopoaaGreatDoor.Q
end

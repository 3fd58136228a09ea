/- Functions of the program as Lean functions, each with a proof that the call comes to what it gives. Written by prx.py (wip/pr). -/
import Derived.Test.YtbkgoccnegjdhaaProg
import Derived.Below
import Derived.Deep.Draws
import Derived.Deep.AppendLies
import Derived.Maps.AppendAt
import Derived.OwnWalk
import Derived.Laws.BytesArg
import Derived.Laws.MakeOwn
import Derived.Laws.OwnMore
import Derived.Deep.OwnRows
import Derived.Tactics
import Derived.Lib.ConvBytes
import Derived.Laws.Slices
import Derived.WalkKit
import Derived.KernelRfl
import Derived.RowKit3
import Derived.Deep.LoopGhost
import Derived.Deep.QuietTactic
import Derived.BigQuiet
import Derived.WideLaws
import Derived.Deep.DeepCutAuto
import Derived.Deep.CutBlock
import Derived.Deep.RegionHeld3
import Derived.Laws.Rows
import Derived.Lib.AppendStr
import Derived.ArgAppend
import Derived.Laws.IdiomCopy
import Derived.OrdersHeld
import Derived.Laws.BitsLemmas
import Derived.RowKit
import Derived.Test.YtbkgoccnegjdhaaKa
import Derived.Test.YtbkgoccnegjdhaaX0
import Derived.Test.YtbkgoccnegjdhaaS0
import Derived.Test.YtbkgoccnegjdhaaS1
namespace Go.Proofs.Ytbkgoccnegjdhaa.Q
open Go.RowKit Go.Proofs.YtbkgoccnegjdhaaW.PrintWords Go.Proofs.YtbkgoccnegjdhaaW.PrintLast Go.Proofs.YtbkgoccnegjdhaaW.PrintMore
attribute [local go_sem] max2_int min2_int max_two min_two max_three min_three max_four min_four   -- for this text's walks alone
set_option linter.unusedVariables false
set_option linter.unusedSimpArgs false
def errW:Option Int→Value
  | none => .nilIface
  | some c => .iface 0 (.int .i64 c)
theorem errW_none:errW none = .nilIface:=rfl
theorem errW_some (c:Int):errW (some c) = .iface 0 (.int .i64 c):=rfl
theorem info5:(Try.prog.info? 5).map (fun i=>(i.zero,i.size,i.bytes))=some (some (.int .u8 0),1,1):=by kernel_rfl
theorem info9:(Try.prog.info? 9).map (fun i=>(i.zero,i.size,i.bytes))=some (some (.string ⟨#[]⟩),1,16):=by kernel_rfl
theorem info28:(Try.prog.info? 28).map (fun i=>(i.zero,i.size,i.bytes))=some (some (.agg #[(.int .i64 0),(.int .i64 0),(.int .i64 0),(.slice none 0 0),(.slice none 0 0)]),5,72):=by kernel_rfl
theorem info42:(Try.prog.info? 42).map (fun i=>(i.zero,i.size,i.bytes))=some (some (.agg #[(.int .i64 0),(.string ⟨#[]⟩),(.slice none 0 0),(.slice none 0 0)]),4,72):=by kernel_rfl
theorem info52:(Try.prog.info? 52).map (fun i=>(i.zero,i.size,i.bytes))=some (some (.agg #[(.int .i64 0),(.int .i64 0)]),2,16):=by kernel_rfl
theorem info82:(Try.prog.info? 82).map (fun i=>(i.zero,i.size,i.bytes))=some (some (.agg #[(.int .i64 0),(.int .i64 0),(.int .i64 0),(.int .i64 0)]),4,32):=by kernel_rfl
-- the values' own types
/-! #### struct type 52 -/
structure S52 where
  f0:Int
  f1:Int
def z52:S52:=⟨(0:Int),(0:Int)⟩
def k52:Kd S52:=Kd.iso (Kd.pair (Kd.int .i64) (Kd.int .i64)) (fun x:S52=>(x.f0,x.f1))
theorem k52_open {w:World} {x:S52} {cs:List Value} (h:k52.K w x cs):cs=[.int .i64 x.f0, .int .i64 x.f1]:=by
 obtain ⟨_,_,rfl,rfl,rfl⟩:=h
 exact rfl
theorem k52_openM {w:World} {base:Nat} {ok:Nat→Prop} {x:S52} {cs:List Value} (h:k52.M w base ok x cs):cs=[.int .i64 x.f0, .int .i64 x.f1]:=by
 obtain ⟨_,_,rfl,rfl,rfl⟩:=h
 exact rfl
theorem k52_mk (w:World) (x:S52):k52.K w x [.int .i64 x.f0, .int .i64 x.f1]:=⟨[.int .i64 x.f0],[.int .i64 x.f1],rfl,rfl,rfl⟩
theorem k52_mkM (w:World) (base:Nat) (ok:Nat→Prop) (x:S52):k52.M w base ok x [.int .i64 x.f0, .int .i64 x.f1]:=⟨[.int .i64 x.f0],[.int .i64 x.f1],rfl,rfl,rfl⟩
def rd_T52 (xs:List S52) (i:Int):S52:=xs.getD i.toNat z52
theorem at_T52 {w:World} {A:Option Addr} {n:Nat} {xs:List S52} (h:Kd.C k52 w A n xs) (i:Int) (h0:0≤i) (h1:i<n) : ∃ ad,A=some ad∧w.cell? (ad.add (i.toNat*2))=some (.int .i64 (rd_T52 xs i).f0)∧w.cell? ⟨(ad.add (i.toNat*2)).block,(ad.add (i.toNat*2)).off+1,none⟩=some (.int .i64 (rd_T52 xs i).f1):=by
 obtain ⟨ad,c,e,_,hK,hc0⟩:=Kd.C_get h z52 i h0 h1
 have hc : ∀ j u,c[j]? = some u→w.cell? (ad.add (i.toNat*2+j))=some u:=hc0
 obtain rfl:=k52_open hK
 exact ⟨ad,e,hc 0 _ rfl,by rw [← add_field _ _ 1 (by omega)];exact hc 1 _ rfl⟩
def rd_L2 (xs:List (List S52)) (i:Int):(List S52):=xs.getD i.toNat ([]:List S52)
theorem at_L2 {w:World} {A:Option Addr} {n:Nat} {xs:List (List S52)} (h:Kd.C (Kd.slice 52 k52) w A n xs) (i:Int) (h0:0≤i) (h1:i<n) : ∃ ad A0 c0,A=some ad∧w.cell? (ad.add i.toNat)=some (.slice A0 (rd_L2 xs i).length c0)∧(rd_L2 xs i).length≤c0∧k52.C w A0 (rd_L2 xs i).length (rd_L2 xs i):=by
 obtain ⟨ad,c,e,_,hK,hc0⟩:=Kd.C_get h ([]:List S52) i h0 h1
 have hc : ∀ j u,c[j]? = some u→w.cell? (ad.add (i.toNat*1+j))=some u:=hc0
 obtain ⟨A0,c0,rfl,l0,g0⟩:=hK
 exact ⟨ad,A0,c0,e,by have hq:=hc 0 _ rfl;rwa [Nat.mul_one,Nat.add_zero] at hq,l0,g0⟩
/-! #### struct type 28, nested in itself -/
structure S28 where
  f0:Int
  f1:Int
  f2:Int
  f3:(List S52)
  f4:(List S28)
def z28:S28:=⟨(0:Int),(0:Int),(0:Int),([]:List S52),([]:List S28)⟩
def F28 (d:Kd S28):Kd S28:=Kd.iso (Kd.pair (Kd.int .i64) (Kd.pair (Kd.int .i64) (Kd.pair (Kd.int .i64) (Kd.pair (Kd.slice 52 k52) (Kd.slice 28 d))))) (fun x:S28=>(x.f0,x.f1,x.f2,x.f3,x.f4))
theorem mono28:Kd.Mono F28:=Kd.mono_iso _ (Kd.mono_pair (Kd.mono_const _) (Kd.mono_pair (Kd.mono_const _) (Kd.mono_pair (Kd.mono_const _) (Kd.mono_pair (Kd.mono_const _) (Kd.mono_slice 28 Kd.mono_id)))))
theorem sub28:Kd.Sub F28 [28,52]:=Kd.sub_iso _ (Kd.sub_pair (Kd.sub_const _ (by decide)) (Kd.sub_pair (Kd.sub_const _ (by decide)) (Kd.sub_pair (Kd.sub_const _ (by decide)) (Kd.sub_pair (Kd.sub_const _ (by decide)) (Kd.sub_slice 28 (by decide) Kd.sub_id)))))
theorem sz28 : ∀ n,(Kd.upto F28 5 [28,52] n).sz=5:=Kd.upto_sz (fun _=>rfl)
def k28:Kd S28:=Kd.fix F28 5 [28,52] sz28 (Kd.upto_E sub28)
theorem k28_open {w:World} {x:S28} {cs:List Value} (h:k28.K w x cs) : ∃ A3 c3 A4 c4,cs=[.int .i64 x.f0, .int .i64 x.f1, .int .i64 x.f2, .slice A3 x.f3.length c3, .slice A4 x.f4.length c4]∧x.f3.length≤c3∧k52.C w A3 x.f3.length x.f3∧x.f4.length≤c4∧k28.C w A4 x.f4.length x.f4:=by
 obtain ⟨n,h⟩:=h
 cases n with
 | zero=>exact h.elim
 | succ n =>
  obtain ⟨_,_,rfl,rfl,⟨_,_,rfl,rfl,⟨_,_,rfl,rfl,⟨_,_,rfl,⟨A3,c3,rfl,l3,g3⟩,⟨A4,c4,rfl,l4,g4⟩⟩⟩⟩⟩:=h
  exact ⟨A3,c3,A4,c4,rfl,l3,g3,l4,Kd.fix_C g4⟩
theorem k28_openM {w:World} {base:Nat} {ok:Nat→Prop} {x:S28} {cs:List Value} (h:k28.M w base ok x cs) : ∃ v3 v4,cs=[.int .i64 x.f0, .int .i64 x.f1, .int .i64 x.f2,v3,v4]∧k52.R 52 w base ok v3 x.f3∧k28.R 28 w base ok v4 x.f4:=by
 obtain ⟨n,h⟩:=h
 cases n with
 | zero=>exact h.elim
 | succ n =>
  obtain ⟨_,_,rfl,rfl,⟨_,_,rfl,rfl,⟨_,_,rfl,rfl,⟨_,_,rfl,⟨v3,rfl,g3⟩,⟨v4,rfl,g4⟩⟩⟩⟩⟩:=h
  exact ⟨v3,v4,rfl,g3,Kd.fix_R g4⟩
theorem k28_mk (w:World) (x:S28) {A3:Option Addr} {c3:Nat} (l3:x.f3.length≤c3) (g3:k52.C w A3 x.f3.length x.f3) {A4:Option Addr} {c4:Nat} (l4:x.f4.length≤c4) (g4:k28.C w A4 x.f4.length x.f4):k28.K w x [.int .i64 x.f0, .int .i64 x.f1, .int .i64 x.f2, .slice A3 x.f3.length c3, .slice A4 x.f4.length c4]:=by
 obtain ⟨n4,q4⟩:=Kd.fix_C_back mono28 g4
 have r4:=Kd.upto_C_le mono28 sz28 (show n4≤n4 by omega) q4
 exact ⟨n4+1,⟨[.int .i64 x.f0],[.int .i64 x.f1, .int .i64 x.f2, .slice A3 x.f3.length c3, .slice A4 x.f4.length c4],rfl,rfl,⟨[.int .i64 x.f1],[.int .i64 x.f2, .slice A3 x.f3.length c3, .slice A4 x.f4.length c4],rfl,rfl,⟨[.int .i64 x.f2],[.slice A3 x.f3.length c3, .slice A4 x.f4.length c4],rfl,rfl,⟨[.slice A3 x.f3.length c3],[.slice A4 x.f4.length c4],rfl,⟨A3,c3,rfl,l3,g3⟩,⟨A4,c4,rfl,l4,r4⟩⟩⟩⟩⟩⟩
theorem k28_mkM (w:World) (base:Nat) (ok:Nat→Prop) (x:S28) {v3:Value} (g3:k52.R 52 w base ok v3 x.f3) {v4:Value} (g4:k28.R 28 w base ok v4 x.f4):k28.M w base ok x [.int .i64 x.f0, .int .i64 x.f1, .int .i64 x.f2,v3,v4]:=by
 obtain ⟨n4,q4⟩:=Kd.fix_R_back mono28 g4
 have r4:=Kd.upto_R_le mono28 sz28 (show n4≤n4 by omega) q4
 exact ⟨n4+1,⟨[.int .i64 x.f0],[.int .i64 x.f1, .int .i64 x.f2,v3,v4],rfl,rfl,⟨[.int .i64 x.f1],[.int .i64 x.f2,v3,v4],rfl,rfl,⟨[.int .i64 x.f2],[v3,v4],rfl,rfl,⟨[v3],[v4],rfl,⟨v3,rfl,g3⟩,⟨v4,rfl,r4⟩⟩⟩⟩⟩⟩
def rd_T28 (xs:List S28) (i:Int):S28:=xs.getD i.toNat z28
theorem at_T28 {w:World} {A:Option Addr} {n:Nat} {xs:List S28} (h:Kd.C k28 w A n xs) (i:Int) (h0:0≤i) (h1:i<n) : ∃ ad A3 c3 A4 c4,A=some ad∧w.cell? (ad.add (i.toNat*5))=some (.int .i64 (rd_T28 xs i).f0)∧w.cell? ⟨(ad.add (i.toNat*5)).block,(ad.add (i.toNat*5)).off+1,none⟩=some (.int .i64 (rd_T28 xs i).f1)∧w.cell? ⟨(ad.add (i.toNat*5)).block,(ad.add (i.toNat*5)).off+2,none⟩=some (.int .i64 (rd_T28 xs i).f2)∧w.cell? ⟨(ad.add (i.toNat*5)).block,(ad.add (i.toNat*5)).off+3,none⟩=some (.slice A3 (rd_T28 xs i).f3.length c3)∧w.cell? ⟨(ad.add (i.toNat*5)).block,(ad.add (i.toNat*5)).off+4,none⟩=some (.slice A4 (rd_T28 xs i).f4.length c4)∧(rd_T28 xs i).f3.length≤c3∧k52.C w A3 (rd_T28 xs i).f3.length (rd_T28 xs i).f3∧(rd_T28 xs i).f4.length≤c4∧k28.C w A4 (rd_T28 xs i).f4.length (rd_T28 xs i).f4:=by
 obtain ⟨ad,c,e,_,hK,hc0⟩:=Kd.C_get h z28 i h0 h1
 have hc : ∀ j u,c[j]? = some u→w.cell? (ad.add (i.toNat*5+j))=some u:=hc0
 obtain ⟨A3,c3,A4,c4,rfl,l3,g3,l4,g4⟩:=k28_open hK
 exact ⟨ad,A3,c3,A4,c4,e,hc 0 _ rfl,by rw [← add_field _ _ 1 (by omega)];exact hc 1 _ rfl,by rw [← add_field _ _ 2 (by omega)];exact hc 2 _ rfl,by rw [← add_field _ _ 3 (by omega)];exact hc 3 _ rfl,by rw [← add_field _ _ 4 (by omega)];exact hc 4 _ rfl,l3,g3,l4,g4⟩
/-! #### struct type 82 -/
structure S82 where
  f0:Int
  f1:Int
  f2:Int
  f3:Int
def z82:S82:=⟨(0:Int),(0:Int),(0:Int),(0:Int)⟩
def k82:Kd S82:=Kd.iso (Kd.pair (Kd.int .i64) (Kd.pair (Kd.int .i64) (Kd.pair (Kd.int .i64) (Kd.int .i64)))) (fun x:S82=>(x.f0,x.f1,x.f2,x.f3))
theorem k82_open {w:World} {x:S82} {cs:List Value} (h:k82.K w x cs):cs=[.int .i64 x.f0, .int .i64 x.f1, .int .i64 x.f2, .int .i64 x.f3]:=by
 obtain ⟨_,_,rfl,rfl,⟨_,_,rfl,rfl,⟨_,_,rfl,rfl,rfl⟩⟩⟩:=h
 exact rfl
theorem k82_openM {w:World} {base:Nat} {ok:Nat→Prop} {x:S82} {cs:List Value} (h:k82.M w base ok x cs):cs=[.int .i64 x.f0, .int .i64 x.f1, .int .i64 x.f2, .int .i64 x.f3]:=by
 obtain ⟨_,_,rfl,rfl,⟨_,_,rfl,rfl,⟨_,_,rfl,rfl,rfl⟩⟩⟩:=h
 exact rfl
theorem k82_mk (w:World) (x:S82):k82.K w x [.int .i64 x.f0, .int .i64 x.f1, .int .i64 x.f2, .int .i64 x.f3]:=⟨[.int .i64 x.f0],[.int .i64 x.f1, .int .i64 x.f2, .int .i64 x.f3],rfl,rfl,⟨[.int .i64 x.f1],[.int .i64 x.f2, .int .i64 x.f3],rfl,rfl,⟨[.int .i64 x.f2],[.int .i64 x.f3],rfl,rfl,rfl⟩⟩⟩
theorem k82_mkM (w:World) (base:Nat) (ok:Nat→Prop) (x:S82):k82.M w base ok x [.int .i64 x.f0, .int .i64 x.f1, .int .i64 x.f2, .int .i64 x.f3]:=⟨[.int .i64 x.f0],[.int .i64 x.f1, .int .i64 x.f2, .int .i64 x.f3],rfl,rfl,⟨[.int .i64 x.f1],[.int .i64 x.f2, .int .i64 x.f3],rfl,rfl,⟨[.int .i64 x.f2],[.int .i64 x.f3],rfl,rfl,rfl⟩⟩⟩
def rd_T82 (xs:List S82) (i:Int):S82:=xs.getD i.toNat z82
theorem at_T82 {w:World} {A:Option Addr} {n:Nat} {xs:List S82} (h:Kd.C k82 w A n xs) (i:Int) (h0:0≤i) (h1:i<n) : ∃ ad,A=some ad∧w.cell? (ad.add (i.toNat*4))=some (.int .i64 (rd_T82 xs i).f0)∧w.cell? ⟨(ad.add (i.toNat*4)).block,(ad.add (i.toNat*4)).off+1,none⟩=some (.int .i64 (rd_T82 xs i).f1)∧w.cell? ⟨(ad.add (i.toNat*4)).block,(ad.add (i.toNat*4)).off+2,none⟩=some (.int .i64 (rd_T82 xs i).f2)∧w.cell? ⟨(ad.add (i.toNat*4)).block,(ad.add (i.toNat*4)).off+3,none⟩=some (.int .i64 (rd_T82 xs i).f3):=by
 obtain ⟨ad,c,e,_,hK,hc0⟩:=Kd.C_get h z82 i h0 h1
 have hc : ∀ j u,c[j]? = some u→w.cell? (ad.add (i.toNat*4+j))=some u:=hc0
 obtain rfl:=k82_open hK
 exact ⟨ad,e,hc 0 _ rfl,by rw [← add_field _ _ 1 (by omega)];exact hc 1 _ rfl,by rw [← add_field _ _ 2 (by omega)];exact hc 2 _ rfl,by rw [← add_field _ _ 3 (by omega)];exact hc 3 _ rfl⟩
def rd_L7 (xs:List (List ByteArray)) (i:Int):(List ByteArray):=xs.getD i.toNat ([]:List ByteArray)
theorem at_L7 {w:World} {A:Option Addr} {n:Nat} {xs:List (List ByteArray)} (h:Kd.C (Kd.slice 9 Kd.string) w A n xs) (i:Int) (h0:0≤i) (h1:i<n) : ∃ ad A0 c0,A=some ad∧w.cell? (ad.add i.toNat)=some (.slice A0 (rd_L7 xs i).length c0)∧(rd_L7 xs i).length≤c0∧Kd.string.C w A0 (rd_L7 xs i).length (rd_L7 xs i):=by
 obtain ⟨ad,c,e,_,hK,hc0⟩:=Kd.C_get h ([]:List ByteArray) i h0 h1
 have hc : ∀ j u,c[j]? = some u→w.cell? (ad.add (i.toNat*1+j))=some u:=hc0
 obtain ⟨A0,c0,rfl,l0,g0⟩:=hK
 exact ⟨ad,A0,c0,e,by have hq:=hc 0 _ rfl;rwa [Nat.mul_one,Nat.add_zero] at hq,l0,g0⟩
/-! #### struct type 42, nested in itself -/
structure S42 where
  f0:Int
  f1:ByteArray
  f2:(List ByteArray)
  f3:(List S42)
def z42:S42:=⟨(0:Int),(⟨#[]⟩:ByteArray),([]:List ByteArray),([]:List S42)⟩
def F42 (d:Kd S42):Kd S42:=Kd.iso (Kd.pair (Kd.int .i64) (Kd.pair Kd.string (Kd.pair (Kd.slice 9 Kd.string) (Kd.slice 42 d)))) (fun x:S42=>(x.f0,x.f1,x.f2,x.f3))
theorem mono42:Kd.Mono F42:=Kd.mono_iso _ (Kd.mono_pair (Kd.mono_const _) (Kd.mono_pair (Kd.mono_const _) (Kd.mono_pair (Kd.mono_const _) (Kd.mono_slice 42 Kd.mono_id))))
theorem sub42:Kd.Sub F42 [9,42]:=Kd.sub_iso _ (Kd.sub_pair (Kd.sub_const _ (by decide)) (Kd.sub_pair (Kd.sub_const _ (by decide)) (Kd.sub_pair (Kd.sub_const _ (by decide)) (Kd.sub_slice 42 (by decide) Kd.sub_id))))
theorem sz42 : ∀ n,(Kd.upto F42 4 [9,42] n).sz=4:=Kd.upto_sz (fun _=>rfl)
def k42:Kd S42:=Kd.fix F42 4 [9,42] sz42 (Kd.upto_E sub42)
theorem k42_open {w:World} {x:S42} {cs:List Value} (h:k42.K w x cs) : ∃ A2 c2 A3 c3,cs=[.int .i64 x.f0, .string x.f1, .slice A2 x.f2.length c2, .slice A3 x.f3.length c3]∧x.f2.length≤c2∧Kd.string.C w A2 x.f2.length x.f2∧x.f3.length≤c3∧k42.C w A3 x.f3.length x.f3:=by
 obtain ⟨n,h⟩:=h
 cases n with
 | zero=>exact h.elim
 | succ n =>
  obtain ⟨_,_,rfl,rfl,⟨_,_,rfl,rfl,⟨_,_,rfl,⟨A2,c2,rfl,l2,g2⟩,⟨A3,c3,rfl,l3,g3⟩⟩⟩⟩:=h
  exact ⟨A2,c2,A3,c3,rfl,l2,g2,l3,Kd.fix_C g3⟩
theorem k42_openM {w:World} {base:Nat} {ok:Nat→Prop} {x:S42} {cs:List Value} (h:k42.M w base ok x cs) : ∃ v2 v3,cs=[.int .i64 x.f0, .string x.f1,v2,v3]∧Kd.string.R 9 w base ok v2 x.f2∧k42.R 42 w base ok v3 x.f3:=by
 obtain ⟨n,h⟩:=h
 cases n with
 | zero=>exact h.elim
 | succ n =>
  obtain ⟨_,_,rfl,rfl,⟨_,_,rfl,rfl,⟨_,_,rfl,⟨v2,rfl,g2⟩,⟨v3,rfl,g3⟩⟩⟩⟩:=h
  exact ⟨v2,v3,rfl,g2,Kd.fix_R g3⟩
theorem k42_mk (w:World) (x:S42) {A2:Option Addr} {c2:Nat} (l2:x.f2.length≤c2) (g2:Kd.string.C w A2 x.f2.length x.f2) {A3:Option Addr} {c3:Nat} (l3:x.f3.length≤c3) (g3:k42.C w A3 x.f3.length x.f3):k42.K w x [.int .i64 x.f0, .string x.f1, .slice A2 x.f2.length c2, .slice A3 x.f3.length c3]:=by
 obtain ⟨n3,q3⟩:=Kd.fix_C_back mono42 g3
 have r3:=Kd.upto_C_le mono42 sz42 (show n3≤n3 by omega) q3
 exact ⟨n3+1,⟨[.int .i64 x.f0],[.string x.f1, .slice A2 x.f2.length c2, .slice A3 x.f3.length c3],rfl,rfl,⟨[.string x.f1],[.slice A2 x.f2.length c2, .slice A3 x.f3.length c3],rfl,rfl,⟨[.slice A2 x.f2.length c2],[.slice A3 x.f3.length c3],rfl,⟨A2,c2,rfl,l2,g2⟩,⟨A3,c3,rfl,l3,r3⟩⟩⟩⟩⟩
theorem k42_mkM (w:World) (base:Nat) (ok:Nat→Prop) (x:S42) {v2:Value} (g2:Kd.string.R 9 w base ok v2 x.f2) {v3:Value} (g3:k42.R 42 w base ok v3 x.f3):k42.M w base ok x [.int .i64 x.f0, .string x.f1,v2,v3]:=by
 obtain ⟨n3,q3⟩:=Kd.fix_R_back mono42 g3
 have r3:=Kd.upto_R_le mono42 sz42 (show n3≤n3 by omega) q3
 exact ⟨n3+1,⟨[.int .i64 x.f0],[.string x.f1,v2,v3],rfl,rfl,⟨[.string x.f1],[v2,v3],rfl,rfl,⟨[v2],[v3],rfl,⟨v2,rfl,g2⟩,⟨v3,rfl,r3⟩⟩⟩⟩⟩
def rd_T42 (xs:List S42) (i:Int):S42:=xs.getD i.toNat z42
theorem at_T42 {w:World} {A:Option Addr} {n:Nat} {xs:List S42} (h:Kd.C k42 w A n xs) (i:Int) (h0:0≤i) (h1:i<n) : ∃ ad A2 c2 A3 c3,A=some ad∧w.cell? (ad.add (i.toNat*4))=some (.int .i64 (rd_T42 xs i).f0)∧w.cell? ⟨(ad.add (i.toNat*4)).block,(ad.add (i.toNat*4)).off+1,none⟩=some (.string (rd_T42 xs i).f1)∧w.cell? ⟨(ad.add (i.toNat*4)).block,(ad.add (i.toNat*4)).off+2,none⟩=some (.slice A2 (rd_T42 xs i).f2.length c2)∧w.cell? ⟨(ad.add (i.toNat*4)).block,(ad.add (i.toNat*4)).off+3,none⟩=some (.slice A3 (rd_T42 xs i).f3.length c3)∧(rd_T42 xs i).f2.length≤c2∧Kd.string.C w A2 (rd_T42 xs i).f2.length (rd_T42 xs i).f2∧(rd_T42 xs i).f3.length≤c3∧k42.C w A3 (rd_T42 xs i).f3.length (rd_T42 xs i).f3:=by
 obtain ⟨ad,c,e,_,hK,hc0⟩:=Kd.C_get h z42 i h0 h1
 have hc : ∀ j u,c[j]? = some u→w.cell? (ad.add (i.toNat*4+j))=some u:=hc0
 obtain ⟨A2,c2,A3,c3,rfl,l2,g2,l3,g3⟩:=k42_open hK
 exact ⟨ad,A2,c2,A3,c3,e,hc 0 _ rfl,by rw [← add_field _ _ 1 (by omega)];exact hc 1 _ rfl,by rw [← add_field _ _ 2 (by omega)];exact hc 2 _ rfl,by rw [← add_field _ _ 3 (by omega)];exact hc 3 _ rfl,l2,g2,l3,g3⟩
end Go.Proofs.Ytbkgoccnegjdhaa.Q

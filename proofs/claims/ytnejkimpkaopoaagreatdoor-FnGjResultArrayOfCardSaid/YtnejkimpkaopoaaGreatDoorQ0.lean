/- Functions of the program as Lean functions, each with a proof that the call comes to what it gives. Written by prx.py (wip/pr). -/
import Derived.Test.YtnejkimpkaopoaaGreatDoorProg
import Derived.Below
import Derived.Deep.Draws
import Derived.Deep.AppendLies
import Derived.Maps.AppendAt
import Derived.OwnWalk
import Derived.Laws.BytesArg
import Derived.Laws.MakeOwn
import Derived.Laws.OwnMore
import Derived.Deep.OwnRows
import Derived.Tactics
import Derived.Lib.ConvBytes
import Derived.Laws.Slices
import Derived.WalkKit
import Derived.KernelRfl
import Derived.RowKit3
import Derived.Deep.LoopGhost
import Derived.Deep.QuietTactic
import Derived.BigQuiet
import Derived.WideLaws
import Derived.Deep.DeepCutAuto
import Derived.Deep.CutBlock
import Derived.Deep.RegionHeld3
import Derived.Laws.Rows
import Derived.Lib.AppendStr
import Derived.ArgAppend
import Derived.Laws.IdiomCopy
import Derived.OrdersHeld
import Derived.Laws.BitsLemmas
import Derived.RowKit
import Derived.Test.YtnejkimpkaopoaaGreatDoorKa
import Derived.Test.YtnejkimpkaopoaaGreatDoorX0
import Derived.Test.YtnejkimpkaopoaaGreatDoorS1
namespace Go.Proofs.YtnejkimpkaopoaaGreatDoor.Q
open RowKit YtnejkimpkaopoaaGreatDoorW.PrintWords YtnejkimpkaopoaaGreatDoorW.PrintLast YtnejkimpkaopoaaGreatDoorW.PrintMore
attribute [local go_sem] max2_int min2_int max_two min_two max_three min_three max_four min_four
set_option linter.unusedVariables false
set_option linter.unusedSimpArgs false
theorem info5:(Tryz.prog.info? 5).map (fun i=>(i.zero,i.size,i.bytes))=some (some (.int .u8 0),1,1):=by kernel_rfl
theorem info9:(Tryz.prog.info? 9).map (fun i=>(i.zero,i.size,i.bytes))=some (some (.string ⟨#[]⟩),1,16):=by kernel_rfl
theorem info25:(Tryz.prog.info? 25).map (fun i=>(i.zero,i.size,i.bytes))=some (some (.agg #[(.int .i64 0),(.string ⟨#[]⟩),(.slice none 0 0),(.slice none 0 0)]),4,72):=by kernel_rfl
theorem info102:(Tryz.prog.info? 102).map (fun i=>(i.zero,i.size,i.bytes))=some (some (.agg #[(.int .i64 0),(.int .i64 0),(.int .i64 0),(.slice none 0 0),(.slice none 0 0)]),5,72):=by kernel_rfl
theorem info155:(Tryz.prog.info? 155).map (fun i=>(i.zero,i.size,i.bytes))=some (some (.agg #[(.int .i64 0),(.int .i64 0)]),2,16):=by kernel_rfl
-- the values' own types
/-! #### struct type 155 -/
structure S155 where
  f0:Int
  f1:Int
def z155:S155:=⟨(0:Int),(0:Int)⟩
def k155:Kd S155:=Kd.iso (Kd.pair (Kd.int .i64) (Kd.int .i64)) (fun x:S155=>(x.f0,x.f1))
theorem k155_open {w:World} {x:S155} {cs:List Value} (h:k155.K w x cs):cs=[.int .i64 x.f0, .int .i64 x.f1]:=by
 obtain ⟨_,_,rfl,rfl,rfl⟩:=h
 exact rfl
theorem k155_mkM (w:World) (base:Nat) (ok:Nat→Prop) (x:S155):k155.M w base ok x [.int .i64 x.f0, .int .i64 x.f1]:=⟨[.int .i64 x.f0],[.int .i64 x.f1],rfl,rfl,rfl⟩
def rd_T155 (xs:List S155) (i:Int):S155:=xs.getD i.toNat z155
theorem at_T155 {w:World} {A:Option Addr} {n:Nat} {xs:List S155} (h:Kd.C k155 w A n xs) (i:Int) (h0:0≤i) (h1:i<n) : ∃ ad,A=some ad∧w.cell? (ad.add (i.toNat*2))=some (.int .i64 (rd_T155 xs i).f0)∧w.cell? ⟨(ad.add (i.toNat*2)).block,(ad.add (i.toNat*2)).off+1,none⟩=some (.int .i64 (rd_T155 xs i).f1):=by
 obtain ⟨ad,c,e,_,hK,hc0⟩:=Kd.C_get h z155 i h0 h1
 have hc : ∀ j u,c[j]? = some u→w.cell? (ad.add (i.toNat*2+j))=some u:=hc0
 obtain rfl:=k155_open hK
 exact ⟨ad,e,hc 0 _ rfl,by rw [← add_field _ _ 1 (by omega)];exact hc 1 _ rfl⟩
/-! #### struct type 102, nested in itself -/
structure S102 where
  f0:Int
  f1:Int
  f2:Int
  f3:(List S155)
  f4:(List S102)
def z102:S102:=⟨(0:Int),(0:Int),(0:Int),([]:List S155),([]:List S102)⟩
def F102 (d:Kd S102):Kd S102:=Kd.iso (Kd.pair (Kd.int .i64) (Kd.pair (Kd.int .i64) (Kd.pair (Kd.int .i64) (Kd.pair (Kd.slice 155 k155) (Kd.slice 102 d))))) (fun x:S102=>(x.f0,x.f1,x.f2,x.f3,x.f4))
theorem mono102:Kd.Mono F102:=Kd.mono_iso _ (Kd.mono_pair (Kd.mono_const _) (Kd.mono_pair (Kd.mono_const _) (Kd.mono_pair (Kd.mono_const _) (Kd.mono_pair (Kd.mono_const _) (Kd.mono_slice 102 Kd.mono_id)))))
theorem sub102:Kd.Sub F102 [102,155]:=Kd.sub_iso _ (Kd.sub_pair (Kd.sub_const _ (by decide)) (Kd.sub_pair (Kd.sub_const _ (by decide)) (Kd.sub_pair (Kd.sub_const _ (by decide)) (Kd.sub_pair (Kd.sub_const _ (by decide)) (Kd.sub_slice 102 (by decide) Kd.sub_id)))))
theorem sz102 : ∀ n,(Kd.upto F102 5 [102,155] n).sz=5:=Kd.upto_sz (fun _=>rfl)
def k102:Kd S102:=Kd.fix F102 5 [102,155] sz102 (Kd.upto_E sub102)
theorem k102_open {w:World} {x:S102} {cs:List Value} (h:k102.K w x cs) : ∃ A3 c3 A4 c4,cs=[.int .i64 x.f0, .int .i64 x.f1, .int .i64 x.f2, .slice A3 x.f3.length c3, .slice A4 x.f4.length c4]∧x.f3.length≤c3∧k155.C w A3 x.f3.length x.f3∧x.f4.length≤c4∧k102.C w A4 x.f4.length x.f4:=by
 obtain ⟨n,h⟩:=h
 cases n with
 | zero=>exact h.elim
 | succ n =>
  obtain ⟨_,_,rfl,rfl,⟨_,_,rfl,rfl,⟨_,_,rfl,rfl,⟨_,_,rfl,⟨A3,c3,rfl,l3,g3⟩,⟨A4,c4,rfl,l4,g4⟩⟩⟩⟩⟩:=h
  exact ⟨A3,c3,A4,c4,rfl,l3,g3,l4,Kd.fix_C g4⟩
theorem k102_mkM (w:World) (base:Nat) (ok:Nat→Prop) (x:S102) {v3:Value} (g3:k155.R 155 w base ok v3 x.f3) {v4:Value} (g4:k102.R 102 w base ok v4 x.f4):k102.M w base ok x [.int .i64 x.f0, .int .i64 x.f1, .int .i64 x.f2,v3,v4]:=by
 obtain ⟨n4,q4⟩:=Kd.fix_R_back mono102 g4
 have r4:=Kd.upto_R_le mono102 sz102 (show n4≤n4 by omega) q4
 exact ⟨n4+1,⟨[.int .i64 x.f0],[.int .i64 x.f1, .int .i64 x.f2,v3,v4],rfl,rfl,⟨[.int .i64 x.f1],[.int .i64 x.f2,v3,v4],rfl,rfl,⟨[.int .i64 x.f2],[v3,v4],rfl,rfl,⟨[v3],[v4],rfl,⟨v3,rfl,g3⟩,⟨v4,rfl,r4⟩⟩⟩⟩⟩⟩
def rd_T102 (xs:List S102) (i:Int):S102:=xs.getD i.toNat z102
theorem at_T102 {w:World} {A:Option Addr} {n:Nat} {xs:List S102} (h:Kd.C k102 w A n xs) (i:Int) (h0:0≤i) (h1:i<n) : ∃ ad A3 c3 A4 c4,A=some ad∧w.cell? (ad.add (i.toNat*5))=some (.int .i64 (rd_T102 xs i).f0)∧w.cell? ⟨(ad.add (i.toNat*5)).block,(ad.add (i.toNat*5)).off+1,none⟩=some (.int .i64 (rd_T102 xs i).f1)∧w.cell? ⟨(ad.add (i.toNat*5)).block,(ad.add (i.toNat*5)).off+2,none⟩=some (.int .i64 (rd_T102 xs i).f2)∧w.cell? ⟨(ad.add (i.toNat*5)).block,(ad.add (i.toNat*5)).off+3,none⟩=some (.slice A3 (rd_T102 xs i).f3.length c3)∧w.cell? ⟨(ad.add (i.toNat*5)).block,(ad.add (i.toNat*5)).off+4,none⟩=some (.slice A4 (rd_T102 xs i).f4.length c4)∧(rd_T102 xs i).f3.length≤c3∧k155.C w A3 (rd_T102 xs i).f3.length (rd_T102 xs i).f3∧(rd_T102 xs i).f4.length≤c4∧k102.C w A4 (rd_T102 xs i).f4.length (rd_T102 xs i).f4:=by
 obtain ⟨ad,c,e,_,hK,hc0⟩:=Kd.C_get h z102 i h0 h1
 have hc : ∀ j u,c[j]? = some u→w.cell? (ad.add (i.toNat*5+j))=some u:=hc0
 obtain ⟨A3,c3,A4,c4,rfl,l3,g3,l4,g4⟩:=k102_open hK
 exact ⟨ad,A3,c3,A4,c4,e,hc 0 _ rfl,by rw [← add_field _ _ 1 (by omega)];exact hc 1 _ rfl,by rw [← add_field _ _ 2 (by omega)];exact hc 2 _ rfl,by rw [← add_field _ _ 3 (by omega)];exact hc 3 _ rfl,by rw [← add_field _ _ 4 (by omega)];exact hc 4 _ rfl,l3,g3,l4,g4⟩
/-! #### struct type 25, nested in itself -/
structure S25 where
  f0:Int
  f1:ByteArray
  f2:(List ByteArray)
  f3:(List S25)
def z25:S25:=⟨(0:Int),(⟨#[]⟩:ByteArray),([]:List ByteArray),([]:List S25)⟩
def F25 (d:Kd S25):Kd S25:=Kd.iso (Kd.pair (Kd.int .i64) (Kd.pair Kd.string (Kd.pair (Kd.slice 9 Kd.string) (Kd.slice 25 d)))) (fun x:S25=>(x.f0,x.f1,x.f2,x.f3))
theorem mono25:Kd.Mono F25:=Kd.mono_iso _ (Kd.mono_pair (Kd.mono_const _) (Kd.mono_pair (Kd.mono_const _) (Kd.mono_pair (Kd.mono_const _) (Kd.mono_slice 25 Kd.mono_id))))
theorem sub25:Kd.Sub F25 [9,25]:=Kd.sub_iso _ (Kd.sub_pair (Kd.sub_const _ (by decide)) (Kd.sub_pair (Kd.sub_const _ (by decide)) (Kd.sub_pair (Kd.sub_const _ (by decide)) (Kd.sub_slice 25 (by decide) Kd.sub_id))))
theorem sz25 : ∀ n,(Kd.upto F25 4 [9,25] n).sz=4:=Kd.upto_sz (fun _=>rfl)
def k25:Kd S25:=Kd.fix F25 4 [9,25] sz25 (Kd.upto_E sub25)
theorem k25_open {w:World} {x:S25} {cs:List Value} (h:k25.K w x cs) : ∃ A2 c2 A3 c3,cs=[.int .i64 x.f0, .string x.f1, .slice A2 x.f2.length c2, .slice A3 x.f3.length c3]∧x.f2.length≤c2∧Kd.string.C w A2 x.f2.length x.f2∧x.f3.length≤c3∧k25.C w A3 x.f3.length x.f3:=by
 obtain ⟨n,h⟩:=h
 cases n with
 | zero=>exact h.elim
 | succ n =>
  obtain ⟨_,_,rfl,rfl,⟨_,_,rfl,rfl,⟨_,_,rfl,⟨A2,c2,rfl,l2,g2⟩,⟨A3,c3,rfl,l3,g3⟩⟩⟩⟩:=h
  exact ⟨A2,c2,A3,c3,rfl,l2,g2,l3,Kd.fix_C g3⟩
theorem k25_mkM (w:World) (base:Nat) (ok:Nat→Prop) (x:S25) {v2:Value} (g2:Kd.string.R 9 w base ok v2 x.f2) {v3:Value} (g3:k25.R 25 w base ok v3 x.f3):k25.M w base ok x [.int .i64 x.f0, .string x.f1,v2,v3]:=by
 obtain ⟨n3,q3⟩:=Kd.fix_R_back mono25 g3
 have r3:=Kd.upto_R_le mono25 sz25 (show n3≤n3 by omega) q3
 exact ⟨n3+1,⟨[.int .i64 x.f0],[.string x.f1,v2,v3],rfl,rfl,⟨[.string x.f1],[v2,v3],rfl,rfl,⟨[v2],[v3],rfl,⟨v2,rfl,g2⟩,⟨v3,rfl,r3⟩⟩⟩⟩⟩
def rd_T25 (xs:List S25) (i:Int):S25:=xs.getD i.toNat z25
theorem at_T25 {w:World} {A:Option Addr} {n:Nat} {xs:List S25} (h:Kd.C k25 w A n xs) (i:Int) (h0:0≤i) (h1:i<n) : ∃ ad A2 c2 A3 c3,A=some ad∧w.cell? (ad.add (i.toNat*4))=some (.int .i64 (rd_T25 xs i).f0)∧w.cell? ⟨(ad.add (i.toNat*4)).block,(ad.add (i.toNat*4)).off+1,none⟩=some (.string (rd_T25 xs i).f1)∧w.cell? ⟨(ad.add (i.toNat*4)).block,(ad.add (i.toNat*4)).off+2,none⟩=some (.slice A2 (rd_T25 xs i).f2.length c2)∧w.cell? ⟨(ad.add (i.toNat*4)).block,(ad.add (i.toNat*4)).off+3,none⟩=some (.slice A3 (rd_T25 xs i).f3.length c3)∧(rd_T25 xs i).f2.length≤c2∧Kd.string.C w A2 (rd_T25 xs i).f2.length (rd_T25 xs i).f2∧(rd_T25 xs i).f3.length≤c3∧k25.C w A3 (rd_T25 xs i).f3.length (rd_T25 xs i).f3:=by
 obtain ⟨ad,c,e,_,hK,hc0⟩:=Kd.C_get h z25 i h0 h1
 have hc : ∀ j u,c[j]? = some u→w.cell? (ad.add (i.toNat*4+j))=some u:=hc0
 obtain ⟨A2,c2,A3,c3,rfl,l2,g2,l3,g3⟩:=k25_open hK
 exact ⟨ad,A2,c2,A3,c3,e,hc 0 _ rfl,by rw [← add_field _ _ 1 (by omega)];exact hc 1 _ rfl,by rw [← add_field _ _ 2 (by omega)];exact hc 2 _ rfl,by rw [← add_field _ _ 3 (by omega)];exact hc 3 _ rfl,l2,g2,l3,g3⟩
end Go.Proofs.YtnejkimpkaopoaaGreatDoor.Q

/- Len64: how many bits (as Ur of wip/bf/u). -/
import Derived.Test.YtnejkimpkaopoaaGreatDoorQ11
namespace Go.Proofs.YtnejkimpkaopoaaGreatDoor.Q
open RowKit YtnejkimpkaopoaaGreatDoorW.PrintWords YtnejkimpkaopoaaGreatDoorW.PrintLast YtnejkimpkaopoaaGreatDoorW.PrintMore
set_option linter.unusedVariables false
theorem wr {i:Int} (h0 : -9223372036854775808≤i) (h:i≤9223372036854775807):wrap64 i=i:=by unfold wrap64;omega
def allB (f:Nat→Bool):Nat→Bool
  | 0=>true
  | n+1=>f n && allB f n
theorem allB_at {f:Nat→Bool} : ∀ {n:Nat}, allB f n=true → ∀ i,i<n→f i=true
  | 0,_,i,h=>by omega
  | n+1,h,i,hi=>by
    rw [allB,Bool.and_eq_true] at h
    by_cases e:i=n
    · rw [e];exact h.1
    · exact allB_at h.2 i (by omega)
def len8:ByteArray:=(⟨#[0,1,2,2,3,3,3,3,4,4,4,4,4,4,4,4,5,5,5,5,5,5,5,5,5,5,5,5,5,5,5,5,6,6,6,6,6,6,6,6,6,6,6,6,6,6,6,6,6,6,6,6,6,6,6,6,6,6,6,6,6,6,6,6,7,7,7,7,7,7,7,7,7,7,7,7,7,7,7,7,7,7,7,7,7,7,7,7,7,7,7,7,7,7,7,7,7,7,7,7,7,7,7,7,7,7,7,7,7,7,7,7,7,7,7,7,7,7,7,7,7,7,7,7,7,7,7,7,8,8,8,8,8,8,8,8,8,8,8,8,8,8,8,8,8,8,8,8,8,8,8,8,8,8,8,8,8,8,8,8,8,8,8,8,8,8,8,8,8,8,8,8,8,8,8,8,8,8,8,8,8,8,8,8,8,8,8,8,8,8,8,8,8,8,8,8,8,8,8,8,8,8,8,8,8,8,8,8,8,8,8,8,8,8,8,8,8,8,8,8,8,8,8,8,8,8,8,8,8,8,8,8,8,8,8,8,8,8,8,8,8,8,8,8,8,8,8,8,8,8,8,8,8,8,8,8]⟩:ByteArray)
def len8B (i:Nat):Bool:=let t:=(bt len8 (i:Int)).toNat;decide (bt len8 (i:Int)=(t:Int)) && decide (i=0∨(1≤t∧t≤8∧2 ^ (t - 1)≤i∧i<2 ^ t))
theorem len8_all:allB len8B 256=true:=by decide+kernel
theorem len8_at {i:Nat} (h0:0<i) (h:i<256) : ∃ t:Nat,bt len8 (i:Int)=(t:Int)∧1≤t∧t≤8∧2 ^ (t - 1)≤i∧i<2 ^ t:=by
 have h1:=allB_at len8_all i h
 unfold len8B at h1
 simp only [Bool.and_eq_true,decide_eq_true_eq] at h1
 obtain ⟨h1,h2⟩:=h1
 exact ⟨_,h1,h2.resolve_left (by omega)⟩
theorem len_up {x n t:Nat} (ht:1≤t) (h1:2 ^ (t - 1)≤x / 2 ^ n) (h2:x / 2 ^ n<2 ^ t):2 ^ (n+t - 1)≤x∧x<2 ^ (n+t):=by
 have hn:0<2 ^ n:=Nat.two_pow_pos n
 constructor
 ·
  rw [show n+t - 1=(t - 1)+n by omega,Nat.pow_add]
  exact (Nat.le_div_iff_mul_le hn).1 h1
 rw [Nat.add_comm n t,Nat.pow_add]
 exact (Nat.div_lt_iff_lt_mul hn).1 h2
theorem len_j0 {x n:Nat} (k:Nat) (h0:0<x) (h:x<4294967296) (hn:n≤32) : ∃ L:Nat,bits_Len64.j0 (k+1) (x:Int) (n:Int)=some ((n+L:Nat):Int)∧1≤L∧L≤32∧2 ^ (L - 1)≤x∧x<2 ^ L:=by
 have fin : ∀ y s:Nat,y=x / 2 ^ s→0<y→y<256→s≤24 → ∃ t:Nat,bt len8 (y:Int)=(t:Int)∧t≤8∧(∃ L:Nat,L=s+t∧1≤L∧L≤32∧2 ^ (L - 1)≤x∧x<2 ^ L):=by
  intro y s hy y0 y1 hs
  obtain ⟨t,a1,a2,a3,a4,a5⟩:=len8_at y0 y1
  rw [hy] at a4 a5
  obtain ⟨b1,b2⟩:=len_up a2 a4 a5
  exact ⟨t,a1,a3,s+t,rfl,by omega,by omega,b1,b2⟩
 have e16:(2:Nat) ^ 16=65536:=by decide
 have e24:(2:Nat) ^ 24=16777216:=by decide
 have e8:(2:Nat) ^ 8=256:=by decide
 rw [bits_Len64.j0]
 by_cases c1:x ≥ 65536
 ·
  rw [if_pos (by omega)]
  by_cases c2:x / 65536 ≥ 256
  ·
   rw [if_pos (by omega),if_pos (by omega),if_pos (by omega)]
   obtain ⟨t,a1,a2,L,hL,a3⟩:=fin (x / 65536 / 256) 24 (by rw [e24];omega) (by omega) (by omega) (by omega)
   have e:(x:Int) / 65536 / 256 % 256=((x / 65536 / 256:Nat):Int):=by omega
   have a1':bt (⟨#[0,1,2,2,3,3,3,3,4,4,4,4,4,4,4,4,5,5,5,5,5,5,5,5,5,5,5,5,5,5,5,5,6,6,6,6,6,6,6,6,6,6,6,6,6,6,6,6,6,6,6,6,6,6,6,6,6,6,6,6,6,6,6,6,7,7,7,7,7,7,7,7,7,7,7,7,7,7,7,7,7,7,7,7,7,7,7,7,7,7,7,7,7,7,7,7,7,7,7,7,7,7,7,7,7,7,7,7,7,7,7,7,7,7,7,7,7,7,7,7,7,7,7,7,7,7,7,7,8,8,8,8,8,8,8,8,8,8,8,8,8,8,8,8,8,8,8,8,8,8,8,8,8,8,8,8,8,8,8,8,8,8,8,8,8,8,8,8,8,8,8,8,8,8,8,8,8,8,8,8,8,8,8,8,8,8,8,8,8,8,8,8,8,8,8,8,8,8,8,8,8,8,8,8,8,8,8,8,8,8,8,8,8,8,8,8,8,8,8,8,8,8,8,8,8,8,8,8,8,8,8,8,8,8,8,8,8,8,8,8,8,8,8,8,8,8,8,8,8,8,8,8,8,8,8,8]⟩:ByteArray) ((x / 65536 / 256:Nat):Int)=(t:Int):=a1
   rw [e,a1',wr (i:=(n:Int)+16) (by omega) (by omega),wr (i:=(n:Int)+16+8) (by omega) (by omega),wr (i:=(t:Int)) (by omega) (by omega),wr (by omega) (by omega)]
   exact ⟨L,congrArg some (by omega),a3⟩
  rw [if_neg (by omega),if_pos (by omega),if_pos (by omega)]
  obtain ⟨t,a1,a2,L,hL,a3⟩:=fin (x / 65536) 16 (by rw [e16]) (by omega) (by omega) (by omega)
  have e:(x:Int) / 65536 % 256=((x / 65536:Nat):Int):=by omega
  have a1':bt (⟨#[0,1,2,2,3,3,3,3,4,4,4,4,4,4,4,4,5,5,5,5,5,5,5,5,5,5,5,5,5,5,5,5,6,6,6,6,6,6,6,6,6,6,6,6,6,6,6,6,6,6,6,6,6,6,6,6,6,6,6,6,6,6,6,6,7,7,7,7,7,7,7,7,7,7,7,7,7,7,7,7,7,7,7,7,7,7,7,7,7,7,7,7,7,7,7,7,7,7,7,7,7,7,7,7,7,7,7,7,7,7,7,7,7,7,7,7,7,7,7,7,7,7,7,7,7,7,7,7,8,8,8,8,8,8,8,8,8,8,8,8,8,8,8,8,8,8,8,8,8,8,8,8,8,8,8,8,8,8,8,8,8,8,8,8,8,8,8,8,8,8,8,8,8,8,8,8,8,8,8,8,8,8,8,8,8,8,8,8,8,8,8,8,8,8,8,8,8,8,8,8,8,8,8,8,8,8,8,8,8,8,8,8,8,8,8,8,8,8,8,8,8,8,8,8,8,8,8,8,8,8,8,8,8,8,8,8,8,8,8,8,8,8,8,8,8,8,8,8,8,8,8,8,8,8,8,8]⟩:ByteArray) ((x / 65536:Nat):Int)=(t:Int):=a1
  rw [e,a1',wr (i:=(n:Int)+16) (by omega) (by omega),wr (i:=(t:Int)) (by omega) (by omega),wr (by omega) (by omega)]
  exact ⟨L,congrArg some (by omega),a3⟩
 rw [if_neg (by omega)]
 by_cases c2:x ≥ 256
 ·
  rw [if_pos (by omega),if_pos (by omega),if_pos (by omega)]
  obtain ⟨t,a1,a2,L,hL,a3⟩:=fin (x / 256) 8 (by rw [e8]) (by omega) (by omega) (by omega)
  have e:(x:Int) / 256 % 256=((x / 256:Nat):Int):=by omega
  have a1':bt (⟨#[0,1,2,2,3,3,3,3,4,4,4,4,4,4,4,4,5,5,5,5,5,5,5,5,5,5,5,5,5,5,5,5,6,6,6,6,6,6,6,6,6,6,6,6,6,6,6,6,6,6,6,6,6,6,6,6,6,6,6,6,6,6,6,6,7,7,7,7,7,7,7,7,7,7,7,7,7,7,7,7,7,7,7,7,7,7,7,7,7,7,7,7,7,7,7,7,7,7,7,7,7,7,7,7,7,7,7,7,7,7,7,7,7,7,7,7,7,7,7,7,7,7,7,7,7,7,7,7,8,8,8,8,8,8,8,8,8,8,8,8,8,8,8,8,8,8,8,8,8,8,8,8,8,8,8,8,8,8,8,8,8,8,8,8,8,8,8,8,8,8,8,8,8,8,8,8,8,8,8,8,8,8,8,8,8,8,8,8,8,8,8,8,8,8,8,8,8,8,8,8,8,8,8,8,8,8,8,8,8,8,8,8,8,8,8,8,8,8,8,8,8,8,8,8,8,8,8,8,8,8,8,8,8,8,8,8,8,8,8,8,8,8,8,8,8,8,8,8,8,8,8,8,8,8,8,8]⟩:ByteArray) ((x / 256:Nat):Int)=(t:Int):=a1
  rw [e,a1',wr (i:=(n:Int)+8) (by omega) (by omega),wr (i:=(t:Int)) (by omega) (by omega),wr (by omega) (by omega)]
  exact ⟨L,congrArg some (by omega),a3⟩
 rw [if_neg (by omega),if_pos (by omega),if_pos (by omega)]
 obtain ⟨t,a1,a2,L,hL,a3⟩:=fin x 0 (by rw [Nat.pow_zero,Nat.div_one]) (by omega) (by omega) (by omega)
 have e:(x:Int) % 256=(x:Int):=by omega
 have a1':bt (⟨#[0,1,2,2,3,3,3,3,4,4,4,4,4,4,4,4,5,5,5,5,5,5,5,5,5,5,5,5,5,5,5,5,6,6,6,6,6,6,6,6,6,6,6,6,6,6,6,6,6,6,6,6,6,6,6,6,6,6,6,6,6,6,6,6,7,7,7,7,7,7,7,7,7,7,7,7,7,7,7,7,7,7,7,7,7,7,7,7,7,7,7,7,7,7,7,7,7,7,7,7,7,7,7,7,7,7,7,7,7,7,7,7,7,7,7,7,7,7,7,7,7,7,7,7,7,7,7,7,8,8,8,8,8,8,8,8,8,8,8,8,8,8,8,8,8,8,8,8,8,8,8,8,8,8,8,8,8,8,8,8,8,8,8,8,8,8,8,8,8,8,8,8,8,8,8,8,8,8,8,8,8,8,8,8,8,8,8,8,8,8,8,8,8,8,8,8,8,8,8,8,8,8,8,8,8,8,8,8,8,8,8,8,8,8,8,8,8,8,8,8,8,8,8,8,8,8,8,8,8,8,8,8,8,8,8,8,8,8,8,8,8,8,8,8,8,8,8,8,8,8,8,8,8,8,8,8]⟩:ByteArray) (x:Int)=(t:Int):=a1
 rw [e,a1',wr (i:=(t:Int)) (by omega) (by omega),wr (by omega) (by omega)]
 exact ⟨L,congrArg some (by omega),a3⟩
theorem len64_eq {a:Nat} (k:Nat) (h0:0<a) (h:a<18446744073709551616) : ∃ L:Nat,bits_Len64.f (k+1) (a:Int)=some (L:Int)∧1≤L∧L≤64∧2 ^ (L - 1)≤a∧a<2 ^ L:=by
 unfold bits_Len64.f
 by_cases c:a ≥ 4294967296
 rotate_left
 ·
  rw [if_neg (by omega)]
  obtain ⟨L,h1,h2,h3,h4,h5⟩:=len_j0 (x:=a) (n:=0) k h0 (by omega) (by omega)
  have h1:bits_Len64.j0 (k+1) (a:Int) 0=some ((0+L:Nat):Int):=h1
  rw [h1]
  exact ⟨L,congrArg some (by omega),h2,by omega,h4,h5⟩
 rw [if_pos (by omega)]
 obtain ⟨L,h1,h2,h3,h4,h5⟩:=len_j0 (x:=a / 4294967296) (n:=32) k (by omega) (by omega) (by omega)
 have e:(a:Int) / 4294967296=((a / 4294967296:Nat):Int):=by omega
 have h1:bits_Len64.j0 (k+1) ((a / 4294967296:Nat):Int) 32=some ((32+L:Nat):Int):=h1
 rw [e,h1]
 have e32:(2:Nat) ^ 32=4294967296:=by decide
 obtain ⟨b1,b2⟩:=len_up (x:=a) (n:=32) h2 (by rw [e32];exact h4) (by rw [e32];exact h5)
 exact ⟨32+L,rfl,by omega,by omega,b1,b2⟩
end Go.Proofs.YtnejkimpkaopoaaGreatDoor.Q

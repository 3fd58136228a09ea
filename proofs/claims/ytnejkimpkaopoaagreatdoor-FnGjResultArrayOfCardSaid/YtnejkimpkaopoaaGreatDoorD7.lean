/- commonPrefixLenIgnoreCase and special on a number's text. -/
import Derived.Test.YtnejkimpkaopoaaGreatDoorQ0
import Derived.BigGuard
import Derived.Deep.DeepMust
namespace Go.Proofs.YtnejkimpkaopoaaGreatDoor.Q
open RowKit YtnejkimpkaopoaaGreatDoorW.PrintWords YtnejkimpkaopoaaGreatDoorW.PrintLast YtnejkimpkaopoaaGreatDoorW.PrintMore
set_option maxHeartbeats 8000000
set_option maxRecDepth 100000
attribute [local go_sem] max2_int min2_int max_two min_two max_three min_three max_four min_four
set_option linter.unusedVariables false
set_option linter.unusedSimpArgs false
theorem bt0 {s:ByteArray} (h:0<s.size):((s[0]'h).toNat:Int)=bt s 0:=by
 unfold bt;rw [dif_pos (show (0:Int).toNat<s.size from h)];rfl
theorem strconv_common0.calls (s p:ByteArray) (w:World) (hp:0<p.size) (hpb:57<bt p 0) (hpb2:bt p 0<256) (hs:0<s.size→48≤bt s 0∧bt s 0≤57) :
 Calls Tryz.prog 242 #[.string s, .string p] w fun e w'=>e = .returned (.int .i64 0)∧w=w':=by
 go_enter Tryz.func242,Tryz.ntmps242
 by_cases c:s.size=0
 ·
  have c1:(s.size:Int)=0:=by omega
  have c2:(if (s.size:Int)<(p.size:Int) then (s.size:Int) else (p.size:Int))=0:=by rw [if_pos (by omega)];exact c1
  go_wp2
  go_loopg [6] 1 (fun kq v6 w'=>v6 = .int .i64 0∧w=w')
  case atStart=>exact ⟨rfl,rfl⟩
  case round =>
  obtain ⟨rfl,rfl⟩:=hrel
  go_wp2
  go_ret
  exact ⟨rfl,rfl⟩
 obtain ⟨n,hn⟩ : ∃ n:Int,(if (s.size:Int)<(p.size:Int) then (s.size:Int) else (p.size:Int))=n:=⟨_,rfl⟩
 have hn0:0<n:=by split at hn <;> omega
 have hs1:=hs (by omega)
 obtain ⟨x,hx⟩ : ∃ x,bt s 0=x:=⟨_,rfl⟩
 obtain ⟨y,hy⟩ : ∃ y,bt p 0=y:=⟨_,rfl⟩
 rw [hx] at hs1
 rw [hy] at hpb hpb2
 clear hs
 have hsz:0<s.size:=by omega
 clear hn hn0
 have hb0:((s[0]'hsz).toNat:Int)=x:=by rw [← hx];exact bt0 hsz
 have hb1:((p[0]'hp).toNat:Int)=y:=by rw [← hy];exact bt0 hp
 have hxy:(x == y)=false:=by simp;omega
 have hxz:(x != y)=true:=by simp;omega
 clear hx hy
 by_cases cl:s.size<p.size
 ·
  have cl1:((s.size:Int)<(p.size:Int))=True:=eq_true (by omega)
  have hsI:((0:Int)<(s.size:Int))=True:=eq_true (by omega)
  have hpI:((0:Int)<(p.size:Int))=True:=eq_true (by omega)
  go_wp2
  go_loopg [6] 1 (fun kq v6 w'=>v6 = .int .i64 0∧w=w')
  case atStart=>exact ⟨rfl,rfl⟩
  case round =>
  obtain ⟨rfl,rfl⟩:=hrel
  go_wp2
  go_ret
  exact ⟨rfl,rfl⟩
 have cl1:((s.size:Int)<(p.size:Int))=False:=eq_false (by omega)
 have hsI:((0:Int)<(s.size:Int))=True:=eq_true (by omega)
 have hpI:((0:Int)<(p.size:Int))=True:=eq_true (by omega)
 go_wp2
 go_loopg [6] 1 (fun kq v6 w'=>v6 = .int .i64 0∧w=w')
 case atStart=>exact ⟨rfl,rfl⟩
 case round =>
 obtain ⟨rfl,rfl⟩:=hrel
 go_wp2
 go_ret
 exact ⟨rfl,rfl⟩
theorem extract1_bt {s:ByteArray} (h:1<s.size→48≤bt s 1∧bt s 1≤57):0<(s.extract 1 s.size).size→48≤bt (s.extract 1 s.size) 0∧bt (s.extract 1 s.size) 0≤57:=by
 intro h0
 have h1:1<s.size:=by
  rw [ByteArray.size_extract] at h0
  omega
 have h2:bt (s.extract 1 s.size) 0=bt s 1:=by
  rw [← bt0 h0,ByteArray.getElem_extract]
  unfold bt
  rw [dif_pos (show (1:Int).toNat<s.size from h1)]
  rfl
 rw [h2]
 exact h h1
theorem strconv_common_inf.calls (s:ByteArray) (w:World) (hs:0<s.size→48≤bt s 0∧bt s 0≤57) :
    Calls Tryz.prog 242 #[.string s, .string { data := #[105,110,102,105,110,105,116,121] }] w fun e w'=>e = .returned (.int .i64 0)∧w=w' :=
  strconv_common0.calls s _ w (by decide) (by rw [show bt { data := #[105,110,102,105,110,105,116,121] } 0=105 from rfl];decide) (by rw [show bt { data := #[105,110,102,105,110,105,116,121] } 0=105 from rfl];decide) hs
theorem strconv_special.calls (s:ByteArray) (w:World) (hs:0<s.size) (hb:(48≤bt s 0∧bt s 0≤57)∨(bt s 0=45∧(1<s.size→48≤bt s 1∧bt s 1≤57))) :
 Calls Tryz.prog 213 #[.string s] w fun e w'=>e = .returned (.tuple #[.float .f64 0, .int .i64 0, .bool false])∧w=w':=by
 obtain ⟨x,hx⟩ : ∃ x,bt s 0=x:=⟨_,rfl⟩
 have hb0:((s[0]'hs).toNat:Int)=x:=by rw [← hx];exact bt0 hs
 have hsz:((s.size:Int) == 0)=false:=beq_false_of_ne (by omega)
 have hpI:((0:Int)<(s.size:Int))=True:=eq_true (by omega)
 rw [hx] at hb
 clear hx
 go_enter Tryz.func213,Tryz.ntmps213
 rcases hb with hb|⟨rfl,hb⟩
 ·
  have e1:(x == 43)=false:=by simp;omega
  have e2:(x == 45)=false:=by simp;omega
  have e3:(x == 105)=false:=by simp;omega
  have e4:(x == 73)=false:=by simp;omega
  have e5:(x == 110)=false:=by simp;omega
  have e6:(x == 78)=false:=by simp;omega
  go_wp2
  go_ret3
  exact ⟨rfl,rfl⟩
 have HB:=Ak hb
 clear hb
 have H83:=Ak (strconv_common_inf.calls (s.extract 1 s.size) w (extract1_bt HB.out))
 go_wp2_with (first|(go_at_call 242;go_must (refine H83.out.mono ?_);rintro e w9 ⟨rfl,rfl⟩))
 go_wp2
 go_ret3
 exact ⟨rfl,rfl⟩
end Go.Proofs.YtnejkimpkaopoaaGreatDoor.Q

/- Rearrangements of a row, in plain words: swapped places, swapped ranges, rotated ranges, sorted ranges. -/
namespace Go.Proofs.Ytbkgoccnegjdhaa.M
variable {α:Type}
def swp (f:Nat→α) (i j:Nat):Nat→α:=fun k=>if k=i then f j else if k=j then f i else f k
/-- [a, a + n) and [b, b + n) change places. -/
def swr (a b n:Nat) (f:Nat→α):Nat→α:=fun k=>if a≤k∧k<a+n then f (k - a+b) else if b≤k∧k<b+n then f (k - b+a) else f k
/-- [a, m) and [m, b) change places. -/
def rot (a m b:Nat) (f:Nat→α):Nat→α:=fun k=>if a≤k∧k<a+(b - m) then f (k+(m - a)) else if a+(b - m)≤k∧k<b then f (k - (b - m)) else f k
theorem swr_zero (a b:Nat) (f:Nat→α):swr a b 0 f=f:=by
  funext k;unfold swr;rw [if_neg (by omega),if_neg (by omega)]
theorem swr_succ {a b n:Nat} (h:a+n<b) (f:Nat→α):swr a b (n+1) f=swp (swr a b n f) (a+n) (b+n):=by
  funext k
  unfold swp
  by_cases h1:k=a+n
  · subst h1
    rw [if_pos rfl]
    unfold swr
    rw [if_pos (by omega),if_neg (by omega),if_neg (by omega)]
    congr 1;omega
  · rw [if_neg h1]
    by_cases h2:k=b+n
    · subst h2
      rw [if_pos rfl]
      unfold swr
      rw [if_neg (by omega),if_pos (by omega),if_neg (by omega),if_neg (by omega)]
      congr 1;omega
    · rw [if_neg h2]
      unfold swr
      by_cases h3:a≤k∧k<a+n
      · rw [if_pos (by omega),if_pos h3]
      · rw [if_neg (by omega),if_neg h3]
        by_cases h4:b≤k∧k<b+n
        · rw [if_pos (by omega),if_pos h4]
        · rw [if_neg (by omega),if_neg h4]
theorem rot_gt {m i j:Nat} (hi:i≤m) (hj:j<i) (f:Nat→α):rot (m - i) m (m+j) f=rot (m - (i - j)) m (m+j) (swr (m - i) m j f):=by
  funext k
  unfold rot swr
  by_cases h1:m - i≤k∧k<m - i+(m+j - m)
  · rw [if_pos h1,if_neg (by omega),if_neg (by omega),if_pos (by omega)]
    congr 1;omega
  · rw [if_neg h1]
    by_cases h2:m - i+(m+j - m)≤k∧k<m+j
    · rw [if_pos h2]
      by_cases h3:k<m - (i - j)+(m+j - m)
      · rw [if_pos (by omega),if_neg (by omega),if_pos (by omega)]
        congr 1;omega
      · rw [if_neg (by omega),if_pos (by omega),if_neg (by omega),if_neg (by omega)]
    · rw [if_neg h2,if_neg (by omega),if_neg (by omega),if_neg (by omega),if_neg (by omega)]
theorem rot_lt {m i j:Nat} (hi:i≤m) (hj:i<j) (f:Nat→α):rot (m - i) m (m+j) f=rot (m - i) m (m+(j - i)) (swr (m - i) (m+j - i) i f):=by
  funext k
  unfold rot swr
  by_cases h1:m - i≤k∧k<m - i+(m+j - m)
  · rw [if_pos h1]
    by_cases h2:k<m - i+(m+(j - i) - m)
    · rw [if_pos (by omega)]
      by_cases h3:k+(m - (m - i))<m+j - i
      · rw [if_neg (by omega),if_neg (by omega)]
      · rw [if_neg (by omega),if_neg (by omega)]
    · rw [if_neg (by omega)]
      by_cases h4:k<m+(j - i)
      · rw [if_pos (by omega),if_pos (by omega)]
        congr 1;omega
      · omega
  · rw [if_neg h1]
    by_cases h2:m - i+(m+j - m)≤k∧k<m+j
    · rw [if_pos h2,if_neg (by omega),if_neg (by omega),if_neg (by omega),if_pos (by omega)]
      congr 1;omega
    · rw [if_neg h2,if_neg (by omega),if_neg (by omega),if_neg (by omega),if_neg (by omega)]
theorem rot_eq {m i:Nat} (hi:i≤m) (f:Nat→α):rot (m - i) m (m+i) f=swr (m - i) m i f:=by
  funext k
  unfold rot swr
  by_cases h1:m - i≤k∧k<m - i+i
  · rw [if_pos (by omega),if_pos h1];congr 1;omega
  · rw [if_neg (by omega),if_neg h1]
    by_cases h2:m≤k∧k<m+i
    · rw [if_pos (by omega),if_pos h2];congr 1;omega
    · rw [if_neg (by omega),if_neg h2]
/-- g is f with the places of [a, b) changed among themselves. -/
def Rearr (a b:Nat) (f g:Nat→α):Prop :=
  ∃ s t:Nat→Nat,(∀ k,t (s k)=k)∧(∀ k,s (t k)=k)∧(∀ k, ¬ (a≤k∧k<b)→s k=k) ∧ ∀ k,g k=f (s k)
theorem Rearr.refl (a b:Nat) (f:Nat→α):Rearr a b f f:=⟨id,id,fun _=>rfl,fun _=>rfl,fun _ _=>rfl,fun _=>rfl⟩
theorem Rearr.trans {a b:Nat} {f g h:Nat→α} (h1:Rearr a b f g) (h2:Rearr a b g h):Rearr a b f h:=by
  obtain ⟨s,t,p1,p2,p3,p4⟩:=h1
  obtain ⟨s',t',q1,q2,q3,q4⟩:=h2
  exact ⟨fun k=>s (s' k),fun k=>t' (t k),fun k=>by dsimp only;rw [p1,q1],fun k=>by dsimp only;rw [q2,p2],fun k hk=>by dsimp only;rw [q3 k hk,p3 k hk],fun k=>by dsimp only;rw [q4,p4]⟩
theorem Rearr.mono {a b c d:Nat} {f g:Nat→α} (h:Rearr a b f g) (h1:c≤a) (h2:b≤d):Rearr c d f g:=by
  obtain ⟨s,t,p1,p2,p3,p4⟩:=h
  exact ⟨s,t,p1,p2,fun k hk=>p3 k (by omega),p4⟩
/-- The places of the range stay in it. -/
theorem Rearr.inside {a b:Nat} {s t:Nat→Nat} (p1 : ∀ k,t (s k)=k) (p3 : ∀ k, ¬ (a≤k∧k<b)→s k=k) {k:Nat} (hk:a≤k∧k<b):a≤s k∧s k<b:=by
  by_cases h:a≤s k∧s k<b
  · exact h
  · have h2:=p3 (s k) h
    have h3:=p1 (s k)
    rw [h2,p1] at h3
    rw [← h3] at h
    exact absurd hk h
theorem Rearr.same {a b:Nat} {f g:Nat→α} (h:Rearr a b f g) {k:Nat} (hk : ¬ (a≤k∧k<b)):g k=f k:=by
  obtain ⟨s,t,p1,p2,p3,p4⟩:=h
  rw [p4,p3 k hk]
/-- What holds of all of a range holds of it rearranged. -/
theorem Rearr.all {a b:Nat} {f g:Nat→α} (h:Rearr a b f g) {p:α→Prop} (hp : ∀ k,a≤k→k<b→p (f k)) : ∀ k,a≤k→k<b→p (g k):=by
  obtain ⟨s,t,p1,p2,p3,p4⟩:=h
  intro k h1 h2
  have:=Rearr.inside p1 p3 ⟨h1,h2⟩
  rw [p4]
  exact hp _ this.1 this.2
theorem Rearr.swap {a b i j:Nat} (f:Nat→α) (hi:a≤i∧i<b) (hj:a≤j∧j<b):Rearr a b f (swp f i j):=by
  refine ⟨fun k=>if k=i then j else if k=j then i else k,fun k=>if k=i then j else if k=j then i else k,fun k=>?_,fun k=>?_,fun k hk=>?_,fun k=>?_⟩
  · dsimp only;by_cases h1:k=i
    · rw [if_pos h1];by_cases h2:j=i
      · rw [if_pos h2];omega
      · rw [if_neg h2,if_pos rfl];omega
    · rw [if_neg h1];by_cases h2:k=j
      · rw [if_pos h2,if_pos rfl];omega
      · rw [if_neg h2,if_neg h1,if_neg h2]
  · dsimp only;by_cases h1:k=i
    · rw [if_pos h1];by_cases h2:j=i
      · rw [if_pos h2];omega
      · rw [if_neg h2,if_pos rfl];omega
    · rw [if_neg h1];by_cases h2:k=j
      · rw [if_pos h2,if_pos rfl];omega
      · rw [if_neg h2,if_neg h1,if_neg h2]
  · dsimp only;rw [if_neg (by omega),if_neg (by omega)]
  · unfold swp;dsimp only;by_cases h1:k=i
    · rw [if_pos h1,if_pos h1]
    · rw [if_neg h1,if_neg h1];by_cases h2:k=j
      · rw [if_pos h2,if_pos h2]
      · rw [if_neg h2,if_neg h2]
theorem Rearr.rot {a m b:Nat} (h1:a≤m) (h2:m≤b) (f:Nat→α):Rearr a b f (M.rot a m b f):=by
  refine ⟨fun k=>if a≤k∧k<a+(b - m) then k+(m - a) else if a+(b - m)≤k∧k<b then k - (b - m) else k,fun k=>if a≤k∧k<m then k+(b - m) else if m≤k∧k<b then k - (m - a) else k,fun k=>?_,fun k=>?_,fun k hk=>?_,fun k=>?_⟩
  · dsimp only;by_cases h3:a≤k∧k<a+(b - m)
    · rw [if_pos h3,if_neg (by omega),if_pos (by omega)];omega
    · rw [if_neg h3];by_cases h4:a+(b - m)≤k∧k<b
      · rw [if_pos h4,if_pos (by omega)];omega
      · rw [if_neg h4,if_neg (by omega),if_neg (by omega)]
  · dsimp only;by_cases h3:a≤k∧k<m
    · rw [if_pos h3,if_neg (by omega),if_pos (by omega)];omega
    · rw [if_neg h3];by_cases h4:m≤k∧k<b
      · rw [if_pos h4,if_pos (by omega)];omega
      · rw [if_neg h4,if_neg (by omega),if_neg (by omega)]
  · dsimp only;rw [if_neg (by omega),if_neg (by omega)]
  · unfold M.rot;dsimp only;by_cases h3:a≤k∧k<a+(b - m)
    · rw [if_pos h3,if_pos h3]
    · rw [if_neg h3,if_neg h3];by_cases h4:a+(b - m)≤k∧k<b
      · rw [if_pos h4,if_pos h4]
      · rw [if_neg h4,if_neg h4]
/-! ### sorted ranges -/
variable {lt:α→α→Bool}
def Srt (lt:α→α→Bool) (f:Nat→α) (a b:Nat):Prop := ∀ i j,a≤i→i<j→j<b→lt (f i) (f j)=true
theorem Srt.sub {f:Nat→α} {a b c d:Nat} (h:Srt lt f a b) (h1:a≤c) (h2:d≤b):Srt lt f c d:=fun i j h3 h4 h5=>h i j (by omega) h4 (by omega)
theorem Srt.congr {f g:Nat→α} {a b:Nat} (h:Srt lt f a b) (he : ∀ k,a≤k→k<b→g k=f k):Srt lt g a b:=fun i j h3 h4 h5=>by rw [he i h3 (by omega),he j (by omega) h5];exact h i j h3 h4 h5
/-- An order of rows: of two, at most one is ahead; what is ahead of what is ahead is ahead. -/
structure Order (lt:α→α→Bool):Prop where
  asym : ∀ x y,lt x y=true→lt y x=false
  tr : ∀ x y z,lt x y=true→lt y z=true→lt x z=true
/-- Of two places below n, one's row is ahead of the other's. -/
def Dist (lt:α→α→Bool) (f:Nat→α) (n:Nat):Prop := ∀ i j,i<n→j<n→i≠j→lt (f i) (f j)=true∨lt (f j) (f i)=true
theorem Dist.of_neg {f:Nat→α} {n i j:Nat} (hd:Dist lt f n) (hi:i<n) (hj:j<n) (hne:i≠j):lt (f i) (f j)=false→lt (f j) (f i)=true:=by
  intro h
  rcases hd i j hi hj hne with h1|h1
  · rw [h] at h1;cases h1
  · exact h1
theorem Dist.rearr {f g:Nat→α} {n a b:Nat} (hd:Dist lt f n) (hr:Rearr a b f g) (hb:b≤n):Dist lt g n:=by
  obtain ⟨s,t,p1,p2,p3,p4⟩:=hr
  intro i j hi hj hne
  have key : ∀ k,k<n→s k<n:=fun k hk=>by
    by_cases h:a≤k∧k<b
    · have:=Rearr.inside p1 p3 h;omega
    · rw [p3 k h];exact hk
  rw [p4,p4]
  exact hd _ _ (key i hi) (key j hj) (fun h=>hne (by rw [← p1 i, ← p1 j,h]))
/-- Two sorted ranges, all of the first ahead of all of the second. -/
theorem Srt.join {f:Nat→α} {a m b:Nat} (h1:Srt lt f a m) (h2:Srt lt f m b) (h : ∀ i j,a≤i→i<m→m≤j→j<b→lt (f i) (f j)=true):Srt lt f a b:=by
  intro i j hi hij hj
  by_cases hm:j<m
  · exact h1 i j hi hij hm
  · by_cases hm2:i<m
    · exact h i j hi hm2 (by omega) hj
    · exact h2 i j (by omega) hij hj
/-- A row's way from f to g in [a, b), b0 to b1 'something was swapped': rearranged; if nothing was swapped it is the same; if something was, it was not sorted. -/
def Trk (lt:α→α→Bool) (a b:Nat) (f:Nat→α) (b0:Bool) (g:Nat→α) (b1:Bool):Prop :=
  Rearr a b f g∧((b1=b0∧g=f)∨(b1=true ∧ ¬ Srt lt f a b))
theorem Trk.refl (a b:Nat) (f:Nat→α) (b0:Bool):Trk lt a b f b0 f b0:=⟨Rearr.refl _ _ _, .inl ⟨rfl,rfl⟩⟩
theorem Trk.mono {a b c d:Nat} {f g:Nat→α} {b0 b1:Bool} (h:Trk lt a b f b0 g b1) (h1:c≤a) (h2:b≤d):Trk lt c d f b0 g b1 :=
  ⟨h.1.mono h1 h2,h.2.imp id fun h3=>⟨h3.1,fun hs=>h3.2 (hs.sub h1 h2)⟩⟩
theorem Trk.trans {a b:Nat} {f g h:Nat→α} {b0 b1 b2:Bool} (h1:Trk lt a b f b0 g b1) (h2:Trk lt a b g b1 h b2):Trk lt a b f b0 h b2:=by
  refine ⟨h1.1.trans h2.1,?_⟩
  rcases h1.2 with ⟨e1,e2⟩|⟨e1,e2⟩
  · subst e1;subst e2;exact h2.2
  · rcases h2.2 with ⟨e3,e4⟩|⟨e3,e4⟩
    · exact .inr ⟨by rw [e3,e1],e2⟩
    · exact .inr ⟨e3,e2⟩
end Go.Proofs.Ytbkgoccnegjdhaa.M
/- What the sort's steps do to a row's order: an element carried to its place, two sorted ranges merged in place. -/
namespace Go.Proofs.Ytbkgoccnegjdhaa.M
variable {α:Type} {lt:α→α→Bool}
theorem Trk.swap (ho:Order lt) {a b:Nat} {f g:Nat→α} {b0 b1:Bool} (h:Trk lt a b f b0 g b1) {i j:Nat} (hi:a≤i) (hij:i<j) (hj:j<b) (hl:lt (g j) (g i)=true):Trk lt a b f b0 (swp g j i) true :=
  h.trans ⟨Rearr.swap g ⟨by omega,hj⟩ ⟨hi,by omega⟩, .inr ⟨rfl,fun hs=>by
    have h1:=hs i j hi hij hj
    rw [ho.asym _ _ h1] at hl;cases hl⟩⟩
/-! ### carried down -/
def Ins (lt:α→α→Bool) (h:Nat→α) (x j i:Nat):Prop:=Srt lt h x j∧Srt lt h j (i+1) ∧ ∀ p q,x≤p→p<j→j<q→q≤i→lt (h p) (h q)=true
theorem Ins.start {g:Nat→α} {x i:Nat} (h:Srt lt g x i):Ins lt g x i i :=
  ⟨h,fun p q h1 h2 h3=>by omega,fun p q h1 h2 h3 h4=>by omega⟩
theorem Ins.step {h:Nat→α} {x j i:Nat} (hI:Ins lt h x j i) (hx:x<j) (hj:j≤i) (hl:lt (h j) (h (j - 1))=true):Ins lt (swp h j (j - 1)) x (j - 1) i:=by
  obtain ⟨h1,h2,h3⟩:=hI
  have e0:swp h j (j - 1) j=h (j - 1):=by unfold swp;rw [if_pos rfl]
  have e1:swp h j (j - 1) (j - 1)=h j:=by unfold swp;rw [if_neg (by omega),if_pos rfl]
  have e2 : ∀ k,k≠j→k≠j - 1→swp h j (j - 1) k=h k:=fun k h4 h5=>by unfold swp;rw [if_neg h4,if_neg h5]
  refine ⟨fun p q h4 h5 h6=>?_,fun p q h4 h5 h6=>?_,fun p q h4 h5 h6 h7=>?_⟩
  · rw [e2 p (by omega) (by omega),e2 q (by omega) (by omega)];exact h1 p q h4 h5 (by omega)
  · by_cases hp:p=j - 1
    · subst hp;rw [e1]
      by_cases hq:q=j
      · subst hq;rw [e0];exact hl
      · rw [e2 q hq (by omega)];exact h2 j q (by omega) (by omega) (by omega)
    · by_cases hp2:p=j
      · subst hp2;rw [e0,e2 q (by omega) (by omega)];exact h3 (p - 1) q (by omega) (by omega) (by omega) (by omega)
      · rw [e2 p hp2 hp,e2 q (by omega) (by omega)];exact h2 p q (by omega) h5 h6
  · rw [e2 p (by omega) (by omega)]
    by_cases hq:q=j
    · subst hq;rw [e0];exact h1 p (q - 1) h4 (by omega) (by omega)
    · rw [e2 q hq (by omega)];exact h3 p q h4 (by omega) (by omega) h7
theorem Ins.stop (ho:Order lt) {h:Nat→α} {x j i:Nat} (hI:Ins lt h x j i) (hx:x≤j) (hj:j≤i) (he:j=x∨lt (h (j - 1)) (h j)=true):Srt lt h x (i+1):=by
  obtain ⟨h1,h2,h3⟩:=hI
  rcases he with rfl|he
  · exact h2
  · by_cases hjx:j=x
    · subst hjx;exact h2
    refine h1.join h2 fun p q h4 h5 h6 h7=>?_
    by_cases hq:q=j
    · subst hq
      by_cases hp:p=q - 1
      · subst hp;exact he
      · exact ho.tr _ _ _ (h1 p (q - 1) h4 (by omega) (by omega)) he
    · exact h3 p q h4 h5 (by omega) (by omega)
/-! ### one element and a sorted range -/
theorem rot_up {a k:Nat} (h:a≤k) (f:Nat→α):swp (rot a (a+1) (k+1) f) k (k+1)=rot a (a+1) (k+2) f:=by
  funext q
  unfold swp
  by_cases h1:q=k
  · subst h1
    rw [if_pos rfl];unfold rot
    rw [if_neg (by omega),if_neg (by omega),if_pos (by omega)]
    congr 1;omega
  · rw [if_neg h1]
    by_cases h2:q=k+1
    · subst h2
      rw [if_pos rfl];unfold rot
      rw [if_neg (by omega),if_pos (by omega),if_neg (by omega),if_pos (by omega)]
      congr 1;omega
    · rw [if_neg h2];unfold rot
      by_cases h3:a≤q∧q<k
      · rw [if_pos (by omega),if_pos (by omega)]
      · rw [if_neg (by omega),if_neg (by omega),if_neg (by omega),if_neg (by omega)]
theorem rot_none {a m:Nat} (f:Nat→α):rot a m m f=f:=by
  funext q;unfold rot
  by_cases h:a≤q∧q<a+(m - m)
  · omega
  · rw [if_neg h]
    by_cases h2:a+(m - m)≤q∧q<m
    · rw [if_pos h2];congr 1;omega
    · rw [if_neg h2]
theorem rot_none' {m b:Nat} (f:Nat→α):rot m m b f=f:=by
  funext q;unfold rot
  by_cases h:m≤q∧q<m+(b - m)
  · rw [if_pos h];congr 1;omega
  · rw [if_neg h,if_neg (by omega)]
theorem rot_down {k m:Nat} (h1:0<k) (h2:k≤m) (f:Nat→α):swp (rot k m (m+1) f) k (k - 1)=rot (k - 1) m (m+1) f:=by
  funext q
  unfold swp
  by_cases h3:q=k
  · subst h3
    rw [if_pos rfl];unfold rot
    rw [if_neg (by omega),if_neg (by omega),if_neg (by omega),if_pos (by omega)]
    congr 1;omega
  · rw [if_neg h3]
    by_cases h4:q=k - 1
    · subst h4
      rw [if_pos rfl];unfold rot
      rw [if_pos (by omega),if_pos (by omega)]
      congr 1;omega
    · rw [if_neg h4];unfold rot
      rw [if_neg (by omega)]
      by_cases h5:k+1≤q∧q<m+1
      · rw [if_pos (by omega),if_neg (by omega),if_pos (by omega)]
      · rw [if_neg (by omega),if_neg (by omega),if_neg (by omega)]
/-- An element ahead of a sorted range is carried up to its place. -/
theorem srt_up {f:Nat→α} {a b i:Nat} (hs:Srt lt f (a+1) b) (h1:a+1≤i) (h2:i≤b) (hlo : ∀ q,a+1≤q→q<i→lt (f q) (f a)=true) (hhi : ∀ q,i≤q→q<b→lt (f a) (f q)=true):Srt lt (rot a (a+1) i f) a b:=by
  have e1 : ∀ k,a≤k→k<i - 1→rot a (a+1) i f k=f (k+1):=fun k h3 h4=>by unfold rot;rw [if_pos (by omega)];congr 1;omega
  have e2:rot a (a+1) i f (i - 1)=f a:=by unfold rot;rw [if_neg (by omega),if_pos (by omega)];congr 1;omega
  have e3 : ∀ k,i≤k→rot a (a+1) i f k=f k:=fun k h3=>by unfold rot;rw [if_neg (by omega),if_neg (by omega)]
  intro p q h3 h4 h5
  by_cases hp:p<i - 1
  · rw [e1 p h3 hp]
    by_cases hq:q<i - 1
    · rw [e1 q (by omega) hq];exact hs (p+1) (q+1) (by omega) (by omega) (by omega)
    · by_cases hq2:q=i - 1
      · subst hq2;rw [e2];exact hlo (p+1) (by omega) (by omega)
      · rw [e3 q (by omega)];exact hs (p+1) q (by omega) (by omega) h5
  · by_cases hp2:p=i - 1
    · subst hp2;rw [e2,e3 q (by omega)];exact hhi q (by omega) h5
    · rw [e3 p (by omega),e3 q (by omega)];exact hs p q (by omega) h4 h5
/-- An element behind a sorted range is carried down to its place. -/
theorem srt_down {f:Nat→α} {a m i:Nat} (hs:Srt lt f a m) (h1:a≤i) (h2:i≤m) (hlo : ∀ q,a≤q→q<i→lt (f q) (f m)=true) (hhi : ∀ q,i≤q→q<m→lt (f m) (f q)=true):Srt lt (rot i m (m+1) f) a (m+1):=by
  have e1 : ∀ k,k<i→rot i m (m+1) f k=f k:=fun k h3=>by unfold rot;rw [if_neg (by omega),if_neg (by omega)]
  have e2:rot i m (m+1) f i=f m:=by unfold rot;rw [if_pos (by omega)];congr 1;omega
  have e3 : ∀ k,i<k→k≤m→rot i m (m+1) f k=f (k - 1):=fun k h3 h4=>by unfold rot;rw [if_neg (by omega),if_pos (by omega)];congr 1;omega
  intro p q h3 h4 h5
  by_cases hp:p<i
  · rw [e1 p hp]
    by_cases hq:q<i
    · rw [e1 q hq];exact hs p q h3 h4 (by omega)
    · by_cases hq2:q=i
      · subst hq2;rw [e2];exact hlo p h3 hp
      · rw [e3 q (by omega) (by omega)];exact hs p (q - 1) h3 (by omega) (by omega)
  · by_cases hp2:p=i
    · subst hp2;rw [e2,e3 q h4 (by omega)];exact hhi (q - 1) (by omega) (by omega)
    · rw [e3 p (by omega) (by omega),e3 q (by omega) (by omega)];exact hs (p - 1) (q - 1) (by omega) (by omega) (by omega)
/-! ### two sorted ranges, cut across -/
/-- How far the search for the cut has come: below s no pair is out of order, from r on all are. -/
def Cut (lt:α→α→Bool) (f:Nat→α) (p s0 r0 s r:Nat):Prop:=(∀ c,s0≤c→c<s→lt (f (p - c)) (f c)=false) ∧ ∀ c,r≤c→c<r0→lt (f (p - c)) (f c)=true
theorem Cut.init (f:Nat→α) (p s0 r0:Nat):Cut lt f p s0 r0 s0 r0:=⟨fun c h1 h2=>by omega,fun c h1 h2=>by omega⟩
structure Two (lt:α→α→Bool) (f:Nat→α) (N a m b:Nat):Prop where
  o:Order lt
  d:Dist lt f N
  s1:Srt lt f a m
  s2:Srt lt f m b
  am:a<m
  mb:m<b
  bN:b≤N
def sm_s0 (a m b:Nat):Nat:=if (a+b) / 2<m then (a+b) / 2+m - b else a
def sm_r0 (a m b:Nat):Nat:=if (a+b) / 2<m then (a+b) / 2 else m
theorem Cut.no {f:Nat→α} {N a m b s r c:Nat} (t:Two lt f N a m b) (h:Cut lt f ((a+b) / 2+m - 1) (sm_s0 a m b) (sm_r0 a m b) s r) (h1:sm_s0 a m b≤s) (h2:r≤sm_r0 a m b) (hc:s≤c∧c<r)
    (hl:lt (f ((a+b) / 2+m - 1 - c)) (f c)=false):Cut lt f ((a+b) / 2+m - 1) (sm_s0 a m b) (sm_r0 a m b) (c+1) r:=by
  have:=t.am;have:=t.mb;have:=t.bN
  refine ⟨fun c' h3 h4=>?_,h.2⟩
  unfold sm_s0 at h1 h3
  unfold sm_r0 at h2
  by_cases e:c'=c
  · subst e;exact hl
  by_cases hm:(a+b) / 2<m
  · rw [if_pos hm] at h1 h2 h3
    have g1:=Dist.of_neg t.d (i:=(a+b) / 2+m - 1 - c) (j:=c) (by omega) (by omega) (by omega) hl
    have g2:=t.s1 c' c (by omega) (by omega) (by omega)
    have g3:=t.s2 ((a+b) / 2+m - 1 - c) ((a+b) / 2+m - 1 - c') (by omega) (by omega) (by omega)
    exact t.o.asym _ _ (t.o.tr _ _ _ g2 (t.o.tr _ _ _ g1 g3))
  · rw [if_neg hm] at h1 h2 h3
    have g1:=Dist.of_neg t.d (i:=(a+b) / 2+m - 1 - c) (j:=c) (by omega) (by omega) (by omega) hl
    have g2:=t.s1 c' c (by omega) (by omega) (by omega)
    have g3:=t.s2 ((a+b) / 2+m - 1 - c) ((a+b) / 2+m - 1 - c') (by omega) (by omega) (by omega)
    exact t.o.asym _ _ (t.o.tr _ _ _ g2 (t.o.tr _ _ _ g1 g3))
theorem Cut.yes {f:Nat→α} {N a m b s r c:Nat} (t:Two lt f N a m b) (h:Cut lt f ((a+b) / 2+m - 1) (sm_s0 a m b) (sm_r0 a m b) s r) (h1:sm_s0 a m b≤s) (h2:r≤sm_r0 a m b) (hc:s≤c∧c<r)
    (hl:lt (f ((a+b) / 2+m - 1 - c)) (f c)=true):Cut lt f ((a+b) / 2+m - 1) (sm_s0 a m b) (sm_r0 a m b) s c:=by
  have:=t.am;have:=t.mb;have:=t.bN
  refine ⟨h.1,fun c' h3 h4=>?_⟩
  unfold sm_s0 at h1
  unfold sm_r0 at h2 h4
  by_cases e:c'=c
  · subst e;exact hl
  by_cases hm:(a+b) / 2<m
  · rw [if_pos hm] at h1 h2 h4
    have g2:=t.s1 c c' (by omega) (by omega) (by omega)
    have g3:=t.s2 ((a+b) / 2+m - 1 - c') ((a+b) / 2+m - 1 - c) (by omega) (by omega) (by omega)
    exact t.o.tr _ _ _ g3 (t.o.tr _ _ _ hl g2)
  · rw [if_neg hm] at h1 h2 h4
    have g2:=t.s1 c c' (by omega) (by omega) (by omega)
    have g3:=t.s2 ((a+b) / 2+m - 1 - c') ((a+b) / 2+m - 1 - c) (by omega) (by omega) (by omega)
    exact t.o.tr _ _ _ g3 (t.o.tr _ _ _ hl g2)
theorem Cut.bounds {a m b s:Nat} (h1:a<m) (h2:m<b) (h3:sm_s0 a m b≤s) (h4:s≤sm_r0 a m b):a≤s∧s≤m∧s≤(a+b) / 2∧m≤(a+b) / 2+m - s∧(a+b) / 2+m - s≤b∧(a+b) / 2≤(a+b) / 2+m - s∧a<(a+b) / 2∧(a+b) / 2<b:=by
  unfold sm_s0 at h3
  unfold sm_r0 at h4
  by_cases hm:(a+b) / 2<m
  · rw [if_pos hm] at h3 h4;omega
  · rw [if_neg hm] at h3 h4;omega
/-- The ranges behind the cut: four sorted ones, the first two ahead of the last two. -/
theorem Cut.done {f:Nat→α} {N a m b s:Nat} (t:Two lt f N a m b) (h:Cut lt f ((a+b) / 2+m - 1) (sm_s0 a m b) (sm_r0 a m b) s s) (h3:sm_s0 a m b≤s) (h4:s≤sm_r0 a m b) :
    Srt lt (rot s m ((a+b) / 2+m - s) f) a s∧Srt lt (rot s m ((a+b) / 2+m - s) f) s ((a+b) / 2)∧Srt lt (rot s m ((a+b) / 2+m - s) f) ((a+b) / 2) ((a+b) / 2+m - s)∧Srt lt (rot s m ((a+b) / 2+m - s) f) ((a+b) / 2+m - s) b ∧
    (∀ i j,a≤i→i<(a+b) / 2→(a+b) / 2≤j→j<b→lt (rot s m ((a+b) / 2+m - s) f i) (rot s m ((a+b) / 2+m - s) f j)=true)∧(s<m→m<(a+b) / 2+m - s → ¬ Srt lt f a b):=by
  obtain ⟨b1,b2,b3,b4,b5,b6,b7,b8⟩:=Cut.bounds t.am t.mb h3 h4
  have hbN:=t.bN
  have hmb:=t.mb
  have ham:=t.am
  generalize hE:(a+b) / 2+m - s=E at *
  generalize hM:(a+b) / 2=M at *
  have e1 : ∀ k,k<s→rot s m E f k=f k:=fun k h=>by unfold rot;rw [if_neg (by omega),if_neg (by omega)]
  have e2 : ∀ k,s≤k→k<M→rot s m E f k=f (k+(m - s)):=fun k h5 h6=>by unfold rot;rw [if_pos (by omega)]
  have e3 : ∀ k,M≤k→k<E→rot s m E f k=f (k - (E - m)):=fun k h5 h6=>by unfold rot;rw [if_neg (by omega),if_pos (by omega)]
  have e4 : ∀ k,E≤k→rot s m E f k=f k:=fun k h5=>by unfold rot;rw [if_neg (by omega),if_neg (by omega)]
  -- what stands right ahead of the cut and right behind it
  have c1:a<s→E<b→lt (f (s - 1)) (f E)=true:=fun h5 h6=>by
    have g:=h.1 (s - 1) (by unfold sm_s0;rw [hM];by_cases hm:M<m
                            · rw [if_pos hm];omega
                            · rw [if_neg hm];omega) (by omega)
    rw [show M+m - 1 - (s - 1)=E by omega] at g
    exact Dist.of_neg t.d (by omega) (by omega) (by omega) g
  have c2:s<m→m<E→lt (f (E - 1)) (f s)=true:=fun h5 h6=>by
    have g:=h.2 s (by omega) (by unfold sm_r0;rw [hM];by_cases hm:M<m
                                 · rw [if_pos hm];omega
                                 · rw [if_neg hm];omega)
    rwa [show M+m - 1 - s=E - 1 by omega] at g
  have le1 : ∀ p q,a≤p→p≤q→q<m→p=q∨lt (f p) (f q)=true:=fun p q h5 h6 h7=>by
    by_cases e:p=q
    · exact .inl e
    · exact .inr (t.s1 p q h5 (by omega) h7)
  have le2 : ∀ p q,m≤p→p≤q→q<b→p=q∨lt (f p) (f q)=true:=fun p q h5 h6 h7=>by
    by_cases e:p=q
    · exact .inl e
    · exact .inr (t.s2 p q h5 (by omega) h7)
  have join : ∀ {p q u v:Nat}, (p=q∨lt (f p) (f q)=true)→lt (f q) (f u)=true→(u=v∨lt (f u) (f v)=true)→lt (f p) (f v)=true:=fun {p q u v} h5 h6 h7=>by
    have h8:lt (f p) (f u)=true:=by rcases h5 with rfl|h5;exact h6;exact t.o.tr _ _ _ h5 h6
    rcases h7 with rfl|h7
    · exact h8
    · exact t.o.tr _ _ _ h8 h7
  refine ⟨fun p q h5 h6 h7=>?_,fun p q h5 h6 h7=>?_,fun p q h5 h6 h7=>?_,fun p q h5 h6 h7=>?_,fun i j h5 h6 h7 h8=>?_,fun h5 h6 hs=>?_⟩
  · rw [e1 p (by omega),e1 q h7];exact t.s1 p q h5 h6 (by omega)
  · rw [e2 p h5 (by omega),e2 q (by omega) h7];exact t.s2 _ _ (by omega) (by omega) (by omega)
  · rw [e3 p h5 (by omega),e3 q (by omega) h7];exact t.s1 _ _ (by omega) (by omega) (by omega)
  · rw [e4 p h5,e4 q (by omega)];exact t.s2 p q (by omega) h6 h7
  · by_cases hi:i<s
    · rw [e1 i hi]
      by_cases hj:j<E
      · rw [e3 j h7 hj];exact t.s1 i _ h5 (by omega) (by omega)
      · rw [e4 j (by omega)];exact join (le1 i (s - 1) h5 (by omega) (by omega)) (c1 (by omega) (by omega)) (le2 E j (by omega) (by omega) h8)
    · rw [e2 i (by omega) h6]
      by_cases hj:j<E
      · rw [e3 j h7 hj];exact join (le2 (i+(m - s)) (E - 1) (by omega) (by omega) (by omega)) (c2 (by omega) (by omega)) (le1 s (j - (E - m)) (by omega) (by omega) (by omega))
      · rw [e4 j (by omega)];exact t.s2 _ _ (by omega) (by omega) (by omega)
  · have g1:=c2 h5 h6
    have g2:=hs s (E - 1) b1 (by omega) (by omega)
    rw [t.o.asym _ _ g2] at g1;cases g1
end Go.Proofs.Ytbkgoccnegjdhaa.M
/- A row sorted block by block. -/
namespace Go.Proofs.Ytbkgoccnegjdhaa.M
variable {α:Type} {lt:α→α→Bool}
/-- Each block of bs elements, from the block v on, is sorted, as far as k. -/
def SB (lt:α→α→Bool) (g:Nat→α) (bs v k:Nat):Prop := ∀ u i j,v≤u→u*bs≤i→i<j→j<u*bs+bs→j<k→lt (g i) (g j)=true
theorem SB.none (g:Nat→α) (bs v:Nat):SB lt g bs v 0:=fun u i j _ _ h1 _ h2=>by omega
theorem SB.ext {g g':Nat→α} {bs t e:Nat} (h:SB lt g bs 0 (t*bs)) (hs:Srt lt g' (t*bs) e) (he:e≤t*bs+bs) (hk : ∀ k,k<t*bs→g' k=g k):SB lt g' bs 0 e:=by
  intro u i j h0 h1 h2 h3 h4
  by_cases hu:u<t
  · have h5:(u+1)*bs≤t*bs:=Nat.mul_le_mul_right bs hu
    rw [Nat.succ_mul] at h5
    rw [hk i (by omega),hk j (by omega)]
    exact h u i j h0 h1 h2 h3 (by omega)
  · by_cases hu2:u=t
    · subst hu2;exact hs i j h1 h2 h4
    · have h5:(t+1)*bs≤u*bs:=Nat.mul_le_mul_right bs (by omega)
      rw [Nat.succ_mul] at h5
      omega
theorem SB.at {g:Nat→α} {bs v k u e:Nat} (h:SB lt g bs v k) (hv:v≤u) (he:e≤u*bs+bs) (hk:e≤k):Srt lt g (u*bs) e :=
  fun i j h1 h2 h3=>h u i j hv h1 h2 (by omega) (by omega)
theorem SB.all {g:Nat→α} {bs k:Nat} (h:SB lt g bs 0 k) (hk:k≤bs):Srt lt g 0 k:=fun i j h1 h2 h3=>h 0 i j (Nat.le_refl _) (by omega) h2 (by omega) h3
theorem SB.from {g:Nat→α} {bs v v' k:Nat} (h:SB lt g bs v k) (hv:v≤v'):SB lt g bs v' k:=fun u i j h0 h1 h2 h3 h4=>h u i j (by omega) h1 h2 h3 h4
/-- Blocks behind a place are as they were, if the row is. -/
theorem SB.later {g g':Nat→α} {bs v k:Nat} (h:SB lt g bs v k) (hk : ∀ q,v*bs≤q→g' q=g q):SB lt g' bs v k:=by
  intro u i j h0 h1 h2 h3 h4
  have h5:v*bs≤u*bs:=Nat.mul_le_mul_right bs h0
  rw [hk i (by omega),hk j (by omega)]
  exact h u i j h0 h1 h2 h3 h4
theorem dbl (t bs:Nat):t*(2*bs)=2*t*bs:=by rw [← Nat.mul_assoc,Nat.mul_comm t 2]
theorem dbl1 (t bs:Nat):(2*t+1)*bs=t*(2*bs)+bs:=by rw [Nat.succ_mul,dbl]
theorem dbl2 (t bs:Nat):(2*t+2)*bs=t*(2*bs)+2*bs:=by rw [show 2*t+2=(2*t+1)+1 from rfl,Nat.succ_mul,dbl1];omega
theorem dbl3 (t bs:Nat):(t+1)*(2*bs)=t*(2*bs)+2*bs:=Nat.succ_mul _ _
/-- The two halves of a double block. -/
theorem SB.halves {g:Nat→α} {bs t n e:Nat} (h:SB lt g bs (2*t) n) (he:e≤t*(2*bs)+2*bs) (hn:e≤n):Srt lt g (t*(2*bs)) (min (t*(2*bs)+bs) e)∧Srt lt g (t*(2*bs)+bs) e:=by
  constructor
  · have:=h.at (u:=2*t) (e:=min (t*(2*bs)+bs) e) (Nat.le_refl _) (by rw [← dbl];omega) (by omega)
    rwa [← dbl] at this
  · have:=h.at (u:=2*t+1) (e:=e) (by omega) (by rw [dbl1];omega) hn
    rwa [dbl1] at this
end Go.Proofs.Ytbkgoccnegjdhaa.M

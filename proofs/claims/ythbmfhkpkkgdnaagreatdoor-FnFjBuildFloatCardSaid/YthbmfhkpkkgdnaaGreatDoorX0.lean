/- Words of our own beside the print's: a string's bytes appended to a row of the call's own, told with where the row then lies. -/
import Derived.Test.YthbmfhkpkkgdnaaGreatDoorKa
namespace Go.Proofs.YthbmfhkpkkgdnaaGreatDoorW.PrintWords
open Go.RowKit
set_option linter.unusedVariables false
set_option linter.unusedSimpArgs false
namespace Kd
section
variable {P : Program}

theorem ownBlock_str_at {w w' : World} {t u ty e : TypeId} {i : TypeInfo} (ht : P.underlying t = some (.slice e)) (hu : P.underlying u = some .string) (hi : P.info? e = some i)
    (hz : i.zero = some (.int .u8 0)) (hsize : i.size = 1) (hby : i.bytes = 1) {base : Nat} {v v' : Value} {n : Nat} {xs : List Value} (hown : w.ownsRow base e 1 v n xs) (s : ByteArray)
    (hbytes : n + s.size ≤ 140737488355328)
    (hr : (Builtin.append_ #[t, u] ty #[v, .string s]).run P w = .ok v' w') : v'.ownBlock = v.ownBlock ∨ v'.ownBlock = some w.heap.size := by
  have hxl : xs.length = n := by simpa using hown.1
  rcases hown.2 with ⟨rfl, rfl⟩ | ⟨g, cap, cur, rfl, hbg, hg, hnc, hcm, hcs, htake⟩
  · by_cases hm : s.size = 0
    · left
      have hf := Lib.run_firstCells_string (P := P) w 1 s
      rw [hm] at hf
      simp [Builtin.append_, run_underlying ht, run_underlying hu, sizeOf, typeInfo, hi, hsize, Builtin.lenOf, hm, hf] at hr
      rw [← hr.1]
    · have hr2 := run_append_nil_string (P := P) w t u ty e i (.int .u8 0) ht hu hi hz s (by omega) (by omega) (by rw [hby]; omega)
      rw [hr2] at hr
      injection hr with h1 h2
      right
      rw [← h1]
      rfl
  · by_cases hroom : n + s.size ≤ cap
    · have hcs' : cur.size = cap := by simpa using hcs
      have hr2 := Lib.run_append_room_string (P := P) w t u ty e i ht hu hi hsize g n cap cur hg s hroom (by omega)
      rw [hr2] at hr
      injection hr with h1 h2
      left
      rw [← h1]
      rfl
    · have holds : ∀ j u, xs[j]? = some u → w.cell? ((⟨g, 0, none⟩ : Addr).add j) = some u := hown.cells (g := g) rfl
      have hr2 := Lib.run_append_grow_string (P := P) w t u ty e i (.int .u8 0) ht hu hi hz ⟨g, 0, none⟩ n cap xs (by rw [hsize]; simpa using hxl) holds s (by omega) (by omega) (by rw [hby]; exact growslice_fits (by omega) (by omega))
      rw [hr2] at hr
      injection hr with h1 h2
      right
      rw [← h1]
      rfl

variable {ops : Array Oper} {rest : List Oper} {o : Oper} {a : Act} {Q : Exit → Act → World → Prop} {Kc : Act → World → Prop}

theorem run_append_str {w0 W : World} (base : Nat) (t u ty e : TypeId)
    (ht : P.underlying t = some (.slice e)) (hu : P.underlying u = some .string) (hinfo : (P.info? e).map (fun i => (i.zero, i.size, i.bytes)) = some (some (.int .u8 0), 1, 1))
    (v : Value) (xs : List Int) (y : ByteArray) (ok : Nat → Prop)
    (HO : (Kd.int .u8).R e W base ok v xs) (hfresh : ∀ k, W.heap.size ≤ k → ok k)
    (HB : Below base w0 W) (hbase : base ≤ W.heap.size) (hl : xs.length + y.size ≤ 140737488355328) :
    ∃ v1 w1, (Builtin.append_ #[t, u] ty #[v, .string y]).run P W = .ok v1 w1 ∧ (Kd.int .u8).R e w1 base ok v1 (xs ++ bytesOf y) ∧ Below base w0 w1 ∧ W.grownBy w1 v.ownBlock ∧ (v1.ownBlock = v.ownBlock ∨ ∃ b, v1.ownBlock = some b ∧ W.heap.size ≤ b) := by
  obtain ⟨i0, hi, hzz⟩ := Option.map_eq_some_iff.1 hinfo
  simp only [Prod.mk.injEq] at hzz
  obtain ⟨hz0, hz1, hz2⟩ := hzz
  have hown0 : W.ownsRow base e 1 v xs.length (nums .u8 xs) := own_of_R HO
  obtain ⟨v1, w1, hr, hown, hg, _⟩ := Lib.run_append_own_string (P := P) W base t u ty e i0 ht hu hi hz0 hz1 hz2 v xs.length (nums .u8 xs) hown0 y (by simp only [maxLen]; omega) hl hbase
  have hat := ownBlock_str_at ht hu hi hz0 hz1 hz2 hown0 y hl hr
  have hl2 : (xs ++ bytesOf y).length = xs.length + y.size := by rw [List.length_append, bytesOf_length]
  have hc : nums .u8 (xs ++ bytesOf y) = nums .u8 xs ++ Lib.strCells y := by
    rw [nums_append]
    congr 1
    simp [nums, bytesOf, Lib.strCells]
  have hat' : v1.ownBlock = v.ownBlock ∨ ∃ b, v1.ownBlock = some b ∧ W.heap.size ≤ b := by
    rcases hat with hat | hat
    · exact .inl hat
    · exact .inr ⟨_, hat, Nat.le_refl _⟩
  refine ⟨v1, w1, hr, R_of_own (h1 := fun _ => rfl) (by rw [hl2]; show w1.ownsRow base e 1 v1 _ (nums .u8 (xs ++ bytesOf y)); rw [hc]; exact hown) (fun k hk => ?_), HB.grown hg hbase (own_base hown0), hg, hat'⟩
  rcases hat' with hat | ⟨b, hb, hle⟩
  · exact HO.1 k (hat ▸ hk)
  · rw [hb] at hk
    injection hk with hk
    exact hfresh k (by omega)

/-- append(v, y...): v a row of bytes of one's own, y a string. -/
theorem R_append_str {w0 W : World} (base : Nat) (hgd : o.guard = none) (s x : Operand) (t u e : TypeId)
    (ho : o.op = .call { callee := .builtin .append, args := #[s, x], argTypes := #[t, u] })
    (ht : P.underlying t = some (.slice e)) (hu : P.underlying u = some .string) (hinfo : (P.info? e).map (fun i => (i.zero, i.size, i.bytes)) = some (some (.int .u8 0), 1, 1))
    (v : Value) (xs : List Int) (y : ByteArray) (ok : Nat → Prop) (hs : a.eval s = v) (hx : a.eval x = .string y)
    (HO : (Kd.int .u8).R e W base ok v xs) (hfresh : ∀ k, W.heap.size ≤ k → ok k)
    (HB : Below base w0 W) (hbase : base ≤ W.heap.size) (hl : xs.length + y.size ≤ 140737488355328)
    (h : ∀ v1 w1, (Kd.int .u8).R e w1 base ok v1 (xs ++ bytesOf y) → Below base w0 w1 → W.grownBy w1 v.ownBlock → (v1.ownBlock = v.ownBlock ∨ ∃ b, v1.ownBlock = some b ∧ W.heap.size ≤ b) → wpList P ops Q rest (a.put o.dst v1) w1) :
    wpList P ops Q (o :: rest) a W := by
  obtain ⟨v1, w1, hr, h1, h2, h3, h4⟩ := run_append_str (P := P) (w0 := w0) base t u o.type e ht hu hinfo v xs y ok HO hfresh HB hbase hl
  refine wpList_plain hgd fun K hK => ?_
  unfold Oper.wp execOp
  simp only [ho, resolve, invoke, builtin, Sem.run_bind, Sem.run_pure, Result.andThen_ok, List.map_toArray, List.map_cons, List.map_nil, hs, hx, hr]
  exact hK _ _ (h v1 w1 h1 h2 h3 h4)

theorem R_append_str_step {w0 W : World} (base : Nat) (hw : Region.wanted o (yielded ops a.tmps) = true) (s x : Operand) (t u e : TypeId)
    (ho : o.op = .call { callee := .builtin .append, args := #[s, x], argTypes := #[t, u] })
    (ht : P.underlying t = some (.slice e)) (hu : P.underlying u = some .string) (hinfo : (P.info? e).map (fun i => (i.zero, i.size, i.bytes)) = some (some (.int .u8 0), 1, 1))
    (v : Value) (xs : List Int) (y : ByteArray) (ok : Nat → Prop) (hs : a.eval s = v) (hx : a.eval x = .string y)
    (HO : (Kd.int .u8).R e W base ok v xs) (hfresh : ∀ k, W.heap.size ≤ k → ok k)
    (HB : Below base w0 W) (hbase : base ≤ W.heap.size) (hl : xs.length + y.size ≤ 140737488355328)
    (h : ∀ v1 w1, (Kd.int .u8).R e w1 base ok v1 (xs ++ bytesOf y) → Below base w0 w1 → W.grownBy w1 v.ownBlock → (v1.ownBlock = v.ownBlock ∨ ∃ b, v1.ownBlock = some b ∧ W.heap.size ≤ b) → Kc (a.put o.dst v1) w1) :
    if Region.wanted o (yielded ops a.tmps) = true then Oper.wp P o a W Kc Q else Kc (a.put o.dst undef) W := by
  obtain ⟨v1, w1, hr, h1, h2, h3, h4⟩ := run_append_str (P := P) (w0 := w0) base t u o.type e ht hu hinfo v xs y ok HO hfresh HB hbase hl
  rw [if_pos hw]
  unfold Oper.wp execOp
  simp only [ho, resolve, invoke, builtin, Sem.run_bind, Sem.run_pure, Result.andThen_ok, List.map_toArray, List.map_cons, List.map_nil, hs, hx, hr]
  exact h v1 w1 h1 h2 h3 h4
end
end Kd

/-! What came in and stays readable whatever is written in S: its row is none of S, so an element's own slices stay readable, too. -/
namespace Kd
section
variable {α : Type} {d : Kd α} {w W W2 : World} {S : Nat → Prop} {A : Option Addr} {n : Nat} {xs : List α}
theorem foot_off (hr : ∀ W_, Kept w W_ S → d.C W_ A n xs) (hsz : 0 < d.sz) (hn : 0 < n) (ad : Addr) (e : A = some ad) : ¬ S ad.block := by
  intro hS
  obtain ⟨hlen, hmax, hc⟩ := hr { w with heap := w.heap.setIfInBounds ad.block (.cells #[] 0 (0, 0)) } ⟨by simp, fun i hi hn => by
    have hne : ad.block ≠ i := fun h => hn (by rw [← h]; exact hS)
    simp [hne]⟩
  obtain ⟨ad', e', hc⟩ := hc hn
  obtain rfl : ad = ad' := by rw [e] at e'; injection e'
  have h0 : 0 < xs.length := by omega
  obtain ⟨c, hcl, _, hcell⟩ := hc 0 _ (List.getElem?_eq_getElem h0)
  have h1 : 0 < c.length := by omega
  have h2 := hcell 0 _ (List.getElem?_eq_getElem h1)
  have hb : (ad.add (0 * d.sz + 0)).block = ad.block := by simp [add_block]
  simp only [World.cell?, hb, Array.getElem?_setIfInBounds] at h2
  split at h2
  · rename_i hh
    split at hh
    · split at hh <;> simp_all
    · rename_i hne; exact hne trivial
  · cases h2
theorem foot_same (hr : ∀ W_, Kept w W_ S → d.C W_ A n xs) (hsz : 0 < d.sz) (hn : 0 < n) {ad : Addr} (e : A = some ad) (hk : Kept w W S) (hk2 : Kept w W2 S) {p : Addr} {u : Value} (hp : p.block = ad.block) (h : W.cell? p = some u) : W2.cell? p = some u := by
  have hS := foot_off hr hsz hn ad e
  have hlt : ad.block < w.heap.size := by
    obtain ⟨hlen, hmax, hc⟩ := hr w (Kept.refl _ _)
    obtain ⟨ad', e', hc⟩ := hc hn
    obtain rfl : ad = ad' := by rw [e] at e'; injection e'
    have h0 : 0 < xs.length := by omega
    obtain ⟨c, hcl, _, hcell⟩ := hc 0 _ (List.getElem?_eq_getElem h0)
    have h1 : 0 < c.length := by omega
    have h2 := World.block_lt_of_cell? w _ (hcell 0 _ (List.getElem?_eq_getElem h1))
    simpa [add_block] using h2
  have h3 := (hk2.2 _ hlt hS).trans (hk.2 _ hlt hS).symm
  rw [← hp] at h3
  simpa [World.cell?, h3] using h
end
end Kd

/-! make([]T, 0, n): an empty row of one's own. -/
namespace Kd
section
variable {P : Program} {ops : Array Oper} {rest : List Oper} {o : Oper} {a : Act} {Q : Exit → Act → World → Prop} {Kc : Act → World → Prop} {α : Type}
theorem run_make0 (d : Kd α) {w0 W : World} (base e : Nat) (t : TypeId) (n : Int)
    (ht : P.underlying t = some (.slice e)) (z : Value) (bytes : Nat) (hinfo : (P.info? e).map (fun i => (i.zero, i.size, i.bytes)) = some (some z, d.sz, bytes)) (hz : z.cells.size = d.sz) (hs0 : 0 < d.sz) (hb0 : 0 < bytes)
    {ok : Nat → Prop} (hfresh : ok W.heap.size) (h0 : 0 ≤ n) (hl : n.toNat * bytes ≤ 281474976710656) (HB : Below base w0 W) (hbase : base ≤ W.heap.size) :
    ∃ v1 w1, (Instr.makeSlice t (.int .i64 0) (.int .i64 n)).run P W = .ok v1 w1 ∧ d.R e w1 base ok v1 ([] : List α) ∧ Below base w0 w1 ∧ W.grownBy w1 none ∧ (∃ b, v1.ownBlock = some b ∧ W.heap.size ≤ b) := by
  obtain ⟨m, rfl⟩ := Int.eq_ofNat_of_zero_le h0
  simp only [Int.toNat_natCast] at hl
  obtain ⟨i0, hi, hzz⟩ := Option.map_eq_some_iff.1 hinfo
  simp only [Prod.mk.injEq] at hzz
  obtain ⟨hz0, hz1, hz2⟩ := hzz
  have hm : m ≤ 281474976710656 := Nat.le_trans (Nat.le_mul_of_pos_right _ hb0) hl
  have hr := run_make (P := P) W t e i0 z ht hi hz0 .i64 .i64 (0 : Int) (m : Int) (by omega) (by omega)
    (by
      have h3 : ((i0.bytes * m : Nat) : Int) ≤ 281474976710656 := by rw [hz2, Nat.mul_comm]; omega
      rwa [Int.natCast_mul] at h3) (by omega)
  simp only [Int.toNat_natCast] at hr
  rw [hz1] at hr
  refine ⟨_, _, hr, ⟨fun k hk => ?_, [], ⟨by simp, .inr ⟨W.heap.size, m, madeCells z.cells (m * d.sz), rfl, hbase, heap_alloc_new W _, Nat.zero_le _, by simp only [maxLen]; omega, by rw [size_madeCells], by simp⟩⟩, Reps.none _ _⟩, ?_, World.grownBy_alloc W _ _, ⟨W.heap.size, rfl, Nat.le_refl _⟩⟩
  · have : W.heap.size = k := by simpa [Value.ownBlock] using hk
    rw [← this]; exact hfresh
  · exact HB.alloc hbase _
theorem R_make0 (d : Kd α) {w0 W : World} (base e : Nat) (hgd : o.guard = none) {N : Tmp} (hd : o.dst = some N) (t : TypeId) (x y : Operand) (ho : o.op = .makeSlice t x y) (n : Int) (hx : a.eval x = .int .i64 0) (hy : a.eval y = .int .i64 n)
    (ht : P.underlying t = some (.slice e)) (z : Value) (bytes : Nat) (hinfo : (P.info? e).map (fun i => (i.zero, i.size, i.bytes)) = some (some z, d.sz, bytes)) (hz : z.cells.size = d.sz) (hs0 : 0 < d.sz) (hb0 : 0 < bytes)
    (z0 : α) {ok okp : Nat → Prop} (hzero : d.M W base okp z0 z.cells.toList) (hok : ∀ k, okp k → ok k) (hfresh : ok W.heap.size) (h0 : 0 ≤ n) (hl : n.toNat * bytes ≤ 281474976710656) (HB : Below base w0 W) (hbase : base ≤ W.heap.size)
    (h : ∀ v1 w1, d.R e w1 base ok v1 ([] : List α) → Below base w0 w1 → W.grownBy w1 none → (∃ b, v1.ownBlock = some b ∧ W.heap.size ≤ b) → wpList P ops Q rest (a.put o.dst v1) w1) : wpList P ops Q (o :: rest) a W := by
  obtain ⟨v1, w1, hr, h1, h2, h3, h4⟩ := run_make0 (P := P) d base e t n ht z bytes hinfo hz hs0 hb0 hfresh h0 hl HB hbase
  refine wpList_plain hgd fun K hK => ?_
  unfold Oper.wp execOp
  simp only [ho, hx, hy, hr, Sem.run_bind, Sem.run_pure, Result.andThen_ok, Sem.run_map]
  exact hK _ _ (h v1 w1 h1 h2 h3 h4)
end
end Kd
end Go.Proofs.YthbmfhkpkkgdnaaGreatDoorW.PrintWords

/- What the listed variables tell the walks: Go's own tables and errors lie as their text says. -/
import Derived.Test.YtnejkimpkaopoaaGreatDoorRows
import Derived.Test.YtnejkimpkaopoaaGreatDoorDj
import Derived.Test.YtnejkimpkaopoaaGreatDoorDi
import Derived.ProofKit
import Derived.LaidMore
import Derived.OpenShut
import Derived.Lib.LaidTab
namespace Go.Proofs.YtnejkimpkaopoaaGreatDoor.Laid
open Go.Proofs.YtnejkimpkaopoaaGreatDoorW Go.ChangeShapes Go.WideShapes Go.ChangeAt Go.RowKit Go.Lib Go.Proofs.YtnejkimpkaopoaaGreatDoor.Q
set_option linter.unusedVariables false
theorem c305 : Tryz.prog.cellsOf 305 = 1392 := by kernel_rfl
theorem c304 : Tryz.prog.cellsOf 304 = 2 := by kernel_rfl
theorem c42 : Tryz.prog.cellsOf 42 = 1 := by kernel_rfl
theorem c310 : Tryz.prog.cellsOf 310 = 2 := by kernel_rfl
theorem c3 : Tryz.prog.cellsOf 3 = 1 := by kernel_rfl
theorem c9 : Tryz.prog.cellsOf 9 = 1 := by kernel_rfl
theorem c30 : Tryz.prog.cellsOf 30 = 1 := by kernel_rfl
theorem c46 : Tryz.prog.cellsOf 46 = 1 := by kernel_rfl
theorem laid_vars {P : Program} {W : World} : ∀ {l : List (String × DataW Unit)} {ps : List MemPlace}, DataW.LaidVars P W l ps → ∀ (i : Nat) (n : String) (d : DataW Unit), l[i]? = some (n, d) →
    ∃ g t cs fuel p, P.globalNamed n = some g ∧ (P.globals[g]?).map (·.type) = some t ∧ W.var? P n = some cs ∧ DataW.trod (fun _ => ()) P W 0 (fun _ => true) false fuel t cs.toList = some (d, p)
  | [], _, _, i, n, d, h => by simp at h
  | (n, d) :: r, ps, h, 0, n', d', hn => by
    obtain ⟨g, t, cs, fuel, p, q, h1, h2, h3, h4, h5, h6⟩ := h
    simp only [List.getElem?_cons_zero, Option.some.injEq, Prod.mk.injEq] at hn
    obtain ⟨rfl, rfl⟩ := hn
    exact ⟨g, t, cs, fuel, p, h1, h2, h3, h4⟩
  | (n, d) :: r, ps, h, i + 1, n', d', hn => by
    obtain ⟨g, t, cs, fuel, p, q, h1, h2, h3, h4, h5, h6⟩ := h
    exact laid_vars h5 i n' d' (by simpa using hn)
theorem laid_at {W : World} {l : List (String × DataW Unit)} (h : laidMet Tryz.prog l W) (i : Nat) {n : String} {d : DataW Unit} (hi : l[i]? = some (n, d)) {g : Nat} (hg : Tryz.prog.globalNamed n = some g) {t : TypeId} (ht : (Tryz.prog.globals[g]?).map (·.type) = some t) :
    ∃ (cs : List Value) (fuel : Nat) (p : List MemPlace), (∀ j, W.cell? ⟨g, j, none⟩ = cs[j]?) ∧ DataW.trod (fun _ => ()) Tryz.prog W 0 (fun _ => true) false fuel t cs = some (d, p) := by
  obtain ⟨ps, hv, -⟩ := h
  obtain ⟨g', t', cs, fuel, p, h1, h2, h3, h4⟩ := laid_vars hv i n d hi
  obtain rfl := Option.some.inj (hg.symm.trans h1)
  obtain rfl := Option.some.inj (ht.symm.trans h2)
  exact ⟨cs.toList, fuel, p, fun j => by rw [Array.getElem?_toList]; exact World.var?_cell hg h3 j, h4⟩
theorem cells_of_pairs {enc : TypeId × Value → Unit} {w : World} {base : Nat} {sp : Nat → Bool} {held : Bool} {fuel : Nat} {cs : List Value} {rows : List (Nat × Nat)} {p : List MemPlace}
    (hr : rows.length = 696) (h : DataW.trod enc Tryz.prog w base sp held fuel 305 cs = some (.agg (rows.map fun x => .agg [.lit (.int .u64 x.1), .lit (.int .u64 x.2)]), p)) :
    ∀ i : Nat, i < 696 → cs[i * 2]? = some (.int .u64 ((rows.getD i (0, 0)).1 : Nat)) ∧ cs[i * 2 + 1]? = some (.int .u64 ((rows.getD i (0, 0)).2 : Nat)) := by
  intro i hi
  cases fuel with
  | zero => simp [DataW.trod] at h
  | succ fuel =>
    simp only [DataW.trod, Tryz.underlying305, c304, c305] at h
    split at h
    · rename_i hl
      obtain ⟨xs, hm, hx⟩ := Option.map_eq_some_iff.1 h
      have hxs : xs.map (·.1) = rows.map fun x => (DataW.agg [.lit (.int .u64 x.1), .lit (.int .u64 x.2)] : DataW Unit) := by
        have := congrArg Prod.fst hx
        simpa using this
      obtain ⟨b, hb, hf⟩ := mapM_at hm i i (by simp [hi])
      have h2 : (xs.map (·.1))[i]? = some b.1 := by simp [hb]
      rw [hxs, List.getElem?_map, List.getElem?_eq_getElem (by omega)] at h2
      have hgd : rows.getD i (0, 0) = rows[i]'(by omega) := by simp [List.getD, hr, hi]
      obtain ⟨b1, b2⟩ := b
      have h2 : DataW.agg [.lit (.int .u64 ((rows[i]'(by omega)).1 : Nat)), .lit (.int .u64 ((rows[i]'(by omega)).2 : Nat))] = b1 := Option.some.inj h2
      subst h2
      cases fuel with
      | zero => simp [DataW.trod] at hf
      | succ fuel =>
        simp only [DataW.trod, Tryz.underlying304, c304] at hf
        split at hf
        · rename_i hl2
          obtain ⟨ys, hm2, hx2⟩ := Option.map_eq_some_iff.1 hf
          obtain ⟨y0, hy0, hf0⟩ := mapM_at hm2 0 _ rfl
          obtain ⟨y1, hy1, hf1⟩ := mapM_at hm2 1 _ rfl
          obtain ⟨k0, e0, e0', _⟩ := DataW.trod_int Tryz.underlying42 hf0
          obtain ⟨k1, e1, e1', _⟩ := DataW.trod_int Tryz.underlying42 hf1
          have hys := congrArg Prod.fst hx2
          simp only [DataW.agg.injEq] at hys
          have g0 := congrArg (·[0]?) hys
          have g1 := congrArg (·[1]?) hys
          simp [hy0, hy1] at g0 g1
          rw [hgd]
          have a0 : (((cs.drop (i * 2)).take 2).drop 0).take (Tryz.prog.cellsOf 42) = [Value.int IntKind.u64 k0] := e0
          have a1 : (((cs.drop (i * 2)).take 2).drop 1).take (Tryz.prog.cellsOf 42) = [Value.int IntKind.u64 k1] := e1
          rw [c42] at a0 a1
          rw [e0'] at g0
          rw [e1'] at g1
          injection g0 with g0
          injection g0 with _ g0
          injection g1 with g1
          injection g1 with _ g1
          have b0 := congrArg (·[0]?) a0
          have b1 := congrArg (·[0]?) a1
          simp only [List.getElem?_take, List.getElem?_drop] at b0 b1
          rw [← g0, ← g1]
          exact ⟨by simpa using b0, by simpa [Nat.add_comm] using b1⟩
        · cases hf
    · cases h
theorem open_rows {enc : TypeId × Value → Unit} {w : World} {base : Nat} {sp : Nat → Bool} {held : Bool} {t e : TypeId} {fuel : Nat} {cs : List Value} {ds : List (DataW Unit)} {p : List MemPlace} (ht : Tryz.prog.underlying t = some (.slice e))
    (h : DataW.trod enc Tryz.prog w base sp held fuel t cs = some (.slice ds [], p)) :
    ∃ a cap, cs = [.slice (some a) ds.length cap] ∧ ds.length ≤ cap ∧ ∀ i d, ds[i]? = some d → ∃ xs n q, xs.length = Tryz.prog.cellsOf e ∧ (∀ j, j < Tryz.prog.cellsOf e → w.cell? ((a.add (i * Tryz.prog.cellsOf e)).add j) = xs[j]?) ∧ DataW.trod enc Tryz.prog w base sp held n e xs = some (d, q) := by
  rcases DataW.trod_slice ht h with ⟨_, hx⟩ | ⟨a, len, cap, elems, rest, n, _, hcs, hx, _, hl, _, hlen, hel, _⟩
  · simp at hx
  · simp only [Prod.mk.injEq, DataW.slice.injEq] at hx
    obtain ⟨⟨rfl, _⟩, _⟩ := hx
    have el : (elems.map (·.1)).length = len := by simpa using hlen
    refine ⟨a, cap, by rw [el]; exact hcs, by rw [el]; exact hl, fun i d hd => ?_⟩
    have hi : i < len := by rw [← el]; exact (List.getElem?_eq_some_iff.1 hd).1
    have hE := hel i hi
    rw [List.getElem?_map] at hd
    cases hy : elems[i]? with
    | none => simp [hy] at hd
    | some y =>
      rw [hy] at hE hd
      simp only [Option.map_some, Option.some.injEq] at hd
      simp only [Option.bind_eq_some_iff] at hE
      obtain ⟨c1, hc1, hy1⟩ := hE
      obtain ⟨_, hl1, hc⟩ := World.cells?_some hc1
      exact ⟨c1, n, y.2, hl1, hc, by rw [hy1, ← hd]⟩
structure On (l : List (String × DataW Unit)) where
  fi : Nat
  op : Nat
  pt : Nat
  tf : Nat
  er : Nat
  es : Nat
  lc : Nat
  tp : Nat
  hfi : l[fi]? = some ("internal/strconv.float64info", Rows.laid_internal_strconv_float64info)
  hop : l[op]? = some ("internal/strconv.optimize", Rows.laid_internal_strconv_optimize)
  hpt : l[pt]? = some ("internal/strconv.powtab", Rows.laid_internal_strconv_powtab)
  htf : l[tf]? = some ("internal/strconv.float64pow10", Rows.laid_internal_strconv_float64pow10)
  her : l[er]? = some ("strconv.ErrRange", Rows.laid_strconv_ErrRange)
  hes : l[es]? = some ("strconv.ErrSyntax", Rows.laid_strconv_ErrSyntax)
  hlc : l[lc]? = some ("internal/strconv.leftcheats", Rows.laid_internal_strconv_leftcheats)
  htp : l[tp]? = some ("internal/strconv.pow10Tab", Rows.laid_internal_strconv_pow10Tab)
theorem g6 : Tryz.prog.globalNamed "strconv.ErrSyntax" = some 6 := by kernel_rfl
theorem g7 : Tryz.prog.globalNamed "strconv.ErrRange" = some 7 := by kernel_rfl
theorem g10 : Tryz.prog.globalNamed "internal/strconv.optimize" = some 10 := by kernel_rfl
theorem g11 : Tryz.prog.globalNamed "internal/strconv.float64info" = some 11 := by kernel_rfl
theorem g15 : Tryz.prog.globalNamed "internal/strconv.powtab" = some 15 := by kernel_rfl
theorem g16 : Tryz.prog.globalNamed "internal/strconv.float64pow10" = some 16 := by kernel_rfl
theorem g18 : Tryz.prog.globalNamed "internal/strconv.pow10Tab" = some 18 := by kernel_rfl
theorem g19 : Tryz.prog.globalNamed "internal/strconv.leftcheats" = some 19 := by kernel_rfl
theorem t6 : (Tryz.prog.globals[6]?).map (·.type) = some 75 := by kernel_rfl
theorem t7 : (Tryz.prog.globals[7]?).map (·.type) = some 75 := by kernel_rfl
theorem t10 : (Tryz.prog.globals[10]?).map (·.type) = some 4 := by kernel_rfl
theorem t11 : (Tryz.prog.globals[11]?).map (·.type) = some 244 := by kernel_rfl
theorem t15 : (Tryz.prog.globals[15]?).map (·.type) = some 60 := by kernel_rfl
theorem t16 : (Tryz.prog.globals[16]?).map (·.type) = some 291 := by kernel_rfl
theorem t18 : (Tryz.prog.globals[18]?).map (·.type) = some 305 := by kernel_rfl
theorem t19 : (Tryz.prog.globals[19]?).map (·.type) = some 311 := by kernel_rfl
theorem bool_at {W : World} {l : List (String × DataW Unit)} (h : laidMet Tryz.prog l W) (o : On l) : W.cell? ⟨10, 0, none⟩ = some (.bool true) := by
  obtain ⟨cs, fuel, p, hc, hd⟩ := laid_at h o.op o.hop g10 t10
  obtain ⟨b, rfl, hb⟩ := DataW.trod_bool Tryz.underlying4 hd
  rw [hc]
  simp only [Rows.laid_internal_strconv_optimize, Prod.mk.injEq, DataW.lit.injEq, Lit.bool.injEq] at hb
  rw [← hb.1]; rfl
theorem fld_int {W : World} {held : Bool} {sp : Nat → Bool} {xs : List (DataW Unit × List MemPlace)} {cs : List Value} {n t off i : Nat} {k : IntKind} {z : Int} (ht : Tryz.prog.underlying t = some (.int k)) (hc : Tryz.prog.cellsOf t = 1)
    (hf : DataW.trod (fun _ => ()) Tryz.prog W 0 sp held n t ((cs.drop off).take (Tryz.prog.cellsOf t)) = xs[i]?) (hx : (xs.map (·.1))[i]? = some (.lit (.int k z))) : cs[off]? = some (.int k z) := by
  rw [List.getElem?_map] at hx
  cases hy : xs[i]? with
  | none => simp [hy] at hx
  | some y =>
    rw [hy] at hf hx
    obtain ⟨m, e1, e2, _⟩ := DataW.trod_int ht hf
    simp only [Option.map_some, Option.some.injEq] at hx
    rw [e2] at hx
    simp only [DataW.lit.injEq, Lit.int.injEq, true_and] at hx
    subst hx
    rw [hc] at e1
    have := congrArg (·[0]?) e1
    simpa [List.getElem?_take, List.getElem?_drop] using this
theorem fld_string {W : World} {held : Bool} {sp : Nat → Bool} {xs : List (DataW Unit × List MemPlace)} {cs : List Value} {n t off i : Nat} {z : List UInt8} (ht : Tryz.prog.underlying t = some .string) (hc : Tryz.prog.cellsOf t = 1)
    (hf : DataW.trod (fun _ => ()) Tryz.prog W 0 sp held n t ((cs.drop off).take (Tryz.prog.cellsOf t)) = xs[i]?) (hx : (xs.map (·.1))[i]? = some (.lit (.string z))) : cs[off]? = some (.string ⟨z.toArray⟩) := by
  rw [List.getElem?_map] at hx
  cases hy : xs[i]? with
  | none => simp [hy] at hx
  | some y =>
    rw [hy] at hf hx
    obtain ⟨m, e1, e2, _⟩ := DataW.trod_string ht hf
    simp only [Option.map_some, Option.some.injEq] at hx
    rw [e2] at hx
    simp only [DataW.lit.injEq, Lit.string.injEq] at hx
    subst hx
    rw [hc] at e1
    have := congrArg (·[0]?) e1
    simpa [List.getElem?_take, List.getElem?_drop] using this
theorem info_at {W : World} {l : List (String × DataW Unit)} (h : laidMet Tryz.prog l W) (o : On l) : W.cell? ⟨11, 0, none⟩ = some (.int .u64 52) ∧ W.cell? ⟨11, 1, none⟩ = some (.int .u64 11) ∧ W.cell? ⟨11, 2, none⟩ = some (.int .i64 (-1023)) := by
  obtain ⟨cs, fuel, p, hc, hd⟩ := laid_at h o.fi o.hfi g11 t11
  obtain ⟨xs, n, _, hx, hl, hxl, hf⟩ := DataW.trod_struct Tryz.underlying244 hd
  have hx1 := congrArg Prod.fst hx
  simp only [Rows.laid_internal_strconv_float64info, DataW.agg.injEq] at hx1
  rw [hc, hc, hc]
  refine ⟨fld_int (i := 0) Tryz.underlying46 c46 (hf 0 _ rfl) (by rw [← hx1]; rfl), fld_int (i := 1) Tryz.underlying46 c46 (hf 1 _ rfl) (by rw [← hx1]; rfl), fld_int (i := 2) Tryz.underlying3 c3 (hf 2 _ rfl) (by rw [← hx1]; rfl)⟩
def powL : List Int := [1, 3, 6, 9, 13, 16, 19, 23, 26]
theorem powt_at {W : World} {l : List (String × DataW Unit)} (h : laidMet Tryz.prog l W) (o : On l) : ∃ (a : Addr) (cap : Nat), W.cell? ⟨15, 0, none⟩ = some (.slice (some a) 9 cap) ∧ a.block < W.heap.size ∧ ∀ i : Nat, i < 9 → ∃ p : Nat, 1 ≤ p ∧ p ≤ 27 ∧ W.cell? (a.add i) = some (.int .i64 (p : Int)) := by
  obtain ⟨cs, fuel, p, hc, hd⟩ := laid_at h o.pt o.hpt g15 t15
  obtain ⟨a, cap, rfl, _, hel⟩ := open_row Tryz.underlying60 c3 hd
  have hv : ∀ i : Nat, i < 9 → W.cell? (a.add i) = some (.int .i64 (powL.getD i 0)) := fun i hi => by
    obtain ⟨v, n, q, hv, ht⟩ := hel i (.lit (.int .i64 (powL.getD i 0))) (by
      have : ∀ i : Nat, i < 9 → ([.lit (.int .i64 1), .lit (.int .i64 3), .lit (.int .i64 6), .lit (.int .i64 9), .lit (.int .i64 13), .lit (.int .i64 16), .lit (.int .i64 19), .lit (.int .i64 23), .lit (.int .i64 26)] : List (DataW Unit))[i]? = some (.lit (.int .i64 (powL.getD i 0))) := by
        intro i hi
        rcases i with _ | _ | _ | _ | _ | _ | _ | _ | _ | i <;> first | rfl | omega
      exact this i hi)
    obtain ⟨m, e1, e2, _⟩ := DataW.trod_int Tryz.underlying3 ht
    simp only [Prod.mk.injEq, DataW.lit.injEq, Lit.int.injEq, true_and] at e2
    obtain ⟨rfl, _⟩ := e2
    rw [hv]
    simpa using e1
  refine ⟨a, cap, by rw [hc]; rfl, ?_, fun i hi => ?_⟩
  · have := World.block_lt_of_cell? W _ (hv 0 (by decide))
    unfold Addr.add at this; simpa using this
  · have h9 : ∀ i : Nat, i < 9 → 1 ≤ (powL.getD i 0).toNat ∧ (powL.getD i 0).toNat ≤ 27 ∧ ((powL.getD i 0).toNat : Int) = powL.getD i 0 := by decide
    obtain ⟨b1, b2, b3⟩ := h9 i hi
    exact ⟨_, b1, b2, by rw [b3]; exact hv i hi⟩
theorem rows_at {W : World} {l : List (String × DataW Unit)} (h : laidMet Tryz.prog l W) (o : On l) : ∃ (a : Addr) (cap : Nat), W.cell? ⟨19, 0, none⟩ = some (.slice (some a) 61 cap) ∧ a.block < W.heap.size ∧ ∀ k : Nat, 1 ≤ k → k ≤ 60 → W.cell? (a.add (k * 2)) = some (.int .i64 (chD k)) ∧ W.cell? ⟨(a.add (k * 2)).block, (a.add (k * 2)).off + 1, none⟩ = some (.string (chS k)) := by
  obtain ⟨cs, fuel, p, hc, hd⟩ := laid_at h o.lc o.hlc g19 t19
  have hd : DataW.trod (fun _ => ()) Tryz.prog W 0 (fun _ => true) false fuel 311 cs = some (.slice (Go.Pinned.cheatRows.map fun x => .agg [.lit (.int .i64 x.1), .lit (.string x.2)]) [], p) := hd
  obtain ⟨a, cap, rfl, _, hel⟩ := open_rows Tryz.underlying311 hd
  have hlen : Go.Pinned.cheatRows.length = 61 := by decide +kernel
  have hv : ∀ k : Nat, k < 61 → W.cell? (a.add (k * 2)) = some (.int .i64 (chD k)) ∧ W.cell? (a.add (k * 2 + 1)) = some (.string (chS k)) := fun k hk => by
    obtain ⟨xs, n, q, hxl, hcell, ht⟩ := hel k (.agg [.lit (.int .i64 (chD k)), .lit (.string (Go.Pinned.cheatRows.getD k (0, [])).2)]) (by
      rw [List.getElem?_map, List.getElem?_eq_getElem (by omega)]
      unfold chD
      rw [List.getD_eq_getElem?_getD, List.getElem?_eq_getElem (by omega)]
      rfl)
    rw [c310] at hxl hcell
    obtain ⟨ys, m, _, hx, hl, hyl, hf⟩ := DataW.trod_struct Tryz.underlying310 ht
    have hx1 := congrArg Prod.fst hx
    simp only [DataW.agg.injEq] at hx1
    have y0 := fld_int (i := 0) Tryz.underlying3 c3 (hf 0 _ rfl) (by rw [← hx1]; rfl)
    have y1 := fld_string (i := 1) Tryz.underlying9 c9 (hf 1 _ rfl) (by rw [← hx1]; rfl)
    have z0 := hcell 0 (by decide)
    have z1 := hcell 1 (by decide)
    rw [Addr.add_add] at z0 z1
    exact ⟨z0.trans y0, z1.trans y1⟩
  refine ⟨a, cap, ?_, ?_, fun k k1 k2 => ?_⟩
  · rw [hc]
    simp only [List.length_map, hlen]
    rfl
  · have := World.block_lt_of_cell? W _ (hv 0 (by decide)).1
    unfold Addr.add at this; simpa using this
  · obtain ⟨v0, v1⟩ := hv k (by omega)
    refine ⟨v0, ?_⟩
    rw [← PrintWords.add_field _ _ 1 (by decide)]; exact v1
theorem trod_float {enc : TypeId × Value → Unit} {W : World} {base : Nat} {sp : Nat → Bool} {held : Bool} {fuel : Nat} {t : TypeId} {k : FloatKind} {v : Value} {x : DataW Unit × List MemPlace} (ht : Tryz.prog.underlying t = some (.float k)) (h : DataW.trod enc Tryz.prog W base sp held fuel t [v] = some x) : ∃ b, v = .float k b ∧ x = (.lit (.float k b), []) := by
  cases fuel with
  | zero => simp [DataW.trod] at h
  | succ n =>
    unfold DataW.trod at h
    rw [ht] at h
    split at h <;> simp_all
theorem trod_iface {enc : TypeId × Value → Unit} {W : World} {base : Nat} {sp : Nat → Bool} {held : Bool} {fuel : Nat} {t : TypeId} {cs : List Value} {nm : String} {d : DataW Unit} {p : List MemPlace} (ht : ∃ ms, Tryz.prog.underlying t = some (.interface ms)) (h : DataW.trod enc Tryz.prog W base sp held fuel t cs = some (.iface nm d, p)) : ∃ u v, cs = [.iface u v] := by
  obtain ⟨ms, ht⟩ := ht
  cases fuel with
  | zero => simp [DataW.trod] at h
  | succ n =>
    unfold DataW.trod at h
    rw [ht] at h
    split at h <;> simp_all
def fL : List Nat := [4607182418800017408, 4621819117588971520, 4636737291354636288, 4652007308841189376, 4666723172467343360, 4681608360884174848, 4696837146684686336, 4711630319722168320, 4726483295884279808, 4741671816366391296, 4756540486875873280, 4771362005757984768, 4786511204640096256, 4801453603149578240, 4816244402031689728, 4831355200913801216, 4846369599423283200, 4861130398305394688, 4876203697187506176, 4891288408196988160, 4906019910204099648, 4921056587992461136, 4936209963552724370]
def numOk (y : Nat) : Bool := match FloatKind.f64.format.read y with
  | .number _ m _ => m != 0
  | _ => false
theorem numOk_num {y : Nat} (h : numOk y = true) : Num FloatKind.f64.format y := by
  unfold numOk at h
  split at h
  · rename_i s m p e
    exact ⟨s, m, p, e, by simpa using h⟩
  · cases h
theorem flo_at {W : World} {l : List (String × DataW Unit)} (h : laidMet Tryz.prog l W) (o : On l) : ∃ (a : Addr) (cap : Nat), W.cell? ⟨16, 0, none⟩ = some (.slice (some a) 23 cap) ∧ a.block < W.heap.size ∧ ∀ i : Nat, i < 23 → ∃ f : Nat, Num FloatKind.f64.format f ∧ W.cell? (a.add i) = some (.float .f64 f) := by
  obtain ⟨cs, fuel, p, hc, hd⟩ := laid_at h o.tf o.htf g16 t16
  have hd : DataW.trod (fun _ => ()) Tryz.prog W 0 (fun _ => true) false fuel 291 cs = some (.slice (fL.map fun x => .lit (.float .f64 x)) [], p) := hd
  obtain ⟨a, cap, rfl, _, hel⟩ := open_row Tryz.underlying291 c30 hd
  have hlen : fL.length = 23 := by decide
  have hv : ∀ i : Nat, i < 23 → W.cell? (a.add i) = some (.float .f64 (fL.getD i 0)) := fun i hi => by
    obtain ⟨v, n, q, hv, ht⟩ := hel i (.lit (.float .f64 (fL.getD i 0))) (by
      rw [List.getElem?_map, List.getElem?_eq_getElem (by omega), List.getD_eq_getElem?_getD, List.getElem?_eq_getElem (by omega)]
      rfl)
    obtain ⟨b, rfl, e2⟩ := trod_float Tryz.underlying30 ht
    simp only [Prod.mk.injEq, DataW.lit.injEq, Lit.float.injEq, true_and] at e2
    rw [hv, ← e2.1]
  refine ⟨a, cap, by rw [hc]; simp only [List.length_map, hlen]; rfl, ?_, fun i hi => ⟨_, numOk_num ?_, hv i hi⟩⟩
  · have := World.block_lt_of_cell? W _ (hv 0 (by decide))
    unfold Addr.add at this; simpa using this
  · have : ∀ i : Nat, i < 23 → numOk (fL.getD i 0) = true := by decide +kernel
    exact this i hi
theorem tabp_at {W : World} {l : List (String × DataW Unit)} (h : laidMet Tryz.prog l W) (o : On l) : TabP W := by
  obtain ⟨cs, fuel, p, hc, hd⟩ := laid_at h o.tp o.htp g18 t18
  have hP := cells_of_pairs (rows := Go.Pinned.pow10Rows) (by decide +kernel) hd
  intro i hi
  obtain ⟨a, b⟩ := hP i hi
  exact ⟨(hc _).trans a, (hc _).trans b⟩
theorem pf {W : World} {l : List (String × DataW Unit)} (h : laidMet Tryz.prog l W) (o : On l) : PF W.heap.size W ∧ PE W.heap.size W := by
  obtain ⟨a, cap, r1, r2, r3⟩ := rows_at h o
  obtain ⟨i0, i1, i2⟩ := info_at h o
  have lt : 19 < W.heap.size := World.block_lt_of_cell? W ⟨19, 0, none⟩ r1
  refine ⟨⟨⟨⟨lt, a, cap, r1, r2, r3⟩, i0, i1, i2, powt_at h o⟩, tabp_at h o, flo_at h o, bool_at h o⟩, ⟨lt, ?_, ?_⟩⟩
  · obtain ⟨cs, fuel, p, hc, hd⟩ := laid_at h o.es o.hes g6 t6
    obtain ⟨u, v, rfl⟩ := trod_iface ⟨_, Tryz.underlying75⟩ hd
    exact ⟨u, v, by rw [hc]; rfl⟩
  · obtain ⟨cs, fuel, p, hc, hd⟩ := laid_at h o.er o.her g7 t7
    obtain ⟨u, v, rfl⟩ := trod_iface ⟨_, Tryz.underlying75⟩ hd
    exact ⟨u, v, by rw [hc]; rfl⟩
end Go.Proofs.YtnejkimpkaopoaaGreatDoor.Laid

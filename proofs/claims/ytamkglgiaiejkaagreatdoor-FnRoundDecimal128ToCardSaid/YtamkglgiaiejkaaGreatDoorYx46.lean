import Derived.Test.YtamkglgiaiejkaaGreatDoorYx45
import Derived.Test.YtamkglgiaiejkaaGreatDoorRows
import Derived.Deep.Slices
import Derived.Deep.Fields
import Derived.ChangeSame
import Derived.OpenShut
import Derived.ProofKit
import Derived.SizedLaws
import Derived.Carry
import Derived.LaidSub
import Derived.WalkSmall
/-! Arguments that are words; the package-level variables: what they read as, and that they read so behind the call. -/
namespace Go.Proofs.YtamkglgiaiejkaaGreatDoor
open Go.ChangeShapes Go.WideShapes Go.Deep Go.ChangeAt Go.RowKit

theorem zc_add (b o i : Nat) : (⟨b, o, none⟩ : Addr).add i = ⟨b, o + i, none⟩ := by
  unfold Addr.add
  split
  · simp_all
  · rfl
theorem zc_cells25 : Tryz.prog.cellsOf 25 = 1 := by kernel_rfl
theorem zc_cells3 : Tryz.prog.cellsOf 3 = 1 := by kernel_rfl
theorem zc_cells42 : Tryz.prog.cellsOf 42 = 2 := by kernel_rfl
theorem zc_cells120 : Tryz.prog.cellsOf 120 = 78 := by kernel_rfl
section
variable {H : Type} {enc : TypeId × Value → H} {W : World} {P : Program}
/-- Words that came in. -/
theorem words_of {a : Option Addr} {len cap : Nat} {d : DataW H} {p : List MemPlace} (h : DataW.Trod enc Tryz.prog W 0 (fun _ => true) true 22 (.slice a len cap) d p) : ∃ l : List Nat, WordsV W (.slice a len cap) l := by
  obtain ⟨fuel, hf⟩ := h
  rcases open_ints Tryz.underlying22 Tryz.underlying25 zc_cells25 hf with ⟨hcs, _⟩ | ⟨a', len', cap', zs, hcs, _, hl, hm, hz, hx, hcell, hwz⟩
  · simp [Value.cells] at hcs
    obtain ⟨rfl, rfl, rfl⟩ := hcs
    exact ⟨[], _, _, rfl, fun h => absurd h (by simp), fun x hx => by cases hx⟩
  · simp [Value.cells] at hcs
    obtain ⟨rfl, rfl, rfl⟩ := hcs
    simp only [if_true] at hz
    have hb : ∀ z ∈ zs, 0 ≤ z ∧ z < 18446744073709551616 := fun z hz' => by
      have := bounds_u64 (hwz z hz')
      omega
    have hlen : ((zs.take len).map Int.toNat).length = len := by simp; omega
    refine ⟨(zs.take len).map Int.toNat, _, cap, by rw [hlen], fun h0 => ?_, fun x hx => ?_⟩
    · rw [hlen] at h0
      obtain ⟨b, off, spot⟩ := a'
      have hspot : spot = none := by simpa [Addr.add] using World.cell?_spot (hcell 0 (by omega))
      subst hspot
      refine ⟨b, off, rfl, fun j hj => ?_⟩
      have hj' : j < len := by
        have e : (natsI ((zs.take len).map Int.toNat)).length = len := by unfold natsI; rw [List.length_map, hlen]
        rw [e] at hj
        exact hj
      have h1 := hcell j (by omega)
      rw [zc_add] at h1
      rw [h1]
      have hjz : j < zs.length := by omega
      have h2 := hb zs[j] (List.getElem_mem hjz)
      simp [natsI, List.getElem?_take_of_lt hj', hjz]
      omega
    · obtain ⟨z, hz', rfl⟩ := List.mem_map.1 hx
      have := hb z (List.mem_of_mem_take hz')
      omega
/-- What the arguments read as, behind the call. -/
theorem trodAll_below (hl : laidOutB P = true) {W' : World} (hb : Below W.heap.size W W') : ∀ {ts : List TypeId} {vs : List Value} {ds : List (DataW H)} {ps : List MemPlace}, (ts.all fun t => P.readableRec t && decide (t < P.types.size)) = true →
    DataW.TrodAll enc P W 0 (fun _ => true) true ts vs ds ps → (∀ x ∈ ps, x.block < W.heap.size) → DataW.TrodAll enc P W' 0 (fun b => decide (b < W.heap.size)) true ts vs ds ps
  | [], [], [], _, _, h, _ => h
  | [], _ :: _, _, _, _, h, _ => h.elim
  | [], [], _ :: _, _, _, h, _ => h.elim
  | _ :: _, [], _, _, _, h, _ => h.elim
  | _ :: _, _ :: _, [], _, _, h, _ => h.elim
  | t :: ts, v :: vs, d :: ds, ps, hr, ⟨p, q, h1, h2, e⟩, hlt => by
    simp only [List.all_cons, Bool.and_eq_true, decide_eq_true_eq] at hr
    subst e
    exact ⟨p, q, Below.trod hl hr.1.1 hr.1.2 h1 hb (fun x hx => hlt x (List.mem_append_left _ hx)), trodAll_below hl hb hr.2 h2 (fun x hx => hlt x (List.mem_append_right _ hx)), rfl⟩
/-- A variable that is named, of a type that can be read. -/
def varOk (P : Program) (n : String) : Bool := match P.globalNamed n with
  | some g => match P.globals[g]? with
    | some G => P.readableRec G.type && decide (G.type < P.types.size)
    | none => false
  | none => false
/-- What the variables read as, behind the call. -/
theorem trodVars_below (hl : laidOutB P = true) {W' : World} (hb : Below W.heap.size W W') : ∀ {ns : List String} {ds : List (DataW H)} {ps : List MemPlace}, (ns.all (varOk P)) = true →
    DataW.TrodVars enc P W (fun _ => true) ns ds ps → (∀ x ∈ ps, x.block < W.heap.size) → DataW.TrodVars enc P W' (fun b => decide (b < W.heap.size)) ns ds ps
  | [], [], _, _, h, _ => h
  | [], _ :: _, _, _, h, _ => h.elim
  | _ :: _, [], _, _, h, _ => h.elim
  | n :: ns, d :: ds, ps, hr, ⟨g, t, cs, fuel, p, q, h1, h2, h3, h4, h5, e⟩, hlt => by
    simp only [List.all_cons, Bool.and_eq_true] at hr
    have hv := hr.1
    unfold varOk at hv
    rw [h1] at hv
    obtain ⟨G, hG, hGt⟩ := Option.map_eq_some_iff.1 h2
    simp only [hG, hGt, Bool.and_eq_true, decide_eq_true_eq] at hv
    subst e
    have hg : g < W.heap.size := by
      unfold World.var? at h3
      simp only [h1, Option.bind_some] at h3
      rcases Nat.lt_or_ge g W.heap.size with h | h
      · exact h
      · rw [Array.getElem?_eq_none h] at h3
        cases h3
    obtain ⟨fuel', h4'⟩ := Below.trod hl hv.1 hv.2 (v := .agg cs) ⟨fuel, h4⟩ hb (fun x hx => hlt x (List.mem_append_left _ (List.mem_append_right _ hx)))
    exact ⟨g, t, cs, fuel', p, q, h1, h2, var?_below hb h1 hg h3, h4', trodVars_below hl hb hr.2 h5 (fun x hx => hlt x (List.mem_append_right _ hx)), rfl⟩
theorem trodVars_length : ∀ {ns : List String} {ds : List (DataW H)} {ps : List MemPlace}, DataW.TrodVars enc P W (fun _ => true) ns ds ps → ds.length = ns.length
  | [], [], _, _ => rfl
  | [], _ :: _, _, h => h.elim
  | _ :: _, [], _, h => h.elim
  | _ :: _, _ :: _, _, ⟨_, _, _, _, _, _, _, _, _, _, h5, _⟩ => by simp [trodVars_length h5]
theorem seven_of {α : Type} {l : List α} (h : l.length = 7) : ∃ a b c d e f g, l = [a, b, c, d, e, f, g] := by
  match l, h with
  | [a, b, c, d, e, f, g], _ => exact ⟨a, b, c, d, e, f, g, rfl⟩
end
/-- A variable of the list. -/
theorem laid_at {P : Program} {W : World} : ∀ {l : List (String × DataW Unit)} {ps : List MemPlace}, DataW.LaidVars P W l ps → ∀ {n : String} {d : DataW Unit}, (n, d) ∈ l →
    ∃ g t cs fuel p, P.globalNamed n = some g ∧ (P.globals[g]?).map (·.type) = some t ∧ W.var? P n = some cs ∧ DataW.trod (fun _ => ()) P W 0 (fun _ => true) false fuel t cs.toList = some (d, p)
  | [], _, _, _, _, hm => by cases hm
  | (n', d') :: r, _, ⟨g, t, cs, fuel, p, q, h1, h2, h3, h4, h5, _⟩, n, d, hm => by
    rcases List.mem_cons.1 hm with e | e
    · cases e
      exact ⟨g, t, cs, fuel, p, h1, h2, h3, h4⟩
    · exact laid_at h5 e
theorem zc_thr : Tryz.prog.globalNamed "given.example/pub-arrowroot/pub/bigall.divRecursiveThreshold" = some 2 := by kernel_rfl
theorem zc_thrType : (Tryz.prog.globals[2]?).map (·.type) = some 3 := by kernel_rfl
theorem zc_sc : Tryz.prog.globalNamed "given.example/pub-arrowroot/pub/arrow/arrow/decimal128.scaleMultipliers" = some 0 := by kernel_rfl
theorem zc_scType : (Tryz.prog.globals[0]?).map (·.type) = some 120 := by kernel_rfl
/-- The threshold's cell. -/
theorem thr_of_laid {W : World} (h : laidMet Tryz.prog Rows.fnRoundDecimal128ToRow.laid W) : W.cell? ⟨2, 0, none⟩ = some (.int .i64 40) := by
  obtain ⟨ps, hl, _⟩ := h
  obtain ⟨g, t, cs, fuel, p, h1, h2, h3, h4⟩ := laid_at hl (n := "given.example/pub-arrowroot/pub/bigall.divRecursiveThreshold") (d := Rows.laid_given_example_pub_arrowroot_pub_bigall_divRecursiveThreshold) (List.mem_of_getElem? (i := 5) rfl)
  obtain rfl := Option.some.inj (zc_thr.symm.trans h1)
  obtain rfl := Option.some.inj (zc_thrType.symm.trans h2)
  obtain ⟨z, e1, e2⟩ := DataW.trod_int Tryz.underlying3 h4
  have hc := World.var?_cell zc_thr h3 0
  rw [hc, ← Array.getElem?_toList, e1]
  have e3 := congrArg Prod.fst e2.1
  simp [Rows.laid_given_example_pub_arrowroot_pub_bigall_divRecursiveThreshold] at e3
  subst e3
  rfl
theorem scales_datum : (Rows.laid_given_example_pub_arrowroot_pub_arrow_arrow_decimal128_scaleMultipliers : DataW Unit) = .agg ((List.range 39).map fun i => .agg [.lit (.int .u64 ((10 ^ i % 18446744073709551616 : Nat) : Int)), .lit (.int .i64 ((10 ^ i / 18446744073709551616 : Nat) : Int))]) := by kernel_rfl
theorem zc_one42 : ∃ fs, Tryz.prog.underlying 42 = some (.struct fs) ∧ oneCellFields Tryz.prog fs = true ∧ fs.size = 2 ∧ (fs[0]?).map (·.type) = some 25 ∧ (fs[1]?).map (·.type) = some 2 := ⟨_, Tryz.underlying42, by kernel_rfl, by kernel_rfl, by kernel_rfl, by kernel_rfl⟩
theorem zc_cells2 : Tryz.prog.cellsOf 2 = 1 := by kernel_rfl
theorem two_of {α : Type} {l : List α} (h : l.length = 2) : ∃ a b, l = [a, b] := by
  match l, h with
  | [a, b], _ => exact ⟨a, b, rfl⟩
set_option maxRecDepth 100000 in
/-- A decimal that is read. -/
theorem num_of {H : Type} {enc : TypeId × Value → H} {W : World} {sp : Nat → Bool} {held : Bool} {n : Nat} {cs : List Value} {x : DataW H × List MemPlace} (h : DataW.trod enc Tryz.prog W 0 sp held n 42 cs = some x) : ∃ a b, cs = [.int .u64 a, .int .i64 b] ∧ x.1 = .agg [.lit (.int .u64 a), .lit (.int .i64 b)] := by
  obtain ⟨fs, he, hone, hsz, f0, f1⟩ := zc_one42
  obtain ⟨ys, m, _, hx, hl, hyl, hf⟩ := DataW.trod_struct he h
  rw [zc_cells42] at hl
  rw [hsz] at hyl
  obtain ⟨g0, hg0, t0⟩ := Option.map_eq_some_iff.1 f0
  obtain ⟨g1, hg1, t1⟩ := Option.map_eq_some_iff.1 f1
  obtain ⟨o0, k0⟩ := hone_of hone 0 g0 hg0
  obtain ⟨o1, k1⟩ := hone_of hone 1 g1 hg1
  have h0 := hf 0 g0 hg0
  have h1 := hf 1 g1 hg1
  rw [o0, k0, t0] at h0
  rw [o1, k1, t1] at h1
  obtain ⟨c0, c1, rfl⟩ := two_of hl
  obtain ⟨y0, y1, rfl⟩ := two_of hyl
  have h0 : DataW.trod enc Tryz.prog W 0 sp held m 25 [c0] = some y0 := h0
  have h1 : DataW.trod enc Tryz.prog W 0 sp held m 2 [c1] = some y1 := h1
  obtain ⟨a, ea, ya, _⟩ := DataW.trod_int Tryz.underlying25 h0
  obtain ⟨b, eb, yb, _⟩ := DataW.trod_int Tryz.underlying2 h1
  simp only [List.cons.injEq, and_true] at ea eb
  subst ea eb ya yb
  exact ⟨a, b, rfl, by rw [hx]; rfl⟩
set_option maxRecDepth 100000 in
/-- The table of powers. -/
theorem scales_of_laid {W : World} (h : laidMet Tryz.prog Rows.fnRoundDecimal128ToRow.laid W) : Scales W := by
  obtain ⟨ps, hl, _⟩ := h
  obtain ⟨g, t, cs, fuel, p, h1, h2, h3, h4⟩ := laid_at hl (n := "given.example/pub-arrowroot/pub/arrow/arrow/decimal128.scaleMultipliers") (d := Rows.laid_given_example_pub_arrowroot_pub_arrow_arrow_decimal128_scaleMultipliers) (List.mem_of_getElem? (i := 9) rfl)
  obtain rfl := Option.some.inj (zc_sc.symm.trans h1)
  obtain rfl := Option.some.inj (zc_scType.symm.trans h2)
  rw [scales_datum] at h4
  obtain ⟨xs, m, _, hx, hcl, hxl, hi⟩ := DataW.trod_array Tryz.underlying120 h4
  rw [zc_cells120] at hcl
  simp only [Prod.mk.injEq, DataW.agg.injEq] at hx
  intro i hi38
  have hlt : i < xs.length := by omega
  have h5 := hi i (by omega)
  rw [zc_cells42, List.getElem?_eq_getElem hlt] at h5
  obtain ⟨a, b, e1, e2⟩ := num_of h5
  have e3 : (xs.map (·.1))[i]? = some (.agg [.lit (.int .u64 ((10 ^ i % 18446744073709551616 : Nat) : Int)), .lit (.int .i64 ((10 ^ i / 18446744073709551616 : Nat) : Int))]) := by
    rw [← hx.1, List.getElem?_map, List.getElem?_range (by omega)]
    rfl
  rw [List.getElem?_map, List.getElem?_eq_getElem hlt] at e3
  simp only [Option.map_some, Option.some.injEq, e2, DataW.agg.injEq, List.cons.injEq, DataW.lit.injEq, Lit.int.injEq, true_and, and_true] at e3
  obtain ⟨rfl, rfl⟩ := e3
  have c0 := World.var?_cell zc_sc h3 (i * 2)
  have c1 := World.var?_cell zc_sc h3 (i * 2 + 1)
  rw [← Array.getElem?_toList] at c0 c1
  have d0 : ((cs.toList.drop (i * 2)).take 2)[0]? = some (.int .u64 ((10 ^ i % 18446744073709551616 : Nat) : Int)) := by rw [e1]; rfl
  have d1 : ((cs.toList.drop (i * 2)).take 2)[1]? = some (.int .i64 ((10 ^ i / 18446744073709551616 : Nat) : Int)) := by rw [e1]; rfl
  rw [List.getElem?_take_of_lt (by decide), List.getElem?_drop] at d0 d1
  exact ⟨c0.trans d0, c1.trans d1⟩
end Go.Proofs.YtamkglgiaiejkaaGreatDoor

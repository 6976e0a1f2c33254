import Derived.Test.YtdamippibpbjhaaGreatDoorYa33
import Derived.Deep.Slices
import Derived.Deep.Fields
import Derived.ChangeSame
import Derived.OpenShut
import Derived.ProofKit
import Derived.SizedLaws
/-! Arguments that are lists of values and of runs. -/
namespace Go.Proofs.YtdamippibpbjhaaGreatDoor
open Go.ChangeShapes Go.WideShapes Go.Deep Go.ChangeAt Go.RowKit

/-- One field's cell of a struct that is read. -/
theorem field_cell {H : Type} {enc : TypeId × Value → H} {W : World} {e : TypeId} {fs : Array Field} {n : Nat} {a : Addr} {cs : List Value} {x : DataW H × List MemPlace} (he : Tryz.prog.underlying e = some (.struct fs)) (hone : oneCellFields Tryz.prog fs = true) (hsz : cs.length = fs.size)
    (hat : ∀ j, j < fs.size → W.cell? (a.add j) = cs[j]?) (h : DataW.trod enc Tryz.prog W 0 (fun _ => true) true n e cs = some x) (j : Nat) (f : Field) (hj : fs[j]? = some f) :
    ∃ (v : Value) (m : Nat) (y : DataW H × List MemPlace), W.cell? (a.add j) = some v ∧ DataW.trod enc Tryz.prog W 0 (fun _ => true) true m f.type [v] = some y := by
  obtain ⟨ys, m, _, _, _, hyl, hf⟩ := DataW.trod_struct he h
  have hlt : j < fs.size := (Array.getElem?_eq_some_iff.1 hj).1
  have hy := hf j f hj
  obtain ⟨ho, hk⟩ := hone_of hone j f hj
  rw [ho, hk] at hy
  have hc : (cs.drop j).take 1 = [cs[j]'(by omega)] := by
    rw [List.drop_eq_getElem_cons (by omega)]
    rfl
  rw [hc, List.getElem?_eq_getElem (by omega)] at hy
  exact ⟨_, m, _, (hat j hlt).trans (List.getElem?_eq_getElem (by omega)), hy⟩
theorem pv_one47 : ∃ fs, Tryz.prog.underlying 47 = some (.struct fs) ∧ oneCellFields Tryz.prog fs = true ∧ fs.size = 4 ∧ (fs[0]?).map (·.type) = some 4 ∧ (fs[1]?).map (·.type) = some 45 ∧ (fs[2]?).map (·.type) = some 9 ∧ (fs[3]?).map (·.type) = some 36 :=
  ⟨_, Tryz.underlying47, by kernel_rfl, by kernel_rfl, by kernel_rfl, by kernel_rfl, by kernel_rfl, by kernel_rfl⟩
theorem pv_one76 : ∃ fs, Tryz.prog.underlying 76 = some (.struct fs) ∧ oneCellFields Tryz.prog fs = true ∧ fs.size = 3 ∧ (fs[0]?).map (·.type) = some 4 ∧ (fs[1]?).map (·.type) = some 3 ∧ (fs[2]?).map (·.type) = some 49 :=
  ⟨_, Tryz.underlying76, by kernel_rfl, by kernel_rfl, by kernel_rfl, by kernel_rfl, by kernel_rfl⟩
theorem pv_cells47 : Tryz.prog.cellsOf 47 = 4 := by kernel_rfl
theorem pv_cells76 : Tryz.prog.cellsOf 76 = 3 := by kernel_rfl
theorem pv_cells45 : Tryz.prog.cellsOf 45 = 1 := by kernel_rfl
theorem pv_cells3 : Tryz.prog.cellsOf 3 = 1 := by kernel_rfl
theorem pv_bytes47 : Tryz.prog.bytesOf 47 = 56 := by kernel_rfl
theorem pv_bytes3 : Tryz.prog.bytesOf 3 = 8 := by kernel_rfl
section
variable {H : Type} {enc : TypeId × Value → H} {W : World}
/-- A slice as it is read: what it looks like. -/
theorem slice_look {t e n : Nat} {v : Value} {x : DataW H × List MemPlace} (ht : Tryz.prog.underlying t = some (.slice e)) (h : DataW.trod enc Tryz.prog W 0 (fun _ => true) true n t [v] = some x) : ∃ a len cap, v = .slice a len cap := by
  rcases open_slice ht h with ⟨hcs, _⟩ | ⟨a, len, cap, _, _, _, _, hcs, _⟩
  · exact ⟨none, 0, 0, by simpa using hcs⟩
  · exact ⟨_, _, _, by simpa using hcs⟩
/-- A value that came in. -/
theorem value_of {n : Nat} {a : Addr} {cs : List Value} {x : DataW H × List MemPlace} (hc : W.cells? 0 a 4 = some cs) (h : DataW.trod enc Tryz.prog W 0 (fun _ => true) true n 47 cs = some x) :
    ∃ v : SVal, W.cell? (a.add 0) = some (.bool v.null) ∧ W.cell? (a.add 1) = some (.int .u64 v.num) ∧ W.cell? (a.add 2) = some (.string v.text) ∧ W.cell? (a.add 3) = some (.slice v.ka v.kn v.kc) := by
  obtain ⟨fs, he, hone, hsz, f0, f1, f2, f3⟩ := pv_one47
  obtain ⟨_, hcl, hat⟩ := World.cells?_some hc
  obtain ⟨g0, hg0, t0⟩ := Option.map_eq_some_iff.1 f0
  obtain ⟨g1, hg1, t1⟩ := Option.map_eq_some_iff.1 f1
  obtain ⟨g2, hg2, t2⟩ := Option.map_eq_some_iff.1 f2
  obtain ⟨g3, hg3, t3⟩ := Option.map_eq_some_iff.1 f3
  have key := fun j f hj => field_cell he hone (by rw [hsz]; exact hcl) (fun j hj => hat j (by omega)) h j f hj
  obtain ⟨v0, m0, y0, c0, d0⟩ := key 0 g0 hg0
  obtain ⟨v1, m1, y1, c1, d1⟩ := key 1 g1 hg1
  obtain ⟨v2, m2, y2, c2, d2⟩ := key 2 g2 hg2
  obtain ⟨v3, m3, y3, c3, d3⟩ := key 3 g3 hg3
  rw [t0] at d0
  rw [t1] at d1
  rw [t2] at d2
  rw [t3] at d3
  obtain ⟨b, e0, _⟩ := DataW.trod_bool Tryz.underlying4 d0
  obtain ⟨z, e1, _⟩ := DataW.trod_int Tryz.underlying45 d1
  obtain ⟨s, e2, _⟩ := DataW.trod_string Tryz.underlying9 d2
  obtain ⟨ka, kn, kc, rfl⟩ := slice_look Tryz.underlying36 d3
  simp only [List.cons.injEq, and_true] at e0 e1 e2
  subst e0 e1 e2
  exact ⟨⟨b, z, s, ka, kn, kc⟩, c0, c1, c2, c3⟩
/-- Numbers without a sign that came in. -/
theorem uints_of {n : Nat} {a : Option Addr} {len cap : Nat} {x : DataW H × List MemPlace} (h : DataW.trod enc Tryz.prog W 0 (fun _ => true) true n 49 [.slice a len cap] = some x) :
    ∃ l : List Int, len = l.length ∧ len ≤ cap ∧ cap ≤ 9223372036854775807 ∧ (a = none → cap = 0) ∧ UInts W a l ∧ ∀ t, t < l.length → 0 ≤ l.getD t 0 ∧ l.getD t 0 < 18446744073709551616 := by
  rcases open_ints Tryz.underlying49 Tryz.underlying45 pv_cells45 h with ⟨hcs, _⟩ | ⟨a', len', cap', zs, hcs, _, hl, hm, hz, hx, hcell, hwz⟩
  · simp only [List.cons.injEq, and_true, Value.slice.injEq] at hcs
    obtain ⟨rfl, rfl, rfl⟩ := hcs
    exact ⟨[], rfl, Nat.le_refl _, by omega, fun _ => rfl, fun h => absurd h (by simp), fun t h => absurd h (by simp)⟩
  · simp only [List.cons.injEq, and_true, Value.slice.injEq] at hcs
    obtain ⟨rfl, rfl, rfl⟩ := hcs
    simp only [if_true] at hz
    refine ⟨zs.take len, by simp; omega, hl, by simp only [maxLen] at hm; omega, fun e => (nomatch e), fun h0 => ?_, fun t ht => ?_⟩
    · obtain ⟨b, off, spot⟩ := a'
      have hlen : 0 < len := by simp at h0; omega
      have hspot : spot = none := by simpa [Addr.add] using World.cell?_spot (hcell 0 (by omega))
      subst hspot
      refine ⟨b, off, rfl, fun j hj => ?_⟩
      have hj' : j < len := by simp at hj; omega
      have := hcell j (by omega)
      rw [add_plain] at this
      rw [this]
      simp [List.getElem?_take_of_lt hj']
    · have ht' : t < len := by simp at ht; omega
      have hb := bounds_u64 (hwz (zs.getD t 0) (by rw [List.getD_eq_getElem?_getD, List.getElem?_eq_getElem (by omega)]; exact List.getElem_mem _))
      have e : (zs.take len).getD t 0 = zs.getD t 0 := by simp [List.getElem?_take_of_lt ht']
      rw [e]
      omega
/-- A run that came in. -/
theorem run_of {n : Nat} {a : Addr} {cs : List Value} {x : DataW H × List MemPlace} (hc : W.cells? 0 a 3 = some cs) (h : DataW.trod enc Tryz.prog W 0 (fun _ => true) true n 76 cs = some x) :
    ∃ r : SRunM, W.cell? (a.add 0) = some (.bool r.packed) ∧ W.cell? (a.add 1) = some (.int .i64 r.count) ∧ W.cell? (a.add 2) = some (.slice r.ra r.vals.length r.rc) ∧ UInts W r.ra r.vals ∧ r.vals.length ≤ r.rc ∧ r.rc ≤ 9223372036854775807 ∧ (r.ra = none → r.rc = 0) ∧
      ∀ t, t < r.vals.length → 0 ≤ r.vals.getD t 0 ∧ r.vals.getD t 0 < 18446744073709551616 := by
  obtain ⟨fs, he, hone, hsz, f0, f1, f2⟩ := pv_one76
  obtain ⟨_, hcl, hat⟩ := World.cells?_some hc
  obtain ⟨g0, hg0, t0⟩ := Option.map_eq_some_iff.1 f0
  obtain ⟨g1, hg1, t1⟩ := Option.map_eq_some_iff.1 f1
  obtain ⟨g2, hg2, t2⟩ := Option.map_eq_some_iff.1 f2
  have key := fun j f hj => field_cell he hone (by rw [hsz]; exact hcl) (fun j hj => hat j (by omega)) h j f hj
  obtain ⟨v0, m0, y0, c0, d0⟩ := key 0 g0 hg0
  obtain ⟨v1, m1, y1, c1, d1⟩ := key 1 g1 hg1
  obtain ⟨v2, m2, y2, c2, d2⟩ := key 2 g2 hg2
  rw [t0] at d0
  rw [t1] at d1
  rw [t2] at d2
  obtain ⟨b, e0, _⟩ := DataW.trod_bool Tryz.underlying4 d0
  obtain ⟨z, e1, _⟩ := DataW.trod_int Tryz.underlying3 d1
  obtain ⟨ka, kn, kc, rfl⟩ := slice_look Tryz.underlying49 d2
  obtain ⟨l, rfl, h1, h2, h3, h4, h5⟩ := uints_of d2
  simp only [List.cons.injEq, and_true] at e0 e1
  subst e0 e1
  exact ⟨⟨⟨b, z, l⟩, ka, kc⟩, c0, c1, c2, h4, h1, h2, h3, h5⟩
/-- A list of values that came in. -/
theorem vals_of {a : Option Addr} {len cap : Nat} {d : DataW H} {p : List MemPlace} (h : DataW.Trod enc Tryz.prog W 0 (fun _ => true) true 36 (.slice a len cap) d p) :
    ∃ l : List SVal, len = l.length ∧ len ≤ cap ∧ (len = 0 ∨ ∃ es sp, d = .slice es sp ∧ len ≤ es.length + sp.length) ∧ Vals W a l := by
  obtain ⟨fuel, hf⟩ := h
  rcases open_slice Tryz.underlying36 hf with ⟨hcs, _⟩ | ⟨a', len', cap', m, n, D, Pl, hcs, _, hl, hm, hmm, hx, hi⟩
  · simp [Value.cells] at hcs
    obtain ⟨rfl, rfl, rfl⟩ := hcs
    exact ⟨[], rfl, Nat.le_refl _, .inl rfl, fun h => absurd h (by simp)⟩
  · simp [Value.cells] at hcs
    obtain ⟨rfl, rfl, rfl⟩ := hcs
    simp only [if_true] at hmm
    simp only [Prod.mk.injEq] at hx
    obtain ⟨rfl, _⟩ := hx
    have key : ∀ i, ∃ v : SVal, i < len → W.cell? ((a'.add (i * 4)).add 0) = some (.bool v.null) ∧ W.cell? ((a'.add (i * 4)).add 1) = some (.int .u64 v.num) ∧ W.cell? ((a'.add (i * 4)).add 2) = some (.string v.text) ∧ W.cell? ((a'.add (i * 4)).add 3) = some (.slice v.ka v.kn v.kc) := fun i => by
      by_cases h : i < len
      · obtain ⟨cs', hc, ht'⟩ := hi i (by omega)
        rw [pv_cells47] at hc
        obtain ⟨v, hv⟩ := value_of hc ht'
        exact ⟨v, fun _ => hv⟩
      · exact ⟨⟨false, 0, ⟨#[]⟩, none, 0, 0⟩, fun h' => absurd h' h⟩
    obtain ⟨f, hf'⟩ := Classical.skolem.1 key
    refine ⟨(List.range len).map f, by simp, hl, .inr ⟨_, _, rfl, by simp⟩, fun h0 => ?_⟩
    have hlen : 0 < len := by simpa using h0
    obtain ⟨b, off, spot⟩ := a'
    have hspot : spot = none := by simpa [Addr.add] using World.cell?_spot (hf' 0 hlen).1
    subst hspot
    refine ⟨b, off, rfl, fun j hj => ?_⟩
    have hj' : j < len := by simpa using hj
    have := hf' j hj'
    simp only [add_plain] at this
    simp only [List.getElem_map, List.getElem_range]
    exact this
/-- A list of runs that came in. -/
theorem runs_of {a : Option Addr} {len cap : Nat} {d : DataW H} {p : List MemPlace} (h : DataW.Trod enc Tryz.prog W 0 (fun _ => true) true 37 (.slice a len cap) d p) :
    ∃ l : List SRunM, len = l.length ∧ Runs W a l := by
  obtain ⟨fuel, hf⟩ := h
  rcases open_slice Tryz.underlying37 hf with ⟨hcs, _⟩ | ⟨a', len', cap', m, n, D, Pl, hcs, _, hl, hm, hmm, hx, hi⟩
  · simp [Value.cells] at hcs
    obtain ⟨rfl, rfl, rfl⟩ := hcs
    exact ⟨[], rfl, fun h => absurd h (by simp)⟩
  · simp [Value.cells] at hcs
    obtain ⟨rfl, rfl, rfl⟩ := hcs
    simp only [if_true] at hmm
    have key : ∀ i, ∃ r : SRunM, i < len → W.cell? ((a'.add (i * 3)).add 0) = some (.bool r.packed) ∧ W.cell? ((a'.add (i * 3)).add 1) = some (.int .i64 r.count) ∧ W.cell? ((a'.add (i * 3)).add 2) = some (.slice r.ra r.vals.length r.rc) ∧ UInts W r.ra r.vals ∧ r.vals.length ≤ r.rc ∧ r.rc ≤ 9223372036854775807 ∧ (r.ra = none → r.rc = 0) ∧
        ∀ t, t < r.vals.length → 0 ≤ r.vals.getD t 0 ∧ r.vals.getD t 0 < 18446744073709551616 := fun i => by
      by_cases h : i < len
      · obtain ⟨cs', hc, ht'⟩ := hi i (by omega)
        rw [pv_cells76] at hc
        obtain ⟨v, hv⟩ := run_of hc ht'
        exact ⟨v, fun _ => hv⟩
      · exact ⟨⟨⟨false, 0, []⟩, none, 0⟩, fun h' => absurd h' h⟩
    obtain ⟨f, hf'⟩ := Classical.skolem.1 key
    refine ⟨(List.range len).map f, by simp, fun h0 => ?_⟩
    have hlen : 0 < len := by simpa using h0
    obtain ⟨b, off, spot⟩ := a'
    have hspot : spot = none := by simpa [Addr.add] using World.cell?_spot (hf' 0 hlen).1
    subst hspot
    refine ⟨b, off, rfl, fun j hj => ?_⟩
    have hj' : j < len := by simpa using hj
    have := hf' j hj'
    simp only [add_plain] at this
    simp only [List.getElem_map, List.getElem_range]
    exact this
/-- A slice of numbers that came in. -/
theorem longs_of' {a : Option Addr} {len cap : Nat} {d : DataW H} {p : List MemPlace} (h : DataW.Trod enc Tryz.prog W 0 (fun _ => true) true 25 (.slice a len cap) d p) :
    ∃ l : List Int, len = l.length ∧ len ≤ cap ∧ (len = 0 ∨ ∃ es sp, d = .slice es sp ∧ len ≤ es.length + sp.length) ∧ Ints W a l ∧ ∀ t, t < l.length → -9223372036854775808 ≤ l.getD t 0 ∧ l.getD t 0 < 9223372036854775808 := by
  obtain ⟨fuel, hf⟩ := h
  rcases open_ints Tryz.underlying25 Tryz.underlying3 pv_cells3 hf with ⟨hcs, _⟩ | ⟨a', len', cap', zs, hcs, _, hl, hm, hz, hx, hcell, hwz⟩
  · simp [Value.cells] at hcs
    obtain ⟨rfl, rfl, rfl⟩ := hcs
    exact ⟨[], rfl, Nat.le_refl _, .inl rfl, fun h => absurd h (by simp), fun t h => absurd h (by simp)⟩
  · simp [Value.cells] at hcs
    obtain ⟨rfl, rfl, rfl⟩ := hcs
    simp only [if_true] at hz
    simp only [Prod.mk.injEq] at hx
    obtain ⟨rfl, rfl⟩ := hx
    refine ⟨zs.take len, by simp; omega, hl, .inr ⟨_, _, rfl, by simp [lits]; omega⟩, fun h0 => ?_, fun t ht => ?_⟩
    · obtain ⟨b, off, spot⟩ := a'
      have hlen : 0 < len := by simp at h0; omega
      have hspot : spot = none := by simpa [Addr.add] using World.cell?_spot (hcell 0 (by omega))
      subst hspot
      refine ⟨b, off, rfl, fun j hj => ?_⟩
      have hj' : j < len := by simp at hj; omega
      have := hcell j (by omega)
      rw [add_plain] at this
      rw [this]
      simp [List.getElem?_take_of_lt hj']
    · have ht' : t < len := by simp at ht; omega
      have hb := bounds_i64 (hwz (zs.getD t 0) (by rw [List.getD_eq_getElem?_getD, List.getElem?_eq_getElem (by omega)]; exact List.getElem_mem _))
      have e : (zs.take len).getD t 0 = zs.getD t 0 := by simp [List.getElem?_take_of_lt ht']
      rw [e]
      omega
end
end Go.Proofs.YtdamippibpbjhaaGreatDoor

/- FnDeltasRead: what the reference writes of a list of numbers, with blocks of any fitting settings, is read back as the numbers, in any batches: for every input the law returns true and every argument reads as before. Conditions: the package-level variables that the row lists hold what the program's text lays (tied by the card). -/
import Derived.Test.YtdamippibpbjhaaGreatDoorYa39
import Derived.Test.YtdamippibpbjhaaGreatDoorYa41
import Derived.Test.YtdamippibpbjhaaGreatDoorRows
import Derived.Test.YtdamippibpbjhaaGreatDoorTie
import Derived.Test.YtdamippibpbjhaaGreatDoorCards
import Derived.ProofKit
import Derived.Lay
import Derived.LaidMore
import Derived.OpenShut
import Derived.SizedLaws
import Derived.ChangeBears2
import Derived.Carry
import Derived.Stop.LaidErr
import Derived.Lib.SmallJoins
import Derived.SevenTiedAt
namespace Go.Proofs.YtdamippibpbjhaaGreatDoor
open Go.ChangeShapes Go.WideShapes Go.ChangeAt Go.RowKit

theorem pf_own : ownKnob Tryz.prog.godebug = none := by kernel_rfl
theorem pf_eof : Tryz.prog.globalNamed "io.EOF" = some 2 := by kernel_rfl
theorem pf_eofType : (Tryz.prog.globals[2]?).map (·.type) = some 84 := by kernel_rfl
theorem pf_cells228 : Tryz.prog.cellsOf 228 = 1 := by kernel_rfl
theorem pf_cells9 : Tryz.prog.cellsOf 9 = 1 := by kernel_rfl
theorem pf_cells2 : Tryz.prog.cellsOf 2 = 1 := by kernel_rfl
theorem pf_cells3 : Tryz.prog.cellsOf 3 = 1 := by kernel_rfl
theorem pf_bytes2 : Tryz.prog.bytesOf 2 = 8 := by kernel_rfl
theorem pf_bytes3 : Tryz.prog.bytesOf 3 = 8 := by kernel_rfl
theorem pf_star : "*" ++ "errors.errorString" = "*errors.errorString" := by decide
theorem pf_row226 (u : TypeId) (h : Tryz.prog.typeName? 3 u = some "*errors.errorString") : u = 226 :=
  typeName_ptr_named (nm := "errors.errorString") (by rw [pf_star]; kernel_rfl) (by kernel_rfl) (by decide) u (by rw [pf_star]; exact h)
/-- The cell of io.EOF. -/
theorem eof_of_laid {W : World} (h : laidMetH Tryz.prog Rows.fnDeltasReadRow.laid W) : ∃ a, W.cell? ⟨2, 0, none⟩ = some (.iface 226 (.pointer (some a))) := by
  rw [MakeChecks.laidMetH_plain _ _ _ (by kernel_rfl)] at h
  have h2 : laidMet Tryz.prog [("io.EOF", .iface "*errors.errorString" (.ptr (.agg [.lit (.string [69, 79, 70])]))), ("io.ErrUnexpectedEOF", Rows.laid_io_ErrUnexpectedEOF), ("encoding/binary.errOverflow", Rows.laid_encoding_binary_errOverflow)] W := laidMet.tail h
  obtain ⟨a, s, hv, _⟩ := laid_sentinel h2 pf_eof pf_eofType Tryz.underlying84 pf_row226 Tryz.underlying226 Tryz.underlying228 rfl rfl Tryz.underlying9 pf_cells228 pf_cells9
  exact ⟨a, by simpa using World.var?_cell pf_eof hv 0⟩
/-- A slice of numbers that came in. -/
theorem longs_of {H : Type} {enc : TypeId × Value → H} {W : World} {t e : TypeId} {a : Option Addr} {len cap : Nat} {d : DataW H} {p : List MemPlace} (ht : Tryz.prog.underlying t = some (.slice e)) (he : Tryz.prog.underlying e = some (.int .i64)) (hc : Tryz.prog.cellsOf e = 1)
    (h : DataW.Trod enc Tryz.prog W 0 (fun _ => true) true t (.slice a len cap) d p) : ∃ l : List Int, len = l.length ∧ len ≤ cap ∧ (len = 0 ∨ ∃ es sp, d = .slice es sp ∧ len ≤ es.length + sp.length) ∧ Ints W a l ∧ ∀ t, t < l.length → -9223372036854775808 ≤ l.getD t 0 ∧ l.getD t 0 < 9223372036854775808 := by
  obtain ⟨fuel, hf⟩ := h
  rcases open_ints ht he hc hf with ⟨hcs, _⟩ | ⟨a', len', cap', zs, hcs, _, hl, hm, hz, hx, hcell, hwz⟩
  · simp [Value.cells] at hcs
    obtain ⟨rfl, rfl, rfl⟩ := hcs
    exact ⟨[], rfl, Nat.le_refl _, .inl rfl, fun h => absurd h (by simp), fun t h => absurd h (by simp)⟩
  · simp [Value.cells] at hcs
    obtain ⟨rfl, rfl, rfl⟩ := hcs
    simp only [if_true] at hz
    simp only [Prod.mk.injEq] at hx
    obtain ⟨rfl, rfl⟩ := hx
    refine ⟨zs.take len, by simp; omega, hl, .inr ⟨_, _, rfl, by simp [lits]; omega⟩, fun h0 => ?_, fun t ht => ?_⟩
    · obtain ⟨b, off, spot⟩ := a'
      have hlen : 0 < len := by simp at h0; omega
      have hspot : spot = none := by simpa [Addr.add] using World.cell?_spot (hcell 0 (by omega))
      subst hspot
      refine ⟨b, off, rfl, fun j hj => ?_⟩
      have hj' : j < len := by simp at hj; omega
      have := hcell j (by omega)
      rw [add_plain] at this
      rw [this]
      simp [List.getElem?_take_of_lt hj']
    · have ht' : t < len := by simp at ht; omega
      have hb := bounds_i64 (hwz (zs.getD t 0) (by rw [List.getD_eq_getElem?_getD, List.getElem?_eq_getElem (by omega)]; exact List.getElem_mem _))
      have e : (zs.take len).getD t 0 = zs.getD t 0 := by simp [List.getElem?_take_of_lt ht']
      rw [e]
      omega

set_option maxHeartbeats 1600000 in
set_option maxRecDepth 100000 in
theorem fnDeltasRead_lifted (os : Os) (started : os.Started) (H : Type) (enc : TypeId × Value → H) :
    ReturnsInHanded {} Tryz.checked os 3 .any (fun w args => (Rows.fnDeltasReadSpec.pre enc Tryz.prog Tryz.f3 [] false w args ∧ laidMetH Tryz.prog Rows.fnDeltasReadRow.laid w) ∧ sizedMet enc Tryz.prog Tryz.f3 (OpenSpec.ofChange Rows.fnDeltasReadSpec) false w args)
      (Rows.fnDeltasReadSpec.post enc Tryz.prog Tryz.f3 false true false false) := by
  refine returnsInHanded_of_change_and (C := Tryz.checked) (X := fun w _ => laidMetH Tryz.prog Rows.fnDeltasReadRow.laid w) (fun _ _ _ hh h => h.of_heap hh) pf_own started (by kernel_rfl) Tryz.func3
    (ChangeSpec.witness_shaped (enc := enc) (C := Tryz.checked) (os := os) (X := fun w _ => laidMetH Tryz.prog Rows.fnDeltasReadRow.laid w) false (World.laidAll Tryz.prog os Rows.fnDeltasReadRow.laid) #[.int .i64 0, .slice none 0 0, .agg #[.int .i64 0, .int .i64 0, .int .i64 0, .bool false], .slice none 0 0] 8 (World.laidAll_os _ _ _)
      (World.shaped_of_ZipB (by kernel_rfl) (by kernel_rfl)) (by kernel_rfl) (by kernel_rfl) (by kernel_rfl)
      (by rw [MakeChecks.laidMetH_plain _ _ _ (by kernel_rfl)]; exact laidMet_laidAll _ (by kernel_rfl) (by kernel_rfl))) ?_
  intro W base args ds gs before hval0 hW _ hsz0 hL _
  have hval : ∀ (j : Nat) t v, Tryz.f3.params[j]? = some t → args[j]? = some v → Value.okWide Tryz.prog W .any base t v := hval0
  have hsz : (DataW.weightsEach Tryz.prog (Tryz.f3.params.toList ++ Rows.fnDeltasReadSpec.plain.varTypes Tryz.prog) (ds ++ gs)).all (· ≤ reachBytes) = true := hsz0
  have hW' := hW
  obtain ⟨p, q, hA0, hV, rfl, hfz, hnd⟩ := hW
  have hA : DataW.TrodAll enc Tryz.prog W 0 (fun _ => true) true Tryz.f3.params.toList args.toList ds p := hA0
  rw [Tryz.params3] at hA hval hsz
  obtain ⟨v0, v1, v2, v3, d0, d1, d2, d3, p0, p1, p2, p3, rfl, rfl, rfl, h0, h1, h2, h3⟩ := trodAll_four hA
  obtain ⟨rfl, rfl⟩ := trodVars_none hV
  clear hA hA0 hV hval0 hsz0
  obtain ⟨eof, heof⟩ := eof_of_laid hL
  have hlt : ∀ x ∈ p0 ++ p1 ++ p2 ++ p3, x.block < W.heap.size := fun x hx => hW'.lt x (List.mem_append_left _ hx)
  have hargs : ∀ (W' : World), Below W.heap.size W W' → DataW.TrodAll enc Tryz.prog W' 0 (fun b => decide (b < W.heap.size)) true [3, 22, 24, 25] [v0, v1, v2, v3] [d0, d1, d2, d3] (p0 ++ (p1 ++ (p2 ++ p3))) := fun W' hn =>
    trodAll_mk4 (Below.trod kf_laidOut (by kernel_rfl) (of_decide_eq_true (by kernel_rfl)) h0 hn (fun x hx => hlt x (by simp [hx])))
      (Below.trod kf_laidOut (by kernel_rfl) (of_decide_eq_true (by kernel_rfl)) h1 hn (fun x hx => hlt x (by simp [hx])))
      (Below.trod kf_laidOut (by kernel_rfl) (of_decide_eq_true (by kernel_rfl)) h2 hn (fun x hx => hlt x (by simp [hx])))
      (Below.trod kf_laidOut (by kernel_rfl) (of_decide_eq_true (by kernel_rfl)) h3 hn (fun x hx => hlt x (by simp [hx])))
  have hwhole : ∃ (n : Int) (a1 a3 : Option Addr) (l bs : List Int) (c d : Nat) (S M More : Int) (odd : Bool), v0 = .int .i64 n ∧ v1 = .slice a1 l.length c ∧ v2 = .agg #[.int .i64 S, .int .i64 M, .int .i64 More, .bool odd] ∧ v3 = .slice a3 bs.length d ∧ Ints W a1 l ∧ Ints W a3 bs ∧ l.length ≤ c ∧ l.length ≤ 140737488351232 ∧ bs.length ≤ 140737488351232 ∧ ∀ t, t < l.length → -9223372036854775808 ≤ l.getD t 0 ∧ l.getD t 0 < 9223372036854775808 := by
    obtain ⟨n, rfl, _, _, _⟩ := open_int Tryz.underlying3 (hval 0 3 v0 rfl rfl) h0
    obtain ⟨a1, len1, cap1, rfl⟩ := okWide_slice Tryz.underlying22 (hval 1 22 v1 rfl rfl)
    obtain ⟨a3, len3, cap3, rfl⟩ := okWide_slice Tryz.underlying25 (hval 3 25 v3 rfl rfl)
    obtain ⟨l, rfl, hc1, hr1, hi1, hb1⟩ := longs_of Tryz.underlying22 Tryz.underlying2 pf_cells2 h1
    obtain ⟨bs, rfl, hc3, hr3, hi3, hb3⟩ := longs_of Tryz.underlying25 Tryz.underlying3 pf_cells3 h3
    have hl1 : l.length ≤ 140737488351232 := by
      rcases hr1 with e | ⟨es, sp, rfl, e⟩
      · omega
      · have := sized_slice hsz (j := 1) (t := 22) (e := 2) rfl rfl Tryz.underlying22
        rw [pf_bytes2] at this
        simp only [reachBytes] at this
        omega
    have hl3 : bs.length ≤ 140737488351232 := by
      rcases hr3 with e | ⟨es, sp, rfl, e⟩
      · omega
      · have := sized_slice hsz (j := 3) (t := 25) (e := 3) rfl rfl Tryz.underlying25
        rw [pf_bytes3] at this
        simp only [reachBytes] at this
        omega
    obtain ⟨b0, b1, b2, b3, y0, y1, y2, y3, m, rfl, _, _, t0, t1, t2, t3⟩ := Go.Joins.open_agg4 Tryz.underlying24 (by kernel_rfl) (by kernel_rfl) (hval 2 24 v2 rfl rfl) h2
    obtain ⟨S, e0, _⟩ := DataW.trod_int Tryz.underlying3 t0
    obtain ⟨M, e1, _⟩ := DataW.trod_int Tryz.underlying3 t1
    obtain ⟨More, e2, _⟩ := DataW.trod_int Tryz.underlying3 t2
    obtain ⟨odd, e3, _⟩ := DataW.trod_bool Tryz.underlying4 t3
    simp only [List.cons.injEq, and_true] at e0 e1 e2 e3
    subst e0 e1 e2 e3
    exact ⟨n, a1, a3, l, bs, cap1, cap3, S, M, More, odd, rfl, rfl, rfl, rfl, hi1, hi3, hc1, hl1, hl3, hb1⟩
  obtain ⟨n, a1, a3, l, bs, c, d, S, M, More, odd, rfl, rfl, rfl, rfl, hi1, hi3, hc1, hl1, hl3, hb1⟩ := hwhole
  refine (law_any n a1 a3 l bs c d S M More odd eof W hi1 hi3 hc1 hl1 hl3 hb1 heof).mono fun e W' ⟨he, hk⟩ => ?_
  subst he
  have hB : Below W.heap.size W W' := hk.below (Nat.le_refl _) (fun k h => h.elim)
  simp only [List.append_nil] at hW'
  exact ⟨_, rfl, _, _, _, [], _, [], hW', trodAll_mk1 (shut_bool Tryz.underlying4 _), hargs W' hB, rfl, hB.frame _, fun h => by cases h⟩
theorem fnDeltasRead_holds : Rows.FnDeltasReadSaid :=
  OpenClaim.holds_of_wide 3 Tryz.f3 rfl rfl rfl rfl rfl rfl rfl ⟨rfl, rfl, rfl, rfl, rfl⟩ rfl rfl rfl rfl rfl kf_funcNamed Tryz.func3 kf_closed kf_inst kf_wrap
    (fun os started H enc _ => fnDeltasRead_lifted os started H enc)
theorem fnDeltasRead_card_holds : Rows.FnDeltasReadCardSaid :=
  Claim7.holds_tied_plain_at .later [] [.sentinel, .sentinel, .sentinel, .sentinel] true (true, "34835d5007dda4f527edb23964953bbbf50ab3bc038100cceb874db339aef2da") true
    fnDeltasRead_holds (fun _ h => by cases h) (by kernel_rfl) (fun _ h => by cases h) fnDeltasRead_row_tie rfl ⟨rfl, rfl⟩ (by kernel_rfl) rfl
    (fun f fn hf hfn => by
      obtain rfl : f = 3 := Option.some.inj ((show Tryz.prog.funcNamed "given.example/pub-arrowroot/laws.FnDeltasRead" = some 3 by kernel_rfl).symm.trans hf) |>.symm
      obtain rfl : fn = Tryz.f3 := (Option.some.inj (Tryz.func3.symm.trans hfn)).symm
      exact ⟨by kernel_rfl, fun j t ht => by
        rw [Tryz.params3] at ht
        have hm : t ∈ [3, 22, 24, 25] := by simpa using Array.mem_of_getElem? ht
        have hall : ([3, 22, 24, 25].all fun u => !Tryz.prog.wantsStandIn u) = true := by kernel_rfl
        exact (show Tryz.prog.wantsStandIn t = false by simpa using List.all_eq_true.1 hall t hm)⟩)
    (by kernel_rfl)
#print axioms fnDeltasRead_card_holds
end Go.Proofs.YtdamippibpbjhaaGreatDoor

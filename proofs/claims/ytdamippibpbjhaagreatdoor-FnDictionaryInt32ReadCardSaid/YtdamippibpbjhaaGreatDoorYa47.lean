/- FnDictionaryInt32Read: numbers of 32 bits that the reference writes by a dictionary, their numbers as runs of whatever form, are read in batches as they are: for every input the law returns true and every argument reads as before. Conditions: the package-level variables that the row lists hold what the program's text lays (tied by the card). -/
import Derived.Test.YtdamippibpbjhaaGreatDoorYa43
import Derived.Test.YtdamippibpbjhaaGreatDoorYa44
import Derived.Test.YtdamippibpbjhaaGreatDoorYa46
import Derived.Test.YtdamippibpbjhaaGreatDoorRows
import Derived.Test.YtdamippibpbjhaaGreatDoorTie
import Derived.Test.YtdamippibpbjhaaGreatDoorCards
import Derived.ProofKit
import Derived.Lay
import Derived.LaidMore
import Derived.OpenShut
import Derived.SizedLaws
import Derived.ChangeBears2
import Derived.Carry
import Derived.Stop.LaidErr
import Derived.Lib.SmallJoins
import Derived.SevenTiedAt
namespace Go.Proofs.YtdamippibpbjhaaGreatDoor
open Go.ChangeShapes Go.WideShapes Go.ChangeAt Go.RowKit
open I32 (law5_any)

theorem pg_own : ownKnob Tryz.prog.godebug = none := by kernel_rfl
theorem pg_eof : Tryz.prog.globalNamed "io.EOF" = some 2 := by kernel_rfl
theorem pg_eofType : (Tryz.prog.globals[2]?).map (·.type) = some 84 := by kernel_rfl
theorem pg_cells228 : Tryz.prog.cellsOf 228 = 1 := by kernel_rfl
theorem pg_cells9 : Tryz.prog.cellsOf 9 = 1 := by kernel_rfl
theorem pg_star : "*" ++ "errors.errorString" = "*errors.errorString" := by decide
theorem pg_row226 (u : TypeId) (h : Tryz.prog.typeName? 3 u = some "*errors.errorString") : u = 226 :=
  typeName_ptr_named (nm := "errors.errorString") (by rw [pg_star]; kernel_rfl) (by kernel_rfl) (by decide) u (by rw [pg_star]; exact h)
/-- The cell of io.EOF. -/
theorem eof_of_laid' {W : World} (h : laidMetH Tryz.prog Rows.fnDictionaryInt32ReadRow.laid W) : ∃ a, W.cell? ⟨2, 0, none⟩ = some (.iface 226 (.pointer (some a))) := by
  rw [MakeChecks.laidMetH_plain _ _ _ (by kernel_rfl)] at h
  have h2 : laidMet Tryz.prog [("io.EOF", .iface "*errors.errorString" (.ptr (.agg [.lit (.string [69, 79, 70])]))), ("io.ErrUnexpectedEOF", Rows.laid_io_ErrUnexpectedEOF), ("encoding/binary.errOverflow", Rows.laid_encoding_binary_errOverflow)] W := laidMet.tail h
  obtain ⟨a, s, hv, _⟩ := laid_sentinel h2 pg_eof pg_eofType Tryz.underlying84 pg_row226 Tryz.underlying226 Tryz.underlying228 rfl rfl Tryz.underlying9 pg_cells228 pg_cells9
  exact ⟨a, by simpa using World.var?_cell pg_eof hv 0⟩

set_option maxHeartbeats 1600000 in
set_option maxRecDepth 100000 in
theorem fnDictionaryInt32Read_lifted (os : Os) (started : os.Started) (H : Type) (enc : TypeId × Value → H) :
    ReturnsInHanded {} Tryz.checked os 5 .any (fun w args => (Rows.fnDictionaryInt32ReadSpec.pre enc Tryz.prog Tryz.f5 [] false w args ∧ laidMetH Tryz.prog Rows.fnDictionaryInt32ReadRow.laid w) ∧ sizedMet enc Tryz.prog Tryz.f5 (OpenSpec.ofChange Rows.fnDictionaryInt32ReadSpec) false w args)
      (Rows.fnDictionaryInt32ReadSpec.post enc Tryz.prog Tryz.f5 false true false false) := by
  refine returnsInHanded_of_change_and (C := Tryz.checked) (X := fun w _ => laidMetH Tryz.prog Rows.fnDictionaryInt32ReadRow.laid w) (fun _ _ _ hh h => h.of_heap hh) pg_own started (by kernel_rfl) Tryz.func5
    (ChangeSpec.witness_shaped (enc := enc) (C := Tryz.checked) (os := os) (X := fun w _ => laidMetH Tryz.prog Rows.fnDictionaryInt32ReadRow.laid w) false (World.laidAll Tryz.prog os Rows.fnDictionaryInt32ReadRow.laid) #[.slice none 0 0, .int .i64 0, .slice none 0 0, .slice none 0 0] 8 (World.laidAll_os _ _ _)
      (World.shaped_of_ZipB (by kernel_rfl) (by kernel_rfl)) (by kernel_rfl) (by kernel_rfl) (by kernel_rfl)
      (by rw [MakeChecks.laidMetH_plain _ _ _ (by kernel_rfl)]; exact laidMet_laidAll _ (by kernel_rfl) (by kernel_rfl))) ?_
  intro W base args ds gs before hval0 hW _ hsz0 hL _
  have hval : ∀ (j : Nat) t v, Tryz.f5.params[j]? = some t → args[j]? = some v → Value.okWide Tryz.prog W .any base t v := hval0
  have hsz : (DataW.weightsEach Tryz.prog (Tryz.f5.params.toList ++ Rows.fnDictionaryInt32ReadSpec.plain.varTypes Tryz.prog) (ds ++ gs)).all (· ≤ reachBytes) = true := hsz0
  have hW' := hW
  obtain ⟨p, q, hA0, hV, rfl, hfz, hnd⟩ := hW
  have hA : DataW.TrodAll enc Tryz.prog W 0 (fun _ => true) true Tryz.f5.params.toList args.toList ds p := hA0
  rw [Tryz.params5] at hA hval hsz
  obtain ⟨v0, v1, v2, v3, d0, d1, d2, d3, p0, p1, p2, p3, rfl, rfl, rfl, h0, h1, h2, h3⟩ := trodAll_four hA
  obtain ⟨rfl, rfl⟩ := trodVars_none hV
  clear hA hA0 hV hval0 hsz0
  obtain ⟨eof, heof⟩ := eof_of_laid' hL
  have hlt : ∀ x ∈ p0 ++ p1 ++ p2 ++ p3, x.block < W.heap.size := fun x hx => hW'.lt x (List.mem_append_left _ hx)
  have hargs : ∀ (W' : World), Below W.heap.size W W' → DataW.TrodAll enc Tryz.prog W' 0 (fun b => decide (b < W.heap.size)) true [36, 3, 37, 25] [v0, v1, v2, v3] [d0, d1, d2, d3] (p0 ++ (p1 ++ (p2 ++ p3))) := fun W' hn =>
    trodAll_mk4 (Below.trod kv_laidOut (by kernel_rfl) (of_decide_eq_true (by kernel_rfl)) h0 hn (fun x hx => hlt x (by simp [hx])))
      (Below.trod kv_laidOut (by kernel_rfl) (of_decide_eq_true (by kernel_rfl)) h1 hn (fun x hx => hlt x (by simp [hx])))
      (Below.trod kv_laidOut (by kernel_rfl) (of_decide_eq_true (by kernel_rfl)) h2 hn (fun x hx => hlt x (by simp [hx])))
      (Below.trod kv_laidOut (by kernel_rfl) (of_decide_eq_true (by kernel_rfl)) h3 hn (fun x hx => hlt x (by simp [hx])))
  have hwhole : ∃ (n : Int) (a0 a2 a3 : Option Addr) (l : List SVal) (rl : List SRunM) (bs : List Int) (c0 c2 c3 : Nat), v0 = .slice a0 l.length c0 ∧ v1 = .int .i64 n ∧ v2 = .slice a2 rl.length c2 ∧ v3 = .slice a3 bs.length c3 ∧ Vals W a0 l ∧ Runs W a2 rl ∧ Ints W a3 bs ∧ l.length ≤ 140737488351232 ∧ bs.length ≤ 140737488351232 ∧ ∀ t, t < bs.length → -9223372036854775808 ≤ bs.getD t 0 ∧ bs.getD t 0 < 9223372036854775808 := by
    obtain ⟨a0, len0, cap0, rfl⟩ := okWide_slice Tryz.underlying36 (hval 0 36 v0 rfl rfl)
    obtain ⟨n, rfl, _, _, _⟩ := open_int Tryz.underlying3 (hval 1 3 v1 rfl rfl) h1
    obtain ⟨a2, len2, cap2, rfl⟩ := okWide_slice Tryz.underlying37 (hval 2 37 v2 rfl rfl)
    obtain ⟨a3, len3, cap3, rfl⟩ := okWide_slice Tryz.underlying25 (hval 3 25 v3 rfl rfl)
    obtain ⟨l, rfl, hc0, hr0, hi0⟩ := vals_of h0
    obtain ⟨rl, rfl, hi2⟩ := runs_of h2
    obtain ⟨bs, rfl, hc3, hr3, hi3, hb3⟩ := longs_of' h3
    have hl0 : l.length ≤ 140737488351232 := by
      rcases hr0 with e | ⟨es, sp, rfl, e⟩
      · omega
      · have := sized_slice hsz (j := 0) (t := 36) (e := 47) rfl rfl Tryz.underlying36
        rw [pv_bytes47] at this
        simp only [reachBytes] at this
        omega
    have hl3 : bs.length ≤ 140737488351232 := by
      rcases hr3 with e | ⟨es, sp, rfl, e⟩
      · omega
      · have := sized_slice hsz (j := 3) (t := 25) (e := 3) rfl rfl Tryz.underlying25
        rw [pv_bytes3] at this
        simp only [reachBytes] at this
        omega
    exact ⟨n, a0, a2, a3, l, rl, bs, cap0, cap2, cap3, rfl, rfl, rfl, rfl, hi0, hi2, hi3, hl0, hl3, hb3⟩
  obtain ⟨n, a0, a2, a3, l, rl, bs, c0, c2, c3, rfl, rfl, rfl, rfl, hi0, hi2, hi3, hl0, hl3, hb3⟩ := hwhole
  refine (law5_any a0 a3 a2 l rl bs c0 c3 c2 n eof W hi0 hi3 hi2 hl0 hl3 hb3 heof).mono fun e W' ⟨he, hk⟩ => ?_
  subst he
  have hB : Below W.heap.size W W' := hk.below (Nat.le_refl _) (fun k h => h.elim)
  simp only [List.append_nil] at hW'
  exact ⟨_, rfl, _, _, _, [], _, [], hW', trodAll_mk1 (shut_bool Tryz.underlying4 _), hargs W' hB, rfl, hB.frame _, fun h => by cases h⟩
theorem fnDictionaryInt32Read_holds : Rows.FnDictionaryInt32ReadSaid :=
  OpenClaim.holds_of_wide 5 Tryz.f5 rfl rfl rfl rfl rfl rfl rfl ⟨rfl, rfl, rfl, rfl, rfl⟩ rfl rfl rfl rfl rfl kv_funcNamed Tryz.func5 kv_closed kv_inst kv_wrap
    (fun os started H enc _ => fnDictionaryInt32Read_lifted os started H enc)
theorem fnDictionaryInt32Read_card_holds : Rows.FnDictionaryInt32ReadCardSaid :=
  Claim7.holds_tied_plain_at .later [] [.sentinel, .sentinel, .sentinel, .sentinel] true (true, "34835d5007dda4f527edb23964953bbbf50ab3bc038100cceb874db339aef2da") true
    fnDictionaryInt32Read_holds (fun _ h => by cases h) (by kernel_rfl) (fun _ h => by cases h) fnDictionaryInt32Read_row_tie rfl ⟨rfl, rfl⟩ (by kernel_rfl) rfl
    (fun f fn hf hfn => by
      obtain rfl : f = 5 := Option.some.inj ((show Tryz.prog.funcNamed "given.example/pub-arrowroot/laws.FnDictionaryInt32Read" = some 5 by kernel_rfl).symm.trans hf) |>.symm
      obtain rfl : fn = Tryz.f5 := (Option.some.inj (Tryz.func5.symm.trans hfn)).symm
      exact ⟨by kernel_rfl, fun j t ht => by
        rw [Tryz.params5] at ht
        have hm : t ∈ [36, 3, 37, 25] := by simpa using Array.mem_of_getElem? ht
        have hall : ([36, 3, 37, 25].all fun u => !Tryz.prog.wantsStandIn u) = true := by kernel_rfl
        exact (show Tryz.prog.wantsStandIn t = false by simpa using List.all_eq_true.1 hall t hm)⟩)
    (by kernel_rfl)
#print axioms fnDictionaryInt32Read_card_holds
end Go.Proofs.YtdamippibpbjhaaGreatDoor

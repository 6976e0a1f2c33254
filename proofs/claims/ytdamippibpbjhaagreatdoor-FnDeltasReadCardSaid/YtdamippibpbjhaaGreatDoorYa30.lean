import Derived.Test.YtdamippibpbjhaaGreatDoorYa25
import Derived.Test.YtdamippibpbjhaaGreatDoorYa29
import Derived.Defers
import Derived.Recover
/-! The reader of deltas: numbers of 64 bits. -/
namespace Go.Proofs.YtdamippibpbjhaaGreatDoor
open Go.RowKit

set_option maxRecDepth 100000 in
theorem catch64 (p q : Addr) (w : World) : CallsD Tryz.prog 72 #[.pointer (some p), .pointer (some q)] .returning w fun e u' w' => e = .returned (.tuple #[]) ∧ u' = .returning ∧ w' = w := by
  refine callsD_of_wpS Tryz.func72 rfl fun c₀ cs hu => ?_
  apply wpS_seq
  apply wpS_region
  simp [wpOpsS, go_sem, recoverD, hu, Tryz.ntmps72, Exit.thenS]
  refine wpS_cond (t := false) (by simp [Act.eval, Array.replicate]) ?_
  refine wpS_of_wp (wp_skip ?_)
  cases c₀
  simp_all [bodyPostS, results, Tryz.results72]

set_option maxRecDepth 100000 in
set_option maxHeartbeats 4000000 in
theorem newBase_any (w : World) : Calls Tryz.prog 84 #[] w fun e w' => e = .returned (.agg #[.int .i64 0, .slice none 0 0, .int .i64 0]) ∧ Keep (fun _ => False) w w' := by
  go_enter Tryz.func84, Tryz.ntmps84
  go_wp2_with fail
  exact bodyPost_ret (v := .agg #[.int .i64 0, .slice none 0 0, .int .i64 0]) (by simp [results, Tryz.results84, go_sem]) rfl ⟨rfl, (Keep.refl _ w).alloc _⟩
set_option maxRecDepth 100000 in
set_option maxHeartbeats 4000000 in
theorem newDec64 (w : World) : Calls Tryz.prog 73 #[.iface 94 (.agg #[])] w fun e w' => ∃ db, e = .returned (.pointer (some ⟨db, 0, none⟩)) ∧ Keep (fun _ => False) w w' ∧ w.heap.size ≤ db ∧ w'.heap[db]? = some (.cells DV.fresh.cells 206 (0, 0)) := by
  go_enter Tryz.func73, Tryz.ntmps73
  go_wp2_with fail
  refine (newBase_any w).mono ?_
  rintro e w1 ⟨rfl, hk1⟩
  go_wp2_with fail
  go_ret
  exact ⟨w1.heap.size, rfl, hk1.alloc _, hk1.size, blk_new w1 _⟩

set_option maxRecDepth 100000 in
set_option maxHeartbeats 4000000 in
theorem decoded64_nil (A : Option Addr) (cb : Nat) (f g : Value) (w : World) : Calls Tryz.prog 75 #[.slice A 0 cb, f, g] w fun e w' => e = .returned (.tuple #[.slice none 0 0, .bool true]) ∧ w' = w := by
  go_enter Tryz.func75, Tryz.ntmps75
  go_wp2_with fail
  go_loopw [6, 9, 10, 11, 12, 13, 14, 17] (fun vv _ _ _ _ _ _ i wr => vv = .slice none 0 0 ∧ i = .int .i64 0 ∧ wr = w) (fun _ _ _ _ _ _ _ _ _ => 0)
  case atStart => exact ⟨rfl, rfl, rfl⟩
  case round =>
    obtain ⟨rfl, rfl, rfl⟩ := hrel
    go_wp2_with fail
    go_ret2
    exact ⟨rfl, rfl⟩

set_option maxRecDepth 100000 in
set_option maxHeartbeats 8000000 in
theorem deltasRead64 {D : List Int} {y : Way} {l : List Int} (Y : Lay D y l) (hy : y.Wf) (hW : y.W = 64) (hM : y.M ≤ 32) (hS : 128 ≤ y.S ∧ y.S ≤ 1024 ∧ y.S % 128 = 0) (hn : 32 ≤ y.n ∧ y.n ≤ 1024 ∧ y.n % 32 = 0) (hll : l.length ≤ 2000) (hl : ∀ t, t < l.length → -9223372036854775808 ≤ l.getD t 0 ∧ l.getD t 0 < 9223372036854775808)
    (hl0 : -9223372036854775808 ≤ l.getD 0 0 ∧ l.getD 0 0 < 9223372036854775808) (n1 n2 n3 n4 : Nat) (l1 : Leb D 0 n1 y.S) (l2 : Leb D (n1 + 1) n2 y.M) (l3 : Leb D (n1 + 1 + n2 + 1) n3 l.length) (l4 : Leb D (n1 + 1 + n2 + 1 + n3 + 1) n4 (zg (l.getD 0 0))) (hP : Y.P 0 = n1 + 1 + n2 + 1 + n3 + 1 + n4 + 1)
    (g o cap : Nat) (eof : Addr) (w : World) (hcap : D.length ≤ cap) (hmax : D.length ≤ 140737488351232) (hD : Bytes D) (hrow : Row w .u8 g o D) (hg : g < w.heap.size) (heof : w.cell? ⟨2, 0, none⟩ = some (.iface 226 (.pointer (some eof))))
    (A : Option Addr) (cb : Nat) (bs : List Int) (hA : 0 < bs.length → ∃ gb ob, A = some ⟨gb, ob, none⟩ ∧ Row w .i64 gb ob bs) (hlen : bs.length ≤ 50) (hb : ∀ c, c < bs.length → bs.getD c 0 ≠ 0 ∧ -5000 ≤ bs.getD c 0 ∧ bs.getD c 0 ≤ 5000) :
    Calls Tryz.prog 29 #[.slice (some ⟨g, o, none⟩) D.length cap, .int .i64 l.length, .slice A bs.length cb] w fun e w' =>
      ∃ out, e = .returned (.tuple #[out, .bool true]) ∧ w'.ownsRow w.heap.size 2 1 out (takenL l 0 bs).length (ints64 (takenL l 0 bs)) ∧ Keep (fun _ => False) w w' := by
  have h2 : 2 < w.heap.size := World.block_lt_of_cell? w _ heof
  go_enter_defers Tryz.func29, Tryz.ntmps29
  go_wp2_with fail
  have hkA : Keep (fun _ => False) w ((w.alloc (.cells #[.slice none 0 0] 22)).alloc (.cells #[.bool false] 4)) := ((Keep.refl _ w).alloc _).alloc _
  have hr6 : ((w.alloc (.cells #[.slice none 0 0] 22)).alloc (.cells #[.bool false] 4)).heap[w.heap.size]? = some (.cells #[.slice none 0 0] 22 (0, 0)) := blk_alloc (blk_new w _) _
  have hr7 : ((w.alloc (.cells #[.slice none 0 0] 22)).alloc (.cells #[.bool false] 4)).heap[w.heap.size + 1]? = some (.cells #[.bool false] 4 (0, 0)) := by have := blk_new (w.alloc (.cells #[.slice none 0 0] 22)) (.cells #[.bool false] 4); simpa using this
  generalize ((w.alloc (.cells #[.slice none 0 0] 22)).alloc (.cells #[.bool false] 4)) = w1 at *
  refine (newDec64 w1).mono ?_
  rintro e w2 ⟨db, rfl, hk2, hdb, hdbc⟩
  have hka2 := hkA.step hk2 (fun _ h => h.elim)
  have hs1 := hkA.size
  have HSd := Lib.hid (setData64 db g o D.length cap l.length D eof w2 rfl hcap hmax hD (hrow.keep hka2 (fun h => h)) (by have := hka2.size; omega) (by have := hka2.size; omega) (hka2.cell heof (fun h => h)) hdbc (by omega) (by omega)
    n1 n2 n3 n4 y.S y.M l.length (zg (l.getD 0 0)) l1 l2 l3 l4 ⟨by omega, by omega, by omega⟩ ⟨by have := hy.M0; omega, by omega, by rw [hy.S]; simp⟩ (by
      have e : ((y.S : Nat) : Int) / ((y.M : Nat) : Int) = (y.n : Nat) := by rw [hy.S]; have := hy.M0; rw [Int.natCast_mul, Int.mul_ediv_cancel_left _ (by omega)]
      rw [e]; omega) (by omega) hll)
  go_wp2_with fail
  refine HSd.out.mono ?_
  rintro e w3 ⟨rfl, hk3, E, mb, hEW, hEA, hED, hEb, hEm, hErb, hEg, hSD⟩
  obtain ⟨eb, erb, eg, eo, esc, eD, eeof⟩ := E
  simp only at hED hEb hErb hEg
  subst hED hEg
  have hs2 := hka2.size
  have hs21 := hk2.size
  have hkw3 := hka2.step hk3 (fun b hb => .inr (by have h' : b = db := hb; omega))
  have hOc : Oc ⟨eb, erb, eg, eo, esc, eD, eeof⟩ db mb (fun b => b = db ∨ b = eb ∨ b = erb ∨ b = mb) w3 := by
    refine ⟨.inr (.inl rfl), .inr (.inr (.inl rfl)), .inl rfl, .inr (.inr (.inr rfl)), ?_, ?_, ?_⟩
    · rintro (h | h | h | h) <;> (have h' : eg = _ := h; omega)
    · rintro (h | h | h | h) <;> omega
    · rintro b (rfl | rfl | rfl | rfl)
      · exact blk_lt hSD.dec
      · obtain ⟨_, _, _, _, ⟨c, hc, _⟩, _⟩ := hSD.pos; exact blk_lt hc
      · obtain ⟨i, p, hr⟩ := hSD.src.rd; exact blk_lt hr
      · exact blk_lt hSD.buf
  have hMn : ((y.S : Nat) : Int) / ((y.M : Nat) : Int) = (y.n : Nat) := by rw [hy.S]; have := hy.M0; rw [Int.natCast_mul, Int.mul_ediv_cancel_left _ (by omega)]
  have hDSt : DSt ⟨eb, erb, eg, eo, esc, eD, eeof⟩ 206 2 enc64 db mb (Y := Y) (fun b => b = db ∨ b = eb ∨ b = erb ∨ b = mb) 0 w3 :=
    ⟨⟨⟨l.length, .slice (some ⟨eg, o, none⟩) eD.length cap, 0, false, .pointer (some ⟨eb, 0, none⟩), y.S, 0, y.M, (y.S : Int) / (y.M : Int), 0, 0, 0, .pointer (some ⟨mb, 0, none⟩), 0, l.length, unzz (zg (l.getD 0 0)), .slice none 0 0, .slice none 0 0⟩, _, by simp, rfl, .inl ⟨by omega, ⟨⟨rfl, rfl, rfl, rfl, hMn⟩, by rw [hP]; exact hSD, rfl, unzz_zg _, rfl, rfl, rfl, rfl⟩⟩⟩, Nat.zero_le _, hOc⟩
  have hF : Fine ⟨eb, erb, eg, eo, esc, eD, eeof⟩ db mb y l := ⟨hEW, hEA, hy, by omega, hM, hS.2.1, hn, hl0, hll, by have := l1.lt; show 0 < eD.length; omega⟩
  have hval : ∀ t, t < l.length → enc64 (Y.acc t) = .int .i64 (l.getD t 0) := fun t ht => by
    have hb := hl t ht
    rw [enc64_wrap y hW _ (Y.acc_bounds hl0 t), Y.acc_eq hy t ht (by unfold wrapW; rw [if_pos hW, IntKind.wrap_i64]; omega)]
  have HDc : Calls Tryz.prog 75 #[.slice A bs.length cb, .func (.func 76) #[.pointer (some ⟨db, 0, none⟩)] #[], .func (.func 77) #[.pointer (some ⟨db, 0, none⟩)] #[]] w3 fun e w' =>
      ∃ out, e = .returned (.tuple #[out, .bool true]) ∧ w'.ownsRow w3.heap.size 2 1 out (takenL l 0 bs).length (ints64 (takenL l 0 bs)) ∧ Keep (fun b => b = db ∨ b = eb ∨ b = erb ∨ b = mb) w3 w' := by
    by_cases h0 : 0 < bs.length
    · obtain ⟨gb, ob, rfl, hbs⟩ := hA h0
      have hgbl := World.block_lt_of_cell? w _ (hbs 0 h0)
      exact decoded64 hF hDSt hval gb ob cb bs (hbs.keep hkw3 (fun h => h)) (by rintro (h | h | h | h) <;> (have h' : gb = _ := h; simp at hgbl; omega)) hlen hb
    · have hbn : bs = [] := List.eq_nil_of_length_eq_zero (by omega)
      subst hbn
      refine (decoded64_nil A cb _ _ w3).mono ?_
      rintro e w' ⟨rfl, rfl⟩
      exact ⟨_, rfl, World.ownsRow_nil _ _ 2 1, Keep.refl _ _⟩
  have HDc := Lib.hid HDc
  have Hk13 := Lib.hid (show Keep (fun b => b = db ∨ b = eb ∨ b = erb ∨ b = mb) w1 w3 from (hk2.mono (fun _ h => h.elim)).trans (hk3.mono (fun b hb => .inl hb)))
  clear hval hF hDSt hSD hOc hrow hD hA hb HSd l1 l2 l3 l4 hk3 hkA hka2 hk2
  go_wp2_with fail
  refine HDc.out.mono ?_
  rintro e w4 ⟨out, rfl, hown, hk4⟩
  obtain ⟨oa, on, oc, rfl⟩ : ∃ a n c, out = .slice a n c := by
    rcases hown.2 with ⟨rfl, _⟩ | ⟨_, _, _, rfl, _⟩ <;> exact ⟨_, _, _, rfl⟩
  obtain ⟨out, hout⟩ : ∃ out, out = Value.slice oa on oc := ⟨_, rfl⟩
  rw [← hout] at hown
  have hno : ∀ b, b < w1.heap.size → ¬ (b = db ∨ b = eb ∨ b = erb ∨ b = mb) := by rintro b hb (h | h | h | h) <;> omega
  have hw1s : w.heap.size + 1 < w1.heap.size := blk_lt hr7
  have hk13 : Keep (fun b => b = db ∨ b = eb ∨ b = erb ∨ b = mb) w1 w4 := Hk13.out.trans hk4
  have h6 := hk13.blk hr6 (hno _ (by omega))
  have h7 := hk13.blk hr7 (hno _ (by omega))
  have hc6 := blk_cell h6
  have hc7 := blk_cell h7
  have hf6 := blk_frozen h6
  have hf7 := blk_frozen h7
  have hs3 := hkw3.size
  have hs4 := hk4.size
  have hkE : Keep (fun _ => False) w ((w4.setCell ⟨w.heap.size, 0, none⟩ out).setCell ⟨w.heap.size + 1, 0, none⟩ (.bool true)) := ((hkw3.step hk4 (by rintro b (h | h | h | h) <;> exact .inr (by omega))).setCell (p := ⟨w.heap.size, 0, none⟩) (.inr (Nat.le_refl _)) _).setCell (p := ⟨w.heap.size + 1, 0, none⟩) (.inr (by simp)) _
  have hk5 : Keep (fun b => b = w.heap.size ∨ b = w.heap.size + 1) w4 ((w4.setCell ⟨w.heap.size, 0, none⟩ out).setCell ⟨w.heap.size + 1, 0, none⟩ (.bool true)) := ((Keep.refl _ w4).setCell (p := ⟨w.heap.size, 0, none⟩) (.inl (.inl rfl)) _).setCell (p := ⟨w.heap.size + 1, 0, none⟩) (.inl (.inr rfl)) _
  have hk31 : w1.heap.size ≤ w3.heap.size := Hk13.out.size
  have hown5 := ownsRow_keep hown hk5 (fun gx hgx e => by have := (ownsRow_lt hown gx hgx).2; rcases e with e | e <;> omega)
  have hownF : ((w4.setCell ⟨w.heap.size, 0, none⟩ out).setCell ⟨w.heap.size + 1, 0, none⟩ (.bool true)).ownsRow w.heap.size 2 1 out (takenL l 0 bs).length (ints64 (takenL l 0 bs)) := by
    refine ⟨hown5.1, hown5.2.imp (fun h => h) ?_⟩
    rintro ⟨gx, c1, cur, e1, e2, e3⟩
    exact ⟨gx, c1, cur, e1, by omega, e3⟩
  have HF := Lib.hid (And.intro hownF hkE)
  have hc8 : ((w4.setCell ⟨w.heap.size, 0, none⟩ out).setCell ⟨w.heap.size + 1, 0, none⟩ (.bool true)).cell? ⟨w.heap.size, 0, none⟩ = some out := by rw [blk_cell (blk_far (blk_set h6 0 out) (p := ⟨w.heap.size + 1, 0, none⟩) (by show w.heap.size + 1 ≠ w.heap.size; omega) _)]; rfl
  have hc9 : ((w4.setCell ⟨w.heap.size, 0, none⟩ out).setCell ⟨w.heap.size + 1, 0, none⟩ (.bool true)).cell? ⟨w.heap.size + 1, 0, none⟩ = some (.bool true) := by rw [blk_cell (blk_set (blk_far h7 (p := ⟨w.heap.size, 0, none⟩) (by show w.heap.size ≠ w.heap.size + 1; omega) _) 0 _)]; rfl
  clear hown hk4 hk13 hr6 hr7 h6 h7 hown5 hk5 hkE hownF
  subst hout
  go_wp2_with fail
  refine leaves_cons (f := 72) (args := #[.pointer (some ⟨w.heap.size, 0, none⟩), .pointer (some ⟨w.heap.size + 1, 0, none⟩)]) (by simp) (by simp [go_sem]) ?_
  refine (catch64 ⟨w.heap.size, 0, none⟩ ⟨w.heap.size + 1, 0, none⟩ _).mono ?_
  rintro e u' w'' ⟨rfl, rfl, rfl⟩
  exact ⟨.tuple #[.slice oa on oc, .bool true], by simp [results, Tryz.results29, go_sem, hc8, hc9], _, rfl, HF.out.1, HF.out.2⟩
end Go.Proofs.YtdamippibpbjhaaGreatDoor

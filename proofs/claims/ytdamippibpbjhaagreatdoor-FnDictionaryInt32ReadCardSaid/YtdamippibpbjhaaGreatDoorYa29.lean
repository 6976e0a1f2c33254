import Derived.Test.YtdamippibpbjhaaGreatDoorYa28
import Derived.Test.YtdamippibpbjhaaGreatDoorYa27
import Derived.Test.YtdamippibpbjhaaGreatDoorYa16
/-! The least and the greatest of indexes. -/
namespace Go.Proofs.YtdamippibpbjhaaGreatDoor
open Go.RowKit

set_option maxRecDepth 100000 in
set_option maxHeartbeats 2000000 in
theorem minMax_any (ob oo n c : Nat) (f : Nat → Nat) (w : World) (hn : 0 < n) (hn9 : n ≤ 1000000) (hf : ∀ j, j < n → w.cell? ⟨ob, oo + j, none⟩ = some (.int .i32 (f j))) (hb : ∀ j, j < n → f j < 16777216) :
    Calls Tryz.prog 263 #[.slice (some ⟨ob, oo, none⟩) n c] w fun e w' => (∃ mn mx : Nat, e = .returned (.tuple #[.int .i32 mn, .int .i32 mx]) ∧ (∀ j, j < n → mn ≤ f j) ∧ (∃ j, j < n ∧ mx = f j) ∧ ∀ j, j < n → f j ≤ mx) ∧ w' = w := by
  have HF := Lib.hid (And.intro hf hb)
  clear hf hb
  have H : Hid (Calls Tryz.prog 264 #[.slice (some ⟨ob, oo, none⟩) n c] w fun e w' => (∃ mn mx : Nat, e = .returned (.tuple #[.int .i32 mn, .int .i32 mx]) ∧ (∀ j, j < n → mn ≤ f j) ∧ (∃ j, j < n ∧ mx = f j) ∧ ∀ j, j < n → f j ≤ mx) ∧ w' = w) := by
    show Calls _ _ _ _ _
    go_enter Tryz.func264, Tryz.ntmps264
    go_wp2_with fail
    go_loopw [2, 3, 5, 8] (fun a b _ i wr => wr = w ∧ ((i = .int .i64 0 ∧ a = .int .i32 2147483647 ∧ b = .int .i32 (-2147483648)) ∨ ∃ k mn mx : Nat, 0 < k ∧ k ≤ n ∧ i = .int .i64 k ∧ a = .int .i32 mn ∧ b = .int .i32 mx ∧ mx < 16777216 ∧ mn < 16777216 ∧ (∀ j, j < k → mn ≤ f j) ∧ (∃ j, j < k ∧ mx = f j) ∧ ∀ j, j < k → f j ≤ mx)) (fun _ _ _ i _ => n - (intOf i).toNat)
    case atStart => exact ⟨rfl, .inl ⟨rfl, rfl, rfl⟩⟩
    case round =>
      obtain ⟨rfl, hrel⟩ := hrel
      rcases hrel with ⟨rfl, rfl, rfl⟩ | ⟨k, mn, mx, hk0, hkn, rfl, rfl, rfl, hx9, hm9, hmn, hmx, hle⟩
      · have hc := HF.out.1 0 hn
        rw [Nat.add_zero] at hc
        have hb0 := HF.out.2 0 hn
        generalize hx : f 0 = x at *
        have HX := Lib.hid hx
        have hni : 0 < n := hn
        have hx1 : (x : Int) < 2147483647 := by omega
        have hx2 : (-2147483648 : Int) < (x : Int) := by omega
        clear hx
        go_wp2_with fail
        go_roundw
        case rel =>
          have h0 : ∀ j, j < 1 → f j = x := fun j hj => by rw [show j = 0 by omega]; exact HX.out
          refine ⟨trivial, Or.inr ⟨1, x, x, Nat.one_pos, hn, ?_, rfl, rfl, hb0, hb0, fun j hj => Nat.le_of_eq (h0 j hj).symm, ⟨0, Nat.one_pos, HX.out.symm⟩, fun j hj => Nat.le_of_eq (h0 j hj)⟩⟩
          go_num
        case measure => simp [intOf]; omega
      · by_cases h : k < n
        · have hc := HF.out.1 k h
          have hbk := HF.out.2 k h
          have HM := Lib.hid (And.intro hmn (And.intro hmx hle))
          generalize hx : f k = x at *
          have HX := Lib.hid hx
          clear hx hmn hmx hle
          have fin : ∀ mn' mx' : Nat, mn' ≤ mn → mn' ≤ x → mx ≤ mx' → x ≤ mx' → (mx' = mx ∨ mx' = x) → (∀ j, j < k + 1 → mn' ≤ f j) ∧ (∃ j, j < k + 1 ∧ mx' = f j) ∧ ∀ j, j < k + 1 → f j ≤ mx' := fun mn' mx' a1 a2 a3 a4 a5 => by
            obtain ⟨h1, ⟨j0, h2, h3⟩, h4⟩ := HM.out
            refine ⟨fun j hj => ?_, ?_, fun j hj => ?_⟩
            · by_cases e : j = k
              · rw [e, HX.out]; exact a2
              · exact Nat.le_trans a1 (h1 j (by omega))
            · rcases a5 with e | e
              · exact ⟨j0, by omega, by rw [e]; exact h3⟩
              · exact ⟨k, by omega, by rw [e]; exact HX.out.symm⟩
            · by_cases e : j = k
              · rw [e, HX.out]; exact a4
              · exact Nat.le_trans (h4 j (by omega)) a3
          have FIN := Lib.hid fin
          clear fin
          by_cases h1 : x < mn
          · by_cases h2 : mx < x
            · go_wp2_with fail
              go_roundw
              case rel => exact ⟨trivial, .inr ⟨k + 1, x, x, by omega, h, by go_num, rfl, rfl, hbk, hbk, FIN.out x x (by omega) (by omega) (by omega) (by omega) (.inr rfl)⟩⟩
              case measure => simp [intOf]; omega
            · go_wp2_with fail
              go_roundw
              case rel => exact ⟨trivial, .inr ⟨k + 1, x, mx, by omega, h, by go_num, rfl, rfl, hx9, hbk, FIN.out x mx (by omega) (by omega) (by omega) (by omega) (.inl rfl)⟩⟩
              case measure => simp [intOf]; omega
          · by_cases h2 : mx < x
            · go_wp2_with fail
              go_roundw
              case rel => exact ⟨trivial, .inr ⟨k + 1, mn, x, by omega, h, by go_num, rfl, rfl, hbk, hm9, FIN.out mn x (by omega) (by omega) (by omega) (by omega) (.inr rfl)⟩⟩
              case measure => simp [intOf]; omega
            · go_wp2_with fail
              go_roundw
              case rel => exact ⟨trivial, .inr ⟨k + 1, mn, mx, by omega, h, by go_num, rfl, rfl, hx9, hm9, FIN.out mn mx (by omega) (by omega) (by omega) (by omega) (.inl rfl)⟩⟩
              case measure => simp [intOf]; omega
        · obtain rfl : k = n := by omega
          go_wp2_with fail
          go_ret2
          exact ⟨⟨mn, mx, rfl, hmn, hmx, hle⟩, rfl⟩
  clear HF
  go_enter Tryz.func263, Tryz.ntmps263
  go_wp2_with fail
  refine H.out.mono ?_
  rintro e w1 ⟨⟨mn, mx, rfl, h⟩, hw⟩
  have hw' := hw.symm
  clear hw
  subst hw'
  have HH := Lib.hid h
  clear h
  go_wp2_with fail
  go_ret2
  exact ⟨⟨mn, mx, rfl, HH.out⟩, rfl⟩
end Go.Proofs.YtdamippibpbjhaaGreatDoor

/-! Texts written plainly, read. -/
namespace Go.Proofs.YtdamippibpbjhaaGreatDoor
open Go.RowKit

/-- Texts lie one behind the other, each behind its length: text j at place q j. -/
structure TLay (D : List Int) (N : Nat) where
  q : Nat → Nat
  len : Nat → Nat
  q0 : q 0 = 0
  qs : ∀ j, q (j + 1) = q j + 4 + len j
  qN : q N = D.length
  short : ∀ j, j < N → len j ≤ 200
  le : ∀ j, j < N → D.getD (q j) 0 + D.getD (q j + 1) 0 * 256 + D.getD (q j + 2) 0 * 65536 + D.getD (q j + 3) 0 * 16777216 = (len j : Int)
theorem TLay.mono {D : List Int} {N : Nat} (Y : TLay D N) : ∀ d j, Y.q j + 4 * d ≤ Y.q (j + d)
  | 0, j => by simp
  | d + 1, j => by
    have := Y.mono d j
    have h := Y.qs (j + d)
    rw [show j + (d + 1) = j + d + 1 by omega, h]
    omega
theorem TLay.room {D : List Int} {N : Nat} (Y : TLay D N) (j : Nat) (hj : j < N) : Y.q j + 4 + Y.len j ≤ D.length := by
  have h := Y.mono (N - (j + 1)) (j + 1)
  rw [show j + 1 + (N - (j + 1)) = N by omega, Y.qN, Y.qs j] at h
  omega
/-- Text j, as the program has it. -/
def TLay.val {D : List Int} {N : Nat} (Y : TLay D N) (g o j : Nat) : Value := if Y.len j = 0 then .slice (some ⟨g, o + Y.q j, none⟩) 0 0 else .slice (some ⟨g, o + Y.q j + 4, none⟩) (Y.len j) (Y.len j)
/-- The plain decoder: k texts are read. -/
def TSt {D : List Int} {N : Nat} (Y : TLay D N) (g o pd : Nat) (w : World) (k : Nat) : Prop :=
  ∃ a c, w.heap[pd]? = some (.cells #[.int .i64 (N - k : Nat), .slice a (D.length - Y.q k) c, .int .i64 0] 89 (0, 0)) ∧ (k < N → a = some ⟨g, o + Y.q k, none⟩ ∧ D.length - Y.q k ≤ c) ∧ Row w .u8 g o D

set_option maxRecDepth 100000 in
set_option maxHeartbeats 4000000 in
theorem texts_any {D : List Int} {N : Nat} (Y : TLay D N) (g o pd k m ob : Nat) (cs : Array Value) (t : TypeId) (w : World) (hB : Bytes D) (hN : N ≤ 1000) (h : TSt Y g o pd w k) (hkm : k + m ≤ N) (hob : w.heap[ob]? = some (.cells cs t (0, 0))) (hsz : cs.size = m) (n1 : ob ≠ pd) (n2 : ob ≠ g) (n3 : pd ≠ g) :
    Calls Tryz.prog 294 #[.pointer (some ⟨pd, 0, none⟩), .slice (some ⟨ob, 0, none⟩) m m] w fun e w' =>
      e = .returned (.tuple #[.int .i64 m, .nilIface]) ∧ Keep (fun b => b = pd ∨ b = ob) w w' ∧ TSt Y g o pd w' (k + m) ∧ ∃ cs', w'.heap[ob]? = some (.cells cs' t (0, 0)) ∧ cs'.size = m ∧ ∀ j, j < m → cs'[j]? = some (Y.val g o (k + j)) := by
  obtain ⟨a, c, hpd, hac, hrow⟩ := h
  have hc0 := blk_cell hpd
  have HM := Lib.hid (show ∀ w, Calls Tryz.prog 109 #[.int .i64 m, .int .i64 (N - k : Nat)] w fun e w' => e = .returned (.int .i64 (min m (N - k) : Nat)) ∧ w' = w from fun w => min_any m (N - k) w)
  rw [show min m (N - k) = m by omega] at HM
  go_enter Tryz.func294, Tryz.ntmps294
  go_wp2_with fail
  refine (HM.out w).mono ?_
  rintro e w1 ⟨rfl, hw⟩
  have hw' := hw.symm
  clear hw
  subst hw'
  go_wp2_with fail
  go_loopw [7, 8] (fun i _ wr => ∃ z : Nat, z ≤ m ∧ i = .int .i64 z ∧ Keep (fun b => b = pd ∨ b = ob) w wr ∧ (∃ a c, wr.heap[pd]? = some (.cells #[.int .i64 (N - k : Nat), .slice a (D.length - Y.q (k + z)) c, .int .i64 0] 89 (0, 0)) ∧ (k + z < N → a = some ⟨g, o + Y.q (k + z), none⟩ ∧ D.length - Y.q (k + z) ≤ c)) ∧ ∃ cs', wr.heap[ob]? = some (.cells cs' t (0, 0)) ∧ cs'.size = m ∧ ∀ j, j < z → cs'[j]? = some (Y.val g o (k + j))) (fun i _ _ => m - (intOf i).toNat)
  case atStart => exact ⟨0, Nat.zero_le _, rfl, Keep.refl _ _, ⟨a, c, hpd, hac⟩, cs, hob, hsz, fun j hj => absurd hj (by omega)⟩
  case round =>
    obtain ⟨z, hz, rfl, hkz, ⟨a1, c1, hpd1, hac1⟩, cs1, hob1, hsz1, hin1⟩ := hrel
    clear hc0 hpd hac hob hsz
    have hc := blk_cell hpd1
    have hf := blk_frozen hpd1
    by_cases hzm : z < m
    · obtain ⟨rfl, hc1⟩ := hac1 (by omega)
      have hroom := Y.room (k + z) (by omega)
      have hshort := Y.short (k + z) (by omega)
      have hle := Y.le (k + z) (by omega)
      have hqs := Y.qs (k + z)
      obtain ⟨q, hq⟩ : ∃ q, q = Y.q (k + z) := ⟨_, rfl⟩
      obtain ⟨ln, hln⟩ : ∃ ln, ln = Y.len (k + z) := ⟨_, rfl⟩
      rw [← hq, ← hln] at hroom hle hqs
      rw [← hln] at hshort
      rw [← hq] at hc hpd1 hc1
      have hrow1 := hrow.keep hkz (fun h => h.elim (fun h => n3 h.symm) (fun h => n2 h.symm))
      obtain ⟨rm, hrm⟩ : ∃ rm, rm = D.length - q := ⟨_, rfl⟩
      rw [← hrm] at hc hpd1 hc1
      have hrm4 : 4 + ln ≤ rm := by omega
      have hx := fun i (hi : i < 4) => hrow1 (q + i) (by omega)
      have HU := Lib.hid (fun m => leU32_any g (o + q) 4 c1 _ _ _ _ (wr.drewN m) (by omega) (hB q) (hB (q + 1)) (hB (q + 2)) (hB (q + 3)) (by have := hx 0 (by omega); rwa [← Nat.add_assoc, Nat.add_zero] at this) (by have := hx 1 (by omega); rwa [← Nat.add_assoc] at this) (by have := hx 2 (by omega); rwa [← Nat.add_assoc] at this) (by have := hx 3 (by omega); rwa [← Nat.add_assoc] at this))
      rw [hle] at HU
      have HQ := Lib.hid (And.intro hq (And.intro hln (And.intro hrm hqs)))
      clear hx hle hq hln hqs hrm
      go_wp2_with fail
      refine wp_region_mid 7 (by kernel_rfl) (by kernel_rfl) rfl ?_
      simp only [List.take_succ_cons, List.take_zero, List.drop_succ_cons, List.drop_zero]
      repeat (go_big_quiet_step (fail))
      refine wpQuiet_nil ?_
      rintro _ ⟨nq, rfl⟩
      go_wp2_with fail
      refine (HU.out nq).mono ?_
      rintro e w2 ⟨rfl, hk2⟩
      go_wp2_with fail
      repeat (go_big_quiet_step (fail))
      refine wpQuiet_nil ?_
      rintro _ ⟨nq2, rfl⟩
      have hk3 : Keep (fun _ => False) wr (w2.drewN nq2) := (((Keep.refl _ wr).drewN nq).trans hk2).drewN nq2
      have hpd3 := hk3.blk hpd1 (fun h => h)
      have hob3 := hk3.blk hob1 (fun h => h)
      clear hk2 HU hc hf hpd1 hob1 hrow1
      generalize w2.drewN nq2 = w3 at *
      have hc := blk_cell hpd3
      have hf := blk_frozen hpd3
      have hco : w3.cell? ⟨ob, z, none⟩ = some (cs1[z]'(by omega)) := by rw [blk_cell hob3]; simp
      have hfo := blk_frozen hob3
      have fin : ∀ (A : Option Addr) (v : Value), v = Y.val g o (k + z) → (c1 ≠ ln + 4 → A = some ⟨g, o + q + (ln + 4), none⟩) →
          Keep (fun b => b = pd ∨ b = ob) w ((w3.setCell ⟨ob, z, none⟩ v).setCell ⟨pd, 1, none⟩ (.slice A (rm - (ln + 4)) (c1 - (ln + 4)))) ∧
          (∃ a c, ((w3.setCell ⟨ob, z, none⟩ v).setCell ⟨pd, 1, none⟩ (.slice A (rm - (ln + 4)) (c1 - (ln + 4)))).heap[pd]? = some (.cells #[.int .i64 (N - k : Nat), .slice a (D.length - Y.q (k + (z + 1))) c, .int .i64 0] 89 (0, 0)) ∧ (k + (z + 1) < N → a = some ⟨g, o + Y.q (k + (z + 1)), none⟩ ∧ D.length - Y.q (k + (z + 1)) ≤ c)) ∧
          ∃ cs', ((w3.setCell ⟨ob, z, none⟩ v).setCell ⟨pd, 1, none⟩ (.slice A (rm - (ln + 4)) (c1 - (ln + 4)))).heap[ob]? = some (.cells cs' t (0, 0)) ∧ cs'.size = m ∧ ∀ j, j < z + 1 → cs'[j]? = some (Y.val g o (k + j)) := fun A v hv hA => by
        obtain ⟨e1, e2, e3, e4⟩ := HQ.out
        have hq' : Y.q (k + (z + 1)) = q + 4 + ln := e4
        refine ⟨((hkz.trans (hk3.mono (fun _ h => h.elim))).setCell (p := ⟨ob, z, none⟩) (.inl (.inr rfl)) _).setCell (p := ⟨pd, 1, none⟩) (.inl (.inl rfl)) _, ⟨A, c1 - (ln + 4), ?_, fun hlt => ?_⟩, _, blk_far (blk_set hob3 z v) (fun h => n1 h.symm) _, by simpa using hsz1, fun j hj => ?_⟩
        · rw [blk_set (blk_far hpd3 n1 v) 1 _, hq', show D.length - (q + 4 + ln) = rm - (ln + 4) by omega]
          rfl
        · have := Y.room (k + (z + 1)) hlt
          rw [hq'] at this ⊢
          exact ⟨by rw [hA (by omega)]; congr 2; omega, by omega⟩
        · by_cases e : j = z
          · subst e
            rw [Array.getElem?_setIfInBounds_self_of_lt (by omega), hv]
          · rw [Array.getElem?_setIfInBounds_ne (by omega)]
            exact hin1 j (by omega)
      have FIN := Lib.hid fin
      clear fin
      by_cases hl0 : ln = 0
      · have hval : Value.slice (some ⟨g, o + q, none⟩) 0 0 = Y.val g o (k + z) := by
          unfold TLay.val
          rw [if_pos (by rw [← HQ.out.2.1]; exact hl0), ← HQ.out.1]
        have HVL := Lib.hid hval
        subst hl0
        clear hval
        go_wp2_with fail
        go_roundw
        case rel => exact ⟨z + 1, hzm, by go_num, FIN.out _ _ HVL.out (fun h => by rw [if_neg (by simpa using h)])⟩
        case measure => simp [intOf]; omega
      · have hval : Value.slice (some ⟨g, o + q + 4, none⟩) ln ln = Y.val g o (k + z) := by
          unfold TLay.val
          rw [if_neg (by rw [← HQ.out.2.1]; exact hl0), ← HQ.out.1, ← HQ.out.2.1]
        have HVL := Lib.hid hval
        clear hval
        go_wp2_with fail
        go_roundw
        case rel => exact ⟨z + 1, hzm, by go_num, FIN.out _ _ HVL.out (fun h => by rw [if_neg h])⟩
        case measure => simp [intOf]; omega
    · obtain rfl : z = m := by omega
      have e1 : ((N - k : Nat) : Int) - (z : Int) = ((N - (k + z) : Nat) : Int) := by omega
      go_wp2_with fail
      go_ret2
      have hks : Keep (fun b => b = pd) wr (wr.setCell ⟨pd, 0, none⟩ (.int .i64 (N - (k + z) : Nat))) := (Keep.refl (fun b => b = pd) wr).setCell (p := ⟨pd, 0, none⟩) (.inl rfl) _
      have hps := blk_set hpd1 0 (.int .i64 (N - (k + z) : Nat))
      exact ⟨rfl, hkz.trans (hks.mono (fun _ h => .inl h)), ⟨a1, c1, by rw [hps]; rfl, hac1, (hrow.keep hkz (fun h => h.elim (fun h => n3 h.symm) (fun h => n2 h.symm))).keep hks (fun h => n3 h.symm)⟩, cs1, hks.blk hob1 n1, hsz1, hin1⟩
end Go.Proofs.YtdamippibpbjhaaGreatDoor

/-! A dictionary that is read as it is needed. -/
namespace Go.Proofs.YtdamippibpbjhaaGreatDoor
open Go.RowKit

theorem info106 : (Tryz.prog.info? 106).map (fun i => (i.zero, i.size, i.bytes)) = some (some (.slice none 0 0), 1, 24) := by kernel_rfl
@[go_sem] theorem nil_ahead_Decode81 (a : Addr) (w : World) : (nilAhead 502 81 (.pointer (some a)) "Decode").run Tryz.prog w = .ok (some false) w := by kernel_rfl
@[go_sem] theorem method_Decode81 (a : Addr) (w : World) : (method 502 81 (.pointer (some a)) "Decode").run Tryz.prog w = .ok (294, .pointer (some a)) w := by kernel_rfl
theorem make24 {t e : TypeId} {z : Value} {b : Nat} (ht : Tryz.prog.underlying t = some (.slice e)) (hinfo : (Tryz.prog.info? e).map (fun i => (i.zero, i.size, i.bytes)) = some (some z, 1, b)) (hz1 : z.cells = #[z]) (hb : b ≤ 24) (n : Nat) (hn : n ≤ 100000) (w : World) :
    (Instr.makeSlice t (.int .i64 n) (.int .i64 n)).run Tryz.prog w = .ok (.slice (some ⟨w.heap.size, 0, none⟩) n n) (w.alloc (.cells (madeCells #[z] n) e)) := by
  obtain ⟨i, hi, hzz⟩ := Option.map_eq_some_iff.1 hinfo
  simp only [Prod.mk.injEq] at hzz
  obtain ⟨hz, hs, hb'⟩ := hzz
  have h1 : (i.bytes : Int) * (n : Int) ≤ 281474976710656 := by
    have h2 : i.bytes * n ≤ 24 * 100000 := Nat.mul_le_mul (by omega) hn
    have h3 : ((i.bytes * n : Nat) : Int) ≤ ((24 * 100000 : Nat) : Int) := Int.ofNat_le.2 h2
    rw [Int.natCast_mul] at h3
    omega
  have h := run_make (P := Tryz.prog) w t e i z ht hi hz .i64 .i64 n n (by omega) (by omega) h1 (by omega)
  simpa [hs, hz1] using h

theorem addr_add0 (b j : Nat) : (⟨b, 0, none⟩ : Addr).add j = ⟨b, j, none⟩ := by
  unfold Addr.add
  split
  · subst_vars; rfl
  · simp
/-- A decoder of values, one behind the other: in state k so many are read. F: the blocks that it leans on. -/
structure VDec (VD : World → Nat → Prop) (pd N : Nat) (vals : Nat → Value) (F : Nat → Prop) : Prop where
  one : ∀ j, (vals j).oneCell' = true
  keep : ∀ (S : Nat → Prop) (w w' : World) (k : Nat), VD w k → Keep S w w' → (∀ b, F b → ¬ S b) → VD w' k
  pF : F pd
  lt : ∀ (w : World) (k b : Nat), VD w k → F b → b < w.heap.size
  dec : ∀ (w : World) (k m ob : Nat) (cs : Array Value) (t : TypeId), VD w k → k + m ≤ N → w.heap[ob]? = some (.cells cs t (0, 0)) → cs.size = m → ¬ F ob →
    Calls Tryz.prog 294 #[.pointer (some ⟨pd, 0, none⟩), .slice (some ⟨ob, 0, none⟩) m m] w fun e w' =>
      e = .returned (.tuple #[.int .i64 m, .nilIface]) ∧ Keep (fun b => b = pd ∨ b = ob) w w' ∧ VD w' (k + m) ∧ ∃ cs', w'.heap[ob]? = some (.cells cs' t (0, 0)) ∧ cs'.size = m ∧ ∀ j, j < m → cs'[j]? = some (vals (k + j))
/-- The converter: k entries of the dictionary are there. -/
structure CSt (VD : World → Nat → Prop) (vals : Nat → Value) (pd N dcb base : Nat) (w : World) (k : Nat) (dv : Value) : Prop where
  cells : w.heap[dcb]? = some (.cells #[.iface 81 (.pointer (some ⟨pd, 0, none⟩)), .int .i64 N, dv, .slice none 0 0] 175 (0, 0))
  own : w.ownsRow base 106 1 dv k ((List.range k).map vals)
  vd : VD w k
  kN : k ≤ N
theorem own_slice {w : World} {base n : Nat} {e : TypeId} {v : Value} {xs : List Value} (h : w.ownsRow base e 1 v n xs) : ∃ A c, v = .slice A n c := by
  rcases h.2 with ⟨rfl, h0⟩ | ⟨g, cap, cur, rfl, _⟩
  · exact ⟨none, 0, by rw [h0]⟩
  · exact ⟨_, _, rfl⟩
/-- What may have become of the dictionary's block. -/
def Grew (w : World) (dv dv' : Value) : Prop := dv'.ownBlock = dv.ownBlock ∨ ∃ b, dv'.ownBlock = some b ∧ w.heap.size ≤ b

set_option maxRecDepth 100000 in
set_option maxHeartbeats 4000000 in
theorem ensure_any {VD : World → Nat → Prop} {vals : Nat → Value} {pd N : Nat} {F : Nat → Prop} (V : VDec VD pd N vals F) (dcb base k idx : Nat) (dv : Value) (w : World) (hN : N ≤ 1000) (h : CSt VD vals pd N dcb base w k dv) (hidx : idx < N) (hF : ¬ F dcb) (hFd : ∀ b, dv.ownBlock = some b → ¬ F b) (hdd : dv.ownBlock ≠ some dcb) (hbase : base ≤ w.heap.size) :
    Calls Tryz.prog 262 #[.pointer (some ⟨dcb, 0, none⟩), .int .i32 idx] w fun e w' =>
      e = .returned .nilIface ∧ Keep (fun b => b = dcb ∨ b = pd ∨ dv.ownBlock = some b) w w' ∧ ∃ dv' k', idx < k' ∧ CSt VD vals pd N dcb base w' k' dv' ∧ Grew w dv dv' := by
  obtain ⟨A, c, rfl⟩ := own_slice h.own
  have hc := blk_cell h.cells
  have hlt : (idx : Int) < (N : Int) := by omega
  have hle : ¬ ((N : Int) ≤ (idx : Int)) := by omega
  have hi0 : ¬ ((idx : Int) < 0) := by omega
  go_enter Tryz.func262, Tryz.ntmps262
  by_cases hk : idx < k
  · have hk' : ¬ (k ≤ idx) := by omega
    have hk'' : ¬ ((k : Int) ≤ (idx : Int)) := by omega
    go_wp2_with fail
    go_ret
    exact ⟨rfl, Keep.refl _ _, _, k, hk, h, .inl rfl⟩
  · have hkN := h.kN
    obtain ⟨m, hm⟩ : ∃ m, m = idx + 1 - k := ⟨_, rfl⟩
    have hmi : (idx : Int) + 1 - (k : Int) = (m : Int) := by omega
    have hm1 : 1 ≤ m := by omega
    have hkm : k + m = idx + 1 := by omega
    have hk'' : (k : Int) ≤ (idx : Int) := by omega
    have hmk := make24 (t := 107) (e := 106) (by kernel_rfl) info106 rfl (by omega) m (by omega) w
    have hnew := blk_new w (.cells (madeCells #[.slice none 0 0] m) 106)
    have hkA : Keep (fun _ => False) w (w.alloc (.cells (madeCells #[.slice none 0 0] m) 106)) := (Keep.refl _ w).alloc _
    obtain ⟨nb, hnb⟩ : ∃ nb, nb = w.heap.size := ⟨_, rfl⟩
    have hFn : ¬ F nb := fun hf => by have := V.lt w k nb h.vd hf; omega
    have hndcb : dcb < nb := by rw [hnb]; exact blk_lt h.cells
    have hown := ownsRow_keep h.own hkA (fun _ _ h => h)
    have hvd := V.keep _ _ _ _ h.vd hkA (fun _ _ h => h)
    have hcA := hkA.blk h.cells (fun h => h)
    have hgl : ∀ g, (Value.slice A k c).ownBlock = some g → g < nb := fun g hg => by rw [hnb]; exact (ownsRow_lt h.own g hg).1
    rw [← hnb] at hmk hnew
    have HNB := Lib.hid hnb
    have HH := Lib.hid h
    clear h hnb hm
    generalize w.alloc (.cells (madeCells #[.slice none 0 0] m) 106) = w1 at *
    have HDC := Lib.hid (V.dec w1 k m nb _ 106 hvd (by omega) hnew (size_madeCells _ _) hFn)
    have hcc := blk_cell hcA
    go_wp2_with fail
    refine HDC.out.mono ?_
    rintro e w2 ⟨rfl, hk2, hvd2, cs2, hcs2, hsz2, hin2⟩
    have hc2 := hk2.blk hcA (fun h => h.elim (fun h => hF (h ▸ V.pF)) (fun h => by omega))
    have hown2 := ownsRow_keep hown hk2 (fun g hg h => h.elim (fun h => hFd g hg (h ▸ V.pF)) (fun h => by have := hgl g hg; omega))
    clear hc hcc HDC hcA hown hvd hnew
    have hcc := blk_cell hc2
    have hff := blk_frozen hc2
    obtain ⟨i106, hi106, hi106z⟩ := Option.map_eq_some_iff.1 info106
    simp only [Prod.mk.injEq] at hi106z
    obtain ⟨hz1, hz2, hz3⟩ := hi106z
    obtain ⟨news, hnews⟩ : ∃ news, news = (List.range m).map fun j => vals (k + j) := ⟨_, rfl⟩
    have hnl : news.length = m * 1 := by rw [hnews]; simp
    have hsrc : ∀ nq j u, news[j]? = some u → (w2.drewN nq).cell? ((⟨nb, 0, none⟩ : Addr).add j) = some u := fun nq j u hj => by
      rw [addr_add0]
      show w2.cell? _ = _
      rw [blk_cell hcs2]
      have hjm : j < m := by
        have := (List.getElem?_eq_some_iff.1 hj).1
        omega
      rw [hin2 j hjm]
      rw [hnews] at hj
      simpa [hjm] using hj
    have hone : ∀ u ∈ news, u.oneCell' = true := fun u hu => by
      rw [hnews, List.mem_map] at hu
      obtain ⟨j, _, rfl⟩ := hu
      exact V.one _
    have hxs : (List.range k).map vals ++ news = (List.range (idx + 1)).map vals := by
      rw [hnews, ← hkm, List.range_add, List.map_append, List.map_map]
      rfl
    have HNW := Lib.hid hnews
    have HXS := Lib.hid hxs
    clear hnews hxs hin2
    have hbq : ∀ nq, base ≤ (w2.drewN nq).heap.size := fun nq => by
      have h1 := hk2.size
      have h2 : nb < w2.heap.size := blk_lt hcs2
      have := HNB.out
      show base ≤ w2.heap.size
      omega
    go_wp2_with fail
    refine wp_region_takes (by kernel_rfl) ?_
    refine wpAny_pure 0 (v := .pointer (some ⟨dcb, 0, none⟩)) (by kernel_rfl) rfl rfl (fun _ _ _ h => h) (fun w' => by go_simp) ?_
    go_simp
    refine wpAny_lex (C := fun w' => ∃ m, w' = w2.drewN m) [1, 2, 3, 4, 5, 6, 7] 8 4 (by kernel_rfl) rfl ⟨1, rfl⟩ ?_
    simp only [List.filterMap_cons, List.filterMap_nil, List.getElem?_cons_succ, List.getElem?_cons_zero]
    change wpQuiet _ _ _ _ (List.cons _ (List.cons _ (List.cons _ (List.cons _ (List.cons _ (List.cons _ (List.cons _ List.nil))))))) _
    repeat (go_big_quiet_step (fail))
    refine wpQuiet_nil ?_
    rintro _ ⟨nq, rfl⟩
    refine wpAny_only 8 (by kernel_rfl) rfl ?_
    have hownq : (w2.drewN nq).ownsRow base 106 1 (.slice A k c) k ((List.range k).map vals) := hown2
    go_wp2_with (first | (at_builtin; refine wpList_append_own_at _ rfl _ _ _ rfl base 106 i106 (.slice none 0 0) 1 24 (by kernel_rfl) hi106 hz1 hz2 hz3 rfl (by omega) (.slice A k c) k ((List.range k).map vals) rfl hownq ⟨nb, 0, none⟩ m m news rfl hnl (hsrc nq) hone (by simp only [maxLen]; omega) (by omega) (hbq nq) ?_))
    intro v' w5 hown5 hgrow _ hat
    have hkq : Keep (fun b => b = pd ∨ b = nb) w1 (w2.drewN nq) := hk2.drewN nq
    have hgk := grown_keep hgrow
    have hvd5 : VD w5 (k + m) := V.keep _ _ _ _ (V.keep _ _ _ _ hvd2 ((Keep.refl (fun _ => False) w2).drewN nq) (fun _ _ h => h)) hgk (fun b hb h => hFd b h hb)
    have hc5 := hgk.blk (blk_drewN hc2 nq) (fun h => hdd h)
    rw [HXS.out] at hown5
    rw [hkm] at hvd5
    have hk5 : Keep (fun b => b = dcb ∨ b = pd ∨ (Value.slice A k c).ownBlock = some b) w w5 := by
      have h1 : Keep (fun b => b = dcb ∨ b = pd ∨ (Value.slice A k c).ownBlock = some b) w (w2.drewN nq) := (hkA.mono (fun _ h => h.elim)).step hkq (fun i h => h.elim (fun h => .inl (.inr (.inl h))) (fun h => .inr (by rw [h, HNB.out]; exact Nat.le_refl _)))
      exact h1.trans (hgk.mono (fun _ h => .inr (.inr h)))
    have hgr : Grew w (.slice A k c) v' := hat.imp id (fun h => ⟨_, h, by have h1 := hkA.size; have h2 := hk2.size; show w.heap.size ≤ w2.heap.size; omega⟩)
    have hv'd : v'.ownBlock ≠ some dcb := fun h => by
      rcases hat with e | e
      · rw [e] at h; exact hdd h
      · rw [e] at h
        have h3 : dcb < w2.heap.size := blk_lt hc2
        have h4 : w2.heap.size = dcb := Option.some.inj h
        omega
    obtain ⟨A', c', rfl⟩ := own_slice hown5
    clear hgrow hgk hat hownq hown2 hc2 hcc hff hvd2 hcs2 hk2 hkq hsrc hone
    have hcc := blk_cell hc5
    have hff := blk_frozen hc5
    go_wp2_with fail
    refine wpAny_only 9 (by kernel_rfl) rfl ?_
    go_wp2_with fail
    refine wpAny_only 10 (by kernel_rfl) rfl ?_
    go_wp2_with fail
    refine wpAny_only 11 (by kernel_rfl) rfl ?_
    go_wp2_with fail
    refine wpAny_stop (by kernel_rfl) ?_
    go_wp2_with fail
    go_ret
    have hks : Keep (fun b => b = dcb) w5 (w5.setCell ⟨dcb, 2, none⟩ (.slice A' (idx + 1) c')) := (Keep.refl (fun b => b = dcb) w5).setCell (p := ⟨dcb, 2, none⟩) (.inl rfl) _
    have hcs := blk_set hc5 2 (.slice A' (idx + 1) c')
    exact ⟨rfl, hk5.trans (hks.mono (fun _ h => .inl h)), _, idx + 1, Nat.lt_succ_self _, ⟨by rw [hcs]; rfl, ownsRow_keep hown5 hks (fun g hg h => hv'd (by rw [hg, h])), V.keep _ _ _ _ hvd5 hks (fun b hb h => hF (h ▸ hb)), by omega⟩, hgr⟩
end Go.Proofs.YtdamippibpbjhaaGreatDoor

/-! The converter: are indexes there; entries are copied out. -/
namespace Go.Proofs.YtdamippibpbjhaaGreatDoor
open Go.RowKit

structure COK (F : Nat → Prop) (dcb base : Nat) (w : World) (dv : Value) : Prop where
  f : ¬ F dcb
  fd : ∀ b, dv.ownBlock = some b → ¬ F b
  dd : dv.ownBlock ≠ some dcb
  base : base ≤ w.heap.size
  lt : dcb < w.heap.size
  Fl : ∀ b, F b → b < w.heap.size
theorem COK.next {F : Nat → Prop} {dcb base : Nat} {w w' : World} {dv dv' : Value} (h : COK F dcb base w dv) (hg : Grew w dv dv') (hs : w.heap.size ≤ w'.heap.size) : COK F dcb base w' dv' := by
  refine ⟨h.f, fun b hb hF => ?_, fun e => ?_, Nat.le_trans h.base hs, Nat.lt_of_lt_of_le h.lt hs, fun b hb => Nat.lt_of_lt_of_le (h.Fl b hb) hs⟩
  · rcases hg with e | ⟨b', e, hl⟩
    · exact h.fd b (by rw [← e]; exact hb) hF
    · rw [e] at hb
      cases hb
      have := h.Fl _ hF
      omega
  · rcases hg with e' | ⟨b', e', hl⟩
    · exact h.dd (by rw [← e']; exact e)
    · rw [e'] at e
      cases e
      have := h.lt
      omega
/-- What a call on the converter leaves: 'top' entries and more are there. -/
def CPost (VD : World → Nat → Prop) (vals : Nat → Value) (pd N dcb base : Nat) (w : World) (dv : Value) (ob : Option Nat) (P : Nat → Prop) (w' : World) : Prop :=
  Keep (fun b => b = dcb ∨ b = pd ∨ dv.ownBlock = some b ∨ ob = some b) w w' ∧ ∃ dv' k', P k' ∧ CSt VD vals pd N dcb base w' k' dv' ∧ Grew w dv dv'

set_option maxRecDepth 100000 in
set_option maxHeartbeats 4000000 in
theorem single_any {VD : World → Nat → Prop} {vals : Nat → Value} {pd N : Nat} {F : Nat → Prop} (V : VDec VD pd N vals F) (dcb base k idx : Nat) (dv : Value) (w : World) (hN : N ≤ 1000) (h : CSt VD vals pd N dcb base w k dv) (hidx : idx < N) (hO : COK F dcb base w dv) :
    Calls Tryz.prog 261 #[.pointer (some ⟨dcb, 0, none⟩), .int .i32 idx] w fun e w' => e = .returned (.bool true) ∧ CPost VD vals pd N dcb base w dv none (fun k' => idx < k') w' := by
  have HE := Lib.hid (ensure_any V dcb base k idx dv w hN h hidx hO.f hO.fd hO.dd hO.base)
  clear h hO
  go_enter Tryz.func261, Tryz.ntmps261
  go_wp2_with fail
  refine HE.out.mono ?_
  rintro e w1 ⟨rfl, hk, dv', k', hk', hC, hG⟩
  obtain ⟨A, c, rfl⟩ := own_slice hC.own
  have hcc := blk_cell hC.cells
  have h1 : (idx : Int) < (k' : Int) := by omega
  clear HE
  go_wp2_with fail
  go_ret
  exact ⟨rfl, hk.mono (fun _ h => h.imp id (fun h => h.imp id .inl)), _, k', hk', hC, hG⟩

set_option maxRecDepth 100000 in
set_option maxHeartbeats 4000000 in
theorem isValid_any {VD : World → Nat → Prop} {vals : Nat → Value} {pd N : Nat} {F : Nat → Prop} (V : VDec VD pd N vals F) (dcb base k : Nat) (dv : Value) (w : World) (hN : N ≤ 1000) (h : CSt VD vals pd N dcb base w k dv) (hO : COK F dcb base w dv)
    (ib io n c : Nat) (f : Nat → Nat) (hn : 0 < n) (hn9 : n ≤ 1024) (hf : ∀ j, j < n → w.cell? ⟨ib, io + j, none⟩ = some (.int .i32 (f j))) (hb : ∀ j, j < n → f j < N) :
    Calls Tryz.prog 260 #[.pointer (some ⟨dcb, 0, none⟩), .slice (some ⟨ib, io, none⟩) n c] w fun e w' => e = .returned (.bool true) ∧ CPost VD vals pd N dcb base w dv none (fun k' => ∀ j, j < n → f j < k') w' := by
  have HM := Lib.hid (minMax_any ib io n c f w hn (by omega) hf (fun j hj => by have := hb j hj; omega))
  have HB := Lib.hid hb
  have HC := Lib.hid (And.intro h hO)
  clear h hO hf hb
  go_enter Tryz.func260, Tryz.ntmps260
  go_wp2_with fail
  refine HM.out.mono ?_
  rintro e w1 ⟨⟨mn, mx, rfl, hmn, ⟨jx, hjx, hmx⟩, hle⟩, hw⟩
  have hw' := hw.symm
  clear hw
  subst hw'
  have hmxN : mx < N := by rw [hmx]; exact HB.out jx hjx
  have hmm : mn ≤ mx := by rw [hmx]; exact hmn jx hjx
  have HL := Lib.hid hle
  have HE := Lib.hid (ensure_any V dcb base k mx dv w hN HC.out.1 hmxN HC.out.2.f HC.out.2.fd HC.out.2.dd HC.out.2.base)
  clear hmx hmn hle HM
  go_wp2_with fail
  refine HE.out.mono ?_
  rintro e w2 ⟨rfl, hk, dv', k', hk', hC, hG⟩
  obtain ⟨A, c', rfl⟩ := own_slice hC.own
  have hcc := blk_cell hC.cells
  have h1 : (mx : Int) < (k' : Int) := by omega
  have h2 : (mn : Int) < (k' : Int) := by omega
  clear HE
  go_wp2_with fail
  go_ret
  exact ⟨rfl, hk.mono (fun _ h => h.imp id (fun h => h.imp id .inl)), _, k', fun j hj => Nat.lt_of_le_of_lt (HL.out j hj) hk', hC, hG⟩
end Go.Proofs.YtdamippibpbjhaaGreatDoor

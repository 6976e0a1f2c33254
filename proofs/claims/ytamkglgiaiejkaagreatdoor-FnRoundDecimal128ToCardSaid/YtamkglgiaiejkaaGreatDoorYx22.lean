import Derived.Test.YtamkglgiaiejkaaGreatDoorYx21
/-! Decimals of 128 bits: sign, negation. -/
namespace Go.Proofs.YtamkglgiaiejkaaGreatDoor
open Go.RowKit

set_option maxRecDepth 100000 in
set_option maxHeartbeats 4000000 in
theorem sign84 (lo : Nat) (hi : Int) (w : World) (h1 : -9223372036854775808 ≤ hi) (h2 : hi < 9223372036854775808) : Calls Tryz.prog 84 #[.agg #[.int .u64 lo, .int .i64 hi]] w fun e w' => e = .returned (.int .i64 (if hi < 0 then -1 else if lo = 0 ∧ hi = 0 then 0 else 1)) ∧ Keep (fun _ => False) w w' := by
  have o1 : bits .or .i64 1 (-1) = -1 := by kernel_rfl
  have o2 : bits .or .i64 1 0 = 1 := by kernel_rfl
  have hk : Keep (fun _ => False) w (w.alloc (.cells #[.int .u64 lo, .int .i64 hi] 42)) := (Keep.refl _ w).alloc _
  by_cases hn : hi < 0
  · rw [if_pos hn]
    have hz : (hi == 0) = false := beq_eq_false_iff_ne.2 (by omega)
    have hs : hi / 9223372036854775808 = -1 := by omega
    have hs' : hi / 2 ^ 63 = -1 := hs
    go_enter Tryz.func84, Tryz.ntmps84
    go_wp2_with fail
    go_ret
    exact ⟨rfl, hk⟩
  · rw [if_neg hn]
    by_cases h0 : lo = 0 ∧ hi = 0
    · rw [if_pos h0]
      obtain ⟨rfl, rfl⟩ := h0
      go_enter Tryz.func84, Tryz.ntmps84
      go_wp2_with fail
      go_ret
      exact ⟨rfl, hk⟩
    · rw [if_neg h0]
      have hs : hi / 9223372036854775808 = 0 := by omega
      have hs' : hi / 2 ^ 63 = 0 := hs
      by_cases hz : hi = 0
      · have hl : ((lo : Int) == 0) = false := beq_eq_false_iff_ne.2 (by omega)
        subst hz
        go_enter Tryz.func84, Tryz.ntmps84
        go_wp2_with fail
        go_ret
        exact ⟨rfl, hk⟩
      · have hz' : (hi == 0) = false := beq_eq_false_iff_ne.2 hz
        go_enter Tryz.func84, Tryz.ntmps84
        go_wp2_with fail
        go_ret
        exact ⟨rfl, hk⟩
set_option maxRecDepth 100000 in
set_option maxHeartbeats 4000000 in
theorem negate82 (lo nlo : Nat) (hi nh nhi : Int) (w : World) (hlo : lo < 18446744073709551616) (hnot : bits .xor .i64 (-1) hi = nh) (hnlo : nlo = (18446744073709551616 - lo) % 18446744073709551616) (hnhi : nhi = if lo = 0 then nh + 1 else nh) (hr : wrap64 (nh + 1) = nh + 1) : Calls Tryz.prog 82 #[.agg #[.int .u64 lo, .int .i64 hi]] w fun e w' => e = .returned (.agg #[.int .u64 nlo, .int .i64 nhi]) ∧ Keep (fun _ => False) w w' := by
  have s1 : IntKind.u64.signed = false := rfl
  have s2 : IntKind.i64.signed = true := rfl
  have f1 := not_word lo hlo
  obtain ⟨X, hX⟩ : ∃ z, z = 18446744073709551615 - lo := ⟨_, rfl⟩
  rw [← hX] at f1
  have f2 : IntKind.u64.wrap ((X : Int) + 1) = (nlo : Int) := by rw [IntKind.wrap_u64]; omega
  by_cases h0 : lo = 0
  · rw [if_pos h0] at hnhi
    have hz : ((nlo : Int) == 0) = true := by rw [beq_iff_eq]; omega
    clear hnlo hX h0
    subst hnhi
    go_enter Tryz.func82, Tryz.ntmps82
    go_wp2_with fail
    exact bodyPost_ret (v := .agg #[.int .u64 nlo, .int .i64 (nh + 1)]) (by simp [results, Tryz.results82, go_sem]) rfl ⟨rfl, ((Keep.refl _ w).alloc _).alloc _⟩
  · rw [if_neg h0] at hnhi
    have hz : ((nlo : Int) == 0) = false := beq_eq_false_iff_ne.2 (by omega)
    clear hnlo hX
    subst hnhi
    go_enter Tryz.func82, Tryz.ntmps82
    go_wp2_with fail
    exact bodyPost_ret (v := .agg #[.int .u64 nlo, .int .i64 nhi]) (by simp [results, Tryz.results82, go_sem]) rfl ⟨rfl, ((Keep.refl _ w).alloc _).alloc _⟩
end Go.Proofs.YtamkglgiaiejkaaGreatDoor

/-! Decimals of 128 bits by their numbers. -/
namespace Go.Proofs.YtamkglgiaiejkaaGreatDoor
open Go.RowKit

theorem not_i64 (h : Int) (h1 : -9223372036854775808 ≤ h) (h2 : h < 9223372036854775808) : bits .xor .i64 (-1) h = -1 - h := by
  show IntKind.i64.wrap ((BitVec.ofInt 64 (-1) ^^^ BitVec.ofInt 64 h).toNat : Int) = _
  have e : BitVec.ofInt 64 (-1) = BitVec.allOnes 64 := by decide
  rw [e, BitVec.allOnes_xor, BitVec.toNat_not, BitVec.toNat_ofInt, IntKind.wrap_i64]
  omega
/-- A number as a decimal of 128 bits. -/
def numV (x : Int) : Value := .agg #[.int .u64 ((x % 18446744073709551616).toNat : Nat), .int .i64 (x / 18446744073709551616)]
/-- The numbers that are spoken of. -/
def Small (x : Int) : Prop := -85070591730234615865843651857942052864 < x ∧ x < 85070591730234615865843651857942052864
theorem negNum82 (x : Int) (hx : Small x) (w : World) : Calls Tryz.prog 82 #[numV x] w fun e w' => e = .returned (numV (-x)) ∧ Keep (fun _ => False) w w' := by
  obtain ⟨h1, h2⟩ := hx
  have hn := not_i64 (x / 18446744073709551616) (by omega) (by omega)
  exact negate82 (x % 18446744073709551616).toNat ((-x) % 18446744073709551616).toNat (x / 18446744073709551616) (-1 - x / 18446744073709551616) ((-x) / 18446744073709551616) w (by omega) hn (by omega) (by split <;> omega) (by
    unfold wrap64
    omega)
theorem signNum84 (x : Int) (hx : Small x) (w : World) : Calls Tryz.prog 84 #[numV x] w fun e w' => ∃ s : Int, e = .returned (.int .i64 s) ∧ (s < 0 ↔ x < 0) ∧ (s = 0 ↔ x = 0) ∧ (0 < s ↔ 0 < x) ∧ Keep (fun _ => False) w w' := by
  obtain ⟨h1, h2⟩ := hx
  refine (sign84 (x % 18446744073709551616).toNat (x / 18446744073709551616) w (by omega) (by omega)).mono ?_
  rintro e w' ⟨rfl, hk⟩
  refine ⟨_, rfl, ?_, ?_, ?_, hk⟩ <;> (split <;> (try split)) <;> omega
/-- The number of words that a decimal above zero gives. -/
theorem bigNum101 (x : Int) (hx : Small x) (h0 : 0 ≤ x) (w : World) : Calls Tryz.prog 101 #[numV x] w fun e w' => ∃ p g : Nat, e = .returned (.pointer (some ⟨p, 0, none⟩)) ∧ w.heap.size ≤ p ∧ w.heap.size ≤ g ∧ w'.heap[p]? = some (.cells #[.bool false, .slice (some ⟨g, 0, none⟩) (wlen x.toNat) 2] 128 (0, 0)) ∧ BV w' g x.toNat ∧ Keep (fun _ => False) w w' := by
  obtain ⟨h1, h2⟩ := hx
  have h := toBig101 (x % 18446744073709551616).toNat (x / 18446744073709551616).toNat (by omega) (by omega) w
  rw [show (x % 18446744073709551616).toNat + 18446744073709551616 * (x / 18446744073709551616).toNat = x.toNat by omega, show (((x / 18446744073709551616).toNat : Nat) : Int) = x / 18446744073709551616 by omega] at h
  exact h
set_option maxRecDepth 100000 in
set_option maxHeartbeats 4000000 in
theorem bigInt85 (x : Int) (hx : Small x) (w : World) : Calls Tryz.prog 85 #[numV x] w fun e w' => ∃ p g : Nat, e = .returned (.pointer (some ⟨p, 0, none⟩)) ∧ w.heap.size ≤ p ∧ w.heap.size ≤ g ∧ w'.heap[p]? = some (.cells #[.bool (decide (x < 0)), .slice (some ⟨g, 0, none⟩) (wlen x.natAbs) 2] 128 (0, 0)) ∧ BV w' g x.natAbs ∧ Keep (fun _ => False) w w' := by
  obtain ⟨l, hl⟩ : ∃ z, z = (x % 18446744073709551616).toNat := ⟨_, rfl⟩
  obtain ⟨h, hh⟩ : ∃ z, z = x / 18446744073709551616 := ⟨_, rfl⟩
  have e1 : numV x = .agg #[.int .u64 l, .int .i64 h] := by rw [hl, hh]; rfl
  rw [e1]
  have hk0 : Keep (fun _ => False) w (w.alloc (.cells #[.int .u64 l, .int .i64 h] 42)) := (Keep.refl _ w).alloc _
  have hb0 := blk_new w (.cells #[.int .u64 l, .int .i64 h] 42)
  have HS := Lib.hid (fun w => e1 ▸ signNum84 x hx w)
  have hc0 := blk_cell hb0 0
  have hc1 := blk_cell hb0 1
  simp only [List.getElem?_toArray, List.getElem?_cons_zero, List.getElem?_cons_succ] at hc0 hc1
  by_cases hn : x < 0
  · have HNG := Lib.hid (fun w => e1 ▸ negNum82 x hx w)
    obtain ⟨l', hl'⟩ : ∃ z, z = ((-x) % 18446744073709551616).toNat := ⟨_, rfl⟩
    obtain ⟨h', hh'⟩ : ∃ z, z = (-x) / 18446744073709551616 := ⟨_, rfl⟩
    have e2 : numV (-x) = .agg #[.int .u64 l', .int .i64 h'] := by rw [hl', hh']; rfl
    have HB := Lib.hid (fun w => e2 ▸ bigNum101 (-x) ⟨by have := hx.2; omega, by have := hx.1; omega⟩ (by omega) w)
    rw [e2] at HNG
    rw [show (-x).toNat = x.natAbs by omega] at HB
    have hpos : 0 < wlen x.natAbs := by unfold wlen; rw [if_neg (by omega)]; split <;> decide
    have HX := Lib.hid hn
    rw [show decide (x < 0) = true by simpa using hn]
    generalize hka : wlen x.natAbs = k at *
    generalize hna : x.natAbs = n at *
    clear hl hh hl' hh' e1 e2 hka hna hn
    go_enter Tryz.func85, Tryz.ntmps85
    go_wp2_with fail
    refine (HS.out _).mono ?_
    rintro e w1 ⟨s, rfl, hs, _, _, hk1⟩
    have hs0 : s < 0 := hs.2 HX.out
    have hc0 := hk1.cell hc0 (fun h => h)
    have hc1 := hk1.cell hc1 (fun h => h)
    go_wp2_with fail
    refine (HNG.out _).mono ?_
    rintro e w2 ⟨rfl, hk2⟩
    go_wp2_with fail
    refine (HB.out _).mono ?_
    rintro e w3 ⟨p, g, rfl, hp, hg, hpb, hbv, hk3⟩
    have HNS := Lib.hid (neg102_self p false (some ⟨g, 0, none⟩) k 2 w3 hpb)
    have HV := Lib.hid hbv
    have hpg : g ≠ p := by
      obtain ⟨_, _, _, _, _, hbg⟩ := hbv
      exact blk_ne hbg hpb (by decide)
    have hsz := hk0.size
    have hsz1 := hk1.size
    have hsz2 := hk2.size
    clear hpb hbv
    go_wp2_with fail
    refine HNS.out.mono ?_
    rintro e w4 ⟨rfl, hp4, hk4⟩
    go_wp2_with fail
    go_ret
    refine ⟨p, g, rfl, by omega, by omega, ?_, ?_, (((hk0.trans hk1).trans hk2).trans hk3).step hk4 (fun i hi => .inr (by omega))⟩
    · simpa [hpos] using hp4
    · obtain ⟨lo, hi, a1, a2, a3, hbg⟩ := HV.out
      exact ⟨lo, hi, a1, a2, a3, hk4.blk hbg hpg⟩
  · have HB := Lib.hid (fun w => e1 ▸ bigNum101 x hx (by omega) w)
    rw [show x.toNat = x.natAbs by omega] at HB
    have HX := Lib.hid hn
    rw [show decide (x < 0) = false by simpa using hn]
    generalize wlen x.natAbs = k at *
    generalize x.natAbs = n at *
    clear hl hh e1 hn
    go_enter Tryz.func85, Tryz.ntmps85
    go_wp2_with fail
    refine (HS.out _).mono ?_
    rintro e w1 ⟨s, rfl, hs, _, _, hk1⟩
    have hs0 : ¬ s < 0 := fun h => by have := HX.out; have := hs.1 h; omega
    have hc0 := hk1.cell hc0 (fun h => h)
    have hc1 := hk1.cell hc1 (fun h => h)
    have hsz := hk0.size
    have hsz1 := hk1.size
    go_wp2_with fail
    refine (HB.out _).mono ?_
    rintro e w3 ⟨p, g, rfl, hp, hg, hpb, hbv, hk3⟩
    have HV := Lib.hid (And.intro hpb hbv)
    clear hpb hbv
    go_wp2_with fail
    go_ret
    exact ⟨p, g, rfl, by omega, by omega, HV.out.1, HV.out.2, (hk0.trans hk1).trans hk3⟩
end Go.Proofs.YtamkglgiaiejkaaGreatDoor

/-! Whole numbers of words: how many bits. -/
namespace Go.Proofs.YtamkglgiaiejkaaGreatDoor
open Go.RowKit

theorem or_word (a b : Nat) (ha : a < 18446744073709551616) (hb : b < 18446744073709551616) : bits .or .u64 (a : Int) (b : Int) = ((a ||| b : Nat) : Int) := by
  show IntKind.u64.wrap ((BitVec.ofInt 64 (a : Int) ||| BitVec.ofInt 64 (b : Int)).toNat : Int) = _
  rw [BitVec.toNat_or, BitVec.ofInt_natCast, BitVec.ofInt_natCast, BitVec.toNat_ofNat, BitVec.toNat_ofNat, Nat.mod_eq_of_lt (show a < 2 ^ 64 by omega), Nat.mod_eq_of_lt (show b < 2 ^ 64 by omega), IntKind.wrap_u64]
  have := Nat.or_lt_two_pow (x := a) (y := b) (n := 64) (by omega) (by omega)
  omega
theorem smear (m t d : Nat) (hm : m ≤ 64) (ht : t < 2 ^ m) : ∃ t' : Nat, bits .or .u64 (t : Int) ((t : Int) / (d : Int)) = (t' : Int) ∧ t' < 2 ^ m ∧ (0 < t → 0 < t') := by
  have h64 : (2 : Nat) ^ m ≤ 2 ^ 64 := Nat.pow_le_pow_right (by decide) hm
  have hd : t / d ≤ t := Nat.div_le_self t d
  refine ⟨t ||| (t / d), ?_, Nat.or_lt_two_pow ht (by omega), fun h => Nat.lt_of_lt_of_le h Nat.left_le_or⟩
  rw [← Int.natCast_ediv]
  exact or_word t (t / d) (by omega) (by omega)
set_option maxRecDepth 100000 in
set_option maxHeartbeats 4000000 in
theorem bitLen131 (v : Value) (n : Nat) (w : World) (hv : NV w v n) (hn : n < 170141183460469231731687303715884105728) : Calls Tryz.prog 131 #[v] w fun e w' => ∃ b : Int, e = .returned (.int .i64 b) ∧ b ≤ 127 ∧ (b = 0 ↔ n = 0) ∧ w' = w := by
  rcases hv.cases with ⟨rfl, A, c, rfl⟩ | ⟨h0, h9, g, c, rfl, hc, x0⟩ | ⟨h1, g, c, rfl, hc, x0, x1⟩
  · go_enter Tryz.func131, Tryz.ntmps131
    go_wp2_with fail
    go_ret
    exact ⟨0, rfl, by decide, by simp, rfl⟩
  · obtain ⟨t1, s1, b1, p1⟩ := smear 64 n 2 (by decide) (by omega)
    obtain ⟨t2, s2, b2, p2⟩ := smear 64 t1 4 (by decide) b1
    obtain ⟨t3, s3, b3, p3⟩ := smear 64 t2 16 (by decide) b2
    obtain ⟨t4, s4, b4, p4⟩ := smear 64 t3 256 (by decide) b3
    obtain ⟨t5, s5, b5, p5⟩ := smear 64 t4 65536 (by decide) b4
    obtain ⟨t6, s6, b6, p6⟩ := smear 64 t5 4294967296 (by decide) b5
    simp only [Int.cast_ofNat_Int] at s1 s2 s3 s4 s5 s6
    have hp : 0 < t6 := p6 (p5 (p4 (p3 (p2 (p1 h0)))))
    have HL := Lib.hid (len170 t6 b6 w)
    have hbl := bitLen64 b6
    have hb0 : 0 < Lib.bitLen t6 := by rw [Lib.bitLen_half t6 (by omega) (by omega)]; omega
    have s6 : bits .or .u64 (t5 : Int) ((t5 : Int) / 65536 / 65536) = (t6 : Int) := by rw [show (t5 : Int) / 65536 / 65536 = (t5 : Int) / 4294967296 by omega]; exact s6
    clear b1 b2 b3 b4 b5 b6 p1 p2 p3 p4 p5 p6
    go_enter Tryz.func131, Tryz.ntmps131
    go_wp2_with fail
    refine HL.out.mono ?_
    rintro e w1 ⟨rfl, rfl⟩
    go_wp2_with fail
    go_ret
    exact ⟨_, rfl, by omega, by omega, rfl⟩
  · obtain ⟨t0, ht0⟩ : ∃ z, z = n / 18446744073709551616 := ⟨_, rfl⟩
    rw [← ht0] at x1
    obtain ⟨t1, s1, b1, p1⟩ := smear 63 t0 2 (by decide) (by omega)
    obtain ⟨t2, s2, b2, p2⟩ := smear 63 t1 4 (by decide) b1
    obtain ⟨t3, s3, b3, p3⟩ := smear 63 t2 16 (by decide) b2
    obtain ⟨t4, s4, b4, p4⟩ := smear 63 t3 256 (by decide) b3
    obtain ⟨t5, s5, b5, p5⟩ := smear 63 t4 65536 (by decide) b4
    obtain ⟨t6, s6, b6, p6⟩ := smear 63 t5 4294967296 (by decide) b5
    simp only [Int.cast_ofNat_Int] at s1 s2 s3 s4 s5 s6
    have HL := Lib.hid (len170 t6 (by omega) w)
    have hbl : Lib.bitLen t6 ≤ 63 := Lib.bitLen_le t6 63 (by decide) b6
    have s6 : bits .or .u64 (t5 : Int) ((t5 : Int) / 65536 / 65536) = (t6 : Int) := by rw [show (t5 : Int) / 65536 / 65536 = (t5 : Int) / 4294967296 by omega]; exact s6
    have H1 := Lib.hid h1
    clear b1 b2 b3 b4 b5 b6 p1 p2 p3 p4 p5 p6 ht0 h1 hn hv x0
    go_enter Tryz.func131, Tryz.ntmps131
    go_wp2_with fail
    refine HL.out.mono ?_
    rintro e w1 ⟨rfl, rfl⟩
    go_wp2_with fail
    go_ret
    exact ⟨_, rfl, by omega, by have := H1.out; omega, rfl⟩
set_option maxRecDepth 100000 in
set_option maxHeartbeats 4000000 in
theorem bitLen104 (p : Nat) (neg : Bool) (n : Nat) (w : World) (h : IV w p neg n) (hn : n < 170141183460469231731687303715884105728) : Calls Tryz.prog 104 #[.pointer (some ⟨p, 0, none⟩)] w fun e w' => ∃ b : Int, e = .returned (.int .i64 b) ∧ b ≤ 127 ∧ (b = 0 ↔ n = 0) ∧ w' = w := by
  obtain ⟨v, hb, hv⟩ := h
  have hc1 := blk_cell hb 1
  have hf := blk_frozen hb
  simp only [List.getElem?_toArray, List.getElem?_cons_zero, List.getElem?_cons_succ] at hc1
  have HB := Lib.hid (bitLen131 v n w hv hn)
  obtain ⟨A, c, rfl, _⟩ := hv
  generalize wlen n = k at *
  go_enter Tryz.func104, Tryz.ntmps104
  go_wp2_with fail
  refine HB.out.mono ?_
  rintro e w1 ⟨b, rfl, h1, h2, rfl⟩
  go_wp2_with fail
  go_ret
  exact ⟨b, rfl, h1, h2, rfl⟩
end Go.Proofs.YtamkglgiaiejkaaGreatDoor

/-! Decimals of 128 bits: made of big integers. -/
namespace Go.Proofs.YtamkglgiaiejkaaGreatDoor
open Go.RowKit

set_option maxRecDepth 100000 in
set_option maxHeartbeats 4000000 in
theorem fromBig87 (p : Nat) (neg : Bool) (n : Nat) (x : Int) (w : World) (h : IV w p neg n) (hn : n < 85070591730234615865843651857942052864) (hx : x = if neg then -(n : Int) else n) : Calls Tryz.prog 87 #[.pointer (some ⟨p, 0, none⟩)] w fun e w' => e = .returned (numV x) ∧ Keep (fun _ => False) w w' := by
  have hk0 : Keep (fun _ => False) w (w.alloc (.cells #[.int .u64 0, .int .i64 0] 42)) := (Keep.refl _ w).alloc _
  have hb0 := blk_new w (.cells #[.int .u64 0, .int .i64 0] 42)
  have hI := h.keep hk0
  have hpw : p < w.heap.size := by
    obtain ⟨v, hb, _⟩ := h
    exact blk_lt hb
  have HB := Lib.hid (bitLen104 p neg n _ hI (by omega))
  obtain ⟨v, hpb', hv'⟩ := h
  have hpb := hk0.blk hpb' (fun h => h)
  have hv := hv'.keep hk0
  have HV := Lib.hid hv
  by_cases hz : n = 0
  · subst hz
    have hx0 : x = 0 := by rw [hx]; split <;> rfl
    have hr0 := blk_cell hb0 0
    have hr1 := blk_cell hb0 1
    simp only [List.getElem?_toArray, List.getElem?_cons_zero, List.getElem?_cons_succ] at hr0 hr1
    rw [hx0]
    clear hx hb0
    go_enter Tryz.func87, Tryz.ntmps87
    go_wp2_with fail
    refine HB.out.mono ?_
    rintro e w1 ⟨b, rfl, h1, h2, rfl⟩
    obtain rfl : b = 0 := by simpa using h2
    go_wp2_with fail
    exact bodyPost_ret (v := .agg #[.int .u64 (0 : Nat), .int .i64 0]) (by simp [results, Tryz.results87, go_sem]) rfl ⟨rfl, hk0⟩
  · have hr0 := blk_cell hb0 0
    have hr1 := blk_cell hb0 1
    have hrf := blk_frozen hb0
    simp only [List.getElem?_toArray, List.getElem?_cons_zero, List.getElem?_cons_succ] at hr0 hr1
    have hvs : ∃ A k c, v = .slice A k c := by
      obtain ⟨A, c, rfl, _⟩ := hv
      exact ⟨_, _, _, rfl⟩
    have HT := Lib.hid (fun w h => bits105 p neg v w h hvs)
    have HSG := Lib.hid (fun w h => sign106 p neg n w h)
    have HN82 := Lib.hid (fun w => negNum82 n ⟨by omega, by omega⟩ w)
    have hZ := Lib.hid hz
    have hpr : p ≠ w.heap.size := by omega
    generalize hw0 : w.alloc (.cells #[.int .u64 0, .int .i64 0] 42) = w0 at *
    have hnum : numV n = .agg #[.int .u64 ((n % 18446744073709551616 : Nat) : Int), .int .i64 ((n / 18446744073709551616 : Nat) : Int)] := by
      unfold numV
      congr 3
    rcases hv'.cases with ⟨e, _⟩ | ⟨h0, h9, g, c, rfl, hc, x0'⟩ | ⟨h1, g, c, rfl, hc, x0', x1'⟩
    · exact absurd e hz
    · have lg := World.block_lt_of_cell? w _ x0'
      have x0 := hk0.cell x0' (fun h => h)
      have hb1 := blk_set hb0 0 (.int .u64 (n : Nat))
      have hkA : Keep (fun b => b = w.heap.size) w0 (w0.setCell ⟨w.heap.size, 0, none⟩ (.int .u64 (n : Nat))) := (Keep.refl (fun b => b = w.heap.size) w0).setCell (p := ⟨w.heap.size, 0, none⟩) (.inl rfl) _
      have hk1 := hk0.setCell (p := ⟨w.heap.size, 0, none⟩) (.inr (Nat.le_refl _)) (.int .u64 (n : Nat))
      have hI1 : IV (w0.setCell ⟨w.heap.size, 0, none⟩ (.int .u64 (n : Nat))) p neg n := ⟨_, hkA.blk hpb hpr, hv.keepS hkA (by show ¬ g = w.heap.size; have : g < w.heap.size := lg; omega)⟩
      have hr0' := blk_cell hb1 0
      have hr1' := blk_cell hb1 1
      have hrf' := blk_frozen hb1
      simp at hr0' hr1'
      have HP := Lib.hid (And.intro hpb (And.intro hI1 hk1))
      have HB1 := Lib.hid hb1
      rw [show n % 18446744073709551616 = n by omega, show n / 18446744073709551616 = 0 by omega] at hnum
      rw [hnum, show ((0 : Nat) : Int) = 0 from rfl] at HN82
      obtain ⟨l', hl'⟩ : ∃ z, z = ((-(n : Int)) % 18446744073709551616).toNat := ⟨_, rfl⟩
      obtain ⟨h', hh'⟩ : ∃ z, z = (-(n : Int)) / 18446744073709551616 := ⟨_, rfl⟩
      have e2 : numV (-(n : Int)) = .agg #[.int .u64 l', .int .i64 h'] := by rw [hl', hh']; rfl
      rw [e2] at HN82
      have HE2 := Lib.hid e2
      clear hl' hh' e2
      have HNM := Lib.hid hnum
      clear hpb hI1 hk1 hb1 hb0 hkA hv hv' hpb' hnum h9
      go_enter Tryz.func87, Tryz.ntmps87
      go_wp2_with fail
      refine HB.out.mono ?_
      rintro e w1 ⟨b, rfl, h1, h2, rfl⟩
      have hb0 : (b == 0) = false := beq_eq_false_iff_ne.2 (fun h => hZ.out (h2.1 h))
      have hb9 : ¬ (127 < b) := by omega
      go_wp2_with fail
      refine (HT.out _ HP.out.1).mono ?_
      rintro e w2 ⟨rfl, rfl⟩
      go_wp2_with fail
      refine (HSG.out _ HP.out.2.1).mono ?_
      rintro e w3 ⟨s, rfl, hs, rfl⟩
      cases neg
      · have hs0 : ¬ s < 0 := fun h => by have := hs.1 h; simp at this
        have hxn : x = n := by rw [hx]; rfl
        go_wp2_with fail
        exact bodyPost_ret (v := .agg #[.int .u64 (n : Nat), .int .i64 0]) (by simp [results, Tryz.results87, go_sem, hr0', hr1']) rfl ⟨by rw [hxn, HNM.out]; rfl, HP.out.2.2⟩
      · have hs0 : s < 0 := hs.2 ⟨rfl, h0⟩
        have hxn : x = -(n : Int) := by rw [hx]; rfl
        go_wp2_with fail
        refine (HN82.out _).mono ?_
        rintro e w4 ⟨rfl, hk4⟩
        have hb4 := hk4.blk HB1.out (fun h => h)
        have hr0'' := hk4.cell hr0' (fun h => h)
        have hr1'' := hk4.cell hr1' (fun h => h)
        have hrf'' := blk_frozen hb4
        go_wp2_with fail
        exact bodyPost_ret (v := .agg #[.int .u64 l', .int .i64 h']) (by simp [results, Tryz.results87, go_sem, hr0'', hr1'']) rfl ⟨by rw [hxn, HE2.out], ((HP.out.2.2.trans hk4).setCell (.inr (Nat.le_refl _)) _).setCell (.inr (Nat.le_refl _)) _⟩
    · have lg := World.block_lt_of_cell? w _ x0'
      have x0 := hk0.cell x0' (fun h => h)
      have x1 := hk0.cell x1' (fun h => h)
      obtain ⟨lo, hlo⟩ : ∃ z, z = n % 18446744073709551616 := ⟨_, rfl⟩
      obtain ⟨hi, hhi⟩ : ∃ z, z = n / 18446744073709551616 := ⟨_, rfl⟩
      rw [← hlo] at x0
      rw [← hhi] at x1
      rw [← hlo, ← hhi] at hnum
      have hwi : IntKind.i64.wrap (hi : Int) = (hi : Int) := by rw [IntKind.wrap_i64]; omega
      have hgr : g ≠ w.heap.size := by have : g < w.heap.size := lg; omega
      have hb1 := blk_set (blk_set hb0 0 (.int .u64 (lo : Nat))) 1 (.int .i64 (hi : Nat))
      have hkA : Keep (fun b => b = w.heap.size) w0 ((w0.setCell ⟨w.heap.size, 0, none⟩ (.int .u64 (lo : Nat))).setCell ⟨w.heap.size, 1, none⟩ (.int .i64 (hi : Nat))) := ((Keep.refl (fun b => b = w.heap.size) w0).setCell (p := ⟨w.heap.size, 0, none⟩) (.inl rfl) _).setCell (p := ⟨w.heap.size, 1, none⟩) (.inl rfl) _
      have hk1 := (hk0.setCell (p := ⟨w.heap.size, 0, none⟩) (.inr (Nat.le_refl _)) (.int .u64 (lo : Nat))).setCell (p := ⟨w.heap.size, 1, none⟩) (.inr (Nat.le_refl _)) (.int .i64 (hi : Nat))
      have hI1 : IV ((w0.setCell ⟨w.heap.size, 0, none⟩ (.int .u64 (lo : Nat))).setCell ⟨w.heap.size, 1, none⟩ (.int .i64 (hi : Nat))) p neg n := ⟨_, hkA.blk hpb hpr, hv.keepS hkA hgr⟩
      have hr0' := blk_cell hb1 0
      have hr1' := blk_cell hb1 1
      have hrf' := blk_frozen hb1
      simp at hr0' hr1'
      have HP := Lib.hid (And.intro hpb (And.intro hI1 hk1))
      have HB1 := Lib.hid hb1
      rw [hnum] at HN82
      obtain ⟨l', hl'⟩ : ∃ z, z = ((-(n : Int)) % 18446744073709551616).toNat := ⟨_, rfl⟩
      obtain ⟨h', hh'⟩ : ∃ z, z = (-(n : Int)) / 18446744073709551616 := ⟨_, rfl⟩
      have e2 : numV (-(n : Int)) = .agg #[.int .u64 l', .int .i64 h'] := by rw [hl', hh']; rfl
      rw [e2] at HN82
      have HE2 := Lib.hid e2
      clear hl' hh' e2
      have HNM := Lib.hid hnum
      have h0 : 0 < n := by omega
      clear hpb hI1 hk1 hb1 hb0 hkA hv hv' hpb' hnum h1 hlo hhi x0' x1'
      go_enter Tryz.func87, Tryz.ntmps87
      go_wp2_with fail
      refine HB.out.mono ?_
      rintro e w1 ⟨b, rfl, h1, h2, rfl⟩
      have hb0 : (b == 0) = false := beq_eq_false_iff_ne.2 (fun h => hZ.out (h2.1 h))
      have hb9 : ¬ (127 < b) := by omega
      go_wp2_with fail
      refine (HT.out _ HP.out.1).mono ?_
      rintro e w2 ⟨rfl, rfl⟩
      go_wp2_with fail
      refine (HSG.out _ HP.out.2.1).mono ?_
      rintro e w3 ⟨s, rfl, hs, rfl⟩
      cases neg
      · have hs0 : ¬ s < 0 := fun h => by have := hs.1 h; simp at this
        have hxn : x = n := by rw [hx]; rfl
        go_wp2_with fail
        exact bodyPost_ret (v := .agg #[.int .u64 (lo : Nat), .int .i64 (hi : Nat)]) (by simp [results, Tryz.results87, go_sem, hr0', hr1']) rfl ⟨by rw [hxn, HNM.out], HP.out.2.2⟩
      · have hs0 : s < 0 := hs.2 ⟨rfl, h0⟩
        have hxn : x = -(n : Int) := by rw [hx]; rfl
        go_wp2_with fail
        refine (HN82.out _).mono ?_
        rintro e w4 ⟨rfl, hk4⟩
        have hb4 := hk4.blk HB1.out (fun h => h)
        have hr0'' := hk4.cell hr0' (fun h => h)
        have hr1'' := hk4.cell hr1' (fun h => h)
        have hrf'' := blk_frozen hb4
        go_wp2_with fail
        exact bodyPost_ret (v := .agg #[.int .u64 l', .int .i64 h']) (by simp [results, Tryz.results87, go_sem, hr0'', hr1'']) rfl ⟨by rw [hxn, HE2.out], ((HP.out.2.2.trans hk4).setCell (.inr (Nat.le_refl _)) _).setCell (.inr (Nat.le_refl _)) _⟩
end Go.Proofs.YtamkglgiaiejkaaGreatDoor

/-! Decimals of 128 bits: sums. -/
namespace Go.Proofs.YtamkglgiaiejkaaGreatDoor
open Go.RowKit

set_option maxRecDepth 100000 in
set_option maxHeartbeats 4000000 in
theorem addNum73 (x y : Int) (hx : Small x) (hy : Small y) (w : World) : Calls Tryz.prog 73 #[numV x, numV y] w fun e w' => e = .returned (numV (x + y)) ∧ Keep (fun _ => False) w w' := by
  obtain ⟨x1, x2⟩ := hx
  obtain ⟨y1, y2⟩ := hy
  obtain ⟨lx, hlx⟩ : ∃ z, z = (x % 18446744073709551616).toNat := ⟨_, rfl⟩
  obtain ⟨hx, hhx⟩ : ∃ z, z = x / 18446744073709551616 := ⟨_, rfl⟩
  obtain ⟨ly, hly⟩ : ∃ z, z = (y % 18446744073709551616).toNat := ⟨_, rfl⟩
  obtain ⟨hy, hhy⟩ : ∃ z, z = y / 18446744073709551616 := ⟨_, rfl⟩
  have e1 : numV x = .agg #[.int .u64 lx, .int .i64 hx] := by rw [hlx, hhx]; rfl
  have e2 : numV y = .agg #[.int .u64 ly, .int .i64 hy] := by rw [hly, hhy]; rfl
  obtain ⟨lz, hlz⟩ : ∃ z, z = (lx + ly + 0) % 18446744073709551616 := ⟨_, rfl⟩
  obtain ⟨cz, hcz⟩ : ∃ z, z = (lx + ly + 0) / 18446744073709551616 := ⟨_, rfl⟩
  have e3 : numV (x + y) = .agg #[.int .u64 lz, .int .i64 (hx + hy + cz)] := by
    unfold numV
    rw [show ((x + y) % 18446744073709551616).toNat = lz by omega, show (x + y) / 18446744073709551616 = hx + hy + cz by omega]
  have H := fun w => add98 lx ly 0 (by decide) w
  rw [← hlz, ← hcz, show ((0 : Nat) : Int) = 0 from rfl] at H
  rw [e1, e2]
  have HE := Lib.hid e3
  have b1 : -4611686018427387904 ≤ hx := by omega
  have b2 : hx < 4611686018427387904 := by omega
  have b3 : -4611686018427387904 ≤ hy := by omega
  have b4 : hy < 4611686018427387904 := by omega
  have b5 : cz ≤ 1 := by omega
  clear e1 e2 e3 hlx hhx hly hhy hlz hcz x1 x2 y1 y2
  go_enter Tryz.func73, Tryz.ntmps73
  go_wp2_with fail
  exact bodyPost_ret (v := .agg #[.int .u64 lz, .int .i64 (hx + hy + cz)]) (by simp [results, Tryz.results73, go_sem]) rfl ⟨by rw [HE.out], by repeat (first | exact Keep.refl _ _ | refine Keep.setCell ?_ (.inr (Nat.le_refl _)) _ | refine Keep.alloc ?_ _)⟩
set_option maxRecDepth 100000 in
set_option maxHeartbeats 4000000 in
theorem subNum75 (x y : Int) (hx : Small x) (hy : Small y) (w : World) : Calls Tryz.prog 75 #[numV x, numV y] w fun e w' => e = .returned (numV (x - y)) ∧ Keep (fun _ => False) w w' := by
  obtain ⟨x1, x2⟩ := hx
  obtain ⟨y1, y2⟩ := hy
  obtain ⟨lx, hlx⟩ : ∃ z, z = (x % 18446744073709551616).toNat := ⟨_, rfl⟩
  obtain ⟨hx, hhx⟩ : ∃ z, z = x / 18446744073709551616 := ⟨_, rfl⟩
  obtain ⟨ly, hly⟩ : ∃ z, z = (y % 18446744073709551616).toNat := ⟨_, rfl⟩
  obtain ⟨hy, hhy⟩ : ∃ z, z = y / 18446744073709551616 := ⟨_, rfl⟩
  have e1 : numV x = .agg #[.int .u64 lx, .int .i64 hx] := by rw [hlx, hhx]; rfl
  have e2 : numV y = .agg #[.int .u64 ly, .int .i64 hy] := by rw [hly, hhy]; rfl
  obtain ⟨lz, hlz⟩ : ∃ z, z = (lx + 18446744073709551616 - ly - 0) % 18446744073709551616 := ⟨_, rfl⟩
  obtain ⟨cz, hcz⟩ : ∃ z : Nat, z = (if lx < ly + 0 then 1 else 0 : Nat) := ⟨_, rfl⟩
  have hcc : (cz = 1 ∧ lx < ly) ∨ (cz = 0 ∧ ¬ lx < ly) := by
    rw [hcz]
    by_cases h : lx < ly + 0
    · rw [if_pos h]; exact .inl ⟨rfl, by omega⟩
    · rw [if_neg h]; exact .inr ⟨rfl, by omega⟩
  have e3 : numV (x - y) = .agg #[.int .u64 lz, .int .i64 (hx - hy - cz)] := by
    unfold numV
    rw [show ((x - y) % 18446744073709551616).toNat = lz by omega, show (x - y) / 18446744073709551616 = hx - hy - cz by omega]
  have H := fun w => sub99 lx ly 0 (by decide) w
  rw [← hlz, ← hcz, show ((0 : Nat) : Int) = 0 from rfl] at H
  rw [e1, e2]
  have HE := Lib.hid e3
  have b1 : -4611686018427387904 ≤ hx := by omega
  have b2 : hx < 4611686018427387904 := by omega
  have b3 : -4611686018427387904 ≤ hy := by omega
  have b4 : hy < 4611686018427387904 := by omega
  have b5 : cz ≤ 1 := by omega
  clear e1 e2 e3 hcc hlx hhx hly hhy hlz hcz x1 x2 y1 y2
  go_enter Tryz.func75, Tryz.ntmps75
  go_wp2_with fail
  exact bodyPost_ret (v := .agg #[.int .u64 lz, .int .i64 (hx - hy - cz)]) (by simp [results, Tryz.results75, go_sem]) rfl ⟨by rw [HE.out], by repeat (first | exact Keep.refl _ _ | refine Keep.setCell ?_ (.inr (Nat.le_refl _)) _ | refine Keep.alloc ?_ _)⟩
end Go.Proofs.YtamkglgiaiejkaaGreatDoor

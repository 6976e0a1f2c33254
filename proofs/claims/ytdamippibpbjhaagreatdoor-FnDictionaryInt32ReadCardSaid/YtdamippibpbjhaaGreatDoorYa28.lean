import Derived.Test.YtdamippibpbjhaaGreatDoorYa27
import Derived.Test.YtdamippibpbjhaaGreatDoorYa15
import Derived.Test.YtdamippibpbjhaaGreatDoorYa04
import Derived.Test.YtdamippibpbjhaaGreatDoorYa01
import Derived.Test.YtdamippibpbjhaaGreatDoorYa03
import Derived.Deep.DeepCutAuto
import Derived.Deep.CutBlock
/-! Runs: how they lie in bytes; the next one is begun. -/
namespace Go.Proofs.YtdamippibpbjhaaGreatDoor
open Go.RowKit

/-- A run: packed values, or one value some times. -/
structure Rle where
  packed : Bool
  count : Nat
  val : Nat → Nat
def Rle.n (r : Rle) : Nat := if r.packed then 8 * r.count else r.count
def Rle.vals (r : Rle) : List Nat := (List.range r.n).map r.val
/-- Runs of width W lie from byte p on. -/
def RunsAt (D : List Int) (W : Nat) : Nat → List Rle → Prop
  | _, [] => True
  | p, r :: rs => ∃ n, Leb D p n ((2 * r.count + (if r.packed then 1 else 0) : Nat) : Int) ∧ 1 ≤ r.count ∧ r.count ≤ 300 ∧
    if r.packed then p + n + 1 + r.count * W ≤ D.length ∧ (∀ i, i < 8 * r.count → bitsAt D (8 * (p + n + 1) + i * W) W = r.val i) ∧ RunsAt D W (p + n + 1 + r.count * W) rs
    else p + n + 1 + (W + 7) / 8 ≤ D.length ∧ bitsAt D (8 * (p + n + 1)) (8 * ((W + 7) / 8)) = r.val 0 ∧ (∀ i, r.val i = r.val 0) ∧ RunsAt D W (p + n + 1 + (W + 7) / 8) rs

theorem le16_bits (D : List Int) (h : Bytes D) (o : Nat) : D.getD o 0 + D.getD (o + 1) 0 * 256 = (bitsAt D (8 * o) 16 : Nat) := by
  rw [bitsAt_byte D h o, bitsAt_byte D h (o + 1)]
  have h1 := bitsAt_add D (8 * o) 8 8
  rw [show 8 * (o + 1) = 8 * o + 8 by omega]
  simp only [show 8 + 8 = 16 from rfl] at h1
  omega
theorem le24_bits (D : List Int) (h : Bytes D) (o : Nat) : D.getD o 0 + D.getD (o + 1) 0 * 256 + D.getD (o + 2) 0 * 65536 = (bitsAt D (8 * o) 24 : Nat) := by
  rw [bitsAt_byte D h o, bitsAt_byte D h (o + 1), bitsAt_byte D h (o + 2)]
  have h1 := bitsAt_add D (8 * o) 8 16
  have h2 := bitsAt_add D (8 * o + 8) 8 8
  rw [show 8 * (o + 1) = 8 * o + 8 by omega, show 8 * (o + 2) = 8 * o + 16 by omega]
  simp only [show 8 + 8 = 16 from rfl, show 8 + 16 = 24 from rfl] at h1 h2
  rw [show 8 * o + 8 + 8 = 8 * o + 16 by omega] at h2
  omega

/-- The cells of a decoder of runs. -/
def RC (E : Env) (W cur rep lit : Nat) : Array Value := #[.pointer (some ⟨E.b, 0, none⟩), .int .i64 W, .int .u64 cur, .int .i32 rep, .int .i32 lit]

set_option maxRecDepth 100000 in
set_option maxHeartbeats 4000000 in
theorem next_packed (E : Env) (w : World) (hW : E.Wf) (hS : Src E w) (rd : Nat) (T : TypeId) (W cur off bo p n count : Nat) (hrd : w.heap[rd]? = some (.cells (RC E W cur 0 0) T (0, 0))) (hne : rd ≠ E.b) {bbuf bvb : Int} (hbo : bo ≤ 64) (hb : BR E w off bo bbuf bvb) (hp : off + (bo + 7) / 8 = p)
    (hl : Leb E.D p n ((2 * count + 1 : Nat) : Int)) (hc1 : 1 ≤ count) (hc2 : count ≤ 300) :
    Calls Tryz.prog 135 #[.pointer (some ⟨rd, 0, none⟩)] w fun e w' =>
      e = .returned (.bool true) ∧ Keep (fun k => k = E.b ∨ k = rd) w w' ∧ w'.heap[rd]? = some (.cells (RC E W cur 0 (8 * count)) T (0, 0)) ∧ BL E w' (p + n + 1) 0 := by
  have HV := Lib.hid (vlq_any E w hW hS off bo _ _ hbo hb p hp n hl.n9 hl.more hl.last hl.l9 hl.lt)
  rw [hl.val] at HV
  have hc := blk_cell hrd
  unfold RC at hc
  have hand : bits .and .u64 ((2 * count + 1 : Nat) : Int) 1 = 1 := by rw [u64_and1 (by omega) (by omega)]; omega
  have hsh : ((2 * count + 1 : Nat) : Int) / 2 = (count : Int) := by omega
  obtain ⟨v, hv⟩ : ∃ v : Nat, v = 2 * count + 1 := ⟨_, rfl⟩
  rw [← hv] at HV hand hsh
  have hcz : ((count : Int) == 0) = false := beq_eq_false_iff_ne.2 (by omega)
  have hcm : ¬ ((268435455 : Int) < (count : Int)) := by omega
  clear hl hv
  go_enter Tryz.func135, Tryz.ntmps135
  go_wp2_with fail
  refine HV.out.mono ?_
  rintro e w1 ⟨rfl, hk1, hb1⟩
  have hrd1 := hk1.blk hrd hne
  unfold RC at hrd1
  have hc1' := blk_cell hrd1
  have hf1 := blk_frozen hrd1
  clear hc
  go_wp2_with fail
  go_ret
  have e8 : (count : Int) * 8 = ((8 * count : Nat) : Int) := by omega
  refine ⟨rfl, (hk1.mono (fun _ h => .inl h)).setCell (p := ⟨rd, 4, none⟩) (.inl (.inr rfl)) _, ?_, BR.far hb1 hne 4 _⟩
  have h := blk_set hrd1 4 (.int .i32 ((count : Int) * 8))
  rw [h, e8]
  rfl

set_option maxRecDepth 100000 in
set_option maxHeartbeats 8000000 in
theorem next_rep (E : Env) (w : World) (hW : E.Wf) (hS : Src E w) (rd : Nat) (T : TypeId) (W cur off bo p n count v : Nat) (hW1 : 1 ≤ W) (hW20 : W ≤ 20) (hrd : w.heap[rd]? = some (.cells (RC E W cur 0 0) T (0, 0))) (hne : rd ≠ E.b) (hn2 : rd ≠ E.rb) (hn3 : rd ≠ E.g) (hn4 : rd ≠ 2) {bbuf bvb : Int} (hbo : bo ≤ 64) (hb : BR E w off bo bbuf bvb) (hp : off + (bo + 7) / 8 = p)
    (hl : Leb E.D p n ((2 * count : Nat) : Int)) (hc1 : 1 ≤ count) (hc2 : count ≤ 300) (hlen : p + n + 1 + (W + 7) / 8 ≤ E.D.length) (hv : bitsAt E.D (8 * (p + n + 1)) (8 * ((W + 7) / 8)) = v) :
    Calls Tryz.prog 135 #[.pointer (some ⟨rd, 0, none⟩)] w fun e w' =>
      e = .returned (.bool true) ∧ Keep (fun k => k = E.b ∨ k = rd) w w' ∧ w'.heap[rd]? = some (.cells (RC E W v count 0) T (0, 0)) ∧ BL E w' (p + n + 1 + (W + 7) / 8) 0 := by
  have HV := Lib.hid (vlq_any E w hW hS off bo _ _ hbo hb p hp n hl.n9 hl.more hl.last hl.l9 hl.lt)
  rw [hl.val] at HV
  have hc := blk_cell hrd
  unfold RC at hc
  have hand : bits .and .u64 ((2 * count : Nat) : Int) 1 = 0 := by rw [u64_and1 (by omega) (by omega)]; omega
  have hsh : ((2 * count : Nat) : Int) / 2 = (count : Int) := by omega
  obtain ⟨ind, hind⟩ : ∃ ind : Nat, ind = 2 * count := ⟨_, rfl⟩
  rw [← hind] at HV hand hsh
  have hcz : ((count : Int) == 0) = false := beq_eq_false_iff_ne.2 (by omega)
  have hcm : ¬ ((2147483647 : Int) < (count : Int)) := by omega
  obtain ⟨nb, hnb⟩ : ∃ nb, nb = (W + 7) / 8 := ⟨_, rfl⟩
  have hnbi : ((W : Int) + 7) / 8 = (nb : Int) := by omega
  rw [← hnb] at hlen hv ⊢
  have hnbs : nb = 1 ∨ nb = 2 ∨ nb = 3 := by omega
  have HBB := Lib.hid (fun w => bytesForBits_any (W : Int) w (by omega) (by omega))
  rw [hnbi] at HBB
  obtain ⟨o, ho⟩ : ∃ o, o = p + n + 1 := ⟨_, rfl⟩
  rw [← ho] at HV hlen hv ⊢
  have HX := Lib.hid hv
  clear hl hind hnbi hnb ho hp hb hv
  go_enter Tryz.func135, Tryz.ntmps135
  go_wp2_with fail
  refine HV.out.mono ?_
  rintro e w1 ⟨rfl, hk1, hb1⟩
  have hS1 := hS.keepB hW hk1
  have hrd1 := hk1.blk hrd hne
  unfold RC at hrd1
  have hc1' := blk_cell hrd1
  have hf1 := blk_frozen hrd1
  clear hc HV
  go_wp2_with fail
  have hk2 : Keep (fun k => k = E.b ∨ k = rd) w (w1.setCell ⟨rd, 3, none⟩ (.int .i32 count)) := (hk1.mono (fun _ h => .inl h)).setCell (p := ⟨rd, 3, none⟩) (.inl (.inr rfl)) _
  have hS2 : Src E (w1.setCell ⟨rd, 3, none⟩ (.int .i32 count)) := hS1.keep ((Keep.refl (fun k => k = rd) w1).setCell (p := ⟨rd, 3, none⟩) (.inl rfl) _) (fun e => hn2 e.symm) (fun e => hn3 e.symm) (fun e => hn4 e.symm)
  have hb2 : BL E (w1.setCell ⟨rd, 3, none⟩ (.int .i32 count)) o 0 := BR.far hb1 hne 3 _
  have hrd2 := blk_set hrd1 3 (.int .i32 count)
  clear hk1 hS1 hb1 hrd1 hc1' hf1
  generalize w1.setCell ⟨rd, 3, none⟩ (.int .i32 count) = w2 at *
  refine (HBB.out w2).mono ?_
  rintro e w2' ⟨rfl, hw⟩
  have hw' := hw.symm
  clear hw
  subst hw'
  have hcr := blk_cell hrd2
  obtain ⟨cs2, hcs2, hB2⟩ := hb2
  have hlb := blk_lt hcs2
  have hlr := blk_lt hrd2
  obtain ⟨ri, rp, hsr⟩ := hS2.rd
  have hlrb := blk_lt hsr
  have hng : w2'.heap.size ≠ E.g := fun e => by
    have h : E.g < w2'.heap.size := World.block_lt_of_cell? w2' _ (hS2.row 0 (by omega))
    omega
  have hn2' : w2'.heap.size ≠ 2 := fun e => by
    have h : 2 < w2'.heap.size := World.block_lt_of_cell? w2' _ hS2.eof
    omega
  rcases hnbs with rfl | rfl | rfl
  · have HG := Lib.hid (getU8_any E (w2'.alloc (.cells #[.int .u8 0] 5)) hW (hS2.keep ((Keep.refl (fun _ => False) w2').alloc _) (fun h => h) (fun h => h) (fun h => h)) w2'.heap.size 0 o 0 _ _ (by omega) ⟨cs2, blk_alloc hcs2 _, hB2⟩ (blk_new w2' _) (by omega) (by omega) hng hn2' (by omega))
    rw [show o + (0 + 7) / 8 = o by omega, bitsAt_byte E.D hW.byte o] at HG
    have hx := HX.out
    simp only [Nat.mul_one] at hx
    rw [hx] at HG
    have hvb : v < 16777216 := by rw [← hx]; exact Nat.lt_of_lt_of_le (bitsAt_lt _ _ _) (Nat.pow_le_pow_right (by decide) (by decide) : 2 ^ 8 ≤ 2 ^ 24)
    clear hx
    go_wp2_with fail
    refine HG.out.mono ?_
    rintro e w3 ⟨rfl, hk3, hb3, hv3⟩
    have hrd3 := hk3.blk (blk_alloc hrd2 (.cells #[.int .u8 0] 5)) (fun h => h.elim hne (fun h => by omega))
    have hk4 : Keep (fun k => k = E.b ∨ k = rd) w w3 := (hk2.alloc (.cells #[.int .u8 0] 5)).step hk3 (fun i h => h.elim (fun h => .inl (.inl h)) (fun h => .inr (by have := hk2.size; omega)))
    have hcv := blk_cell hv3
    have hcr3 := blk_cell hrd3
    have hfr3 := blk_frozen hrd3
    clear hcr HG hS2 hcs2 hrd2 hk3 hsr
    go_wp2_with fail
    go_ret
    have h := blk_set hrd3 2 (.int .u64 v)
    exact ⟨rfl, hk4.setCell (p := ⟨rd, 2, none⟩) (.inl (.inr rfl)) _, by rw [h]; rfl, BR.far (BL.of hW hb3) hne 2 _⟩
  · have HG := Lib.hid (getU16_any E (w2'.alloc (.cells #[.int .u16 0] 186)) hW (hS2.keep ((Keep.refl (fun _ => False) w2').alloc _) (fun h => h) (fun h => h) (fun h => h)) w2'.heap.size 0 o 0 _ _ (by omega) ⟨cs2, blk_alloc hcs2 _, hB2⟩ (blk_new w2' _) (by omega) (by omega) hng hn2' (by omega))
    rw [show o + (0 + 7) / 8 = o by omega, le16_bits E.D hW.byte o] at HG
    have hx := HX.out
    simp only [show 8 * 2 = 16 from rfl] at hx
    rw [hx] at HG
    have hvb : v < 16777216 := by rw [← hx]; exact Nat.lt_of_lt_of_le (bitsAt_lt _ _ _) (Nat.pow_le_pow_right (by decide) (by decide) : 2 ^ 16 ≤ 2 ^ 24)
    clear hx
    go_wp2_with fail
    refine HG.out.mono ?_
    rintro e w3 ⟨rfl, hk3, hb3, hv3⟩
    have hrd3 := hk3.blk (blk_alloc hrd2 (.cells #[.int .u16 0] 186)) (fun h => h.elim hne (fun h => by omega))
    have hk4 : Keep (fun k => k = E.b ∨ k = rd) w w3 := (hk2.alloc (.cells #[.int .u16 0] 186)).step hk3 (fun i h => h.elim (fun h => .inl (.inl h)) (fun h => .inr (by have := hk2.size; omega)))
    have hcv := blk_cell hv3
    have hcr3 := blk_cell hrd3
    have hfr3 := blk_frozen hrd3
    clear hcr HG hS2 hcs2 hrd2 hk3 hsr
    go_wp2_with fail
    go_ret
    have h := blk_set hrd3 2 (.int .u64 v)
    exact ⟨rfl, hk4.setCell (p := ⟨rd, 2, none⟩) (.inl (.inr rfl)) _, by rw [h]; rfl, BR.far (BL.of hW hb3) hne 2 _⟩
  · have HG := Lib.hid (getU24_any E (w2'.alloc (.cells #[.int .u32 0] 183)) hW (hS2.keep ((Keep.refl (fun _ => False) w2').alloc _) (fun h => h) (fun h => h) (fun h => h)) w2'.heap.size 0 o 0 _ _ (by omega) ⟨cs2, blk_alloc hcs2 _, hB2⟩ (blk_new w2' _) (by omega) (by omega) hng hn2' (by omega))
    rw [show o + (0 + 7) / 8 = o by omega, le24_bits E.D hW.byte o] at HG
    have hx := HX.out
    simp only [show 8 * 3 = 24 from rfl] at hx
    rw [hx] at HG
    have hvb : v < 16777216 := by rw [← hx]; exact Nat.lt_of_lt_of_le (bitsAt_lt _ _ _) (Nat.pow_le_pow_right (by decide) (by decide) : 2 ^ 24 ≤ 2 ^ 24)
    clear hx
    go_wp2_with fail
    refine HG.out.mono ?_
    rintro e w3 ⟨rfl, hk3, hb3, hv3⟩
    have hrd3 := hk3.blk (blk_alloc hrd2 (.cells #[.int .u32 0] 183)) (fun h => h.elim hne (fun h => by omega))
    have hk4 : Keep (fun k => k = E.b ∨ k = rd) w w3 := (hk2.alloc (.cells #[.int .u32 0] 183)).step hk3 (fun i h => h.elim (fun h => .inl (.inl h)) (fun h => .inr (by have := hk2.size; omega)))
    have hcv := blk_cell hv3
    have hcr3 := blk_cell hrd3
    have hfr3 := blk_frozen hrd3
    clear hcr HG hS2 hcs2 hrd2 hk3 hsr
    go_wp2_with fail
    go_ret
    have h := blk_set hrd3 2 (.int .u64 v)
    exact ⟨rfl, hk4.setCell (p := ⟨rd, 2, none⟩) (.inl (.inr rfl)) _, by rw [h]; rfl, BR.far (BL.of hW hb3) hne 2 _⟩
end Go.Proofs.YtdamippibpbjhaaGreatDoor

/-! Bits of a bit reader left out. -/
namespace Go.Proofs.YtdamippibpbjhaaGreatDoor
open Go.RowKit

/-- k numbers are left out. -/
def BdRel (E : Env) (w : World) (bits p : Nat) (R : World → Nat → Nat → Prop) (k : Nat) (wr : World) : Prop :=
  Keep (fun k => k = E.b) w wr ∧ ∃ off bo, R wr off bo ∧ 8 * off + bo = p + k * bits ∧ bo ≤ 64

/-- One byte read into a block by itself. -/
theorem readOne (E : Env) (w : World) (hW : E.Wf) (hS : Src E w) (nb off : Nat) (x : Value) (t : TypeId) (hnb : w.heap[nb]? = some (.cells #[x] t (0, 0))) (hn2 : nb ≠ 2) (hoff : off < E.D.length) :
    Calls Tryz.prog 281 #[.pointer (some ⟨E.rb, E.R.o, none⟩), .slice (some ⟨nb, 0, none⟩) 1 1, .int .i64 off] w fun e w' => e = .returned (.tuple #[.int .i64 1, .nilIface]) ∧ Keep (fun k => k = nb) w w' := by
  obtain ⟨ri, rp, hrd⟩ := hS.rd
  refine (readAt_in nb 0 1 1 E.rb E.R.o E.g E.o E.sc off E.D w (.iface 226 (.pointer (some E.eof))) hoff hW.len hS.eof hn2 ((blk_cell hrd _).trans (E.R.at0 _ _ _)) hS.row (fun j hj => ?_) (fun j hj => blk_frozen hnb _)).mono fun e w' ⟨⟨err, he, herr⟩, hw⟩ => ?_
  · rw [blk_cell hnb]
    obtain rfl : j = 0 := by omega
    rfl
  · have hmin : min 1 (E.D.length - off) = 1 := by omega
    rw [hmin] at he
    rcases herr with ⟨_, h⟩ | ⟨h, _⟩
    · omega
    · rw [h] at he
      refine ⟨he, ?_⟩
      rw [hw]
      exact Keep.setCells _ _ _ (Keep.refl _ w) (.inl rfl)

set_option maxRecDepth 100000 in
set_option maxHeartbeats 4000000 in
theorem bdiscard_any (E : Env) (w : World) (hW : E.Wf) (hS : Src E w) (off bo n bits : Nat) (hb1 : 1 ≤ bits) (hb64 : bits ≤ 64) (hbo : bo ≤ 64) (hb : BL E w off bo)
    (hlt : 8 * off + bo + n * bits ≤ 8 * E.D.length) :
    Calls Tryz.prog 136 #[.pointer (some ⟨E.b, 0, none⟩), .int .u64 bits, .int .i64 n] w fun e w' =>
      e = .returned (.tuple #[.int .i64 n, .nilIface]) ∧ BdRel E w bits (8 * off + bo) (BL E) n w' := by
  have hcap := hW.cap
  have hnb : n ≤ n * bits := Nat.le_mul_of_pos_right n hb1
  have hn9 : n ≤ 1125899906842616 := by omega
  have HNB := Lib.hid hnb
  clear hnb
  go_enter Tryz.func136, Tryz.ntmps136
  have hb64' : ¬ ((64 : Int) < (bits : Int)) := by omega
  go_upto_block 0 with fail
  go_cut [8, 9, 10] from 22 to 43 (fun i _ _ wr => ∃ k : Nat, k ≤ n ∧ i = .int .i64 k ∧ BdRel E w bits (8 * off + bo) (fun w o b => BL E w o b ∧ (k < n → b = 0)) k wr)
  case first =>
    go_wp2_with fail
    go_loopw [8, 9, 10] (fun i _ _ wr => ∃ k : Nat, k ≤ n ∧ i = .int .i64 k ∧ BdRel E w bits (8 * off + bo) (BL E) k wr) (fun i _ _ _ => n - (intOf i).toNat)
    case atStart => exact ⟨0, Nat.zero_le _, rfl, Keep.refl _ w, off, bo, hb, by omega, hbo⟩
    case round =>
      obtain ⟨k, hkn, rfl, hkr, off1, bo1, hbl, hpos, hbo1⟩ := hrel
      clear hb hbo
      have hSr := hS.keepB hW hkr
      have hbl' := hbl
      obtain ⟨cs0, hcs0, hB0⟩ := hbl'
      have hc := blk_cell hcs0
      have c3 := hB0.c3
      by_cases hgo : k < n ∧ bo1 ≠ 0
      · have hz : ((bo1 : Int) == 0) = false := beq_eq_false_iff_ne.2 (by omega)
        have hkn1 := hgo.1
        have HL := Lib.hid (show (k + 1) * bits ≤ n * bits from Nat.mul_le_mul_right _ hkn1)
        have HN := Lib.hid (next_any E wr hW hSr off1 bo1 bits hb1 hb64 hbo1 hbl (by have := HL.out; rw [Nat.add_mul] at this; omega))
        rw [hpos] at HN
        clear hgo
        go_wp2_with fail
        refine HN.out.mono ?_
        rintro e w1 ⟨rfl, hk1, off2, bo2, hb2, hp2, _, h642⟩
        have hkk := hkr.trans hk1
        clear hc c3 hB0 hcs0 hbl HN hk1 hkr
        go_wp2_with fail
        go_roundw
        case rel => exact ⟨k + 1, hkn1, by go_num, hkk, off2, bo2, hb2, by rw [hp2, Nat.add_mul]; omega, h642⟩
        case measure => simp [intOf]; omega
      · by_cases hk : k = n
        · subst hk
          go_wp2_with fail
          go_meet
          exact ⟨k, Nat.le_refl _, rfl, hkr, off1, bo1, ⟨hbl, fun h => absurd h (by omega)⟩, hpos, hbo1⟩
        · have hz : ((bo1 : Int) == 0) = true := by rw [show bo1 = 0 by omega]; rfl
          have hkl : k < n := by omega
          have hb0 : bo1 = 0 := by omega
          clear hgo
          go_wp2_with fail
          go_meet
          exact ⟨k, hkn, rfl, hkr, off1, bo1, ⟨hbl, fun _ => hb0⟩, hpos, hbo1⟩
  case rest =>
    obtain ⟨k, hkn, rfl, hkr, off1, bo1, ⟨hbl, hb0⟩, hpos, hbo1⟩ := hcut
    clear hb hbo
    have hSr := hS.keepB hW hkr
    go_upto_if 47 with fail
    go_cut [8] (fun i wr => ∃ k : Nat, k ≤ n ∧ i = .int .i64 k ∧ BdRel E w bits (8 * off + bo) (BRaw E) k wr)
    case first =>
      by_cases hj : 32 < n - k
      · have hji : (32 : Int) < (n : Int) - (k : Int) := by omega
        have hb00 := hb0 (by omega)
        subst hb00
        obtain ⟨q, hq⟩ : ∃ q, q = (n - k) / 32 := ⟨_, rfl⟩
        have hqi : ((n : Int) - (k : Int)) / 32 = (q : Int) := by omega
        obtain ⟨bs, hbs⟩ : ∃ bs, bs = q * 4 * bits := ⟨_, rfl⟩
        have hts : (q : Int) * 32 * (bits : Int) = 8 * (bs : Int) := by
          rw [hbs, Int.natCast_mul, Int.natCast_mul, ← Int.mul_assoc, ← Int.mul_assoc, Int.mul_comm 8 (q : Int), Int.mul_assoc (q : Int) 8]
          rfl
        have hqb : q * 32 * bits ≤ (n - k) * bits := Nat.mul_le_mul_right _ (by omega)
        have h8 : q * 32 * bits = 8 * bs := by have := hts; rw [← Int.ofNat_inj]; push_cast; omega
        have hnk : k * bits + (n - k) * bits = n * bits := by rw [← Nat.add_mul]; congr 1; omega
        have hbs1 : 1 ≤ bs := by rw [hbs]; exact Nat.mul_pos (by omega) hb1
        have hoffl : off1 + bs ≤ E.D.length := by omega
        have HB := Lib.hid (bytesForBits_any (8 * (bs : Int)) wc (by omega) (by omega))
        rw [show (8 * (bs : Int) + 7) / 8 = bs by omega] at HB
        have HQ := Lib.hid (And.intro hq (And.intro h8 hnk))
        have hbs9 : (8 : Int) * (bs : Int) ≤ 9223372036854775807 := by omega
        have hoff9 : (off1 : Int) + (bs : Int) ≤ 140737488351232 := by omega
        clear hq hqb h8 hnk hbs
        obtain ⟨cs0, hcs0, hB0⟩ := hbl
        go_wp2_with fail
        refine HB.out.mono ?_
        rintro e w1 ⟨rfl, hw⟩
        have hw' := hw.symm
        clear hw
        subst hw'
        have hbs0 : (0 : Int) < (bs : Int) := by omega
        have hnew := blk_new w1 (.cells #[.int .u8 0] 301)
        have hkA : Keep (fun _ => False) w1 (w1.alloc (.cells #[.int .u8 0] 301)) := (Keep.refl _ w1).alloc _
        have hSA := hSr.keep hkA (fun h => h) (fun h => h) (fun h => h)
        have hcsA := hkA.blk hcs0 (fun h => h)
        have hbl0 := blk_lt hcs0
        obtain ⟨nb, hnb⟩ : ∃ nb, nb = w1.heap.size := ⟨_, rfl⟩
        rw [← hnb] at hnew hbl0
        have HNB2 := Lib.hid hnb
        clear hnb
        go_wp2_with fail
        rw [← HNB2.out]
        generalize w1.alloc (.cells #[.int .u8 0] 301) = w2 at *
        have hc := blk_cell hcsA
        have c0 := hB0.c0
        have c2 := hB0.c2
        have HR := Lib.hid (fun m => readOne E (w2.drewN m) hW (hSA.keepB hW ((Keep.refl _ w2).drewN m)) nb (off1 + bs - 1) _ _ (blk_drewN hnew m) (by have h2 : 2 < w1.heap.size := World.block_lt_of_cell? w1 _ hSr.eof; have := HNB2.out; omega) (by omega))
        have hoffi : (off1 : Int) + (bs : Int) - 1 = ((off1 + bs - 1 : Nat) : Int) := by omega
        refine wp_region_mid 14 (by kernel_rfl) (by kernel_rfl) rfl ?_
        simp only [List.take_succ_cons, List.take_zero, List.drop_succ_cons, List.drop_zero]
        repeat (go_big_quiet_step (fail))
        refine wpQuiet_nil ?_
        rintro _ ⟨nq, rfl⟩
        go_wp2_with fail
        refine (HR.out nq).mono ?_
        rintro e w3 ⟨rfl, hk3q⟩
        have hk3 : Keep (fun k => k = nb) w2 w3 := ((Keep.refl _ w2).drewN nq).trans hk3q
        clear HR hk3q
        have hcs3 := hk3.blk hcsA (fun h => by have h : E.b = nb := h; omega)
        have hk13 : Keep (fun k => k = E.b) w1 w3 := hkA.mono (fun _ h => h.elim) |>.step hk3 (fun i h => .inr (by rw [h, HNB2.out]; exact Nat.le_refl _))
        clear hc c0 hnew hkA hSA hcsA hk3
        have hc := blk_cell hcs3
        have hf := blk_frozen hcs3
        go_wp2_with fail
        repeat (go_big_quiet_step (fail))
        refine wpQuiet_nil ?_
        rintro _ ⟨nq2, rfl⟩
        go_wp2_with fail
        go_meet
        have hQ := HQ.out
        refine ⟨k + q * 32, by have := hQ.1; omega, by go_num, ((hkr.trans hk13).drewN nq2).setCell (.inl rfl) _, off1 + bs, 0, ⟨(bitsAt E.D (8 * off1) 64 : Nat), (min 8 (E.D.length - off1) : Nat) * 8, _, blk_set (blk_drewN hcs3 nq2) 2 _, ?_⟩, ?_, by omega⟩
        · have e1 : ((off1 + bs : Nat) : Int) = (off1 : Int) + (bs : Int) := by omega
          rw [e1]
          exact hB0.set2 _
        · rw [Nat.add_mul, hQ.2.1]; omega
      · have hji : ¬ ((32 : Int) < (n : Int) - (k : Int)) := by omega
        go_wp2_with fail
        go_meet
        exact ⟨k, hkn, rfl, hkr, off1, bo1, hbl.raw, hpos, hbo1⟩
    case rest =>
      obtain ⟨k1, hkn1, rfl, hkr1, off2, bo2, ⟨buf, vb, hbr⟩, hpos2, hbo2⟩ := hcut
      clear hkr hbl hpos hbo1 hSr hb0
      have hSr := hS.keepB hW hkr1
      have HF := Lib.hid (fill_any E wc hW hSr off2 bo2 buf vb hbr)
      clear hbr
      go_wp2_with fail
      refine HF.out.mono ?_
      rintro e w1 ⟨rfl, hk1, hb1'⟩
      have HG : Hid (BdRel E w bits (8 * off + bo) (BL E) k1 w1) := Lib.hid ⟨hkr1.trans hk1, off2, bo2, BL.of hW hb1', hpos2, hbo2⟩
      clear HF hkr1 hpos2 hk1 hb1' hSr
      go_wp2_with fail
      go_loopw [8, 17, 18] (fun i _ _ wr => ∃ k : Nat, k ≤ n ∧ i = .int .i64 k ∧ BdRel E w bits (8 * off + bo) (BL E) k wr) (fun i _ _ _ => n - (intOf i).toNat)
      case atStart => exact ⟨k1, hkn1, rfl, HG.out⟩
      case round =>
        obtain ⟨k, hkn, rfl, hkr, off1, bo1, hbl, hpos, hbo1⟩ := hrel
        clear HG
        have hSr := hS.keepB hW hkr
        by_cases hkn1 : k < n
        · have HL := Lib.hid (show (k + 1) * bits ≤ n * bits from Nat.mul_le_mul_right _ hkn1)
          have HN := Lib.hid (next_any E wr hW hSr off1 bo1 bits hb1 hb64 hbo1 hbl (by have := HL.out; rw [Nat.add_mul] at this; omega))
          rw [hpos] at HN
          go_wp2_with fail
          refine HN.out.mono ?_
          rintro e w1 ⟨rfl, hk1, off2, bo2, hb2, hp2, _, h642⟩
          have hkk := hkr.trans hk1
          clear hbl HN hk1 hkr
          go_wp2_with fail
          go_roundw
          case rel => exact ⟨k + 1, hkn1, by go_num, hkk, off2, bo2, hb2, by rw [hp2, Nat.add_mul]; omega, h642⟩
          case measure => simp [intOf]; omega
        · obtain rfl : k = n := by omega
          go_wp2_with fail
          go_ret2
          exact ⟨rfl, hkr, off1, bo1, hbl, hpos, hbo1⟩
end Go.Proofs.YtdamippibpbjhaaGreatDoor

/-! What a decoder of runs has yet to read. -/
namespace Go.Proofs.YtdamippibpbjhaaGreatDoor
open Go.RowKit

/-- Numbers of W bits from bit q on. -/
def litVals (D : List Int) (W q n : Nat) : List Nat := (List.range n).map fun i => bitsAt D (q + i * W) W
theorem litVals_length (D : List Int) (W q n : Nat) : (litVals D W q n).length = n := by simp [litVals]
theorem litVals_add (D : List Int) (W q a b : Nat) : litVals D W q (a + b) = litVals D W q a ++ litVals D W (q + a * W) b := by
  unfold litVals
  rw [List.range_add, List.map_append, List.map_map]
  congr 1
  refine List.map_congr_left fun i _ => ?_
  show bitsAt D (q + (a + i) * W) W = _
  rw [Nat.add_mul, Nat.add_assoc]
def runVals (rs : List Rle) : List Nat := rs.flatMap Rle.vals
theorem runVals_cons (r : Rle) (rs : List Rle) : runVals (r :: rs) = r.vals ++ runVals rs := rfl

/-- Where the bits are; the buffer is told in a packed run. -/
def BP (E : Env) (w : World) (off bo lit : Nat) : Prop := (∃ buf vb : Int, BR E w off bo buf vb) ∧ (0 < lit → BL E w off bo)
theorem BP.of {E : Env} {w : World} {off bo lit : Nat} (h : BL E w off bo) : BP E w off bo lit := ⟨⟨_, _, h⟩, fun _ => h⟩
theorem BP.keep {E : Env} {S : Nat → Prop} {w w' : World} {off bo lit : Nat} (h : BP E w off bo lit) (hk : Keep S w w') (hs : ¬ S E.b) : BP E w' off bo lit := by
  obtain ⟨⟨buf, vb, h1⟩, h2⟩ := h
  exact ⟨⟨buf, vb, h1.keep hk hs⟩, fun h => (h2 h).keep hk hs⟩
theorem BP.lt {E : Env} {w : World} {off bo lit : Nat} (h : BP E w off bo lit) : E.b < w.heap.size := by
  obtain ⟨⟨buf, vb, c, hc, _⟩, _⟩ := h
  exact blk_lt hc
/-- The decoder's parts: what lies there, and what is yet to be read. -/
structure RP (E : Env) (w : World) (rd : Nat) (T : TypeId) (W cur rep lit : Nat) (rest : List Nat) : Prop where
  cells : w.heap[rd]? = some (.cells (RC E W cur rep lit) T (0, 0))
  src : Src E w
  one : rep = 0 ∨ lit = 0
  rep9 : rep ≤ 300
  lit9 : lit ≤ 2400
  cur9 : cur < 16777216
  pos : ∃ off bo p rs, BP E w off bo lit ∧ bo ≤ 64 ∧ RunsAt E.D W p rs ∧ (8 * off + bo + lit * W + 7) / 8 = p ∧ (0 < lit → 8 * off + bo + lit * W = 8 * p) ∧ p ≤ E.D.length ∧
    rest = List.replicate rep cur ++ (litVals E.D W (8 * off + bo) lit ++ runVals rs)
/-- A block that the decoder's walk may write by the way. -/
structure RN (E : Env) (rd : Nat) : Prop where
  n1 : rd ≠ E.b
  n2 : rd ≠ E.rb
  n3 : rd ≠ E.g
  n4 : rd ≠ 2
theorem Rle.rep_vals (r : Rle) (hp : r.packed = false) (hc : ∀ i, r.val i = r.val 0) : r.vals = List.replicate r.count (r.val 0) := by
  unfold Rle.vals Rle.n
  rw [hp]
  apply List.ext_getElem
  · simp
  · intro i h1 h2
    simp [hc i]
/-- The next run is begun. -/
theorem next_st (E : Env) (w : World) (hW : E.Wf) (rd : Nat) (T : TypeId) (W cur : Nat) (rest : List Nat) (hN : RN E rd) (hW1 : 1 ≤ W) (hW20 : W ≤ 20) (h : RP E w rd T W cur 0 0 rest) (h0 : 0 < rest.length) :
    Calls Tryz.prog 135 #[.pointer (some ⟨rd, 0, none⟩)] w fun e w' =>
      e = .returned (.bool true) ∧ Keep (fun k => k = E.b ∨ k = rd) w w' ∧ ∃ cur rep lit, RP E w' rd T W cur rep lit rest ∧ 0 < rep + lit := by
  obtain ⟨off, bo, p, rs, ⟨⟨_, _, hb⟩, _⟩, hbo, hR, hp, _, hpl, hrest⟩ := h.pos
  have hp' : off + (bo + 7) / 8 = p := by omega
  have hsrc : ∀ w', Keep (fun k => k = E.b ∨ k = rd) w w' → Src E w' := fun w' hk => h.src.keep hk (fun e => e.elim (fun e => hW.brb e.symm) (fun e => hN.n2 e.symm)) (fun e => e.elim (fun e => hW.bg e.symm) (fun e => hN.n3 e.symm)) (fun e => e.elim (fun e => hW.b2 e.symm) (fun e => hN.n4 e.symm))
  cases rs with
  | nil =>
    rw [hrest] at h0
    simp [litVals, runVals] at h0
  | cons r rs =>
    obtain ⟨pk, count, val⟩ := r
    obtain ⟨n, hl, hc1, hc2, hR⟩ := hR
    simp only at hl hc1 hc2 hR
    cases pk with
    | true =>
      simp only [if_true] at hl hR
      obtain ⟨hlen, hval, hR⟩ := hR
      refine (next_packed E w hW h.src rd T W cur off bo p n count h.cells hN.n1 hbo hb hp' hl hc1 hc2).mono fun e w' ⟨he, hk, hcells, hb'⟩ => ⟨he, hk, cur, 0, 8 * count, ⟨hcells, hsrc w' hk, .inl rfl, by omega, by omega, h.cur9, p + n + 1, 0, p + n + 1 + count * W, rs, BP.of hb', by omega, hR, ?_, fun _ => ?_, hlen, ?_⟩, by omega⟩
      · rw [Nat.mul_assoc]; omega
      · rw [Nat.mul_assoc]; omega
      · rw [hrest, runVals_cons]
        simp only [List.replicate_zero, List.nil_append, litVals, List.range_zero, List.map_nil]
        congr 1
        unfold Rle.vals Rle.n
        refine List.map_congr_left fun i hi => ?_
        exact (hval i (by simpa using hi)).symm
    | false =>
      simp only [if_false, Bool.false_eq_true] at hl hR
      obtain ⟨hlen, hval, hcon, hR⟩ := hR
      have hv24 : val 0 < 16777216 := by
        rw [← hval]
        exact Nat.lt_of_lt_of_le (bitsAt_lt _ _ _) (Nat.pow_le_pow_right (by decide) (by omega : 8 * ((W + 7) / 8) ≤ 24))
      refine (next_rep E w hW h.src rd T W cur off bo p n count (val 0) hW1 hW20 h.cells hN.n1 hN.n2 hN.n3 hN.n4 hbo hb hp' hl hc1 hc2 hlen hval).mono fun e w' ⟨he, hk, hcells, hb'⟩ => ⟨he, hk, val 0, count, 0, ⟨hcells, hsrc w' hk, .inr rfl, hc2, by omega, hv24, p + n + 1 + (W + 7) / 8, 0, p + n + 1 + (W + 7) / 8, rs, BP.of hb', by omega, hR, by omega, fun h => absurd h (by omega), hlen, ?_⟩, by omega⟩
      rw [hrest, runVals_cons, Rle.rep_vals ⟨false, count, val⟩ rfl hcon]
      simp [litVals]
/-- Some of a repeated value are taken. -/
theorem RP.reps {E : Env} {w w' : World} {rd : Nat} {T : TypeId} {W cur rep : Nat} {rest : List Nat} (h : RP E w rd T W cur rep 0 rest) (m : Nat) (hm : m ≤ rep) (hk : Keep (fun k => k = rd) w w') (hN : RN E rd) (hc : w'.heap[rd]? = some (.cells (RC E W cur (rep - m) 0) T (0, 0))) :
    RP E w' rd T W cur (rep - m) 0 (rest.drop m) ∧ rest.take m = List.replicate m cur := by
  obtain ⟨off, bo, p, rs, hb, hbo, hR, hp, hp2, hpl, hrest⟩ := h.pos
  have e : List.replicate rep cur = List.replicate m cur ++ List.replicate (rep - m) cur := by rw [List.replicate_append_replicate]; congr 1; omega
  refine ⟨⟨hc, h.src.keep hk (fun e => hN.n2 e.symm) (fun e => hN.n3 e.symm) (fun e => hN.n4 e.symm), .inr rfl, by have := h.rep9; omega, h.lit9, h.cur9, off, bo, p, rs, hb.keep hk (fun e => hN.n1 e.symm), hbo, hR, hp, hp2, hpl, ?_⟩, ?_⟩
  · rw [hrest, e, List.append_assoc, List.drop_left' (by simp)]
  · rw [hrest, e, List.append_assoc, List.take_left' (by simp)]
/-- Some packed values are taken. -/
theorem RP.lits {E : Env} {w w' : World} {rd : Nat} {T : TypeId} {W cur lit off bo p : Nat} {rs : List Rle} {rest : List Nat} (h : RP E w rd T W cur 0 lit rest) (hR : RunsAt E.D W p rs) (hp2 : 0 < lit → 8 * off + bo + lit * W = 8 * p) (hpl : p ≤ E.D.length)
    (hrest : rest = List.replicate 0 cur ++ (litVals E.D W (8 * off + bo) lit ++ runVals rs)) (m : Nat) (hm : m ≤ lit) (h0 : 0 < lit) (hS : Src E w') {off' bo' : Nat} (hb : BL E w' off' bo') (hbo : bo' ≤ 64) (hq : 8 * off' + bo' = 8 * off + bo + m * W)
    (hc : w'.heap[rd]? = some (.cells (RC E W cur 0 (lit - m)) T (0, 0))) :
    RP E w' rd T W cur 0 (lit - m) (rest.drop m) ∧ rest.take m = litVals E.D W (8 * off + bo) m := by
  have e := litVals_add E.D W (8 * off + bo) m (lit - m)
  rw [show m + (lit - m) = lit by omega] at e
  have hmw : m * W + (lit - m) * W = lit * W := by rw [← Nat.add_mul]; congr 1; omega
  have h1 := hp2 h0
  refine ⟨⟨hc, hS, .inl rfl, by omega, by have := h.lit9; omega, h.cur9, off', bo', p, rs, BP.of hb, hbo, hR, by omega, fun _ => by omega, hpl, ?_⟩, ?_⟩
  · rw [hrest, List.replicate_zero, List.nil_append, List.nil_append, e, List.append_assoc, List.drop_left' (litVals_length _ _ _ _), hq]
  · rw [hrest, List.replicate_zero, List.nil_append, e, List.append_assoc, List.take_left' (litVals_length _ _ _ _)]
end Go.Proofs.YtdamippibpbjhaaGreatDoor

/-! Values of runs left out. -/
namespace Go.Proofs.YtdamippibpbjhaaGreatDoor
open Go.RowKit

/-- One, if the decoder stands between two runs. -/
def pend (w : World) (rd : Nat) : Nat := match w.cell? ⟨rd, 3, none⟩, w.cell? ⟨rd, 4, none⟩ with
  | some (.int _ a), some (.int _ b) => if a = 0 ∧ b = 0 then 1 else 0
  | _, _ => 0
theorem pend_of {E : Env} {w : World} {rd : Nat} {T : TypeId} {W cur rep lit : Nat} (h : w.heap[rd]? = some (.cells (RC E W cur rep lit) T (0, 0))) : pend w rd = if rep = 0 ∧ lit = 0 then 1 else 0 := by
  unfold pend
  rw [blk_cell h, blk_cell h]
  unfold RC
  by_cases h1 : rep = 0 ∧ lit = 0
  · rw [if_pos h1]
    simp [h1.1, h1.2]
  · rw [if_neg h1]
    simp only [List.getElem?_toArray, List.getElem?_cons_succ, List.getElem?_cons_zero]
    rw [if_neg (by omega)]
theorem pend_le (w : World) (rd : Nat) : pend w rd ≤ 1 := by
  unfold pend
  split
  · split <;> omega
  · omega

set_option maxRecDepth 100000 in
set_option maxHeartbeats 4000000 in
theorem rdiscard_any (E : Env) (w : World) (hW : E.Wf) (rd : Nat) (T : TypeId) (W cur rep lit n : Nat) (rest : List Nat) (hN : RN E rd) (hW1 : 1 ≤ W) (hW20 : W ≤ 20) (h : RP E w rd T W cur rep lit rest) (hn : n ≤ rest.length) (hn9 : n ≤ 1000000) :
    Calls Tryz.prog 119 #[.pointer (some ⟨rd, 0, none⟩), .int .i64 n] w fun e w' =>
      e = .returned (.int .i64 n) ∧ Keep (fun k => k = E.b ∨ k = rd) w w' ∧ ∃ cur rep lit, RP E w' rd T W cur rep lit (rest.drop n) := by
  go_enter Tryz.func119, Tryz.ntmps119
  go_wp2_with fail
  go_loopw [5, 6, 7, 8, 9, 10] (fun i _ _ _ _ _ wr => ∃ k : Nat, k ≤ n ∧ i = .int .i64 k ∧ Keep (fun k => k = E.b ∨ k = rd) w wr ∧ ∃ cur rep lit, RP E wr rd T W cur rep lit (rest.drop k)) (fun i _ _ _ _ _ wr => 2 * (n - (intOf i).toNat) + pend wr rd)
  case atStart => exact ⟨0, Nat.zero_le _, rfl, Keep.refl _ w, cur, rep, lit, h⟩
  case round =>
    clear h
    obtain ⟨k, hkn, rfl, hkr, cur, rep, lit, h⟩ := hrel
    have hpd := pend_of h.cells
    by_cases hk : k < n
    · have hcells := h.cells
      unfold RC at hcells
      have hc := blk_cell hcells
      have hf := blk_frozen hcells
      have hlen : 0 < (rest.drop k).length := by simp; omega
      by_cases hrep : 0 < rep
      · obtain rfl : lit = 0 := by have := h.one; omega
        obtain ⟨m, hm⟩ : ∃ m, m = min (n - k) rep := ⟨_, rfl⟩
        have hmin : (if (rep : Int) < (n : Int) - (k : Int) then (rep : Int) else (n : Int) - (k : Int)) = (m : Int) := by split <;> omega
        have hr9 := h.rep9
        have hm1 : 1 ≤ m := by omega
        have hmr : m ≤ rep := by omega
        have hmn : k + m ≤ n := by omega
        have HH := Lib.hid h
        clear hm h
        go_wp2_with fail
        have e3 : (rep : Int) - (m : Int) = ((rep - m : Nat) : Int) := by omega
        have hks : Keep (fun k => k = rd) wr (wr.setCell ⟨rd, 3, none⟩ (.int .i32 ((rep : Int) - m))) := (Keep.refl (fun k => k = rd) wr).setCell (p := ⟨rd, 3, none⟩) (.inl rfl) _
        have hcs := blk_set hcells 3 (.int .i32 ((rep : Int) - m))
        have hR := (HH.out.reps m hmr hks hN (by rw [hcs, e3]; rfl)).1
        rw [List.drop_drop] at hR
        go_roundw
        case rel => exact ⟨k + m, hmn, by go_num, hkr.trans (hks.mono (fun _ h => .inr h)), cur, rep - m, 0, hR⟩
        case measure =>
          have := pend_le (wr.setCell ⟨rd, 3, none⟩ (.int .i32 ((rep : Int) - m))) rd
          simp only [intOf]
          omega
      · obtain rfl : rep = 0 := by omega
        by_cases hlit : 0 < lit
        · obtain ⟨m, hm⟩ : ∃ m, m = min (n - k) lit := ⟨_, rfl⟩
          have hmin : (if (lit : Int) < (n : Int) - (k : Int) then (lit : Int) else (n : Int) - (k : Int)) = (m : Int) := by split <;> omega
          have hl9 := h.lit9
          have hm1 : 1 ≤ m := by omega
          have hml : m ≤ lit := by omega
          have hmn : k + m ≤ n := by omega
          obtain ⟨off, bo, p, rs, hb, hbo, hR, hp, hp2, hpl, hrest⟩ := h.pos
          have hb := hb.2 hlit
          have hmw : m * W ≤ lit * W := Nat.mul_le_mul_right _ hml
          have HD := Lib.hid (fun q => bdiscard_any E (wr.drewN q) hW (h.src.keepB hW ((Keep.refl _ wr).drewN q)) off bo m W hW1 (by omega) hbo (by obtain ⟨c, h1, h2⟩ := hb; exact ⟨c, blk_drewN h1 q, h2⟩) (by have := hp2 hlit; omega))
          have HH := Lib.hid (And.intro h (And.intro hR (And.intro hp2 (And.intro hpl hrest))))
          have hWi : (0 : Int) ≤ (W : Int) := by omega
          have hW9 : (W : Int) ≤ 20 := by omega
          clear hm h hb hR hp hp2 hpl hrest hmw
          go_wp2_with fail
          refine wp_region_mid 10 (by kernel_rfl) (by kernel_rfl) rfl ?_
          simp only [List.take_succ_cons, List.take_zero, List.drop_succ_cons, List.drop_zero]
          repeat (go_big_quiet_step (fail))
          refine wpQuiet_nil ?_
          rintro _ ⟨nq, rfl⟩
          go_wp2_with fail
          refine (HD.out nq).mono ?_
          rintro e w1 ⟨rfl, hk1, off1, bo1, hb1, hq1, hbo1⟩
          go_wp2_with fail
          repeat (go_big_quiet_step (fail))
          refine wpQuiet_nil ?_
          rintro _ ⟨nq2, rfl⟩
          have hk2 : Keep (fun k => k = E.b) wr (w1.drewN nq2) := (((Keep.refl _ wr).drewN nq).trans hk1).drewN nq2
          have hb2 : BL E (w1.drewN nq2) off1 bo1 := by obtain ⟨c, h1, h2⟩ := hb1; exact ⟨c, blk_drewN h1 nq2, h2⟩
          have hcells2 := hk2.blk hcells hN.n1
          clear hk1 hb1 hc hf HD
          generalize w1.drewN nq2 = w2 at *
          have hc := blk_cell hcells2
          have hf := blk_frozen hcells2
          go_wp2_with fail
          have e3 : (lit : Int) - (m : Int) = ((lit - m : Nat) : Int) := by omega
          have hks : Keep (fun k => k = rd) w2 (w2.setCell ⟨rd, 4, none⟩ (.int .i32 ((lit : Int) - m))) := (Keep.refl (fun k => k = rd) w2).setCell (p := ⟨rd, 4, none⟩) (.inl rfl) _
          have hcs := blk_set hcells2 4 (.int .i32 ((lit : Int) - m))
          have hS2 := (HH.out.1.src.keepB hW hk2).keep hks (fun e => hN.n2 e.symm) (fun e => hN.n3 e.symm) (fun e => hN.n4 e.symm)
          have hR := (HH.out.1.lits HH.out.2.1 HH.out.2.2.1 HH.out.2.2.2.1 HH.out.2.2.2.2 m hml hlit hS2 (BR.far hb2 hN.n1 4 _) hbo1 hq1 (by rw [hcs, e3]; rfl)).1
          rw [List.drop_drop] at hR
          go_roundw
          case rel => exact ⟨k + m, hmn, by go_num, (hkr.trans (hk2.mono (fun _ h => .inl h))).trans (hks.mono (fun _ h => .inr h)), cur, 0, lit - m, hR⟩
          case measure =>
            have := pend_le (w2.setCell ⟨rd, 4, none⟩ (.int .i32 ((lit : Int) - m))) rd
            simp only [intOf]
            omega
        · obtain rfl : lit = 0 := by omega
          have HNX := Lib.hid (next_st E wr hW rd T W cur (rest.drop k) hN hW1 hW20 h hlen)
          clear h
          go_wp2_with fail
          refine HNX.out.mono ?_
          rintro e w1 ⟨rfl, hk1, cur1, rep1, lit1, h1, hpos⟩
          have hpd1 := pend_of h1.cells
          have hkk := hkr.trans hk1
          clear hc hf HNX hk1 hkr hcells
          go_wp2_with fail
          go_roundw
          case rel => exact ⟨k, hkn, rfl, hkk, cur1, rep1, lit1, h1⟩
          case measure =>
            have e1 : pend w1 rd = 0 := by rw [hpd1, if_neg (by omega)]
            have e2 : pend wr rd = 1 := by rw [hpd]; rfl
            omega
    · obtain rfl : k = n := by omega
      clear hpd
      go_wp2_with fail
      go_ret
      exact ⟨rfl, hkr, cur, rep, lit, h⟩
end Go.Proofs.YtdamippibpbjhaaGreatDoor

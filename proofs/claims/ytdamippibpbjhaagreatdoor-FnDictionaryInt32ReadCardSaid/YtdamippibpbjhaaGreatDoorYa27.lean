import Derived.Test.YtdamippibpbjhaaGreatDoorYa26
import Derived.Laws.OwnMore
import Derived.Test.YtdamippibpbjhaaGreatDoorYa04
import Derived.Test.YtdamippibpbjhaaGreatDoorYa05
import Derived.Test.YtdamippibpbjhaaGreatDoorYa03
import Derived.Test.YtdamippibpbjhaaGreatDoorYa08
/-! Bits as bytes. -/
namespace Go.Proofs.YtdamippibpbjhaaGreatDoor
open Go.RowKit

theorem make_big {t e : TypeId} {z : Value} {b : Nat} (ht : Tryz.prog.underlying t = some (.slice e)) (hinfo : (Tryz.prog.info? e).map (fun i => (i.zero, i.size, i.bytes)) = some (some z, 1, b)) (hz1 : z.cells = #[z]) (hb : b ≤ 8) (n : Nat) (hn : n ≤ 100000) (w : World) :
    (Instr.makeSlice t (.int .i64 n) (.int .i64 n)).run Tryz.prog w = .ok (.slice (some ⟨w.heap.size, 0, none⟩) n n) (w.alloc (.cells (madeCells #[z] n) e)) := by
  obtain ⟨i, hi, hzz⟩ := Option.map_eq_some_iff.1 hinfo
  simp only [Prod.mk.injEq] at hzz
  obtain ⟨hz, hs, hb'⟩ := hzz
  have h1 : (i.bytes : Int) * (n : Int) ≤ 281474976710656 := by
    have h2 : i.bytes * n ≤ 8 * 100000 := Nat.mul_le_mul (by omega) hn
    have h3 : ((i.bytes * n : Nat) : Int) ≤ ((8 * 100000 : Nat) : Int) := Int.ofNat_le.2 h2
    rw [Int.natCast_mul] at h3
    omega
  have h := run_make (P := Tryz.prog) w t e i z ht hi hz .i64 .i64 n n (by omega) (by omega) h1 (by omega)
  simpa [hs, hz1] using h

theorem bnum_take (l : List Bool) (i : Nat) (h : i < l.length) : bnum (l.take (i + 1)) = bnum (l.take i) + 2 ^ i * (l[i]'h).toNat := by
  rw [List.take_succ_eq_append_getElem h, bnum_append]
  have : (l.take i).length = i := by simp; omega
  rw [this]
  simp [bnum]
theorem u8_or_pow (x r : Nat) (hx : x < 2 ^ r) (hr : r < 8) : bits .or .u8 (x : Int) ((2 : Int) ^ r % 256) = ((x + 2 ^ r : Nat) : Int) := by
  have key : ∀ r : Fin 8, ∀ x : Fin 256, x.val < 2 ^ r.val → bits .or .u8 ((x.val : Nat) : Int) ((2 : Int) ^ r.val % 256) = ((x.val + 2 ^ r.val : Nat) : Int) := by decide +kernel
  have h256 : x < 256 := Nat.lt_of_lt_of_le hx (Nat.pow_le_pow_right (by decide) (by omega : r ≤ 8))
  exact key ⟨r, hr⟩ ⟨x, h256⟩ hx
/-- A bit more: the bytes. -/
theorem byte_set (X i k : Nat) (hX : X < 2 ^ i) : (X + 2 ^ i) / 256 ^ k % 256 = if k = i / 8 then X / 256 ^ k % 256 + 2 ^ (i % 8) else X / 256 ^ k % 256 := by
  have e : 2 ^ i = 256 ^ (i / 8) * 2 ^ (i % 8) := by
    rw [show (256 : Nat) = 2 ^ 8 from rfl, ← Nat.pow_mul, ← Nat.pow_add]
    congr 1
    omega
  have h8 : 2 ^ (i % 8) ≤ 2 ^ 7 := Nat.pow_le_pow_right (by decide) (by omega)
  split
  · rename_i hk
    subst hk
    rw [e, Nat.add_mul_div_left _ _ (Nat.pow_pos (by decide))]
    have h1 : X / 256 ^ (i / 8) < 2 ^ (i % 8) := by
      rw [Nat.div_lt_iff_lt_mul (Nat.pow_pos (by decide)), Nat.mul_comm, ← e]
      exact hX
    have h2 : X / 256 ^ (i / 8) + 2 ^ (i % 8) < 256 := by omega
    rw [Nat.mod_eq_of_lt h2, Nat.mod_eq_of_lt (show X / 256 ^ (i / 8) < 256 by omega)]
  · rename_i hk
    by_cases hlt : k < i / 8
    · have e2 : 256 ^ (i / 8) = 256 ^ k * (256 * 256 ^ (i / 8 - k - 1)) := by
        rw [← Nat.pow_succ', ← Nat.pow_add]
        congr 1
        omega
      rw [e, e2, Nat.mul_assoc, Nat.add_mul_div_left _ _ (Nat.pow_pos (by decide)), Nat.mul_assoc, Nat.add_mul_mod_self_left]
    · have h2 : X + 2 ^ i < 256 ^ k := by
        have h3 : 2 ^ (i + 1) ≤ 256 ^ k := by
          rw [show (256 : Nat) = 2 ^ 8 from rfl, ← Nat.pow_mul]
          exact Nat.pow_le_pow_right (by decide) (by omega)
        rw [Nat.pow_succ] at h3
        omega
      rw [Nat.div_eq_of_lt h2, Nat.div_eq_of_lt (by omega)]
/-- i bits are packed into block pb. -/
def PkRel (w : World) (bl : List Bool) (pb i : Nat) (wr : World) : Prop :=
  Keep (fun b => b = pb) w wr ∧ ∃ cs, wr.heap[pb]? = some (.cells cs 5 (0, 0)) ∧ cs.size = (bl.length + 7) / 8 ∧ ∀ k, k < (bl.length + 7) / 8 → cs[k]? = some (.int .u8 (bnum (bl.take i) / 256 ^ k % 256 : Nat))

set_option maxRecDepth 100000 in
set_option maxHeartbeats 4000000 in
theorem packed_any (A : Option Addr) (bl : List Bool) (c : Nat) (w : World) (hlen : bl.length ≤ 70000) (hA : 0 < bl.length → ∃ gb ob, A = some ⟨gb, ob, none⟩ ∧ ∀ j (h : j < bl.length), w.cell? ⟨gb, ob + j, none⟩ = some (.bool (bl[j]'h))) :
    Calls Tryz.prog 37 #[.slice A bl.length c, .int .i64 0] w fun e w' => ∃ g cc, e = .returned (.slice (some ⟨g, 0, none⟩) (packB bl).length cc) ∧ OB w' w.heap.size (.slice (some ⟨g, 0, none⟩) (packB bl).length cc) (packB bl) ∧ Keep (fun _ => False) w w' := by
  have hmk := make_big (t := 31) (by kernel_rfl) info5 rfl (by omega) ((bl.length + 7) / 8) (by omega) w
  have hq : ((bl.length : Int) + 7) / 8 = (((bl.length + 7) / 8 : Nat) : Int) := by omega
  have hn0 : (0 : Int) ≤ (((bl.length + 7) / 8 : Nat) : Int) := by omega
  have hR0 : PkRel (w.alloc (.cells (madeCells #[.int .u8 0] ((bl.length + 7) / 8)) 5)) bl w.heap.size 0 (w.alloc (.cells (madeCells #[.int .u8 0] ((bl.length + 7) / 8)) 5)) :=
    ⟨Keep.refl _ _, _, blk_new w _, size_madeCells _ _, fun k hk => by
      rw [← Array.getElem?_toList, toList_madeCells_one]
      simp [bnum, hk]⟩
  obtain ⟨N, hN⟩ : ∃ N, N = (bl.length + 7) / 8 := ⟨_, rfl⟩
  rw [← hN] at hmk hq hn0 hR0
  have HN := Lib.hid hN
  have hkA : Keep (fun _ => False) w (w.alloc (.cells (madeCells #[.int .u8 0] N) 5)) := (Keep.refl _ w).alloc _
  clear hN
  go_enter Tryz.func37, Tryz.ntmps37
  go_wp2_with fail
  generalize w.alloc (.cells (madeCells #[.int .u8 0] N) 5) = w1 at *
  go_loopw [6, 7, 8, 18] (fun _ _ _ i wr => ∃ k : Nat, k ≤ bl.length ∧ i = .int .i64 k ∧ PkRel w1 bl w.heap.size k wr) (fun _ _ _ i _ => bl.length - (intOf i).toNat)
  case atStart => exact ⟨0, Nat.zero_le _, rfl, hR0⟩
  case round =>
    obtain ⟨k, hk, rfl, hkr, cs, hcs, hsz, hv⟩ := hrel
    clear hq hmk hR0
    by_cases h : k < bl.length
    · obtain ⟨gb, ob, rfl, hb⟩ := hA (by omega)
      have hgbl := World.block_lt_of_cell? w _ (hb 0 (by omega))
      have hbk : wr.cell? ⟨gb, ob + k, none⟩ = some (.bool (bl[k]'h)) := hkr.cell (hkA.cell (hb k h) (fun h => h)) (by show ¬ gb = w.heap.size; have : gb < w.heap.size := hgbl; omega)
      have hk0 : (0 : Int) ≤ (k : Int) := by omega
      have hk1 : (k : Int) < (bl.length : Int) := by omega
      have htk := bnum_take bl k h
      generalize bl[k]'h = bit at *
      cases bit
      · go_wp2_with fail
        go_roundw
        case rel =>
          refine ⟨k + 1, h, by go_num, hkr, cs, hcs, hsz, fun j hj => ?_⟩
          rw [hv j hj, htk]
          simp
        case measure => simp [intOf]; omega
      · have hkq : k / 8 < N := by have := HN.out; omega
        have hX := bnum_lt (bl.take k)
        rw [show (bl.take k).length = k by simp; omega] at hX
        have hor := u8_or_pow (bnum (bl.take k) / 256 ^ (k / 8) % 256) (k % 8) (by
          have h1 : bnum (bl.take k) / 256 ^ (k / 8) < 2 ^ (k % 8) := by
            rw [Nat.div_lt_iff_lt_mul (Nat.pow_pos (by decide)), show (256 : Nat) = 2 ^ 8 from rfl, ← Nat.pow_mul, ← Nat.pow_add]
            rw [show k % 8 + 8 * (k / 8) = k by omega]
            exact hX
          have h8 : 2 ^ (k % 8) ≤ 2 ^ 7 := Nat.pow_le_pow_right (by decide) (by omega)
          rw [Nat.mod_eq_of_lt (show bnum (bl.take k) / 256 ^ (k / 8) < 256 by omega)]
          exact h1) (by omega)
        have hcq : wr.cell? ⟨w.heap.size, k / 8, none⟩ = some (.int .u8 (bnum (bl.take k) / 256 ^ (k / 8) % 256 : Nat)) := by rw [blk_cell hcs]; exact hv _ (by rw [← HN.out]; exact hkq)
        have hfq := blk_frozen hcs (k / 8)
        have hkd : (k : Int) / 8 = ((k / 8 : Nat) : Int) := by omega
        have hkm : (k : Int) % 8 = ((k % 8 : Nat) : Int) := by omega
        obtain ⟨q, hq8⟩ : ∃ q, q = k / 8 := ⟨_, rfl⟩
        obtain ⟨r, hr8⟩ : ∃ r, r = k % 8 := ⟨_, rfl⟩
        rw [← hq8] at hkq hor hcq hfq hkd
        rw [← hr8] at hor hkm
        have hr7 : r < 8 := by omega
        have hq0 : (0 : Int) ≤ (q : Int) := by omega
        have hq1 : (q : Int) < (N : Int) := by omega
        have hr0 : (0 : Int) ≤ (r : Int) := by omega
        obtain ⟨x, hx⟩ : ∃ x : Nat, x = bnum (bl.take k) / 256 ^ q % 256 := ⟨_, rfl⟩
        rw [← hx] at hor hcq
        have HX := Lib.hid hx
        have HQ := Lib.hid hq8
        have HR := Lib.hid hr8
        have HT := Lib.hid htk
        have HV := Lib.hid hv
        clear hx hq8 hr8 htk hv
        go_wp2_with fail
        refine wp_region_mid 10 (by kernel_rfl) (by kernel_rfl) rfl ?_
        simp only [List.take_succ_cons, List.take_zero, List.drop_succ_cons, List.drop_zero]
        repeat (go_big_quiet_step (fail))
        refine wpQuiet_nil ?_
        rintro _ ⟨nq, rfl⟩
        go_wp2_with fail
        refine wpQuiet_nil ?_
        rintro _ ⟨nq2, rfl⟩
        go_wp2_with fail
        go_roundw
        case rel =>
          have hk1 : Keep (fun b => b = w.heap.size) w1 (((wr.drewN nq).setCell ⟨w.heap.size, q, none⟩ (.int .u8 (x + 2 ^ r : Nat))).drewN nq2) := (((hkr.drewN nq).setCell (p := ⟨w.heap.size, q, none⟩) (.inl rfl) _).drewN nq2)
          refine ⟨k + 1, h, by go_num, hk1, _, blk_drewN (blk_set (blk_drewN hcs nq) q _) nq2, by simpa using hsz, fun j hj => ?_⟩
          have hb := byte_set (bnum (bl.take k)) k j hX
          have hT := HT.out
          simp only [Bool.toNat_true, Nat.mul_one] at hT
          rw [hT, hb]
          by_cases e : j = q
          · subst e
            rw [Array.getElem?_setIfInBounds_self_of_lt (by rw [hsz, ← HN.out]; exact hkq), if_pos HQ.out, ← HX.out, ← HR.out]
            simp
          · rw [Array.getElem?_setIfInBounds_ne (fun h => e h.symm), if_neg (fun h => e (h.trans HQ.out.symm))]
            exact HV.out j hj
        case measure => simp [intOf]; omega
    · obtain rfl : k = bl.length := by omega
      go_wp2_with fail
      go_ret
      have hN := HN.out
      have hpl : (packB bl).length = N := by rw [packB_length, hN]
      rw [hpl]
      refine ⟨w.heap.size, N, rfl, ?_, hkA.step hkr (fun b hb => .inr (by rw [hb]; exact Nat.le_refl _))⟩
      unfold OB
      rw [hpl]
      refine ⟨by simp [nums, hpl], .inr ⟨w.heap.size, N, cs, rfl, Nat.le_refl _, hcs, Nat.le_refl _, by simp only [maxLen]; omega, by rw [hsz, hN]; omega, ?_⟩⟩
      apply List.ext_getElem?
      intro j
      by_cases hj : j < N
      · rw [List.getElem?_take_of_lt (by omega), Array.getElem?_toList, hv j (by rw [← hN]; exact hj), List.take_length, nums_get (by rw [hpl]; exact hj)]
        unfold packB
        rw [numB_getD _ _ _ (by rw [← hN]; exact hj)]
      · rw [List.getElem?_eq_none (by simp; omega), List.getElem?_eq_none (by simp [nums, hpl]; omega)]
end Go.Proofs.YtdamippibpbjhaaGreatDoor

/-! Rows of one's own beside each other; what the writer of a block holds; how long things are. -/
namespace Go.Proofs.YtdamippibpbjhaaGreatDoor
open Go.RowKit

def Ne (u v : Value) : Prop := ∀ g, u.ownBlock = some g → v.ownBlock ≠ some g
theorem Ne.symm {u v : Value} (h : Ne u v) : Ne v u := fun g h1 h2 => h g h2 h1
theorem Ne.nil (u : Value) : Ne u (.slice none 0 0) := fun g _ h => by cases h
theorem own_type {w : World} {base : Nat} {e : TypeId} {size n : Nat} {v : Value} {xs : List Value} (h : w.ownsRow base e size v n xs) (k : Nat) (hk : v.ownBlock = some k) : ∃ cells, w.heap[k]? = some (.cells cells e (0, 0)) := by
  rcases h.2 with ⟨rfl, _⟩ | ⟨g, cap, cur, rfl, hg, hh, r⟩
  · cases hk
  · cases hk
    exact ⟨cur, hh⟩
theorem Ne.types {w : World} {base b' : Nat} {e e' : TypeId} {n n' : Nat} {u v : Value} {xs ys : List Value} (h : w.ownsRow base e 1 u n xs) (h' : w.ownsRow b' e' 1 v n' ys) (he : e ≠ e') : Ne u v := fun g h1 h2 => by
  obtain ⟨c1, e1⟩ := own_type h g h1
  obtain ⟨c2, e2⟩ := own_type h' g h2
  exact blk_ne e1 e2 he rfl
/-- What an append leaves alone. -/
theorem ap_step {w0 wr wa w2 : World} {v v' : Value} {e : TypeId} {n : Nat} {xs : List Value} (hk : Keep (fun _ => False) w0 wr) (hA : Keep (fun _ => False) wr wa) (hown : wr.ownsRow w0.heap.size e 1 v n xs) (hg : wa.grownBy w2 v.ownBlock)
    (hat : v'.ownBlock = v.ownBlock ∨ v'.ownBlock = some wa.heap.size) :
    Keep (fun _ => False) w0 w2 ∧ (∀ e' u m ys, wr.ownsRow w0.heap.size e' 1 u m ys → Ne u v → w2.ownsRow w0.heap.size e' 1 u m ys ∧ Ne u v') ∧ (∀ (g : Nat) (cs : Array Value) (t : TypeId), wr.heap[g]? = some (Obj.cells cs t (0, 0)) → t ≠ e → w2.heap[g]? = some (Obj.cells cs t (0, 0))) := by
  refine ⟨own_after hk hA hown (Nat.le_refl _) hg, fun e' u m ys hu hne => ?_, fun g cs t hgc ht => ?_⟩
  · have h1 := ownsRow_keep hu hA (fun _ _ h => h)
    refine ⟨ownsRow_keep h1 (grown_keep hg) (fun g hg' e => hne g hg' e), fun g hg' e => ?_⟩
    rcases hat with h | h
    · rw [h] at e; exact hne g hg' e
    · rw [h] at e
      cases e
      have := (ownsRow_lt h1 _ hg').1
      omega
  · refine (grown_keep hg).blk (hA.blk hgc (fun h => h)) (fun e' => ?_)
    obtain ⟨c, hc⟩ := own_type hown g e'
    exact blk_ne hgc hc ht rfl

theorem OB.row {w : World} {base g c : Nat} {xs : List Int} (h : OB w base (.slice (some ⟨g, 0, none⟩) xs.length c) xs) : Row w .u8 g 0 xs := by
  rcases h.2 with ⟨h1, _⟩ | ⟨g', cap, cur, he, _, hg, _, _, hcs, ht⟩
  · cases h1
  · cases he
    intro j hj
    rw [blk_cell hg, Nat.zero_add]
    have h1 := congrArg (fun z => z[j]?) ht
    simp only [Nat.mul_one] at h1
    rw [List.getElem?_take_of_lt hj, Array.getElem?_toList, nums_get hj] at h1
    exact h1
theorem OB.either {w : World} {base : Nat} {v : Value} {xs : List Int} (h : OB w base v xs) : (v = .slice none 0 0 ∧ xs = []) ∨ ∃ g c, v = .slice (some ⟨g, 0, none⟩) xs.length c ∧ Row w .u8 g 0 xs := by
  rcases h.2 with ⟨h1, h2⟩ | ⟨g, cap, cur, rfl, h3⟩
  · exact .inl ⟨h1, List.length_eq_zero_iff.1 h2⟩
  · exact .inr ⟨g, cap, rfl, OB.row h⟩
theorem OB.parts {w : World} {base : Nat} {v : Value} {xs : List Int} (h : OB w base v xs) (h0 : 0 < xs.length) : ∃ g c, v = .slice (some ⟨g, 0, none⟩) xs.length c ∧ Row w .u8 g 0 xs := by
  rcases h.either with ⟨_, h1⟩ | h1
  · rw [h1] at h0; exact absurd h0 (by simp)
  · exact h1
theorem OB.lower {w : World} {base base' : Nat} {v : Value} {xs : List Int} (h : OB w base v xs) (hb : base' ≤ base) : OB w base' v xs := by
  refine ⟨h.1, h.2.imp (fun h => h) ?_⟩
  rintro ⟨g, c, cur, e1, e2, e3⟩
  exact ⟨g, c, cur, e1, by omega, e3⟩
theorem OB.ne {w w' : World} {base : Nat} {u v : Value} {xs ys : List Int} (h : OB w base u xs) (h' : OB w' w.heap.size v ys) : Ne u v := fun g h1 h2 => by
  have := (ownsRow_lt h g h1).1
  have := (ownsRow_lt h' g h2).2
  omega
/-- Bytes of one row, appended to another: what comes of it. -/
theorem OB.join {w0 wr w2 : World} {u v' : Value} {xs ys : List Int} (hk : Keep (fun _ => False) w0 wr) (hu : OB wr w0.heap.size u xs) (hown : w2.ownsRow w0.heap.size 5 1 v' (xs.length + ys.length) (nums .u8 xs ++ nums .u8 ys)) (hg : wr.grownBy w2 u.ownBlock)
    (hat : v'.ownBlock = u.ownBlock ∨ v'.ownBlock = some wr.heap.size) : OB w2 w0.heap.size v' (xs ++ ys) ∧ Keep (fun _ => False) w0 w2 ∧ (∀ e' u' m zs, wr.ownsRow w0.heap.size e' 1 u' m zs → Ne u' u → w2.ownsRow w0.heap.size e' 1 u' m zs ∧ Ne u' v') ∧
      (∀ (g : Nat) (cs : Array Value) (t : TypeId), wr.heap[g]? = some (Obj.cells cs t (0, 0)) → t ≠ 5 → w2.heap[g]? = some (Obj.cells cs t (0, 0))) := by
  obtain ⟨h1, h2, h3⟩ := ap_step hk (Keep.refl _ wr) hu hg hat
  exact ⟨OB.snoc hown rfl, h1, h2, h3⟩
theorem Row.src0 {w : World} {k : IntKind} {g : Nat} {xs : List Int} (h : Row w k g 0 xs) : ∀ j v, (nums k xs)[j]? = some v → w.cell? ((⟨g, 0, none⟩ : Addr).add j) = some v := h.src
theorem nums_ones (k : IntKind) (xs : List Int) : ∀ u ∈ nums k xs, u.oneCell' = true := nums_one k xs

/-- What the writer of a block holds: the bytes so far, the widths, the bodies; the settings and the deltas. -/
structure Hold (w wx : World) (bcs : Array Value) (g10 : Nat) (cs10 : Array Value) (v7 v15 v16 : Value) (xo xw xb : List Int) : Prop where
  fo : OB wx w.heap.size v7 xo
  fw : OB wx w.heap.size v15 xw
  fb : OB wx w.heap.size v16 xb
  n1 : Ne v7 v15
  n2 : Ne v7 v16
  n3 : Ne v15 v16
  k : Keep (fun _ => False) w wx
  bb : wx.heap[w.heap.size]? = some (.cells bcs 24 (0, 0))
  ds : wx.heap[g10]? = some (.cells cs10 2 (0, 0))
section
variable {w wx wy wa w2 : World} {bcs : Array Value} {g10 : Nat} {cs10 : Array Value} {v7 v15 v16 v v' : Value} {xo xw xb : List Int}
theorem Hold.keep (h : Hold w wx bcs g10 cs10 v7 v15 v16 xo xw xb) (hk : Keep (fun _ => False) wx wy) : Hold w wy bcs g10 cs10 v7 v15 v16 xo xw xb :=
  ⟨h.fo.keep hk (fun _ _ h => h), h.fw.keep hk (fun _ _ h => h), h.fb.keep hk (fun _ _ h => h), h.n1, h.n2, h.n3, h.k.trans hk, hk.blk h.bb (fun h => h), hk.blk h.ds (fun h => h)⟩
theorem Hold.apW {x : Int} (h : Hold w wx bcs g10 cs10 v7 v15 v16 xo xw xb) (hA : Keep (fun _ => False) wx wa) (hown2 : w2.ownsRow w.heap.size 5 1 v' (xw.length + 1) (nums .u8 xw ++ [.int .u8 x])) (hg : wa.grownBy w2 v15.ownBlock)
    (hat : v'.ownBlock = v15.ownBlock ∨ v'.ownBlock = some wa.heap.size) : Hold w w2 bcs g10 cs10 v7 v' v16 xo (xw ++ [x]) xb := by
  obtain ⟨z1, z2, z3⟩ := ap_step h.k hA h.fw hg hat
  have a7 := z2 5 v7 _ _ h.fo h.n1
  have a16 := z2 5 v16 _ _ h.fb h.n3.symm
  exact ⟨a7.1, OB.snoc (ys := [x]) hown2 rfl, a16.1, a7.2, h.n2, a16.2.symm, z1, z3 _ _ _ h.bb (by decide), z3 _ _ _ h.ds (by decide)⟩
theorem Hold.apB {ys : List Int} (h : Hold w wx bcs g10 cs10 v7 v15 v16 xo xw xb) (hown2 : w2.ownsRow w.heap.size 5 1 v' (xb.length + ys.length) (nums .u8 xb ++ nums .u8 ys)) (hg : wx.grownBy w2 v16.ownBlock)
    (hat : v'.ownBlock = v16.ownBlock ∨ v'.ownBlock = some wx.heap.size) : Hold w w2 bcs g10 cs10 v7 v15 v' xo xw (xb ++ ys) := by
  obtain ⟨z1, z2, z3⟩ := ap_step h.k (Keep.refl _ wx) h.fb hg hat
  have a7 := z2 5 v7 _ _ h.fo h.n2
  have a15 := z2 5 v15 _ _ h.fw h.n3
  exact ⟨a7.1, a15.1, OB.snoc hown2 rfl, h.n1, a7.2, a15.2, z1, z3 _ _ _ h.bb (by decide), z3 _ _ _ h.ds (by decide)⟩
theorem Hold.apO {ys : List Int} (h : Hold w wx bcs g10 cs10 v7 v15 v16 xo xw xb) (hown2 : w2.ownsRow w.heap.size 5 1 v' (xo.length + ys.length) (nums .u8 xo ++ nums .u8 ys)) (hg : wx.grownBy w2 v7.ownBlock)
    (hat : v'.ownBlock = v7.ownBlock ∨ v'.ownBlock = some wx.heap.size) : Hold w w2 bcs g10 cs10 v' v15 v16 (xo ++ ys) xw xb := by
  obtain ⟨z1, z2, z3⟩ := ap_step h.k (Keep.refl _ wx) h.fo hg hat
  have a15 := z2 5 v15 _ _ h.fw h.n1.symm
  have a16 := z2 5 v16 _ _ h.fb h.n2.symm
  exact ⟨OB.snoc hown2 rfl, a15.1, a16.1, a15.2.symm, a16.2.symm, h.n3, z1, z3 _ _ _ h.bb (by decide), z3 _ _ _ h.ds (by decide)⟩
theorem Hold.apT {n : Nat} {xs : List Value} (h : Hold w wx bcs g10 cs10 v7 v15 v16 xo xw xb) (hA : Keep (fun _ => False) wx wa) (hown : wx.ownsRow w.heap.size 4 1 v n xs) (hg : wa.grownBy w2 v.ownBlock)
    (hat : v'.ownBlock = v.ownBlock ∨ v'.ownBlock = some wa.heap.size) : Hold w w2 bcs g10 cs10 v7 v15 v16 xo xw xb := by
  obtain ⟨z1, z2, z3⟩ := ap_step h.k hA hown hg hat
  exact ⟨(z2 5 v7 _ _ h.fo (Ne.types h.fo hown (by decide))).1, (z2 5 v15 _ _ h.fw (Ne.types h.fw hown (by decide))).1, (z2 5 v16 _ _ h.fb (Ne.types h.fb hown (by decide))).1, h.n1, h.n2, h.n3, z1, z3 _ _ _ h.bb (by decide), z3 _ _ _ h.ds (by decide)⟩
end
theorem deltas_blk {w : World} {base n : Nat} {v : Value} {xs : List Int} (h : w.ownsRow base 2 1 v n (nums .i64 xs)) (h0 : 0 < n) (hn : xs.length = n) : ∃ g c cs, v = .slice (some ⟨g, 0, none⟩) n c ∧ n ≤ c ∧ c ≤ maxLen ∧ w.heap[g]? = some (.cells cs 2 (0, 0)) ∧ ∀ i, i < n → cs[i]? = some (.int .i64 (xs.getD i 0)) := by
  rcases h.2 with ⟨_, h1⟩ | ⟨g, cap, cur, rfl, _, hg, hc, hc2, hcs, ht⟩
  · omega
  · refine ⟨g, cap, cur, rfl, hc, hc2, hg, fun i hi => ?_⟩
    have h1 := congrArg (fun z => z[i]?) ht
    simp only [Nat.mul_one] at h1
    rw [List.getElem?_take_of_lt hi, Array.getElem?_toList, nums_get (by omega)] at h1
    exact h1
/-- Bits as a row. -/
def bools (l : List Bool) : List Value := l.map Value.bool
theorem bools_length (l : List Bool) : (bools l).length = l.length := by simp [bools]
theorem bools_snoc (l : List Bool) (b : Bool) : bools (l ++ [b]) = bools l ++ [.bool b] := by simp [bools]
theorem bools_slice {w : World} {base : Nat} {v : Value} {bl : List Bool} (h : w.ownsRow base 4 1 v bl.length (bools bl)) : ∃ A c, v = .slice A bl.length c ∧ (0 < bl.length → ∃ gb ob, A = some ⟨gb, ob, none⟩ ∧ ∀ j (h : j < bl.length), w.cell? ⟨gb, ob + j, none⟩ = some (.bool (bl[j]'h))) := by
  rcases h.2 with ⟨rfl, h0⟩ | ⟨g, cap, cur, rfl, _, hg, _, _, hcs, ht⟩
  · exact ⟨none, 0, by rw [h0], fun h => absurd h (by omega)⟩
  · refine ⟨_, _, rfl, fun _ => ⟨g, 0, rfl, fun j hj => ?_⟩⟩
    rw [blk_cell hg, Nat.zero_add]
    have h1 := congrArg (fun z => z[j]?) ht
    simp only [Nat.mul_one] at h1
    rw [List.getElem?_take_of_lt hj, Array.getElem?_toList] at h1
    rw [h1]
    simp [bools, hj]
theorem info4 : (Tryz.prog.info? 4).map (fun i => (i.zero, i.size, i.bytes)) = some (some (.bool false), 1, 1) := by kernel_rfl

/-- What is packed, as the program finds it. -/
theorem vOf_mask (W : Nat) (hW : W = 32 ∨ W = 64) (z : Int) : bits .and .u64 (IntKind.u64.wrap (wrap64 z)) (2 ^ W - 1) = (((z % 2 ^ W).toNat : Nat) : Int) := by
  have hb : IntKind.u64.wrap (wrap64 z) = z % 18446744073709551616 := by simp only [wrap64, IntKind.wrap_u64]; omega
  rw [hb, u64_mask W (by omega) (by omega) (by omega)]
  rcases hW with rfl | rfl
  · rw [show (2 : Int) ^ 32 = 4294967296 by decide]; omega
  · rw [show (2 : Int) ^ 64 = 18446744073709551616 by decide]; omega
theorem vOf_lt64 (W : Nat) (hW : W = 32 ∨ W = 64) (least d : Int) : vOf W least d < 18446744073709551616 :=
  Nat.lt_of_lt_of_le (vOf_lt W least d) (Nat.pow_le_pow_right (by decide : 0 < 2) (by omega : W ≤ 64))
theorem bit_and (v j : Nat) (hv : v < 18446744073709551616) : bits .and .u64 ((v : Int) / 2 ^ j) 1 = ((v / 2 ^ j % 2 : Nat) : Int) := by
  have e : (v : Int) / 2 ^ j = ((v / 2 ^ j : Nat) : Int) := by simp
  have h : v / 2 ^ j ≤ v := Nat.div_le_self _ _
  rw [e]
  generalize v / 2 ^ j = q at *
  rw [u64_and1 (by omega) (by omega)]
  omega

theorem lebB_length10 (v : Nat) : (lebB 10 v).length ≤ 10 := by
  have key : ∀ f v, (lebB f v).length ≤ f := fun f => by
    induction f with
    | zero => intro v; simp [lebB]
    | succ f ih => intro v; unfold lebB; split; simp; simp; exact ih _
  exact key 10 v
theorem nbits_le : ∀ f v, nbits f v ≤ f
  | 0, _ => by simp [nbits]
  | f + 1, v => by
    unfold nbits
    split
    · omega
    · have := nbits_le f (v / 2); omega
theorem mostOf_le (W : Nat) (l : List Int) (least : Int) (a : Nat) : ∀ m, mostOf W l least a m ≤ 64
  | 0 => by simp [mostOf]
  | m + 1 => by
    have := mostOf_le W l least a m
    have := nbits_le 64 (vOf W least (dlt W l (a + m)))
    rw [mostOf]
    omega
theorem Way.wd_le (y : Way) (hW : y.W ≤ 64) (ho : y.odd ≤ 64) (l : List Int) (a m j : Nat) : y.wd l a m j ≤ 64 := by
  unfold Way.wd
  split <;> omega
theorem Way.body_le (y : Way) (hW : y.W ≤ 64) (ho : y.odd ≤ 64) (hn : y.n ≤ 1024) (l : List Int) (a m j : Nat) : (y.body l a m j).length ≤ 8192 := by
  unfold Way.body
  split
  · simp
  · rw [packB_length, valBits_length]
    have h1 := y.wd_le hW ho l a m j
    have : y.n * y.wd l a m j ≤ 1024 * 64 := Nat.mul_le_mul hn h1
    omega
theorem Way.bodies_le (y : Way) (hW : y.W ≤ 64) (ho : y.odd ≤ 64) (hn : y.n ≤ 1024) (l : List Int) (a m : Nat) : ∀ j, (y.bodies l a m j).length ≤ 8192 * j
  | 0 => by simp [Way.bodies]
  | j + 1 => by
    have h1 := y.bodies_le hW ho hn l a m j
    have h2 := y.body_le hW ho hn l a m j
    rw [Way.bodies, List.length_append]
    omega
theorem Way.put_le (y : Way) (hW : y.W ≤ 64) (ho : y.odd ≤ 64) (hn : y.n ≤ 1024) (hM : y.M ≤ 1024) (l : List Int) : ∀ k, (y.put l k).length ≤ 40 + 10000000 * k
  | 0 => by
    have h1 := lebB_length10 y.S
    have h2 := lebB_length10 y.M
    have h3 := lebB_length10 l.length
    have h4 := lebB_length10 (zg (l.getD 0 0)).toNat
    simp only [Way.put, Way.head, List.length_append]
    omega
  | k + 1 => by
    have h0 := y.put_le hW ho hn hM l k
    have h1 := lebB_length10 (zg (leastOf y.W l (k * y.S) (min y.S (l.length - 1 - k * y.S)))).toNat
    have h2 := y.widths_length l (k * y.S) (min y.S (l.length - 1 - k * y.S)) y.M
    have h3 := y.bodies_le hW ho hn l (k * y.S) (min y.S (l.length - 1 - k * y.S)) y.M
    simp only [Way.put, Way.block, Way.lebL, List.length_append]
    omega
end Go.Proofs.YtdamippibpbjhaaGreatDoor

/-! Bytes are copied; values are made of texts. -/
namespace Go.Proofs.YtdamippibpbjhaaGreatDoor
open Go.RowKit

set_option maxRecDepth 100000 in
set_option maxHeartbeats 4000000 in
theorem copied42 (g o c : Nat) (xs : List Int) (w : World) (h0 : 0 < xs.length) (h9 : xs.length ≤ 100000000) (hrow : Row w .u8 g o xs) : Calls Tryz.prog 42 #[.slice (some ⟨g, o, none⟩) xs.length c] w fun e w' =>
    ∃ v, e = .returned v ∧ OB w' w.heap.size v xs ∧ Keep (fun _ => False) w w' := by
  obtain ⟨i5, hi5, hi5z⟩ := Option.map_eq_some_iff.1 info5
  simp only [Prod.mk.injEq] at hi5z
  obtain ⟨hz1, hz2, hz3⟩ := hi5z
  have hnew := blk_new w (.cells #[] 5)
  have hkA : Keep (fun _ => False) w (w.alloc (.cells #[] 5)) := (Keep.refl _ w).alloc _
  have hown : (w.alloc (.cells #[] 5)).ownsRow w.heap.size 5 1 (.slice (some ⟨w.heap.size, 0, none⟩) 0 0) 0 [] := ⟨rfl, .inr ⟨w.heap.size, 0, #[], rfl, Nat.le_refl _, hnew, Nat.le_refl _, by simp only [maxLen]; omega, rfl, rfl⟩⟩
  have hrow1 := hrow.keep hkA (fun h => h)
  have hb1 := hkA.size
  go_enter Tryz.func42, Tryz.ntmps42
  go_wp2_with (first | (at_builtin; refine wpList_append_own_at _ rfl _ _ _ rfl w.heap.size 5 i5 (.int .u8 0) 1 1 (by kernel_rfl) hi5 hz1 hz2 hz3 rfl (by omega) (.slice (some ⟨w.heap.size, 0, none⟩) 0 0) 0 [] rfl hown ⟨g, o, none⟩ xs.length c (nums .u8 xs) rfl (by simp) hrow1.src (nums_ones _ _) (by simp only [maxLen]; omega) (by omega) hb1 ?_))
  intro v' w2 hown3 hgrow _ hat3
  go_wp2_with fail
  go_ret
  refine ⟨v', rfl, hown3, hkA.step (grown_keep hgrow) (fun b hb => .inr ?_)⟩
  cases hb
  exact Nat.le_refl _
end Go.Proofs.YtdamippibpbjhaaGreatDoor

/-! Two and three whole bytes off a bit reader. -/
namespace Go.Proofs.YtdamippibpbjhaaGreatDoor
open Go.RowKit

@[go_sem] theorem arr239 : Tryz.prog.arrayLen 239 = 8 := by kernel_rfl
set_option maxRecDepth 100000 in
theorem set0_any (p : Addr) (c : Nat) (w : World) : Calls Tryz.prog 173 #[.slice (some p) 0 c, .int .u8 0] w fun e w' => e = .returned (.tuple #[]) ∧ w' = w := by
  have H : Hid (Calls Tryz.prog 217 #[.slice (some p) 0 c, .int .u8 0] w fun e w' => e = .returned (.tuple #[]) ∧ w' = w) := by
    show Calls _ _ _ _ _
    go_enter Tryz.func217, Tryz.ntmps217
    go_wp2_with fail
    go_loopw [4] (fun i wr => i = .int .i64 0 ∧ wr = w) (fun _ _ => 0)
    case atStart => exact ⟨rfl, rfl⟩
    case round =>
      obtain ⟨rfl, rfl⟩ := hrel
      go_wp2_with fail
      go_end0
      exact ⟨rfl, rfl⟩
  go_enter Tryz.func173, Tryz.ntmps173
  go_wp2_with fail
  refine H.out.mono ?_
  rintro e w1 ⟨rfl, hw⟩
  have hw' := hw.symm
  clear hw
  subst hw'
  go_wp2_with fail
  go_end0
  exact ⟨rfl, rfl⟩
set_option maxRecDepth 100000 in
theorem set1_any (b o c : Nat) (cs : Array Value) (t : TypeId) (w : World) (hb : w.heap[b]? = some (.cells cs t (0, 0))) (ho : o < cs.size) : Calls Tryz.prog 173 #[.slice (some ⟨b, o, none⟩) 1 c, .int .u8 0] w fun e w' => e = .returned (.tuple #[]) ∧ w' = w.setCell ⟨b, o, none⟩ (.int .u8 0) := by
  have hc : w.cell? ⟨b, o, none⟩ = some (cs[o]'ho) := by rw [blk_cell hb]; simp
  have hf := blk_frozen hb
  have H : Hid (Calls Tryz.prog 217 #[.slice (some ⟨b, o, none⟩) 1 c, .int .u8 0] w fun e w' => e = .returned (.tuple #[]) ∧ w' = w.setCell ⟨b, o, none⟩ (.int .u8 0)) := by
    show Calls _ _ _ _ _
    go_enter Tryz.func217, Tryz.ntmps217
    go_wp2_with fail
    go_loopw [4] (fun i wr => (i = .int .i64 0 ∧ wr = w) ∨ (i = .int .i64 1 ∧ wr = w.setCell ⟨b, o, none⟩ (.int .u8 0))) (fun i _ => 1 - (intOf i).toNat)
    case atStart => exact .inl ⟨rfl, rfl⟩
    case round =>
      rcases hrel with ⟨rfl, rfl⟩ | ⟨rfl, rfl⟩
      · go_wp2_with fail
        go_roundw
        case rel => exact .inr ⟨rfl, trivial⟩
        case measure => simp [intOf]
      · go_wp2_with fail
        go_end0
        exact ⟨rfl, rfl⟩
  go_enter Tryz.func173, Tryz.ntmps173
  go_wp2_with fail
  refine H.out.mono ?_
  rintro e w1 ⟨rfl, hw⟩
  have hw' := hw.symm
  clear hw
  subst hw'
  go_wp2_with fail
  go_end0
  exact ⟨rfl, rfl⟩
set_option maxHeartbeats 8000000 in
set_option maxRecDepth 100000 in
theorem leU16_any (g o n c : Nat) (x0 x1 : Int) (w : World) (hn : 2 ≤ n) (r0 : 0 ≤ x0 ∧ x0 < 256) (r1 : 0 ≤ x1 ∧ x1 < 256)
    (c0 : w.cell? ⟨g, o, none⟩ = some (.int .u8 x0)) (c1 : w.cell? ⟨g, o + 1, none⟩ = some (.int .u8 x1)) :
    Calls Tryz.prog 175 #[.agg #[], .slice (some ⟨g, o, none⟩) n c] w fun e w' =>
      e = .returned (.int .u16 (x0 + x1 * 256)) ∧ Keep (fun _ => False) w w' := by
  obtain ⟨l0, h0⟩ := r0; obtain ⟨l1, h1⟩ := r1
  have d0 := alloc_cell c0 (.cells #[] 331)
  have d1 := alloc_cell c1 (.cells #[] 331)
  have q0 : 0 < n := by omega
  have q1 : (1 : Int) < (n : Int) := by omega
  go_enter Tryz.func175, Tryz.ntmps175
  go_wp2
  go_quiet (fail)
  go_wp2
  go_ret
  refine ⟨?_, (((Keep.refl _ w).alloc _)).drewN _⟩
  simp (disch := omega) only [u16_or8]
  rfl

set_option maxRecDepth 100000 in
set_option maxHeartbeats 2000000 in
theorem getU16_any (E : Env) (w : World) (hW : E.Wf) (hS : Src E w) (vk : Nat) (x0 : Int) (off bo : Nat) (buf vb : Int) (hbo : bo ≤ 64) (hb : BR E w off bo buf vb)
    (hv : w.heap[vk]? = some (.cells #[.int .u16 x0] 186 (0, 0))) (n1 : vk ≠ E.b) (n2 : vk ≠ E.rb) (n3 : vk ≠ E.g) (n4 : vk ≠ 2) (hlt : off + (bo + 7) / 8 + 1 < E.D.length) :
    Calls Tryz.prog 155 #[.pointer (some ⟨E.b, 0, none⟩), .int .i64 2, .pointer (some ⟨vk, 0, none⟩)] w fun e w' =>
      e = .returned (.bool true) ∧ Keep (fun k => k = E.b ∨ k = vk) w w' ∧ BR E w' ((off + (bo + 7) / 8 + 2 : Nat) : Int) 0 (le64 E.D (off + (bo + 7) / 8 + 2)) ((min 8 (E.D.length - (off + (bo + 7) / 8 + 2)) : Nat) * 8) ∧
      w'.heap[vk]? = some (.cells #[.int .u16 (E.D.getD (off + (bo + 7) / 8) 0 + E.D.getD (off + (bo + 7) / 8 + 1) 0 * 256)] 186 (0, 0)) := by
  obtain ⟨cs, hcs, hB⟩ := hb
  have hcap := hW.cap
  have hc := blk_cell hcs
  have hf := blk_frozen hcs
  have c0 := hB.c0
  have c2 := hB.c2
  have c3 := hB.c3
  obtain ⟨q, Hq⟩ : ∃ q : Nat, Hid (q = (bo + 7) / 8) := ⟨_, rfl⟩
  have hq : ((bo : Int) + 7) / 8 = q := by rw [Hq.out]; omega
  have hq9 : q ≤ 9 := by rw [Hq.out]; omega
  rw [← Hq.out] at hlt ⊢
  obtain ⟨y0, Hy0⟩ : ∃ x : Int, Hid (x = E.D.getD (off + q) 0) := ⟨_, rfl⟩
  rw [← Hy0.out]
  obtain ⟨y1, Hy1⟩ : ∃ x : Int, Hid (x = E.D.getD (off + q + 1) 0) := ⟨_, rfl⟩
  rw [← Hy1.out]
  have HB := Lib.hid (bytesForBits_any (bo : Int) w (by omega) (by omega))
  rw [hq] at HB
  clear hq
  go_enter Tryz.func155, Tryz.ntmps155
  go_wp2_with fail
  refine HB.out.mono ?_
  rintro e w' ⟨rfl, rfl⟩
  go_wp2_with fail
  have hk1 : Keep (fun k => k = E.b ∨ k = vk) w (w.setCell ⟨E.b, 2, none⟩ (.int .i64 ((off : Int) + q))) := (Keep.refl _ w).setCell (.inl (.inl rfl)) _
  have hcs1 := blk_set hcs 2 (.int .i64 ((off : Int) + q))
  have hB1 := hB.set2 ((off : Int) + q)
  have hv1 := blk_far hv (p := ⟨E.b, 2, none⟩) (fun e => n1 e.symm) (.int .i64 ((off : Int) + q))
  have hS1 := hS.keepB hW ((Keep.refl (fun k => k = E.b) w).setCell (p := ⟨E.b, 2, none⟩) (.inl rfl) (.int .i64 ((off : Int) + q)))
  clear hc hf c0 c2 c3 HB hcs hB hv
  generalize w.setCell ⟨E.b, 2, none⟩ (.int .i64 ((off : Int) + q)) = w1 at *
  generalize cs.setIfInBounds 2 (.int .i64 ((off : Int) + q)) = cs1 at *
  have hc := blk_cell hcs1
  have hf := blk_frozen hcs1
  have c0 := hB1.c0
  have c2 := hB1.c2
  have HR := Lib.hid (fun n => readAt_raw E (w1.drewN n) hW (hS1.keepB hW ((Keep.refl _ _).drewN n)) 2 (by omega) (off + q) bo buf vb ((off : Int) + q) ⟨cs1, hcs1, hB1⟩)
  refine wp_region_mid 15 (by kernel_rfl) (by kernel_rfl) rfl ?_
  simp only [List.take_succ_cons, List.take_zero, List.drop_succ_cons, List.drop_zero]
  repeat (go_big_quiet_step (fail))
  refine wpQuiet_nil ?_
  rintro _ ⟨nq, rfl⟩
  go_wp2_with fail
  refine (HR.out nq).mono ?_
  rintro e w2 ⟨⟨err, rfl, herr⟩, hk2, cs2, hcs2, hB2, hraw⟩
  have hmin : min 2 (E.D.length - (off + q)) = 2 := by omega
  rw [hmin]
  obtain rfl : err = .nilIface := by
    rcases herr with ⟨_, h⟩ | ⟨h, _⟩
    · omega
    · exact h
  have hr0 : cs2[5]? = some (.int .u8 y0) := by rw [Hy0.out]; exact hraw 0 (by omega)
  have hr1 : cs2[6]? = some (.int .u8 y1) := by rw [Hy1.out]; exact hraw 1 (by omega)
  have hS2 := (hS1.keepB hW ((Keep.refl _ _).drewN nq)).keepB hW hk2
  have hk2' : Keep (fun k => k = E.b ∨ k = vk) w w2 := (hk1.drewN nq).trans (hk2.mono fun k h => .inl h)
  have hv2 := hk2.blk (blk_drewN hv1 nq) n1
  clear hc hf c0 c2 HR hraw herr hmin hk1 hk2 hS1 hcs1 hB1 hv1
  have hc := blk_cell hcs2
  have hf := blk_frozen hcs2
  go_wp2_with fail
  repeat (go_big_quiet_step (fail))
  refine wpQuiet_nil ?_
  rintro _ ⟨nq2, rfl⟩
  have hk3 : Keep (fun k => k = E.b ∨ k = vk) w (w2.drewN nq2) := hk2'.drewN nq2
  have hcs3 := blk_drewN hcs2 nq2
  have hv3 := blk_drewN hv2 nq2
  have hS3 := hS2.keepB hW ((Keep.refl _ w2).drewN nq2)
  clear hk2' hcs2 hv2 hS2 hc hf
  generalize w2.drewN nq2 = w3 at *
  have hc := blk_cell hcs3
  have hf := blk_frozen hcs3
  have c8 := hB2.size
  have HSET := Lib.hid (set0_any ⟨E.b, 7, none⟩ 6 w3)
  clear c8
  go_wp2_with fail
  refine HSET.out.mono ?_
  rintro e w4 ⟨rfl, hw⟩
  have hk4 : Keep (fun k => k = E.b ∨ k = vk) w w4 := by rw [hw]; exact hk3
  have hcs4 : w4.heap[E.b]? = some (.cells cs2 245 (0, 0)) := by rw [hw]; exact hcs3
  have hv4 : w4.heap[vk]? = some (.cells #[.int .u16 x0] 186 (0, 0)) := by rw [hw]; exact hv3
  have hS4 : Src E w4 := by rw [hw]; exact hS3
  clear hw
  have hB4 := hB2
  clear hc hf hcs3 hv3 hk3 hB2 HSET
  have hc := blk_cell hcs4
  have hf := blk_frozen hcs4
  go_wp2_with fail
  refine wp_region_takes (by kernel_rfl) ?_
  have hk5 := hk4.drew
  have hcs5 : w4.drew.heap[E.b]? = _ := hcs4
  have hv5 : w4.drew.heap[vk]? = _ := hv4
  have hS5 : Src E w4.drew := hS4.keepB hW (Keep.refl _ w4).drew
  clear hk4 hcs4 hv4 hS4 hc hf
  generalize w4.drew = w5 at *
  have HU := Lib.hid (leU16_any E.b 5 2 8 y0 y1 w5 (by omega) (by rw [Hy0.out]; exact hW.byte _) (by rw [Hy1.out]; exact hW.byte _) ((blk_cell hcs5 5).trans hr0) ((blk_cell hcs5 6).trans hr1))
  refine wpAny_pure 0 (v := .pointer (some ⟨vk, 0, none⟩)) (by kernel_rfl) rfl rfl (fun _ _ _ h => h) (fun w' => by go_simp) ?_
  go_simp
  refine wpAny_pure 1 (v := .agg #[]) (by kernel_rfl) rfl rfl (fun _ _ _ h => h) (fun w' => by go_simp) ?_
  go_simp
  refine wpAny_pure 2 (v := .pointer (some ⟨E.b, 0, none⟩)) (by kernel_rfl) rfl rfl (fun _ _ _ h => h) (fun w' => by go_simp) ?_
  go_simp
  refine wpAny_pure 3 (v := .pointer (some ⟨E.b, 0, none⟩)) (by kernel_rfl) rfl rfl (fun _ _ _ h => h) (fun w' => by go_simp) ?_
  go_simp
  refine wpAny_pure 4 (v := .pointer (some ⟨E.b, 5, none⟩)) (by kernel_rfl) rfl rfl (fun _ _ _ h => h) (fun w' => by go_simp) ?_
  go_simp
  refine wpAny_pure 5 (v := .slice (some ⟨E.b, 5, none⟩) 2 8) (by kernel_rfl) rfl rfl (fun _ _ _ h => h) (fun w' => by go_simp) ?_
  go_simp
  refine wpAny_only 6 (by kernel_rfl) rfl ?_
  go_wp2_with fail
  refine HU.out.mono ?_
  rintro e w6 ⟨rfl, hk6⟩
  have hk7 := hk5.trans (hk6.mono (fun _ h => h.elim))
  have hcs7 := hk6.blk hcs5 (fun h => h)
  have hv7 := hk6.blk hv5 (fun h => h)
  have hS7 := hS5.keep hk6 (fun h => h) (fun h => h) (fun h => h)
  clear hk5 hk6 hcs5 hv5 hS5 HU
  have hc := blk_cell hcs7
  have hf := blk_frozen hcs7
  have hcv := blk_cell hv7
  have hfv := blk_frozen hv7
  have c2 := hB4.c2
  have c3 := hB4.c3
  go_wp2_with fail
  refine wpAny_only 7 (by kernel_rfl) rfl ?_
  go_wp2_with fail
  refine wpAny_only 8 (by kernel_rfl) rfl ?_
  go_wp2_with fail
  refine wpAny_stop (by kernel_rfl) ?_
  go_wp2_with fail
  have hS8 : Src E (((w6.setCell ⟨vk, 0, none⟩ (.int .u16 (y0 + y1 * 256))).setCell ⟨E.b, 2, none⟩ (.int .i64 ((off : Int) + q + 2))).setCell ⟨E.b, 3, none⟩ (.int .u64 0)) :=
    hS7.keep (S := fun k => k = E.b ∨ k = vk) ((((Keep.refl _ w6).setCell (p := ⟨vk, 0, none⟩) (.inl (.inr rfl)) _).setCell (p := ⟨E.b, 2, none⟩) (.inl (.inl rfl)) _).setCell (p := ⟨E.b, 3, none⟩) (.inl (.inl rfl)) _)
      (fun e => e.elim (fun e => hW.brb e.symm) (fun e => n2 e.symm)) (fun e => e.elim (fun e => hW.bg e.symm) (fun e => n3 e.symm)) (fun e => e.elim (fun e => hW.b2 e.symm) (fun e => n4 e.symm))
  have e1 : ((off + q + 2 : Nat) : Int) = (off : Int) + q + 2 := by omega
  refine (fill_any E _ hW hS8 (off + q + 2) 0 _ _ ⟨_, blk_set (blk_set (blk_far hcs7 (p := ⟨vk, 0, none⟩) n1 _) 2 _) 3 _, by rw [e1]; exact (hB4.set2 _).set3 0⟩).mono ?_
  rintro e w9 ⟨rfl, hk9, hB9⟩
  have hv9 := hk9.blk (blk_far (blk_far (blk_set hv7 0 (.int .u16 (y0 + y1 * 256))) (p := ⟨E.b, 2, none⟩) (fun e => n1 e.symm) (.int .i64 ((off : Int) + q + 2))) (p := ⟨E.b, 3, none⟩) (fun e => n1 e.symm) (.int .u64 0)) n1
  have hk10 := (((hk7.setCell (p := ⟨vk, 0, none⟩) (.inl (.inr rfl)) (.int .u16 (y0 + y1 * 256))).setCell (p := ⟨E.b, 2, none⟩) (.inl (.inl rfl)) (.int .i64 ((off : Int) + q + 2))).setCell (p := ⟨E.b, 3, none⟩) (.inl (.inl rfl)) (.int .u64 0)).trans (hk9.mono fun k h => .inl h)
  clear hc hf hcv hfv c2 c3 hcs7 hv7 hk7 hk9 hS7 hS8
  go_wp2_with fail
  go_ret
  exact ⟨rfl, hk10, hB9, hv9⟩

set_option maxRecDepth 100000 in
set_option maxHeartbeats 2000000 in
theorem getU24_any (E : Env) (w : World) (hW : E.Wf) (hS : Src E w) (vk : Nat) (x0 : Int) (off bo : Nat) (buf vb : Int) (hbo : bo ≤ 64) (hb : BR E w off bo buf vb)
    (hv : w.heap[vk]? = some (.cells #[.int .u32 x0] 183 (0, 0))) (n1 : vk ≠ E.b) (n2 : vk ≠ E.rb) (n3 : vk ≠ E.g) (n4 : vk ≠ 2) (hlt : off + (bo + 7) / 8 + 2 < E.D.length) :
    Calls Tryz.prog 154 #[.pointer (some ⟨E.b, 0, none⟩), .int .i64 3, .pointer (some ⟨vk, 0, none⟩)] w fun e w' =>
      e = .returned (.bool true) ∧ Keep (fun k => k = E.b ∨ k = vk) w w' ∧ BR E w' ((off + (bo + 7) / 8 + 3 : Nat) : Int) 0 (le64 E.D (off + (bo + 7) / 8 + 3)) ((min 8 (E.D.length - (off + (bo + 7) / 8 + 3)) : Nat) * 8) ∧
      w'.heap[vk]? = some (.cells #[.int .u32 (E.D.getD (off + (bo + 7) / 8) 0 + E.D.getD (off + (bo + 7) / 8 + 1) 0 * 256 + E.D.getD (off + (bo + 7) / 8 + 2) 0 * 65536)] 183 (0, 0)) := by
  obtain ⟨cs, hcs, hB⟩ := hb
  have hcap := hW.cap
  have hc := blk_cell hcs
  have hf := blk_frozen hcs
  have c0 := hB.c0
  have c2 := hB.c2
  have c3 := hB.c3
  obtain ⟨q, Hq⟩ : ∃ q : Nat, Hid (q = (bo + 7) / 8) := ⟨_, rfl⟩
  have hq : ((bo : Int) + 7) / 8 = q := by rw [Hq.out]; omega
  have hq9 : q ≤ 9 := by rw [Hq.out]; omega
  rw [← Hq.out] at hlt ⊢
  obtain ⟨y0, Hy0⟩ : ∃ x : Int, Hid (x = E.D.getD (off + q) 0) := ⟨_, rfl⟩
  rw [← Hy0.out]
  obtain ⟨y1, Hy1⟩ : ∃ x : Int, Hid (x = E.D.getD (off + q + 1) 0) := ⟨_, rfl⟩
  rw [← Hy1.out]
  obtain ⟨y2, Hy2⟩ : ∃ x : Int, Hid (x = E.D.getD (off + q + 2) 0) := ⟨_, rfl⟩
  rw [← Hy2.out]
  have HB := Lib.hid (bytesForBits_any (bo : Int) w (by omega) (by omega))
  rw [hq] at HB
  clear hq
  go_enter Tryz.func154, Tryz.ntmps154
  go_wp2_with fail
  refine HB.out.mono ?_
  rintro e w' ⟨rfl, rfl⟩
  go_wp2_with fail
  have hk1 : Keep (fun k => k = E.b ∨ k = vk) w (w.setCell ⟨E.b, 2, none⟩ (.int .i64 ((off : Int) + q))) := (Keep.refl _ w).setCell (.inl (.inl rfl)) _
  have hcs1 := blk_set hcs 2 (.int .i64 ((off : Int) + q))
  have hB1 := hB.set2 ((off : Int) + q)
  have hv1 := blk_far hv (p := ⟨E.b, 2, none⟩) (fun e => n1 e.symm) (.int .i64 ((off : Int) + q))
  have hS1 := hS.keepB hW ((Keep.refl (fun k => k = E.b) w).setCell (p := ⟨E.b, 2, none⟩) (.inl rfl) (.int .i64 ((off : Int) + q)))
  clear hc hf c0 c2 c3 HB hcs hB hv
  generalize w.setCell ⟨E.b, 2, none⟩ (.int .i64 ((off : Int) + q)) = w1 at *
  generalize cs.setIfInBounds 2 (.int .i64 ((off : Int) + q)) = cs1 at *
  have hc := blk_cell hcs1
  have hf := blk_frozen hcs1
  have c0 := hB1.c0
  have c2 := hB1.c2
  have HR := Lib.hid (fun n => readAt_raw E (w1.drewN n) hW (hS1.keepB hW ((Keep.refl _ _).drewN n)) 3 (by omega) (off + q) bo buf vb ((off : Int) + q) ⟨cs1, hcs1, hB1⟩)
  refine wp_region_mid 15 (by kernel_rfl) (by kernel_rfl) rfl ?_
  simp only [List.take_succ_cons, List.take_zero, List.drop_succ_cons, List.drop_zero]
  repeat (go_big_quiet_step (fail))
  refine wpQuiet_nil ?_
  rintro _ ⟨nq, rfl⟩
  go_wp2_with fail
  refine (HR.out nq).mono ?_
  rintro e w2 ⟨⟨err, rfl, herr⟩, hk2, cs2, hcs2, hB2, hraw⟩
  have hmin : min 3 (E.D.length - (off + q)) = 3 := by omega
  rw [hmin]
  obtain rfl : err = .nilIface := by
    rcases herr with ⟨_, h⟩ | ⟨h, _⟩
    · omega
    · exact h
  have hr0 : cs2[5]? = some (.int .u8 y0) := by rw [Hy0.out]; exact hraw 0 (by omega)
  have hr1 : cs2[6]? = some (.int .u8 y1) := by rw [Hy1.out]; exact hraw 1 (by omega)
  have hr2 : cs2[7]? = some (.int .u8 y2) := by rw [Hy2.out]; exact hraw 2 (by omega)
  have hS2 := (hS1.keepB hW ((Keep.refl _ _).drewN nq)).keepB hW hk2
  have hk2' : Keep (fun k => k = E.b ∨ k = vk) w w2 := (hk1.drewN nq).trans (hk2.mono fun k h => .inl h)
  have hv2 := hk2.blk (blk_drewN hv1 nq) n1
  clear hc hf c0 c2 HR hraw herr hmin hk1 hk2 hS1 hcs1 hB1 hv1
  have hc := blk_cell hcs2
  have hf := blk_frozen hcs2
  go_wp2_with fail
  repeat (go_big_quiet_step (fail))
  refine wpQuiet_nil ?_
  rintro _ ⟨nq2, rfl⟩
  have hk3 : Keep (fun k => k = E.b ∨ k = vk) w (w2.drewN nq2) := hk2'.drewN nq2
  have hcs3 := blk_drewN hcs2 nq2
  have hv3 := blk_drewN hv2 nq2
  have hS3 := hS2.keepB hW ((Keep.refl _ w2).drewN nq2)
  clear hk2' hcs2 hv2 hS2 hc hf
  generalize w2.drewN nq2 = w3 at *
  have hc := blk_cell hcs3
  have hf := blk_frozen hcs3
  have c8 := hB2.size
  have HSET := Lib.hid (set1_any E.b 8 5 cs2 245 w3 hcs3 (by omega))
  clear c8
  go_wp2_with fail
  refine HSET.out.mono ?_
  rintro e w4 ⟨rfl, hw⟩
  have hk4 : Keep (fun k => k = E.b ∨ k = vk) w w4 := by rw [hw]; exact hk3.setCell (p := ⟨E.b, 8, none⟩) (.inl (.inl rfl)) _
  have hcs4 : w4.heap[E.b]? = some (.cells (cs2.setIfInBounds 8 (.int .u8 0)) 245 (0, 0)) := by rw [hw]; exact blk_set hcs3 8 _
  have hv4 : w4.heap[vk]? = some (.cells #[.int .u32 x0] 183 (0, 0)) := by rw [hw]; exact blk_far hv3 (p := ⟨E.b, 8, none⟩) (fun e => n1 e.symm) (.int .u8 0)
  have hS4 : Src E w4 := by rw [hw]; exact hS3.keepB hW ((Keep.refl (fun k => k = E.b) w3).setCell (p := ⟨E.b, 8, none⟩) (.inl rfl) _)
  have hB4 := hB2.setRaw 3 (by omega) 0 (by omega)
  have r0 : (cs2.setIfInBounds 8 (.int .u8 0))[5]? = some (.int .u8 y0) := by rw [Array.getElem?_setIfInBounds_ne (by omega)]; exact hr0
  have r1 : (cs2.setIfInBounds 8 (.int .u8 0))[6]? = some (.int .u8 y1) := by rw [Array.getElem?_setIfInBounds_ne (by omega)]; exact hr1
  have r2 : (cs2.setIfInBounds 8 (.int .u8 0))[7]? = some (.int .u8 y2) := by rw [Array.getElem?_setIfInBounds_ne (by omega)]; exact hr2
  have r3 : (cs2.setIfInBounds 8 (.int .u8 0))[8]? = some (.int .u8 0) := by rw [Array.getElem?_setIfInBounds_self_of_lt (by have := hB2.size; omega)]
  clear hw hr0 hr1 hr2
  generalize cs2.setIfInBounds 8 (.int .u8 0) = cs4 at *
  clear hc hf hcs3 hv3 hk3 hB2 HSET
  have hc := blk_cell hcs4
  have hf := blk_frozen hcs4
  go_wp2_with fail
  refine wp_region_takes (by kernel_rfl) ?_
  have hk5 := hk4.drew
  have hcs5 : w4.drew.heap[E.b]? = _ := hcs4
  have hv5 : w4.drew.heap[vk]? = _ := hv4
  have hS5 : Src E w4.drew := hS4.keepB hW (Keep.refl _ w4).drew
  clear hk4 hcs4 hv4 hS4 hc hf
  generalize w4.drew = w5 at *
  have HU := Lib.hid (leU32_any E.b 5 4 8 y0 y1 y2 0 w5 (by omega) (by rw [Hy0.out]; exact hW.byte _) (by rw [Hy1.out]; exact hW.byte _) (by rw [Hy2.out]; exact hW.byte _) (by omega) ((blk_cell hcs5 5).trans r0) ((blk_cell hcs5 6).trans r1) ((blk_cell hcs5 7).trans r2) ((blk_cell hcs5 8).trans r3))
  refine wpAny_pure 0 (v := .pointer (some ⟨vk, 0, none⟩)) (by kernel_rfl) rfl rfl (fun _ _ _ h => h) (fun w' => by go_simp) ?_
  go_simp
  refine wpAny_pure 1 (v := .agg #[]) (by kernel_rfl) rfl rfl (fun _ _ _ h => h) (fun w' => by go_simp) ?_
  go_simp
  refine wpAny_pure 2 (v := .pointer (some ⟨E.b, 0, none⟩)) (by kernel_rfl) rfl rfl (fun _ _ _ h => h) (fun w' => by go_simp) ?_
  go_simp
  refine wpAny_pure 3 (v := .pointer (some ⟨E.b, 0, none⟩)) (by kernel_rfl) rfl rfl (fun _ _ _ h => h) (fun w' => by go_simp) ?_
  go_simp
  refine wpAny_pure 4 (v := .pointer (some ⟨E.b, 5, none⟩)) (by kernel_rfl) rfl rfl (fun _ _ _ h => h) (fun w' => by go_simp) ?_
  go_simp
  refine wpAny_pure 5 (v := .slice (some ⟨E.b, 5, none⟩) 4 8) (by kernel_rfl) rfl rfl (fun _ _ _ h => h) (fun w' => by go_simp) ?_
  go_simp
  refine wpAny_only 6 (by kernel_rfl) rfl ?_
  go_wp2_with fail
  refine HU.out.mono ?_
  rintro e w6 ⟨rfl, hk6⟩
  have hk7 := hk5.trans (hk6.mono (fun _ h => h.elim))
  have hcs7 := hk6.blk hcs5 (fun h => h)
  have hv7 := hk6.blk hv5 (fun h => h)
  have hS7 := hS5.keep hk6 (fun h => h) (fun h => h) (fun h => h)
  clear hk5 hk6 hcs5 hv5 hS5 HU
  have hc := blk_cell hcs7
  have hf := blk_frozen hcs7
  have hcv := blk_cell hv7
  have hfv := blk_frozen hv7
  have c2 := hB4.c2
  have c3 := hB4.c3
  go_wp2_with fail
  refine wpAny_only 7 (by kernel_rfl) rfl ?_
  go_wp2_with fail
  refine wpAny_only 8 (by kernel_rfl) rfl ?_
  go_wp2_with fail
  refine wpAny_stop (by kernel_rfl) ?_
  go_wp2_with fail
  have hS8 : Src E (((w6.setCell ⟨vk, 0, none⟩ (.int .u32 (y0 + y1 * 256 + y2 * 65536))).setCell ⟨E.b, 2, none⟩ (.int .i64 ((off : Int) + q + 3))).setCell ⟨E.b, 3, none⟩ (.int .u64 0)) :=
    hS7.keep (S := fun k => k = E.b ∨ k = vk) ((((Keep.refl _ w6).setCell (p := ⟨vk, 0, none⟩) (.inl (.inr rfl)) _).setCell (p := ⟨E.b, 2, none⟩) (.inl (.inl rfl)) _).setCell (p := ⟨E.b, 3, none⟩) (.inl (.inl rfl)) _)
      (fun e => e.elim (fun e => hW.brb e.symm) (fun e => n2 e.symm)) (fun e => e.elim (fun e => hW.bg e.symm) (fun e => n3 e.symm)) (fun e => e.elim (fun e => hW.b2 e.symm) (fun e => n4 e.symm))
  have e1 : ((off + q + 3 : Nat) : Int) = (off : Int) + q + 3 := by omega
  refine (fill_any E _ hW hS8 (off + q + 3) 0 _ _ ⟨_, blk_set (blk_set (blk_far hcs7 (p := ⟨vk, 0, none⟩) n1 _) 2 _) 3 _, by rw [e1]; exact (hB4.set2 _).set3 0⟩).mono ?_
  rintro e w9 ⟨rfl, hk9, hB9⟩
  have hv9 := hk9.blk (blk_far (blk_far (blk_set hv7 0 (.int .u32 (y0 + y1 * 256 + y2 * 65536))) (p := ⟨E.b, 2, none⟩) (fun e => n1 e.symm) (.int .i64 ((off : Int) + q + 3))) (p := ⟨E.b, 3, none⟩) (fun e => n1 e.symm) (.int .u64 0)) n1
  have hk10 := (((hk7.setCell (p := ⟨vk, 0, none⟩) (.inl (.inr rfl)) (.int .u32 (y0 + y1 * 256 + y2 * 65536))).setCell (p := ⟨E.b, 2, none⟩) (.inl (.inl rfl)) (.int .i64 ((off : Int) + q + 3))).setCell (p := ⟨E.b, 3, none⟩) (.inl (.inl rfl)) (.int .u64 0)).trans (hk9.mono fun k h => .inl h)
  clear hc hf hcv hfv c2 c3 hcs7 hv7 hk7 hk9 hS7 hS8
  go_wp2_with fail
  go_ret
  exact ⟨rfl, hk10, hB9, hv9⟩
end Go.Proofs.YtdamippibpbjhaaGreatDoor

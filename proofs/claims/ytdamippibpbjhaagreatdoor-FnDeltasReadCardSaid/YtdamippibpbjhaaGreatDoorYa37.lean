import Derived.Test.YtdamippibpbjhaaGreatDoorYa16
/-! The decoder takes its bytes: numbers of 32 bits. (Written by tools/sd.py.) -/
namespace Go.Proofs.YtdamippibpbjhaaGreatDoor
open Go.RowKit

set_option maxRecDepth 100000 in
set_option maxHeartbeats 8000000 in
theorem setData32 (db g o len cap n : Nat) (D : List Int) (eof : Addr) (w : World) (hlen : D.length = len) (hcap : len ≤ cap) (hmax : len ≤ 140737488351232) (hD : Bytes D) (hrow : Row w .u8 g o D) (hg : g < w.heap.size) (h2 : 2 < w.heap.size)
    (heof : w.cell? ⟨2, 0, none⟩ = some (.iface 226 (.pointer (some eof)))) (hdb : w.heap[db]? = some (.cells DV.fresh.cells 218 (0, 0))) (hgd : db ≠ g) (hd2 : db ≠ 2)
    (n1 n2 n3 n4 : Nat) (bs mpb tv zv : Int) (l1 : Leb D 0 n1 bs) (l2 : Leb D (n1 + 1) n2 mpb) (l3 : Leb D (n1 + 1 + n2 + 1) n3 tv) (l4 : Leb D (n1 + 1 + n2 + 1 + n3 + 1) n4 zv)
    (b1 : 128 ≤ bs ∧ bs ≤ 1024 ∧ bs % 128 = 0) (b2 : 1 ≤ mpb ∧ mpb ≤ 32 ∧ bs % mpb = 0) (b3 : 32 ≤ bs / mpb ∧ bs / mpb ≤ 1024 ∧ bs / mpb % 32 = 0) (b4 : tv ≤ n) (hn : n ≤ 2000) (hz0 : -2147483648 ≤ unzz zv) (hz1 : unzz zv ≤ 2147483647) :
    Calls Tryz.prog 80 #[.pointer (some ⟨db, 0, none⟩), .int .i64 n, .slice (some ⟨g, o, none⟩) len cap] w fun e w' =>
      e = .returned .nilIface ∧ Keep (fun k => k = db) w w' ∧ ∃ E mb, E.Wf ∧ Apart E db mb ∧ E.D = D ∧ w.heap.size ≤ E.b ∧ w.heap.size ≤ mb ∧ w.heap.size ≤ E.rb ∧ E.g = g ∧
        SD E 218 db mb ⟨tv, .slice (some ⟨g, o, none⟩) len cap, 0, false, .pointer (some ⟨E.b, 0, none⟩), bs, 0, mpb, bs / mpb, 0, 0, 0, .pointer (some ⟨mb, 0, none⟩), 0, tv, unzz zv, .slice none 0 0, .slice none 0 0⟩ (mbCells 1 (.slice none 0 0) 0) true
          (n1 + 1 + n2 + 1 + n3 + 1 + n4 + 1) w' := by
  have hlt := blk_lt hdb
  have HB := Lib.hid (setBase_any db n (some ⟨g, o, none⟩) len cap w DV.fresh 218 hdb)
  go_enter Tryz.func80, Tryz.ntmps80
  go_wp2_with fail
  refine HB.out.mono ?_
  rintro e w1 ⟨rfl, hk1, hd1⟩
  have hc1 := blk_cell hd1
  have hf1 := blk_frozen hd1
  unfold DV.cells DV.fresh at hc1
  go_wp2_with fail
  refine (newReader_any (some ⟨g, o, none⟩) len cap w1).mono ?_
  rintro e w2 ⟨rfl, hw2⟩
  have hk2 : Keep (fun _ => False) w1 w2 := by rw [hw2]; exact (Keep.refl _ _).alloc _
  have hr2 : w2.heap[w1.heap.size]? = some (.cells #[.slice (some ⟨g, o, none⟩) len cap, .int .i64 0, .int .i64 (-1)] 101 (0, 0)) := by rw [hw2]; exact blk_new _ _
  clear hw2
  go_wp2_with fail
  refine (newBitReader_any w1.heap.size w2).mono ?_
  rintro e w3 ⟨rfl, hk3, cs3, hcs3, hB3⟩
  have hd3 := hk3.blk (hk2.blk hd1 (fun h => h)) (fun h => h)
  have hf3 := blk_frozen hd3
  have hc3 := blk_cell hd3
  unfold DV.cells DV.fresh at hc3
  clear hc1 hf1
  go_wp2_with fail
  have hk4 := (((Keep.refl (fun k => k = db) w3).setCell (p := ⟨db, 5, none⟩) (.inl rfl) (.pointer (some ⟨w2.heap.size, 0, none⟩))).setCell (p := ⟨db, 7, none⟩) (.inl rfl) (.int .u32 0)).setCell (p := ⟨db, 10, none⟩) (.inl rfl) (.int .u32 0)
  have hd4 := blk_set (blk_set (blk_set hd3 5 (.pointer (some ⟨w2.heap.size, 0, none⟩))) 7 (.int .u32 0)) 10 (.int .u32 0)
  clear hc3 hf3
  generalize ((w3.setCell ⟨db, 5, none⟩ (.pointer (some ⟨w2.heap.size, 0, none⟩))).setCell ⟨db, 7, none⟩ (.int .u32 0)).setCell ⟨db, 10, none⟩ (.int .u32 0) = w4 at *
  refine (newBuffer_any w4).mono ?_
  rintro e w5 ⟨rfl, hk5, hm5⟩
  have hd5 := hk5.blk hd4 (fun h => h)
  have hS1 := hk1.size
  have hS2 := hk2.size
  have hS3 := hk3.size
  have hS4 := hk4.size
  have hS5 := hk5.size
  have hlt1 := blk_lt hr2
  have hlt2 := blk_lt hcs3
  have hlt3 := blk_lt hm5
  have hks : Keep (fun k => k = db) w5 (w5.setCell ⟨db, 13, none⟩ (.pointer (some ⟨w4.heap.size, 0, none⟩))) := (Keep.refl (fun k => k = db) w5).setCell (p := ⟨db, 13, none⟩) (.inl rfl) _
  have hK6 : Keep (fun k => k = db) w (w5.setCell ⟨db, 13, none⟩ (.pointer (some ⟨w4.heap.size, 0, none⟩))) := ((((hk1.step hk2 (fun _ h => h.elim)).step hk3 (fun _ h => h.elim)).trans hk4).step hk5 (fun _ h => h.elim)).trans hks
  have hW : (Env.mk w2.heap.size w1.heap.size g o cap D eof).Wf := ⟨by rw [hlen]; exact hcap, by rw [hlen]; exact hmax, hD, by show w2.heap.size ≠ g; omega, by show w2.heap.size ≠ w1.heap.size; omega, by show w1.heap.size ≠ g; omega, by show w2.heap.size ≠ 2; omega, by show w1.heap.size ≠ 2; omega⟩
  have hA : Apart (Env.mk w2.heap.size w1.heap.size g o cap D eof) db w4.heap.size := ⟨by show db ≠ w2.heap.size; omega, by show db ≠ w1.heap.size; omega, hgd, hd2, by omega, by show w4.heap.size ≠ w2.heap.size; omega, by show w4.heap.size ≠ w1.heap.size; omega, by show w4.heap.size ≠ g; omega, by omega⟩
  have hk35 : Keep (fun k => k = db) w3 (w5.setCell ⟨db, 13, none⟩ (.pointer (some ⟨w4.heap.size, 0, none⟩))) := (hk4.step hk5 (fun _ h => h.elim)).trans hks
  have hS : SD (Env.mk w2.heap.size w1.heap.size g o cap D eof) 218 db w4.heap.size ⟨n, .slice (some ⟨g, o, none⟩) len cap, 0, false, .pointer (some ⟨w2.heap.size, 0, none⟩), 0, 0, 0, 0, 0, 0, 0, .pointer (some ⟨w4.heap.size, 0, none⟩), 0, 0, 0, .slice none 0 0, .slice none 0 0⟩
      (mbCells 1 (.slice none 0 0) 0) false 0 (w5.setCell ⟨db, 13, none⟩ (.pointer (some ⟨w4.heap.size, 0, none⟩))) :=
    ⟨⟨⟨0, -1, by show _ = some (Obj.cells #[.slice (some ⟨g, o, none⟩) D.length cap, _, _] _ _); rw [hlen]; exact hk35.blk (hk3.blk hr2 (fun h => h)) (by show w1.heap.size ≠ db; omega)⟩, hrow.keep hK6 (fun h => hgd h.symm), hK6.cell heof (fun h => hd2 h.symm)⟩,
     ⟨0, 0, 0, 0, ⟨cs3, hk35.blk hcs3 (by show w2.heap.size ≠ db; omega), hB3⟩, by omega, by omega, fun h => by cases h⟩, blk_set hd5 13 _, hks.blk hm5 (by show w4.heap.size ≠ db; omega)⟩
  have hc5 := blk_cell hd5
  have hf5 := blk_frozen hd5
  simp only [DV.cells, DV.fresh, List.setIfInBounds_toArray, List.set_cons_succ, List.set_cons_zero] at hc5
  clear hk1 hd1 hk2 hr2 hk3 hcs3 hB3 hd3 hk4 hd4 hk5 hks hk35 hm5 hrow heof hdb hD
  go_wp2_with fail
  generalize w5.setCell ⟨db, 13, none⟩ (.pointer (some ⟨w4.heap.size, 0, none⟩)) = w6 at *
  have hbb : w.heap.size ≤ w2.heap.size := by omega
  have hmm : w.heap.size ≤ w4.heap.size := by omega
  have hrr : w.heap.size ≤ w1.heap.size := by omega
  clear hS1 hS2 hS3 hS4 hS5 hlt1 hlt2 hlt3 hc5 hf5 hd5
  generalize w2.heap.size = bb at *
  generalize w1.heap.size = rb at *
  generalize w4.heap.size = mb at *
  clear w1 w2 w3 w4 w5
  refine (SD.vlq hW hA hS l1).mono ?_
  rintro e w1 ⟨rfl, hk1, hS1⟩
  have hK1 := hK6.step hk1 (fun i h => .inr (by have : i = bb := h; omega))
  have hc := blk_cell hS1.dec
  have hf := blk_frozen hS1.dec
  simp only [DV.cells] at hc
  clear hS hK6 hk1
  have b11 : ¬ (4294967295 < bs) := by omega
  have b12 : (bs == 0) = false := by simp; omega
  have b13 : (bs % 128 != 0) = false := by simp; omega
  go_wp2_with fail
  have hS2 := SD.set hA hS1 6 (.int .u64 bs) (d' := ⟨n, .slice (some ⟨g, o, none⟩) len cap, 0, false, .pointer (some ⟨bb, 0, none⟩), bs, 0, 0, 0, 0, 0, 0, .pointer (some ⟨mb, 0, none⟩), 0, 0, 0, .slice none 0 0, .slice none 0 0⟩) rfl
  have hK2 := hK1.setCell (p := ⟨db, 6, none⟩) (.inl rfl) (.int .u64 bs)
  clear hc hf hS1 hK1
  generalize w1.setCell ⟨db, 6, none⟩ (.int .u64 bs) = w2 at *
  rw [Nat.zero_add] at hS2
  refine (SD.vlq hW hA hS2 l2).mono ?_
  rintro e w3 ⟨rfl, hk3, hS3⟩
  have hK3 := hK2.step hk3 (fun i h => .inr (by have : i = bb := h; omega))
  have hc := blk_cell hS3.dec
  have hf := blk_frozen hS3.dec
  simp only [DV.cells] at hc
  clear hS2 hK2 hk3
  have b21 : ¬ (4294967295 < mpb) := by omega
  have b22 : (mpb == 0) = false := by simp; omega
  have b23 : (bs % mpb != 0) = false := by simp; omega
  have b24 : ¬ mpb = 0 := by omega
  go_wp2_with fail
  have hS4 := SD.set hA hS3 8 (.int .u64 mpb) (d' := ⟨n, .slice (some ⟨g, o, none⟩) len cap, 0, false, .pointer (some ⟨bb, 0, none⟩), bs, 0, mpb, 0, 0, 0, 0, .pointer (some ⟨mb, 0, none⟩), 0, 0, 0, .slice none 0 0, .slice none 0 0⟩) rfl
  have hK4 := hK3.setCell (p := ⟨db, 8, none⟩) (.inl rfl) (.int .u64 mpb)
  clear hS3 hK3 hf
  generalize w3.setCell ⟨db, 8, none⟩ (.int .u64 mpb) = w4 at *
  have hc := blk_cell hS4.dec
  simp only [DV.cells] at hc
  go_quiet (fail)
  go_wp2_with fail
  have hS5 := hS4.drewN nq
  have hK5 := hK4.drewN nq
  clear hS4 hK4 hc
  generalize w4.drewN nq = w5 at *
  have hc := blk_cell hS5.dec
  simp only [DV.cells] at hc
  have b31 : (bs / mpb == 0) = false := by simp; omega
  have b32 : (bs / mpb % 32 != 0) = false := by simp; omega
  go_quiet (fail)
  go_wp2_with fail
  have hS6 := hS5.drewN nq
  have hK6 := hK5.drewN nq
  clear hS5 hK5 hc
  generalize w5.drewN nq = w6 at *
  refine (SD.vlq hW hA hS6 l3).mono ?_
  rintro e w7 ⟨rfl, hk7, hS7⟩
  have hK7 := hK6.step hk7 (fun i h => .inr (by have : i = bb := h; omega))
  have hc := blk_cell hS7.dec
  have hf := blk_frozen hS7.dec
  simp only [DV.cells] at hc
  clear hS6 hK6 hk7
  have b41 : ¬ (4294967295 < tv) := by omega
  have b42 : ¬ ((n : Int) < 0) := by omega
  have b43 : ¬ ((n : Int) < tv) := by omega
  have b44 : (n : Int) ≤ 2000 := by omega
  go_wp2_with fail
  have hS8 := SD.set hA hS7 15 (.int .u64 tv) (d' := ⟨n, .slice (some ⟨g, o, none⟩) len cap, 0, false, .pointer (some ⟨bb, 0, none⟩), bs, 0, mpb, 0, 0, 0, 0, .pointer (some ⟨mb, 0, none⟩), 0, tv, 0, .slice none 0 0, .slice none 0 0⟩) rfl
  have hK8 := hK7.setCell (p := ⟨db, 15, none⟩) (.inl rfl) (.int .u64 tv)
  clear hc hf hS7 hK7
  generalize w7.setCell ⟨db, 15, none⟩ (.int .u64 tv) = w8 at *
  refine (SD.zzvlq hW hA hS8 l4).mono ?_
  rintro e w9 ⟨rfl, hk9, hS9⟩
  have hK9 := hK8.step hk9 (fun i h => .inr (by have : i = bb := h; omega))
  have hc := blk_cell hS9.dec
  have hf := blk_frozen hS9.dec
  simp only [DV.cells] at hc
  clear hS8 hK8 hk9
  generalize hlv : unzz zv = lv at *
  have Hlv := Lib.hid hlv
  clear hlv
  go_wp2_with fail
  have hS10 := SD.set hA hS9 16 (.int .i64 lv) (d' := ⟨n, .slice (some ⟨g, o, none⟩) len cap, 0, false, .pointer (some ⟨bb, 0, none⟩), bs, 0, mpb, 0, 0, 0, 0, .pointer (some ⟨mb, 0, none⟩), 0, tv, lv, .slice none 0 0, .slice none 0 0⟩) rfl
  have hK10 := hK9.setCell (p := ⟨db, 16, none⟩) (.inl rfl) (.int .i64 lv)
  clear hc hf hS9 hK9
  generalize w9.setCell ⟨db, 16, none⟩ (.int .i64 lv) = w10 at *
  refine (isI32_32 w10).mono ?_
  rintro e w11 ⟨rfl, hw11⟩
  have hw11' := hw11.symm
  clear hw11
  subst hw11'
  have hc := blk_cell hS10.dec
  have hf := blk_frozen hS10.dec
  simp only [DV.cells] at hc
  have b60 : ¬ (lv < -2147483648) := by omega
  have b61 : ¬ (2147483647 < lv) := by omega
  have b51 : 0 ≤ bs / mpb := by omega
  have b52 : bs / mpb ≤ 1024 := by omega
  have b53 : 0 ≤ tv := l3.v0
  go_wp2_with fail
  go_ret
  refine ⟨rfl, ((hK10.setCell (p := ⟨db, 9, none⟩) (.inl rfl) _).setCell (p := ⟨db, 4, none⟩) (.inl rfl) _).setCell (p := ⟨db, 0, none⟩) (.inl rfl) _, _, mb, hW, hA, rfl, hbb, hmm, hrr, rfl, ?_⟩
  have h1 := SD.set hA hS10 9 (.int .u32 (bs / mpb)) (d' := ⟨n, .slice (some ⟨g, o, none⟩) len cap, 0, false, .pointer (some ⟨bb, 0, none⟩), bs, 0, mpb, bs / mpb, 0, 0, 0, .pointer (some ⟨mb, 0, none⟩), 0, tv, lv, .slice none 0 0, .slice none 0 0⟩) rfl
  have h2 := SD.set hA h1 4 (.bool false) (d' := ⟨n, .slice (some ⟨g, o, none⟩) len cap, 0, false, .pointer (some ⟨bb, 0, none⟩), bs, 0, mpb, bs / mpb, 0, 0, 0, .pointer (some ⟨mb, 0, none⟩), 0, tv, lv, .slice none 0 0, .slice none 0 0⟩) rfl
  rw [Hlv.out]
  exact SD.set hA h2 0 (.int .i64 tv) rfl
end Go.Proofs.YtdamippibpbjhaaGreatDoor

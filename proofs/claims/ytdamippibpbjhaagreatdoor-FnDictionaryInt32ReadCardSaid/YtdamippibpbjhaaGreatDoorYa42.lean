import Derived.Test.YtdamippibpbjhaaGreatDoorYa41
import Derived.Test.YtdamippibpbjhaaGreatDoorYa37
import Derived.Test.YtdamippibpbjhaaGreatDoorYa34
/-! Numbers by a dictionary are read. -/
namespace Go.Proofs.YtdamippibpbjhaaGreatDoor.I32
open Go.RowKit

theorem numCalls (Dd : List Int) (R : List Nat) (X : World) :
    ∀ j, j < R.length → ∃ a, (R.map (fun j => Value.int .i32 (i32At Dd j)))[j]? = some (.int .i32 a) ∧ ∀ w1, Keep (fun _ => False) X w1 → Calls Tryz.prog 64 #[.int .i32 a] w1 fun e w' =>
      e = .returned (.agg #[.bool false, .int .u64 (IntKind.u64.wrap (i32At Dd (R.getD j 0))), .string ⟨#[]⟩, .slice none 0 0]) ∧ Keep (fun _ => False) w1 w' := fun j hj => by
  have e : R.getD j 0 = R[j] := by rw [List.getD_eq_getElem?_getD, List.getElem?_eq_getElem hj]; rfl
  refine ⟨i32At Dd R[j], by rw [List.getElem?_map, List.getElem?_eq_getElem hj]; rfl, fun w1 _ => ?_⟩
  rw [e]
  exact valueInt64 _ w1

set_option maxRecDepth 100000 in
set_option maxHeartbeats 8000000 in
theorem dictRead25 {Dd : List Int} {N : Nat} (hDl : Dd.length = 4 * N) (hN0 : 0 < N) (hN : N ≤ 1000) (hBd : Bytes Dd) (hd9 : Dd.length ≤ 100000000) (D : List Int) (W : Nat) (hW1 : 1 ≤ W) (hW20 : W ≤ 20) (hB : Bytes D) (h9 : D.length ≤ 10000000) (h0 : 0 < D.length) (rs : List Rle) (hR : RunsAt D W 0 rs) (all : List Nat) (hall : all = runVals rs) (hallN : ∀ x ∈ all, x < N) (hall9 : all.length ≤ 20000)
    (g1 o1 c1 g2 o2 c2 : Nat) (eof : Addr) (w : World) (hrow1 : Row w .u8 g1 o1 Dd) (hrow2 : Row w .u8 g2 o2 ((W : Int) :: D)) (heof : w.cell? ⟨2, 0, none⟩ = some (.iface 226 (.pointer (some eof))))
    (A : Option Addr) (cb : Nat) (bs : List Int) (hA : 0 < bs.length → ∃ gb ob, A = some ⟨gb, ob, none⟩ ∧ Row w .i64 gb ob bs) (hlen : bs.length ≤ 50) (hfit : ∀ c, c ≤ bs.length → (readB all (bs.take c)).1 ≤ all.length) :
    Calls Tryz.prog 25 #[.slice (some ⟨g1, o1, none⟩) Dd.length c1, .int .i64 N, .slice (some ⟨g2, o2, none⟩) (D.length + 1) c2, .int .i64 all.length, .slice A bs.length cb] w fun e w' =>
      ∃ out, e = .returned (.tuple #[out, .bool true]) ∧ w'.ownsRow w.heap.size 47 4 out (readB all bs).2.length (ncellsOf (fun j => IntKind.u64.wrap (i32At Dd ((readB all bs).2.getD j 0))) (readB all bs).2.length) ∧ Keep (fun _ => False) w w' := by
  have h2 : 2 < w.heap.size := World.block_lt_of_cell? w _ heof
  have hDd0 : 0 < Dd.length := by omega
  have HALL := Lib.hid hall
  have HDL := Lib.hid hDl
  clear hall hDl
  go_enter_defers Tryz.func25, Tryz.ntmps25
  go_wp2_with fail
  have hkA : Keep (fun _ => False) w ((w.alloc (.cells #[.slice none 0 0] 36)).alloc (.cells #[.bool false] 4)) := ((Keep.refl _ w).alloc _).alloc _
  have hr10 : ((w.alloc (.cells #[.slice none 0 0] 36)).alloc (.cells #[.bool false] 4)).heap[w.heap.size]? = some (.cells #[.slice none 0 0] 36 (0, 0)) := blk_alloc (blk_new w _) _
  have hr11 : ((w.alloc (.cells #[.slice none 0 0] 36)).alloc (.cells #[.bool false] 4)).heap[w.heap.size + 1]? = some (.cells #[.bool false] 4 (0, 0)) := by have := blk_new (w.alloc (.cells #[.slice none 0 0] 36)) (.cells #[.bool false] 4); simpa using this
  generalize ((w.alloc (.cells #[.slice none 0 0] 36)).alloc (.cells #[.bool false] 4)) = w1 at *
  refine (newPlain40 w1).mono ?_
  rintro e w2 ⟨pd, rfl, hk2, hpd, hpdc⟩
  have hka2 := hkA.step hk2 (fun _ h => h.elim)
  have hs1 := hkA.size
  have hs12 := hk2.size
  have hl11 := blk_lt hr11
  have hlpd := blk_lt hpdc
  go_wp2_with fail
  refine wp_region_takes (by kernel_rfl) ?_
  go_simp
  refine wpAny_pure 0 (by kernel_rfl) rfl rfl (fun _ _ _ h => post_put2 (fn := Tryz.f25) Tryz.results25 _ _ (by decide) (by decide) _ _ _ h) (fun w' => BigFrame.run_move _ rfl w') ?_
  go_simp
  refine wpAny_pure 1 (v := .pointer (some ⟨pd, 0, none⟩)) (by kernel_rfl) rfl rfl (fun _ _ _ h => post_put2 (fn := Tryz.f25) Tryz.results25 _ _ (by decide) (by decide) _ _ _ h) (fun w' => by go_simp) ?_
  go_simp
  refine wpAny_pure 2 (v := .pointer (some ⟨pd, 0, none⟩)) (by kernel_rfl) rfl rfl (fun _ _ _ h => post_put2 (fn := Tryz.f25) Tryz.results25 _ _ (by decide) (by decide) _ _ _ h) (fun w' => by go_simp) ?_
  go_simp
  refine wpAny_pure 3 (by kernel_rfl) rfl rfl (fun _ _ _ h => post_put2 (fn := Tryz.f25) Tryz.results25 _ _ (by decide) (by decide) _ _ _ h) (fun w' => BigFrame.run_move _ rfl w') ?_
  go_simp
  refine wpAny_pure 4 (by kernel_rfl) rfl rfl (fun _ _ _ h => post_put2 (fn := Tryz.f25) Tryz.results25 _ _ (by decide) (by decide) _ _ _ h) (fun w' => BigFrame.run_move _ rfl w') ?_
  go_simp
  refine wpAny_only 5 (by kernel_rfl) rfl ?_
  have hkd2 : Keep (fun _ => False) w w2.drew := hka2.drew
  have HC1 := Lib.hid (copied42 g1 o1 c1 Dd w2.drew hDd0 hd9 (hrow1.keep hkd2 (fun h => h)))
  go_wp2_with fail
  refine HC1.out.mono ?_
  rintro e w3 ⟨v1, rfl, hob1, hk3⟩
  obtain ⟨q1, cq1, rfl, hcq1, hq1b, hq1l, hq1r⟩ := hob1.all hDd0
  have hq1b : w2.heap.size ≤ q1 := by simpa using hq1b
  have hpdc3 := hk3.blk (blk_drew hpdc) (fun h => h)
  have HS1 := Lib.hid (setPlain41 pd N (some ⟨q1, 0, none⟩) Dd.length cq1 _ _ _ _ _ w3 hpdc3)
  clear HC1
  go_wp2_with fail
  refine wpAny_only 6 (by kernel_rfl) rfl ?_
  go_wp2_with fail
  refine HS1.out.mono ?_
  rintro e w4 ⟨rfl, hk4, hpd4⟩
  have hka4 : Keep (fun _ => False) w w4 := (hkd2.trans hk3).step hk4 (fun b hb => .inr (by have h' : b = pd := hb; omega))
  have hq1r4 := hq1r.keep hk4 (by show q1 ≠ pd; omega)
  have hk34 := hk3.size
  have hk44 := hk4.size
  have hdr2 : w2.drew.heap.size = w2.heap.size := rfl
  clear HS1 hpdc3 hob1 hpdc
  go_wp2_with fail
  refine wpAny_only 7 (by kernel_rfl) rfl ?_
  go_wp2_with fail
  refine wpAny_stop (by kernel_rfl) ?_
  go_wp2_with fail
  refine (newDict43 pd N w4).mono ?_
  rintro e w5 ⟨db, dcb, rfl, hk5, hdb, hdbdc, hdb5, hdc5⟩
  have hka5 := hka4.step hk5 (fun _ h => h.elim)
  have hs5 := hk5.size
  have hldc := blk_lt hdc5
  go_wp2_with fail
  refine wp_region_takes (by kernel_rfl) ?_
  go_simp
  refine wpAny_pure 0 (by kernel_rfl) rfl rfl (fun _ _ _ h => post_put2 (fn := Tryz.f25) Tryz.results25 _ _ (by decide) (by decide) _ _ _ h) (fun w' => BigFrame.run_move _ rfl w') ?_
  go_simp
  refine wpAny_pure 1 (v := .pointer (some ⟨db, 0, none⟩)) (by kernel_rfl) rfl rfl (fun _ _ _ h => post_put2 (fn := Tryz.f25) Tryz.results25 _ _ (by decide) (by decide) _ _ _ h) (fun w' => by go_simp) ?_
  go_simp
  refine wpAny_pure 2 (v := .pointer (some ⟨db, 0, none⟩)) (by kernel_rfl) rfl rfl (fun _ _ _ h => post_put2 (fn := Tryz.f25) Tryz.results25 _ _ (by decide) (by decide) _ _ _ h) (fun w' => by go_simp) ?_
  go_simp
  refine wpAny_pure 3 (by kernel_rfl) rfl rfl (fun _ _ _ h => post_put2 (fn := Tryz.f25) Tryz.results25 _ _ (by decide) (by decide) _ _ _ h) (fun w' => BigFrame.run_move _ rfl w') ?_
  go_simp
  refine wpAny_pure 4 (by kernel_rfl) rfl rfl (fun _ _ _ h => post_put2 (fn := Tryz.f25) Tryz.results25 _ _ (by decide) (by decide) _ _ _ h) (fun w' => BigFrame.run_move _ rfl w') ?_
  go_simp
  refine wpAny_only 5 (by kernel_rfl) rfl ?_
  have hkd5 : Keep (fun _ => False) w w5.drew := hka5.drew
  have HC2 := Lib.hid (copied42 g2 o2 c2 ((W : Int) :: D) w5.drew (by simp) (by simp; omega) (hrow2.keep hkd5 (fun h => h)))
  simp only [List.length_cons] at HC2
  go_wp2_with fail
  refine HC2.out.mono ?_
  rintro e w6 ⟨v2, rfl, hob2, hk6⟩
  obtain ⟨q2, cq2, rfl, hcq2, hq2b, hq2l, hq2r⟩ := hob2.all (by simp)
  have hdr5 : w5.drew.heap.size = w5.heap.size := rfl
  have hq2b : w5.heap.size ≤ q2 := by simpa using hq2b
  simp only [List.length_cons] at hcq2
  have hdb6 := hk6.blk (blk_drew hdb5) (fun h => h)
  have hs6 := hk6.size
  have HS2 := Lib.hid (setDict44 db q2 0 D.length cq2 0 all.length dcb W (List.replicate 6 .nilIface) rfl _ _ _ w6 hdb6 hW20 h0 hcq2 (hq2r 0 (by simp)) (by omega))
  clear HC2
  go_wp2_with fail
  refine wpAny_only 6 (by kernel_rfl) rfl ?_
  go_wp2_with fail
  refine HS2.out.mono ?_
  rintro e w7 ⟨rfl, hk7, rd, bb, hbb, hbr, hdb7, hrd7, cs7, hcs7, hB7⟩
  have hka7 : Keep (fun _ => False) w w7 := (hkd5.trans hk6).step hk7 (fun b hb => .inr (by have h' : b = db := hb; omega))
  have hlrd := blk_lt hrd7
  have hs7 := hk7.size
  have hdc7 := hk7.blk (hk6.blk (blk_drew hdc5) (fun h => h)) (by show dcb ≠ db; omega)
  have hpd7 := hk7.blk (hk6.blk (blk_drew (hk5.blk hpd4 (fun h => h))) (fun h => h)) (by show pd ≠ db; omega)
  have hq17 := ((((hq1r4.keep hk5 (fun h => h)).keep ((Keep.refl (fun _ => False) w5).drew) (fun h => h)).keep hk6 (fun h => h)).keep hk7 (by show q1 ≠ db; omega))
  have hq27 := ((hq2r.keep hk7 (by show q2 ≠ db; omega)).drop 1)
  simp only [List.drop_succ_cons, List.drop_zero] at hq27
  have hX : (⟨bb, db, rd, dcb, pd, q2, 0 + 1, cq2 - 1, D, eof, W, N, 0⟩ : DX).Ok (fun b => b = pd ∨ b = q1) := ⟨by show D.length ≤ cq2 - 1; omega, by show D.length ≤ _; omega, hB, by refine ⟨?_, ?_, ?_, ?_, ?_⟩ <;> (simp only; omega), by refine ⟨?_, ?_, ?_, ?_⟩ <;> (simp only; omega), by refine ⟨?_, ?_, ?_⟩ <;> (simp only; omega), by refine ⟨?_, ?_⟩ <;> (simp only; omega), by refine ⟨?_, ?_⟩ <;> (simp only; omega), fun b hb => by rcases hb with rfl | rfl <;> (refine ⟨?_, ?_, ?_, ?_⟩ <;> (simp only; omega)), hW1, hW20, hN⟩
  have hDl := HDL.out
  have hV := numDec hBd hDl q1 0 pd hN0 hN (by omega)
  have hDQ : DQ (VD := NSt Dd N q1 0 pd) (fun j => .int .i32 (i32At Dd j)) ⟨bb, db, rd, dcb, pd, q2, 0 + 1, cq2 - 1, D, eof, W, N, 0⟩ (fun b => b = pd ∨ b = q1) all (DX.own ⟨bb, db, rd, dcb, pd, q2, 0 + 1, cq2 - 1, D, eof, W, N, 0⟩ (.slice none 0 0)) w7 0 :=
    DQ.start hX HALL.out hR ⟨some ⟨q1, 0, none⟩, cq1, by rw [Nat.sub_zero, ← hDl]; exact hpd7, fun _ => ⟨rfl, by omega⟩, hq17⟩ (fun b hb => by rcases hb with rfl | rfl <;> omega) hq27 (hka7.cell heof (fun h => h)) (by show q2 < _; omega) hdb7 hrd7
      ⟨cs7, hcs7, ⟨hB7.size, hB7.c0, hB7.c1, hB7.c2, hB7.c3, hB7.c4, hB7.raw, hB7.ub⟩⟩ hdc7 (Nat.zero_le _)
  have hltV := hDQ.lt hV
  have hown7 : ∀ b, DX.own ⟨bb, db, rd, dcb, pd, q2, 0 + 1, cq2 - 1, D, eof, W, N, 0⟩ (.slice none 0 0) b → b = bb ∨ b = db ∨ b = rd ∨ b = dcb ∨ b = pd := fun b hb => by
    rcases hb with h | h | h | h | h | h
    · exact .inl h
    · exact .inr (.inl h)
    · exact .inr (.inr (.inl h))
    · exact .inr (.inr (.inr (.inl h)))
    · exact .inr (.inr (.inr (.inr h)))
    · cases h
  have hlow : ∀ b, DX.own ⟨bb, db, rd, dcb, pd, q2, 0 + 1, cq2 - 1, D, eof, W, N, 0⟩ (.slice none 0 0) b → w1.heap.size ≤ b := fun b hb => by
    rcases hown7 b hb with h | h | h | h | h <;> omega
  have HDc : Calls Tryz.prog 60 #[.slice A bs.length cb, .func (.func 61) #[.pointer (some ⟨db, 0, none⟩)] #[], .func (.func 62) #[.pointer (some ⟨db, 0, none⟩)] #[]] w7 fun e w' =>
      ∃ out, e = .returned (.tuple #[out, .bool true]) ∧ w'.ownsRow w7.heap.size 21 1 out (readB all bs).2.length ((readB all bs).2.map (fun j => .int .i32 (i32At Dd j))) ∧ Keep (DX.own ⟨bb, db, rd, dcb, pd, q2, 0 + 1, cq2 - 1, D, eof, W, N, 0⟩ (.slice none 0 0)) w7 w' := by
    by_cases h0 : 0 < bs.length
    · obtain ⟨gb, ob, rfl, hbs⟩ := hA h0
      have hgbl : gb < w.heap.size := World.block_lt_of_cell? w _ (hbs 0 h0)
      exact decoded45 hV (fun j => ⟨_, rfl⟩) hX hDQ hallN hall9 gb ob cb bs (hbs.keep hka7 (fun h => h)) (fun h => by have := hlow _ h; omega) hlen hfit
    · have hbn : bs = [] := List.eq_nil_of_length_eq_zero (by omega)
      subst hbn
      refine (decoded45_nil A cb _ _ w7).mono ?_
      rintro e w' ⟨rfl, rfl⟩
      exact ⟨_, rfl, World.ownsRow_nil _ _ 21 1, Keep.refl _ _⟩
  have hmem := readB_mem all bs
  have hrl : (readB all bs).2.length ≤ 20000 := by
    have h1 := readB_len all bs
    have h2 := hfit bs.length (Nat.le_refl _)
    rw [List.take_length] at h2
    omega
  obtain ⟨R, hR⟩ : ∃ R, R = (readB all bs).2 := ⟨_, rfl⟩
  rw [← hR] at HDc hmem hrl
  have HRR := Lib.hid hR
  have HDc := Lib.hid HDc
  have hr107 := hk7.blk (hk6.blk (blk_drew (hk5.blk (hk4.blk (hk3.blk (blk_drew (hk2.blk hr10 (fun h => h))) (fun h => h)) (by show w.heap.size ≠ pd; omega)) (fun h => h))) (fun h => h)) (by show w.heap.size ≠ db; omega)
  have hr117 := hk7.blk (hk6.blk (blk_drew (hk5.blk (hk4.blk (hk3.blk (blk_drew (hk2.blk hr11 (fun h => h))) (fun h => h)) (by show w.heap.size + 1 ≠ pd; omega)) (fun h => h))) (fun h => h)) (by show w.heap.size + 1 ≠ db; omega)
  have hw17 : w1.heap.size ≤ w7.heap.size := by omega
  have hqn : ∀ b, (b = q1 ∨ b = w.heap.size ∨ b = w.heap.size + 1) → ¬ (b = bb ∨ b = db ∨ b = rd ∨ b = dcb ∨ b = pd) := by
    rintro b (h | h | h) (h' | h' | h' | h' | h') <;> omega
  have HTX := Lib.hid (And.intro hmem (And.intro hallN (And.intro hown7 (And.intro hq17 hqn))))
  have HK := Lib.hid hka7
  clear hDQ hV hX hltV hlow hq27 hpd7 hdc7 hB7 hrd7 hcs7 hdb7 hq17 hrow1 hrow2 hka7 hk7 hk6 hk5 hk4 hk3 hk2 hka4 hka5 hka2 hkd2 hkd5 hown7 hqn hmem hallN hA hfit hr10 hr11 hq1r hq2r hq1r4 hdb6 hdb5 hdc5 hpd4 HALL hR hkA hDl HDL
  go_wp2_with fail
  refine wpAny_only 7 (by kernel_rfl) rfl ?_
  go_wp2_with fail
  refine wpAny_stop (by kernel_rfl) ?_
  go_wp2_with fail
  refine HDc.out.mono ?_
  rintro e w8 ⟨out, rfl, hown, hk8⟩
  obtain ⟨hmem, hallN, hown7, hq17, hqn⟩ := HTX.out
  have hk8 := hk8.mono hown7
  have hr108 := hk8.blk hr107 (hqn _ (.inr (.inl rfl)))
  have hr118 := hk8.blk hr117 (hqn _ (.inr (.inr rfl)))
  have hq18 := hq17.keep hk8 (hqn _ (.inl rfl))
  have hs8 := hk8.size
  have hkw8 : Keep (fun _ => False) w w8 := HK.out.step hk8 (fun b hb => .inr (by rcases hb with h | h | h | h | h <;> omega))
  obtain ⟨oa, oc, rfl⟩ := own_slice hown
  have hc11 := blk_cell hr118
  have hf11 := blk_frozen hr118
  have hr119 := blk_set hr118 0 (.bool true)
  have hk9 : Keep (fun b => b = w.heap.size + 1) w8 (w8.setCell ⟨w.heap.size + 1, 0, none⟩ (.bool true)) := (Keep.refl (fun b => b = w.heap.size + 1) w8).setCell (p := ⟨w.heap.size + 1, 0, none⟩) (.inl rfl) _
  have hr109 := hk9.blk hr108 (by show w.heap.size ≠ w.heap.size + 1; omega)
  have hkw9 : Keep (fun _ => False) w (w8.setCell ⟨w.heap.size + 1, 0, none⟩ (.bool true)) := hkw8.step hk9 (fun b hb => .inr (by have h' : b = w.heap.size + 1 := hb; omega))
  have hq19 := hq18.keep hk9 (by show q1 ≠ w.heap.size + 1; omega)
  have hown9 := ownsRow_keep hown hk9 (fun g hg e => by have h' : g = w.heap.size + 1 := e; have := (ownsRow_lt hown g hg).2; omega)
  clear HDc hk8 hown hr107 hr117 hr108 hr118 hq17 hq18 hqn hkw8
  go_wp2_with fail
  have hkA9 := hk9
  clear hk9 hc11 hf11
  generalize w8.setCell ⟨w.heap.size + 1, 0, none⟩ (.bool true) = w9 at *
  have hs9 := hkA9.size
  have hcl := numCalls Dd R w9.drew
  have HV := Lib.hid (valued63 w7.heap.size oa R.length oc (R.map (fun j => .int .i32 (i32At Dd j))) (fun j => IntKind.u64.wrap (i32At Dd (R.getD j 0))) w9.drew hrl hown9 hcl)
  clear hcl hmem hallN hown7 HTX hq19
  have hc11 : ∀ n, (w9.drewN n).cell? ⟨w.heap.size + 1, 0, none⟩ = some (.bool true) := fun n => by rw [blk_cell (blk_drewN hr119 n)]; rfl
  have hc11d : w9.drew.cell? ⟨w.heap.size + 1, 0, none⟩ = some (.bool true) := hc11 1
  go_wp2_with fail
  refine wp_region_takes (by kernel_rfl) ?_
  go_simp
  refine wpAny_pure 0 (by kernel_rfl) rfl rfl (fun _ _ _ h => post_put2 (fn := Tryz.f25) Tryz.results25 _ _ (by decide) (by decide) _ _ _ h) (fun w' => BigFrame.run_move _ rfl w') ?_
  go_simp
  refine wpAny_two 1 2 (by kernel_rfl) rfl rfl ?_ ?_
  · go_wp2_with fail
    refine HV.out.mono ?_
    rintro e wx ⟨v, rfl, hownv, hkx⟩
    obtain ⟨va, vn, vc, rfl⟩ : ∃ a n c, v = .slice a n c := by
      rcases hownv.2 with ⟨rfl, _⟩ | ⟨_, _, _, rfl, _⟩ <;> exact ⟨_, _, _, rfl⟩
    have hsx : w9.heap.size ≤ wx.heap.size := hkx.size
    have hrx10 := hkx.blk (blk_drew hr109) (fun h => h)
    have hrx11 := hkx.blk (blk_drew hr119) (fun h => h)
    have hkwx : Keep (fun _ => False) w wx := (hkw9.drew).trans hkx
    have hc10 := blk_cell hrx10
    have hf10 := blk_frozen hrx10
    have hcx11 := blk_cell hrx11
    have hfx11 := blk_frozen hrx11
    clear HV hc11 hc11d hr109 hr119 hkw9 hkA9 hown9 hkx
    go_wp2_with fail
    refine wpAny_only 2 (by kernel_rfl) rfl ?_
    go_wp2_with fail
    refine wpAny_only 3 (by kernel_rfl) rfl ?_
    go_wp2_with fail
    have h10 := blk_set hrx10 0 (.slice va vn vc)
    have h11 := blk_far hrx11 (p := ⟨w.heap.size, 0, none⟩) (by show w.heap.size ≠ w.heap.size + 1; omega) (.slice va vn vc)
    have hc12 := blk_cell h11
    have hf12 := blk_frozen h11
    refine wpAny_only 4 (by kernel_rfl) rfl ?_
    go_wp2_with fail
    refine wpAny_stop (by kernel_rfl) ?_
    have h10 := blk_far h10 (p := ⟨w.heap.size + 1, 0, none⟩) (by show w.heap.size + 1 ≠ w.heap.size; omega) (.bool true)
    have h11 := blk_set h11 0 (.bool true)
    have hk5 : Keep (fun b => b = w.heap.size ∨ b = w.heap.size + 1) wx ((wx.setCell ⟨w.heap.size, 0, none⟩ (.slice va vn vc)).setCell ⟨w.heap.size + 1, 0, none⟩ (.bool true)) := ((Keep.refl (fun b => b = w.heap.size ∨ b = w.heap.size + 1) wx).setCell (p := ⟨w.heap.size, 0, none⟩) (.inl (.inl rfl)) _).setCell (p := ⟨w.heap.size + 1, 0, none⟩) (.inl (.inr rfl)) _
    have hkE : Keep (fun _ => False) w ((wx.setCell ⟨w.heap.size, 0, none⟩ (.slice va vn vc)).setCell ⟨w.heap.size + 1, 0, none⟩ (.bool true)) := hkwx.step hk5 (fun b hb => .inr (by rcases hb with h | h <;> omega))
    have hs95 : w.heap.size + 1 < w9.drew.heap.size := by show w.heap.size + 1 < w9.heap.size; omega
    have hown5 := ownsRow_keep hownv hk5 (fun g hg e => by have := (ownsRow_lt hownv g hg).2; rcases e with e | e <;> omega)
    have hownF : ((wx.setCell ⟨w.heap.size, 0, none⟩ (.slice va vn vc)).setCell ⟨w.heap.size + 1, 0, none⟩ (.bool true)).ownsRow w.heap.size 47 4 (.slice va vn vc) R.length (ncellsOf (fun j => IntKind.u64.wrap (i32At Dd (R.getD j 0))) R.length) := by
      refine ⟨hown5.1, hown5.2.imp (fun h => h) ?_⟩
      rintro ⟨gx, c1, cur, e1, e2, e3⟩
      exact ⟨gx, c1, cur, e1, by omega, e3⟩
    rw [HRR.out] at hownF
    have HF := Lib.hid (And.intro hownF hkE)
    have hc8 := blk_cell h10
    have hc9 := blk_cell h11
    clear hk5 hkE hown5 hownF hownv hkwx hrx10 hrx11 hc10 hf10 hcx11 hfx11 hc12 hf12
    go_wp2_with fail
    refine leaves_cons (f := 39) (args := #[.pointer (some ⟨w.heap.size, 0, none⟩), .pointer (some ⟨w.heap.size + 1, 0, none⟩)]) (by simp) (by simp [go_sem]) ?_
    refine (catch39 ⟨w.heap.size, 0, none⟩ ⟨w.heap.size + 1, 0, none⟩ _).mono ?_
    rintro e u' w'' ⟨rfl, rfl, rfl⟩
    exact ⟨.tuple #[.slice va vn vc, .bool true], by simp [results, Tryz.results25, go_sem, hc8, hc9], _, rfl, HF.out.1, HF.out.2⟩
  · go_wp2_with fail
    refine wpAny_only 1 (by kernel_rfl) rfl ?_
    go_wp2_with fail
    refine HV.out.mono ?_
    rintro e wx ⟨v, rfl, hownv, hkx⟩
    obtain ⟨va, vn, vc, rfl⟩ : ∃ a n c, v = .slice a n c := by
      rcases hownv.2 with ⟨rfl, _⟩ | ⟨_, _, _, rfl, _⟩ <;> exact ⟨_, _, _, rfl⟩
    have hsx : w9.heap.size ≤ wx.heap.size := hkx.size
    have hrx10 := hkx.blk (blk_drew hr109) (fun h => h)
    have hrx11 := hkx.blk (blk_drew hr119) (fun h => h)
    have hkwx : Keep (fun _ => False) w wx := (hkw9.drew).trans hkx
    have hc10 := blk_cell hrx10
    have hf10 := blk_frozen hrx10
    have hcx11 := blk_cell hrx11
    have hfx11 := blk_frozen hrx11
    clear HV hc11 hc11d hr109 hr119 hkw9 hkA9 hown9 hkx
    go_wp2_with fail
    refine wpAny_only 3 (by kernel_rfl) rfl ?_
    go_wp2_with fail
    have h10 := blk_set hrx10 0 (.slice va vn vc)
    have h11 := blk_far hrx11 (p := ⟨w.heap.size, 0, none⟩) (by show w.heap.size ≠ w.heap.size + 1; omega) (.slice va vn vc)
    have hc12 := blk_cell h11
    have hf12 := blk_frozen h11
    refine wpAny_only 4 (by kernel_rfl) rfl ?_
    go_wp2_with fail
    refine wpAny_stop (by kernel_rfl) ?_
    have h10 := blk_far h10 (p := ⟨w.heap.size + 1, 0, none⟩) (by show w.heap.size + 1 ≠ w.heap.size; omega) (.bool true)
    have h11 := blk_set h11 0 (.bool true)
    have hk5 : Keep (fun b => b = w.heap.size ∨ b = w.heap.size + 1) wx ((wx.setCell ⟨w.heap.size, 0, none⟩ (.slice va vn vc)).setCell ⟨w.heap.size + 1, 0, none⟩ (.bool true)) := ((Keep.refl (fun b => b = w.heap.size ∨ b = w.heap.size + 1) wx).setCell (p := ⟨w.heap.size, 0, none⟩) (.inl (.inl rfl)) _).setCell (p := ⟨w.heap.size + 1, 0, none⟩) (.inl (.inr rfl)) _
    have hkE : Keep (fun _ => False) w ((wx.setCell ⟨w.heap.size, 0, none⟩ (.slice va vn vc)).setCell ⟨w.heap.size + 1, 0, none⟩ (.bool true)) := hkwx.step hk5 (fun b hb => .inr (by rcases hb with h | h <;> omega))
    have hs95 : w.heap.size + 1 < w9.drew.heap.size := by show w.heap.size + 1 < w9.heap.size; omega
    have hown5 := ownsRow_keep hownv hk5 (fun g hg e => by have := (ownsRow_lt hownv g hg).2; rcases e with e | e <;> omega)
    have hownF : ((wx.setCell ⟨w.heap.size, 0, none⟩ (.slice va vn vc)).setCell ⟨w.heap.size + 1, 0, none⟩ (.bool true)).ownsRow w.heap.size 47 4 (.slice va vn vc) R.length (ncellsOf (fun j => IntKind.u64.wrap (i32At Dd (R.getD j 0))) R.length) := by
      refine ⟨hown5.1, hown5.2.imp (fun h => h) ?_⟩
      rintro ⟨gx, c1, cur, e1, e2, e3⟩
      exact ⟨gx, c1, cur, e1, by omega, e3⟩
    rw [HRR.out] at hownF
    have HF := Lib.hid (And.intro hownF hkE)
    have hc8 := blk_cell h10
    have hc9 := blk_cell h11
    clear hk5 hkE hown5 hownF hownv hkwx hrx10 hrx11 hc10 hf10 hcx11 hfx11 hc12 hf12
    go_wp2_with fail
    refine leaves_cons (f := 39) (args := #[.pointer (some ⟨w.heap.size, 0, none⟩), .pointer (some ⟨w.heap.size + 1, 0, none⟩)]) (by simp) (by simp [go_sem]) ?_
    refine (catch39 ⟨w.heap.size, 0, none⟩ ⟨w.heap.size + 1, 0, none⟩ _).mono ?_
    rintro e u' w'' ⟨rfl, rfl, rfl⟩
    exact ⟨.tuple #[.slice va vn vc, .bool true], by simp [results, Tryz.results25, go_sem, hc8, hc9], _, rfl, HF.out.1, HF.out.2⟩
end Go.Proofs.YtdamippibpbjhaaGreatDoor.I32

/-! All values are numbers of 32 bits. -/
namespace Go.Proofs.YtdamippibpbjhaaGreatDoor
open Go.RowKit

set_option maxRecDepth 100000 in
set_option maxHeartbeats 4000000 in
theorem plainAll_int (A : Option Addr) (l : List SVal) (c : Nat) (w : World) (hl : Vals w A l) (hlen : l.length ≤ 140737488351232) :
    Calls Tryz.prog 20 #[.agg #[.int .i64 2, .int .i64 32, .bool true, .int .i64 0, .int .i64 0, .int .i64 0, .string ⟨#[]⟩, .bool false, .slice none 0 0, .slice none 0 0], .slice A l.length c] w fun e w' => Fit (∀ j (h : j < l.length), l[j].IntOk) e ∧ Keep (fun _ => False) w w' := by
  have hk0 : Keep (fun _ => False) w (w.alloc (.cells #[.int .i64 2, .int .i64 32, .bool true, .int .i64 0, .int .i64 0, .int .i64 0, .string ⟨#[]⟩, .bool false, .slice none 0 0, .slice none 0 0] 44)) := (Keep.refl _ w).alloc _
  have hb1 := blk_new w (.cells #[.int .i64 2, .int .i64 32, .bool true, .int .i64 0, .int .i64 0, .int .i64 0, .string ⟨#[]⟩, .bool false, .slice none 0 0, .slice none 0 0] 44)
  have HF := Lib.hid (fun v hv w => oneFits_int v hv w)
  go_enter Tryz.func20, Tryz.ntmps20
  go_wp2_with fail
  generalize w.alloc (.cells #[.int .i64 2, .int .i64 32, .bool true, .int .i64 0, .int .i64 0, .int .i64 0, .string ⟨#[]⟩, .bool false, .slice none 0 0, .slice none 0 0] 44) = w0 at *
  go_loopw [6, 9] (fun _ i wr => ∃ k : Nat, k ≤ l.length ∧ i = .int .i64 k ∧ Keep (fun _ => False) w0 wr ∧ ∀ j (h : j < l.length), j < k → l[j].IntOk) (fun _ i _ => l.length - (intOf i).toNat)
  case atStart => exact ⟨0, Nat.zero_le _, rfl, Keep.refl _ _, fun j _ hj => absurd hj (by omega)⟩
  case round =>
    obtain ⟨k, hk, rfl, hkr, hr⟩ := hrel
    have HR := Lib.hid hr
    clear hr
    by_cases h : k < l.length
    · obtain ⟨g, o, rfl, hrow⟩ := hl (by omega)
      obtain ⟨x0, x1, x2, x3⟩ := (hrow.keep (hk0.trans hkr) (fun h => h)) k h
      have hk00 : (0 : Int) ≤ (k : Int) := by omega
      have hk1 : (k : Int) < (l.length : Int) := by omega
      have hv : ∃ v, v = l[k] := ⟨_, rfl⟩
      obtain ⟨v, hv⟩ := hv
      rw [← hv] at x0 x1 x2 x3
      have HV := Lib.hid hv
      clear hv
      have HF' := Lib.hid (HF.out v)
      obtain ⟨null, num, text, ka, kn, kc⟩ := v
      simp only at x0 x1 x2 x3
      have hkA := hkr.alloc (.cells #[.bool null, .int .u64 num, .string text, .slice ka kn kc] 47)
      have hb1r := blk_alloc (hkr.blk hb1 (fun h => h)) (.cells #[.bool null, .int .u64 num, .string text, .slice ka kn kc] 47)
      have hb2 := blk_new wr (.cells #[.bool null, .int .u64 num, .string text, .slice ka kn kc] 47)
      have hc1 := blk_cell hb1r
      cases null
      · have HF2 := Lib.hid (HF'.out rfl)
        unfold SVal.agg at HF2
        simp only at HF2
        clear HF'
        go_wp2_with fail
        refine (HF2.out _).mono ?_
        rintro e w1 ⟨⟨b, rfl, hb⟩, hk1⟩
        cases b
        · clear hb
          go_wp2_with fail
          go_ret
          exact ⟨⟨false, rfl, fun h => by cases h⟩, hk0.trans (hkA.trans hk1)⟩
        · have hok := hb rfl
          clear hb
          have HOK := Lib.hid hok
          clear hok
          go_wp2_with fail
          go_roundw
          case rel => exact ⟨k + 1, h, by go_num, hkA.trans hk1, fun j hj hjk => by
            by_cases e : j = k
            · subst e; rw [← HV.out]; exact HOK.out
            · exact HR.out j hj (by omega)⟩
          case measure => simp [intOf]; omega
      · go_wp2_with fail
        go_ret
        exact ⟨⟨false, rfl, fun h => by cases h⟩, hk0.trans hkA⟩
    · obtain rfl : k = l.length := by omega
      go_wp2_with fail
      go_ret
      exact ⟨⟨_, rfl, fun _ j hj => HR.out j hj hj⟩, hk0.trans hkr⟩
end Go.Proofs.YtdamippibpbjhaaGreatDoor

/-! The law on numbers by a dictionary. -/
namespace Go.Proofs.YtdamippibpbjhaaGreatDoor.I32
open Go.RowKit

theorem catB4_length (f : Nat → List Int) (hf : ∀ j, (f j).length = 4) : ∀ n, (catB f n).length = 4 * n
  | 0 => rfl
  | n + 1 => by rw [catB, List.length_append, catB4_length f hf n, hf]; omega
theorem catB4_getD (f : Nat → List Int) (hf : ∀ j, (f j).length = 4) (j i : Nat) (hi : i < 4) : ∀ n, j < n → (catB f n).getD (4 * j + i) 0 = (f j).getD i 0
  | 0, h => absurd h (by omega)
  | n + 1, h => by
    rw [catB, List.getD_eq_getElem?_getD, List.getD_eq_getElem?_getD]
    by_cases e : j = n
    · subst e
      rw [List.getElem?_append_right (by rw [catB4_length f hf]; omega), catB4_length f hf]
      congr 2
      omega
    · rw [List.getElem?_append_left (by rw [catB4_length f hf]; omega), ← List.getD_eq_getElem?_getD, ← List.getD_eq_getElem?_getD]
      exact catB4_getD f hf j i hi n (by omega)
theorem bytes_cat (f : Nat → List Int) (hf : ∀ j, ∀ x ∈ f j, 0 ≤ x ∧ x < 256) : ∀ n, ∀ x ∈ catB f n, 0 ≤ x ∧ x < 256
  | 0 => fun x hx => by simp [catB] at hx
  | n + 1 => fun x hx => by
    rw [catB, List.mem_append] at hx
    rcases hx with hx | hx
    · exact bytes_cat f hf n x hx
    · exact hf n x hx
/-- A number, written and read. -/
theorem i32At_cat (l : List SVal) (j : Nat) (hj : j < l.length) (hv : (pickV l j).num = IntKind.u64.wrap (IntKind.i32.wrap (pickV l j).num)) : IntKind.u64.wrap (i32At (catB (fun j => intB (pickV l j).num) l.length) j) = (pickV l j).num := by
  have key := fun i hi => catB4_getD (fun j => intB (pickV l j).num) (fun j => intB_length _) j i hi l.length hj
  unfold i32At
  rw [show 4 * j = 4 * j + 0 from rfl, key 0 (by omega), key 1 (by omega), key 2 (by omega), key 3 (by omega), intB_get _ 0 (by omega), intB_get _ 1 (by omega), intB_get _ 2 (by omega), intB_get _ 3 (by omega)]
  generalize (pickV l j).num = n at *
  rw [IntKind.wrap_u64, IntKind.wrap_i32] at hv
  rw [IntKind.wrap_u64]
  unfold wrap32
  simp only [Nat.mul_zero, Nat.mul_one, Nat.reduceMul]
  omega
/-- A value that is a number. -/
def ival (n : Int) : SVal := ⟨false, n, ⟨#[]⟩, none, 0, 0⟩
theorem ncellsOf_vcells (S : Nat → Int) (R : List Nat) : ncellsOf (fun j => S (R.getD j 0)) R.length = vcells (R.map fun x => ival (S x)) := by
  have key : ∀ k, k ≤ R.length → ncellsOf (fun j => S (R.getD j 0)) k = vcells ((R.take k).map fun x => ival (S x)) := by
    intro k
    induction k with
    | zero => intro _; simp [ncellsOf, vcells]
    | succ k ih =>
      intro hk
      rw [ncellsOf_succ, ih (by omega), List.take_succ_eq_append_getElem (by omega), List.map_append, vcells_append]
      congr 1
      have e : R.getD k 0 = R[k] := by rw [List.getD_eq_getElem?_getD, List.getElem?_eq_getElem (by omega)]; rfl
      rw [e]
      simp [vcells, ncells, SVal.cells, ival]
  have := key R.length (Nat.le_refl _)
  rw [List.take_length] at this
  exact this
/-- The data of the dictionary and of the runs, read. -/
theorem readInt (l : List SVal) (hok : ∀ j (h : j < l.length), l[j].IntOk) (hN0 : 0 < l.length) (hN : l.length ≤ 100) (rl : List SRunM) (W : Nat) (hW1 : 1 ≤ W) (hW20 : W ≤ 20) (h40 : rl.length ≤ 40) (hrl : ∀ j (h : j < rl.length), rl[j].run.Ok W)
    (all : List Nat) (hall : all = allOf (rl.map SRunM.run)) (hall0 : 0 < all.length) (hallN : ∀ x ∈ all, x < l.length) (g1 c1 g2 c2 : Nat) (eof : Addr) (w : World) (hrow1 : Row w .u8 g1 0 (catB (fun j => intB (pickV l j).num) l.length)) (hrow2 : Row w .u8 g2 0 ((W : Int) :: bytesM rl W rl.length)) (heof : w.cell? ⟨2, 0, none⟩ = some (.iface 226 (.pointer (some eof))))
    (A : Option Addr) (cb : Nat) (bs : List Int) (hA : Ints w A bs) (hlen : bs.length ≤ 50) (hfit : BOk all.length (List.range all.length) bs bs.length) :
    Calls Tryz.prog 25 #[.slice (some ⟨g1, 0, none⟩) (catB (fun j => intB (pickV l j).num) l.length).length c1, .int .i64 l.length, .slice (some ⟨g2, 0, none⟩) ((bytesM rl W rl.length).length + 1) c2, .int .i64 all.length, .slice A bs.length cb] w fun e w' =>
      ∃ out, e = .returned (.tuple #[out, .bool true]) ∧ OV w' w.heap.size out ((readB all bs).2.map fun x => ival (pickV l x).num) ∧ Keep (fun _ => False) w w' := by
  have hokr : ∀ r ∈ rl.map SRunM.run, r.Ok W := fun r hr => by
    simp only [List.mem_map] at hr
    obtain ⟨m, hm, rfl⟩ := hr
    obtain ⟨j, hj, rfl⟩ := List.getElem_of_mem hm
    exact hrl j hj
  have hB : bytesM rl W rl.length = runsB W (rl.map SRunM.run) := by unfold bytesM; rw [List.take_length]
  have hle := runsB_le W hW20 (rl.map SRunM.run) hokr
  have hrat := runs_at W (rl.map SRunM.run) [] (fun x hx => by simp at hx) hokr
  have hal := allOf_le W (rl.map SRunM.run) hokr
  rw [List.nil_append] at hrat
  rw [List.length_map] at hle hal
  have hrl0 : 0 < rl.length := by
    rcases Nat.eq_zero_or_pos rl.length with h | h
    · rw [hall, List.eq_nil_of_length_eq_zero h] at hall0
      simp [allOf, runVals] at hall0
    · exact h
  rw [← hB] at hle hrat
  have hDl := catB4_length (fun j => intB (pickV l j).num) (fun j => intB_length _) l.length
  have hbt : Bytes (catB (fun j => intB (pickV l j).num) l.length) := bytes_of (bytes_cat _ (fun j => numB_bytes _ _) _)
  have hbr : Bytes (bytesM rl W rl.length) := by rw [hB]; exact bytes_of (runsB_byte W _)
  refine (dictRead25 hDl hN0 (by omega) hbt (by omega) (bytesM rl W rl.length) W hW1 hW20 hbr (by omega) (by omega) _ hrat all hall hallN (by rw [hall]; omega) g1 0 c1 g2 0 c2 eof w hrow1 hrow2 heof A cb bs hA hlen (fun c hc => ?_)).mono ?_
  · rw [(readB_map all (bs.take c)).1]
    exact hfit c hc
  · rintro e w' ⟨out, rfl, hown, hk⟩
    refine ⟨out, rfl, ?_, hk⟩
    have e : ((readB all bs).2.map fun x => ival (pickV l x).num) = (readB all bs).2.map fun x => ival (IntKind.u64.wrap (i32At (catB (fun j => intB (pickV l j).num) l.length) x)) := by
      refine List.map_congr_left (fun x hx => ?_)
      have hxl := hallN x (readB_mem all bs x hx)
      rw [i32At_cat l x hxl (by rw [pickV_get l x hxl]; exact (hok x hxl).num)]
    unfold OV
    rw [List.length_map, e, ← ncellsOf_vcells (fun x => IntKind.u64.wrap (i32At (catB (fun j => intB (pickV l j).num) l.length) x))]
    exact hown
/-- What is wanted is what comes. -/
theorem likeInt (l : List SVal) (hok : ∀ j (h : j < l.length), l[j].IntOk) (all : List Nat) (hallN : ∀ x ∈ all, x < l.length) (bs : List Int) :
    ((readB all bs).2.map fun x => ival (pickV l x).num).length = ((readB (List.range all.length) bs).2.map (pickV (all.map (pickV l)))).length ∧
    ∀ j (h : j < ((readB all bs).2.map fun x => ival (pickV l x).num).length) (h' : j < ((readB (List.range all.length) bs).2.map (pickV (all.map (pickV l)))).length),
      (((readB all bs).2.map fun x => ival (pickV l x).num)[j]).Like (((readB (List.range all.length) bs).2.map (pickV (all.map (pickV l))))[j]) := by
  have hm := (readB_map all bs).2
  refine ⟨by rw [List.length_map, List.length_map, hm, List.length_map], fun j h h' => ?_⟩
  rw [List.getElem_map, List.getElem_map]
  have hjr : j < (readB (List.range all.length) bs).2.length := by simpa using h'
  have e : (readB all bs).2[j]'(by simpa using h) = all.getD ((readB (List.range all.length) bs).2[j]) 0 := by
    simp only [hm, List.getElem_map]
  rw [e]
  have hi := List.mem_range.1 (readB_mem _ bs _ (List.getElem_mem hjr))
  generalize (readB (List.range all.length) bs).2[j] = i at *
  have e2 : all.getD i 0 = all[i] := by rw [List.getD_eq_getElem?_getD, List.getElem?_eq_getElem hi]; rfl
  have hx := hallN all[i] (List.getElem_mem hi)
  rw [e2, pickV_get (all.map (pickV l)) i (by simpa using hi), List.getElem_map, pickV_get l _ hx]
  have ht := hok _ hx
  exact ⟨rfl, ht.null, rfl, by show (⟨_⟩ : ByteArray) = _; rw [ht.text], rfl, ht.kn⟩

set_option maxRecDepth 100000 in
set_option maxHeartbeats 4000000 in
theorem awakeInt (g1 c1 g2 g3 : Nat) (eof : Addr) (w : World) (hrow1 : Row w .u8 g1 0 (intB 5)) (hrow2 : Row w .u8 g2 0 [1, 2, 0]) (hrow3 : Row w .i64 g3 0 [1]) (heof : w.cell? ⟨2, 0, none⟩ = some (.iface 226 (.pointer (some eof)))) :
    Calls Tryz.prog 25 #[.slice (some ⟨g1, 0, none⟩) 4 c1, .int .i64 1, .slice (some ⟨g2, 0, none⟩) 3 3, .int .i64 1, .slice (some ⟨g3, 0, none⟩) 1 1] w fun e w' =>
      ∃ out, e = .returned (.tuple #[out, .bool true]) ∧ OV w' w.heap.size out [ival 5] ∧ Keep (fun _ => False) w w' := by
  have hok : ∀ j (h : j < [ival 5].length), [ival 5][j].IntOk := fun j h => by
    obtain rfl : j = 0 := by simpa using h
    exact ⟨rfl, rfl, by show (5 : Int) = IntKind.u64.wrap (IntKind.i32.wrap 5); decide, rfl⟩
  have hr : ∀ j (h : j < [(⟨⟨false, 1, [0]⟩, none, 0⟩ : SRunM)].length), [(⟨⟨false, 1, [0]⟩, none, 0⟩ : SRunM)][j].run.Ok 1 := fun j h => by
    obtain rfl : j = 0 := by simpa using h
    refine ⟨by show (1 : Int) ≤ 1; decide, fun h => (nomatch h), fun _ => ⟨by show (1 : Int) ≤ 300; decide, rfl⟩, fun i => ?_, fun i => ?_⟩
    · cases i <;> exact Int.le_refl _
    · cases i <;> (show (0 : Int) < 2 ^ 1; decide)
  exact readInt [ival 5] hok (by decide) (by decide) [⟨⟨false, 1, [0]⟩, none, 0⟩] 1 (by decide) (by decide) (by decide) hr [0] rfl (by decide) (fun x hx => by simp at hx; subst hx; decide) g1 c1 g2 3 eof w hrow1 hrow2 heof (some ⟨g3, 0, none⟩) 1 [1] (fun _ => ⟨g3, 0, rfl, hrow3⟩) (by decide) (fun c hc => by
    match c, hc with
    | 0, _ => decide
    | 1, _ => decide)
end Go.Proofs.YtdamippibpbjhaaGreatDoor.I32

import Derived.Test.YtdamippibpbjhaaGreatDoorYa32
import Derived.Test.YtdamippibpbjhaaGreatDoorYa33
import Derived.Test.YtdamippibpbjhaaGreatDoorYa36
import Derived.Defers
import Derived.Recover
/-! Texts by a dictionary are read. -/
namespace Go.Proofs.YtdamippibpbjhaaGreatDoor
open Go.RowKit

set_option maxRecDepth 100000 in
theorem catch39 (p q : Addr) (w : World) : CallsD Tryz.prog 39 #[.pointer (some p), .pointer (some q)] .returning w fun e u' w' => e = .returned (.tuple #[]) ∧ u' = .returning ∧ w' = w := by
  refine callsD_of_wpS Tryz.func39 rfl fun c₀ cs hu => ?_
  apply wpS_seq
  apply wpS_region
  simp [wpOpsS, go_sem, recoverD, hu, Tryz.ntmps39, Exit.thenS]
  refine wpS_cond (t := false) (by simp [Act.eval, Array.replicate]) ?_
  refine wpS_of_wp (wp_skip ?_)
  cases c₀
  simp_all [bodyPostS, results, Tryz.results39]
/-- A row of bytes of one's own, by its parts. -/
theorem OB.all {w : World} {base : Nat} {v : Value} {xs : List Int} (h : OB w base v xs) (h0 : 0 < xs.length) : ∃ g c, v = .slice (some ⟨g, 0, none⟩) xs.length c ∧ xs.length ≤ c ∧ base ≤ g ∧ g < w.heap.size ∧ Row w .u8 g 0 xs := by
  rcases h.2 with ⟨_, h1⟩ | ⟨g, cap, cur, rfl, hb, hg, hc, _, _, ht⟩
  · omega
  · refine ⟨g, cap, rfl, hc, hb, blk_lt hg, fun j hj => ?_⟩
    rw [blk_cell hg]
    have h1 := congrArg (fun z => z[j]?) ht
    simp only [Nat.mul_one] at h1
    rw [List.getElem?_take_of_lt hj, Array.getElem?_toList, nums_get hj] at h1
    rw [Nat.zero_add]
    exact h1
theorem readB_mem (l : List Nat) (bs : List Int) : ∀ x ∈ (readB l bs).2, x ∈ l := by
  have key : ∀ (bs : List Int) (s : Nat × List Nat), (∀ x ∈ s.2, x ∈ l) → ∀ x ∈ (bs.foldl (readB1 l) s).2, x ∈ l := by
    intro bs
    induction bs with
    | nil => exact fun s h => h
    | cons b bs ih =>
      refine fun s h => ih _ ?_
      unfold readB1
      split
      · exact h
      · intro x hx
        rw [List.mem_append] at hx
        rcases hx with hx | hx
        · exact h x hx
        · exact List.mem_of_mem_drop (List.mem_of_mem_take hx)
  exact key bs (0, []) (fun x hx => by simp at hx)
theorem textCalls {Dd : List Int} {N : Nat} (Y : TLay Dd N) (T : Nat → List UInt8) (hT : TText Y T) (q1 o : Nat) (R : List Nat) (hR : ∀ x ∈ R, x < N) (X : World) (hrow : Row X .u8 q1 o Dd) :
    ∀ j, j < R.length → ∃ a m d, (R.map (Y.val q1 o))[j]? = some (.slice a m d) ∧ ∀ w1, Keep (fun _ => False) X w1 → Calls Tryz.prog 49 #[.slice a m d] w1 fun e w' =>
      e = .returned (.agg #[.bool false, .int .u64 0, .string ⟨(T (R.getD j 0)).toArray⟩, .slice none 0 0]) ∧ Keep (fun _ => False) w1 w' := fun j hj => by
  have hx : R[j] < N := hR _ (List.getElem_mem hj)
  have e : R.getD j 0 = R[j] := by rw [List.getD_eq_getElem?_getD, List.getElem?_eq_getElem hj]; rfl
  rw [e]
  have hl := hT.len R[j] hx
  have hroom := Y.room R[j] hx
  have hb := hT.byte R[j] hx
  have hm : (R.map (Y.val q1 o))[j]? = some (Y.val q1 o R[j]) := by rw [List.getElem?_map, List.getElem?_eq_getElem hj]; rfl
  rw [hm]
  generalize R[j] = x at *
  unfold TLay.val
  by_cases h0 : Y.len x = 0
  · have hnil : T x = [] := List.eq_nil_of_length_eq_zero (by omega)
    rw [if_pos h0, hnil]
    exact ⟨_, _, _, rfl, fun w1 _ => valueText49 q1 (o + Y.q x) 0 [] w1 (fun i hi => by simp at hi)⟩
  · rw [if_neg h0]
    refine ⟨_, _, _, rfl, fun w1 hk => ?_⟩
    rw [hl]
    refine valueText49 q1 (o + Y.q x + 4) (T x).length (T x) w1 (fun i hi => ?_)
    have h1 := hk.cell (hrow (Y.q x + 4 + i) (by omega)) (fun h => h)
    rw [hb i hi] at h1
    rw [show o + Y.q x + 4 + i = o + (Y.q x + 4 + i) by omega]
    exact h1

set_option maxRecDepth 100000 in
set_option maxHeartbeats 8000000 in
theorem dictRead15 {Dd : List Int} {N : Nat} (Y : TLay Dd N) (T : Nat → List UInt8) (hT : TText Y T) (hN0 : 0 < N) (hN : N ≤ 1000) (hBd : Bytes Dd) (hd9 : Dd.length ≤ 100000000) (D : List Int) (W : Nat) (hW1 : 1 ≤ W) (hW20 : W ≤ 20) (hB : Bytes D) (h9 : D.length ≤ 10000000) (h0 : 0 < D.length) (rs : List Rle) (hR : RunsAt D W 0 rs) (all : List Nat) (hall : all = runVals rs) (hallN : ∀ x ∈ all, x < N) (hall9 : all.length ≤ 20000)
    (g1 o1 c1 g2 o2 c2 : Nat) (eof : Addr) (w : World) (hrow1 : Row w .u8 g1 o1 Dd) (hrow2 : Row w .u8 g2 o2 ((W : Int) :: D)) (heof : w.cell? ⟨2, 0, none⟩ = some (.iface 226 (.pointer (some eof))))
    (A : Option Addr) (cb : Nat) (bs : List Int) (hA : 0 < bs.length → ∃ gb ob, A = some ⟨gb, ob, none⟩ ∧ Row w .i64 gb ob bs) (hlen : bs.length ≤ 50) (hfit : ∀ c, c ≤ bs.length → (readB all (bs.take c)).1 ≤ all.length) :
    Calls Tryz.prog 15 #[.slice (some ⟨g1, o1, none⟩) Dd.length c1, .int .i64 N, .slice (some ⟨g2, o2, none⟩) (D.length + 1) c2, .int .i64 all.length, .slice A bs.length cb] w fun e w' =>
      ∃ out, e = .returned (.tuple #[out, .bool true]) ∧ w'.ownsRow w.heap.size 47 4 out (readB all bs).2.length (tcellsOf (fun j => ⟨(T ((readB all bs).2.getD j 0)).toArray⟩) (readB all bs).2.length) ∧ Keep (fun _ => False) w w' := by
  have h2 : 2 < w.heap.size := World.block_lt_of_cell? w _ heof
  have hDd0 : 0 < Dd.length := by have := Y.room 0 hN0; omega
  have HALL := Lib.hid hall
  clear hall
  go_enter_defers Tryz.func15, Tryz.ntmps15
  go_wp2_with fail
  have hkA : Keep (fun _ => False) w ((w.alloc (.cells #[.slice none 0 0] 36)).alloc (.cells #[.bool false] 4)) := ((Keep.refl _ w).alloc _).alloc _
  have hr10 : ((w.alloc (.cells #[.slice none 0 0] 36)).alloc (.cells #[.bool false] 4)).heap[w.heap.size]? = some (.cells #[.slice none 0 0] 36 (0, 0)) := blk_alloc (blk_new w _) _
  have hr11 : ((w.alloc (.cells #[.slice none 0 0] 36)).alloc (.cells #[.bool false] 4)).heap[w.heap.size + 1]? = some (.cells #[.bool false] 4 (0, 0)) := by have := blk_new (w.alloc (.cells #[.slice none 0 0] 36)) (.cells #[.bool false] 4); simpa using this
  generalize ((w.alloc (.cells #[.slice none 0 0] 36)).alloc (.cells #[.bool false] 4)) = w1 at *
  refine (newPlain40 w1).mono ?_
  rintro e w2 ⟨pd, rfl, hk2, hpd, hpdc⟩
  have hka2 := hkA.step hk2 (fun _ h => h.elim)
  have hs1 := hkA.size
  have hs12 := hk2.size
  have hl11 := blk_lt hr11
  have hlpd := blk_lt hpdc
  go_wp2_with fail
  refine wp_region_takes (by kernel_rfl) ?_
  go_simp
  refine wpAny_pure 0 (by kernel_rfl) rfl rfl (fun _ _ _ h => post_put2 (fn := Tryz.f15) Tryz.results15 _ _ (by decide) (by decide) _ _ _ h) (fun w' => BigFrame.run_move _ rfl w') ?_
  go_simp
  refine wpAny_pure 1 (v := .pointer (some ⟨pd, 0, none⟩)) (by kernel_rfl) rfl rfl (fun _ _ _ h => post_put2 (fn := Tryz.f15) Tryz.results15 _ _ (by decide) (by decide) _ _ _ h) (fun w' => by go_simp) ?_
  go_simp
  refine wpAny_pure 2 (v := .pointer (some ⟨pd, 0, none⟩)) (by kernel_rfl) rfl rfl (fun _ _ _ h => post_put2 (fn := Tryz.f15) Tryz.results15 _ _ (by decide) (by decide) _ _ _ h) (fun w' => by go_simp) ?_
  go_simp
  refine wpAny_pure 3 (by kernel_rfl) rfl rfl (fun _ _ _ h => post_put2 (fn := Tryz.f15) Tryz.results15 _ _ (by decide) (by decide) _ _ _ h) (fun w' => BigFrame.run_move _ rfl w') ?_
  go_simp
  refine wpAny_pure 4 (by kernel_rfl) rfl rfl (fun _ _ _ h => post_put2 (fn := Tryz.f15) Tryz.results15 _ _ (by decide) (by decide) _ _ _ h) (fun w' => BigFrame.run_move _ rfl w') ?_
  go_simp
  refine wpAny_only 5 (by kernel_rfl) rfl ?_
  have hkd2 : Keep (fun _ => False) w w2.drew := hka2.drew
  have HC1 := Lib.hid (copied42 g1 o1 c1 Dd w2.drew hDd0 hd9 (hrow1.keep hkd2 (fun h => h)))
  go_wp2_with fail
  refine HC1.out.mono ?_
  rintro e w3 ⟨v1, rfl, hob1, hk3⟩
  obtain ⟨q1, cq1, rfl, hcq1, hq1b, hq1l, hq1r⟩ := hob1.all hDd0
  have hq1b : w2.heap.size ≤ q1 := by simpa using hq1b
  have hpdc3 := hk3.blk (blk_drew hpdc) (fun h => h)
  have HS1 := Lib.hid (setPlain41 pd N (some ⟨q1, 0, none⟩) Dd.length cq1 _ _ _ _ w3 hpdc3)
  clear HC1
  go_wp2_with fail
  refine wpAny_only 6 (by kernel_rfl) rfl ?_
  go_wp2_with fail
  refine HS1.out.mono ?_
  rintro e w4 ⟨rfl, hk4, hpd4⟩
  have hka4 : Keep (fun _ => False) w w4 := (hkd2.trans hk3).step hk4 (fun b hb => .inr (by have h' : b = pd := hb; omega))
  have hq1r4 := hq1r.keep hk4 (by show q1 ≠ pd; omega)
  have hk34 := hk3.size
  have hk44 := hk4.size
  have hdr2 : w2.drew.heap.size = w2.heap.size := rfl
  clear HS1 hpdc3 hob1 hpdc
  go_wp2_with fail
  refine wpAny_only 7 (by kernel_rfl) rfl ?_
  go_wp2_with fail
  refine wpAny_stop (by kernel_rfl) ?_
  go_wp2_with fail
  refine (newDict43 pd N w4).mono ?_
  rintro e w5 ⟨db, dcb, rfl, hk5, hdb, hdbdc, hdb5, hdc5⟩
  have hka5 := hka4.step hk5 (fun _ h => h.elim)
  have hs5 := hk5.size
  have hldc := blk_lt hdc5
  go_wp2_with fail
  refine wp_region_takes (by kernel_rfl) ?_
  go_simp
  refine wpAny_pure 0 (by kernel_rfl) rfl rfl (fun _ _ _ h => post_put2 (fn := Tryz.f15) Tryz.results15 _ _ (by decide) (by decide) _ _ _ h) (fun w' => BigFrame.run_move _ rfl w') ?_
  go_simp
  refine wpAny_pure 1 (v := .pointer (some ⟨db, 0, none⟩)) (by kernel_rfl) rfl rfl (fun _ _ _ h => post_put2 (fn := Tryz.f15) Tryz.results15 _ _ (by decide) (by decide) _ _ _ h) (fun w' => by go_simp) ?_
  go_simp
  refine wpAny_pure 2 (v := .pointer (some ⟨db, 0, none⟩)) (by kernel_rfl) rfl rfl (fun _ _ _ h => post_put2 (fn := Tryz.f15) Tryz.results15 _ _ (by decide) (by decide) _ _ _ h) (fun w' => by go_simp) ?_
  go_simp
  refine wpAny_pure 3 (by kernel_rfl) rfl rfl (fun _ _ _ h => post_put2 (fn := Tryz.f15) Tryz.results15 _ _ (by decide) (by decide) _ _ _ h) (fun w' => BigFrame.run_move _ rfl w') ?_
  go_simp
  refine wpAny_pure 4 (by kernel_rfl) rfl rfl (fun _ _ _ h => post_put2 (fn := Tryz.f15) Tryz.results15 _ _ (by decide) (by decide) _ _ _ h) (fun w' => BigFrame.run_move _ rfl w') ?_
  go_simp
  refine wpAny_only 5 (by kernel_rfl) rfl ?_
  have hkd5 : Keep (fun _ => False) w w5.drew := hka5.drew
  have HC2 := Lib.hid (copied42 g2 o2 c2 ((W : Int) :: D) w5.drew (by simp) (by simp; omega) (hrow2.keep hkd5 (fun h => h)))
  simp only [List.length_cons] at HC2
  go_wp2_with fail
  refine HC2.out.mono ?_
  rintro e w6 ⟨v2, rfl, hob2, hk6⟩
  obtain ⟨q2, cq2, rfl, hcq2, hq2b, hq2l, hq2r⟩ := hob2.all (by simp)
  have hdr5 : w5.drew.heap.size = w5.heap.size := rfl
  have hq2b : w5.heap.size ≤ q2 := by simpa using hq2b
  simp only [List.length_cons] at hcq2
  have hdb6 := hk6.blk (blk_drew hdb5) (fun h => h)
  have hs6 := hk6.size
  have HS2 := Lib.hid (setDict44 db q2 0 D.length cq2 0 all.length dcb W (List.replicate 6 .nilIface) rfl _ _ _ w6 hdb6 hW20 h0 hcq2 (hq2r 0 (by simp)) (by omega))
  clear HC2
  go_wp2_with fail
  refine wpAny_only 6 (by kernel_rfl) rfl ?_
  go_wp2_with fail
  refine HS2.out.mono ?_
  rintro e w7 ⟨rfl, hk7, rd, bb, hbb, hbr, hdb7, hrd7, cs7, hcs7, hB7⟩
  have hka7 : Keep (fun _ => False) w w7 := (hkd5.trans hk6).step hk7 (fun b hb => .inr (by have h' : b = db := hb; omega))
  have hlrd := blk_lt hrd7
  have hs7 := hk7.size
  have hdc7 := hk7.blk (hk6.blk (blk_drew hdc5) (fun h => h)) (by show dcb ≠ db; omega)
  have hpd7 := hk7.blk (hk6.blk (blk_drew (hk5.blk hpd4 (fun h => h))) (fun h => h)) (by show pd ≠ db; omega)
  have hq17 := ((((hq1r4.keep hk5 (fun h => h)).keep ((Keep.refl (fun _ => False) w5).drew) (fun h => h)).keep hk6 (fun h => h)).keep hk7 (by show q1 ≠ db; omega))
  have hq27 := ((hq2r.keep hk7 (by show q2 ≠ db; omega)).drop 1)
  simp only [List.drop_succ_cons, List.drop_zero] at hq27
  have hX : (⟨bb, db, rd, dcb, pd, q2, 0 + 1, cq2 - 1, D, eof, W, N, 0⟩ : DX).Ok (fun b => b = pd ∨ b = q1) := ⟨by show D.length ≤ cq2 - 1; omega, by show D.length ≤ _; omega, hB, by refine ⟨?_, ?_, ?_, ?_, ?_⟩ <;> (simp only; omega), by refine ⟨?_, ?_, ?_, ?_⟩ <;> (simp only; omega), by refine ⟨?_, ?_, ?_⟩ <;> (simp only; omega), by refine ⟨?_, ?_⟩ <;> (simp only; omega), by refine ⟨?_, ?_⟩ <;> (simp only; omega), fun b hb => by rcases hb with rfl | rfl <;> (refine ⟨?_, ?_, ?_, ?_⟩ <;> (simp only; omega)), hW1, hW20, hN⟩
  have hV := textDec Y q1 0 pd hBd hN0 hN (by omega)
  have hDQ : DQ (VD := TSt Y q1 0 pd) (Y.val q1 0) ⟨bb, db, rd, dcb, pd, q2, 0 + 1, cq2 - 1, D, eof, W, N, 0⟩ (fun b => b = pd ∨ b = q1) all (DX.own ⟨bb, db, rd, dcb, pd, q2, 0 + 1, cq2 - 1, D, eof, W, N, 0⟩ (.slice none 0 0)) w7 0 :=
    DQ.start hX HALL.out hR ⟨some ⟨q1, 0, none⟩, cq1, by rw [Nat.sub_zero, Y.q0, Nat.sub_zero]; exact hpd7, fun _ => ⟨by rw [Y.q0], by rw [Y.q0]; omega⟩, hq17⟩ (fun b hb => by rcases hb with rfl | rfl <;> omega) hq27 (hka7.cell heof (fun h => h)) (by show q2 < _; omega) hdb7 hrd7
      ⟨cs7, hcs7, ⟨hB7.size, hB7.c0, hB7.c1, hB7.c2, hB7.c3, hB7.c4, hB7.raw, hB7.ub⟩⟩ hdc7 (Nat.zero_le _)
  have hltV := hDQ.lt hV
  have hown7 : ∀ b, DX.own ⟨bb, db, rd, dcb, pd, q2, 0 + 1, cq2 - 1, D, eof, W, N, 0⟩ (.slice none 0 0) b → b = bb ∨ b = db ∨ b = rd ∨ b = dcb ∨ b = pd := fun b hb => by
    rcases hb with h | h | h | h | h | h
    · exact .inl h
    · exact .inr (.inl h)
    · exact .inr (.inr (.inl h))
    · exact .inr (.inr (.inr (.inl h)))
    · exact .inr (.inr (.inr (.inr h)))
    · cases h
  have hlow : ∀ b, DX.own ⟨bb, db, rd, dcb, pd, q2, 0 + 1, cq2 - 1, D, eof, W, N, 0⟩ (.slice none 0 0) b → w1.heap.size ≤ b := fun b hb => by
    rcases hown7 b hb with h | h | h | h | h <;> omega
  have HDc : Calls Tryz.prog 45 #[.slice A bs.length cb, .func (.func 46) #[.pointer (some ⟨db, 0, none⟩)] #[], .func (.func 47) #[.pointer (some ⟨db, 0, none⟩)] #[]] w7 fun e w' =>
      ∃ out, e = .returned (.tuple #[out, .bool true]) ∧ w'.ownsRow w7.heap.size 106 1 out (readB all bs).2.length ((readB all bs).2.map (Y.val q1 0)) ∧ Keep (DX.own ⟨bb, db, rd, dcb, pd, q2, 0 + 1, cq2 - 1, D, eof, W, N, 0⟩ (.slice none 0 0)) w7 w' := by
    by_cases h0 : 0 < bs.length
    · obtain ⟨gb, ob, rfl, hbs⟩ := hA h0
      have hgbl : gb < w.heap.size := World.block_lt_of_cell? w _ (hbs 0 h0)
      exact decoded45 hV (Y.form q1 0) hX hDQ hallN hall9 gb ob cb bs (hbs.keep hka7 (fun h => h)) (fun h => by have := hlow _ h; omega) hlen hfit
    · have hbn : bs = [] := List.eq_nil_of_length_eq_zero (by omega)
      subst hbn
      refine (decoded45_nil A cb _ _ w7).mono ?_
      rintro e w' ⟨rfl, rfl⟩
      exact ⟨_, rfl, World.ownsRow_nil _ _ 106 1, Keep.refl _ _⟩
  have hmem := readB_mem all bs
  have hrl : (readB all bs).2.length ≤ 20000 := by
    have h1 := readB_len all bs
    have h2 := hfit bs.length (Nat.le_refl _)
    rw [List.take_length] at h2
    omega
  obtain ⟨R, hR⟩ : ∃ R, R = (readB all bs).2 := ⟨_, rfl⟩
  rw [← hR] at HDc hmem hrl
  have HRR := Lib.hid hR
  have HDc := Lib.hid HDc
  have hr107 := hk7.blk (hk6.blk (blk_drew (hk5.blk (hk4.blk (hk3.blk (blk_drew (hk2.blk hr10 (fun h => h))) (fun h => h)) (by show w.heap.size ≠ pd; omega)) (fun h => h))) (fun h => h)) (by show w.heap.size ≠ db; omega)
  have hr117 := hk7.blk (hk6.blk (blk_drew (hk5.blk (hk4.blk (hk3.blk (blk_drew (hk2.blk hr11 (fun h => h))) (fun h => h)) (by show w.heap.size + 1 ≠ pd; omega)) (fun h => h))) (fun h => h)) (by show w.heap.size + 1 ≠ db; omega)
  have hw17 : w1.heap.size ≤ w7.heap.size := by omega
  have hqn : ∀ b, (b = q1 ∨ b = w.heap.size ∨ b = w.heap.size + 1) → ¬ (b = bb ∨ b = db ∨ b = rd ∨ b = dcb ∨ b = pd) := by
    rintro b (h | h | h) (h' | h' | h' | h' | h') <;> omega
  have HTX := Lib.hid (And.intro hmem (And.intro hallN (And.intro hown7 (And.intro hT (And.intro hq17 hqn)))))
  have HK := Lib.hid hka7
  clear hDQ hV hX hltV hlow hq27 hpd7 hdc7 hB7 hrd7 hcs7 hdb7 hq17 hrow1 hrow2 hka7 hk7 hk6 hk5 hk4 hk3 hk2 hka4 hka5 hka2 hkd2 hkd5 hown7 hqn hmem hallN hA hfit hr10 hr11 hq1r hq2r hq1r4 hdb6 hdb5 hdc5 hpd4 HALL hT hR hkA
  go_wp2_with fail
  refine wpAny_only 7 (by kernel_rfl) rfl ?_
  go_wp2_with fail
  refine wpAny_stop (by kernel_rfl) ?_
  go_wp2_with fail
  refine HDc.out.mono ?_
  rintro e w8 ⟨out, rfl, hown, hk8⟩
  obtain ⟨hmem, hallN, hown7, hT, hq17, hqn⟩ := HTX.out
  have hk8 := hk8.mono hown7
  have hr108 := hk8.blk hr107 (hqn _ (.inr (.inl rfl)))
  have hr118 := hk8.blk hr117 (hqn _ (.inr (.inr rfl)))
  have hq18 := hq17.keep hk8 (hqn _ (.inl rfl))
  have hs8 := hk8.size
  have hkw8 : Keep (fun _ => False) w w8 := HK.out.step hk8 (fun b hb => .inr (by rcases hb with h | h | h | h | h <;> omega))
  obtain ⟨oa, oc, rfl⟩ := own_slice hown
  have hc11 := blk_cell hr118
  have hf11 := blk_frozen hr118
  have hr119 := blk_set hr118 0 (.bool true)
  have hk9 : Keep (fun b => b = w.heap.size + 1) w8 (w8.setCell ⟨w.heap.size + 1, 0, none⟩ (.bool true)) := (Keep.refl (fun b => b = w.heap.size + 1) w8).setCell (p := ⟨w.heap.size + 1, 0, none⟩) (.inl rfl) _
  have hr109 := hk9.blk hr108 (by show w.heap.size ≠ w.heap.size + 1; omega)
  have hkw9 : Keep (fun _ => False) w (w8.setCell ⟨w.heap.size + 1, 0, none⟩ (.bool true)) := hkw8.step hk9 (fun b hb => .inr (by have h' : b = w.heap.size + 1 := hb; omega))
  have hq19 := hq18.keep hk9 (by show q1 ≠ w.heap.size + 1; omega)
  have hown9 := ownsRow_keep hown hk9 (fun g hg e => by have h' : g = w.heap.size + 1 := e; have := (ownsRow_lt hown g hg).2; omega)
  clear HDc hk8 hown hr107 hr117 hr108 hr118 hq17 hq18 hqn hkw8
  go_wp2_with fail
  have hkA9 := hk9
  clear hk9 hc11 hf11
  generalize w8.setCell ⟨w.heap.size + 1, 0, none⟩ (.bool true) = w9 at *
  have hs9 := hkA9.size
  have hcl := textCalls Y T hT q1 0 R (fun x hx => hallN x (hmem x hx)) w9.drew (hq19.keep ((Keep.refl (fun _ => False) w9).drew) (fun h => h))
  have HV := Lib.hid (valued48 w7.heap.size oa R.length oc (R.map (Y.val q1 0)) (fun j => ⟨(T (R.getD j 0)).toArray⟩) w9.drew hrl hown9 hcl)
  clear hcl hmem hallN hown7 hT HTX hq19
  have hc11 : ∀ n, (w9.drewN n).cell? ⟨w.heap.size + 1, 0, none⟩ = some (.bool true) := fun n => by rw [blk_cell (blk_drewN hr119 n)]; rfl
  have hc11d : w9.drew.cell? ⟨w.heap.size + 1, 0, none⟩ = some (.bool true) := hc11 1
  go_wp2_with fail
  refine wp_region_takes (by kernel_rfl) ?_
  go_simp
  refine wpAny_pure 0 (by kernel_rfl) rfl rfl (fun _ _ _ h => post_put2 (fn := Tryz.f15) Tryz.results15 _ _ (by decide) (by decide) _ _ _ h) (fun w' => BigFrame.run_move _ rfl w') ?_
  go_simp
  refine wpAny_two 1 2 (by kernel_rfl) rfl rfl ?_ ?_
  · go_wp2_with fail
    refine HV.out.mono ?_
    rintro e wx ⟨v, rfl, hownv, hkx⟩
    obtain ⟨va, vn, vc, rfl⟩ : ∃ a n c, v = .slice a n c := by
      rcases hownv.2 with ⟨rfl, _⟩ | ⟨_, _, _, rfl, _⟩ <;> exact ⟨_, _, _, rfl⟩
    have hsx : w9.heap.size ≤ wx.heap.size := hkx.size
    have hrx10 := hkx.blk (blk_drew hr109) (fun h => h)
    have hrx11 := hkx.blk (blk_drew hr119) (fun h => h)
    have hkwx : Keep (fun _ => False) w wx := (hkw9.drew).trans hkx
    have hc10 := blk_cell hrx10
    have hf10 := blk_frozen hrx10
    have hcx11 := blk_cell hrx11
    have hfx11 := blk_frozen hrx11
    clear HV hc11 hc11d hr109 hr119 hkw9 hkA9 hown9 hkx
    go_wp2_with fail
    refine wpAny_only 2 (by kernel_rfl) rfl ?_
    go_wp2_with fail
    refine wpAny_only 3 (by kernel_rfl) rfl ?_
    go_wp2_with fail
    have h10 := blk_set hrx10 0 (.slice va vn vc)
    have h11 := blk_far hrx11 (p := ⟨w.heap.size, 0, none⟩) (by show w.heap.size ≠ w.heap.size + 1; omega) (.slice va vn vc)
    have hc12 := blk_cell h11
    have hf12 := blk_frozen h11
    refine wpAny_only 4 (by kernel_rfl) rfl ?_
    go_wp2_with fail
    refine wpAny_stop (by kernel_rfl) ?_
    have h10 := blk_far h10 (p := ⟨w.heap.size + 1, 0, none⟩) (by show w.heap.size + 1 ≠ w.heap.size; omega) (.bool true)
    have h11 := blk_set h11 0 (.bool true)
    have hk5 : Keep (fun b => b = w.heap.size ∨ b = w.heap.size + 1) wx ((wx.setCell ⟨w.heap.size, 0, none⟩ (.slice va vn vc)).setCell ⟨w.heap.size + 1, 0, none⟩ (.bool true)) := ((Keep.refl (fun b => b = w.heap.size ∨ b = w.heap.size + 1) wx).setCell (p := ⟨w.heap.size, 0, none⟩) (.inl (.inl rfl)) _).setCell (p := ⟨w.heap.size + 1, 0, none⟩) (.inl (.inr rfl)) _
    have hkE : Keep (fun _ => False) w ((wx.setCell ⟨w.heap.size, 0, none⟩ (.slice va vn vc)).setCell ⟨w.heap.size + 1, 0, none⟩ (.bool true)) := hkwx.step hk5 (fun b hb => .inr (by rcases hb with h | h <;> omega))
    have hs95 : w.heap.size + 1 < w9.drew.heap.size := by show w.heap.size + 1 < w9.heap.size; omega
    have hown5 := ownsRow_keep hownv hk5 (fun g hg e => by have := (ownsRow_lt hownv g hg).2; rcases e with e | e <;> omega)
    have hownF : ((wx.setCell ⟨w.heap.size, 0, none⟩ (.slice va vn vc)).setCell ⟨w.heap.size + 1, 0, none⟩ (.bool true)).ownsRow w.heap.size 47 4 (.slice va vn vc) R.length (tcellsOf (fun j => ⟨(T (R.getD j 0)).toArray⟩) R.length) := by
      refine ⟨hown5.1, hown5.2.imp (fun h => h) ?_⟩
      rintro ⟨gx, c1, cur, e1, e2, e3⟩
      exact ⟨gx, c1, cur, e1, by omega, e3⟩
    rw [HRR.out] at hownF
    have HF := Lib.hid (And.intro hownF hkE)
    have hc8 := blk_cell h10
    have hc9 := blk_cell h11
    clear hk5 hkE hown5 hownF hownv hkwx hrx10 hrx11 hc10 hf10 hcx11 hfx11 hc12 hf12
    go_wp2_with fail
    refine leaves_cons (f := 39) (args := #[.pointer (some ⟨w.heap.size, 0, none⟩), .pointer (some ⟨w.heap.size + 1, 0, none⟩)]) (by simp) (by simp [go_sem]) ?_
    refine (catch39 ⟨w.heap.size, 0, none⟩ ⟨w.heap.size + 1, 0, none⟩ _).mono ?_
    rintro e u' w'' ⟨rfl, rfl, rfl⟩
    exact ⟨.tuple #[.slice va vn vc, .bool true], by simp [results, Tryz.results15, go_sem, hc8, hc9], _, rfl, HF.out.1, HF.out.2⟩
  · go_wp2_with fail
    refine wpAny_only 1 (by kernel_rfl) rfl ?_
    go_wp2_with fail
    refine HV.out.mono ?_
    rintro e wx ⟨v, rfl, hownv, hkx⟩
    obtain ⟨va, vn, vc, rfl⟩ : ∃ a n c, v = .slice a n c := by
      rcases hownv.2 with ⟨rfl, _⟩ | ⟨_, _, _, rfl, _⟩ <;> exact ⟨_, _, _, rfl⟩
    have hsx : w9.heap.size ≤ wx.heap.size := hkx.size
    have hrx10 := hkx.blk (blk_drew hr109) (fun h => h)
    have hrx11 := hkx.blk (blk_drew hr119) (fun h => h)
    have hkwx : Keep (fun _ => False) w wx := (hkw9.drew).trans hkx
    have hc10 := blk_cell hrx10
    have hf10 := blk_frozen hrx10
    have hcx11 := blk_cell hrx11
    have hfx11 := blk_frozen hrx11
    clear HV hc11 hc11d hr109 hr119 hkw9 hkA9 hown9 hkx
    go_wp2_with fail
    refine wpAny_only 3 (by kernel_rfl) rfl ?_
    go_wp2_with fail
    have h10 := blk_set hrx10 0 (.slice va vn vc)
    have h11 := blk_far hrx11 (p := ⟨w.heap.size, 0, none⟩) (by show w.heap.size ≠ w.heap.size + 1; omega) (.slice va vn vc)
    have hc12 := blk_cell h11
    have hf12 := blk_frozen h11
    refine wpAny_only 4 (by kernel_rfl) rfl ?_
    go_wp2_with fail
    refine wpAny_stop (by kernel_rfl) ?_
    have h10 := blk_far h10 (p := ⟨w.heap.size + 1, 0, none⟩) (by show w.heap.size + 1 ≠ w.heap.size; omega) (.bool true)
    have h11 := blk_set h11 0 (.bool true)
    have hk5 : Keep (fun b => b = w.heap.size ∨ b = w.heap.size + 1) wx ((wx.setCell ⟨w.heap.size, 0, none⟩ (.slice va vn vc)).setCell ⟨w.heap.size + 1, 0, none⟩ (.bool true)) := ((Keep.refl (fun b => b = w.heap.size ∨ b = w.heap.size + 1) wx).setCell (p := ⟨w.heap.size, 0, none⟩) (.inl (.inl rfl)) _).setCell (p := ⟨w.heap.size + 1, 0, none⟩) (.inl (.inr rfl)) _
    have hkE : Keep (fun _ => False) w ((wx.setCell ⟨w.heap.size, 0, none⟩ (.slice va vn vc)).setCell ⟨w.heap.size + 1, 0, none⟩ (.bool true)) := hkwx.step hk5 (fun b hb => .inr (by rcases hb with h | h <;> omega))
    have hs95 : w.heap.size + 1 < w9.drew.heap.size := by show w.heap.size + 1 < w9.heap.size; omega
    have hown5 := ownsRow_keep hownv hk5 (fun g hg e => by have := (ownsRow_lt hownv g hg).2; rcases e with e | e <;> omega)
    have hownF : ((wx.setCell ⟨w.heap.size, 0, none⟩ (.slice va vn vc)).setCell ⟨w.heap.size + 1, 0, none⟩ (.bool true)).ownsRow w.heap.size 47 4 (.slice va vn vc) R.length (tcellsOf (fun j => ⟨(T (R.getD j 0)).toArray⟩) R.length) := by
      refine ⟨hown5.1, hown5.2.imp (fun h => h) ?_⟩
      rintro ⟨gx, c1, cur, e1, e2, e3⟩
      exact ⟨gx, c1, cur, e1, by omega, e3⟩
    rw [HRR.out] at hownF
    have HF := Lib.hid (And.intro hownF hkE)
    have hc8 := blk_cell h10
    have hc9 := blk_cell h11
    clear hk5 hkE hown5 hownF hownv hkwx hrx10 hrx11 hc10 hf10 hcx11 hfx11 hc12 hf12
    go_wp2_with fail
    refine leaves_cons (f := 39) (args := #[.pointer (some ⟨w.heap.size, 0, none⟩), .pointer (some ⟨w.heap.size + 1, 0, none⟩)]) (by simp) (by simp [go_sem]) ?_
    refine (catch39 ⟨w.heap.size, 0, none⟩ ⟨w.heap.size + 1, 0, none⟩ _).mono ?_
    rintro e u' w'' ⟨rfl, rfl, rfl⟩
    exact ⟨.tuple #[.slice va vn vc, .bool true], by simp [results, Tryz.results15, go_sem, hc8, hc9], _, rfl, HF.out.1, HF.out.2⟩
end Go.Proofs.YtdamippibpbjhaaGreatDoor

/-! What batches take of a list; whether lists of values are the same. -/
namespace Go.Proofs.YtdamippibpbjhaaGreatDoor
open Go.RowKit

/-- All batches find what they take. -/
def BOk (n : Nat) (l : List Nat) (bs : List Int) (k : Nat) : Prop := ∀ c, c ≤ k → (readB l (bs.take c)).1 ≤ n
theorem BOk.next {n : Nat} {l : List Nat} {bs : List Int} {k : Nat} (h : BOk n l bs k) (h2 : (readB l (bs.take (k + 1))).1 ≤ n) : BOk n l bs (k + 1) := fun c hc => by
  by_cases e : c = k + 1
  · rw [e]; exact h2
  · exact h c (by omega)

set_option maxRecDepth 100000 in
set_option maxHeartbeats 8000000 in
theorem batched_any (A B : Option Addr) (l : List Nat) (bs : List Int) (c d : Nat) (w : World) (hA : UInts w A (natsI l)) (hc : l.length ≤ c) (hl : l.length ≤ 100000) (hB : Ints w B bs) (hbb : ∀ t, t < bs.length → -9223372036854775808 ≤ bs.getD t 0 ∧ bs.getD t 0 < 9223372036854775808) :
    Calls Tryz.prog 55 #[.slice A l.length c, .slice B bs.length d] w fun e w' => Two (fun v w' => bs.length ≤ 50 ∧ BOk l.length l bs bs.length ∧ OU w' w.heap.size v (natsI (readB l bs).2)) e w' ∧ Keep (fun _ => False) w w' := by
  obtain ⟨i45, hi45, hi45z⟩ := Option.map_eq_some_iff.1 info45
  simp only [Prod.mk.injEq] at hi45z
  obtain ⟨hz1, hz2, hz3⟩ := hi45z
  by_cases h50 : (50 : Int) < (bs.length : Int)
  · go_enter Tryz.func55, Tryz.ntmps55
    go_wp2_with fail
    go_ret2
    exact ⟨.no, Keep.refl _ _⟩
  have HH := Lib.hid (And.intro hA (And.intro hB hbb))
  obtain ⟨N, hN⟩ : ∃ N, N = bs.length := ⟨_, rfl⟩
  obtain ⟨L, hL⟩ : ∃ L, L = l.length := ⟨_, rfl⟩
  rw [← hN] at h50
  rw [← hN, ← hL]
  rw [← hL] at hl hc
  have HN := Lib.hid (And.intro hN hL)
  clear hA hB hbb hN hL
  go_enter Tryz.func55, Tryz.ntmps55
  go_wp2_with fail
  go_loopw [6, 7, 9, 10, 16] (fun vv at' _ _ i wr => ∃ k v : Nat, k ≤ N ∧ i = .int .i64 k ∧ at' = .int .i64 v ∧ v = (readB l (bs.take k)).1 ∧ v ≤ L ∧ BOk L l bs k ∧ OU wr w.heap.size vv (natsI (readB l (bs.take k)).2) ∧ Keep (fun _ => False) w wr) (fun _ _ _ _ i _ => N - (intOf i).toNat)
  case atStart => exact ⟨0, 0, Nat.zero_le _, rfl, rfl, rfl, Nat.zero_le _, fun c hc => by rw [show c = 0 by omega]; exact Nat.zero_le _, OU.nil _ _, Keep.refl _ _⟩
  case round =>
    obtain ⟨k, v, hk, rfl, rfl, hv, hvL, hok, hown, hkr⟩ := hrel
    by_cases h : k < N
    · obtain ⟨gb, ob, rfl, hbs⟩ := HH.out.2.1 (by have := HN.out; omega)
      have hx := hkr.cell (hbs k (by have := HN.out; omega)) (fun h => h)
      have hbc := HH.out.2.2 k (by have := HN.out; omega)
      have hnx := readB_succ l bs k (by have := HN.out; omega)
      have hol := readB_len l (bs.take k)
      generalize hbv : bs.getD k 0 = b at *
      have HOK := Lib.hid hok
      clear hok hbs hbv
      generalize hrb : readB l (bs.take k) = rb at *
      obtain ⟨v', out⟩ := rb
      simp only at hv hol hown
      subst hv
      have HRB := Lib.hid hrb
      clear hrb
      have hk0 : (0 : Int) ≤ (k : Int) := by omega
      have hk1 : (k : Int) < (N : Int) := by omega
      by_cases hmin : b = -9223372036854775808
      · subst hmin
        clear hnx
        have hw : wrap64 9223372036854775808 = -9223372036854775808 := by unfold wrap64; omega
        go_wp2_with fail
        go_ret2
        exact ⟨.no, hkr⟩
      by_cases hneg : b < 0
      · obtain ⟨n, rfl⟩ : ∃ n : Nat, b = -(n : Int) := ⟨(-b).toNat, by omega⟩
        have hna : (-(n : Int)).natAbs = n := by omega
        simp only [readB1, hna] at hnx
        rw [if_pos hneg] at hnx
        have hnn : -(-(n : Int)) = (n : Int) := by omega
        have HNX := Lib.hid hnx
        clear hnx hna
        by_cases hroom : (n : Int) ≤ (L : Int) - (v : Int)
        · have hw64 : wrap64 ((v : Int) + (n : Int)) = (v : Int) + (n : Int) := by unfold wrap64; omega
          go_wp2_with fail
          go_roundw
          case rel => exact ⟨k + 1, v + n, h, by go_num, by go_num, by rw [HNX.out], by omega, HOK.out.next (by rw [HNX.out]; show v + n ≤ L; omega), by rw [HNX.out]; exact hown, hkr⟩
          case measure => simp [intOf]; omega
        · go_wp2_with fail
          go_ret2
          exact ⟨.no, hkr⟩
      · obtain ⟨n, rfl⟩ : ∃ n : Nat, b = (n : Int) := ⟨b.toNat, by omega⟩
        have hna : ((n : Int)).natAbs = n := by omega
        simp only [readB1, hna] at hnx
        rw [if_neg hneg] at hnx
        have HNX := Lib.hid hnx
        clear hnx hna
        by_cases hroom : (n : Int) ≤ (L : Int) - (v : Int)
        · have hw64 : wrap64 ((v : Int) + (n : Int)) = (v : Int) + (n : Int) := by unfold wrap64; omega
          by_cases hn0 : n = 0
          · subst hn0
            go_wp2_with fail
            go_roundw
            case rel => exact ⟨k + 1, v, h, by go_num, rfl, by rw [HNX.out]; rfl, hvL, HOK.out.next (by rw [HNX.out]; show v + 0 ≤ L; omega), by rw [HNX.out]; simpa using hown, hkr⟩
            case measure => simp [intOf]; omega
          · have hn0i : (0 : Int) < (n : Int) := by omega
            obtain ⟨g, o, rfl, hrow⟩ := HH.out.1 (by rw [natsI_length]; have := HN.out; omega)
            have hrow' := (hrow.drop v).take n
            have hrowr := hrow'.keep hkr (fun h => h)
            have hvn : (v : Int) ≤ (v : Int) + (n : Int) := by omega
            have hvc : (v : Int) + (n : Int) ≤ (c : Int) := by omega
            have hcv : ¬ c = v := by omega
            have hvv : v + n - v = n := by omega
            have hxl : ((natsI l).drop v).take n = natsI ((l.drop v).take n) := by simp [natsI, List.map_drop, List.map_take]
            rw [hxl] at hrowr
            have hnl : ((l.drop v).take n).length = n := by have := HN.out; simp; omega
            have hks := hkr.size
            have hown1 := hown
            unfold OU at hown1
            rw [natsI_length] at hown1
            have hnl2 : (nums .u64 (natsI ((l.drop v).take n))).length = (v + n - v) * 1 := by rw [nums_length, natsI_length, hnl]; omega
            obtain ⟨Y, hY⟩ : ∃ Y, Y = (l.drop v).take n := ⟨_, rfl⟩
            rw [← hY] at hrowr hnl hnl2
            have HY := Lib.hid hY
            clear hrow hrow' hxl hY
            go_wp2_with (first | (at_builtin; refine wpList_append_own_at _ rfl _ _ _ rfl w.heap.size 45 i45 (.int .u64 0) 1 8 (by kernel_rfl) hi45 hz1 hz2 hz3 rfl (by omega) u6 out.length (nums .u64 (natsI out)) rfl hown1 ⟨g, o + v, none⟩ (v + n - v) (c - v) (nums .u64 (natsI Y)) rfl hnl2 hrowr.src (nums_ones _ _) (by simp only [maxLen]; omega) (by omega) hks ?_))
            intro v2 w2 hown2 hgrow _ hat2
            have hkf := own_after hkr (Keep.refl _ wr) hown1 (Nat.le_refl _) hgrow
            have hf : OU w2 w.heap.size v2 (natsI (out ++ Y)) := by
              rw [natsI_append]
              exact OU.snoc (xs := natsI out) (ys := natsI Y) (n := n) (by rw [natsI_length]; exact hown2) (by rw [natsI_length, hnl])
            rw [HY.out] at hf
            have HF := Lib.hid (And.intro hf hkf)
            clear hown hown1 hown2 hgrow hat2 hkf hf hkr hrowr hnl hnl2
            go_wp2_with fail
            go_roundw
            case rel => exact ⟨k + 1, v + n, h, by go_num, by go_num, by rw [HNX.out], by omega, HOK.out.next (by rw [HNX.out]; show v + n ≤ L; omega), by rw [HNX.out]; exact HF.out.1, HF.out.2⟩
            case measure => simp [intOf]; omega
        · go_wp2_with fail
          go_ret2
          exact ⟨.no, hkr⟩
    · obtain rfl : k = N := by omega
      obtain ⟨hN1, hN2⟩ := HN.out
      subst hN1
      rw [List.take_length] at hown
      go_wp2_with fail
      go_ret2
      exact ⟨.yes ⟨by omega, by rw [← hN2]; exact hok, hown⟩, hkr⟩

/-- What is taken of a list is what its places are taken for. -/
theorem readB_map (l : List Nat) (bs : List Int) : (readB l bs).1 = (readB (List.range l.length) bs).1 ∧ (readB l bs).2 = (readB (List.range l.length) bs).2.map fun i => l.getD i 0 := by
  have hl : (List.range l.length).map (fun i => l.getD i 0) = l := by
    apply List.ext_getElem?
    intro i
    rw [List.getElem?_map]
    by_cases h : i < l.length
    · rw [List.getElem?_range h]
      simp [List.getD_eq_getElem?_getD, h]
    · rw [List.getElem?_eq_none (by simp; omega), List.getElem?_eq_none (by omega)]
      rfl
  have key : ∀ (bs : List Int) (s t : Nat × List Nat), s.1 = t.1 → s.2 = t.2.map (fun i => l.getD i 0) → (bs.foldl (readB1 l) s).1 = (bs.foldl (readB1 (List.range l.length)) t).1 ∧ (bs.foldl (readB1 l) s).2 = (bs.foldl (readB1 (List.range l.length)) t).2.map fun i => l.getD i 0 := by
    intro bs
    induction bs with
    | nil => exact fun s t h1 h2 => ⟨h1, h2⟩
    | cons b bs ih =>
      refine fun s t h1 h2 => ih _ _ ?_ ?_
      · simp only [readB1, h1]
      · simp only [readB1, h1]
        split
        · exact h2
        · rw [List.map_append, List.map_take, List.map_drop, hl, h2]
  exact key bs (0, []) (0, []) rfl rfl

set_option maxRecDepth 100000 in
set_option maxHeartbeats 8000000 in
theorem batchedValues_any (A B : Option Addr) (l : List SVal) (bs : List Int) (c d : Nat) (w : World) (hA : Vals w A l) (hl : l.length ≤ 100000) (hB : Ints w B bs) (hbb : ∀ t, t < bs.length → -9223372036854775808 ≤ bs.getD t 0 ∧ bs.getD t 0 < 9223372036854775808) :
    Calls Tryz.prog 23 #[.slice A l.length c, .slice B bs.length d] w fun e w' => Two (fun v w' => bs.length ≤ 50 ∧ BOk l.length (List.range l.length) bs bs.length ∧ OV w' w.heap.size v ((readB (List.range l.length) bs).2.map (pickV l))) e w' ∧ Keep (fun _ => False) w w' := by
  obtain ⟨i47, hi47, hi47z⟩ := Option.map_eq_some_iff.1 info47
  simp only [Prod.mk.injEq] at hi47z
  obtain ⟨hz1, hz2, hz3⟩ := hi47z
  have HC := Lib.hid (counted0_any l.length hl w)
  have HH := Lib.hid (And.intro hA (And.intro hB hbb))
  clear hA hB hbb
  go_enter Tryz.func23, Tryz.ntmps23
  go_wp2_with fail
  refine HC.out.mono ?_
  rintro e w1 ⟨v1, rfl, hou, hk1⟩
  obtain ⟨A1, c1, rfl, hc1, hu1⟩ := hou.uints
  rw [upTo_length] at hc1
  have HBt := Lib.hid (batched_any A1 B (List.range l.length) bs c1 d w1 hu1 (by simpa using hc1) (by simpa using hl) (HH.out.2.1.keep hk1 (fun _ _ h => h)) HH.out.2.2)
  rw [upTo_length]
  simp only [List.length_range] at HBt
  clear HC hou hu1
  go_wp2_with fail
  refine HBt.out.mono ?_
  rintro e w2 ⟨⟨v2, b, rfl, hb0, hb1⟩, hk2⟩
  have hk02 := hk1.trans hk2
  cases b
  · obtain rfl := hb0 rfl
    clear hb0 hb1
    go_wp2_with fail
    go_ret2
    exact ⟨.no, hk02⟩
  obtain ⟨h50, hbok, hou2⟩ := hb1 rfl
  have hfit := hbok bs.length (Nat.le_refl _)
  rw [List.take_length] at hfit
  have hrl := readB_len (List.range l.length) bs
  have hmem := readB_mem (List.range l.length) bs
  obtain ⟨X, hX⟩ : ∃ X, X = (readB (List.range l.length) bs).2 := ⟨_, rfl⟩
  rw [← hX] at hou2 hrl hmem
  have HX := Lib.hid hX
  have hXl : X.length ≤ 100000 := by omega
  have hXm : ∀ x ∈ X, x < l.length := fun x hx => List.mem_range.1 (hmem x hx)
  obtain ⟨A2, c2, rfl, hc2, hu2⟩ := hou2.uints
  rw [natsI_length]
  have HBO := Lib.hid (And.intro h50 (And.intro hbok (And.intro hXm hu2)))
  clear hb0 hb1 h50 hbok hou2 hfit hrl hmem hX hu2 hXm HBt
  go_wp2_with fail
  go_loopw [8, 10, 23] (fun vv _ i wr => ∃ k : Nat, k ≤ X.length ∧ i = .int .i64 k ∧ OV wr w2.heap.size vv ((X.take k).map (pickV l)) ∧ Keep (fun _ => False) w2 wr) (fun _ _ i _ => X.length - (intOf i).toNat)
  case atStart => exact ⟨0, Nat.zero_le _, rfl, OV.nil _ _, Keep.refl _ _⟩
  case round =>
    obtain ⟨k, hk, rfl, hown, hk2r⟩ := hrel
    have hkr := hk02.trans hk2r
    by_cases h : k < X.length
    · obtain ⟨gb, ob, rfl, hrow⟩ := HBO.out.2.2.2 (by rw [natsI_length]; omega)
      have hx := hk2r.cell (hrow k (by rw [natsI_length]; exact h)) (fun h => h)
      rw [natsI_getD _ _ h] at hx
      have hk0 : (0 : Int) ≤ (k : Int) := by omega
      have hk1 : (k : Int) < (X.length : Int) := by omega
      have htk := List.take_succ_eq_append_getElem h
      have hxl := HBO.out.2.2.1 X[k] (List.getElem_mem h)
      obtain ⟨x, hxx⟩ : ∃ x, x = X[k] := ⟨_, rfl⟩
      rw [← hxx] at hx htk hxl
      have HT := Lib.hid htk
      clear hrow hxx htk
      obtain ⟨g, o, rfl, hv⟩ := HH.out.1 (by omega)
      obtain ⟨y0, y1, y2, y3⟩ := (hv.keep hkr (fun h => h)) x hxl
      have hxli : (x : Int) < (l.length : Int) := by omega
      have hx0 : (0 : Int) ≤ (x : Int) := by omega
      obtain ⟨v, hvv⟩ : ∃ v, v = l[x] := ⟨_, rfl⟩
      rw [← hvv] at y0 y1 y2 y3
      rw [← pickV_get l x hxl] at hvv
      have HV := Lib.hid hvv
      clear hvv hv
      obtain ⟨null, num, text, ka, kn, kc⟩ := v
      simp only at y0 y1 y2 y3
      have hA : Keep (fun _ => False) wr (wr.alloc (.cells #[.bool null, .int .u64 num, .string text, .slice ka kn kc] 47)) := (Keep.refl _ wr).alloc _
      have hown1 := hown.keep hA (fun _ _ h => h)
      have hnew := blk_new wr (.cells #[.bool null, .int .u64 num, .string text, .slice ka kn kc] 47)
      have hnews : ∀ j u, ([.bool null, .int .u64 num, .string text, .slice ka kn kc] : List Value)[j]? = some u → (wr.alloc (.cells #[.bool null, .int .u64 num, .string text, .slice ka kn kc] 47)).cell? ((⟨wr.heap.size, 0, none⟩ : Addr).add j) = some u := fun j u hj => by
        rw [addr_add0, blk_cell hnew]
        simpa using hj
      have hb1 := (hk2r.trans hA).size
      have hl1 : ((X.take k).map (pickV l)).length = k := by simp; omega
      unfold OV at hown1
      rw [hl1] at hown1
      clear hnew
      go_wp2_with (first | (at_builtin; refine wpList_append_own_at _ rfl _ _ _ rfl w2.heap.size 47 i47 (.agg #[.bool false, .int .u64 0, .string ⟨#[]⟩, .slice none 0 0]) 4 56 (by kernel_rfl) hi47 hz1 hz2 hz3 rfl (by omega) u8 k (vcells ((X.take k).map (pickV l))) rfl hown1 ⟨wr.heap.size, 0, none⟩ 1 1 [.bool null, .int .u64 num, .string text, .slice ka kn kc] rfl rfl hnews (by simp [Value.oneCell']) (by simp only [maxLen]; omega) (by omega) hb1 ?_))
      intro v' w3 hown2 hgrow _ hat2
      have hkf : Keep (fun _ => False) w2 w3 := (hk2r.trans hA).step (grown_keep hgrow) (fun b hb => .inr (ownsRow_lt hown b hb).2)
      have hf := OV.snoc (l := (X.take k).map (pickV l)) (x := ⟨null, num, text, ka, kn, kc⟩) (by rw [hl1, List.map_take]; exact hown2)
      rw [HV.out, show (X.take k).map (pickV l) ++ [pickV l x] = (X.take (k + 1)).map (pickV l) by rw [HT.out]; simp] at hf
      have HF := Lib.hid (And.intro hf hkf)
      clear hown hown1 hown2 hgrow hat2 hkf hf hA hkr hnews y0 y1 y2 y3 hk2r
      go_wp2_with fail
      go_roundw
      case rel => exact ⟨k + 1, h, by go_num, HF.out.1, HF.out.2⟩
      case measure => simp [intOf]; omega
    · obtain rfl : k = X.length := by omega
      rw [List.take_length] at hown
      go_wp2_with fail
      go_ret2
      exact ⟨.yes ⟨HBO.out.1, HBO.out.2.1, by rw [← HX.out]; exact hown.lower hk02.size⟩, hkr⟩
end Go.Proofs.YtdamippibpbjhaaGreatDoor

/-! Whether values are the same. -/
namespace Go.Proofs.YtdamippibpbjhaaGreatDoor
open Go.RowKit

set_option maxRecDepth 100000 in
set_option maxHeartbeats 4000000 in
theorem sameNil (A B : Option Addr) (c d : Nat) (w : World) : Calls Tryz.prog 24 #[.slice A 0 c, .slice B 0 d] w fun e w' => e = .returned (.bool true) ∧ w' = w := by
  go_enter Tryz.func24, Tryz.ntmps24
  go_wp2_with fail
  go_loopw [5, 13] (fun _ i wr => i = .int .i64 0 ∧ wr = w) (fun _ _ _ => 0)
  case atStart => exact ⟨rfl, rfl⟩
  case round =>
    obtain ⟨rfl, rfl⟩ := hrel
    go_wp2_with fail
    go_ret
    exact ⟨rfl, rfl⟩
/-- Two values alike, without others in them. -/
structure SVal.Like (a b : SVal) : Prop where
  na : a.null = false
  nb : b.null = false
  num : a.num = b.num
  text : a.text = b.text
  ka : a.kn = 0
  kb : b.kn = 0
set_option maxRecDepth 100000 in
set_option maxHeartbeats 4000000 in
theorem sameValue_any (a b : SVal) (h : a.Like b) (w : World) : Calls Tryz.prog 17 #[a.agg, b.agg] w fun e w' => e = .returned (.bool true) ∧ Keep (fun _ => False) w w' := by
  obtain ⟨null, num, text, ka, kn, kc⟩ := a
  obtain ⟨null', num', text', ka', kn', kc'⟩ := b
  obtain ⟨h1, h2, h3, h4, h5, h6⟩ := h
  simp only at h1 h2 h3 h4 h5 h6
  subst h1 h2 h3 h4 h5 h6
  unfold SVal.agg
  simp only
  have hk : Keep (fun _ => False) w ((w.alloc (.cells #[.bool false, .int .u64 num, .string text, .slice ka 0 kc] 47)).alloc (.cells #[.bool false, .int .u64 num, .string text, .slice ka' 0 kc'] 47)) := ((Keep.refl _ w).alloc _).alloc _
  have HN := Lib.hid (fun w => sameNil ka ka' kc kc' w)
  go_enter Tryz.func17, Tryz.ntmps17
  go_wp2_with fail
  refine (HN.out _).mono ?_
  rintro e w1 ⟨rfl, hw⟩
  have hw' := hw.symm
  clear hw
  subst hw'
  go_wp2_with fail
  go_ret
  exact ⟨rfl, hk⟩
set_option maxRecDepth 100000 in
set_option maxHeartbeats 4000000 in
theorem sameValues_any (A B : Option Addr) (l m : List SVal) (c d : Nat) (w : World) (hA : Vals w A l) (hB : Vals w B m) (hlen : l.length = m.length) (hl9 : l.length ≤ 1000000) (hlike : ∀ j (h : j < l.length) (h' : j < m.length), l[j].Like m[j]) :
    Calls Tryz.prog 24 #[.slice A l.length c, .slice B m.length d] w fun e w' => e = .returned (.bool true) ∧ Keep (fun _ => False) w w' := by
  rw [← hlen]
  have HL := Lib.hid (And.intro hlen hlike)
  clear hlen hlike
  go_enter Tryz.func24, Tryz.ntmps24
  go_wp2_with fail
  go_loopw [5, 13] (fun _ i wr => ∃ k : Nat, k ≤ l.length ∧ i = .int .i64 k ∧ Keep (fun _ => False) w wr) (fun _ i _ => l.length - (intOf i).toNat)
  case atStart => exact ⟨0, Nat.zero_le _, rfl, Keep.refl _ _⟩
  case round =>
    obtain ⟨k, hk, rfl, hkr⟩ := hrel
    by_cases h : k < l.length
    · have h' : k < m.length := by have := HL.out.1; omega
      obtain ⟨g, o, rfl, hv⟩ := hA (by omega)
      obtain ⟨g', o', rfl, hv'⟩ := hB (by omega)
      obtain ⟨y0, y1, y2, y3⟩ := (hv.keep hkr (fun h => h)) k h
      obtain ⟨z0, z1, z2, z3⟩ := (hv'.keep hkr (fun h => h)) k h'
      have HS := Lib.hid (fun w => sameValue_any l[k] m[k] (HL.out.2 k h h') w)
      have hk0 : (0 : Int) ≤ (k : Int) := by omega
      have hk1 : (k : Int) < (l.length : Int) := by omega
      generalize l[k] = a at *
      generalize m[k] = b at *
      obtain ⟨null, num, text, ka, kn, kc⟩ := a
      obtain ⟨null', num', text', ka', kn', kc'⟩ := b
      simp only [SVal.agg] at y0 y1 y2 y3 z0 z1 z2 z3 HS
      have y0 : ∀ n, (wr.drewN n).cell? _ = _ := fun _ => y0
      have y1 : ∀ n, (wr.drewN n).cell? _ = _ := fun _ => y1
      have y2 : ∀ n, (wr.drewN n).cell? _ = _ := fun _ => y2
      have y3 : ∀ n, (wr.drewN n).cell? _ = _ := fun _ => y3
      have z0 : ∀ n, (wr.drewN n).cell? _ = _ := fun _ => z0
      have z1 : ∀ n, (wr.drewN n).cell? _ = _ := fun _ => z1
      have z2 : ∀ n, (wr.drewN n).cell? _ = _ := fun _ => z2
      have z3 : ∀ n, (wr.drewN n).cell? _ = _ := fun _ => z3
      go_wp2_with fail
      refine wp_region_mid 8 (by kernel_rfl) (by kernel_rfl) rfl ?_
      simp only [List.take_succ_cons, List.take_zero, List.drop_succ_cons, List.drop_zero]
      repeat (go_big_quiet_step (fail))
      refine wpQuiet_nil ?_
      rintro _ ⟨nq, rfl⟩
      go_wp2_with fail
      refine (HS.out _).mono ?_
      rintro e w1 ⟨rfl, hk1'⟩
      go_wp2_with fail
      repeat (go_big_quiet_step (fail))
      refine wpQuiet_nil ?_
      rintro _ ⟨nq2, rfl⟩
      go_wp2_with fail
      go_roundw
      case rel => exact ⟨k + 1, h, by go_num, ((hkr.drewN nq).trans hk1').drewN nq2⟩
      case measure => simp [intOf]; omega
    · obtain rfl : k = l.length := by omega
      go_wp2_with fail
      go_ret
      exact ⟨rfl, hkr⟩
end Go.Proofs.YtdamippibpbjhaaGreatDoor

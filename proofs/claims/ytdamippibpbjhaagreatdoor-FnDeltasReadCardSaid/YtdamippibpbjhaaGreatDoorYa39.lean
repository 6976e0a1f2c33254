import Derived.Test.YtdamippibpbjhaaGreatDoorYa26
import Derived.Test.YtdamippibpbjhaaGreatDoorYa38
import Derived.Test.YtdamippibpbjhaaGreatDoorYa28
import Derived.Test.YtdamippibpbjhaaGreatDoorYa18
import Derived.Test.YtdamippibpbjhaaGreatDoorYa30
/-! Numbers of a width are read. -/
namespace Go.Proofs.YtdamippibpbjhaaGreatDoor
open Go.RowKit

theorem takenL_mem (l : List Int) : ∀ (bs : List Int) (v : Nat), ∀ x ∈ takenL l v bs, ∃ t, t < l.length ∧ x = l.getD t 0
  | [], _ => by simp [takenL]
  | b :: bs, v => by
    intro x hx
    rw [takenL, List.mem_append] at hx
    rcases hx with hx | hx
    · split at hx
      · have hx := List.mem_of_mem_take hx
        have hx := List.mem_of_mem_drop hx
        obtain ⟨t, ht, rfl⟩ := List.getElem_of_mem hx
        exact ⟨t, ht, by rw [List.getD_eq_getElem?_getD, List.getElem?_eq_getElem ht]; rfl⟩
      · simp at hx
    · split at hx
      · simp at hx
      · exact takenL_mem l bs _ x hx

set_option maxRecDepth 100000 in
set_option maxHeartbeats 4000000 in
theorem read64_any (D : Value) (n : Int) (B : Value) (T : List Int) (w : World) (h : Calls Tryz.prog 29 #[D, .int .i64 n, B] w fun e w' => ∃ out, e = .returned (.tuple #[out, .bool true]) ∧ w'.ownsRow w.heap.size 2 1 out T.length (ints64 T) ∧ Keep (fun _ => False) w w') :
    Calls Tryz.prog 10 #[.int .i64 64, D, .int .i64 n, B] w fun e w' => ∃ out, e = .returned (.tuple #[out, .bool true]) ∧ w'.ownsRow w.heap.size 2 1 out T.length (ints64 T) ∧ Keep (fun _ => False) w w' := by
  have H := Lib.hid h
  clear h
  go_enter Tryz.func10, Tryz.ntmps10
  go_wp2_with fail
  refine H.out.mono ?_
  rintro e w1 ⟨out, rfl, ho, hk⟩
  go_wp2_with fail
  go_ret2
  exact ⟨out, rfl, ho, hk⟩

set_option maxRecDepth 100000 in
set_option maxHeartbeats 4000000 in
theorem read32_any (D : Value) (n : Int) (B : Value) (T : List Int) (w : World) (hT : T.length ≤ 2000) (hb : ∀ j, j < T.length → -2147483648 ≤ T.getD j 0 ∧ T.getD j 0 ≤ 2147483647)
    (h : Calls Tryz.prog 30 #[D, .int .i64 n, B] w fun e w' => ∃ out, e = .returned (.tuple #[out, .bool true]) ∧ w'.ownsRow w.heap.size 21 1 out T.length (ints32 T) ∧ Keep (fun _ => False) w w') :
    Calls Tryz.prog 10 #[.int .i64 32, D, .int .i64 n, B] w fun e w' => ∃ out, e = .returned (.tuple #[out, .bool true]) ∧ w'.ownsRow w.heap.size 2 1 out T.length (ints64 T) ∧ Keep (fun _ => False) w w' := by
  have H := Lib.hid h
  clear h
  obtain ⟨i2, hi2, hi2z⟩ := Option.map_eq_some_iff.1 info2
  simp only [Prod.mk.injEq] at hi2z
  obtain ⟨hz1, hz2, hz3⟩ := hi2z
  go_enter Tryz.func10, Tryz.ntmps10
  go_wp2_with fail
  refine H.out.mono ?_
  rintro e w1 ⟨out, rfl, ho, hk⟩
  obtain ⟨oa, oc, rfl⟩ : ∃ a c, out = .slice a T.length c := by
    rcases ho.2 with ⟨rfl, h0⟩ | ⟨_, _, _, rfl, _⟩
    · exact ⟨none, 0, by rw [h0]⟩
    · exact ⟨_, _, rfl⟩
  have hcell : ∀ j, j < T.length → ∃ gx, oa = some ⟨gx, 0, none⟩ ∧ w1.cell? ⟨gx, j, none⟩ = some (.int .i32 (T.getD j 0)) := fun j hj => by
    rcases ho.2 with ⟨e, h0⟩ | ⟨gx, cap, cur, e, hb, hg, hc, _, hcs, ht⟩
    · omega
    · cases e
      refine ⟨gx, rfl, ?_⟩
      rw [blk_cell hg]
      have h1 := congrArg (fun z => z[j]?) ht
      simp only [Nat.mul_one, ints32, List.getElem?_map] at h1
      rw [List.getElem?_take_of_lt hj, Array.getElem?_toList, List.getElem?_eq_getElem hj] at h1
      rw [h1, List.getD_eq_getElem?_getD, List.getElem?_eq_getElem hj]
      rfl
  have hs1 := hk.size
  obtain ⟨N, hN⟩ : ∃ N, N = T.length := ⟨_, rfl⟩
  rw [← hN] at hT hcell hb ⊢
  have HN := Lib.hid hN
  clear hN ho H
  go_wp2_with fail
  go_loopw [12, 14, 32] (fun vv _ i wr => ∃ k : Nat, k ≤ N ∧ i = .int .i64 k ∧ wr.ownsRow w1.heap.size 2 1 vv k (ints64 (T.take k)) ∧ Keep (fun _ => False) w1 wr) (fun _ _ i _ => N - (intOf i).toNat)
  case atStart => exact ⟨0, Nat.zero_le _, rfl, World.ownsRow_nil _ _ 2 1, Keep.refl _ _⟩
  case round =>
    obtain ⟨k, hkN, rfl, hown, hkw⟩ := hrel
    by_cases h : k < N
    · obtain ⟨gx, rfl, hx⟩ := hcell k h
      have hx' := hkw.cell hx (fun h => h)
      have hbx := hb k h
      have htk : ints64 (T.take (k + 1)) = ints64 (T.take k) ++ [.int .i64 (T.getD k 0)] := by
        have hkl : k < T.length := by have := HN.out; omega
        rw [List.take_succ_eq_append_getElem hkl, List.getD_eq_getElem?_getD, List.getElem?_eq_getElem hkl]
        simp only [ints64, List.map_append, List.map_cons, List.map_nil]
        rfl
      generalize T.getD k 0 = x at *
      have HT := Lib.hid htk
      clear htk
      have hk0 : (0 : Int) ≤ (k : Int) := by omega
      have hk1 : (k : Int) < (N : Int) := by omega
      have hw64 : wrap64 x = x := by unfold wrap64; omega
      have hA : Keep (fun _ => False) wr (wr.alloc (.cells #[.int .i64 x] 2)) := (Keep.refl _ wr).alloc _
      have hown1 := ownsRow_keep hown hA (fun _ _ h => h)
      have hsz := hkw.size
      go_wp2_with (first | (at_builtin; refine wpList_append_own_at _ rfl _ _ _ rfl w1.heap.size 2 i2 (.int .i64 0) 1 8 (by kernel_rfl) hi2 hz1 hz2 hz3 rfl (by omega) u12 k (ints64 (T.take k)) rfl hown1 ⟨wr.heap.size, 0, none⟩ 1 1 [.int .i64 x] rfl rfl (World.news_of_block (cs := #[.int .i64 x]) (t := 2) (fr := (0, 0)) (blk_new wr _)) (by simp [Value.oneCell']) (by simp only [maxLen]; omega) (by omega) (by simp; omega) ?_))
      intro v' w2 hown2 hgrow _ _
      have hkf := own_after hkw hA hown (Nat.le_refl _) hgrow
      rw [← HT.out] at hown2
      have HX := Lib.hid (And.intro hown2 hkf)
      clear hown2 hkf hgrow hown hown1 hA hkw
      go_wp2_with fail
      go_roundw
      case rel => exact ⟨k + 1, h, by go_num, HX.out.1, HX.out.2⟩
      case measure => simp [intOf]; omega
    · obtain rfl : k = N := by omega
      have hkf := hk.step hkw (fun _ h => h.elim)
      have hTk : T.take k = T := by rw [HN.out, List.take_length]
      rw [hTk] at hown
      go_wp2_with fail
      go_ret2
      have hkT := HN.out
      subst hkT
      refine ⟨u12, rfl, ⟨hown.1, hown.2.imp (fun h => h) ?_⟩, hkf⟩
      rintro ⟨g, c, cur, e1, e2, e3⟩
      exact ⟨g, c, cur, e1, by omega, e3⟩
end Go.Proofs.YtdamippibpbjhaaGreatDoor

/-! The law on deltas: what the reference writes is read back. -/
namespace Go.Proofs.YtdamippibpbjhaaGreatDoor
open Go.RowKit

theorem OB.cap {w : World} {base n c : Nat} {A : Option Addr} {xs : List Int} (h : OB w base (.slice A n c) xs) : n ≤ c := by
  rcases h.2 with ⟨h1, _⟩ | ⟨g, cap, cur, he, _, _, hc, _⟩
  · cases h1; exact Nat.le_refl _
  · cases he; exact hc
theorem ints_own {w : World} {base : Nat} {v : Value} {T : List Int} (h : w.ownsRow base 2 1 v T.length (ints64 T)) : ∃ A c, v = .slice A T.length c ∧ Ints w A T := by
  rcases h.2 with ⟨rfl, h0⟩ | ⟨g, cap, cur, rfl, _, hg, _, _, hcs, ht⟩
  · exact ⟨none, 0, by rw [h0], fun h => absurd h (by omega)⟩
  · refine ⟨_, _, rfl, fun _ => ⟨g, 0, rfl, fun j hj => ?_⟩⟩
    rw [blk_cell hg, Nat.zero_add]
    have h1 := congrArg (fun z => z[j]?) ht
    simp only [Nat.mul_one] at h1
    rw [List.getElem?_take_of_lt hj, Array.getElem?_toList] at h1
    rw [h1]
    exact nums_get hj
theorem read_back (y : Way) (hy : y.Wf) (hM : y.M ≤ 32) (hS : 128 ≤ y.S ∧ y.S ≤ 1024 ∧ y.S % 128 = 0) (hn : 32 ≤ y.n ∧ y.n ≤ 1024 ∧ y.n % 32 = 0) (ho : y.odd < 256) (l bs : List Int) (hl0 : 0 < l.length) (hll : l.length ≤ 2000)
    (hl : ∀ t, t < l.length → -9223372036854775808 ≤ l.getD t 0 ∧ l.getD t 0 < 9223372036854775808) (hl32 : y.W = 32 → ∀ t, t < l.length → -2147483648 ≤ l.getD t 0 ∧ l.getD t 0 ≤ 2147483647)
    (nb : Nat) (hnb : ∀ k, k * y.S + 1 < l.length → k < nb) (hmax : (y.put l nb).length ≤ 140737488351232) (base : Nat) (v : Value) (w : World) (hv : OB w base v (y.put l nb)) (eof : Addr) (heof : w.cell? ⟨2, 0, none⟩ = some (.iface 226 (.pointer (some eof))))
    (A : Option Addr) (cb : Nat) (hA : Ints w A bs) (hb : BFit bs) :
    Calls Tryz.prog 10 #[.int .i64 y.W, v, .int .i64 l.length, .slice A bs.length cb] w fun e w' =>
      ∃ out, e = .returned (.tuple #[out, .bool true]) ∧ w'.ownsRow w.heap.size 2 1 out (takenL l 0 bs).length (ints64 (takenL l 0 bs)) ∧ Keep (fun _ => False) w w' := by
  obtain ⟨n1, n2, n3, n4, e1, e2, e3, e4, e5⟩ := y.head_leb l nb (by omega) (by omega) (by omega) (hl 0 hl0)
  obtain ⟨g, c, rfl, hr⟩ := hv.parts (by have := e1.lt; omega)
  have hcap := hv.cap
  have hg := (ownsRow_lt hv g rfl).1
  have hB := bytes_of (y.put_bytes hy ho l nb)
  rcases hy.W with h32 | h64
  · rw [h32]
    refine read32_any _ _ _ _ w (by have := takenL_len l bs 0; omega) (fun j hj => ?_) (deltasRead32 (y.lay hy ho l nb hnb) hy h32 hM hS hn hll (hl32 h32) (hl32 h32 0 hl0) n1 n2 n3 n4 e1 e2 e3 e4 e5 g 0 c eof w hcap hmax hB hr hg heof A cb bs hA hb.1 hb.2)
    obtain ⟨t, ht, e⟩ := takenL_mem l bs 0 ((takenL l 0 bs).getD j 0) (by rw [List.getD_eq_getElem?_getD, List.getElem?_eq_getElem hj]; exact List.getElem_mem hj)
    rw [e]
    exact hl32 h32 t ht
  · rw [h64]
    exact read64_any _ _ _ _ w (deltasRead64 (y.lay hy ho l nb hnb) hy h64 hM hS hn hll hl (hl 0 hl0) n1 n2 n3 n4 e1 e2 e3 e4 e5 g 0 c eof w hcap hmax hB hr hg heof A cb bs hA hb.1 hb.2)
/-- The way that blocks of the law's settings are written. -/
theorem way_of {W S M More : Int} {odd : Bool} (hW : W = 32 ∨ W = 64) (h : YFit S M More) : ∃ y : Way, W = y.W ∧ S = y.S ∧ M = y.M ∧ More = y.more ∧ y.odd = (if odd then 7 else 0) ∧ y.Wf ∧ y.M ≤ 32 ∧ (128 ≤ y.S ∧ y.S ≤ 1024 ∧ y.S % 128 = 0) ∧ (32 ≤ y.n ∧ y.n ≤ 1024 ∧ y.n % 32 = 0) ∧ y.more ≤ 8 := by
  obtain ⟨h1, h2, h3, h4, h5, h6, h7, h8⟩ := h
  obtain ⟨Wn, rfl⟩ := Int.eq_ofNat_of_zero_le (show 0 ≤ W by omega)
  obtain ⟨Sn, rfl⟩ := Int.eq_ofNat_of_zero_le (show 0 ≤ S by omega)
  obtain ⟨Mn, rfl⟩ := Int.eq_ofNat_of_zero_le (show 0 ≤ M by omega)
  obtain ⟨Rn, rfl⟩ := Int.eq_ofNat_of_zero_le (show 0 ≤ More by omega)
  have e5 : Sn % Mn = 0 := by exact Int.ofNat.inj (by rw [Int.ofNat_eq_natCast, Int.natCast_emod]; exact h5)
  have e6 : Sn / Mn % 32 = 0 := by rw [← Int.natCast_ediv] at h6; omega
  have hd := Nat.div_add_mod Sn Mn
  rw [e5, Nat.add_zero] at hd
  have hn0 : 0 < Sn / Mn := Nat.pos_of_ne_zero (fun e => by rw [e] at hd; omega)
  have hn1 : Sn / Mn ≤ Sn := Nat.div_le_self _ _
  have hMM : Mn * 32 ≤ Mn * (Sn / Mn) := Nat.mul_le_mul_left _ (by omega)
  exact ⟨⟨Wn, Sn, Mn, Sn / Mn, Rn, if odd then 7 else 0⟩, rfl, rfl, rfl, rfl, rfl, ⟨by simp only; omega, hd.symm, by simp only; omega, hn0, by simp only; omega⟩, by simp only; omega, by simp only; omega, by simp only; omega, by simp only; omega⟩

set_option maxRecDepth 100000 in
set_option maxHeartbeats 8000000 in
theorem law_any (W : Int) (A B : Option Addr) (l bs : List Int) (c d : Nat) (S M More : Int) (odd : Bool) (eof : Addr) (w : World) (hA : Ints w A l) (hB : Ints w B bs) (hc : l.length ≤ c)
    (hlen : l.length ≤ 140737488351232) (hlenb : bs.length ≤ 140737488351232) (hl : ∀ t, t < l.length → -9223372036854775808 ≤ l.getD t 0 ∧ l.getD t 0 < 9223372036854775808)
    (heof : w.cell? ⟨2, 0, none⟩ = some (.iface 226 (.pointer (some eof)))) :
    Calls Tryz.prog 3 #[.int .i64 W, .slice A l.length c, .agg #[.int .i64 S, .int .i64 M, .int .i64 More, .bool odd], .slice B bs.length d] w fun e w' => e = .returned (.bool true) ∧ Keep (fun _ => False) w w' := by
  have HF := Lib.hid (fun w (h : Ints w A l) => longsFit_any A l c W w h hlen hl)
  have HY := Lib.hid (fun w => fits_any S M More odd w)
  have HB := Lib.hid (fun w (h : Ints w B bs) => batchesFit_any B bs d w h hlenb)
  have HI := Lib.hid (And.intro hA (And.intro hB (And.intro hl heof)))
  clear hA hB hl heof
  have hkr : Keep (fun _ => False) w (w.alloc (.cells #[.int .i64 S, .int .i64 M, .int .i64 More, .bool odd] 24)) := (Keep.refl _ w).alloc _
  have hbx : (w.alloc (.cells #[.int .i64 S, .int .i64 M, .int .i64 More, .bool odd] 24)).heap[w.heap.size]? = some (.cells #[.int .i64 S, .int .i64 M, .int .i64 More, .bool odd] 24 (0, 0)) := blk_new w _
  by_cases h1 : (2147483647 : Int) < (l.length : Int)
  · go_enter Tryz.func3, Tryz.ntmps3
    go_wp2_with fail
    go_ret
    exact ⟨rfl, hkr⟩
  by_cases h2 : (2147483647 : Int) < (bs.length : Int)
  · go_enter Tryz.func3, Tryz.ntmps3
    go_wp2_with fail
    go_ret
    exact ⟨rfl, hkr⟩
  go_enter Tryz.func3, Tryz.ntmps3
  go_wp2_with fail
  generalize w.alloc (.cells #[.int .i64 S, .int .i64 M, .int .i64 More, .bool odd] 24) = w0 at *
  refine (HF.out _ (HI.out.1.keep hkr (fun _ _ h => h))).mono ?_
  rintro e w1 ⟨⟨b, rfl, hb⟩, hw⟩
  have hw' := hw.symm
  clear hw
  subst hw'
  cases b
  · clear hb
    go_wp2_with fail
    go_ret
    exact ⟨rfl, hkr⟩
  have hL := hb rfl
  clear hb
  have HL := Lib.hid hL
  clear hL
  by_cases hl0 : l.length = 0
  · have hl0b : ((l.length : Int) == 0) = true := by simp [hl0]
    go_wp2_with fail
    go_ret
    exact ⟨rfl, hkr⟩
  have hl0b : ((l.length : Int) == 0) = false := beq_eq_false_iff_ne.2 (by omega)
  have hcw00 : w0.cell? ⟨w.heap.size, 0, none⟩ = some (.int .i64 S) := by rw [blk_cell hbx]; rfl
  have hcw01 : w0.cell? ⟨w.heap.size, 1, none⟩ = some (.int .i64 M) := by rw [blk_cell hbx]; rfl
  have hcw02 : w0.cell? ⟨w.heap.size, 2, none⟩ = some (.int .i64 More) := by rw [blk_cell hbx]; rfl
  have hcw03 : w0.cell? ⟨w.heap.size, 3, none⟩ = some (.bool odd) := by rw [blk_cell hbx]; rfl
  go_wp2_with fail
  refine (HY.out _).mono ?_
  rintro e w2 ⟨⟨b, rfl, hb⟩, hk2⟩
  cases b
  · clear hb
    go_wp2_with fail
    go_ret
    exact ⟨rfl, hkr.trans hk2⟩
  have HYF := Lib.hid (hb rfl)
  clear hb
  go_wp2_with fail
  have hbx2 := hk2.blk hbx (fun h => h)
  have hk02 := hkr.trans hk2
  clear hbx hkr hk2 hcw00 hcw01 hcw02 hcw03
  have hcw20 : w2.cell? ⟨w.heap.size, 0, none⟩ = some (.int .i64 S) := by rw [blk_cell hbx2]; rfl
  have hcw21 : w2.cell? ⟨w.heap.size, 1, none⟩ = some (.int .i64 M) := by rw [blk_cell hbx2]; rfl
  have hcw22 : w2.cell? ⟨w.heap.size, 2, none⟩ = some (.int .i64 More) := by rw [blk_cell hbx2]; rfl
  have hcw23 : w2.cell? ⟨w.heap.size, 3, none⟩ = some (.bool odd) := by rw [blk_cell hbx2]; rfl
  refine (HB.out _ (HI.out.2.1.keep hk02 (fun _ _ h => h))).mono ?_
  rintro e w3 ⟨⟨b, rfl, hb⟩, hw⟩
  have hw' := hw.symm
  clear hw
  subst hw'
  cases b
  · clear hb
    go_wp2_with fail
    go_ret
    exact ⟨rfl, hk02⟩
  have HBF := Lib.hid (hb rfl)
  clear hb HF HY HB
  obtain ⟨y, rfl, rfl, rfl, rfl, hodd, hwf, hM, hS, hn, hmore⟩ := way_of (odd := odd) HL.out.1 HYF.out
  have HPD := Lib.hid (putDeltas_any y A l c odd w2 (HI.out.1.keep hk02 (fun _ _ h => h)) (by omega) HL.out.2.1 hc hwf.W hwf ⟨hS.1, hS.2.1⟩ hM hmore hodd HI.out.2.2.1)
  have HWY := Lib.hid (And.intro hodd (And.intro hwf (And.intro hM (And.intro hS hn))))
  clear hodd hwf hM hS hn hmore
  go_wp2_with fail
  refine HPD.out.mono ?_
  rintro e w4 ⟨v, nb, rfl, hOB, hnb, hpl, hk4⟩
  have hk24 := hk02.trans hk4
  have HRB := Lib.hid (read_back y HWY.out.2.1 HWY.out.2.2.1 HWY.out.2.2.2.1 HWY.out.2.2.2.2 (by rw [HWY.out.1]; split <;> omega) l bs (by omega) HL.out.2.1 HI.out.2.2.1 (fun h32 => HL.out.2.2 (by rw [h32]; rfl)) nb hnb hpl _ v w4 hOB eof (hk24.cell HI.out.2.2.2 (fun h => h)) B d (HI.out.2.1.keep hk24 (fun _ _ h => h)) HBF.out)
  clear hOB hnb hpl HPD
  go_wp2_with fail
  refine HRB.out.mono ?_
  rintro e w5 ⟨out, rfl, hout, hk5⟩
  have hk25 := hk24.trans hk5
  have HTK := Lib.hid (taken_any A B l bs c d w5 (HI.out.1.keep hk25 (fun _ _ h => h)) (HI.out.2.1.keep hk25 (fun _ _ h => h)) (by omega) HL.out.2.1 hc HBF.out)
  have hT := takenL_len l bs 0
  have hL2 := HL.out.2.1
  generalize takenL l 0 bs = T at *
  obtain ⟨Ao, co, rfl, hIo⟩ := ints_own hout
  clear hout HRB
  go_wp2_with fail
  refine HTK.out.mono ?_
  rintro e w6 ⟨v6, rfl, h6, hk6⟩
  obtain ⟨A6, c6, rfl, hI6⟩ := ints_own h6
  have HSA := Lib.hid (same_any Ao A6 T co c6 w6 (hIo.keep hk6 (fun _ _ h => h)) hI6 (by omega))
  have hk26 := hk25.trans hk6
  clear h6 HTK hIo hI6
  go_wp2_with fail
  refine HSA.out.mono ?_
  rintro e w7 ⟨rfl, nq, rfl⟩
  go_wp2_with fail
  go_ret
  exact ⟨rfl, hk26.drewN nq⟩
end Go.Proofs.YtdamippibpbjhaaGreatDoor

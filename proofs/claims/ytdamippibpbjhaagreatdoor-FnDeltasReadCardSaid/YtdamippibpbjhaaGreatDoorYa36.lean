import Derived.Test.YtdamippibpbjhaaGreatDoorYa25
import Derived.Test.YtdamippibpbjhaaGreatDoorYa34
import Derived.Test.YtdamippibpbjhaaGreatDoorYa35
/-! Numbers are read in batches: numbers of 32 bits. (Written by tools/d32.py.) -/
namespace Go.Proofs.YtdamippibpbjhaaGreatDoor
open Go.RowKit

/-- Numbers as they lie in memory. -/
def ints32 (l : List Int) : List Value := l.map (Value.int .i32)
set_option maxRecDepth 100000 in
set_option maxHeartbeats 8000000 in
theorem decoded32 {E : Env} {db mb : Nat} {y : Way} {l : List Int} {Y : Lay E.D y l} {O : Nat → Prop} {w : World} (hF : Fine E db mb y l) (hW32 : y.W = 32) (h : DSt E 218 21 enc32 db mb Y O 0 w) (hval : ∀ t, t < l.length → enc32 (Y.acc t) = .int .i32 (l.getD t 0))
    (gb ob cb : Nat) (bs : List Int) (hbs : Row w .i64 gb ob bs) (hgb : ¬ O gb) (hlen : bs.length ≤ 50) (hb : ∀ c, c < bs.length → bs.getD c 0 ≠ 0 ∧ -5000 ≤ bs.getD c 0 ∧ bs.getD c 0 ≤ 5000) :
    Calls Tryz.prog 60 #[.slice (some ⟨gb, ob, none⟩) bs.length cb, .func (.func 81) #[.pointer (some ⟨db, 0, none⟩)] #[], .func (.func 82) #[.pointer (some ⟨db, 0, none⟩)] #[]] w fun e w' =>
      ∃ out, e = .returned (.tuple #[out, .bool true]) ∧ w'.ownsRow w.heap.size 21 1 out (takenL l 0 bs).length (ints32 (takenL l 0 bs)) ∧ Keep O w w' := by
  have hD0 : Dd E 218 21 enc32 (Value.int .i32) db mb Y bs O w 0 (.slice none 0 0) w := ⟨⟨O, 0, [], h, Taking.start l bs, World.ownsRow_nil w _ 21 1, fun b hb => .inl hb, fun g hg => by cases hg⟩, Keep.refl _ _⟩
  obtain ⟨i2, hi2, hi2z⟩ := Option.map_eq_some_iff.1 info21
  simp only [Prod.mk.injEq] at hi2z
  obtain ⟨hz1, hz2, hz3⟩ := hi2z
  obtain ⟨N, hN⟩ : ∃ N, N = bs.length := ⟨_, rfl⟩
  rw [← hN]
  have HN := Lib.hid hN
  have hN50 : N ≤ 50 := by omega
  clear hN
  go_enter Tryz.func60, Tryz.ntmps60
  go_wp2_with fail
  go_loopw [6, 9, 10, 11, 12, 13, 14, 17] (fun vv _ _ _ _ _ _ i wr => ∃ c : Nat, c ≤ N ∧ i = .int .i64 c ∧ Dd E 218 21 enc32 (Value.int .i32) db mb Y bs O w c vv wr) (fun _ _ _ _ _ _ _ i _ => N - (intOf i).toNat)
  case atStart => exact ⟨0, Nat.zero_le _, rfl, hD0⟩
  case round =>
    obtain ⟨c, hc, rfl, hD⟩ := hrel
    have hb' := hb c
    obtain ⟨⟨O1, v, out, hst, htk, hown, hO1, hoo⟩, hk⟩ := hD
    by_cases hcN : c < N
    · have hbc := hb' (by have := HN.out; omega)
      have hcb : wr.cell? ⟨gb, ob + c, none⟩ = some (.int .i64 (bs.getD c 0)) := (hbs.keep hk hgb) c (by have := HN.out; omega)
      have hnx := htk.next (by have := HN.out; omega)
      have hsh := htk.short (by have := HN.out; omega)
      generalize hbv : bs.getD c 0 = b at *
      have hci : (0 : Int) ≤ (c : Int) := by omega
      have hcn : (c : Int) < (N : Int) := by omega
      by_cases hneg : b < 0
      · obtain ⟨n, rfl⟩ : ∃ n : Nat, b = -(n : Int) := ⟨(-b).toNat, by omega⟩
        have hna : (-(n : Int)).natAbs = n := by omega
        rw [hna, if_neg (by omega)] at hnx hsh
        have HD := Lib.hid (discard32 hF hW32 hst n ⟨by omega, by omega⟩)
        have hnn : -(-(n : Int)) = (n : Int) := by omega
        by_cases hroom : n ≤ l.length - v
        · rw [Nat.min_eq_left hroom] at HD
          have HX := Lib.hid (hnx hroom)
          clear hnx hsh
          go_wp2_with fail
          refine HD.out.mono ?_
          rintro e w1 ⟨rfl, hk1, O2, hO2, hst2⟩
          have hown1 := ownsRow_keep hown hk1 hoo
          have HR := Lib.hid (show Dd E 218 21 enc32 (Value.int .i32) db mb Y bs O w (c + 1) u6 w1 from ⟨⟨O2, v + n, out, hst2, by simpa using HX.out, hown1, fun b hb => by rcases hO2 b hb with h | h; exact hO1 b h; have := hk.size; exact .inr (by omega), fun g hg e => by rcases hO2 g e with h | h; exact hoo g hg h; have := (ownsRow_lt hown g hg).1; omega⟩, hk.step hk1 hO1⟩)
          clear HX hst hst2 htk hown hown1 hO1 hoo hk1 hk HD
          go_wp2_with fail
          go_roundw
          case rel => exact ⟨c + 1, hcN, by go_num, HR.out⟩
          case measure => simp [intOf]; omega
        · rw [Nat.min_eq_right (by omega)] at HD
          have HX := hsh (by omega)
          clear hnx hsh
          rw [List.append_nil] at HX
          have hrn : ((l.length - v : Nat) : Int) ≠ (n : Int) := by omega
          obtain ⟨r, hr⟩ : ∃ r, r = l.length - v := ⟨_, rfl⟩
          rw [← hr] at HD hrn
          have hrn' : ((r : Int) != (n : Int)) = true := by simpa using hrn
          clear hr
          go_wp2_with fail
          refine HD.out.mono ?_
          rintro e w1 ⟨rfl, hk1, _⟩
          have hown1 := ownsRow_keep hown hk1 hoo
          go_wp2_with fail
          go_ret2
          exact ⟨u6, rfl, by rw [← HX]; exact hown1, hk.step hk1 hO1⟩
      · obtain ⟨n, rfl⟩ : ∃ n : Nat, b = (n : Int) := ⟨b.toNat, by omega⟩
        have hna : ((n : Int)).natAbs = n := by omega
        rw [hna, if_pos (by omega)] at hnx hsh
        have hmk := make_5000 (t := 65) (by kernel_rfl) info21 rfl (by omega) n (by omega) wr
        have hnn0 : (0 : Int) ≤ (n : Int) := by omega
        have hnew := blk_new wr (.cells (madeCells #[.int .i32 0] n) 21)
        have hkA : Keep (fun _ => False) wr (wr.alloc (.cells (madeCells #[.int .i32 0] n) 21)) := (Keep.refl _ wr).alloc _
        have hst1 := hst.off hkA (fun _ h => h.elim)
        have hown1 := ownsRow_keep hown hkA (fun _ _ h => h)
        have hO1n : ¬ O1 wr.heap.size := fun e => by have := hst.oc.lt _ e; omega
        have hgA := hst.room hF
        have HD := Lib.hid (decode32 hF hW32 hst1 wr.heap.size 0 n n _ 21 ⟨Nat.le_refl _, by omega⟩ hnew (by rw [size_madeCells]; omega) hO1n (by omega) (by omega))
        obtain ⟨kk, hkk⟩ : ∃ kk, kk = min n (l.length - v) := ⟨_, rfl⟩
        rw [← hkk] at HD
        have hkn : kk ≤ n := by omega
        have hkn0 : (0 : Int) ≤ (kk : Int) := by omega
        have hkn1 : (kk : Int) ≤ (n : Int) := by omega
        have hol := htk.len
        have hfl := hF.hlen
        have hlv := htk.lv
        have hroom0 := h.room hF
        have HKK := Lib.hid hkk
        have HNX := Lib.hid hnx
        have HSH := Lib.hid hsh
        clear hkk hnx hsh
        go_wp2_with fail
        refine HD.out.mono ?_
        rintro e w1 ⟨rfl, hk1, ⟨O2, hO2, hst2⟩, ocs', hoc', hoz, hov⟩
        have hown2 := ownsRow_keep hown1 hk1 (fun g hg e => by rcases e with e | e; exact hoo g hg e; have := (ownsRow_lt hown g hg).1; omega)
        have hlenk : (ints32 ((l.drop v).take kk)).length = kk * 1 := by have := HKK.out; simp [ints32]; omega
        have hnews : ∀ j u, (ints32 ((l.drop v).take kk))[j]? = some u → w1.cell? ((⟨wr.heap.size, 0, none⟩ : Addr).add j) = some u := fun j u hj => by
          have hj' : j < kk := by have := (List.getElem?_eq_some_iff.1 hj).1; omega
          have hjl : v + j < l.length := by have := HKK.out; omega
          rw [show (⟨wr.heap.size, 0, none⟩ : Addr).add j = ⟨wr.heap.size, 0 + j, none⟩ from by unfold Addr.add; split <;> simp_all, blk_cell hoc', hov j hj', hval (v + j) hjl]
          simp only [ints32, List.getElem?_map, List.getElem?_take, hj', if_true, List.getElem?_drop] at hj
          rw [← hj, List.getD_eq_getElem?_getD, List.getElem?_eq_getElem hjl]
          rfl
        have hones : ∀ u ∈ ints32 ((l.drop v).take kk), u.oneCell' = true := fun u hu => by simp only [ints32, List.mem_map] at hu; obtain ⟨x, _, rfl⟩ := hu; rfl
        have hb1 : w.heap.size ≤ w1.heap.size := by have := hk.size; have := hk1.size; have := hkA.size; omega
        clear HD hst1 hown1 hnew hmk
        go_wp2_with (first | (at_builtin; refine wpList_append_own_at _ rfl _ _ _ rfl w.heap.size 21 i2 (.int .i32 0) 1 4 (by kernel_rfl) hi2 hz1 hz2 hz3 rfl (by omega) u6 out.length (out.map (Value.int .i32)) rfl hown2 ⟨wr.heap.size, 0, none⟩ kk n (ints32 ((l.drop v).take kk)) rfl hlenk hnews hones (by simp only [maxLen]; omega) (by omega) hb1 ?_))
        intro v' w2 hown3 hgrow _ hat3
        have hk2 := grown_keep hgrow
        have hst3 := hst2.off hk2 (fun b hb => by
          have hlt := ownsRow_lt hown b hb
          refine ⟨fun e => ?_, by omega, by omega⟩
          rcases hO2 b e with e | e
          · exact hoo b hb e
          · have := hkA.size; have := blk_lt (blk_new wr (.cells (madeCells #[.int .i32 0] n) 21)); simp at e; omega)
        have hkw : Keep O w w2 := ((hk.step hkA (fun _ h => h.elim)).step hk1 (fun b hb => by
          rcases hb with hb | hb
          · exact hO1 b hb
          · rw [hb]; exact .inr hk.size)).step hk2 (fun b hb => .inr (ownsRow_lt hown b hb).2)
        have hown4 : w2.ownsRow w.heap.size 21 1 v' (out ++ (l.drop v).take kk).length (ints32 (out ++ (l.drop v).take kk)) := by
          have e1 : (out ++ (l.drop v).take kk).length = out.length + kk := by
            have : (ints32 ((l.drop v).take kk)).length = ((l.drop v).take kk).length := by simp [ints32]
            rw [List.length_append]; omega
          have e2 : ints32 (out ++ (l.drop v).take kk) = out.map (Value.int .i32) ++ ints32 ((l.drop v).take kk) := by simp [ints32]
          rw [e1, e2]
          exact hown3
        have hO2b : ∀ b, O2 b → O b ∨ w.heap.size ≤ b := fun b hb => by
          rcases hO2 b hb with e | e
          · exact hO1 b e
          · have := hk.size; have := hkA.size; exact .inr (by omega)
        have hoo2 : ∀ g, v'.ownBlock = some g → ¬ O2 g := fun g hg e => by
          rcases hat3 with hat3 | hat3
          · rw [hat3] at hg
            rcases hO2 g e with e | e
            · exact hoo g hg e
            · have := (ownsRow_lt hown g hg).1; simp at e; omega
          · rw [hat3] at hg
            cases hg
            have := hst2.oc.lt _ e
            omega
        clear hown3 hgrow hat3 hk2 hst2 hown2 hnews hones hk1 hkA hk hown hoo hO2 hst htk hoc' hov
        by_cases hkn2 : kk = n
        · subst hkn2
          have HX := HNX.out (by have := HKK.out; omega)
          have HR := Lib.hid (show Dd E 218 21 enc32 (Value.int .i32) db mb Y bs O w (c + 1) v' w2 from ⟨⟨O2, v + kk, _, hst3, HX, hown4, hO2b, hoo2⟩, hkw⟩)
          clear HX hst3 hown4 hO2b hoo2 hkw
          go_wp2_with fail
          go_roundw
          case rel => exact ⟨c + 1, hcN, by go_num, HR.out⟩
          case measure => simp [intOf]; omega
        · have hne : ((kk : Int) != (n : Int)) = true := by simp; omega
          have hkr : kk = l.length - v := by have := HKK.out; omega
          have HX := HSH.out (by have := HKK.out; omega)
          rw [← hkr] at HX
          rw [HX] at hown4
          have HF := Lib.hid (And.intro hown4 hkw)
          clear HX hst3 hown4 hO2b hoo2 hkw hkr
          go_wp2_with fail
          go_ret2
          exact ⟨v', rfl, HF.out.1, HF.out.2⟩
    · obtain rfl : c = N := by omega
      go_wp2_with fail
      go_ret2
      have := HN.out
      subst this
      exact ⟨u6, rfl, by rw [← htk.done]; exact hown, hk⟩
end Go.Proofs.YtdamippibpbjhaaGreatDoor

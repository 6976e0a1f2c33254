import Derived.Test.YtdamippibpbjhaaGreatDoorYa22
import Derived.Test.YtdamippibpbjhaaGreatDoorYa23
import Derived.Test.YtdamippibpbjhaaGreatDoorYa24
import Derived.Test.YtdamippibpbjhaaGreatDoorYa13
import Derived.Maps.AppendAt
import Derived.Deep.OwnRows
/-! Numbers are read in batches: numbers of 64 bits. -/
namespace Go.Proofs.YtdamippibpbjhaaGreatDoor
open Go.RowKit

theorem make_5000 {t e : TypeId} {z : Value} {b : Nat} (ht : Tryz.prog.underlying t = some (.slice e)) (hinfo : (Tryz.prog.info? e).map (fun i => (i.zero, i.size, i.bytes)) = some (some z, 1, b)) (hz1 : z.cells = #[z]) (hb : b ≤ 8) (n : Nat) (hn : n ≤ 5000) (w : World) :
    (Instr.makeSlice t (.int .i64 n) (.int .i64 n)).run Tryz.prog w = .ok (.slice (some ⟨w.heap.size, 0, none⟩) n n) (w.alloc (.cells (madeCells #[z] n) e)) := by
  obtain ⟨i, hi, hzz⟩ := Option.map_eq_some_iff.1 hinfo
  simp only [Prod.mk.injEq] at hzz
  obtain ⟨hz, hs, hb'⟩ := hzz
  have h1 : (i.bytes : Int) * (n : Int) ≤ 281474976710656 := by
    have h2 : i.bytes * n ≤ 8 * 5000 := Nat.mul_le_mul (by omega) hn
    have h3 : ((i.bytes * n : Nat) : Int) ≤ ((8 * 5000 : Nat) : Int) := Int.ofNat_le.2 h2
    rw [Int.natCast_mul] at h3
    omega
  have h := run_make (P := Tryz.prog) w t e i z ht hi hz .i64 .i64 n n (by omega) (by omega) h1 (by omega)
  simpa [hs, hz1] using h

theorem enc64_wrap (y : Way) (hW : y.W = 64) (x : Int) (h : -9223372036854775808 ≤ x ∧ x < 9223372036854775808) : enc64 x = .int .i64 (wrapW y.W x) := by
  unfold enc64 wrapW
  rw [if_pos hW, IntKind.wrap_i64]
  congr 1
  omega
/-- Numbers as they lie in memory. -/
def ints64 (l : List Int) : List Value := l.map (Value.int .i64)
theorem enters76 (args : Array Value) (w : World) : (callFunc 76 args).run Tryz.prog w = .ok (.enter 76 args) w := enters Tryz.func76 (by kernel_rfl) (by kernel_rfl) args w
theorem enters77 (args : Array Value) (w : World) : (callFunc 77 args).run Tryz.prog w = .ok (.enter 77 args) w := enters Tryz.func77 (by kernel_rfl) (by kernel_rfl) args w

theorem Taking.len {l bs : List Int} {c v : Nat} {out : List Int} (h : Taking l bs c v out) : out.length ≤ l.length := by
  have h1 := congrArg List.length h.eq
  have h2 := takenL_len l bs 0
  rw [List.length_append] at h1
  omega
/-- c batches are read. -/
structure Dd (E : Env) (T et : TypeId) (enc : Int → Value) (val : Int → Value) (db mb : Nat) {y : Way} {l : List Int} (Y : Lay E.D y l) (bs : List Int) (O : Nat → Prop) (w : World) (c : Nat) (vv : Value) (wr : World) : Prop where
  st : ∃ O' v out, DSt E T et enc db mb Y O' v wr ∧ Taking l bs c v out ∧ wr.ownsRow w.heap.size et 1 vv out.length (out.map val) ∧ (∀ b, O' b → O b ∨ w.heap.size ≤ b) ∧ (∀ g, vv.ownBlock = some g → ¬ O' g)
  keep : Keep O w wr
theorem grown_keep {w w' : World} {row : Option Nat} (h : w.grownBy w' row) : Keep (fun b => row = some b) w w' := ⟨h.os, h.tape, h.output, h.size, fun k hk hn => h.block k hk (fun e => hn e.symm)⟩
theorem ownsRow_keep {S : Nat → Prop} {w w' : World} {base : Nat} {e : TypeId} {size : Nat} {v : Value} {n : Nat} {xs : List Value} (h : w.ownsRow base e size v n xs) (hk : Keep S w w') (hS : ∀ g, v.ownBlock = some g → ¬ S g) : w'.ownsRow base e size v n xs := by
  obtain ⟨h1, h2⟩ := h
  refine ⟨h1, ?_⟩
  rcases h2 with h2 | ⟨g, cap, cur, rfl, hb, hg, h3⟩
  · exact .inl h2
  · exact .inr ⟨g, cap, cur, rfl, hb, hk.blk hg (hS g rfl), h3⟩
theorem ownsRow_lt {w : World} {base : Nat} {e : TypeId} {size : Nat} {v : Value} {n : Nat} {xs : List Value} (h : w.ownsRow base e size v n xs) (g : Nat) (hg : v.ownBlock = some g) : g < w.heap.size ∧ base ≤ g := by
  rcases h.2 with ⟨rfl, _⟩ | ⟨g', cap, cur, rfl, hb, hg', _⟩
  · cases hg
  · cases hg
    exact ⟨blk_lt hg', hb⟩

set_option maxRecDepth 100000 in
set_option maxHeartbeats 8000000 in
theorem decoded64 {E : Env} {db mb : Nat} {y : Way} {l : List Int} {Y : Lay E.D y l} {O : Nat → Prop} {w : World} (hF : Fine E db mb y l) (h : DSt E 206 2 enc64 db mb Y O 0 w) (hval : ∀ t, t < l.length → enc64 (Y.acc t) = .int .i64 (l.getD t 0))
    (gb ob cb : Nat) (bs : List Int) (hbs : Row w .i64 gb ob bs) (hgb : ¬ O gb) (hlen : bs.length ≤ 50) (hb : ∀ c, c < bs.length → bs.getD c 0 ≠ 0 ∧ -5000 ≤ bs.getD c 0 ∧ bs.getD c 0 ≤ 5000) :
    Calls Tryz.prog 75 #[.slice (some ⟨gb, ob, none⟩) bs.length cb, .func (.func 76) #[.pointer (some ⟨db, 0, none⟩)] #[], .func (.func 77) #[.pointer (some ⟨db, 0, none⟩)] #[]] w fun e w' =>
      ∃ out, e = .returned (.tuple #[out, .bool true]) ∧ w'.ownsRow w.heap.size 2 1 out (takenL l 0 bs).length (ints64 (takenL l 0 bs)) ∧ Keep O w w' := by
  have hD0 : Dd E 206 2 enc64 (Value.int .i64) db mb Y bs O w 0 (.slice none 0 0) w := ⟨⟨O, 0, [], h, Taking.start l bs, World.ownsRow_nil w _ 2 1, fun b hb => .inl hb, fun g hg => by cases hg⟩, Keep.refl _ _⟩
  obtain ⟨i2, hi2, hi2z⟩ := Option.map_eq_some_iff.1 info2
  simp only [Prod.mk.injEq] at hi2z
  obtain ⟨hz1, hz2, hz3⟩ := hi2z
  obtain ⟨N, hN⟩ : ∃ N, N = bs.length := ⟨_, rfl⟩
  rw [← hN]
  have HN := Lib.hid hN
  have hN50 : N ≤ 50 := by omega
  clear hN
  go_enter Tryz.func75, Tryz.ntmps75
  go_wp2_with fail
  go_loopw [6, 9, 10, 11, 12, 13, 14, 17] (fun vv _ _ _ _ _ _ i wr => ∃ c : Nat, c ≤ N ∧ i = .int .i64 c ∧ Dd E 206 2 enc64 (Value.int .i64) db mb Y bs O w c vv wr) (fun _ _ _ _ _ _ _ i _ => N - (intOf i).toNat)
  case atStart => exact ⟨0, Nat.zero_le _, rfl, hD0⟩
  case round =>
    obtain ⟨c, hc, rfl, hD⟩ := hrel
    have hb' := hb c
    obtain ⟨⟨O1, v, out, hst, htk, hown, hO1, hoo⟩, hk⟩ := hD
    by_cases hcN : c < N
    · have hbc := hb' (by have := HN.out; omega)
      have hcb : wr.cell? ⟨gb, ob + c, none⟩ = some (.int .i64 (bs.getD c 0)) := (hbs.keep hk hgb) c (by have := HN.out; omega)
      have hnx := htk.next (by have := HN.out; omega)
      have hsh := htk.short (by have := HN.out; omega)
      generalize hbv : bs.getD c 0 = b at *
      have hci : (0 : Int) ≤ (c : Int) := by omega
      have hcn : (c : Int) < (N : Int) := by omega
      by_cases hneg : b < 0
      · obtain ⟨n, rfl⟩ : ∃ n : Nat, b = -(n : Int) := ⟨(-b).toNat, by omega⟩
        have hna : (-(n : Int)).natAbs = n := by omega
        rw [hna, if_neg (by omega)] at hnx hsh
        have HD := Lib.hid (discard64 hF hst n ⟨by omega, by omega⟩)
        have hnn : -(-(n : Int)) = (n : Int) := by omega
        by_cases hroom : n ≤ l.length - v
        · rw [Nat.min_eq_left hroom] at HD
          have HX := Lib.hid (hnx hroom)
          clear hnx hsh
          go_wp2_with fail
          refine HD.out.mono ?_
          rintro e w1 ⟨rfl, hk1, O2, hO2, hst2⟩
          have hown1 := ownsRow_keep hown hk1 hoo
          have HR := Lib.hid (show Dd E 206 2 enc64 (Value.int .i64) db mb Y bs O w (c + 1) u6 w1 from ⟨⟨O2, v + n, out, hst2, by simpa using HX.out, hown1, fun b hb => by rcases hO2 b hb with h | h; exact hO1 b h; have := hk.size; exact .inr (by omega), fun g hg e => by rcases hO2 g e with h | h; exact hoo g hg h; have := (ownsRow_lt hown g hg).1; omega⟩, hk.step hk1 hO1⟩)
          clear HX hst hst2 htk hown hown1 hO1 hoo hk1 hk HD
          go_wp2_with fail
          go_roundw
          case rel => exact ⟨c + 1, hcN, by go_num, HR.out⟩
          case measure => simp [intOf]; omega
        · rw [Nat.min_eq_right (by omega)] at HD
          have HX := hsh (by omega)
          clear hnx hsh
          rw [List.append_nil] at HX
          have hrn : ((l.length - v : Nat) : Int) ≠ (n : Int) := by omega
          obtain ⟨r, hr⟩ : ∃ r, r = l.length - v := ⟨_, rfl⟩
          rw [← hr] at HD hrn
          have hrn' : ((r : Int) != (n : Int)) = true := by simpa using hrn
          clear hr
          go_wp2_with fail
          refine HD.out.mono ?_
          rintro e w1 ⟨rfl, hk1, _⟩
          have hown1 := ownsRow_keep hown hk1 hoo
          go_wp2_with fail
          go_ret2
          exact ⟨u6, rfl, by rw [← HX]; exact hown1, hk.step hk1 hO1⟩
      · obtain ⟨n, rfl⟩ : ∃ n : Nat, b = (n : Int) := ⟨b.toNat, by omega⟩
        have hna : ((n : Int)).natAbs = n := by omega
        rw [hna, if_pos (by omega)] at hnx hsh
        have hmk := make_5000 (t := 22) (by kernel_rfl) info2 rfl (by omega) n (by omega) wr
        have hnn0 : (0 : Int) ≤ (n : Int) := by omega
        have hnew := blk_new wr (.cells (madeCells #[.int .i64 0] n) 2)
        have hkA : Keep (fun _ => False) wr (wr.alloc (.cells (madeCells #[.int .i64 0] n) 2)) := (Keep.refl _ wr).alloc _
        have hst1 := hst.off hkA (fun _ h => h.elim)
        have hown1 := ownsRow_keep hown hkA (fun _ _ h => h)
        have hO1n : ¬ O1 wr.heap.size := fun e => by have := hst.oc.lt _ e; omega
        have hgA := hst.room hF
        have HD := Lib.hid (decode64 hF hst1 wr.heap.size 0 n n _ 2 ⟨Nat.le_refl _, by omega⟩ hnew (by rw [size_madeCells]; omega) hO1n (by omega) (by omega))
        obtain ⟨kk, hkk⟩ : ∃ kk, kk = min n (l.length - v) := ⟨_, rfl⟩
        rw [← hkk] at HD
        have hkn : kk ≤ n := by omega
        have hkn0 : (0 : Int) ≤ (kk : Int) := by omega
        have hkn1 : (kk : Int) ≤ (n : Int) := by omega
        have hol := htk.len
        have hfl := hF.hlen
        have hlv := htk.lv
        have hroom0 := h.room hF
        have HKK := Lib.hid hkk
        have HNX := Lib.hid hnx
        have HSH := Lib.hid hsh
        clear hkk hnx hsh
        go_wp2_with fail
        refine HD.out.mono ?_
        rintro e w1 ⟨rfl, hk1, ⟨O2, hO2, hst2⟩, ocs', hoc', hoz, hov⟩
        have hown2 := ownsRow_keep hown1 hk1 (fun g hg e => by rcases e with e | e; exact hoo g hg e; have := (ownsRow_lt hown g hg).1; omega)
        have hlenk : (ints64 ((l.drop v).take kk)).length = kk * 1 := by have := HKK.out; simp [ints64]; omega
        have hnews : ∀ j u, (ints64 ((l.drop v).take kk))[j]? = some u → w1.cell? ((⟨wr.heap.size, 0, none⟩ : Addr).add j) = some u := fun j u hj => by
          have hj' : j < kk := by have := (List.getElem?_eq_some_iff.1 hj).1; omega
          have hjl : v + j < l.length := by have := HKK.out; omega
          rw [show (⟨wr.heap.size, 0, none⟩ : Addr).add j = ⟨wr.heap.size, 0 + j, none⟩ from by unfold Addr.add; split <;> simp_all, blk_cell hoc', hov j hj', hval (v + j) hjl]
          simp only [ints64, List.getElem?_map, List.getElem?_take, hj', if_true, List.getElem?_drop] at hj
          rw [← hj, List.getD_eq_getElem?_getD, List.getElem?_eq_getElem hjl]
          rfl
        have hones : ∀ u ∈ ints64 ((l.drop v).take kk), u.oneCell' = true := fun u hu => by simp only [ints64, List.mem_map] at hu; obtain ⟨x, _, rfl⟩ := hu; rfl
        have hb1 : w.heap.size ≤ w1.heap.size := by have := hk.size; have := hk1.size; have := hkA.size; omega
        clear HD hst1 hown1 hnew hmk
        go_wp2_with (first | (at_builtin; refine wpList_append_own_at _ rfl _ _ _ rfl w.heap.size 2 i2 (.int .i64 0) 1 8 (by kernel_rfl) hi2 hz1 hz2 hz3 rfl (by omega) u6 out.length (out.map (Value.int .i64)) rfl hown2 ⟨wr.heap.size, 0, none⟩ kk n (ints64 ((l.drop v).take kk)) rfl hlenk hnews hones (by simp only [maxLen]; omega) (by omega) hb1 ?_))
        intro v' w2 hown3 hgrow _ hat3
        have hk2 := grown_keep hgrow
        have hst3 := hst2.off hk2 (fun b hb => by
          have hlt := ownsRow_lt hown b hb
          refine ⟨fun e => ?_, by omega, by omega⟩
          rcases hO2 b e with e | e
          · exact hoo b hb e
          · have := hkA.size; have := blk_lt (blk_new wr (.cells (madeCells #[.int .i64 0] n) 2)); simp at e; omega)
        have hkw : Keep O w w2 := ((hk.step hkA (fun _ h => h.elim)).step hk1 (fun b hb => by
          rcases hb with hb | hb
          · exact hO1 b hb
          · rw [hb]; exact .inr hk.size)).step hk2 (fun b hb => .inr (ownsRow_lt hown b hb).2)
        have hown4 : w2.ownsRow w.heap.size 2 1 v' (out ++ (l.drop v).take kk).length (ints64 (out ++ (l.drop v).take kk)) := by
          have e1 : (out ++ (l.drop v).take kk).length = out.length + kk := by
            have : (ints64 ((l.drop v).take kk)).length = ((l.drop v).take kk).length := by simp [ints64]
            rw [List.length_append]; omega
          have e2 : ints64 (out ++ (l.drop v).take kk) = out.map (Value.int .i64) ++ ints64 ((l.drop v).take kk) := by simp [ints64]
          rw [e1, e2]
          exact hown3
        have hO2b : ∀ b, O2 b → O b ∨ w.heap.size ≤ b := fun b hb => by
          rcases hO2 b hb with e | e
          · exact hO1 b e
          · have := hk.size; have := hkA.size; exact .inr (by omega)
        have hoo2 : ∀ g, v'.ownBlock = some g → ¬ O2 g := fun g hg e => by
          rcases hat3 with hat3 | hat3
          · rw [hat3] at hg
            rcases hO2 g e with e | e
            · exact hoo g hg e
            · have := (ownsRow_lt hown g hg).1; simp at e; omega
          · rw [hat3] at hg
            cases hg
            have := hst2.oc.lt _ e
            omega
        clear hown3 hgrow hat3 hk2 hst2 hown2 hnews hones hk1 hkA hk hown hoo hO2 hst htk hoc' hov
        by_cases hkn2 : kk = n
        · subst hkn2
          have HX := HNX.out (by have := HKK.out; omega)
          have HR := Lib.hid (show Dd E 206 2 enc64 (Value.int .i64) db mb Y bs O w (c + 1) v' w2 from ⟨⟨O2, v + kk, _, hst3, HX, hown4, hO2b, hoo2⟩, hkw⟩)
          clear HX hst3 hown4 hO2b hoo2 hkw
          go_wp2_with fail
          go_roundw
          case rel => exact ⟨c + 1, hcN, by go_num, HR.out⟩
          case measure => simp [intOf]; omega
        · have hne : ((kk : Int) != (n : Int)) = true := by simp; omega
          have hkr : kk = l.length - v := by have := HKK.out; omega
          have HX := HSH.out (by have := HKK.out; omega)
          rw [← hkr] at HX
          rw [HX] at hown4
          have HF := Lib.hid (And.intro hown4 hkw)
          clear HX hst3 hown4 hO2b hoo2 hkw hkr
          go_wp2_with fail
          go_ret2
          exact ⟨v', rfl, HF.out.1, HF.out.2⟩
    · obtain rfl : c = N := by omega
      go_wp2_with fail
      go_ret2
      have := HN.out
      subst this
      exact ⟨u6, rfl, by rw [← htk.done]; exact hown, hk⟩
end Go.Proofs.YtdamippibpbjhaaGreatDoor

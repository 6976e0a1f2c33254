import Derived.Test.YtdamippibpbjhaaGreatDoorYa05
import Derived.Test.YtdamippibpbjhaaGreatDoorYa25
import Derived.Deep.AppendLies
import Derived.Test.YtdamippibpbjhaaGreatDoorYa24
/-! Small functions of the reference: numbers in groups of seven bits. -/
namespace Go.Proofs.YtdamippibpbjhaaGreatDoor
open Go.RowKit

theorem own_after {w wr w1 w' : World} {v : Value} {base : Nat} {e : TypeId} {n : Nat} {xs : List Value} (hk : Keep (fun _ => False) w wr) (hA : Keep (fun _ => False) wr w1) (hown : wr.ownsRow base e 1 v n xs) (hb : w.heap.size ≤ base) (hg : w1.grownBy w' v.ownBlock) :
    Keep (fun _ => False) w w' := (hk.step hA (fun _ h => h.elim)).step (grown_keep hg) (fun b hb' => .inr (by have := (ownsRow_lt hown b hb').2; omega))
/-- Bytes in a row of one's own. -/
def OB (w : World) (base : Nat) (v : Value) (xs : List Int) : Prop := w.ownsRow base 5 1 v xs.length (nums .u8 xs)
theorem OB.nil (w : World) (base : Nat) : OB w base (.slice none 0 0) [] := World.ownsRow_nil w base 5 1
theorem OB.keep {S : Nat → Prop} {w w' : World} {base : Nat} {v : Value} {xs : List Int} (h : OB w base v xs) (hk : Keep S w w') (hS : ∀ g, v.ownBlock = some g → ¬ S g) : OB w' base v xs := ownsRow_keep h hk hS
theorem OB.slice {w : World} {base : Nat} {v : Value} {xs : List Int} (h : OB w base v xs) : ∃ A c, v = .slice A xs.length c := by
  rcases h.2 with ⟨rfl, h0⟩ | ⟨g, cap, cur, rfl, _⟩
  · exact ⟨none, 0, by rw [h0]⟩
  · exact ⟨_, _, rfl⟩
theorem OB.snoc {w : World} {base : Nat} {v : Value} {xs ys : List Int} {n : Nat} (h : w.ownsRow base 5 1 v (xs.length + n) (nums .u8 xs ++ nums .u8 ys)) (hn : n = ys.length) : OB w base v (xs ++ ys) := by
  unfold OB
  rw [List.length_append, show nums .u8 (xs ++ ys) = nums .u8 xs ++ nums .u8 ys by simp [nums], ← hn]
  exact h
theorem u8_or128 (m : Nat) : bits .or .u8 ((m : Int) % 256) 128 = ((m % 128 + 128 : Nat) : Int) := by
  have key : ∀ x : Fin 256, bits .or .u8 ((x.val : Nat) : Int) 128 = ((x.val % 128 + 128 : Nat) : Int) := by decide +kernel
  have h := key ⟨m % 256, by omega⟩
  have e : (m : Int) % 256 = ((m % 256 : Nat) : Int) := by omega
  rw [e, h]
  simp only
  congr 1
  omega

set_option maxRecDepth 100000 in
set_option maxHeartbeats 4000000 in
theorem putLeb_any (n : Nat) (hn : n < 18446744073709551616) (w : World) : Calls Tryz.prog 31 #[.int .u64 n] w fun e w' => ∃ v, e = .returned v ∧ OB w' w.heap.size v (lebB 10 n) ∧ Keep (fun _ => False) w w' := by
  obtain ⟨i5, hi5, hi5z⟩ := Option.map_eq_some_iff.1 info5
  simp only [Prod.mk.injEq] at hi5z
  obtain ⟨hz1, hz2, hz3⟩ := hi5z
  go_enter Tryz.func31, Tryz.ntmps31
  go_wp2_with fail
  go_loopw [0, 3] (fun x vv wr => ∃ (m q : Nat) (out : List Int), x = .int .u64 m ∧ q < 10 ∧ m < 128 ^ (10 - q) ∧ out.length = q ∧ out ++ lebB (10 - q) m = lebB 10 n ∧ OB wr w.heap.size vv out ∧ Keep (fun _ => False) w wr) (fun x _ _ => (intOf x).toNat)
  case atStart => exact ⟨n, 0, [], rfl, by omega, by simp; omega, rfl, rfl, OB.nil _ _, Keep.refl _ _⟩
  case round =>
    obtain ⟨m, q, out, rfl, hq, hm, hol, heq, hown, hk⟩ := hrel
    subst hol
    have hks := hk.size
    by_cases h : m < 128
    · have hge : ¬ ((128 : Int) ≤ (m : Int)) := by omega
      have hw8 : IntKind.u8.wrap (m : Int) = (m : Int) := by rw [IntKind.wrap_u8]; omega
      have hA : Keep (fun _ => False) wr (wr.alloc (.cells #[.int .u8 m] 5)) := (Keep.refl _ wr).alloc _
      have hown1 := hown.keep hA (fun _ _ h => h)
      go_wp2_with (first | (at_builtin; refine wpList_append_own_at _ rfl _ _ _ rfl w.heap.size 5 i5 (.int .u8 0) 1 1 (by kernel_rfl) hi5 hz1 hz2 hz3 rfl (by omega) u3 out.length (nums .u8 out) rfl hown1 ⟨wr.heap.size, 0, none⟩ 1 1 [.int .u8 m] rfl rfl (World.news_of_block (cs := #[.int .u8 m]) (t := 5) (fr := (0, 0)) (blk_new wr _)) (by simp [Value.oneCell']) (by simp only [maxLen]; omega) (by omega) (by simp; omega) ?_))
      intro v' w2 hown2 hgrow _ hat2
      have hkf := own_after hk hA hown (Nat.le_refl _) hgrow
      have hf := OB.snoc (ys := [(m : Int)]) hown2 rfl
      have hl1 : lebB (10 - out.length) m = [(m : Int)] := by rw [show 10 - out.length = (9 - out.length) + 1 by omega, lebB, if_pos h]
      rw [hl1] at heq
      rw [heq] at hf
      go_wp2_with fail
      go_ret
      exact ⟨v', rfl, hf, hkf⟩
    · have hge : (128 : Int) ≤ (m : Int) := by omega
      have hq9 : out.length < 9 := by
        by_cases e : out.length = 9
        · rw [e] at hm; simp at hm; omega
        · omega
      have ho := u8_or128 m
      have hA : Keep (fun _ => False) wr (wr.alloc (.cells #[.int .u8 (m % 128 + 128 : Nat)] 5)) := (Keep.refl _ wr).alloc _
      have hown1 := hown.keep hA (fun _ _ h => h)
      generalize hmv : m % 128 + 128 = mv at *
      have hl1 : lebB (10 - out.length) m = (mv : Int) :: lebB (10 - (out.length + 1)) (m / 128) := by rw [show 10 - out.length = (10 - (out.length + 1)) + 1 by omega, lebB, if_neg h, hmv]
      have hdm : m / 128 < 128 ^ (10 - (out.length + 1)) := by
        have : 128 ^ (10 - out.length) = 128 ^ (10 - (out.length + 1)) * 128 := by rw [← Nat.pow_succ]; congr 1; omega
        omega
      have HL := Lib.hid hl1
      have HE := Lib.hid heq
      clear hl1 heq hmv hm hn
      go_wp2_with (first | (at_builtin; refine wpList_append_own_at _ rfl _ _ _ rfl w.heap.size 5 i5 (.int .u8 0) 1 1 (by kernel_rfl) hi5 hz1 hz2 hz3 rfl (by omega) u3 out.length (nums .u8 out) rfl hown1 ⟨wr.heap.size, 0, none⟩ 1 1 [.int .u8 mv] rfl rfl (World.news_of_block (cs := #[.int .u8 mv]) (t := 5) (fr := (0, 0)) (blk_new wr _)) (by simp [Value.oneCell']) (by simp only [maxLen]; omega) (by omega) (by simp; omega) ?_))
      intro v' w2 hown2 hgrow _ hat2
      have hkf := own_after hk hA hown (Nat.le_refl _) hgrow
      have hf := OB.snoc (ys := [(mv : Int)]) hown2 rfl
      clear hk hA hown hown1 hown2 hgrow hat2
      have HF := Lib.hid (And.intro hkf hf)
      clear hkf hf
      go_wp2_with fail
      go_roundw
      case rel => exact ⟨m / 128, out.length + 1, out ++ [(mv : Int)], by simp, by omega, hdm, by simp, by rw [List.append_assoc, List.singleton_append, ← HL.out, HE.out], HF.out.2, HF.out.1⟩
      case measure => simp only [intOf]; omega
end Go.Proofs.YtdamippibpbjhaaGreatDoor

/-! What the law asks of its input. -/
namespace Go.Proofs.YtdamippibpbjhaaGreatDoor
open Go.RowKit

/-- Numbers of 64 bits that lie where a slice says. -/
def Ints (w : World) (A : Option Addr) (l : List Int) : Prop := 0 < l.length → ∃ g o, A = some ⟨g, o, none⟩ ∧ Row w .i64 g o l
theorem Ints.keep {S : Nat → Prop} {w w' : World} {A : Option Addr} {l : List Int} (h : Ints w A l) (hk : Keep S w w') (hS : ∀ b, b < w.heap.size → ¬ S b) : Ints w' A l := fun h0 => by
  obtain ⟨g, o, rfl, hr⟩ := h h0
  have hl := World.block_lt_of_cell? w _ (hr 0 h0)
  exact ⟨g, o, rfl, hr.keep hk (hS g hl)⟩

/-- A bool comes back; if it is true, so much is known. -/
def Fit (P : Prop) (e : Ending) : Prop := ∃ b : Bool, e = .returned (.bool b) ∧ (b = true → P)
def LFit (l : List Int) (W : Int) : Prop := (W = 32 ∨ W = 64) ∧ l.length ≤ 2000 ∧ (W = 32 → ∀ t, t < l.length → -2147483648 ≤ l.getD t 0 ∧ l.getD t 0 ≤ 2147483647)
def BFit (l : List Int) : Prop := l.length ≤ 50 ∧ ∀ t, t < l.length → l.getD t 0 ≠ 0 ∧ -5000 ≤ l.getD t 0 ∧ l.getD t 0 ≤ 5000

set_option maxRecDepth 100000 in
set_option maxHeartbeats 4000000 in
theorem longsFit_any (A : Option Addr) (l : List Int) (c : Nat) (W : Int) (w : World) (hl : Ints w A l) (hlen : l.length ≤ 140737488351232) (hb : ∀ t, t < l.length → -9223372036854775808 ≤ l.getD t 0 ∧ l.getD t 0 < 9223372036854775808) :
    Calls Tryz.prog 7 #[.slice A l.length c, .int .i64 W] w fun e w' => Fit (LFit l W) e ∧ w' = w := by
  obtain ⟨N, hN⟩ : ∃ N, N = l.length := ⟨_, rfl⟩
  rw [← hN]
  have HN := Lib.hid hN
  have hN9 : (N : Int) ≤ 140737488351232 := by omega
  clear hN
  go_enter Tryz.func7, Tryz.ntmps7
  go_wp2_with fail
  go_loopw [6, 9] (fun _ i wr => ∃ k : Nat, k ≤ N ∧ i = .int .i64 k ∧ wr = w ∧ (W = 32 → ∀ t, t < k → -2147483648 ≤ l.getD t 0 ∧ l.getD t 0 ≤ 2147483647)) (fun _ i _ => N - (intOf i).toNat)
  case atStart => exact ⟨0, Nat.zero_le _, rfl, rfl, fun _ t ht => absurd ht (by omega)⟩
  case round =>
    obtain ⟨k, hk, rfl, rfl, hr⟩ := hrel
    have HR := Lib.hid hr
    clear hr
    by_cases h : k < N
    · obtain ⟨g, o, rfl, hrow⟩ := hl (by have := HN.out; omega)
      have hx := hrow k (by have := HN.out; omega)
      have hbx := hb k (by have := HN.out; omega)
      have hk0 : (0 : Int) ≤ (k : Int) := by omega
      have hk1 : (k : Int) < (N : Int) := by omega
      generalize hxx : l.getD k 0 = x at *
      have HXX := Lib.hid hxx
      clear hxx
      by_cases hw : W = 32
      · subst hw
        by_cases hf : -2147483648 ≤ x ∧ x ≤ 2147483647
        · have he : wrap32 x = x := by unfold wrap32; omega
          go_wp2_with fail
          go_roundw
          case rel => exact ⟨k + 1, h, by go_num, trivial, fun _ t ht => by
            by_cases e : t = k
            · rw [e, HXX.out]; exact hf
            · exact HR.out rfl t (by omega)⟩
          case measure => simp [intOf]; omega
        · have he : (x != wrap64 (wrap32 x)) = true := by simp; unfold wrap64 wrap32; omega
          go_wp2_with fail
          go_ret
          exact ⟨⟨false, rfl, fun h => by cases h⟩, rfl⟩
      · have hwb : (W == 32) = false := by simpa using hw
        go_wp2_with fail
        go_roundw
        case rel => exact ⟨k + 1, h, by go_num, trivial, fun e => absurd e hw⟩
        case measure => simp [intOf]; omega
    · obtain rfl : k = N := by omega
      have hfin : ∀ t, t < l.length → W = 32 → -2147483648 ≤ l.getD t 0 ∧ l.getD t 0 ≤ 2147483647 := fun t ht e => HR.out e t (by have := HN.out; omega)
      have HF := Lib.hid hfin
      clear hfin
      by_cases hw : W = 32
      · subst hw
        go_wp2_with fail
        go_ret
        exact ⟨⟨_, rfl, fun h => ⟨.inl rfl, by have := of_decide_eq_true h; have := HN.out; omega, fun _ t ht => HF.out t ht trivial⟩⟩, rfl⟩
      · have hwb : (W == 32) = false := by simpa using hw
        by_cases hw4 : W = 64
        · subst hw4
          go_wp2_with fail
          go_ret
          exact ⟨⟨_, rfl, fun h => ⟨.inr rfl, by have := of_decide_eq_true h; have := HN.out; omega, fun e => absurd e hw⟩⟩, rfl⟩
        · have hwb4 : (W == 64) = false := by simpa using hw4
          go_wp2_with fail
          go_ret
          exact ⟨⟨false, rfl, fun h => by cases h⟩, rfl⟩

set_option maxRecDepth 100000 in
set_option maxHeartbeats 4000000 in
theorem batchesFit_any (A : Option Addr) (l : List Int) (c : Nat) (w : World) (hl : Ints w A l) (hlen : l.length ≤ 140737488351232) :
    Calls Tryz.prog 9 #[.slice A l.length c] w fun e w' => Fit (BFit l) e ∧ w' = w := by
  obtain ⟨N, hN⟩ : ∃ N, N = l.length := ⟨_, rfl⟩
  rw [← hN]
  have HN := Lib.hid hN
  have hN9 : (N : Int) ≤ 140737488351232 := by omega
  clear hN
  go_enter Tryz.func9, Tryz.ntmps9
  go_wp2_with fail
  go_loopw [4, 7] (fun _ i wr => ∃ k : Nat, k ≤ N ∧ i = .int .i64 k ∧ wr = w ∧ ∀ t, t < k → l.getD t 0 ≠ 0 ∧ -5000 ≤ l.getD t 0 ∧ l.getD t 0 ≤ 5000) (fun _ i _ => N - (intOf i).toNat)
  case atStart => exact ⟨0, Nat.zero_le _, rfl, rfl, fun t ht => absurd ht (by omega)⟩
  case round =>
    obtain ⟨k, hk, rfl, rfl, hr⟩ := hrel
    have HR := Lib.hid hr
    clear hr
    by_cases h : k < N
    · obtain ⟨g, o, rfl, hrow⟩ := hl (by have := HN.out; omega)
      have hx := hrow k (by have := HN.out; omega)
      have hk0 : (0 : Int) ≤ (k : Int) := by omega
      have hk1 : (k : Int) < (N : Int) := by omega
      generalize hxx : l.getD k 0 = x at *
      have HXX := Lib.hid hxx
      clear hxx
      by_cases h0 : x = 0
      · subst h0
        go_wp2_with fail
        go_ret
        exact ⟨⟨false, rfl, fun h => by cases h⟩, rfl⟩
      · have h0b : (x == 0) = false := by simpa using h0
        by_cases h1 : x < -5000
        · go_wp2_with fail
          go_ret
          exact ⟨⟨false, rfl, fun h => by cases h⟩, rfl⟩
        · by_cases h2 : 5000 < x
          · go_wp2_with fail
            go_ret
            exact ⟨⟨false, rfl, fun h => by cases h⟩, rfl⟩
          · go_wp2_with fail
            go_roundw
            case rel => exact ⟨k + 1, h, by go_num, trivial, fun t ht => by
              by_cases e : t = k
              · rw [e, HXX.out]; exact ⟨h0, by omega, by omega⟩
              · exact HR.out t (by omega)⟩
            case measure => simp [intOf]; omega
    · obtain rfl : k = N := by omega
      go_wp2_with fail
      go_ret
      exact ⟨⟨_, rfl, fun h => ⟨by have := of_decide_eq_true h; have := HN.out; omega, fun t ht => HR.out t (by have := HN.out; omega)⟩⟩, rfl⟩
end Go.Proofs.YtdamippibpbjhaaGreatDoor

/-! What the law asks of the blocks; whether two lists are the same. -/
namespace Go.Proofs.YtdamippibpbjhaaGreatDoor
open Go.RowKit

def YFit (S M More : Int) : Prop := 128 ≤ S ∧ S ≤ 1024 ∧ S % 128 = 0 ∧ 1 ≤ M ∧ S % M = 0 ∧ S / M % 32 = 0 ∧ 0 ≤ More ∧ More ≤ 8

set_option maxRecDepth 100000 in
set_option maxHeartbeats 8000000 in
theorem fits_any (S M More : Int) (odd : Bool) (w : World) : Calls Tryz.prog 8 #[.agg #[.int .i64 S, .int .i64 M, .int .i64 More, .bool odd]] w fun e w' => Fit (YFit S M More) e ∧ Keep (fun _ => False) w w' := by
  have hk : Keep (fun _ => False) w (w.alloc (.cells #[.int .i64 S, .int .i64 M, .int .i64 More, .bool odd] 24)) := (Keep.refl _ w).alloc _
  go_enter Tryz.func8, Tryz.ntmps8
  by_cases h1 : 128 ≤ S
  · by_cases h2 : S ≤ 1024
    · by_cases h3 : S % 128 = 0
      · have h3b : (S % 128 == 0) = true := by simpa using h3
        by_cases h4 : 1 ≤ M
        · have hM0 : ¬ M = 0 := by omega
          by_cases h5 : S % M = 0
          · have h5b : (S % M == 0) = true := by simpa using h5
            have hq0 : 0 ≤ S / M := Int.ediv_nonneg (by omega) (by omega)
            have hq1 : S / M ≤ 1024 := by
              have : S / M ≤ S := Int.ediv_le_self _ (by omega)
              omega
            by_cases h6 : S / M % 32 = 0
            · have h6b : (S / M % 32 == 0) = true := by simpa using h6
              by_cases h7 : 0 ≤ More
              · go_wp2_with fail
                go_ret
                exact ⟨⟨_, rfl, fun h => ⟨h1, h2, h3, h4, h5, h6, h7, of_decide_eq_true h⟩⟩, hk⟩
              · go_wp2_with fail
                go_ret
                exact ⟨⟨false, rfl, fun h => by cases h⟩, hk⟩
            · have h6b : (S / M % 32 == 0) = false := by simpa using h6
              go_wp2_with fail
              go_ret
              exact ⟨⟨false, rfl, fun h => by cases h⟩, hk⟩
          · have h5b : (S % M == 0) = false := by simpa using h5
            go_wp2_with fail
            go_ret
            exact ⟨⟨false, rfl, fun h => by cases h⟩, hk⟩
        · go_wp2_with fail
          go_ret
          exact ⟨⟨false, rfl, fun h => by cases h⟩, hk⟩
      · have h3b : (S % 128 == 0) = false := by simpa using h3
        go_wp2_with fail
        go_ret
        exact ⟨⟨false, rfl, fun h => by cases h⟩, hk⟩
    · go_wp2_with fail
      go_ret
      exact ⟨⟨false, rfl, fun h => by cases h⟩, hk⟩
  · go_wp2_with fail
    go_ret
    exact ⟨⟨false, rfl, fun h => by cases h⟩, hk⟩

set_option maxRecDepth 100000 in
set_option maxHeartbeats 4000000 in
theorem same_any (A B : Option Addr) (l : List Int) (c d : Nat) (w : World) (hA : Ints w A l) (hB : Ints w B l) (hlen : l.length ≤ 140737488351232) :
    Calls Tryz.prog 12 #[.slice A l.length c, .slice B l.length d] w fun e w' => e = .returned (.bool true) ∧ ∃ n, w' = w.drewN n := by
  obtain ⟨N, hN⟩ : ∃ N, N = l.length := ⟨_, rfl⟩
  rw [← hN]
  have HN := Lib.hid hN
  have hN9 : (N : Int) ≤ 140737488351232 := by omega
  clear hN
  go_enter Tryz.func12, Tryz.ntmps12
  go_wp2_with fail
  go_loopw [5, 13] (fun _ i wr => ∃ k : Nat, k ≤ N ∧ i = .int .i64 k ∧ ∃ n, wr = w.drewN n) (fun _ i _ => N - (intOf i).toNat)
  case atStart => exact ⟨0, Nat.zero_le _, rfl, 0, rfl⟩
  case round =>
    obtain ⟨k, hk, rfl, n, rfl⟩ := hrel
    by_cases h : k < N
    · obtain ⟨g, o, rfl, hrow⟩ := hA (by have := HN.out; omega)
      obtain ⟨g', o', rfl, hrow'⟩ := hB (by have := HN.out; omega)
      have hx := hrow k (by have := HN.out; omega)
      have hx' := hrow' k (by have := HN.out; omega)
      have hk0 : (0 : Int) ≤ (k : Int) := by omega
      have hk1 : (k : Int) < (N : Int) := by omega
      generalize l.getD k 0 = x at *
      have hy : ∀ q, (w.drewN q).cell? ⟨g, o + k, none⟩ = some (.int .i64 x) := fun q => hx
      have hy' : ∀ q, (w.drewN q).cell? ⟨g', o' + k, none⟩ = some (.int .i64 x) := fun q => hx'
      go_wp2_with fail
      go_quiet (fail)
      go_wp2_with fail
      go_roundw
      case rel => exact ⟨k + 1, h, by go_num, n + nq, by simp⟩
      case measure => simp [intOf]; omega
    · obtain rfl : k = N := by omega
      go_wp2_with fail
      go_ret
      exact ⟨rfl, n, rfl⟩
end Go.Proofs.YtdamippibpbjhaaGreatDoor

/-! What is taken of a list in batches. -/
namespace Go.Proofs.YtdamippibpbjhaaGreatDoor
open Go.RowKit

def TkRel (l bs : List Int) (w : World) (c v : Nat) (vv : Value) (wr : World) : Prop :=
  ∃ out, Taking l bs c v out ∧ wr.ownsRow w.heap.size 2 1 vv out.length (ints64 out) ∧ Keep (fun _ => False) w wr

set_option maxRecDepth 100000 in
set_option maxHeartbeats 8000000 in
theorem taken_any (A B : Option Addr) (l bs : List Int) (c d : Nat) (w : World) (hA : Ints w A l) (hB : Ints w B bs) (hl0 : 0 < l.length) (hl : l.length ≤ 2000) (hc : l.length ≤ c) (hF : BFit bs) :
    Calls Tryz.prog 13 #[.slice A l.length c, .slice B bs.length d] w fun e w' => ∃ v, e = .returned v ∧ w'.ownsRow w.heap.size 2 1 v (takenL l 0 bs).length (ints64 (takenL l 0 bs)) ∧ Keep (fun _ => False) w w' := by
  obtain ⟨g, o, rfl, hrow⟩ := hA hl0
  have hD0 : TkRel l bs w 0 0 (.slice none 0 0) w := ⟨[], Taking.start l bs, World.ownsRow_nil w _ 2 1, Keep.refl _ _⟩
  obtain ⟨i2, hi2, hi2z⟩ := Option.map_eq_some_iff.1 info2
  simp only [Prod.mk.injEq] at hi2z
  obtain ⟨hz1, hz2, hz3⟩ := hi2z
  obtain ⟨N, hN⟩ : ∃ N, N = bs.length := ⟨_, rfl⟩
  obtain ⟨L, hL⟩ : ∃ L, L = l.length := ⟨_, rfl⟩
  rw [← hN, ← hL]
  have HN := Lib.hid hN
  have HL := Lib.hid hL
  have hN50 : N ≤ 50 := by have := hF.1; omega
  have hL2 : L ≤ 2000 := by omega
  have hLc : L ≤ c := by omega
  have HF := Lib.hid hF
  clear hN hL hl hc hl0 hF
  go_enter Tryz.func13, Tryz.ntmps13
  go_wp2_with fail
  go_loopw [5, 6, 8, 9, 12] (fun vv at' _ _ i wr => ∃ k v : Nat, k ≤ N ∧ v ≤ L ∧ i = .int .i64 k ∧ at' = .int .i64 v ∧ TkRel l bs w k v vv wr) (fun _ _ _ _ i _ => N - (intOf i).toNat)
  case atStart => exact ⟨0, 0, Nat.zero_le _, Nat.zero_le _, rfl, rfl, hD0⟩
  case round =>
    obtain ⟨k, v, hk, hv, rfl, rfl, out, htk, hown, hkw⟩ := hrel
    by_cases h : k < N
    · obtain ⟨gb, ob, rfl, hbs⟩ := hB (by have := HN.out; omega)
      have hx := hbs k (by have := HN.out; omega)
      have hx' := hkw.cell hx (fun h => h)
      have hbc := HF.out.2 k (by have := HN.out; omega)
      have hnx := htk.next (by have := HN.out; omega)
      have hsh := htk.short (by have := HN.out; omega)
      rw [← HL.out] at hnx hsh
      generalize hbv : bs.getD k 0 = b at *
      have hk0 : (0 : Int) ≤ (k : Int) := by omega
      have hk1 : (k : Int) < (N : Int) := by omega
      by_cases hneg : b < 0
      · obtain ⟨n, rfl⟩ : ∃ n : Nat, b = -(n : Int) := ⟨(-b).toNat, by omega⟩
        have hna : (-(n : Int)).natAbs = n := by omega
        rw [hna, if_neg (by omega)] at hnx hsh
        have hnn : -(-(n : Int)) = (n : Int) := by omega
        have hlt : -(n : Int) < (n : Int) := by omega
        obtain ⟨R, hR⟩ : ∃ R, R = L - v := ⟨_, rfl⟩
        have hRi : (L : Int) - (v : Int) = (R : Int) := by omega
        rw [← hR] at hnx hsh
        have HRR := Lib.hid hR
        have HNX := Lib.hid hnx
        have HSH := Lib.hid hsh
        clear hR hnx hsh hna
        by_cases hroom : n ≤ R
        · have hroom' : ¬ R < n := by omega
          go_wp2_with fail
          go_roundw
          case rel => exact ⟨k + 1, v + n, h, by have := HRR.out; omega, by go_num, by go_num, out, by have := HNX.out hroom; rwa [List.append_nil] at this, hown, hkw⟩
          case measure => simp [intOf]; omega
        · have hroom' : R < n := by omega
          have hfin := HSH.out hroom'
          rw [List.append_nil] at hfin
          go_wp2_with fail
          go_ret
          exact ⟨u5, rfl, by rw [← hfin]; exact hown, hkw⟩
      · obtain ⟨n, rfl⟩ : ∃ n : Nat, b = (n : Int) := ⟨b.toNat, by omega⟩
        have hna : ((n : Int)).natAbs = n := by omega
        rw [hna, if_pos (by omega)] at hnx hsh
        have hlt : ¬ ((n : Int) < -(n : Int)) := by omega
        have hn0 : (0 : Int) < (n : Int) := by omega
        obtain ⟨R, hR⟩ : ∃ R, R = L - v := ⟨_, rfl⟩
        have hRi : (L : Int) - (v : Int) = (R : Int) := by omega
        rw [← hR] at hnx hsh
        have HRR := Lib.hid hR
        have HNX := Lib.hid hnx
        have HSH := Lib.hid hsh
        have hol : out.length ≤ 2000 := by have := htk.len; have := HL.out; omega
        clear hR hnx hsh hna
        have key : ∀ (kk : Nat), kk ≤ R → ∀ (w2 : World) (v' : Value), w2.ownsRow w.heap.size 2 1 v' (out.length + kk) (out.map (Value.int .i64) ++ ints64 ((l.drop v).take kk)) → wr.grownBy w2 u5.ownBlock →
            w2.ownsRow w.heap.size 2 1 v' (out ++ (l.drop v).take kk).length (ints64 (out ++ (l.drop v).take kk)) ∧ Keep (fun _ => False) w w2 := fun kk hkk w2 v' hw hg => by
          have e1 : ((l.drop v).take kk).length = kk := by have := HRR.out; have := HL.out; simp; omega
          refine ⟨?_, own_after hkw (Keep.refl _ wr) hown (Nat.le_refl _) hg⟩
          rw [List.length_append, e1, show ints64 (out ++ (l.drop v).take kk) = out.map (Value.int .i64) ++ ints64 ((l.drop v).take kk) by simp [ints64]]
          exact hw
        have hnews : ∀ (kk : Nat), kk ≤ R → ∀ j u, (ints64 ((l.drop v).take kk))[j]? = some u → wr.cell? ((⟨g, o + v, none⟩ : Addr).add j) = some u := fun kk hkk j u hj => by
          have hj' : j < kk := by
            have := (List.getElem?_eq_some_iff.1 hj).1
            simp [ints64] at this; omega
          have hjl : v + j < l.length := by have := HRR.out; have := HL.out; omega
          rw [show (⟨g, o + v, none⟩ : Addr).add j = ⟨g, o + (v + j), none⟩ from by unfold Addr.add; split <;> simp_all [Nat.add_assoc]]
          rw [hkw.cell (hrow (v + j) hjl) (fun h => h)]
          simp only [ints64, List.getElem?_map, List.getElem?_take, hj', if_true, List.getElem?_drop] at hj
          rw [← hj, List.getD_eq_getElem?_getD, List.getElem?_eq_getElem hjl]
          rfl
        have hones : ∀ kk, ∀ u ∈ ints64 ((l.drop v).take kk), u.oneCell' = true := fun kk u hu => by simp only [ints64, List.mem_map] at hu; obtain ⟨x, _, rfl⟩ := hu; rfl
        have hnl : ∀ kk, kk ≤ R → (ints64 ((l.drop v).take kk)).length = kk * 1 := fun kk hkk => by have := HRR.out; have := HL.out; simp [ints64]; omega
        have hsz := hkw.size
        have hvi : (0 : Int) ≤ (v : Int) := by omega
        by_cases hroom : n ≤ R
        · have hroom' : ¬ R < n := by omega
          have hvn : (v : Int) ≤ (v : Int) + (n : Int) := by omega
          have hvc : (v : Int) + (n : Int) ≤ (c : Int) := by have := HRR.out; omega
          have hcv : ¬ c = v := by have := HRR.out; omega
          have hvv : v + n - v = n := by omega
          have hnn := hnews n hroom
          have hnn2 := hnl n hroom
          have hnn3 := hones n
          have hk2 := key n hroom
          have HK := Lib.hid hk2
          clear key hnews hones hnl hk2
          go_wp2_with (first | (at_builtin; refine wpList_append_own_at _ rfl _ _ _ rfl w.heap.size 2 i2 (.int .i64 0) 1 8 (by kernel_rfl) hi2 hz1 hz2 hz3 rfl (by omega) u5 out.length (out.map (Value.int .i64)) rfl hown ⟨g, o + v, none⟩ (v + n - v) (c - v) (ints64 ((l.drop v).take n)) rfl (by rw [hvv]; exact hnn2) hnn hnn3 (by simp only [maxLen]; have := HRR.out; omega) (by have := HRR.out; omega) hsz ?_))
          intro v' w2 hown2 hgrow _ _
          obtain ⟨x1, x2⟩ := HK.out w2 v' hown2 hgrow
          have HX := Lib.hid (And.intro x1 x2)
          have hvL : v + n ≤ L := by have := HRR.out; omega
          have hnx := HNX.out hroom
          have HY := Lib.hid hnx
          clear x1 x2 hown2 hgrow HK hown hkw htk hnn hnx
          go_wp2_with fail
          go_roundw
          case rel => exact ⟨k + 1, v + n, h, hvL, by go_num, by go_num, _, HY.out, HX.out.1, HX.out.2⟩
          case measure => simp [intOf]; omega
        · have hroom' : R < n := by omega
          have hfin := HSH.out hroom'
          have hnn2 := hnl R (Nat.le_refl _)
          have hnn3 := hones R
          have hnn := hnews R (Nat.le_refl _)
          have hvn : (v : Int) ≤ (v : Int) + (R : Int) := by omega
          have hvc : (v : Int) + (R : Int) ≤ (c : Int) := by omega
          have hvv : v + R - v = R := by omega
          have hk2 := key R (Nat.le_refl _)
          rw [hfin] at hk2
          have HK := Lib.hid hk2
          by_cases hcv : c = v
          · have hR0 : R = 0 := by have := HRR.out; omega
            clear key hnews hones hnl hk2 hfin hnn hnn2 hnn3
            subst hcv hR0
            go_wp2_with (first | (at_builtin; refine wpList_append_own_at _ rfl _ _ _ rfl w.heap.size 2 i2 (.int .i64 0) 1 8 (by kernel_rfl) hi2 hz1 hz2 hz3 rfl (by omega) u5 out.length (out.map (Value.int .i64)) rfl hown ⟨g, o, none⟩ 0 0 [] rfl rfl (fun j u hj => by simp at hj) (fun u hu => by simp at hu) (by simp only [maxLen]; omega) (by omega) hsz ?_))
            intro v' w2 hown2 hgrow _ _
            have hown2 : w2.ownsRow w.heap.size 2 1 v' (out.length + 0) (out.map (Value.int .i64) ++ ints64 ((l.drop c).take 0)) := by simpa [ints64] using hown2
            have HX := Lib.hid (HK.out w2 v' hown2 hgrow)
            clear hown2 hgrow HK hown hkw htk
            go_wp2_with fail
            go_ret
            exact ⟨v', rfl, HX.out.1, HX.out.2⟩
          · clear key hnews hones hnl hk2 hfin
            go_wp2_with (first | (at_builtin; refine wpList_append_own_at _ rfl _ _ _ rfl w.heap.size 2 i2 (.int .i64 0) 1 8 (by kernel_rfl) hi2 hz1 hz2 hz3 rfl (by omega) u5 out.length (out.map (Value.int .i64)) rfl hown ⟨g, o + v, none⟩ (v + R - v) (c - v) (ints64 ((l.drop v).take R)) rfl (by rw [hvv]; exact hnn2) hnn hnn3 (by simp only [maxLen]; omega) (by omega) hsz ?_))
            intro v' w2 hown2 hgrow _ _
            have HX := Lib.hid (HK.out w2 v' hown2 hgrow)
            clear hown2 hgrow HK hown hkw htk hnn
            go_wp2_with fail
            go_ret
            exact ⟨v', rfl, HX.out.1, HX.out.2⟩
    · obtain rfl : k = N := by omega
      go_wp2_with fail
      go_ret
      have := HN.out
      subst this
      exact ⟨_, rfl, by rw [← htk.done]; exact hown, hkw⟩
end Go.Proofs.YtdamippibpbjhaaGreatDoor

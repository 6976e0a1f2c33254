import Derived.Test.YtamkglgiaiejkaaGreatDoorYx12
import Derived.Maps.AppendAt
import Derived.Deep.OwnRows
import Derived.Deep.AppendLies
/-! Whole numbers of digits and a sign; sums. -/
namespace Go.Proofs.YtamkglgiaiejkaaGreatDoor
open Go.RowKit

/-- A whole number: its sign and its digits. -/
def WV (w : World) (v : Value) (x : Int) : Prop := ∃ m, v = .agg #[.bool (decide (x < 0)), m] ∧ MagV w m (digs x.natAbs)
theorem WV.keep {S : Nat → Prop} {w w' : World} {v : Value} {x : Int} (h : WV w v x) (hk : Keep S w w') (hS : ∀ b, b < w.heap.size → ¬ S b) : WV w' v x := by
  obtain ⟨m, rfl, h⟩ := h
  exact ⟨m, rfl, h.keep hk hS⟩
/-- A number by its sign and its size. -/
def sgn (neg : Bool) (n : Nat) : Int := if neg then -(n : Int) else n
theorem sgn_natAbs (neg : Bool) (n : Nat) : (sgn neg n).natAbs = n := by cases neg <;> simp [sgn]
theorem sgn_neg (neg : Bool) (n : Nat) : decide (sgn neg n < 0) = (neg && decide (0 < n)) := by
  cases neg <;> simp [sgn] <;> omega
theorem digs_length_pos {n : Nat} : decide (0 < (digs n).length) = decide (0 < n) := by
  have : 0 < (digs n).length ↔ 0 < n := by
    constructor
    · intro h
      rcases Nat.eq_zero_or_pos n with e | e
      · rw [e, digs_zero] at h; exact absurd h (by decide)
      · exact e
    · intro h
      rcases Nat.eq_zero_or_pos (digs n).length with e | e
      · have := digs_nil.1 (List.eq_nil_of_length_eq_zero e); omega
      · exact e
  simp [this]
set_option maxRecDepth 100000 in
set_option maxHeartbeats 4000000 in
theorem wide20 (neg : Bool) (v : Value) (l : List Nat) (w : World) (hv : MagV w v l) (hl : Digs l) (hlen : l.length ≤ 1000000) : Calls Tryz.prog 20 #[.bool neg, v] w fun e w' => ∃ v', e = .returned v' ∧ WV w' v' (sgn neg (val l)) ∧ Keep (fun _ => False) w w' := by
  have hv2 := hv
  obtain ⟨A, c, rfl, hc, hr⟩ := hv2
  have hk0 : Keep (fun _ => False) w (w.alloc (.cells #[.bool false, .slice none 0 0] 29)) := (Keep.refl _ w).alloc _
  have hv0 := hv.keep hk0 (fun _ _ h => h)
  have HT := Lib.hid (trim34 A c l (w.alloc (.cells #[.bool false, .slice none 0 0] 29)) hc (fun h => by obtain ⟨A', c', e, _, h'⟩ := hv0; cases e; exact h' h) hl hlen)
  clear hr hc
  go_enter Tryz.func20, Tryz.ntmps20
  go_wp2_with fail
  refine HT.out.mono ?_
  rintro e w1 ⟨k, rfl, hk, hd, rfl⟩
  have HD := Lib.hid (And.intro hk hd)
  have hkl : k = (digs (val l)).length := by rw [← hd, List.length_take, Nat.min_eq_left hk]
  have hfin : ∀ b : Bool, b = decide (sgn neg (val l) < 0) → WV (w.alloc (.cells #[.bool b, .slice A k c] 29)) (.agg #[.bool b, .slice A k c]) (sgn neg (val l)) := fun b hb => by
    refine ⟨.slice A k c, by rw [hb], ?_⟩
    rw [sgn_natAbs]
    exact (hv.keep ((Keep.refl (fun _ => False) w).alloc _) (fun _ _ h => h)).trim HD.out.1 HD.out.2
  have hneg : (neg && decide (0 < k)) = decide (sgn neg (val l) < 0) := by rw [sgn_neg, hkl, digs_length_pos]
  have HF := Lib.hid hfin
  have HG := Lib.hid hneg
  clear HT hd hkl hneg hfin hv hv0 hk
  cases neg
  · go_wp2_with fail
    exact bodyPost_ret (v := .agg #[.bool false, .slice A k c]) (by simp [results, Tryz.results20, go_sem]) rfl ⟨_, rfl, HF.out _ HG.out, (Keep.refl _ w).alloc _⟩
  · cases k with
    | zero =>
      go_wp2_with fail
      exact bodyPost_ret (v := .agg #[.bool false, .slice A 0 c]) (by simp [results, Tryz.results20, go_sem]) rfl ⟨_, rfl, HF.out _ HG.out, (Keep.refl _ w).alloc _⟩
    | succ k =>
      have hk0 : (0 : Int) < ((k + 1 : Nat) : Int) := by omega
      go_wp2_with fail
      exact bodyPost_ret (v := .agg #[.bool true, .slice A (k + 1) c]) (by simp [results, Tryz.results20, go_sem]) rfl ⟨_, rfl, HF.out _ (by rw [← HG.out]; simp), (Keep.refl _ w).alloc _⟩
end Go.Proofs.YtamkglgiaiejkaaGreatDoor

/-! Digits are added. -/
namespace Go.Proofs.YtamkglgiaiejkaaGreatDoor
open Go.RowKit

theorem info65 : (Tryz.prog.info? 65).map (fun i => (i.zero, i.size, i.bytes)) = some (some (.int .u32 0), 1, 4) := by kernel_rfl
theorem own_after {w wr w1 w' : World} {v : Value} {base : Nat} {e : TypeId} {n : Nat} {xs : List Value} (hk : Keep (fun _ => False) w wr) (hA : Keep (fun _ => False) wr w1) (hown : wr.ownsRow base e 1 v n xs) (hb : w.heap.size ≤ base) (hg : w1.grownBy w' v.ownBlock) :
    Keep (fun _ => False) w w' := (hk.step hA (fun _ h => h.elim)).step (grown_keep hg) (fun b hb' => .inr (by have := (ownsRow_lt hown b hb').2; omega))
/-- Digits in a row of one's own. -/
def OD (w : World) (base : Nat) (v : Value) (l : List Nat) : Prop := w.ownsRow base 65 1 v l.length (nums .u32 (natsI l))
theorem OD.nil (w : World) (base : Nat) : OD w base (.slice none 0 0) [] := World.ownsRow_nil w base 65 1
theorem OD.keep {S : Nat → Prop} {w w' : World} {base : Nat} {v : Value} {l : List Nat} (h : OD w base v l) (hk : Keep S w w') (hS : ∀ g, v.ownBlock = some g → ¬ S g) : OD w' base v l := ownsRow_keep h hk hS
theorem OD.snoc {w : World} {base : Nat} {v : Value} {l m : List Nat} {n : Nat} (h : w.ownsRow base 65 1 v (l.length + n) (nums .u32 (natsI l) ++ nums .u32 (natsI m))) (hn : n = m.length) : OD w base v (l ++ m) := by
  unfold OD
  rw [List.length_append, show nums .u32 (natsI (l ++ m)) = nums .u32 (natsI l) ++ nums .u32 (natsI m) by simp [nums, natsI], ← hn]
  exact h
theorem OD.row {w : World} {base g c : Nat} {l : List Nat} (h : OD w base (.slice (some ⟨g, 0, none⟩) l.length c) l) : Row w .u32 g 0 (natsI l) := by
  rcases h.2 with ⟨h1, _⟩ | ⟨g', cap, cur, he, _, hg, _, _, hcs, ht⟩
  · cases h1
  · cases he
    intro j hj
    rw [blk_cell hg, Nat.zero_add]
    have h1 := congrArg (fun z => z[j]?) ht
    simp only [Nat.mul_one] at h1
    rw [natsI_length] at hj
    rw [List.getElem?_take_of_lt hj, Array.getElem?_toList, nums_get (by rw [natsI_length]; exact hj)] at h1
    exact h1
/-- What lies in a row of one's own lies where a slice says. -/
theorem OD.mag {w : World} {base : Nat} {v : Value} {l : List Nat} (h : OD w base v l) : MagV w v l := by
  rcases h.2 with ⟨h1, h2⟩ | ⟨g, cap, cur, rfl, h3⟩
  · have e : l = [] := List.length_eq_zero_iff.1 h2
    subst e
    exact ⟨none, 0, h1, Nat.le_refl _, fun h => absurd h (by decide)⟩
  · exact ⟨_, cap, rfl, h3.2.2.1, fun _ => ⟨g, 0, rfl, OD.row h⟩⟩
theorem MagV.cell {w : World} {A : Option Addr} {n c : Nat} {l : List Nat} (h : MagV w (.slice A n c) l) (k : Nat) (hk : k < l.length) : ∃ g o, A = some ⟨g, o, none⟩ ∧ w.cell? ⟨g, o + k, none⟩ = some (.int .u32 (l.getD k 0 : Nat)) := by
  obtain ⟨A', c', e, _, h2⟩ := h
  cases e
  obtain ⟨g, o, hA, hr⟩ := h2 (by omega)
  have := hr k (by rw [natsI_length]; exact hk)
  rw [natsI_getD] at this
  exact ⟨g, o, hA, this⟩
theorem getD_lt {l : List Nat} (hl : Digs l) (k : Nat) : l.getD k 0 < 4294967296 := by
  rw [List.getD_eq_getElem?_getD]
  by_cases h : k < l.length
  · rw [List.getElem?_eq_getElem h]; exact hl _ (List.getElem_mem h)
  · rw [List.getElem?_eq_none (by omega)]; decide
theorem getD_out {l : List Nat} (k : Nat) (h : l.length ≤ k) : l.getD k 0 = 0 := by
  rw [List.getD_eq_getElem?_getD, List.getElem?_eq_none h]; rfl

set_option maxRecDepth 100000 in
set_option maxHeartbeats 4000000 in
theorem magAdd37 (u v : Value) (la lb : List Nat) (w : World) (hu : MagV w u la) (hv : MagV w v lb) (hla : Digs la) (hlb : Digs lb) (hla9 : la.length ≤ 100000) (hlb9 : lb.length ≤ 100000) : Calls Tryz.prog 37 #[u, v] w fun e w' => ∃ x l, e = .returned x ∧ OD w' w.heap.size x l ∧ Digs l ∧ val l = val la + val lb ∧ (l.length ≤ la.length + 1 ∨ l.length ≤ lb.length + 1) ∧ Keep (fun _ => False) w w' := by
  obtain ⟨i65, hi65, hi65z⟩ := Option.map_eq_some_iff.1 info65
  simp only [Prod.mk.injEq] at hi65z
  obtain ⟨hz1, hz2, hz3⟩ := hi65z
  have HU := Lib.hid (And.intro hu hv)
  obtain ⟨A, ca, rfl, _, _⟩ := hu
  obtain ⟨B, cb, rfl, _, _⟩ := hv
  obtain ⟨n, hn⟩ : ∃ n, n = la.length := ⟨_, rfl⟩
  obtain ⟨m, hm⟩ : ∃ m, m = lb.length := ⟨_, rfl⟩
  rw [← hn] at hla9 HU ⊢
  rw [← hm] at hlb9 HU ⊢
  have HN := Lib.hid (And.intro hn hm)
  clear hn hm
  go_enter Tryz.func37, Tryz.ntmps37
  go_wp2_with fail
  go_loopw [5, 6, 7] (fun x y i wr => ∃ (c : Nat) (out : List Nat), i = .int .i64 (out.length : Nat) ∧ y = .int .u64 c ∧ c ≤ 1 ∧ OD wr w.heap.size x out ∧ Digs out ∧ val out + c * 4294967296 ^ out.length = val (la.take out.length) + val (lb.take out.length) ∧ (out.length ≤ n ∨ out.length ≤ m ∨ (c = 0 ∧ (out.length ≤ n + 1 ∨ out.length ≤ m + 1))) ∧ Keep (fun _ => False) w wr) (fun _ _ i _ => n + m + 2 - (intOf i).toNat)
  case atStart => exact ⟨0, [], rfl, rfl, by omega, OD.nil _ _, (fun d hd => nomatch hd), by simp [val], .inl (Nat.zero_le _), Keep.refl _ _⟩
  case round =>
    obtain ⟨c, out, rfl, rfl, hc1, hown, hdo, heq, hlo, hk⟩ := hrel
    obtain ⟨k, hkk⟩ : ∃ k, k = out.length := ⟨_, rfl⟩
    rw [← hkk] at heq hlo ⊢
    have hks := hk.size
    by_cases hend : n ≤ k ∧ m ≤ k ∧ c = 0
    · obtain ⟨h1, h2, rfl⟩ := hend
      have e1 : ¬ ((k : Int) < (n : Int)) := by omega
      have e2 : ¬ ((k : Int) < (m : Int)) := by omega
      have HF := Lib.hid (And.intro hown (And.intro hdo (And.intro heq (And.intro hlo hkk))))
      clear hown hdo heq hlo hkk
      go_wp2_with fail
      go_ret
      obtain ⟨hown, hdo, heq, hlo, hkk⟩ := HF.out
      refine ⟨_, rfl, out, hown, hdo, ?_, by rw [← hkk]; omega, hk⟩
      rw [val_take_all la k (by rw [← HN.out.1]; exact h1), val_take_all lb k (by rw [← HN.out.2]; exact h2)] at heq
      omega
    · obtain ⟨x, hx⟩ : ∃ x, x = la.getD k 0 := ⟨_, rfl⟩
      obtain ⟨y, hy⟩ : ∃ y, y = lb.getD k 0 := ⟨_, rfl⟩
      have hx9 : x < 4294967296 := by rw [hx]; exact getD_lt hla k
      have hy9 : y < 4294967296 := by rw [hy]; exact getD_lt hlb k
      have hxn : n ≤ k → x = 0 := fun h => by rw [hx]; exact getD_out k (by rw [← HN.out.1]; exact h)
      have hym : m ≤ k → y = 0 := fun h => by rw [hy]; exact getD_out k (by rw [← HN.out.2]; exact h)
      obtain ⟨s, hs⟩ : ∃ s, s = c + x := ⟨_, rfl⟩
      obtain ⟨t, ht⟩ : ∃ t, t = s + y := ⟨_, rfl⟩
      obtain ⟨d, hd⟩ : ∃ d, d = t % 4294967296 := ⟨_, rfl⟩
      obtain ⟨c', hc'⟩ : ∃ c', c' = t / 4294967296 := ⟨_, rfl⟩
      have w1 : IntKind.u64.wrap ((c : Int) + (x : Int)) = (s : Int) := by rw [IntKind.wrap_u64]; omega
      have w2 : IntKind.u64.wrap ((s : Int) + (y : Int)) = (t : Int) := by rw [IntKind.wrap_u64]; omega
      have w3 : IntKind.u32.wrap (t : Int) = (d : Int) := by rw [IntKind.wrap_u32]; omega
      have w4 : (t : Int) / 4294967296 = (c' : Int) := by omega
      have w5 : IntKind.u64.wrap (x : Int) = (x : Int) := by rw [IntKind.wrap_u64]; omega
      have w6 : IntKind.u64.wrap (y : Int) = (y : Int) := by rw [IntKind.wrap_u64]; omega
      have hA : Keep (fun _ => False) wr (wr.alloc (.cells #[.int .u32 d] 65)) := (Keep.refl _ wr).alloc _
      have hown1 : (wr.alloc (.cells #[.int .u32 d] 65)).ownsRow w.heap.size 65 1 u5 k (nums .u32 (natsI out)) := by rw [hkk]; exact hown.keep hA (fun _ _ h => h)
      have hstep : val (out ++ [d]) + c' * 4294967296 ^ (k + 1) = val (la.take (k + 1)) + val (lb.take (k + 1)) := by
        have := add_step (a := la) (b := lb) (out := out) (c := c) (t := t) (by rw [← hkk]; exact heq) (by rw [← hkk, ← hx, ← hy]; omega)
        rw [← hkk] at this
        rw [hd, hc']
        exact this
      have hd9 : d < 4294967296 := by omega
      have hc9 : c' ≤ 1 := by omega
      have hlo' : k + 1 ≤ n ∨ k + 1 ≤ m ∨ (c' = 0 ∧ (k + 1 ≤ n + 1 ∨ k + 1 ≤ m + 1)) := by
        by_cases h1 : k < n
        · exact .inl h1
        · by_cases h2 : k < m
          · exact .inr (.inl h2)
          · have := hxn (by omega); have := hym (by omega)
            refine .inr (.inr ⟨by omega, by omega⟩)
      have hk9 : k ≤ 100001 := by omega
      have HS := Lib.hid (And.intro hstep (And.intro hd9 (And.intro hc9 (And.intro hlo' (And.intro hdo hkk)))))
      have X := Lib.hid (And.intro hx (And.intro hy (And.intro hs (And.intro ht trivial))))
      have HX0 := Lib.hid (And.intro hxn hym)
      have HO := Lib.hid hown
      clear hx hy hd hc' ht hstep hd9 hc9 hlo' hdo heq hkk hx9 hy9 hxn hym hown hs hlo
      by_cases h1 : k < n
      · have e1 : (k : Int) < (n : Int) := by omega
        have e0 : (0 : Int) ≤ (k : Int) := by omega
        obtain ⟨g, o, rfl, hcell⟩ := (HU.out.1.keep hk (fun _ _ h => h)).cell k (by rw [← HN.out.1]; omega)
        rw [← X.out.1] at hcell
        by_cases h2 : k < m
        · have e2 : (k : Int) < (m : Int) := by omega
          obtain ⟨g', o', rfl, hcell'⟩ := (HU.out.2.keep hk (fun _ _ h => h)).cell k (by rw [← HN.out.2]; omega)
          rw [← X.out.2.1] at hcell'
          go_wp2_with (first | (at_builtin; refine wpList_append_own_at _ rfl _ _ _ rfl w.heap.size 65 i65 (.int .u32 0) 1 4 (by kernel_rfl) hi65 hz1 hz2 hz3 rfl (by omega) u5 k (nums .u32 (natsI out)) rfl hown1 ⟨wr.heap.size, 0, none⟩ 1 1 [.int .u32 d] rfl rfl (World.news_of_block (cs := #[.int .u32 d]) (t := 65) (fr := (0, 0)) (blk_new wr _)) (by simp [Value.oneCell']) (by simp only [maxLen]; omega) (by omega) (by simp; omega) ?_))
          intro v' w2 hown2 hgrow _ hat2
          have hkf := own_after hk hA HO.out (Nat.le_refl _) hgrow
          have hf : OD w2 w.heap.size v' (out ++ [d]) := OD.snoc (m := [d]) (n := 1) (by rw [← HS.out.2.2.2.2.2]; exact hown2) rfl
          have HFK := Lib.hid (And.intro hkf hf)
          clear hkf hf hown1 hown2 hgrow hat2 hA hk hks HO
          go_wp2_with fail
          go_roundw
          case rel => exact ⟨c', out ++ [d], by rw [List.length_append, ← HS.out.2.2.2.2.2]; go_num, rfl, HS.out.2.2.1, HFK.out.2, HS.out.2.2.2.2.1.append (fun z hz => by rw [List.mem_singleton.1 hz]; exact HS.out.2.1), by rw [List.length_append, ← HS.out.2.2.2.2.2]; exact HS.out.1, by rw [List.length_append, ← HS.out.2.2.2.2.2]; exact HS.out.2.2.2.1, HFK.out.1⟩
          case measure => (have := HS.out.2.2.2.1; simp only [intOf]; omega)
        · have e2 : ¬ ((k : Int) < (m : Int)) := by omega
          have e3 : s = t := by rw [X.out.2.2.2.1, HX0.out.2 (by omega)]; rfl
          subst e3
          go_wp2_with (first | (at_builtin; refine wpList_append_own_at _ rfl _ _ _ rfl w.heap.size 65 i65 (.int .u32 0) 1 4 (by kernel_rfl) hi65 hz1 hz2 hz3 rfl (by omega) u5 k (nums .u32 (natsI out)) rfl hown1 ⟨wr.heap.size, 0, none⟩ 1 1 [.int .u32 d] rfl rfl (World.news_of_block (cs := #[.int .u32 d]) (t := 65) (fr := (0, 0)) (blk_new wr _)) (by simp [Value.oneCell']) (by simp only [maxLen]; omega) (by omega) (by simp; omega) ?_))
          intro v' w2 hown2 hgrow _ hat2
          have hkf := own_after hk hA HO.out (Nat.le_refl _) hgrow
          have hf : OD w2 w.heap.size v' (out ++ [d]) := OD.snoc (m := [d]) (n := 1) (by rw [← HS.out.2.2.2.2.2]; exact hown2) rfl
          have HFK := Lib.hid (And.intro hkf hf)
          clear hkf hf hown1 hown2 hgrow hat2 hA hk hks HO
          go_wp2_with fail
          go_roundw
          case rel => exact ⟨c', out ++ [d], by rw [List.length_append, ← HS.out.2.2.2.2.2]; go_num, rfl, HS.out.2.2.1, HFK.out.2, HS.out.2.2.2.2.1.append (fun z hz => by rw [List.mem_singleton.1 hz]; exact HS.out.2.1), by rw [List.length_append, ← HS.out.2.2.2.2.2]; exact HS.out.1, by rw [List.length_append, ← HS.out.2.2.2.2.2]; exact HS.out.2.2.2.1, HFK.out.1⟩
          case measure => (have := HS.out.2.2.2.1; simp only [intOf]; omega)
      · have e1 : ¬ ((k : Int) < (n : Int)) := by omega
        have e0 : (0 : Int) ≤ (k : Int) := by omega
        have e3 : c = s := by have := X.out.2.2.1; have := HX0.out.1 (by omega); omega
        subst e3
        by_cases h2 : k < m
        · have e2 : (k : Int) < (m : Int) := by omega
          obtain ⟨g', o', rfl, hcell'⟩ := (HU.out.2.keep hk (fun _ _ h => h)).cell k (by rw [← HN.out.2]; omega)
          rw [← X.out.2.1] at hcell'
          go_wp2_with (first | (at_builtin; refine wpList_append_own_at _ rfl _ _ _ rfl w.heap.size 65 i65 (.int .u32 0) 1 4 (by kernel_rfl) hi65 hz1 hz2 hz3 rfl (by omega) u5 k (nums .u32 (natsI out)) rfl hown1 ⟨wr.heap.size, 0, none⟩ 1 1 [.int .u32 d] rfl rfl (World.news_of_block (cs := #[.int .u32 d]) (t := 65) (fr := (0, 0)) (blk_new wr _)) (by simp [Value.oneCell']) (by simp only [maxLen]; omega) (by omega) (by simp; omega) ?_))
          intro v' w2 hown2 hgrow _ hat2
          have hkf := own_after hk hA HO.out (Nat.le_refl _) hgrow
          have hf : OD w2 w.heap.size v' (out ++ [d]) := OD.snoc (m := [d]) (n := 1) (by rw [← HS.out.2.2.2.2.2]; exact hown2) rfl
          have HFK := Lib.hid (And.intro hkf hf)
          clear hkf hf hown1 hown2 hgrow hat2 hA hk hks HO
          go_wp2_with fail
          go_roundw
          case rel => exact ⟨c', out ++ [d], by rw [List.length_append, ← HS.out.2.2.2.2.2]; go_num, rfl, HS.out.2.2.1, HFK.out.2, HS.out.2.2.2.2.1.append (fun z hz => by rw [List.mem_singleton.1 hz]; exact HS.out.2.1), by rw [List.length_append, ← HS.out.2.2.2.2.2]; exact HS.out.1, by rw [List.length_append, ← HS.out.2.2.2.2.2]; exact HS.out.2.2.2.1, HFK.out.1⟩
          case measure => (have := HS.out.2.2.2.1; simp only [intOf]; omega)
        · have e2 : ¬ ((k : Int) < (m : Int)) := by omega
          have e4 : c = t := by have := X.out.2.2.2.1; have := HX0.out.2 (by omega); omega
          subst e4
          have e5 : (0 : Int) < (c : Int) := by omega
          go_wp2_with (first | (at_builtin; refine wpList_append_own_at _ rfl _ _ _ rfl w.heap.size 65 i65 (.int .u32 0) 1 4 (by kernel_rfl) hi65 hz1 hz2 hz3 rfl (by omega) u5 k (nums .u32 (natsI out)) rfl hown1 ⟨wr.heap.size, 0, none⟩ 1 1 [.int .u32 d] rfl rfl (World.news_of_block (cs := #[.int .u32 d]) (t := 65) (fr := (0, 0)) (blk_new wr _)) (by simp [Value.oneCell']) (by simp only [maxLen]; omega) (by omega) (by simp; omega) ?_))
          intro v' w2 hown2 hgrow _ hat2
          have hkf := own_after hk hA HO.out (Nat.le_refl _) hgrow
          have hf : OD w2 w.heap.size v' (out ++ [d]) := OD.snoc (m := [d]) (n := 1) (by rw [← HS.out.2.2.2.2.2]; exact hown2) rfl
          have HFK := Lib.hid (And.intro hkf hf)
          clear hkf hf hown1 hown2 hgrow hat2 hA hk hks HO
          go_wp2_with fail
          go_roundw
          case rel => exact ⟨c', out ++ [d], by rw [List.length_append, ← HS.out.2.2.2.2.2]; go_num, rfl, HS.out.2.2.1, HFK.out.2, HS.out.2.2.2.2.1.append (fun z hz => by rw [List.mem_singleton.1 hz]; exact HS.out.2.1), by rw [List.length_append, ← HS.out.2.2.2.2.2]; exact HS.out.1, by rw [List.length_append, ← HS.out.2.2.2.2.2]; exact HS.out.2.2.2.1, HFK.out.1⟩
          case measure => (have := HS.out.2.2.2.1; simp only [intOf]; omega)
end Go.Proofs.YtamkglgiaiejkaaGreatDoor

/-! Digits are taken off. -/
namespace Go.Proofs.YtamkglgiaiejkaaGreatDoor
open Go.RowKit

/-- The block of a row of one's own. -/
theorem OD.open {w : World} {base q n c : Nat} {l : List Nat} (h : OD w base (.slice (some ⟨q, 0, none⟩) n c) l) : n = l.length ∧ base ≤ q ∧ l.length ≤ c ∧ ∃ cur, w.heap[q]? = some (.cells cur 65 (0, 0)) ∧ cur.size = c ∧ cur.toList.take l.length = nums .u32 (natsI l) ∧ c ≤ maxLen := by
  rcases h.2 with ⟨h1, _⟩ | ⟨g', cap, cur, he, hb, hg, hc, hm, hcs, ht⟩
  · cases h1
  · cases he
    exact ⟨rfl, hb, hc, cur, hg, by rw [hcs, Nat.mul_one], by simpa using ht, hm⟩
/-- A digit of one's own is written. -/
theorem OD.put {w : World} {base q c : Nat} {l : List Nat} (h : OD w base (.slice (some ⟨q, 0, none⟩) l.length c) l) (k d : Nat) : OD (w.setCell ⟨q, k, none⟩ (.int .u32 d)) base (.slice (some ⟨q, 0, none⟩) l.length c) (l.set k d) := by
  obtain ⟨_, hb, hc, cur, hg, hcs, ht, hm⟩ := h.open
  have h1 := blk_set hg k (.int .u32 d)
  unfold OD
  rw [List.length_set]
  refine ⟨by simp [nums, natsI], .inr ⟨q, c, _, rfl, hb, h1, hc, hm, ?_, ?_⟩⟩
  · simp [hcs]
  · rw [Nat.mul_one, Array.toList_setIfInBounds, List.take_set, ht]
    simp [nums, natsI, List.map_set]
/-- What a slice shows lies in a block from base on. -/
def Fresh (base : Nat) (x : Value) : Prop := ∀ g o n c, x = .slice (some ⟨g, o, none⟩) n c → base ≤ g
set_option maxRecDepth 100000 in
set_option maxHeartbeats 4000000 in
theorem magSub39F (u v : Value) (la lb : List Nat) (w : World) (hu : MagV w u la) (hv : MagV w v lb) (hla : Digs la) (hlb : Digs lb) (hla0 : 0 < la.length) (hla9 : la.length ≤ 100000) (hlb9 : lb.length ≤ la.length) (hle : val lb ≤ val la) : Calls Tryz.prog 39 #[u, v] w fun e w' => ∃ x, e = .returned x ∧ MagV w' x (digs (val la - val lb)) ∧ Keep (fun _ => False) w w' ∧ Fresh w.heap.size x := by
  obtain ⟨i65, hi65, hi65z⟩ := Option.map_eq_some_iff.1 info65
  simp only [Prod.mk.injEq] at hi65z
  obtain ⟨hz1, hz2, hz3⟩ := hi65z
  have HU := Lib.hid (And.intro hu hv)
  obtain ⟨A, ca, rfl, _, hrA⟩ := hu
  obtain ⟨B, cb, rfl, _, _⟩ := hv
  obtain ⟨g, o, rfl, hrow⟩ := hrA hla0
  obtain ⟨n, hn⟩ : ∃ n, n = la.length := ⟨_, rfl⟩
  obtain ⟨m, hm⟩ : ∃ m, m = lb.length := ⟨_, rfl⟩
  rw [← hn] at hla9 hlb9 HU ⊢
  rw [← hm] at hlb9 HU ⊢
  have HN := Lib.hid (And.intro hn hm)
  have hn' := hn
  clear hn hm
  rw [← hn'] at hla0
  have hk0 : Keep (fun _ => False) w (w.alloc (.cells #[] 65)) := (Keep.refl _ w).alloc _
  have hown0 : (w.alloc (.cells #[] 65)).ownsRow w.heap.size 65 1 (.slice (some ⟨w.heap.size, 0, none⟩) 0 0) 0 [] := ⟨rfl, .inr ⟨w.heap.size, 0, #[], rfl, Nat.le_refl _, blk_new w _, Nat.le_refl _, Nat.zero_le _, rfl, rfl⟩⟩
  have hnews : ∀ j u, (nums .u32 (natsI la))[j]? = some u → (w.alloc (.cells #[] 65)).cell? ((⟨g, o, none⟩ : Addr).add j) = some u := fun j u hj => by
    have hjl : j < (natsI la).length := by
      have := (List.getElem?_eq_some_iff.1 hj).1
      simpa [nums] using this
    have h1 := (hrow.keep hk0 (fun h => h)) j hjl
    rw [nums_get hjl] at hj
    cases hj
    have e : (⟨g, o, none⟩ : Addr).add j = ⟨g, o + j, none⟩ := by unfold Addr.add; split <;> simp_all
    rw [e]
    exact h1
  have hnl : (nums .u32 (natsI la)).length = n := by simp [nums, natsI, HN.out.1]
  have hones : ∀ u ∈ nums .u32 (natsI la), u.oneCell' = true := fun u hu => by
    simp only [nums, List.mem_map] at hu
    obtain ⟨x, _, rfl⟩ := hu
    rfl
  go_enter Tryz.func39, Tryz.ntmps39
  go_wp2_with (first | (at_builtin; refine wpList_append_own_at _ rfl _ _ _ rfl w.heap.size 65 i65 (.int .u32 0) 1 4 (by kernel_rfl) hi65 hz1 hz2 hz3 rfl (by omega) (.slice (some ⟨w.heap.size, 0, none⟩) 0 0) 0 [] rfl hown0 ⟨g, o, none⟩ n ca (nums .u32 (natsI la)) rfl (by rw [hnl, Nat.mul_one]) hnews hones (by simp only [maxLen]; omega) (by omega) (by simp) ?_))
  intro v' w2 hown2 hgrow _ hat2
  have hkf : Keep (fun _ => False) w w2 := hk0.step (grown_keep hgrow) (fun b hb => .inr (by cases hb; exact Nat.le_refl _))
  have hod : OD w2 w.heap.size v' la := by
    unfold OD
    exact hown2
  clear hown2 hgrow hat2 hown0 hnews hnl hones hk0 hn' hrA hrow
  obtain ⟨q, cq, rfl⟩ : ∃ q cq, v' = .slice (some ⟨q, 0, none⟩) n cq := by
    rcases hod.2 with ⟨_, h⟩ | ⟨g', cap, cur, he, _⟩
    · have := HN.out.1; omega
    · exact ⟨g', cap, by rw [he, ← HN.out.1]⟩
  have HO := Lib.hid hod
  clear hod
  go_wp2_with fail
  go_loopw [6, 7, 8, 14] (fun br _ _ i wr => ∃ (r k : Nat) (l : List Nat), br = .int .i64 r ∧ i = .int .i64 k ∧ r ≤ 1 ∧ k ≤ n ∧ l.length = n ∧ OD wr w.heap.size (.slice (some ⟨q, 0, none⟩) n cq) l ∧ Digs l ∧ val (l.take k) + val (lb.take k) = val (la.take k) + r * 4294967296 ^ k ∧ l.drop k = la.drop k ∧ Keep (fun _ => False) w wr) (fun _ _ _ i _ => n - (intOf i).toNat)
  case atStart => exact ⟨0, 0, la, rfl, rfl, by omega, by omega, HN.out.1.symm, HO.out, hla, by simp [val], rfl, hkf⟩
  case round =>
    obtain ⟨r, k, l, rfl, rfl, hr1, hkn, hll, hod, hdl, heq, hdr, hk⟩ := hrel
    have HH := Lib.hid (And.intro hll (And.intro hod (And.intro hdl (And.intro heq hdr))))
    clear hll hod hdl heq hdr
    by_cases hend : k < n
    · obtain ⟨x, hx⟩ : ∃ x, x = la.getD k 0 := ⟨_, rfl⟩
      obtain ⟨y, hy⟩ : ∃ y, y = lb.getD k 0 := ⟨_, rfl⟩
      have hx9 : x < 4294967296 := by rw [hx]; exact getD_lt hla k
      have hy9 : y < 4294967296 := by rw [hy]; exact getD_lt hlb k
      have hym : m ≤ k → y = 0 := fun h => by rw [hy]; exact getD_out k (by rw [← HN.out.2]; exact h)
      have hlk : l.getD k 0 = x := by
        rw [hx, List.getD_eq_getElem?_getD, List.getD_eq_getElem?_getD]
        have := congrArg (fun z => z[0]?) HH.out.2.2.2.2
        simp only [List.getElem?_drop, Nat.add_zero] at this
        rw [this]
      obtain ⟨_, hqb, _, cur, hg, _, _⟩ := HH.out.2.1.open
      have hf := blk_frozen hg
      obtain ⟨q', o', hqe, hcell⟩ := HH.out.2.1.mag.cell k (by rw [HH.out.1]; exact hend)
      cases hqe
      rw [hlk, Nat.zero_add] at hcell
      have hkk : (k : Int) < (n : Int) := by omega
      have hk0 : (0 : Int) ≤ (k : Int) := by omega
      have HX := Lib.hid (And.intro hx (And.intro hy (And.intro hym hlk)))
      clear hx hy hym hlk
      have hfin : ∀ (d r' : Nat), d < 4294967296 → r' ≤ 1 → d + r + y = x + r' * 4294967296 → ∀ (z1 z2 : Int), z1 = r' → z2 = d →
          (∃ (r k1 : Nat) (l : List Nat), Value.int .i64 z1 = .int .i64 r ∧ Value.int .i64 ((k : Int) + 1) = .int .i64 k1 ∧ r ≤ 1 ∧ k1 ≤ n ∧ l.length = n ∧ OD (wr.setCell ⟨q, k, none⟩ (.int .u32 z2)) w.heap.size (.slice (some ⟨q, 0, none⟩) n cq) l ∧ Digs l ∧ val (l.take k1) + val (lb.take k1) = val (la.take k1) + r * 4294967296 ^ k1 ∧ l.drop k1 = la.drop k1 ∧ Keep (fun _ => False) w (wr.setCell ⟨q, k, none⟩ (.int .u32 z2))) := by
        rintro d r' hd hr' hdx _ _ rfl rfl
        obtain ⟨e1, e2, e3, e4, e5⟩ := HH.out
        refine ⟨r', k + 1, l.set k d, rfl, by go_num, hr', hend, by rw [List.length_set, e1], ?_, ?_, ?_, ?_, hk.setCell (p := ⟨q, k, none⟩) (.inr hqb) _⟩
        · have := OD.put (by rw [e1]; exact e2) k d
          rw [e1] at this
          exact this
        · intro z hz
          rcases List.mem_or_eq_of_mem_set hz with h | h
          · exact e3 z h
          · rw [h]; exact hd
        · exact sub_step (by rw [e1]; exact hend) e4 (by rw [← HX.out.1, ← HX.out.2.1]; exact hdx)
        · rw [List.drop_set_of_lt (by omega)]
          have := congrArg (fun z => z.drop 1) e5
          simpa [List.drop_drop, Nat.add_comm] using this
      have HF := Lib.hid hfin
      clear hfin
      by_cases h2 : k < m
      · have e2 : (k : Int) < (m : Int) := by omega
        obtain ⟨g', o', rfl, hcell'⟩ := (HU.out.2.keep hk (fun _ _ h => h)).cell k (by rw [← HN.out.2]; omega)
        rw [← HX.out.2.1] at hcell'
        go_wp2_with fail
        · refine ⟨HF.out (x + 4294967296 - r - y) 1 (by omega) (by omega) (by omega) _ _ rfl (by omega), by simp [intOf]; omega⟩
        · refine ⟨HF.out (x - r - y) 0 (by omega) (by omega) (by omega) _ _ rfl (by omega), by simp [intOf]; omega⟩
      · have e2 : ¬ ((k : Int) < (m : Int)) := by omega
        have e3 := HX.out.2.2.1 (by omega)
        go_wp2_with fail
        · refine ⟨HF.out (x + 4294967296 - r - y) 1 (by omega) (by omega) (by omega) _ _ rfl (by omega), by simp [intOf]; omega⟩
        · refine ⟨HF.out (x - r - y) 0 (by omega) (by omega) (by omega) _ _ rfl (by omega), by simp [intOf]; omega⟩
    · obtain rfl : k = n := by omega
      obtain ⟨e1, e2, e3, e4, _⟩ := HH.out
      rw [val_take_all l k (by omega), val_take_all lb k (by rw [← HN.out.2]; exact hlb9), val_take_all la k (by rw [← HN.out.1]; exact Nat.le_refl _)] at e4
      have e5 : val l = val la - val lb := by
        have h1 := val_lt e3
        rw [e1] at h1
        rcases Nat.eq_zero_or_pos r with h0 | h0
        · rw [h0, Nat.zero_mul] at e4; omega
        · obtain rfl : r = 1 := by omega
          rw [Nat.one_mul] at e4; omega
      have hm := e2.mag
      obtain ⟨A', c', he, hc', hr'⟩ := hm
      cases he
      have HT := Lib.hid (trim34 (some ⟨q, 0, none⟩) cq l wr hc' hr' e3 (by omega))
      rw [e1] at HT
      have HM := Lib.hid (And.intro e2 e5)
      clear e2 e5 e1 e3 e4 hr' hc' HH
      go_wp2_with fail
      refine HT.out.mono ?_
      rintro e w4 ⟨j, rfl, hj, hjd, rfl⟩
      go_wp2_with fail
      go_ret
      refine ⟨_, rfl, ?_, hk, ?_⟩
      · rw [← HM.out.2]
        exact HM.out.1.mag.trim hj hjd
      · rintro g' o' n' c' e'
        cases e'
        exact HM.out.1.open.2.1
theorem magSub39 (u v : Value) (la lb : List Nat) (w : World) (hu : MagV w u la) (hv : MagV w v lb) (hla : Digs la) (hlb : Digs lb) (hla0 : 0 < la.length) (hla9 : la.length ≤ 100000) (hlb9 : lb.length ≤ la.length) (hle : val lb ≤ val la) : Calls Tryz.prog 39 #[u, v] w fun e w' => ∃ x, e = .returned x ∧ MagV w' x (digs (val la - val lb)) ∧ Keep (fun _ => False) w w' :=
  (magSub39F u v la lb w hu hv hla hlb hla0 hla9 hlb9 hle).mono fun _ _ ⟨x, h1, h2, h3, _⟩ => ⟨x, h1, h2, h3⟩
end Go.Proofs.YtamkglgiaiejkaaGreatDoor

/-! Whole numbers: the sign; turned round. -/
namespace Go.Proofs.YtamkglgiaiejkaaGreatDoor
open Go.RowKit

theorem sgn_turn (x : Int) : sgn (!decide (x < 0)) x.natAbs = -x := by
  unfold sgn
  by_cases h : x < 0 <;> simp [h] <;> omega
theorem sgn_self (x : Int) : sgn (decide (x < 0)) x.natAbs = x := by
  unfold sgn
  by_cases h : x < 0 <;> simp [h] <;> omega
/-- Digits do not lie in a block of other things. -/
theorem MagV.off {w w' : World} {v : Value} {l : List Nat} (h : MagV w v l) {k : Nat} {cs : Array Value} (hcc : ∀ i, w.cell? ⟨k, i, none⟩ = cs[i]?) (hn : ∀ (i : Nat) (x : Int), cs[i]? ≠ some (Value.int IntKind.u32 x)) (hk : Keep (fun b => b = k) w w') : MagV w' v l := by
  obtain ⟨A, c, rfl, h1, h2⟩ := h
  refine ⟨A, c, rfl, h1, fun h0 => ?_⟩
  obtain ⟨g, o, rfl, hr⟩ := h2 h0
  refine ⟨g, o, rfl, hr.keep hk (fun e => ?_)⟩
  have := hr 0 (by rw [natsI_length]; exact h0)
  have e' : g = k := e
  rw [e', hcc] at this
  exact hn _ _ this
theorem wide_cells (b : Bool) (A : Option Addr) (n c : Nat) : ∀ (i : Nat) (x : Int), (#[Value.bool b, Value.slice A n c])[i]? ≠ some (Value.int IntKind.u32 x) := by
  intro i x
  match i with
  | 0 => intro h; simp at h
  | 1 => intro h; simp at h
  | i + 2 => intro h; simp at h
set_option maxRecDepth 100000 in
set_option maxHeartbeats 4000000 in
theorem negated36 (v : Value) (x : Int) (w : World) (hv : WV w v x) (h9 : (digs x.natAbs).length ≤ 100000) : Calls Tryz.prog 36 #[v] w fun e w' => ∃ v', e = .returned v' ∧ WV w' v' (-x) ∧ Keep (fun _ => False) w w' := by
  obtain ⟨m, rfl, hm⟩ := hv
  have hm' := hm
  obtain ⟨A, c, rfl, hc, _⟩ := hm'
  generalize hb : decide (x < 0) = b
  have hk0 : Keep (fun _ => False) w ((w.alloc (.cells #[.bool b, .slice A (digs x.natAbs).length c] 29)).alloc (.cells #[.bool false, .slice none 0 0] 29)) := ((Keep.refl _ w).alloc _).alloc _
  have HW := Lib.hid (wide20 (!b) (.slice A (digs x.natAbs).length c) (digs x.natAbs) _ (hm.keep hk0 (fun _ _ h => h)) (digs_digs _) (by omega))
  have hb0 := blk_alloc (blk_new w (.cells #[.bool b, .slice A (digs x.natAbs).length c] 29)) (.cells #[.bool false, .slice none 0 0] 29)
  have hb1 : ((w.alloc (.cells #[.bool b, .slice A (digs x.natAbs).length c] 29)).alloc (.cells #[.bool false, .slice none 0 0] 29)).heap[w.heap.size + 1]? = some (.cells #[.bool false, .slice none 0 0] 29 (0, 0)) := by have := blk_new (w.alloc (.cells #[.bool b, .slice A (digs x.natAbs).length c] 29)) (.cells #[.bool false, .slice none 0 0] 29); simpa using this
  have hf := sgn_turn x
  rw [hb] at hf
  have HS := Lib.hid (And.intro hf (val_digs x.natAbs))
  clear hf hb hm hc
  go_enter Tryz.func36, Tryz.ntmps36
  go_wp2_with fail
  generalize ((w.alloc (.cells #[.bool b, .slice A (digs x.natAbs).length c] 29)).alloc (.cells #[.bool false, .slice none 0 0] 29)) = w0 at *
  refine HW.out.mono ?_
  rintro e w1 ⟨v', rfl, hv', hk1⟩
  rw [HS.out.2, HS.out.1] at hv'
  have hb1' := hk1.blk hb1 (fun h => h)
  have hcc := blk_cell hb1'
  have hff := blk_frozen hb1'
  obtain ⟨m', rfl, hm'⟩ := hv'
  rw [Int.natAbs_neg] at hm'
  have HV := Lib.hid hm'
  have hm'' := hm'
  obtain ⟨A', c', rfl, _, _⟩ := hm''
  clear hm' HW
  go_wp2_with fail
  have hk2 : Keep (fun b => b = w.heap.size + 1) w1 ((w1.setCell ⟨w.heap.size + 1, 0, none⟩ (.bool (decide (0 < x)))).setCell ⟨w.heap.size + 1, 1, none⟩ (.slice A' (digs x.natAbs).length c')) := ((Keep.refl (fun b => b = w.heap.size + 1) w1).setCell (p := ⟨w.heap.size + 1, 0, none⟩) (.inl rfl) _).setCell (p := ⟨w.heap.size + 1, 1, none⟩) (.inl rfl) _
  have hm2 := HV.out.off hcc (wide_cells _ _ _ _) hk2
  have hb2 := blk_set (blk_set hb1' 0 (.bool (decide (0 < x)))) 1 (.slice A' (digs x.natAbs).length c')
  have hc2 := blk_cell hb2
  refine bodyPost_ret (v := .agg #[.bool (decide (0 < x)), .slice A' (digs x.natAbs).length c']) (by simp [results, Tryz.results36, go_sem, hc2]) rfl ⟨_, rfl, ⟨.slice A' (digs x.natAbs).length c', ?_, ?_⟩, ?_⟩
  · rw [show decide (-x < 0) = decide (0 < x) by simp]
  · rw [Int.natAbs_neg]
    exact hm2
  · exact (hk0.trans hk1).step hk2 (fun b hb => .inr (by have h' : b = w.heap.size + 1 := hb; omega))
theorem digs_natAbs_zero {x : Int} (h : (digs x.natAbs).length = 0) : x = 0 := by
  have := digs_nil.1 (List.eq_nil_of_length_eq_zero h)
  omega
set_option maxRecDepth 100000 in
set_option maxHeartbeats 4000000 in
theorem sign7 (v : Value) (x : Int) (w : World) (hv : WV w v x) : Calls Tryz.prog 7 #[v] w fun e w' => e = .returned (.int .i64 (if x < 0 then -1 else if x = 0 then 0 else 1)) ∧ Keep (fun _ => False) w w' := by
  obtain ⟨m, rfl, hm⟩ := hv
  obtain ⟨A, c, rfl, hc, _⟩ := hm
  by_cases h : x < 0
  · rw [show decide (x < 0) = true by simp [h], if_pos h]
    go_enter Tryz.func7, Tryz.ntmps7
    go_wp2_with fail
    go_ret
    exact ⟨rfl, (Keep.refl _ w).alloc _⟩
  · rw [show decide (x < 0) = false by simp [h], if_neg h]
    by_cases h0 : x = 0
    · rw [if_pos h0]
      have e : (digs x.natAbs).length = 0 := by rw [h0]; simp [digs_zero]
      rw [e]
      go_enter Tryz.func7, Tryz.ntmps7
      go_wp2_with fail
      go_ret
      exact ⟨rfl, (Keep.refl _ w).alloc _⟩
    · rw [if_neg h0]
      have e : ((((digs x.natAbs).length : Nat) : Int) == 0) = false := beq_eq_false_iff_ne.2 (fun e => h0 (digs_natAbs_zero (by omega)))
      generalize (digs x.natAbs).length = n at *
      go_enter Tryz.func7, Tryz.ntmps7
      go_wp2_with fail
      go_ret
      exact ⟨rfl, (Keep.refl _ w).alloc _⟩
end Go.Proofs.YtamkglgiaiejkaaGreatDoor

/-! Whole numbers held against each other. -/
namespace Go.Proofs.YtamkglgiaiejkaaGreatDoor
open Go.RowKit

/-- How two whole numbers stand to each other. -/
def cmpZ (x y : Int) : Int := if x < y then -1 else if y < x then 1 else 0
theorem cmpZ_pos {x y : Int} (hx : ¬ x < 0) (hy : ¬ y < 0) : cmpI x.natAbs y.natAbs = cmpZ x y := by
  unfold cmpI cmpZ
  by_cases h1 : x < y
  · rw [if_pos h1, if_pos (by omega)]
  · rw [if_neg h1, if_neg (by omega)]
    by_cases h2 : y < x
    · rw [if_pos h2, if_pos (by omega)]
    · rw [if_neg h2, if_neg (by omega)]
theorem cmpZ_neg {x y : Int} (hx : x < 0) (hy : y < 0) : -cmpI x.natAbs y.natAbs = cmpZ x y := by
  unfold cmpI cmpZ
  by_cases h1 : x < y
  · rw [if_pos h1, if_neg (by omega), if_pos (by omega)]
  · rw [if_neg h1]
    by_cases h2 : y < x
    · rw [if_pos h2, if_pos (by omega)]; rfl
    · rw [if_neg h2, if_neg (by omega), if_neg (by omega)]; rfl
theorem cmpI_bound (a b : Nat) : -1 ≤ cmpI a b ∧ cmpI a b ≤ 1 := by unfold cmpI; split <;> (try split) <;> decide
set_option maxRecDepth 100000 in
set_option maxHeartbeats 4000000 in
theorem wideCmp27 (u v : Value) (x y : Int) (w : World) (hu : WV w u x) (hv : WV w v y) (hx9 : (digs x.natAbs).length ≤ 100000) (hy9 : (digs y.natAbs).length ≤ 100000) : Calls Tryz.prog 27 #[u, v] w fun e w' => e = .returned (.int .i64 (cmpZ x y)) ∧ Keep (fun _ => False) w w' := by
  obtain ⟨m, rfl, hm⟩ := hu
  obtain ⟨m', rfl, hm'⟩ := hv
  have hma := hm
  have hmb := hm'
  obtain ⟨A, c, rfl, _, _⟩ := hma
  obtain ⟨B, d, rfl, _, _⟩ := hmb
  have HC := fun w' (hk : Keep (fun _ => False) w w') => magCmp38 _ _ _ _ w' (hm.keep hk (fun _ _ h => h)) (hm'.keep hk (fun _ _ h => h)) (by omega) (by omega)
  have HC := Lib.hid HC
  have hb := cmpI_bound x.natAbs y.natAbs
  clear hm hm'
  by_cases hx : x < 0 <;> by_cases hy : y < 0
  · rw [show decide (x < 0) = true by simp [hx], show decide (y < 0) = true by simp [hy], ← cmpZ_neg hx hy]
    generalize cmpI x.natAbs y.natAbs = z at *
    go_enter Tryz.func27, Tryz.ntmps27
    go_wp2_with fail
    refine (HC.out _ (((Keep.refl _ w).alloc _).alloc _)).mono ?_
    rintro e w1 ⟨rfl, hk⟩
    go_wp2_with fail
    go_ret
    exact ⟨rfl, (((Keep.refl _ w).alloc _).alloc _).trans hk⟩
  · rw [show decide (x < 0) = true by simp [hx], show decide (y < 0) = false by simp [hy], show cmpZ x y = -1 by unfold cmpZ; rw [if_pos (by omega)]]
    go_enter Tryz.func27, Tryz.ntmps27
    go_wp2_with fail
    go_ret
    exact ⟨rfl, ((Keep.refl _ w).alloc _).alloc _⟩
  · rw [show decide (x < 0) = false by simp [hx], show decide (y < 0) = true by simp [hy], show cmpZ x y = 1 by unfold cmpZ; rw [if_neg (by omega), if_pos (by omega)]]
    go_enter Tryz.func27, Tryz.ntmps27
    go_wp2_with fail
    go_ret
    exact ⟨rfl, ((Keep.refl _ w).alloc _).alloc _⟩
  · rw [show decide (x < 0) = false by simp [hx], show decide (y < 0) = false by simp [hy], ← cmpZ_pos hx hy]
    generalize cmpI x.natAbs y.natAbs = z at *
    go_enter Tryz.func27, Tryz.ntmps27
    go_wp2_with fail
    refine (HC.out _ (((Keep.refl _ w).alloc _).alloc _)).mono ?_
    rintro e w1 ⟨rfl, hk⟩
    go_wp2_with fail
    go_ret
    exact ⟨rfl, (((Keep.refl _ w).alloc _).alloc _).trans hk⟩
end Go.Proofs.YtamkglgiaiejkaaGreatDoor

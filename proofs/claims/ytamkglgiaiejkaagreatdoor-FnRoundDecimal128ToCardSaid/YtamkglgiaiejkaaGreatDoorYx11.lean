import Derived.Test.YtamkglgiaiejkaaGreatDoorYx09
import Derived.Test.YtamkglgiaiejkaaGreatDoorYx10
import Derived.Test.YtamkglgiaiejkaaGreatDoorYx04
/-! Rows of words: products, differences, shifts. -/
namespace Go.Proofs.YtamkglgiaiejkaaGreatDoor
open Go.RowKit

/-- Words are put into a block from a place on. -/
def putW (cs : Array Value) (o : Nat) : List Nat → Array Value
  | [] => cs
  | d :: l => putW (cs.setIfInBounds o (.int .u64 d)) (o + 1) l
theorem putW_size (l : List Nat) : ∀ (cs : Array Value) (o : Nat), (putW cs o l).size = cs.size := by
  induction l with
  | nil => intro cs o; rfl
  | cons d l ih => intro cs o; rw [putW, ih]; simp
theorem putW_snoc (l : List Nat) (d : Nat) : ∀ (cs : Array Value) (o : Nat), putW cs o (l ++ [d]) = (putW cs o l).setIfInBounds (o + l.length) (.int .u64 d) := by
  induction l with
  | nil => intro cs o; rfl
  | cons x l ih =>
    intro cs o
    rw [List.cons_append, putW, putW, ih, List.length_cons, show o + 1 + l.length = o + (l.length + 1) by omega]
theorem putW_out (l : List Nat) : ∀ (cs : Array Value) (o i : Nat), (i < o ∨ o + l.length ≤ i) → (putW cs o l)[i]? = cs[i]? := by
  induction l with
  | nil => intro cs o i _; rfl
  | cons x l ih =>
    intro cs o i h
    rw [List.length_cons] at h
    rw [putW, ih _ _ _ (by omega), Array.getElem?_setIfInBounds_ne (by omega)]
theorem putW_in (l : List Nat) : ∀ (cs : Array Value) (o k : Nat), k < l.length → o + l.length ≤ cs.size → (putW cs o l)[o + k]? = some (.int .u64 (l.getD k 0 : Nat)) := by
  induction l with
  | nil => intro cs o k h _; exact absurd h (Nat.not_lt_zero _)
  | cons x l ih =>
    intro cs o k h hs
    rw [List.length_cons] at h hs
    cases k with
    | zero =>
      rw [putW, putW_out _ _ _ _ (.inl (by omega)), Nat.add_zero]
      simp [show o < cs.size by omega]
    | succ k =>
      rw [putW, show o + (k + 1) = o + 1 + k by omega, ih _ _ _ (by omega) (by simp; omega)]
      rfl
/-- The borrow behind k words. -/
def borK (xs ys : List Nat) : Nat → Nat
  | 0 => 0
  | k + 1 => if xs.getD k 0 < ys.getD k 0 + borK xs ys k then 1 else 0
def difK (xs ys : List Nat) (k : Nat) : Nat := (xs.getD k 0 + 18446744073709551616 - ys.getD k 0 - borK xs ys k) % 18446744073709551616
theorem borK_le (xs ys : List Nat) (k : Nat) : borK xs ys k ≤ 1 := by
  cases k with
  | zero => exact Nat.zero_le _
  | succ k => rw [borK]; split <;> omega
def difs (xs ys : List Nat) (k : Nat) : List Nat := (List.range k).map (difK xs ys)
theorem difs_length (xs ys : List Nat) (k : Nat) : (difs xs ys k).length = k := by simp [difs]
theorem difs_succ (xs ys : List Nat) (k : Nat) : difs xs ys (k + 1) = difs xs ys k ++ [difK xs ys k] := by simp [difs, List.range_succ]
/-- Words that lie from a place on. -/
def Words (w : World) (g o : Nat) (l : List Nat) : Prop := ∀ k, k < l.length → w.cell? ⟨g, o + k, none⟩ = some (.int .u64 (l.getD k 0 : Nat))
theorem Words.keep {S : Nat → Prop} {w w' : World} {g o : Nat} {l : List Nat} (h : Words w g o l) (hk : Keep S w w') (hS : ¬ S g) : Words w' g o l := fun k hkl => hk.cell (h k hkl) hS
set_option maxRecDepth 100000 in
set_option maxHeartbeats 4000000 in
theorem subVV173 (zb zo zc yb yo yc : Nat) (xs ys : List Nat) (n : Nat) (cs : Array Value) (w : World) (hn : xs.length = n) (hn' : ys.length = n) (hn9 : n ≤ 100) (hz : w.heap[zb]? = some (.cells cs 150 (0, 0))) (hxs : ∀ k, k < n → cs[zo + k]? = some (.int .u64 (xs.getD k 0 : Nat))) (hys : Words w yb yo ys) (hne : yb ≠ zb) :
    Calls Tryz.prog 173 #[.slice (some ⟨zb, zo, none⟩) n zc, .slice (some ⟨zb, zo, none⟩) n zc, .slice (some ⟨yb, yo, none⟩) n yc] w fun e w' => e = .returned (.int .u64 (borK xs ys n : Nat)) ∧ w'.heap[zb]? = some (.cells (putW cs zo (difs xs ys n)) 150 (0, 0)) ∧ Keep (fun b => b = zb) w w' := by
  go_enter Tryz.func173, Tryz.ntmps173
  go_wp2_with fail
  go_loopw [6, 25] (fun c i wr => ∃ k : Nat, k ≤ n ∧ i = .int .i64 k ∧ c = .int .u64 (borK xs ys k : Nat) ∧ wr.heap[zb]? = some (.cells (putW cs zo (difs xs ys k)) 150 (0, 0)) ∧ Keep (fun b => b = zb) w wr) (fun _ i _ => n - (intOf i).toNat)
  case atStart => exact ⟨0, Nat.zero_le _, rfl, rfl, hz, Keep.refl _ _⟩
  case round =>
    obtain ⟨k, hkn, rfl, rfl, hzk, hk⟩ := hrel
    by_cases hend : k < n
    · have hkk : (k : Int) < (n : Int) := by omega
      have hk0 : (0 : Int) ≤ (k : Int) := by omega
      have hcx : wr.cell? ⟨zb, zo + k, none⟩ = some (.int .u64 (xs.getD k 0 : Nat)) := by
        rw [blk_cell hzk, putW_out _ _ _ _ (.inr (by rw [difs_length]; exact Nat.le_refl _)), hxs k hend]
      have hcy := (hys.keep hk hne) k (by omega)
      have hf := blk_frozen hzk
      have hb1 := borK_le xs ys k
      have HS := sub174 (xs.getD k 0) (ys.getD k 0) (borK xs ys k) hb1
      obtain ⟨x, hx⟩ : ∃ x, x = xs.getD k 0 := ⟨_, rfl⟩
      obtain ⟨y, hy⟩ : ∃ y, y = ys.getD k 0 := ⟨_, rfl⟩
      obtain ⟨b, hb⟩ : ∃ b, b = borK xs ys k := ⟨_, rfl⟩
      obtain ⟨d, hd⟩ : ∃ d, d = difK xs ys k := ⟨_, rfl⟩
      obtain ⟨b', hb'⟩ : ∃ b', b' = borK xs ys (k + 1) := ⟨_, rfl⟩
      rw [← hx, ← hy, ← hb, show (x + 18446744073709551616 - y - b) % 18446744073709551616 = d by rw [hd, hx, hy, hb]; rfl, show (if x < y + b then 1 else 0 : Nat) = b' by rw [hb', hx, hy, hb]; rfl] at HS
      rw [← hx] at hcx
      rw [← hy] at hcy
      rw [← hb]
      have HV := Lib.hid (And.intro hd hb')
      have HS := Lib.hid HS
      clear hx hy hb hd hb'
      go_wp2_with fail
      go_quiet ((go_at_call 174; exact Calls.quiet_of_same (HS.out _)))
      go_wp2_with fail
      go_roundw
      case rel => exact ⟨k + 1, by omega, by go_num, by rw [HV.out.2], by
        rw [difs_succ, putW_snoc, difs_length, ← HV.out.1]
        exact blk_set (blk_drewN hzk _) _ _, (hk.drewN _).setCell (p := ⟨zb, zo + k, none⟩) (.inl rfl) _⟩
      case measure => simp [intOf]; omega
    · obtain rfl : k = n := by omega
      go_wp2_with fail
      go_ret
      exact ⟨rfl, hzk, hk⟩
/-- The carry behind k words of a product. -/
def carK (xs : List Nat) (y r : Nat) : Nat → Nat
  | 0 => r
  | k + 1 => (xs.getD k 0 * y + carK xs y r k) / 18446744073709551616
def proK (xs : List Nat) (y r k : Nat) : Nat := (xs.getD k 0 * y + carK xs y r k) % 18446744073709551616
def pros (xs : List Nat) (y r k : Nat) : List Nat := (List.range k).map (proK xs y r)
theorem pros_length (xs : List Nat) (y r k : Nat) : (pros xs y r k).length = k := by simp [pros]
theorem pros_succ (xs : List Nat) (y r k : Nat) : pros xs y r (k + 1) = pros xs y r k ++ [proK xs y r k] := by simp [pros, List.range_succ]
theorem carK_lt {xs : List Nat} {y r : Nat} (hx : ∀ k, xs.getD k 0 < 18446744073709551616) (hy : y < 18446744073709551616) (hr : r < 18446744073709551616) (k : Nat) : carK xs y r k < 18446744073709551616 := by
  induction k with
  | zero => exact hr
  | succ k ih =>
    rw [carK]
    have := Nat.mul_le_mul (Nat.le_of_lt_succ (hx k)) (Nat.le_of_lt_succ hy)
    omega
set_option maxRecDepth 100000 in
set_option maxHeartbeats 4000000 in
theorem mulAdd239 (zb zo zc xb xo xc : Nat) (xs : List Nat) (y r n : Nat) (cs : Array Value) (w : World) (hn : xs.length = n) (hn9 : n ≤ 100) (hz : w.heap[zb]? = some (.cells cs 150 (0, 0))) (hzs : zo + n ≤ cs.size) (hxs : Words w xb xo xs) (hne : xb ≠ zb) (hx9 : ∀ k, xs.getD k 0 < 18446744073709551616) (hy : y < 18446744073709551616) (hr : r < 18446744073709551616) :
    Calls Tryz.prog 239 #[.slice (some ⟨zb, zo, none⟩) n zc, .slice (some ⟨xb, xo, none⟩) n xc, .int .u64 y, .int .u64 r] w fun e w' => e = .returned (.int .u64 (carK xs y r n : Nat)) ∧ w'.heap[zb]? = some (.cells (putW cs zo (pros xs y r n)) 150 (0, 0)) ∧ Keep (fun b => b = zb) w w' := by
  go_enter Tryz.func239, Tryz.ntmps239
  go_wp2_with fail
  go_loopw [8, 19] (fun c i wr => ∃ k : Nat, k ≤ n ∧ i = .int .i64 k ∧ c = .int .u64 (carK xs y r k : Nat) ∧ wr.heap[zb]? = some (.cells (putW cs zo (pros xs y r k)) 150 (0, 0)) ∧ Keep (fun b => b = zb) w wr) (fun _ i _ => n - (intOf i).toNat)
  case atStart => exact ⟨0, Nat.zero_le _, rfl, rfl, hz, Keep.refl _ _⟩
  case round =>
    obtain ⟨k, hkn, rfl, rfl, hzk, hk⟩ := hrel
    by_cases hend : k < n
    · have hkk : (k : Int) < (n : Int) := by omega
      have hk0 : (0 : Int) ≤ (k : Int) := by omega
      have hcx := (hxs.keep hk hne) k (by omega)
      have hcz := blk_cell hzk (zo + k)
      have hsz := putW_size (pros xs y r k) cs zo
      obtain ⟨ov, hov⟩ : ∃ v, (putW cs zo (pros xs y r k))[zo + k]? = some v := ⟨_, Array.getElem?_eq_getElem (by omega)⟩
      rw [hov] at hcz
      have hf := blk_frozen hzk
      have HS := mulAdd249 (xs.getD k 0) y (carK xs y r k) (hx9 k) hy (carK_lt hx9 hy hr k)
      obtain ⟨x, hx⟩ : ∃ x, x = xs.getD k 0 := ⟨_, rfl⟩
      obtain ⟨b, hb⟩ : ∃ b, b = carK xs y r k := ⟨_, rfl⟩
      obtain ⟨d, hd⟩ : ∃ d, d = proK xs y r k := ⟨_, rfl⟩
      obtain ⟨b', hb'⟩ : ∃ b', b' = carK xs y r (k + 1) := ⟨_, rfl⟩
      rw [← hx, ← hb, show (x * y + b) % 18446744073709551616 = d by rw [hd, hx, hb]; rfl, show (x * y + b) / 18446744073709551616 = b' by rw [hb', hx, hb]; rfl] at HS
      rw [← hx] at hcx
      rw [← hb]
      have HV := Lib.hid (And.intro hd hb')
      have HS := Lib.hid HS
      clear hx hb hd hb' hov hsz
      go_wp2_with fail
      refine (HS.out _).mono ?_
      rintro e w1 ⟨rfl, rfl⟩
      go_wp2_with fail
      go_roundw
      case rel => exact ⟨k + 1, by omega, by go_num, by rw [HV.out.2], by
        rw [pros_succ, putW_snoc, pros_length, ← HV.out.1]
        exact blk_set hzk _ _, hk.setCell (p := ⟨zb, zo + k, none⟩) (.inl rfl) _⟩
      case measure => simp [intOf]; omega
    · obtain rfl : k = n := by omega
      go_wp2_with fail
      go_ret
      exact ⟨rfl, hzk, hk⟩
end Go.Proofs.YtamkglgiaiejkaaGreatDoor

/-! Rows of words are shifted. -/
namespace Go.Proofs.YtamkglgiaiejkaaGreatDoor
open Go.RowKit

/-- A shift within a word: what goes over and what stays. -/
structure Sh (s t : Nat) : Prop where
  s0 : 0 < s
  s9 : s < 64
  ht : t = 64 - s
theorem Sh.pow {s t : Nat} (h : Sh s t) : 2 ^ s * 2 ^ t = 18446744073709551616 := by rw [h.ht]; exact pow_split h.s9
theorem Sh.and1 {s t : Nat} (h : Sh s t) : bits .and .u64 (s : Int) 63 = (s : Int) := by
  have h1 := bits_and_u64_nat s 63 (by have := h.s9; omega) (by decide)
  rw [show (63 : Nat) = 2 ^ 6 - 1 by decide, Nat.and_two_pow_sub_one_eq_mod, Nat.mod_eq_of_lt (show s < 2 ^ 6 by have := h.s9; omega)] at h1
  exact h1
theorem Sh.and2 {s t : Nat} (h : Sh s t) : bits .and .u64 (64 - (s : Int)) 63 = (t : Int) := by
  have := h.s9
  have := h.s0
  have := h.ht
  rw [show 64 - (s : Int) = (t : Int) by omega]
  have h1 := bits_and_u64_nat t 63 (by omega) (by decide)
  rw [show (63 : Nat) = 2 ^ 6 - 1 by decide, Nat.and_two_pow_sub_one_eq_mod, Nat.mod_eq_of_lt (show t < 2 ^ 6 by omega)] at h1
  exact h1
theorem shl_val (x s : Nat) : IntKind.u64.wrap ((x : Int) * 2 ^ s) = ((x * 2 ^ s % 18446744073709551616 : Nat) : Int) := by
  rw [cast_pow, ← Int.natCast_mul, wrapM]
theorem shr_val (x s : Nat) : (x : Int) / 2 ^ s = ((x / 2 ^ s : Nat) : Int) := by
  rw [cast_pow]
  exact (Int.natCast_ediv _ _).symm
theorem Sh.low {s t x : Nat} (h : Sh s t) : x * 2 ^ s % 18446744073709551616 = x % 2 ^ t * 2 ^ s := by
  rw [← h.pow, Nat.mul_comm (2 ^ s) (2 ^ t), Nat.mul_mod_mul_right]
theorem Sh.low' {s t x : Nat} (h : Sh s t) : x * 2 ^ t % 18446744073709551616 = x % 2 ^ s * 2 ^ t := by
  rw [← h.pow, Nat.mul_mod_mul_right]
theorem Sh.top {s t x : Nat} (h : Sh s t) (hx : x < 18446744073709551616) : x / 2 ^ t < 2 ^ s := Nat.div_lt_of_lt_mul (by rw [Nat.mul_comm, h.pow]; exact hx)
theorem Sh.top' {s t x : Nat} (h : Sh s t) (hx : x < 18446744073709551616) : x / 2 ^ s < 2 ^ t := Nat.div_lt_of_lt_mul (by rw [h.pow]; exact hx)
theorem Sh.or {s t x y : Nat} (h : Sh s t) (hy : y < 18446744073709551616) : bits .or .u64 ((x * 2 ^ s % 18446744073709551616 : Nat) : Int) ((y / 2 ^ t : Nat) : Int) = ((x * 2 ^ s % 18446744073709551616 + y / 2 ^ t : Nat) : Int) ∧ x * 2 ^ s % 18446744073709551616 + y / 2 ^ t < 18446744073709551616 := by
  have h1 := h.top hy
  have h2 : x * 2 ^ s % 18446744073709551616 < 18446744073709551616 := Nat.mod_lt _ (by decide)
  have h3 : x * 2 ^ s % 18446744073709551616 ||| y / 2 ^ t = x * 2 ^ s % 18446744073709551616 + y / 2 ^ t := by
    rw [h.low, Nat.mul_comm]
    exact (Nat.two_pow_add_eq_or_of_lt h1 _).symm
  have h4 : y / 2 ^ t < 18446744073709551616 := Nat.lt_of_le_of_lt (Nat.div_le_self _ _) hy
  have h5 := bits_or_u64_nat _ _ h2 h4
  rw [h3] at h5
  refine ⟨h5, ?_⟩
  rw [← h3]
  exact Nat.or_lt_two_pow (n := 64) h2 h4
theorem Sh.or' {s t x y : Nat} (h : Sh s t) (hx : x < 18446744073709551616) : bits .or .u64 ((x / 2 ^ s : Nat) : Int) ((y * 2 ^ t % 18446744073709551616 : Nat) : Int) = ((x / 2 ^ s + y * 2 ^ t % 18446744073709551616 : Nat) : Int) ∧ x / 2 ^ s + y * 2 ^ t % 18446744073709551616 < 18446744073709551616 := by
  have h1 := h.top' hx
  have h2 : y * 2 ^ t % 18446744073709551616 < 18446744073709551616 := Nat.mod_lt _ (by decide)
  have h3 : x / 2 ^ s ||| y * 2 ^ t % 18446744073709551616 = x / 2 ^ s + y * 2 ^ t % 18446744073709551616 := by
    rw [h.low', Nat.mul_comm, Nat.or_comm, ← Nat.two_pow_add_eq_or_of_lt h1, Nat.add_comm]
  have h4 : x / 2 ^ s < 18446744073709551616 := Nat.lt_of_le_of_lt (Nat.div_le_self _ _) hx
  have h5 := bits_or_u64_nat _ _ h4 h2
  rw [h3] at h5
  refine ⟨h5, ?_⟩
  rw [← h3]
  exact Nat.or_lt_two_pow (n := 64) h4 h2
/-- A word is scaled: what goes over, what stays. -/
theorem Sh.split {s t x : Nat} (h : Sh s t) : x * 2 ^ s = x / 2 ^ t * 18446744073709551616 + x * 2 ^ s % 18446744073709551616 := by
  have h1 : x * 2 ^ s / 18446744073709551616 = x / 2 ^ t := by
    rw [← h.pow, Nat.mul_comm (2 ^ s) (2 ^ t)]
    exact Nat.mul_div_mul_right _ _ (Nat.pow_pos (by decide))
  have h2 := Nat.div_add_mod (x * 2 ^ s) 18446744073709551616
  rw [h1] at h2
  omega
set_option maxRecDepth 100000 in
set_option maxHeartbeats 4000000 in
theorem lshVU214 (zb zc xb xc x0 x1 s t : Nat) (z0 z1 : Value) (zr : List Value) (w : World) (hz : w.heap[zb]? = some (.cells (z0 :: z1 :: zr).toArray 150 (0, 0))) (h0 : w.cell? ⟨xb, 0, none⟩ = some (.int .u64 x0)) (h1 : w.cell? ⟨xb, 1, none⟩ = some (.int .u64 x1)) (hne : xb ≠ zb) (hx0 : x0 < 18446744073709551616) (hx1 : x1 < 18446744073709551616) (hs : Sh s t) :
    Calls Tryz.prog 214 #[.slice (some ⟨zb, 0, none⟩) 2 zc, .slice (some ⟨xb, 0, none⟩) 2 xc, .int .u64 s] w fun e w' => ∃ c y1 y0 : Nat, e = .returned (.int .u64 c) ∧ y1 < 18446744073709551616 ∧ y0 < 18446744073709551616 ∧ (x1 * 18446744073709551616 + x0) * 2 ^ s = (c * 18446744073709551616 + y1) * 18446744073709551616 + y0 ∧ c < 2 ^ s ∧ w'.heap[zb]? = some (.cells (.int .u64 y0 :: .int .u64 y1 :: zr).toArray 150 (0, 0)) ∧ Keep (fun b => b = zb) w w' := by
  obtain ⟨o1, o2⟩ := hs.or (x := x1) (y := x0) hx0
  have e0 := hs.split (x := x0)
  have e1 := hs.split (x := x1)
  have htop := hs.top hx1
  have a1 := hs.and1
  have a2 := hs.and2
  have v1 := shl_val x1 s
  have v0 := shl_val x0 s
  have d1 := shr_val x1 t
  have d0 := shr_val x0 t
  obtain ⟨c, hc⟩ : ∃ z, z = x1 / 2 ^ t := ⟨_, rfl⟩
  obtain ⟨d, hd⟩ : ∃ z, z = x0 / 2 ^ t := ⟨_, rfl⟩
  obtain ⟨p, hp⟩ : ∃ z, z = x1 * 2 ^ s % 18446744073709551616 := ⟨_, rfl⟩
  obtain ⟨q, hq⟩ : ∃ z, z = x0 * 2 ^ s % 18446744073709551616 := ⟨_, rfl⟩
  have hq9 : q < 18446744073709551616 := by rw [hq]; exact Nat.mod_lt _ (by decide)
  rw [← hp, ← hd] at o1 o2
  rw [← hd, ← hq] at e0
  rw [← hc, ← hp] at e1
  rw [← hp] at v1
  rw [← hq] at v0
  rw [← hc] at d1 htop
  rw [← hd] at d0
  obtain ⟨r, hr⟩ : ∃ z, z = p + d := ⟨_, rfl⟩
  rw [← hr] at o1 o2
  have hfin : (x1 * 18446744073709551616 + x0) * 2 ^ s = (c * 18446744073709551616 + r) * 18446744073709551616 + q := by
    rw [Nat.add_mul, Nat.mul_right_comm, e1, e0]
    omega
  have hs0 : ((s : Int) == 0) = false := beq_eq_false_iff_ne.2 (by have := hs.s0; omega)
  have hs9 := hs.s9
  have ht9 : t < 64 := by have := hs.ht; have := hs.s0; omega
  have hset : (z0 :: z1 :: zr).toArray.setIfInBounds 1 (.int .u64 (r : Nat)) = (z0 :: .int .u64 (r : Nat) :: zr).toArray := by simp
  have HF := Lib.hid (And.intro hfin htop)
  have HSET := Lib.hid hset
  clear hset
  have hcz0 := blk_cell hz 0
  have hcz1 := blk_cell hz 1
  have hf := blk_frozen hz
  have hz2 := blk_set (blk_set hz 1 (.int .u64 r)) 0 (.int .u64 q)
  have hkz : Keep (fun b => b = zb) w ((w.setCell ⟨zb, 1, none⟩ (.int .u64 r)).setCell ⟨zb, 0, none⟩ (.int .u64 q)) := ((Keep.refl (fun b => b = zb) w).setCell (p := ⟨zb, 1, none⟩) (.inl rfl) _).setCell (p := ⟨zb, 0, none⟩) (.inl rfl) _
  clear e0 e1 hp hd hq hc hr hfin htop hkz hz2
  simp only [List.getElem?_toArray, List.getElem?_cons_zero, List.getElem?_cons_succ] at hcz0 hcz1
  go_enter Tryz.func214, Tryz.ntmps214
  go_wp2_with fail
  go_loopw [8] (fun i wr => (i = .int .i64 1 ∧ wr = w) ∨ (i = .int .i64 0 ∧ wr.heap[zb]? = some (.cells (z0 :: .int .u64 r :: zr).toArray 150 (0, 0)) ∧ Keep (fun b => b = zb) w wr)) (fun i _ => (intOf i).toNat)
  case atStart => exact .inl ⟨rfl, rfl⟩
  case round =>
    rcases hrel with ⟨rfl, rfl⟩ | ⟨rfl, hz1, hk⟩
    · go_wp2_with fail
      refine wp_region_mid 17 (by kernel_rfl) (by kernel_rfl) rfl ?_
      simp only [List.take_succ_cons, List.take_zero, List.drop_succ_cons, List.drop_zero]
      repeat (go_big_quiet_step (fail))
      refine wpQuiet_nil ?_
      rintro _ ⟨nq2, rfl⟩
      go_wp2_with fail
      refine wpQuiet_nil ?_
      rintro _ ⟨nq3, rfl⟩
      go_wp2_with fail
      go_roundw
      case rel => exact .inr ⟨rfl, by rw [← HSET.out]; exact blk_drewN (blk_set (blk_drewN hz nq2) 1 (.int .u64 r)) nq3, (((Keep.refl (fun b => b = zb) _).drewN nq2).setCell (p := ⟨zb, 1, none⟩) (.inl rfl) _).drewN nq3⟩
      case measure => simp [intOf]
    · have hcz0 := blk_cell hz1 0
      have hf := blk_frozen hz1
      have h0 := hk.cell h0 hne
      simp only [List.getElem?_toArray, List.getElem?_cons_zero] at hcz0
      go_wp2_with fail
      go_ret
      exact ⟨c, r, q, rfl, o2, hq9, HF.out.1, HF.out.2, by simpa using blk_set hz1 0 (.int .u64 q), hk.setCell (p := ⟨zb, 0, none⟩) (.inl rfl) _⟩
end Go.Proofs.YtamkglgiaiejkaaGreatDoor

/-! Rows of words: shifted back; without zeros at the end; made; held against each other. -/
namespace Go.Proofs.YtamkglgiaiejkaaGreatDoor
open Go.RowKit

set_option maxRecDepth 100000 in
set_option maxHeartbeats 4000000 in
theorem rshVU218 (zb zc u0 u1 u2 s t : Nat) (zr : List Value) (w : World) (hz : w.heap[zb]? = some (.cells (.int .u64 u0 :: .int .u64 u1 :: .int .u64 u2 :: zr).toArray 150 (0, 0))) (hu0 : u0 < 18446744073709551616) (hu1 : u1 < 18446744073709551616) (hu2 : u2 < 18446744073709551616) (hs : Sh s t) :
    Calls Tryz.prog 218 #[.slice (some ⟨zb, 0, none⟩) 3 zc, .slice (some ⟨zb, 0, none⟩) 3 zc, .int .u64 s] w fun e w' => ∃ c r0 r1 r2 : Nat, e = .returned (.int .u64 c) ∧ r0 < 18446744073709551616 ∧ r1 < 18446744073709551616 ∧ r2 < 18446744073709551616 ∧ r0 = u0 / 2 ^ s + u1 * 2 ^ t % 18446744073709551616 ∧ r1 = u1 / 2 ^ s + u2 * 2 ^ t % 18446744073709551616 ∧ r2 = u2 / 2 ^ s ∧ w'.heap[zb]? = some (.cells (.int .u64 r0 :: .int .u64 r1 :: .int .u64 r2 :: zr).toArray 150 (0, 0)) ∧ Keep (fun b => b = zb) w w' := by
  obtain ⟨o1, o2⟩ := hs.or' (x := u0) (y := u1) hu0
  obtain ⟨p1, p2⟩ := hs.or' (x := u1) (y := u2) hu1
  have a1 := hs.and1
  have a2 := hs.and2
  have v1 := shl_val u1 t
  have v2 := shl_val u2 t
  have v0 := shl_val u0 t
  have d0 := shr_val u0 s
  have d1 := shr_val u1 s
  have d2 := shr_val u2 s
  have hr2 : u2 / 2 ^ s < 18446744073709551616 := Nat.lt_of_le_of_lt (Nat.div_le_self _ _) hu2
  obtain ⟨r0, hr0⟩ : ∃ z, z = u0 / 2 ^ s + u1 * 2 ^ t % 18446744073709551616 := ⟨_, rfl⟩
  obtain ⟨r1, hr1⟩ : ∃ z, z = u1 / 2 ^ s + u2 * 2 ^ t % 18446744073709551616 := ⟨_, rfl⟩
  obtain ⟨r2, hr2'⟩ : ∃ z, z = u2 / 2 ^ s := ⟨_, rfl⟩
  rw [← hr0] at o1 o2
  rw [← hr1] at p1 p2
  rw [← hr2'] at d2 hr2
  have HV := Lib.hid (And.intro hr0 (And.intro hr1 hr2'))
  generalize u1 * 2 ^ t % 18446744073709551616 = m1 at *
  generalize u2 * 2 ^ t % 18446744073709551616 = m2 at *
  generalize u0 * 2 ^ t % 18446744073709551616 = m0 at *
  generalize u0 / 2 ^ s = n0 at *
  generalize u1 / 2 ^ s = n1 at *
  have hs0 : ((s : Int) == 0) = false := beq_eq_false_iff_ne.2 (by have := hs.s0; omega)
  have hs9 := hs.s9
  have ht9 : t < 64 := by have := hs.ht; have := hs.s0; omega
  have HSET := Lib.hid (show (Value.int .u64 (u0 : Nat) :: .int .u64 (u1 : Nat) :: .int .u64 (u2 : Nat) :: zr).toArray.setIfInBounds 0 (.int .u64 (r0 : Nat)) = (.int .u64 (r0 : Nat) :: .int .u64 (u1 : Nat) :: .int .u64 (u2 : Nat) :: zr).toArray by simp)
  have HSET2 := Lib.hid (show (Value.int .u64 (r0 : Nat) :: .int .u64 (u1 : Nat) :: .int .u64 (u2 : Nat) :: zr).toArray.setIfInBounds 1 (.int .u64 (r1 : Nat)) = (.int .u64 (r0 : Nat) :: .int .u64 (r1 : Nat) :: .int .u64 (u2 : Nat) :: zr).toArray by simp)
  have HSET3 := Lib.hid (show (Value.int .u64 (r0 : Nat) :: .int .u64 (r1 : Nat) :: .int .u64 (u2 : Nat) :: zr).toArray.setIfInBounds 2 (.int .u64 (r2 : Nat)) = (.int .u64 (r0 : Nat) :: .int .u64 (r1 : Nat) :: .int .u64 (r2 : Nat) :: zr).toArray by simp)
  have c0 := blk_cell hz 0
  have c1 := blk_cell hz 1
  simp only [List.getElem?_toArray, List.getElem?_cons_zero, List.getElem?_cons_succ] at c0 c1
  clear hr0 hr1 hr2'
  go_enter Tryz.func218, Tryz.ntmps218
  go_wp2_with fail
  go_loopw [8] (fun i wr => ∃ v0 v1 : Nat, wr.heap[zb]? = some (.cells (.int .u64 v0 :: .int .u64 v1 :: .int .u64 (u2 : Nat) :: zr).toArray 150 (0, 0)) ∧ Keep (fun b => b = zb) w wr ∧ ((i = .int .i64 1 ∧ v0 = u0 ∧ v1 = u1) ∨ (i = .int .i64 2 ∧ v0 = r0 ∧ v1 = u1) ∨ (i = .int .i64 3 ∧ v0 = r0 ∧ v1 = r1))) (fun i _ => 3 - (intOf i).toNat)
  case atStart => exact ⟨u0, u1, hz, Keep.refl _ _, .inl ⟨rfl, rfl, rfl⟩⟩
  case round =>
    obtain ⟨w0, w1, hzk, hk, hcase⟩ := hrel
    have b0 := blk_cell hzk 0
    have b1 := blk_cell hzk 1
    have b2 := blk_cell hzk 2
    have hf := blk_frozen hzk
    simp only [List.getElem?_toArray, List.getElem?_cons_zero, List.getElem?_cons_succ] at b0 b1 b2
    rcases hcase with ⟨rfl, rfl, rfl⟩ | ⟨rfl, rfl, rfl⟩ | ⟨rfl, rfl, rfl⟩
    · go_wp2_with fail
      refine wp_region_mid 18 (by kernel_rfl) (by kernel_rfl) rfl ?_
      simp only [List.take_succ_cons, List.take_zero, List.drop_succ_cons, List.drop_zero]
      repeat (go_big_quiet_step (fail))
      refine wpQuiet_nil ?_
      rintro _ ⟨nq2, rfl⟩
      go_wp2_with fail
      refine wpQuiet_nil ?_
      rintro _ ⟨nq3, rfl⟩
      go_wp2_with fail
      go_roundw
      case rel => exact ⟨r0, w1, by rw [← HSET.out]; exact blk_drewN (blk_set (blk_drewN hzk nq2) 0 (.int .u64 r0)) nq3, ((hk.drewN nq2).setCell (p := ⟨zb, 0, none⟩) (.inl rfl) _).drewN nq3, .inr (.inl ⟨rfl, rfl, rfl⟩)⟩
      case measure => simp [intOf]
    · go_wp2_with fail
      refine wp_region_mid 18 (by kernel_rfl) (by kernel_rfl) rfl ?_
      simp only [List.take_succ_cons, List.take_zero, List.drop_succ_cons, List.drop_zero]
      repeat (go_big_quiet_step (fail))
      refine wpQuiet_nil ?_
      rintro _ ⟨nq2, rfl⟩
      go_wp2_with fail
      refine wpQuiet_nil ?_
      rintro _ ⟨nq3, rfl⟩
      go_wp2_with fail
      go_roundw
      case rel => exact ⟨w0, r1, by rw [← HSET2.out]; exact blk_drewN (blk_set (blk_drewN hzk nq2) 1 (.int .u64 r1)) nq3, ((hk.drewN nq2).setCell (p := ⟨zb, 1, none⟩) (.inl rfl) _).drewN nq3, .inr (.inr ⟨rfl, rfl, rfl⟩)⟩
      case measure => simp [intOf]
    · go_wp2_with fail
      go_ret
      exact ⟨_, w0, w1, r2, rfl, o2, p2, hr2, HV.out.1, HV.out.2.1, HV.out.2.2, by rw [← HSET3.out]; exact blk_set hzk 2 (.int .u64 r2), hk.setCell (p := ⟨zb, 2, none⟩) (.inl rfl) _⟩
theorem rsh_val {u0 u1 u2 s t R r0 r1 r2 : Nat} (hs : Sh s t) (h : u0 + 18446744073709551616 * u1 + 18446744073709551616 * 18446744073709551616 * u2 = R * 2 ^ s) (e0 : r0 = u0 / 2 ^ s + u1 * 2 ^ t % 18446744073709551616) (e1 : r1 = u1 / 2 ^ s + u2 * 2 ^ t % 18446744073709551616) (e2 : r2 = u2 / 2 ^ s) : r0 + 18446744073709551616 * r1 + 18446744073709551616 * 18446744073709551616 * r2 = R := by
  have hp := hs.pow
  rw [hs.low'] at e0 e1
  have d0 := Nat.div_add_mod u0 (2 ^ s)
  have d1 := Nat.div_add_mod u1 (2 ^ s)
  have d2 := Nat.div_add_mod u2 (2 ^ s)
  have hu0 : u0 % 2 ^ s = 0 := by
    have h1 := congrArg (· % 2 ^ s) h
    simp only [Nat.mul_mod_left] at h1
    rw [← hp, Nat.mul_assoc (2 ^ s), Nat.mul_assoc (2 ^ s), Nat.mul_assoc (2 ^ s), Nat.add_assoc, ← Nat.mul_add, Nat.add_mul_mod_self_left] at h1
    exact h1
  rw [hu0, Nat.add_zero] at d0
  have hS : 0 < 2 ^ s := Nat.pow_pos (by decide)
  refine Nat.eq_of_mul_eq_mul_right hS ?_
  rw [← h, e0, e1, e2]
  generalize u0 / 2 ^ s = q0 at *
  generalize u1 / 2 ^ s = q1 at *
  generalize u2 / 2 ^ s = q2 at *
  generalize u1 % 2 ^ s = m1 at *
  generalize u2 % 2 ^ s = m2 at *
  generalize 2 ^ s = S at *
  generalize 2 ^ t = T at *
  have x1 : m1 * T * S = m1 * 18446744073709551616 := by rw [Nat.mul_assoc, Nat.mul_comm T S, hp]
  have x2 : m2 * T * S = m2 * 18446744073709551616 := by rw [Nat.mul_assoc, Nat.mul_comm T S, hp]
  simp only [Nat.add_mul, Nat.mul_add, Nat.mul_assoc] at *
  rw [Nat.mul_comm q0 S, Nat.mul_comm q1 S, Nat.mul_comm q2 S]
  omega
set_option maxRecDepth 100000 in
set_option maxHeartbeats 4000000 in
theorem norm135 (g n c : Nat) (l : List Nat) (w : World) (hl : l.length = n) (hn9 : n ≤ 100) (hnc : n ≤ c) (hw : Words w g 0 l) :
    Calls Tryz.prog 135 #[.slice (some ⟨g, 0, none⟩) n c] w fun e w' => ∃ k : Nat, e = .returned (.slice (some ⟨g, 0, none⟩) k c) ∧ k ≤ n ∧ (∀ j, k ≤ j → j < n → l.getD j 0 = 0) ∧ (k = 0 ∨ l.getD (k - 1) 0 ≠ 0) ∧ w' = w := by
  go_enter Tryz.func135, Tryz.ntmps135
  go_wp2_with fail
  go_loopw [3] (fun i wr => ∃ k : Nat, i = .int .i64 k ∧ k ≤ n ∧ (∀ j, k ≤ j → j < n → l.getD j 0 = 0) ∧ wr = w) (fun i _ => (intOf i).toNat)
  case atStart => exact ⟨n, rfl, Nat.le_refl _, fun j h1 h2 => by omega, rfl⟩
  case round =>
    obtain ⟨k, rfl, hkn, hz, rfl⟩ := hrel
    have HZ := Lib.hid hz
    clear hz
    cases k with
    | zero =>
      go_wp2_with fail
      go_ret
      exact ⟨0, rfl, Nat.zero_le _, HZ.out, .inl rfl, rfl⟩
    | succ k =>
      have hc := hw k (by omega)
      rw [Nat.zero_add] at hc
      obtain ⟨d, hd⟩ : ∃ d, d = l.getD k 0 := ⟨_, rfl⟩
      rw [← hd] at hc
      have HD := Lib.hid hd
      clear hd
      have hkk : ((k + 1 : Nat) : Int) - 1 = (k : Int) := by omega
      have hk0 : (0 : Int) < ((k + 1 : Nat) : Int) := by omega
      by_cases h0 : d = 0
      · subst h0
        go_wp2_with fail
        go_roundw
        case rel => exact ⟨k, by go_num, by omega, fun j h1 h2 => by
          rcases Nat.eq_or_lt_of_le h1 with e | e
          · rw [← e]; exact HD.out.symm
          · exact HZ.out j e h2, by first | rfl | trivial⟩
        case measure => simp [intOf]
      · have h0' : ((d : Int) == 0) = false := beq_eq_false_iff_ne.2 (by omega)
        go_wp2_with fail
        go_ret
        exact ⟨k + 1, rfl, hkn, HZ.out, .inr (by rw [Nat.add_sub_cancel, ← HD.out]; exact h0), rfl⟩
end Go.Proofs.YtamkglgiaiejkaaGreatDoor

import Derived.Test.YtdamippibpbjhaaGreatDoorYa04
import Derived.Test.YtdamippibpbjhaaGreatDoorProg
import Derived.Test.YtdamippibpbjhaaGreatDoorYa02
/-! How deltas are written (what another writer makes), as a list of bytes; where its parts lie. -/
namespace Go.Proofs.YtdamippibpbjhaaGreatDoor
open Go.RowKit

/-- A number as one of W bits with a sign. -/
def wrapW (W : Nat) (x : Int) : Int := if W = 64 then IntKind.i64.wrap x else IntKind.i32.wrap x
/-- Delta t of the numbers. -/
def dlt (W : Nat) (l : List Int) (t : Nat) : Int := wrapW W (l.getD (t + 1) 0 - l.getD t 0)
/-- Deltas a.. a+m. -/
def dsOf (W : Nat) (l : List Int) (a : Nat) : Nat → List Int
  | 0 => []
  | m + 1 => dsOf W l a m ++ [dlt W l (a + m)]
theorem dsOf_length (W : Nat) (l : List Int) (a : Nat) : ∀ m, (dsOf W l a m).length = m
  | 0 => rfl
  | m + 1 => by simp [dsOf, dsOf_length W l a m]
theorem dsOf_getD (W : Nat) (l : List Int) (a : Nat) : ∀ m i, i < m → (dsOf W l a m).getD i 0 = dlt W l (a + i)
  | 0, _, h => absurd h (by omega)
  | m + 1, i, h => by
    rw [dsOf, List.getD_eq_getElem?_getD]
    by_cases e : i = m
    · subst e
      rw [List.getElem?_append_right (by rw [dsOf_length]; omega), dsOf_length]
      simp
    · rw [List.getElem?_append_left (by rw [dsOf_length]; omega), ← List.getD_eq_getElem?_getD, dsOf_getD W l a m i (by omega)]
/-- The least of the first m deltas from a on. -/
def leastOf (W : Nat) (l : List Int) (a : Nat) : Nat → Int
  | 0 => 0
  | m + 1 => if m = 0 ∨ dlt W l (a + m) < leastOf W l a m then dlt W l (a + m) else leastOf W l a m
/-- What is packed of a delta. -/
def vOf (W : Nat) (least d : Int) : Nat := ((d - least) % 2 ^ W).toNat
/-- The most bits that m deltas from a on need. -/
def mostOf (W : Nat) (l : List Int) (least : Int) (a : Nat) : Nat → Nat
  | 0 => 0
  | m + 1 => max (mostOf W l least a m) (nbits 64 (vOf W least (dlt W l (a + m))))
/-- The numbers' way: what is at place i of a miniblock from delta a on, of which m are there. -/
def fOf (W : Nat) (l : List Int) (least : Int) (a m : Nat) (i : Nat) : Nat := if i < m then vOf W least (dlt W l (a + i)) else 0

/-- How the blocks are: values of a block, miniblocks of it, values of one of these, bits more, the width of one that is not there. -/
structure Way where
  W : Nat
  S : Nat
  M : Nat
  n : Nat
  more : Nat
  odd : Nat
/-- The width of miniblock j of a block from delta a on, of which m are there. -/
def Way.wd (y : Way) (l : List Int) (a m j : Nat) : Nat :=
  if m ≤ j * y.n then y.odd else min y.W (mostOf y.W l (leastOf y.W l a m) (a + j * y.n) (min y.n (m - j * y.n)) + y.more)
def Way.body (y : Way) (l : List Int) (a m j : Nat) : List Int :=
  if m ≤ j * y.n then [] else packB (valBits (fOf y.W l (leastOf y.W l a m) (a + j * y.n) (min y.n (m - j * y.n))) (y.wd l a m j) y.n)
def Way.widths (y : Way) (l : List Int) (a m : Nat) : Nat → List Int
  | 0 => []
  | j + 1 => y.widths l a m j ++ [(y.wd l a m j : Int)]
def Way.bodies (y : Way) (l : List Int) (a m : Nat) : Nat → List Int
  | 0 => []
  | j + 1 => y.bodies l a m j ++ y.body l a m j
def Way.lebL (y : Way) (l : List Int) (a m : Nat) : List Int := lebB 10 (zg (leastOf y.W l a m)).toNat
def Way.block (y : Way) (l : List Int) (a m : Nat) : List Int := y.lebL l a m ++ y.widths l a m y.M ++ y.bodies l a m y.M
def Way.head (y : Way) (l : List Int) : List Int := lebB 10 y.S ++ lebB 10 y.M ++ lebB 10 l.length ++ lebB 10 (zg (l.getD 0 0)).toNat
def Way.put (y : Way) (l : List Int) : Nat → List Int
  | 0 => y.head l
  | k + 1 => y.put l k ++ y.block l (k * y.S) (min y.S (l.length - 1 - k * y.S))

theorem Way.widths_length (y : Way) (l : List Int) (a m : Nat) : ∀ j, (y.widths l a m j).length = j
  | 0 => rfl
  | j + 1 => by simp [Way.widths, y.widths_length l a m j]
theorem Way.widths_getD (y : Way) (l : List Int) (a m : Nat) : ∀ k j, j < k → (y.widths l a m k).getD j 0 = y.wd l a m j
  | 0, _, h => absurd h (by omega)
  | k + 1, j, h => by
    rw [Way.widths, List.getD_eq_getElem?_getD]
    by_cases e : j = k
    · subst e
      rw [List.getElem?_append_right (by rw [y.widths_length]; omega), y.widths_length]
      simp
    · rw [List.getElem?_append_left (by rw [y.widths_length]; omega), ← List.getD_eq_getElem?_getD, y.widths_getD l a m k j (by omega)]

theorem Way.body_length (y : Way) (l : List Int) (a m j : Nat) (h8 : y.n % 8 = 0) (h : j * y.n < m) : (y.body l a m j).length = y.n * y.wd l a m j / 8 := by
  unfold Way.body
  rw [if_neg (by omega), packB_length, valBits_length]
  have : y.n * y.wd l a m j % 8 = 0 := by rw [Nat.mul_mod, h8]; simp
  omega

theorem vOf_lt (W : Nat) (least d : Int) : vOf W least d < 2 ^ W := by
  unfold vOf
  have hp : (0 : Int) < 2 ^ W := Int.pow_pos (by decide)
  have h0 := Int.emod_nonneg (d - least) (Int.ne_of_gt hp)
  have h1 := Int.emod_lt_of_pos (d - least) hp
  have : ((d - least) % 2 ^ W).toNat < (2 ^ W : Int).toNat := by omega
  rwa [show (2 ^ W : Int).toNat = 2 ^ W by
    have : (2 ^ W : Int) = ((2 ^ W : Nat) : Int) := by simp
    rw [this]; rfl] at this
theorem nbits_most (W : Nat) (l : List Int) (least : Int) (a : Nat) : ∀ m i, i < m → nbits 64 (vOf W least (dlt W l (a + i))) ≤ mostOf W l least a m
  | 0, _, h => absurd h (by omega)
  | m + 1, i, h => by
    rw [mostOf]
    by_cases e : i = m
    · subst e; omega
    · have := nbits_most W l least a m i (by omega)
      omega
theorem fOf_lt (y : Way) (hW : y.W ≤ 64) (l : List Int) (a m j : Nat) (h : j * y.n < m) (i : Nat) :
    fOf y.W l (leastOf y.W l a m) (a + j * y.n) (min y.n (m - j * y.n)) i < 2 ^ y.wd l a m j := by
  unfold fOf
  by_cases hi : i < min y.n (m - j * y.n)
  · rw [if_pos hi]
    have h1 := vOf_lt y.W (leastOf y.W l a m) (dlt y.W l (a + j * y.n + i))
    have h2 := nbits_lt 64 _ (Nat.lt_of_lt_of_le h1 (Nat.pow_le_pow_right (by decide) hW))
    have h3 := nbits_most y.W l (leastOf y.W l a m) (a + j * y.n) _ i hi
    unfold Way.wd
    rw [if_neg (by omega)]
    generalize mostOf y.W l (leastOf y.W l a m) (a + j * y.n) (min y.n (m - j * y.n)) = X at *
    by_cases hc : y.W ≤ X + y.more
    · rw [Nat.min_eq_left hc]; exact h1
    · rw [Nat.min_eq_right (by omega)]
      exact Nat.lt_of_lt_of_le h2 (Nat.pow_le_pow_right (by decide) (by omega))
  · rw [if_neg hi]; exact Nat.two_pow_pos _

/-- Where the parts of an encoding lie. -/
structure Lay (D : List Int) (y : Way) (l : List Int) where
  P : Nat → Nat
  nz : Nat → Nat
  z : Nat → Int
  wd : Nat → Nat → Nat
  bp : Nat → Nat → Nat
  least : Nat → Int
  leb : ∀ k, k * y.S + 1 < l.length → Leb D (P k) (nz k) (z k) ∧ unzz (z k) = least k ∧ P k + nz k + 1 + y.M ≤ D.length ∧ bp k 0 = P k + nz k + 1 + y.M
  width : ∀ k j, k * y.S + 1 < l.length → j < y.M → D.getD (P k + nz k + 1 + j) 0 = wd k j
  mini : ∀ k j, k * y.S + j * y.n + 1 < l.length → j < y.M → wd k j ≤ y.W ∧ bp k j + y.n * wd k j / 8 ≤ D.length ∧ bp k (j + 1) = bp k j + y.n * wd k j / 8
  next : ∀ k, (k + 1) * y.S + 1 < l.length → P (k + 1) = bp k y.M
  delta : ∀ k j i, k * y.S + j * y.n + i + 1 < l.length → j < y.M → i < y.n → ((bitsAt D (8 * bp k j + i * wd k j) (wd k j) : Nat) : Int) = (dlt y.W l (k * y.S + j * y.n + i) - least k) % 2 ^ y.W
  range : ∀ k, k * y.S + 1 < l.length → ∃ t, t + 1 < l.length ∧ least k = dlt y.W l t
end Go.Proofs.YtdamippibpbjhaaGreatDoor

/-! What another writer makes is laid so. -/
namespace Go.Proofs.YtdamippibpbjhaaGreatDoor
open Go.RowKit

structure Way.Wf (y : Way) : Prop where
  W : y.W = 32 ∨ y.W = 64
  S : y.S = y.M * y.n
  n8 : y.n % 8 = 0
  n0 : 0 < y.n
  M0 : 0 < y.M

theorem wrapW_bounds {W : Nat} (x : Int) : -9223372036854775808 ≤ wrapW W x ∧ wrapW W x < 9223372036854775808 := by
  unfold wrapW
  split
  · rw [IntKind.wrap_i64]; omega
  · rw [IntKind.wrap_i32]; omega
theorem leastOf_is (W : Nat) (l : List Int) (a : Nat) : ∀ m, 0 < m → ∃ i, i < m ∧ leastOf W l a m = dlt W l (a + i)
  | 0, h => absurd h (by omega)
  | m + 1, _ => by
    unfold leastOf
    split
    · exact ⟨m, by omega, rfl⟩
    · rename_i h
      obtain ⟨i, hi, h'⟩ := leastOf_is W l a m (by omega)
      exact ⟨i, by omega, h'⟩
theorem zg_nat {x : Int} (h : -9223372036854775808 ≤ x ∧ x < 9223372036854775808) : ((zg x).toNat : Int) = zg x ∧ (zg x).toNat < 18446744073709551616 := by
  unfold zg
  split <;> omega
theorem least_bounds (W : Nat) (l : List Int) (a m : Nat) (h : 0 < m) : -9223372036854775808 ≤ leastOf W l a m ∧ leastOf W l a m < 9223372036854775808 := by
  obtain ⟨i, _, e⟩ := leastOf_is W l a m h
  rw [e]
  exact wrapW_bounds _

theorem Way.put_split (y : Way) (l : List Int) : ∀ nb k, k < nb → ∃ post, y.put l nb = y.put l k ++ y.block l (k * y.S) (min y.S (l.length - 1 - k * y.S)) ++ post
  | 0, _, h => absurd h (by omega)
  | nb + 1, k, h => by
    by_cases e : k = nb
    · subst e
      exact ⟨[], by rw [Way.put, List.append_nil]⟩
    · obtain ⟨post, hp⟩ := y.put_split l nb k (by omega)
      exact ⟨post ++ y.block l (nb * y.S) (min y.S (l.length - 1 - nb * y.S)), by rw [Way.put, hp]; simp⟩
theorem Way.bodies_split (y : Way) (l : List Int) (a m : Nat) : ∀ M j, j < M → ∃ post, y.bodies l a m M = y.bodies l a m j ++ y.body l a m j ++ post
  | 0, _, h => absurd h (by omega)
  | M + 1, j, h => by
    by_cases e : j = M
    · subst e
      exact ⟨[], by rw [Way.bodies, List.append_nil]⟩
    · obtain ⟨post, hp⟩ := y.bodies_split l a m M j (by omega)
      exact ⟨post ++ y.body l a m M, by rw [Way.bodies, hp]; simp⟩

theorem bitsAt_mid (pre l post : List Int) (hB : Bytes (pre ++ l ++ post)) (q n : Nat) (h : q + n ≤ 8 * l.length) : bitsAt (pre ++ l ++ post) (8 * pre.length + q) n = bitsAt l q n := by
  rw [← bitsAt_sub _ hB pre.length l.length q n h]
  congr 1
  rw [List.append_assoc, List.drop_left, List.take_left]
theorem bytes_of {D : List Int} (h : ∀ x ∈ D, 0 ≤ x ∧ x < 256) : Bytes D := fun j => by
  rw [List.getD_eq_getElem?_getD]
  cases e : D[j]? with
  | none => simp
  | some x => simpa using h x (List.mem_of_getElem? e)

/-- All are bytes. -/
theorem Way.put_bytes (y : Way) (hy : y.Wf) (ho : y.odd < 256) (l : List Int) : ∀ nb, ∀ x ∈ y.put l nb, 0 ≤ x ∧ x < 256 := by
  have hwd : ∀ a m j, y.wd l a m j < 256 := fun a m j => by
    unfold Way.wd
    split
    · exact ho
    · have := hy.W; omega
  have h1 : ∀ a m j, ∀ x ∈ y.widths l a m j, 0 ≤ x ∧ x < 256 := fun a m j => by
    induction j with
    | zero => simp [Way.widths]
    | succ j ih =>
      intro x hx
      rw [Way.widths, List.mem_append] at hx
      rcases hx with hx | hx
      · exact ih x hx
      · have := hwd a m j
        simp at hx
        omega
  have h2 : ∀ a m j, ∀ x ∈ y.bodies l a m j, 0 ≤ x ∧ x < 256 := fun a m j => by
    induction j with
    | zero => simp [Way.bodies]
    | succ j ih =>
      intro x hx
      rw [Way.bodies, List.mem_append] at hx
      rcases hx with hx | hx
      · exact ih x hx
      · unfold Way.body at hx
        split at hx
        · simp at hx
        · exact numB_bytes _ _ x hx
  intro nb
  induction nb with
  | zero =>
    intro x hx
    simp only [Way.put, Way.head, List.mem_append] at hx
    rcases hx with ((hx | hx) | hx) | hx <;> exact lebB_bytes _ _ x hx
  | succ nb ih =>
    intro x hx
    simp only [Way.put, Way.block, Way.lebL, List.mem_append] at hx
    rcases hx with hx | (hx | hx) | hx
    · exact ih x hx
    · exact lebB_bytes _ _ x hx
    · exact h1 _ _ _ x hx
    · exact h2 _ _ _ x hx

theorem lebB_length0 (v : Nat) : 1 ≤ (lebB 10 v).length := by
  unfold lebB
  split <;> simp

def Way.lay (y : Way) (hy : y.Wf) (ho : y.odd < 256) (l : List Int) (nb : Nat) (hnb : ∀ k, k * y.S + 1 < l.length → k < nb) : Lay (y.put l nb) y l := by
  let m : Nat → Nat := fun k => min y.S (l.length - 1 - k * y.S)
  have hB := bytes_of (y.put_bytes hy ho l nb)
  have hlz : ∀ k, (y.lebL l (k * y.S) (m k)).length - 1 + 1 = (y.lebL l (k * y.S) (m k)).length := fun k => by
    have := lebB_length0 (zg (leastOf y.W l (k * y.S) (m k))).toNat
    unfold Way.lebL
    omega
  have hS0 : 0 < y.S := by rw [hy.S]; exact Nat.mul_pos hy.M0 hy.n0
  have hjn : ∀ j, j < y.M → j * y.n + y.n ≤ y.S := fun j hj => by
    rw [hy.S]
    have : (j + 1) * y.n ≤ y.M * y.n := Nat.mul_le_mul_right _ hj
    rwa [Nat.add_mul, Nat.one_mul] at this
  refine
    { P := fun k => (y.put l k).length
      nz := fun k => (y.lebL l (k * y.S) (m k)).length - 1
      z := fun k => ((zg (leastOf y.W l (k * y.S) (m k))).toNat : Nat)
      wd := fun k j => y.wd l (k * y.S) (m k) j
      bp := fun k j => (y.put l k).length + (y.lebL l (k * y.S) (m k)).length + y.M + (y.bodies l (k * y.S) (m k) j).length
      least := fun k => leastOf y.W l (k * y.S) (m k)
      leb := fun k hk => ?_, width := fun k j hk hj => ?_, mini := fun k j hk hj => ?_, next := fun k hk => ?_, delta := fun k j i hk hj hi => ?_, range := fun k hk => ?_ }
  · obtain ⟨post, hp⟩ := y.put_split l nb k (hnb k hk)
    have hm : 0 < m k := by simp only [m]; omega
    have hz := zg_nat (least_bounds y.W l (k * y.S) (m k) hm)
    refine ⟨?_, ?_, ?_, ?_⟩
    · have := lebB_leb (y.put l k) (y.widths l (k * y.S) (m k) y.M ++ y.bodies l (k * y.S) (m k) y.M ++ post) _ hz.2
      rw [hp, Way.block]
      simpa [Way.lebL] using this
    · rw [hz.1, unzz_zg]
    · rw [hp, Way.block]
      simp only [List.length_append, y.widths_length]
      have := hlz k
      simp only [m] at *
      omega
    · have := hlz k
      simp only [Way.bodies, List.length_nil, m] at *
      omega
  · obtain ⟨post, hp⟩ := y.put_split l nb k (hnb k hk)
    have := getD_mid (y.put l k ++ y.lebL l (k * y.S) (m k)) (y.widths l (k * y.S) (m k) y.M) (y.bodies l (k * y.S) (m k) y.M ++ post) j (by rw [y.widths_length]; exact hj)
    rw [y.widths_getD _ _ _ _ _ hj] at this
    rw [← this, hp, Way.block, List.length_append, ← hlz k]
    congr 1
    simp [m]
  · have hk' : k * y.S + 1 < l.length := by omega
    have hjm : j * y.n < m k := by have := hjn j hj; have := hy.n0; simp only [m]; omega
    obtain ⟨post, hp⟩ := y.put_split l nb k (hnb k hk')
    obtain ⟨post2, hp2⟩ := y.bodies_split l (k * y.S) (m k) y.M j hj
    have hbl := y.body_length l (k * y.S) (m k) j hy.n8 hjm
    refine ⟨?_, ?_, ?_⟩
    · unfold Way.wd
      rw [if_neg (by omega)]
      exact Nat.min_le_left _ _
    · rw [hp, Way.block]
      show _ + _ * _ / 8 ≤ (y.put l k ++ (y.lebL l (k * y.S) (m k) ++ y.widths l (k * y.S) (m k) y.M ++ y.bodies l (k * y.S) (m k) y.M) ++ post).length
      rw [hp2]
      simp only [List.length_append, y.widths_length]
      omega
    · rw [Way.bodies, List.length_append, hbl]
      omega
  · rw [Way.put, Way.block]
    simp only [List.length_append, y.widths_length, m]
    omega
  · have hk' : k * y.S + 1 < l.length := by omega
    have hjm : j * y.n < m k := by have := hjn j hj; have := hy.n0; simp only [m]; omega
    obtain ⟨post, hp⟩ := y.put_split l nb k (hnb k hk')
    obtain ⟨post2, hp2⟩ := y.bodies_split l (k * y.S) (m k) y.M j hj
    have hbl := y.body_length l (k * y.S) (m k) j hy.n8 hjm
    have hD : y.put l nb = (y.put l k ++ y.lebL l (k * y.S) (m k) ++ y.widths l (k * y.S) (m k) y.M ++ y.bodies l (k * y.S) (m k) j) ++ y.body l (k * y.S) (m k) j ++ (post2 ++ post) := by
      rw [hp, Way.block]
      show y.put l k ++ (y.lebL l (k * y.S) (m k) ++ y.widths l (k * y.S) (m k) y.M ++ y.bodies l (k * y.S) (m k) y.M) ++ post = _
      rw [hp2]
      simp
    have hlen : (y.put l k ++ y.lebL l (k * y.S) (m k) ++ y.widths l (k * y.S) (m k) y.M ++ y.bodies l (k * y.S) (m k) j).length = (y.put l k).length + (y.lebL l (k * y.S) (m k)).length + y.M + (y.bodies l (k * y.S) (m k) j).length := by
      simp only [List.length_append, y.widths_length]
    have hW64 : y.W ≤ 64 := by have := hy.W; omega
    have hiw : i * y.wd l (k * y.S) (m k) j + y.wd l (k * y.S) (m k) j ≤ 8 * (y.body l (k * y.S) (m k) j).length := by
      rw [hbl]
      have h1 : (i + 1) * y.wd l (k * y.S) (m k) j ≤ y.n * y.wd l (k * y.S) (m k) j := Nat.mul_le_mul_right _ hi
      rw [Nat.add_mul, Nat.one_mul] at h1
      have : y.n * y.wd l (k * y.S) (m k) j % 8 = 0 := by rw [Nat.mul_mod, hy.n8]; simp
      omega
    rw [hD] at hB
    have := bitsAt_mid _ _ _ hB (i * y.wd l (k * y.S) (m k) j) (y.wd l (k * y.S) (m k) j) hiw
    rw [← hD, hlen] at this
    rw [this]
    have hpk := bitsAt_packed (fOf y.W l (leastOf y.W l (k * y.S) (m k)) (k * y.S + j * y.n) (min y.n (m k - j * y.n))) (y.wd l (k * y.S) (m k) j) y.n i (fun i => fOf_lt y hW64 l (k * y.S) (m k) j hjm i) hi
    have hbody : y.body l (k * y.S) (m k) j = packB (valBits (fOf y.W l (leastOf y.W l (k * y.S) (m k)) (k * y.S + j * y.n) (min y.n (m k - j * y.n))) (y.wd l (k * y.S) (m k) j) y.n) := by
      unfold Way.body
      rw [if_neg (by omega)]
    rw [hbody, hpk]
    unfold fOf
    have hi' : i < min y.n (m k - j * y.n) := by
      have := hjn j hj
      simp only [m]
      omega
    rw [if_pos hi']
    unfold vOf
    have hpos : (0 : Int) < 2 ^ y.W := Int.pow_pos (by decide)
    rw [Int.toNat_of_nonneg (Int.emod_nonneg _ (Int.ne_of_gt hpos))]
  · obtain ⟨i, hi, e⟩ := leastOf_is y.W l (k * y.S) (m k) (by simp only [m]; omega)
    exact ⟨k * y.S + i, by simp only [m] at hi; omega, e⟩
end Go.Proofs.YtdamippibpbjhaaGreatDoor

/-! Small functions of the reference: numbers. -/
namespace Go.Proofs.YtdamippibpbjhaaGreatDoor
open Go.RowKit

theorem zig_val (a : Int) (h : -9223372036854775808 ≤ a ∧ a < 9223372036854775808) : bits .xor .u64 (IntKind.u64.wrap (IntKind.u64.wrap a * 2)) (IntKind.u64.wrap (a / 9223372036854775808)) = zg a := by
  by_cases h0 : 0 ≤ a
  · rw [show a / 9223372036854775808 = 0 by omega, show zg a = 2 * a by unfold zg; rw [if_pos h0]]
    have e1 : IntKind.u64.wrap (IntKind.u64.wrap a * 2) = 2 * a := by simp only [IntKind.wrap_u64]; omega
    rw [e1, show IntKind.u64.wrap 0 = 0 from rfl]
    unfold bits
    simp only [IntKind.wrap_u64]
    have e : BitVec.ofInt IntKind.u64.bits (2 * a) ^^^ BitVec.ofInt IntKind.u64.bits 0 = BitVec.ofInt IntKind.u64.bits (2 * a) := by
      rw [show BitVec.ofInt IntKind.u64.bits 0 = 0#_ from rfl, BitVec.xor_zero]
    rw [e]
    have : ((BitVec.ofInt 64 (2 * a)).toNat : Int) = 2 * a := by rw [BitVec.toNat_ofInt]; omega
    change ((BitVec.ofInt 64 (2 * a)).toNat : Int) % _ = _
    rw [this]
    omega
  · rw [show a / 9223372036854775808 = -1 by omega, show zg a = -2 * a - 1 by unfold zg; rw [if_neg h0]]
    have e1 : IntKind.u64.wrap (IntKind.u64.wrap a * 2) = 18446744073709551616 + 2 * a := by simp only [IntKind.wrap_u64]; omega
    rw [e1, show IntKind.u64.wrap (-1) = 18446744073709551615 from rfl]
    unfold bits
    simp only [IntKind.wrap_u64]
    have e : BitVec.ofInt IntKind.u64.bits (18446744073709551616 + 2 * a) ^^^ BitVec.ofInt IntKind.u64.bits 18446744073709551615 = ~~~ (BitVec.ofInt IntKind.u64.bits (18446744073709551616 + 2 * a)) := by
      rw [show BitVec.ofInt IntKind.u64.bits 18446744073709551615 = BitVec.allOnes _ from rfl, BitVec.xor_allOnes]
    rw [e, BitVec.toNat_not]
    have : (BitVec.ofInt 64 (18446744073709551616 + 2 * a)).toNat = (18446744073709551616 + 2 * a).toNat := by rw [BitVec.toNat_ofInt]; omega
    change ((2 ^ 64 - 1 - (BitVec.ofInt 64 (18446744073709551616 + 2 * a)).toNat : Nat) : Int) % _ = _
    rw [this]
    omega
set_option maxRecDepth 100000 in
set_option maxHeartbeats 2000000 in
theorem zig_any (a : Int) (h : -9223372036854775808 ≤ a ∧ a < 9223372036854775808) (w : World) : Calls Tryz.prog 32 #[.int .i64 a] w fun e w' => e = .returned (.int .u64 (zg a)) ∧ w' = w := by
  go_enter Tryz.func32, Tryz.ntmps32
  go_wp2_with fail
  go_ret
  refine ⟨?_, rfl⟩
  show Ending.returned (Value.int .u64 (bits .xor .u64 (IntKind.u64.wrap (IntKind.u64.wrap a * 2)) (IntKind.u64.wrap (a / 9223372036854775808)))) = _
  rw [zig_val a h]
set_option maxRecDepth 100000 in
set_option maxHeartbeats 2000000 in
theorem signed32 (a : Int) (w : World) : Calls Tryz.prog 83 #[.int .u64 a, .int .i64 32] w fun e w' => e = .returned (.int .i64 (IntKind.i32.wrap a)) ∧ w' = w := by
  go_enter Tryz.func83, Tryz.ntmps83
  go_wp2_with fail
  go_ret
  refine ⟨?_, rfl⟩
  show Ending.returned (Value.int .i64 (wrap64 (IntKind.u64.wrap (a * 4294967296)) / 4294967296)) = _
  rw [show wrap64 (IntKind.u64.wrap (a * 4294967296)) / 4294967296 = IntKind.i32.wrap a by simp only [wrap64, IntKind.wrap_u64, IntKind.wrap_i32]; omega]
set_option maxRecDepth 100000 in
set_option maxHeartbeats 2000000 in
theorem signed64 (a : Int) (w : World) : Calls Tryz.prog 83 #[.int .u64 a, .int .i64 64] w fun e w' => e = .returned (.int .i64 (IntKind.i64.wrap a)) ∧ w' = w := by
  go_enter Tryz.func83, Tryz.ntmps83
  go_wp2_with fail
  go_ret
  refine ⟨?_, rfl⟩
  show Ending.returned (Value.int .i64 (wrap64 (IntKind.u64.wrap a))) = _
  rw [show wrap64 (IntKind.u64.wrap a) = IntKind.i64.wrap a by simp only [wrap64, IntKind.wrap_u64, IntKind.wrap_i64]; omega]
set_option maxRecDepth 100000 in
set_option maxHeartbeats 2000000 in
theorem wrapTo_any (W : Nat) (hW : W = 32 ∨ W = 64) (a : Int) (w : World) : Calls Tryz.prog 33 #[.int .i64 a, .int .i64 W] w fun e w' => e = .returned (.int .i64 (wrapW W a)) ∧ w' = w := by
  rcases hW with rfl | rfl
  · go_enter Tryz.func33, Tryz.ntmps33
    go_wp2_with fail
    refine (signed32 _ w).mono ?_
    rintro e w1 ⟨rfl, hw⟩
    have hw' := hw.symm
    clear hw
    subst hw'
    go_wp2_with fail
    go_ret
    refine ⟨?_, rfl⟩
    show Ending.returned (Value.int .i64 (IntKind.i32.wrap (IntKind.u64.wrap a))) = Ending.returned (Value.int .i64 (IntKind.i32.wrap a))
    rw [show IntKind.i32.wrap (IntKind.u64.wrap a) = IntKind.i32.wrap a by simp only [IntKind.wrap_u64, IntKind.wrap_i32]; omega]
  · go_enter Tryz.func33, Tryz.ntmps33
    go_wp2_with fail
    refine (signed64 _ w).mono ?_
    rintro e w1 ⟨rfl, hw⟩
    have hw' := hw.symm
    clear hw
    subst hw'
    go_wp2_with fail
    go_ret
    refine ⟨?_, rfl⟩
    show Ending.returned (Value.int .i64 (IntKind.i64.wrap (IntKind.u64.wrap a))) = Ending.returned (Value.int .i64 (IntKind.i64.wrap a))
    rw [show IntKind.i64.wrap (IntKind.u64.wrap a) = IntKind.i64.wrap a by simp only [IntKind.wrap_u64, IntKind.wrap_i64]; omega]
set_option maxRecDepth 100000 in
set_option maxHeartbeats 2000000 in
theorem truth_any (b : Bool) (w : World) : Calls Tryz.prog 34 #[.bool b] w fun e w' => e = .returned (.int .u64 (if b then 1 else 0)) ∧ w' = w := by
  cases b
  · go_enter Tryz.func34, Tryz.ntmps34
    go_wp2_with fail
    go_ret
    exact ⟨rfl, rfl⟩
  · go_enter Tryz.func34, Tryz.ntmps34
    go_wp2_with fail
    go_ret
    exact ⟨rfl, rfl⟩
set_option maxRecDepth 100000 in
set_option maxHeartbeats 2000000 in
theorem mask_any (W : Nat) (hW : W = 32 ∨ W = 64) (w : World) : Calls Tryz.prog 36 #[.int .i64 W] w fun e w' => e = .returned (.int .u64 (2 ^ W - 1)) ∧ w' = w := by
  rcases hW with rfl | rfl
  · go_enter Tryz.func36, Tryz.ntmps36
    go_wp2_with fail
    go_ret
    exact ⟨rfl, rfl⟩
  · go_enter Tryz.func36, Tryz.ntmps36
    go_wp2_with fail
    go_ret
    exact ⟨rfl, rfl⟩
set_option maxRecDepth 100000 in
set_option maxHeartbeats 2000000 in
theorem bitsFor_any (n : Nat) (hn : n < 18446744073709551616) (w : World) : Calls Tryz.prog 35 #[.int .u64 n] w fun e w' => e = .returned (.int .i64 (nbits 64 n)) ∧ w' = w := by
  go_enter Tryz.func35, Tryz.ntmps35
  go_wp2_with fail
  go_loopw [0, 3] (fun x r wr => ∃ m q : Nat, x = .int .u64 m ∧ r = .int .i64 q ∧ q ≤ 64 ∧ m < 2 ^ (64 - q) ∧ nbits 64 n = q + nbits (64 - q) m ∧ wr = w) (fun x _ _ => (intOf x).toNat)
  case atStart => exact ⟨n, 0, rfl, rfl, by omega, by simpa using hn, by simp, rfl⟩
  case round =>
    obtain ⟨m, q, rfl, rfl, hq, hm, he, rfl⟩ := hrel
    by_cases h : 0 < m
    · have hq64 : q < 64 := by
        by_cases e : q < 64
        · exact e
        · have : 64 - q = 0 := by omega
          rw [this] at hm
          simp at hm
          omega
      go_wp2_with fail
      go_roundw
      case rel =>
        refine ⟨m / 2, q + 1, by simp, by go_num, by omega, ?_, ?_, trivial⟩
        · have : 2 ^ (64 - q) = 2 ^ (64 - (q + 1)) * 2 := by rw [← Nat.pow_succ]; congr 1; omega
          omega
        · rw [he, show 64 - q = (64 - (q + 1)) + 1 by omega, nbits, if_neg (by omega)]
          omega
      case measure => simp only [intOf]; omega
    · obtain rfl : m = 0 := by omega
      go_wp2_with fail
      go_ret
      refine ⟨?_, rfl⟩
      have hz : ∀ f, nbits f 0 = 0 := fun f => by cases f <;> simp [nbits]
      rw [he, hz]
      rfl
end Go.Proofs.YtdamippibpbjhaaGreatDoor

/-! Operations that yield the same in every world, taken ahead of their place; operations that come up alone. -/
namespace Go.Proofs.YtdamippibpbjhaaGreatDoor
open Go
section
variable {P : Program} {md : Region.Mode} {Q : Exit → Act → World → Prop}
def takeB (md : Region.Mode) (ops : Array Oper) (listed : Array Bool) (i : Nat) : Bool :=
  Region.noSelect ops && Region.free md ops listed i && (Region.ready md ops listed).contains i

theorem wpAny_pure {l : List Oper} {o : Oper} {v : Value} (i : Nat) {listed : Array Bool} {g : Nat} {a : Act} {w : World} (hB : takeB md l.toArray listed i = true) (ho : l[i]? = some o) (hg : o.guard = none)
    (hQ : ∀ c a w, Q (.panic c) (a.put o.dst v) w → Q (.panic c) a w) (hv : ∀ w', (execOp a.eval o).run P w' = .ok (.value v) w')
    (h : wpAny P md l.toArray Q g (listed.setIfInBounds i true) (a.put o.dst v) w) : wpAny P md l.toArray Q (g + 1) listed a w := by
  simp only [takeB, Bool.and_eq_true] at hB
  obtain ⟨⟨h1, h2⟩, h3⟩ := hB
  exact wpAny_take (by simpa using ho) h1 h2 h3 hQ (.inl ⟨by unfold Region.wanted; rw [hg], hv⟩) h

theorem wpAny_only {l : List Oper} {o : Oper} (i : Nat) {listed : Array Bool} {g : Nat} {a : Act} {w : World} (hB : Region.ready md l.toArray listed = [i]) (ho : l[i]? = some o)
    (h : wpList P l.toArray (Exit.then (wpAny P md l.toArray Q g (listed.setIfInBounds i true)) Q) [o] a w) : wpAny P md l.toArray Q (g + 1) listed a w := by
  refine ⟨fun h0 => (by rw [hB] at h0; cases h0), fun i' hi => ?_⟩
  rw [hB] at hi
  obtain rfl : i' = i := by simpa using hi
  have ho' : l.toArray[i']? = some o := by simpa using ho
  unfold wpOp
  simp only [ho']
  simp only [wpList] at h
  have key : ∀ K K' : Act → World → Prop, (∀ a w, K a w → K' a w) → o.wp P a w K (Exit.then (wpAny P md l.toArray Q g (listed.setIfInBounds i' true)) Q) → o.wp P a w K' Q := by
    intro K K' hK h1
    unfold Oper.wp at *
    generalize (execOp a.eval o).run P w = r at *
    cases r with
    | ok x w' =>
      cases x <;> simp only [Oper.upon] at h1 ⊢ <;>
        first
          | exact hK _ _ h1
          | exact Calls.mono h1 (fun e w'' he => by cases e <;> first | exact hK _ _ he | exact he)
          | exact Rows.mono h1 (fun _ _ he => hK _ _ he)
    | halt x w' => cases x <;> simp only [Oper.upon] at h1 ⊢ <;> exact h1
  split
  · rename_i hw
    rw [if_pos hw] at h
    rcases h with h | ⟨h1, h2⟩
    · exact .inl (key _ _ (fun a' w' h' => h') h)
    · exact .inr ⟨h1, h2⟩
  · rename_i hw
    rw [if_neg hw] at h
    exact h
theorem wpAny_stop {l : List Oper} {listed : Array Bool} {f : Nat} {a : Act} {w : World} (hr : Region.ready md l.toArray listed = []) (h : Q .normal a w) : wpAny P md l.toArray Q f listed a w := wpAny_done hr h f
theorem wp_region_takes {id : Nat} {l : List Oper} {a : Act} {w : World} (hm : P.follows .mixedOrders = true)
    (h : wpAny P .any l.toArray Q l.length (Array.replicate l.length false) a w.drew) : (Code.region id l.toArray true).wp P Q a w := by
  refine wp_region_any hm ?_
  simpa using h
end
end Go.Proofs.YtdamippibpbjhaaGreatDoor

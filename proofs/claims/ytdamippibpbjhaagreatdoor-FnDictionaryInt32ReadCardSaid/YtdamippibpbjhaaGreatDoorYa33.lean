import Derived.Test.YtdamippibpbjhaaGreatDoorYa29
import Derived.Test.YtdamippibpbjhaaGreatDoorYa28
import Derived.Test.YtdamippibpbjhaaGreatDoorYa05
import Derived.Test.YtdamippibpbjhaaGreatDoorYa32
/-! Plain: texts one behind the other; runs as bytes. -/
namespace Go.Proofs.YtdamippibpbjhaaGreatDoor
open Go.RowKit

/-- The texts lie so. -/
structure TText {D : List Int} {N : Nat} (Y : TLay D N) (T : Nat → List UInt8) : Prop where
  len : ∀ j, j < N → Y.len j = (T j).length
  byte : ∀ j, j < N → ∀ i (hi : i < (T j).length), D.getD (Y.q j + 4 + i) 0 = ((T j)[i].toNat : Int)
/-- The bytes of a text. -/
def byteL (s : List UInt8) : List Int := s.map fun b => (b.toNat : Int)
theorem byteL_length (s : List UInt8) : (byteL s).length = s.length := by simp [byteL]
theorem byteL_bytes (s : List UInt8) : ∀ x ∈ byteL s, 0 ≤ x ∧ x < 256 := by
  intro x hx
  simp only [byteL, List.mem_map] at hx
  obtain ⟨b, _, rfl⟩ := hx
  have := b.toNat_lt
  omega
/-- A text behind its length in four bytes. -/
def textB (s : List UInt8) : List Int := numB 4 s.length ++ byteL s
theorem textB_length (s : List UInt8) : (textB s).length = 4 + s.length := by simp [textB, numB_length, byteL_length]
def textsB (T : Nat → List UInt8) : Nat → List Int
  | 0 => []
  | n + 1 => textsB T n ++ textB (T n)
theorem textsB_split (T : Nat → List UInt8) : ∀ N j, j < N → ∃ post, textsB T N = textsB T j ++ textB (T j) ++ post
  | 0, _, h => absurd h (by omega)
  | N + 1, j, h => by
    by_cases e : j = N
    · subst e
      exact ⟨[], by rw [textsB, List.append_nil]⟩
    · obtain ⟨post, hp⟩ := textsB_split T N j (by omega)
      exact ⟨post ++ textB (T N), by rw [textsB, hp]; simp⟩
theorem textsB_bytes (T : Nat → List UInt8) : ∀ N, ∀ x ∈ textsB T N, 0 ≤ x ∧ x < 256
  | 0 => by simp [textsB]
  | N + 1 => by
    intro x hx
    rw [textsB, List.mem_append] at hx
    rcases hx with hx | hx
    · exact textsB_bytes T N x hx
    · rw [textB, List.mem_append] at hx
      rcases hx with hx | hx
      · exact numB_bytes _ _ x hx
      · exact byteL_bytes _ x hx
theorem textsB_le (T : Nat → List UInt8) : ∀ N, (∀ j, j < N → (T j).length ≤ 200) → (textsB T N).length ≤ 204 * N
  | 0, _ => by simp [textsB]
  | N + 1, h => by
    have h1 := textsB_le T N (fun j hj => h j (by omega))
    have h2 := h N (by omega)
    rw [textsB, List.length_append, textB_length]
    omega
/-- So the texts lie. -/
def textLay (T : Nat → List UInt8) (N : Nat) (h : ∀ j, j < N → (T j).length ≤ 200) : TLay (textsB T N) N where
  q := fun j => (textsB T j).length
  len := fun j => (T j).length
  q0 := rfl
  qs := fun j => by rw [textsB, List.length_append, textB_length]; omega
  qN := rfl
  short := h
  le := fun j hj => by
    obtain ⟨post, hp⟩ := textsB_split T N j hj
    have hl := h j hj
    have hg : ∀ i, i < 4 → (textsB T N).getD ((textsB T j).length + i) 0 = (((T j).length / 256 ^ i % 256 : Nat) : Int) := fun i hi => by
      have h1 := getD_mid (textsB T j) (numB 4 (T j).length) (byteL (T j) ++ post) i (by rw [numB_length]; exact hi)
      rw [numB_getD 4 _ _ hi] at h1
      rw [← h1, hp, textB]
      simp only [List.append_assoc]
    have h0 := hg 0 (by omega)
    rw [Nat.add_zero] at h0
    rw [h0, hg 1 (by omega), hg 2 (by omega), hg 3 (by omega)]
    omega
theorem textLay_text (T : Nat → List UInt8) (N : Nat) (h : ∀ j, j < N → (T j).length ≤ 200) : TText (textLay T N h) T where
  len := fun j _ => rfl
  byte := fun j hj i hi => by
    obtain ⟨post, hp⟩ := textsB_split T N j hj
    have h1 := getD_mid (textsB T j ++ numB 4 (T j).length) (byteL (T j)) post i (by rw [byteL_length]; exact hi)
    have h2 : (byteL (T j)).getD i 0 = ((T j)[i].toNat : Int) := by
      rw [List.getD_eq_getElem?_getD, byteL, List.getElem?_map, List.getElem?_eq_getElem hi]
      rfl
    rw [h2] at h1
    show (textsB T N).getD ((textsB T j).length + 4 + i) 0 = _
    rw [← h1, hp, textB]
    simp only [List.append_assoc, List.length_append, numB_length]

/-- A run, as the reference has it. -/
structure SRun where
  packed : Bool
  count : Int
  vals : List Int
/-- Value i of a run. -/
def SRun.f (r : SRun) (i : Nat) : Nat := (r.vals.getD (if r.packed then i else 0) 0).toNat
def SRun.rle (r : SRun) : Rle := ⟨r.packed, r.count.toNat, r.f⟩
/-- A run is asked. -/
structure SRun.Ok (W : Nat) (r : SRun) : Prop where
  c1 : 1 ≤ r.count
  pk : r.packed = true → r.count ≤ 20 ∧ (r.vals.length : Int) ≤ 8 * r.count
  rp : r.packed = false → r.count ≤ 300 ∧ r.vals.length = 1
  ge : ∀ i, 0 ≤ r.vals.getD i 0
  lt : ∀ i, r.vals.getD i 0 < 2 ^ W
theorem SRun.Ok.f_lt {W : Nat} {r : SRun} (h : r.Ok W) (i : Nat) : r.f i < 2 ^ W := by
  unfold SRun.f
  have h1 := h.ge (if r.packed then i else 0)
  have h2 := h.lt (if r.packed then i else 0)
  have e : (2 : Int) ^ W = ((2 ^ W : Nat) : Int) := by simp
  rw [e] at h2
  omega
/-- The bytes of a run. -/
def SRun.bytes (W : Nat) (r : SRun) : List Int :=
  if r.packed then lebB 10 (2 * r.count.toNat + 1) ++ packB (valBits r.f W (8 * r.count.toNat)) else lebB 10 (2 * r.count.toNat) ++ numB ((W + 7) / 8) (r.f 0)
def runsB (W : Nat) (l : List SRun) : List Int := l.flatMap (SRun.bytes W)
theorem runsB_cons (W : Nat) (r : SRun) (l : List SRun) : runsB W (r :: l) = r.bytes W ++ runsB W l := rfl
theorem SRun.bytes_byte (W : Nat) (r : SRun) : ∀ x ∈ r.bytes W, 0 ≤ x ∧ x < 256 := by
  intro x hx
  unfold SRun.bytes at hx
  split at hx <;> rw [List.mem_append] at hx <;> rcases hx with hx | hx
  · exact lebB_bytes _ _ x hx
  · exact numB_bytes _ _ x hx
  · exact lebB_bytes _ _ x hx
  · exact numB_bytes _ _ x hx
theorem runsB_byte (W : Nat) (l : List SRun) : ∀ x ∈ runsB W l, 0 ≤ x ∧ x < 256 := by
  intro x hx
  simp only [runsB, List.mem_flatMap] at hx
  obtain ⟨r, _, hx⟩ := hx
  exact r.bytes_byte W x hx
theorem lebB_len10 (v : Nat) : (lebB 10 v).length ≤ 10 := by
  have key : ∀ f v, (lebB f v).length ≤ f := fun f => by
    induction f with
    | zero => intro v; simp [lebB]
    | succ f ih => intro v; unfold lebB; split; simp; simp; exact ih _
  exact key 10 v
theorem packed_len (f : Nat → Nat) (W c : Nat) : (packB (valBits f W (8 * c))).length = c * W := by
  rw [packB_length, valBits_length, Nat.mul_assoc]
  omega
theorem bitsAt_numB (k v : Nat) (h : v < 256 ^ k) : bitsAt (numB k v) 0 (8 * k) = v := by
  unfold bitsAt
  rw [num_numB k v h, Nat.pow_zero, Nat.div_one, Nat.mod_eq_of_lt]
  rw [Nat.pow_mul]
  exact h
theorem SRun.bytes_le (W : Nat) (hW : W ≤ 20) (r : SRun) (h : r.Ok W) : 1 ≤ (r.bytes W).length ∧ (r.bytes W).length ≤ 410 := by
  unfold SRun.bytes
  split
  · rename_i hp
    have h1 := lebB_len10 (2 * r.count.toNat + 1)
    have h0 := lebB_length0 (2 * r.count.toNat + 1)
    have h2 := (h.pk hp).1
    have h3 : r.count.toNat * W ≤ 20 * 20 := Nat.mul_le_mul (by omega) hW
    rw [List.length_append, packed_len]
    omega
  · have h1 := lebB_len10 (2 * r.count.toNat)
    have h0 := lebB_length0 (2 * r.count.toNat)
    rw [List.length_append, numB_length]
    omega
theorem runsB_le (W : Nat) (hW : W ≤ 20) : ∀ l : List SRun, (∀ r ∈ l, r.Ok W) → l.length ≤ (runsB W l).length ∧ (runsB W l).length ≤ 410 * l.length
  | [], _ => by simp [runsB]
  | r :: l, h => by
    have h1 := runsB_le W hW l (fun r hr => h r (List.mem_cons_of_mem _ hr))
    have h2 := r.bytes_le W hW (h r List.mem_cons_self)
    rw [runsB_cons, List.length_append, List.length_cons]
    omega
/-- So the runs lie. -/
theorem runs_at (W : Nat) : ∀ (l : List SRun) (pre : List Int), (∀ x ∈ pre, 0 ≤ x ∧ x < 256) → (∀ r ∈ l, r.Ok W) → RunsAt (pre ++ runsB W l) W pre.length (l.map SRun.rle)
  | [], _, _, _ => trivial
  | r :: l, pre, hpre, hok => by
    have hr := hok r List.mem_cons_self
    have ih := runs_at W l (pre ++ r.bytes W) (fun x hx => by
      rw [List.mem_append] at hx
      rcases hx with hx | hx
      · exact hpre x hx
      · exact r.bytes_byte W x hx) (fun r hr => hok r (List.mem_cons_of_mem _ hr))
    rw [List.append_assoc, ← runsB_cons] at ih
    have hB : Bytes (pre ++ runsB W (r :: l)) := bytes_of fun x hx => by
      rw [List.mem_append] at hx
      rcases hx with hx | hx
      · exact hpre x hx
      · exact runsB_byte W _ x hx
    have hc := hr.c1
    have hc0 : 1 ≤ r.count.toNat := by omega
    cases hp : r.packed with
    | true =>
      obtain ⟨h20, hvl⟩ := hr.pk hp
      have h0 := lebB_length0 (2 * r.count.toNat + 1)
      have hbytes : r.bytes W = lebB 10 (2 * r.count.toNat + 1) ++ packB (valBits r.f W (8 * r.count.toNat)) := by unfold SRun.bytes; rw [if_pos hp]
      have hpl := packed_len r.f W r.count.toNat
      have hD1 : pre ++ runsB W (r :: l) = pre ++ lebB 10 (2 * r.count.toNat + 1) ++ (packB (valBits r.f W (8 * r.count.toNat)) ++ runsB W l) := by rw [runsB_cons, hbytes]; simp
      have hD2 : pre ++ runsB W (r :: l) = (pre ++ lebB 10 (2 * r.count.toNat + 1)) ++ packB (valBits r.f W (8 * r.count.toNat)) ++ runsB W l := by rw [hD1]; simp
      have hleb := lebB_leb pre (packB (valBits r.f W (8 * r.count.toNat)) ++ runsB W l) (2 * r.count.toNat + 1) (by omega)
      rw [← hD1] at hleb
      refine ⟨(lebB 10 (2 * r.count.toNat + 1)).length - 1, ?_, hc0, by show r.count.toNat ≤ 300; omega, ?_⟩
      · show Leb _ _ _ ((2 * r.count.toNat + (if r.packed then 1 else 0) : Nat) : Int)
        rw [if_pos hp]
        exact hleb
      · show if r.packed then _ else _
        rw [if_pos hp]
        refine ⟨?_, fun i hi => ?_, ?_⟩
        · show pre.length + _ + 1 + r.count.toNat * W ≤ _
          rw [hD2]
          simp only [List.length_append, hpl]
          omega
        · show bitsAt _ (8 * (pre.length + _ + 1) + i * W) W = r.f i
          have h1 : i * W + W ≤ 8 * (packB (valBits r.f W (8 * r.count.toNat))).length := by
            rw [hpl]
            have h2 : (i + 1) * W ≤ 8 * r.count.toNat * W := Nat.mul_le_mul_right _ hi
            rw [Nat.add_mul, Nat.one_mul, Nat.mul_assoc] at h2
            exact h2
          have h2 := bitsAt_mid (pre ++ lebB 10 (2 * r.count.toNat + 1)) (packB (valBits r.f W (8 * r.count.toNat))) (runsB W l) (by rw [← hD2]; exact hB) (i * W) W h1
          rw [← hD2, bitsAt_packed r.f W (8 * r.count.toNat) i hr.f_lt hi, List.length_append] at h2
          rw [← h2]
          congr 2
          omega
        · show RunsAt _ W (pre.length + _ + 1 + r.count.toNat * W) (l.map SRun.rle)
          have e : (pre ++ r.bytes W).length = pre.length + ((lebB 10 (2 * r.count.toNat + 1)).length - 1) + 1 + r.count.toNat * W := by
            rw [hbytes]
            simp only [List.length_append, hpl]
            omega
          rw [← e]
          exact ih
    | false =>
      obtain ⟨h300, hvl⟩ := hr.rp hp
      have hpf : ¬ (r.packed = true) := by rw [hp]; simp
      have h0 := lebB_length0 (2 * r.count.toNat)
      have hbytes : r.bytes W = lebB 10 (2 * r.count.toNat) ++ numB ((W + 7) / 8) (r.f 0) := by unfold SRun.bytes; rw [if_neg hpf]
      have hD1 : pre ++ runsB W (r :: l) = pre ++ lebB 10 (2 * r.count.toNat) ++ (numB ((W + 7) / 8) (r.f 0) ++ runsB W l) := by rw [runsB_cons, hbytes]; simp
      have hD2 : pre ++ runsB W (r :: l) = (pre ++ lebB 10 (2 * r.count.toNat)) ++ numB ((W + 7) / 8) (r.f 0) ++ runsB W l := by rw [hD1]; simp
      have hleb := lebB_leb pre (numB ((W + 7) / 8) (r.f 0) ++ runsB W l) (2 * r.count.toNat) (by omega)
      rw [← hD1] at hleb
      refine ⟨(lebB 10 (2 * r.count.toNat)).length - 1, ?_, hc0, by show r.count.toNat ≤ 300; omega, ?_⟩
      · show Leb _ _ _ ((2 * r.count.toNat + (if r.packed then 1 else 0) : Nat) : Int)
        rw [if_neg hpf]
        exact hleb
      · show if r.packed then _ else _
        rw [if_neg hpf]
        refine ⟨?_, ?_, fun i => ?_, ?_⟩
        · rw [hD2]
          simp only [List.length_append, numB_length]
          omega
        · show bitsAt _ (8 * (pre.length + _ + 1)) (8 * ((W + 7) / 8)) = r.f 0
          have h2 := bitsAt_mid (pre ++ lebB 10 (2 * r.count.toNat)) (numB ((W + 7) / 8) (r.f 0)) (runsB W l) (by rw [← hD2]; exact hB) 0 (8 * ((W + 7) / 8)) (by rw [numB_length]; omega)
          rw [← hD2, bitsAt_numB _ _ (Nat.lt_of_lt_of_le (hr.f_lt 0) (by rw [show (256 : Nat) = 2 ^ 8 from rfl, ← Nat.pow_mul]; exact Nat.pow_le_pow_right (by decide) (by omega))), List.length_append] at h2
          rw [← h2]
          congr 2
          omega
        · show r.f i = r.f 0
          unfold SRun.f
          rw [if_neg hpf, if_neg hpf]
        · show RunsAt _ W (pre.length + _ + 1 + (W + 7) / 8) (l.map SRun.rle)
          have e : (pre ++ r.bytes W).length = pre.length + ((lebB 10 (2 * r.count.toNat)).length - 1) + 1 + (W + 7) / 8 := by
            rw [hbytes]
            simp only [List.length_append, numB_length]
            omega
          rw [← e]
          exact ih
/-- All values of runs. -/
def allOf (l : List SRun) : List Nat := runVals (l.map SRun.rle)
theorem allOf_cons (r : SRun) (l : List SRun) : allOf (r :: l) = r.rle.vals ++ allOf l := rfl
theorem allOf_append (l m : List SRun) : allOf (l ++ m) = allOf l ++ allOf m := by simp [allOf, runVals]
theorem SRun.vals_length (r : SRun) : r.rle.vals.length = if r.packed then 8 * r.count.toNat else r.count.toNat := by
  simp only [Rle.vals, Rle.n, SRun.rle, List.length_map, List.length_range]
  rfl
theorem allOf_le (W : Nat) : ∀ l : List SRun, (∀ r ∈ l, r.Ok W) → (allOf l).length ≤ 300 * l.length
  | [], _ => by simp [allOf, runVals]
  | r :: l, h => by
    have h1 := allOf_le W l (fun r hr => h r (List.mem_cons_of_mem _ hr))
    have hr := h r List.mem_cons_self
    rw [allOf_cons, List.length_append, List.length_cons, r.vals_length]
    split
    · rename_i hp; have := (hr.pk hp).1; omega
    · rename_i hp; have := (hr.rp (by simpa using hp)).1; omega
end Go.Proofs.YtdamippibpbjhaaGreatDoor

/-! Values and runs that lie in memory. -/
namespace Go.Proofs.YtdamippibpbjhaaGreatDoor
open Go.RowKit

/-- A value, as the reference has it. -/
structure SVal where
  null : Bool
  num : Int
  text : ByteArray
  ka : Option Addr
  kn : Nat
  kc : Nat
def SVal.cells (v : SVal) : List Value := [.bool v.null, .int .u64 v.num, .string v.text, .slice v.ka v.kn v.kc]
def SVal.agg (v : SVal) : Value := .agg #[.bool v.null, .int .u64 v.num, .string v.text, .slice v.ka v.kn v.kc]
def vcells (l : List SVal) : List Value := l.flatMap SVal.cells
theorem vcells_length : ∀ l : List SVal, (vcells l).length = 4 * l.length
  | [] => rfl
  | v :: l => by
    have := vcells_length l
    simp only [vcells, List.flatMap_cons, List.length_append, List.length_cons] at this ⊢
    simp only [SVal.cells, List.length_cons, List.length_nil]
    omega
theorem vcells_append (l m : List SVal) : vcells (l ++ m) = vcells l ++ vcells m := by simp [vcells]
/-- The values l lie from cell o of block g on. -/
def VRow (w : World) (g o : Nat) (l : List SVal) : Prop := ∀ j (h : j < l.length), w.cell? ⟨g, o + j * 4, none⟩ = some (.bool l[j].null) ∧ w.cell? ⟨g, o + j * 4 + 1, none⟩ = some (.int .u64 l[j].num) ∧
  w.cell? ⟨g, o + j * 4 + 2, none⟩ = some (.string l[j].text) ∧ w.cell? ⟨g, o + j * 4 + 3, none⟩ = some (.slice l[j].ka l[j].kn l[j].kc)
def Vals (w : World) (A : Option Addr) (l : List SVal) : Prop := 0 < l.length → ∃ g o, A = some ⟨g, o, none⟩ ∧ VRow w g o l
theorem VRow.keep {S : Nat → Prop} {w w' : World} {g o : Nat} {l : List SVal} (h : VRow w g o l) (hk : Keep S w w') (hs : ¬ S g) : VRow w' g o l :=
  fun j hj => ⟨hk.cell (h j hj).1 hs, hk.cell (h j hj).2.1 hs, hk.cell (h j hj).2.2.1 hs, hk.cell (h j hj).2.2.2 hs⟩
theorem Vals.keep {S : Nat → Prop} {w w' : World} {A : Option Addr} {l : List SVal} (h : Vals w A l) (hk : Keep S w w') (hS : ∀ b, b < w.heap.size → ¬ S b) : Vals w' A l := fun h0 => by
  obtain ⟨g, o, rfl, hr⟩ := h h0
  have hl := World.block_lt_of_cell? w _ (hr 0 h0).1
  exact ⟨g, o, rfl, hr.keep hk (hS g hl)⟩

set_option maxRecDepth 100000 in
set_option maxHeartbeats 4000000 in
theorem shortTexts_any (A : Option Addr) (l : List SVal) (c : Nat) (w : World) (hl : Vals w A l) (hlen : l.length ≤ 140737488351232) :
    Calls Tryz.prog 22 #[.slice A l.length c] w fun e w' => Fit (∀ j (h : j < l.length), l[j].text.size ≤ 16) e ∧ Keep (fun _ => False) w w' := by
  go_enter Tryz.func22, Tryz.ntmps22
  go_wp2_with fail
  go_loopw [4, 7] (fun _ i wr => ∃ k : Nat, k ≤ l.length ∧ i = .int .i64 k ∧ Keep (fun _ => False) w wr ∧ ∀ j (h : j < l.length), j < k → l[j].text.size ≤ 16) (fun _ i _ => l.length - (intOf i).toNat)
  case atStart => exact ⟨0, Nat.zero_le _, rfl, Keep.refl _ _, fun j _ hj => absurd hj (by omega)⟩
  case round =>
    obtain ⟨k, hk, rfl, hkr, hr⟩ := hrel
    have HR := Lib.hid hr
    clear hr
    by_cases h : k < l.length
    · obtain ⟨g, o, rfl, hrow⟩ := hl (by omega)
      obtain ⟨x0, x1, x2, x3⟩ := (hrow.keep hkr (fun h => h)) k h
      have hk0 : (0 : Int) ≤ (k : Int) := by omega
      have hk1 : (k : Int) < (l.length : Int) := by omega
      by_cases ht : l[k].text.size ≤ 16
      · go_wp2_with fail
        go_roundw
        case rel => exact ⟨k + 1, h, by go_num, hkr.alloc _, fun j hj hjk => by
          by_cases e : j = k
          · subst e; exact ht
          · exact HR.out j hj (by omega)⟩
        case measure => simp [intOf]; omega
      · go_wp2_with fail
        go_ret
        exact ⟨⟨false, rfl, fun h => by cases h⟩, hkr.alloc _⟩
    · obtain rfl : k = l.length := by omega
      go_wp2_with fail
      go_ret
      exact ⟨⟨true, rfl, fun _ j hj => HR.out j hj hj⟩, hkr⟩

/-- Numbers without a sign that lie where a slice says. -/
def UInts (w : World) (A : Option Addr) (l : List Int) : Prop := 0 < l.length → ∃ g o, A = some ⟨g, o, none⟩ ∧ Row w .u64 g o l
theorem UInts.keep {S : Nat → Prop} {w w' : World} {A : Option Addr} {l : List Int} (h : UInts w A l) (hk : Keep S w w') (hS : ∀ b, b < w.heap.size → ¬ S b) : UInts w' A l := fun h0 => by
  obtain ⟨g, o, rfl, hr⟩ := h h0
  have hl := World.block_lt_of_cell? w _ (hr 0 h0)
  exact ⟨g, o, rfl, hr.keep hk (hS g hl)⟩
/-- A run with where its values lie. -/
structure SRunM extends SRun where
  ra : Option Addr
  rc : Nat
/-- The runs l lie from cell o of block g on. -/
def RRow (w : World) (g o : Nat) (l : List SRunM) : Prop := ∀ j (h : j < l.length), w.cell? ⟨g, o + j * 3, none⟩ = some (.bool l[j].packed) ∧ w.cell? ⟨g, o + j * 3 + 1, none⟩ = some (.int .i64 l[j].count) ∧
  w.cell? ⟨g, o + j * 3 + 2, none⟩ = some (.slice l[j].ra l[j].vals.length l[j].rc) ∧ UInts w l[j].ra l[j].vals ∧ l[j].vals.length ≤ l[j].rc ∧ l[j].rc ≤ 9223372036854775807 ∧ (l[j].ra = none → l[j].rc = 0) ∧ ∀ t, t < l[j].vals.length → 0 ≤ l[j].vals.getD t 0 ∧ l[j].vals.getD t 0 < 18446744073709551616
def Runs (w : World) (A : Option Addr) (l : List SRunM) : Prop := 0 < l.length → ∃ g o, A = some ⟨g, o, none⟩ ∧ RRow w g o l
theorem RRow.keep {S : Nat → Prop} {w w' : World} {g o : Nat} {l : List SRunM} (h : RRow w g o l) (hk : Keep S w w') (hs : ¬ S g) (hS : ∀ b, b < w.heap.size → ¬ S b) : RRow w' g o l :=
  fun j hj => ⟨hk.cell (h j hj).1 hs, hk.cell (h j hj).2.1 hs, hk.cell (h j hj).2.2.1 hs, (h j hj).2.2.2.1.keep hk hS, (h j hj).2.2.2.2⟩
theorem Runs.keep {S : Nat → Prop} {w w' : World} {A : Option Addr} {l : List SRunM} (h : Runs w A l) (hk : Keep S w w') (hS : ∀ b, b < w.heap.size → ¬ S b) : Runs w' A l := fun h0 => by
  obtain ⟨g, o, rfl, hr⟩ := h h0
  have hl := World.block_lt_of_cell? w _ (hr 0 h0).1
  exact ⟨g, o, rfl, hr.keep hk (hS g hl) hS⟩

set_option maxRecDepth 100000 in
set_option maxHeartbeats 4000000 in
theorem zzFits6_any (p : Bool) (n : Int) (A : Option Addr) (m c : Nat) (w : World) : Calls Tryz.prog 38 #[.agg #[.bool p, .int .i64 n, .slice A m c]] w fun e w' => Fit True e ∧ Keep (fun _ => False) w w' := by
  have hk : Keep (fun _ => False) w (w.alloc (.cells #[.bool p, .int .i64 n, .slice A m c] 76)) := (Keep.refl _ w).alloc _
  go_enter Tryz.func38, Tryz.ntmps38
  by_cases h : (m : Int) ≤ 2147483647
  · go_wp2_with fail
    go_ret
    exact ⟨⟨_, rfl, fun _ => trivial⟩, hk⟩
  · go_wp2_with fail
    go_ret
    exact ⟨⟨_, rfl, fun _ => trivial⟩, hk⟩
set_option maxRecDepth 100000 in
set_option maxHeartbeats 4000000 in
theorem zzFits5_any (A : Option Addr) (l : List SRunM) (c : Nat) (w : World) (hl : Runs w A l) :
    Calls Tryz.prog 14 #[.slice A l.length c] w fun e w' => Fit True e ∧ Keep (fun _ => False) w w' := by
  by_cases h0 : (2147483647 : Int) < (l.length : Int)
  · go_enter Tryz.func14, Tryz.ntmps14
    go_wp2_with fail
    go_ret
    exact ⟨⟨_, rfl, fun _ => trivial⟩, Keep.refl _ _⟩
  go_enter Tryz.func14, Tryz.ntmps14
  go_wp2_with fail
  go_loopw [4, 10] (fun _ i wr => ∃ k : Nat, k ≤ l.length ∧ i = .int .i64 k ∧ Keep (fun _ => False) w wr) (fun _ i _ => l.length - (intOf i).toNat)
  case atStart => exact ⟨0, Nat.zero_le _, rfl, Keep.refl _ _⟩
  case round =>
    obtain ⟨k, hk, rfl, hkr⟩ := hrel
    by_cases h : k < l.length
    · obtain ⟨g, o, rfl, hrow⟩ := hl (by omega)
      obtain ⟨x0, x1, x2, _⟩ := (hrow.keep hkr (fun h => h) (fun _ _ h => h)) k h
      have hk0 : (0 : Int) ≤ (k : Int) := by omega
      have hk1 : (k : Int) < (l.length : Int) := by omega
      have HZ := Lib.hid (fun w => zzFits6_any l[k].packed l[k].count l[k].ra l[k].vals.length l[k].rc w)
      have hkA := hkr.alloc (.cells #[.bool l[k].packed, .int .i64 l[k].count, .slice l[k].ra l[k].vals.length l[k].rc] 76)
      go_wp2_with fail
      refine (HZ.out _).mono ?_
      rintro e w1 ⟨⟨b, rfl, _⟩, hk1⟩
      cases b
      · go_wp2_with fail
        go_ret
        exact ⟨⟨_, rfl, fun _ => trivial⟩, hkA.trans hk1⟩
      · go_wp2_with fail
        go_roundw
        case rel => exact ⟨k + 1, h, by go_num, hkA.trans hk1⟩
        case measure => simp [intOf]; omega
    · obtain rfl : k = l.length := by omega
      go_wp2_with fail
      go_ret
      exact ⟨⟨_, rfl, fun _ => trivial⟩, hkr⟩
end Go.Proofs.YtdamippibpbjhaaGreatDoor

/-! What is asked of values of a type: texts, and numbers of 32 bits. -/
namespace Go.Proofs.YtdamippibpbjhaaGreatDoor
open Go.RowKit

set_option maxRecDepth 100000 in
set_option maxHeartbeats 4000000 in
theorem oneBits_bin (w : World) : Calls Tryz.prog 89 #[.agg #[.int .i64 4, .int .i64 0, .bool false, .int .i64 0, .int .i64 0, .int .i64 0, .string ⟨#[]⟩, .bool false, .slice none 0 0, .slice none 0 0]] w fun e w' => e = .returned (.tuple #[.int .i64 0, .bool false]) ∧ Keep (fun _ => False) w w' := by
  have hk : Keep (fun _ => False) w (w.alloc (.cells #[.int .i64 4, .int .i64 0, .bool false, .int .i64 0, .int .i64 0, .int .i64 0, .string ⟨#[]⟩, .bool false, .slice none 0 0, .slice none 0 0] 44)) := (Keep.refl _ w).alloc _
  go_enter Tryz.func89, Tryz.ntmps89
  go_wp2_with fail
  go_ret2
  exact ⟨rfl, hk⟩
set_option maxRecDepth 100000 in
set_option maxHeartbeats 4000000 in
theorem oneBits_int (w : World) : Calls Tryz.prog 89 #[.agg #[.int .i64 2, .int .i64 32, .bool true, .int .i64 0, .int .i64 0, .int .i64 0, .string ⟨#[]⟩, .bool false, .slice none 0 0, .slice none 0 0]] w fun e w' => e = .returned (.tuple #[.int .i64 32, .bool true]) ∧ Keep (fun _ => False) w w' := by
  have hk : Keep (fun _ => False) w (w.alloc (.cells #[.int .i64 2, .int .i64 32, .bool true, .int .i64 0, .int .i64 0, .int .i64 0, .string ⟨#[]⟩, .bool false, .slice none 0 0, .slice none 0 0] 44)) := (Keep.refl _ w).alloc _
  go_enter Tryz.func89, Tryz.ntmps89
  go_wp2_with fail
  go_quiet (fail)
  go_wp2_with fail
  go_ret2
  exact ⟨rfl, hk.drewN nq⟩
set_option maxRecDepth 100000 in
set_option maxHeartbeats 4000000 in
theorem oneLength_bin (w : World) : Calls Tryz.prog 90 #[.agg #[.int .i64 4, .int .i64 0, .bool false, .int .i64 0, .int .i64 0, .int .i64 0, .string ⟨#[]⟩, .bool false, .slice none 0 0, .slice none 0 0]] w fun e w' => e = .returned (.int .i64 (-1)) ∧ Keep (fun _ => False) w w' := by
  have hk : Keep (fun _ => False) w (w.alloc (.cells #[.int .i64 4, .int .i64 0, .bool false, .int .i64 0, .int .i64 0, .int .i64 0, .string ⟨#[]⟩, .bool false, .slice none 0 0, .slice none 0 0] 44)) := (Keep.refl _ w).alloc _
  go_enter Tryz.func90, Tryz.ntmps90
  go_wp2_with fail
  go_ret
  exact ⟨rfl, hk⟩
/-- A text. -/
structure SVal.TextOk (v : SVal) : Prop where
  null : v.null = false
  kn : v.kn = 0
  num : v.num = 0
  text : v.text.size ≤ 200
/-- A number of 32 bits. -/
structure SVal.IntOk (v : SVal) : Prop where
  null : v.null = false
  kn : v.kn = 0
  num : v.num = IntKind.u64.wrap (IntKind.i32.wrap v.num)
  text : v.text = ⟨#[]⟩
set_option maxRecDepth 100000 in
set_option maxHeartbeats 4000000 in
theorem oneFits_bin (v : SVal) (hn : v.null = false) (w : World) : Calls Tryz.prog 53 #[.agg #[.int .i64 4, .int .i64 0, .bool false, .int .i64 0, .int .i64 0, .int .i64 0, .string ⟨#[]⟩, .bool false, .slice none 0 0, .slice none 0 0], v.agg] w fun e w' => Fit v.TextOk e ∧ Keep (fun _ => False) w w' := by
  obtain ⟨null, num, text, ka, kn, kc⟩ := v
  simp only at hn
  subst hn
  unfold SVal.agg
  simp only
  have hk : Keep (fun _ => False) w ((w.alloc (.cells #[.int .i64 4, .int .i64 0, .bool false, .int .i64 0, .int .i64 0, .int .i64 0, .string ⟨#[]⟩, .bool false, .slice none 0 0, .slice none 0 0] 44)).alloc (.cells #[.bool false, .int .u64 num, .string text, .slice ka kn kc] 47)) := ((Keep.refl _ w).alloc _).alloc _
  have hb1 := blk_alloc (blk_new w (.cells #[.int .i64 4, .int .i64 0, .bool false, .int .i64 0, .int .i64 0, .int .i64 0, .string ⟨#[]⟩, .bool false, .slice none 0 0, .slice none 0 0] 44)) (.cells #[.bool false, .int .u64 num, .string text, .slice ka kn kc] 47)
  have hb2 : ((w.alloc (.cells #[.int .i64 4, .int .i64 0, .bool false, .int .i64 0, .int .i64 0, .int .i64 0, .string ⟨#[]⟩, .bool false, .slice none 0 0, .slice none 0 0] 44)).alloc (.cells #[.bool false, .int .u64 num, .string text, .slice ka kn kc] 47)).heap[w.heap.size + 1]? = some (.cells #[.bool false, .int .u64 num, .string text, .slice ka kn kc] 47 (0, 0)) := by have := blk_new (w.alloc (.cells #[.int .i64 4, .int .i64 0, .bool false, .int .i64 0, .int .i64 0, .int .i64 0, .string ⟨#[]⟩, .bool false, .slice none 0 0, .slice none 0 0] 44)) (.cells #[.bool false, .int .u64 num, .string text, .slice ka kn kc] 47); simpa using this
  have HB := Lib.hid (fun w => oneBits_bin w)
  have HL := Lib.hid (fun w => oneLength_bin w)
  go_enter Tryz.func53, Tryz.ntmps53
  by_cases h0 : (0 : Int) < (kn : Int)
  · go_wp2_with fail
    go_ret
    exact ⟨⟨_, rfl, fun h => by cases h⟩, hk⟩
  obtain rfl : kn = 0 := by omega
  go_wp2_with fail
  generalize (w.alloc (.cells #[.int .i64 4, .int .i64 0, .bool false, .int .i64 0, .int .i64 0, .int .i64 0, .string ⟨#[]⟩, .bool false, .slice none 0 0, .slice none 0 0] 44)).alloc (.cells #[.bool false, .int .u64 num, .string text, .slice ka 0 kc] 47) = w0 at *
  refine (HB.out _).mono ?_
  rintro e w1 ⟨rfl, hk1⟩
  have hk01 := hk.trans hk1
  have hb1 := hk1.blk hb1 (fun h => h)
  have hb2 := hk1.blk hb2 (fun h => h)
  have hc1 := blk_cell hb1
  have hc2 := blk_cell hb2
  go_wp2_with fail
  refine (HL.out _).mono ?_
  rintro e w2 ⟨rfl, hk2⟩
  have hk02 := hk01.trans hk2
  have hc2 := blk_cell (hk2.blk hb2 (fun h => h))
  clear hc1
  by_cases hn0 : num = 0
  · subst hn0
    by_cases ht : text.size ≤ 200
    · have ht' : (text.size : Int) ≤ 200 := by omega
      go_wp2_with fail
      go_ret
      exact ⟨⟨_, rfl, fun _ => ⟨rfl, rfl, rfl, ht⟩⟩, hk02⟩
    · have ht' : ¬ (text.size : Int) ≤ 200 := by omega
      go_wp2_with fail
      go_ret
      exact ⟨⟨_, rfl, fun h => by simp at h; omega⟩, hk02⟩
  · have hn0' : (num == 0) = false := beq_eq_false_iff_ne.2 hn0
    go_wp2_with fail
    go_ret
    exact ⟨⟨false, rfl, fun h => by cases h⟩, hk02⟩
set_option maxRecDepth 100000 in
set_option maxHeartbeats 4000000 in
theorem plainAll_bin (A : Option Addr) (l : List SVal) (c : Nat) (w : World) (hl : Vals w A l) (hlen : l.length ≤ 140737488351232) :
    Calls Tryz.prog 20 #[.agg #[.int .i64 4, .int .i64 0, .bool false, .int .i64 0, .int .i64 0, .int .i64 0, .string ⟨#[]⟩, .bool false, .slice none 0 0, .slice none 0 0], .slice A l.length c] w fun e w' => Fit (∀ j (h : j < l.length), l[j].TextOk) e ∧ Keep (fun _ => False) w w' := by
  have hk0 : Keep (fun _ => False) w (w.alloc (.cells #[.int .i64 4, .int .i64 0, .bool false, .int .i64 0, .int .i64 0, .int .i64 0, .string ⟨#[]⟩, .bool false, .slice none 0 0, .slice none 0 0] 44)) := (Keep.refl _ w).alloc _
  have hb1 := blk_new w (.cells #[.int .i64 4, .int .i64 0, .bool false, .int .i64 0, .int .i64 0, .int .i64 0, .string ⟨#[]⟩, .bool false, .slice none 0 0, .slice none 0 0] 44)
  have HF := Lib.hid (fun v hv w => oneFits_bin v hv w)
  go_enter Tryz.func20, Tryz.ntmps20
  go_wp2_with fail
  generalize w.alloc (.cells #[.int .i64 4, .int .i64 0, .bool false, .int .i64 0, .int .i64 0, .int .i64 0, .string ⟨#[]⟩, .bool false, .slice none 0 0, .slice none 0 0] 44) = w0 at *
  go_loopw [6, 9] (fun _ i wr => ∃ k : Nat, k ≤ l.length ∧ i = .int .i64 k ∧ Keep (fun _ => False) w0 wr ∧ ∀ j (h : j < l.length), j < k → l[j].TextOk) (fun _ i _ => l.length - (intOf i).toNat)
  case atStart => exact ⟨0, Nat.zero_le _, rfl, Keep.refl _ _, fun j _ hj => absurd hj (by omega)⟩
  case round =>
    obtain ⟨k, hk, rfl, hkr, hr⟩ := hrel
    have HR := Lib.hid hr
    clear hr
    by_cases h : k < l.length
    · obtain ⟨g, o, rfl, hrow⟩ := hl (by omega)
      obtain ⟨x0, x1, x2, x3⟩ := (hrow.keep (hk0.trans hkr) (fun h => h)) k h
      have hk00 : (0 : Int) ≤ (k : Int) := by omega
      have hk1 : (k : Int) < (l.length : Int) := by omega
      have hv : ∃ v, v = l[k] := ⟨_, rfl⟩
      obtain ⟨v, hv⟩ := hv
      rw [← hv] at x0 x1 x2 x3
      have HV := Lib.hid hv
      clear hv
      have HF' := Lib.hid (HF.out v)
      obtain ⟨null, num, text, ka, kn, kc⟩ := v
      simp only at x0 x1 x2 x3
      have hkA := hkr.alloc (.cells #[.bool null, .int .u64 num, .string text, .slice ka kn kc] 47)
      have hb1r := blk_alloc (hkr.blk hb1 (fun h => h)) (.cells #[.bool null, .int .u64 num, .string text, .slice ka kn kc] 47)
      have hb2 := blk_new wr (.cells #[.bool null, .int .u64 num, .string text, .slice ka kn kc] 47)
      have hc1 := blk_cell hb1r
      cases null
      · have HF2 := Lib.hid (HF'.out rfl)
        unfold SVal.agg at HF2
        simp only at HF2
        clear HF'
        go_wp2_with fail
        refine (HF2.out _).mono ?_
        rintro e w1 ⟨⟨b, rfl, hb⟩, hk1⟩
        cases b
        · clear hb
          go_wp2_with fail
          go_ret
          exact ⟨⟨false, rfl, fun h => by cases h⟩, hk0.trans (hkA.trans hk1)⟩
        · have hok := hb rfl
          clear hb
          have HOK := Lib.hid hok
          clear hok
          go_wp2_with fail
          go_roundw
          case rel => exact ⟨k + 1, h, by go_num, hkA.trans hk1, fun j hj hjk => by
            by_cases e : j = k
            · subst e; rw [← HV.out]; exact HOK.out
            · exact HR.out j hj (by omega)⟩
          case measure => simp [intOf]; omega
      · go_wp2_with fail
        go_ret
        exact ⟨⟨false, rfl, fun h => by cases h⟩, hk0.trans hkA⟩
    · obtain rfl : k = l.length := by omega
      go_wp2_with fail
      go_ret
      exact ⟨⟨_, rfl, fun _ j hj => HR.out j hj hj⟩, hk0.trans hkr⟩
end Go.Proofs.YtdamippibpbjhaaGreatDoor

/-! What is asked of values of a type: that they are no floats. -/
namespace Go.Proofs.YtdamippibpbjhaaGreatDoor
open Go.RowKit

@[go_sem] theorem ext95 (n : Int) (w : World) : (callFunc 95 #[.int .u64 n]).run Tryz.prog w = .ok (.value (.float .f64 n.toNat)) w := by kernel_rfl
@[go_sem] theorem ext94 (n : Int) (w : World) : (callFunc 94 #[.int .u32 n]).run Tryz.prog w = .ok (.value (.float .f32 n.toNat)) w := by kernel_rfl
set_option maxRecDepth 100000 in
set_option maxHeartbeats 4000000 in
theorem floatOf_0 (n : Int) (w : World) : Calls Tryz.prog 54 #[.int .i64 0, .int .u64 n] w fun e w' => (∃ x, e = .returned (.float .f64 x)) ∧ w' = w := by
  go_enter Tryz.func54, Tryz.ntmps54
  go_wp2_with fail
  go_ret
  exact ⟨⟨_, rfl⟩, rfl⟩
theorem conv_f32 (b : Nat) (w : World) : ∃ x n, (convert 187 119 (.float .f32 b)).run Tryz.prog w = .ok (.float .f64 x) (w.drewN n) := by
  have e : (convert 187 119 (.float .f32 b)).run Tryz.prog w = (Conv.floatToFloat .f32 b .f64).run Tryz.prog w := by
    unfold convert
    simp [go_sem]
  have key : ∀ q : Question, ∃ x n, (do let r ← choose q; pure (Value.float .f64 r) : Sem Value).run Tryz.prog w = .ok (.float .f64 x) (w.drewN n) := fun q => by
    rw [Sem.run_bind, run_choose_drew]
    split
    · exact ⟨_, 0, rfl⟩
    · exact ⟨_, 1, rfl⟩
  rw [e]
  unfold Conv.floatToFloat
  rw [if_neg (by decide)]
  split
  · exact key _
  · exact ⟨_, 0, rfl⟩
  · dsimp only
    split
    · exact key _
    · exact ⟨_, 0, rfl⟩
set_option maxRecDepth 100000 in
set_option maxHeartbeats 4000000 in
theorem floatOf_32 (n : Int) (w : World) : Calls Tryz.prog 54 #[.int .i64 32, .int .u64 n] w fun e w' => (∃ x, e = .returned (.float .f64 x)) ∧ Keep (fun _ => False) w w' := by
  obtain ⟨x, m, hx⟩ := conv_f32 (n % 4294967296).toNat w
  go_enter Tryz.func54, Tryz.ntmps54
  go_wp2_with fail
  go_ret
  exact ⟨⟨_, rfl⟩, (Keep.refl _ w).drewN m⟩
set_option maxRecDepth 100000 in
set_option maxHeartbeats 4000000 in
theorem plainFloats_bin (A : Option Addr) (l : List SVal) (c : Nat) (w : World) (hl : Vals w A l) (hlen : l.length ≤ 140737488351232) :
    Calls Tryz.prog 21 #[.agg #[.int .i64 4, .int .i64 0, .bool false, .int .i64 0, .int .i64 0, .int .i64 0, .string ⟨#[]⟩, .bool false, .slice none 0 0, .slice none 0 0], .slice A l.length c] w fun e w' => e = .returned (.bool true) ∧ Keep (fun _ => False) w w' := by
  have hk0 : Keep (fun _ => False) w (w.alloc (.cells #[.int .i64 4, .int .i64 0, .bool false, .int .i64 0, .int .i64 0, .int .i64 0, .string ⟨#[]⟩, .bool false, .slice none 0 0, .slice none 0 0] 44)) := (Keep.refl _ w).alloc _
  have hb1 := blk_new w (.cells #[.int .i64 4, .int .i64 0, .bool false, .int .i64 0, .int .i64 0, .int .i64 0, .string ⟨#[]⟩, .bool false, .slice none 0 0, .slice none 0 0] 44)
  have HF := Lib.hid (fun n w => floatOf_0 n w)
  go_enter Tryz.func21, Tryz.ntmps21
  go_wp2_with fail
  generalize w.alloc (.cells #[.int .i64 4, .int .i64 0, .bool false, .int .i64 0, .int .i64 0, .int .i64 0, .string ⟨#[]⟩, .bool false, .slice none 0 0, .slice none 0 0] 44) = w0 at *
  go_loopw [6, 7, 10] (fun _ _ i wr => ∃ k : Nat, k ≤ l.length ∧ i = .int .i64 k ∧ Keep (fun _ => False) w0 wr) (fun _ _ i _ => l.length - (intOf i).toNat)
  case atStart => exact ⟨0, Nat.zero_le _, rfl, Keep.refl _ _⟩
  case round =>
    obtain ⟨k, hk, rfl, hkr⟩ := hrel
    by_cases h : k < l.length
    · obtain ⟨g, o, rfl, hrow⟩ := hl (by omega)
      obtain ⟨x0, x1, x2, x3⟩ := (hrow.keep (hk0.trans hkr) (fun h => h)) k h
      have hk00 : (0 : Int) ≤ (k : Int) := by omega
      have hk1 : (k : Int) < (l.length : Int) := by omega
      generalize l[k] = v at *
      obtain ⟨null, num, text, ka, kn, kc⟩ := v
      simp only at x0 x1 x2 x3
      have hkA := hkr.alloc (.cells #[.bool null, .int .u64 num, .string text, .slice ka kn kc] 47)
      have hb1r := blk_alloc (hkr.blk hb1 (fun h => h)) (.cells #[.bool null, .int .u64 num, .string text, .slice ka kn kc] 47)
      have hb2 := blk_new wr (.cells #[.bool null, .int .u64 num, .string text, .slice ka kn kc] 47)
      have hc1 := blk_cell hb1r
      go_wp2_with fail
      refine (HF.out _ _).mono ?_
      rintro e w1 ⟨⟨x, rfl⟩, hw⟩
      have hw' := hw.symm
      clear hw
      subst hw'
      go_wp2_with fail
      go_roundw
      case rel => exact ⟨k + 1, h, by go_num, hkA⟩
      case measure => simp [intOf]; omega
    · obtain rfl : k = l.length := by omega
      go_wp2_with fail
      go_ret
      exact ⟨rfl, hk0.trans hkr⟩
set_option maxRecDepth 100000 in
set_option maxHeartbeats 4000000 in
theorem plainFloats_int (A : Option Addr) (l : List SVal) (c : Nat) (w : World) (hl : Vals w A l) (hlen : l.length ≤ 140737488351232) :
    Calls Tryz.prog 21 #[.agg #[.int .i64 2, .int .i64 32, .bool true, .int .i64 0, .int .i64 0, .int .i64 0, .string ⟨#[]⟩, .bool false, .slice none 0 0, .slice none 0 0], .slice A l.length c] w fun e w' => e = .returned (.bool true) ∧ Keep (fun _ => False) w w' := by
  have hk0 : Keep (fun _ => False) w (w.alloc (.cells #[.int .i64 2, .int .i64 32, .bool true, .int .i64 0, .int .i64 0, .int .i64 0, .string ⟨#[]⟩, .bool false, .slice none 0 0, .slice none 0 0] 44)) := (Keep.refl _ w).alloc _
  have hb1 := blk_new w (.cells #[.int .i64 2, .int .i64 32, .bool true, .int .i64 0, .int .i64 0, .int .i64 0, .string ⟨#[]⟩, .bool false, .slice none 0 0, .slice none 0 0] 44)
  have HF := Lib.hid (fun n w => floatOf_32 n w)
  go_enter Tryz.func21, Tryz.ntmps21
  go_wp2_with fail
  generalize w.alloc (.cells #[.int .i64 2, .int .i64 32, .bool true, .int .i64 0, .int .i64 0, .int .i64 0, .string ⟨#[]⟩, .bool false, .slice none 0 0, .slice none 0 0] 44) = w0 at *
  go_loopw [6, 7, 10] (fun _ _ i wr => ∃ k : Nat, k ≤ l.length ∧ i = .int .i64 k ∧ Keep (fun _ => False) w0 wr) (fun _ _ i _ => l.length - (intOf i).toNat)
  case atStart => exact ⟨0, Nat.zero_le _, rfl, Keep.refl _ _⟩
  case round =>
    obtain ⟨k, hk, rfl, hkr⟩ := hrel
    by_cases h : k < l.length
    · obtain ⟨g, o, rfl, hrow⟩ := hl (by omega)
      obtain ⟨x0, x1, x2, x3⟩ := (hrow.keep (hk0.trans hkr) (fun h => h)) k h
      have hk00 : (0 : Int) ≤ (k : Int) := by omega
      have hk1 : (k : Int) < (l.length : Int) := by omega
      generalize l[k] = v at *
      obtain ⟨null, num, text, ka, kn, kc⟩ := v
      simp only at x0 x1 x2 x3
      have hkA := hkr.alloc (.cells #[.bool null, .int .u64 num, .string text, .slice ka kn kc] 47)
      have hb1r := blk_alloc (hkr.blk hb1 (fun h => h)) (.cells #[.bool null, .int .u64 num, .string text, .slice ka kn kc] 47)
      have hb2 := blk_new wr (.cells #[.bool null, .int .u64 num, .string text, .slice ka kn kc] 47)
      have hc1 := blk_cell hb1r
      go_wp2_with fail
      refine (HF.out _ _).mono ?_
      rintro e w1 ⟨⟨x, rfl⟩, hk2⟩
      have hkA := hkA.trans hk2
      have hc1 := blk_cell (hk2.blk hb1r (fun h => h))
      go_wp2_with fail
      go_roundw
      case rel => exact ⟨k + 1, h, by go_num, hkA⟩
      case measure => simp [intOf]; omega
    · obtain rfl : k = l.length := by omega
      go_wp2_with fail
      go_ret
      exact ⟨rfl, hk0.trans hkr⟩
end Go.Proofs.YtdamippibpbjhaaGreatDoor

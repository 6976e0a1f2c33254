import Derived.Test.YtdamippibpbjhaaGreatDoorYa05
import Derived.Test.YtdamippibpbjhaaGreatDoorYa17
import Derived.Test.YtdamippibpbjhaaGreatDoorYa15
import Derived.ArgAppend
/-! What deltas that are laid so add up to. -/
namespace Go.Proofs.YtdamippibpbjhaaGreatDoor
open Go.RowKit

/-- Number t, as it is packed. -/
def Lay.raw {D : List Int} {y : Way} {l : List Int} (Y : Lay D y l) (k j i : Nat) : Nat := bitsAt D (8 * Y.bp k j + i * Y.wd k j) (Y.wd k j)
def Lay.acc {D : List Int} {y : Way} {l : List Int} (Y : Lay D y l) : Nat → Int
  | 0 => l.getD 0 0
  | t + 1 => IntKind.i64.wrap (Y.acc t + IntKind.i64.wrap (IntKind.i64.wrap (Y.raw (t / y.S) (t % y.S / y.n) (t % y.S % y.n)) + Y.least (t / y.S)))

theorem place {S M n k j i : Nat} (hS : S = M * n) (hj : j < M) (hi : i < n) : (k * S + j * n + i) / S = k ∧ (k * S + j * n + i) % S / n = j ∧ (k * S + j * n + i) % S % n = i := by
  have h1 : (j + 1) * n ≤ M * n := Nat.mul_le_mul_right _ hj
  rw [Nat.add_mul, Nat.one_mul] at h1
  have hlt : j * n + i < S := by omega
  have e1 : k * S + j * n + i = (j * n + i) + S * k := by rw [Nat.mul_comm S k]; omega
  have e2 : j * n + i = i + n * j := by rw [Nat.mul_comm n j]; omega
  rw [e1, Nat.add_mul_div_left _ _ (by omega), Nat.div_eq_of_lt hlt, Nat.add_mul_mod_self_left, Nat.mod_eq_of_lt hlt, e2, Nat.add_mul_div_left _ _ (by omega), Nat.div_eq_of_lt hi, Nat.add_mul_mod_self_left, Nat.mod_eq_of_lt hi]
  omega
/-- One more. -/
theorem Lay.acc_succ {D : List Int} {y : Way} {l : List Int} (Y : Lay D y l) (hy : y.Wf) {k j i : Nat} (hj : j < y.M) (hi : i < y.n) :
    Y.acc (k * y.S + j * y.n + i + 1) = IntKind.i64.wrap (Y.acc (k * y.S + j * y.n + i) + IntKind.i64.wrap (IntKind.i64.wrap (Y.raw k j i) + Y.least k)) := by
  obtain ⟨h1, h2, h3⟩ := place (k := k) hy.S hj hi
  rw [Lay.acc, h1, h2, h3]
theorem at_place {S M n : Nat} (hS : S = M * n) (hn : 0 < n) (hM : 0 < M) (t : Nat) : ∃ k j i, t = k * S + j * n + i ∧ j < M ∧ i < n := by
  refine ⟨t / S, t % S / n, t % S % n, ?_, ?_, Nat.mod_lt _ hn⟩
  · have h1 := Nat.div_add_mod t S
    have h2 := Nat.div_add_mod (t % S) n
    rw [Nat.mul_comm] at h1 h2
    omega
  · have hS0 : 0 < S := by rw [hS]; exact Nat.mul_pos hM hn
    have := Nat.mod_lt t hS0
    rw [Nat.div_lt_iff_lt_mul hn]
    omega

theorem wrapW_mod {W : Nat} (hW : W = 32 ∨ W = 64) (x : Int) : (wrapW W x - x) % 2 ^ W = 0 := by
  rcases hW with rfl | rfl
  · rw [show wrapW 32 x = IntKind.i32.wrap x from rfl, IntKind.wrap_i32, show (2 : Int) ^ 32 = 4294967296 by decide]; omega
  · rw [show wrapW 64 x = IntKind.i64.wrap x from rfl, IntKind.wrap_i64, show (2 : Int) ^ 64 = 18446744073709551616 by decide]; omega
theorem wrapW_eq {W : Nat} (hW : W = 32 ∨ W = 64) {x y : Int} (h : (x - y) % 2 ^ W = 0) (hy : wrapW W y = y) : wrapW W x = y := by
  rcases hW with rfl | rfl
  · rw [show wrapW 32 y = IntKind.i32.wrap y from rfl, IntKind.wrap_i32] at hy
    rw [show wrapW 32 x = IntKind.i32.wrap x from rfl, IntKind.wrap_i32]
    rw [show (2 : Int) ^ 32 = 4294967296 by decide] at h
    omega
  · rw [show wrapW 64 y = IntKind.i64.wrap y from rfl, IntKind.wrap_i64] at hy
    rw [show wrapW 64 x = IntKind.i64.wrap x from rfl, IntKind.wrap_i64]
    rw [show (2 : Int) ^ 64 = 18446744073709551616 by decide] at h
    omega
theorem Lay.acc_mod {D : List Int} {y : Way} {l : List Int} (Y : Lay D y l) (hy : y.Wf) : ∀ t, t < l.length → (Y.acc t - l.getD t 0) % 2 ^ y.W = 0
  | 0, _ => by simp [Lay.acc]
  | t + 1, h => by
    have ih := Y.acc_mod hy t (by omega)
    obtain ⟨k, j, i, rfl, hj, hi⟩ := at_place hy.S hy.n0 hy.M0 t
    rw [Y.acc_succ hy hj hi]
    have hd := Y.delta k j i h hj hi
    have hw := wrapW_mod hy.W (l.getD (k * y.S + j * y.n + i + 1) 0 - l.getD (k * y.S + j * y.n + i) 0)
    rw [show wrapW y.W (l.getD (k * y.S + j * y.n + i + 1) 0 - l.getD (k * y.S + j * y.n + i) 0) = dlt y.W l (k * y.S + j * y.n + i) from rfl] at hw
    rw [show ((bitsAt D (8 * Y.bp k j + i * Y.wd k j) (Y.wd k j) : Nat) : Int) = Y.raw k j i from rfl] at hd
    generalize (Y.raw k j i : Int) = r at *
    generalize dlt y.W l (k * y.S + j * y.n + i) = d at *
    generalize Y.least k = m at *
    generalize Y.acc (k * y.S + j * y.n + i) = a at *
    generalize l.getD (k * y.S + j * y.n + i + 1) 0 = p at *
    generalize l.getD (k * y.S + j * y.n + i) 0 = q at *
    simp only [IntKind.wrap_i64]
    rcases hy.W with e | e
    · rw [e, show (2 : Int) ^ 32 = 4294967296 by decide] at ih hd hw ⊢
      omega
    · rw [e, show (2 : Int) ^ 64 = 18446744073709551616 by decide] at ih hd hw ⊢
      omega
/-- They are the numbers. -/
theorem Lay.acc_eq {D : List Int} {y : Way} {l : List Int} (Y : Lay D y l) (hy : y.Wf) (t : Nat) (ht : t < l.length) (hl : wrapW y.W (l.getD t 0) = l.getD t 0) : wrapW y.W (Y.acc t) = l.getD t 0 :=
  wrapW_eq hy.W (Y.acc_mod hy t ht) hl
theorem Lay.acc_bounds {D : List Int} {y : Way} {l : List Int} (Y : Lay D y l) (h : -9223372036854775808 ≤ l.getD 0 0 ∧ l.getD 0 0 < 9223372036854775808) : ∀ t, -9223372036854775808 ≤ Y.acc t ∧ Y.acc t < 9223372036854775808
  | 0 => h
  | t + 1 => by rw [Lay.acc, IntKind.wrap_i64]; omega

/-- The head of it. -/
theorem Way.head_leb (y : Way) (l : List Int) (nb : Nat) (hS : y.S < 18446744073709551616) (hM : y.M < 18446744073709551616) (hl : l.length < 18446744073709551616) (h0 : -9223372036854775808 ≤ l.getD 0 0 ∧ l.getD 0 0 < 9223372036854775808) :
    ∃ n1 n2 n3 n4, Leb (y.put l nb) 0 n1 y.S ∧ Leb (y.put l nb) (n1 + 1) n2 y.M ∧ Leb (y.put l nb) (n1 + 1 + n2 + 1) n3 l.length ∧ Leb (y.put l nb) (n1 + 1 + n2 + 1 + n3 + 1) n4 (zg (l.getD 0 0)) ∧
      (y.put l 0).length = n1 + 1 + n2 + 1 + n3 + 1 + n4 + 1 := by
  have hp : ∃ post, y.put l nb = y.head l ++ post := by
    induction nb with
    | zero => exact ⟨[], by simp [Way.put]⟩
    | succ nb ih =>
      obtain ⟨post, hp⟩ := ih
      exact ⟨post ++ y.block l (nb * y.S) (min y.S (l.length - 1 - nb * y.S)), by rw [Way.put, hp]; simp⟩
  obtain ⟨post, hp⟩ := hp
  have hz := zg_nat h0
  have e := lebB_length0
  have e1 : (lebB 10 y.S).length - 1 + 1 = (lebB 10 y.S).length := by have := e y.S; omega
  have e2 : (lebB 10 y.M).length - 1 + 1 = (lebB 10 y.M).length := by have := e y.M; omega
  have e3 : (lebB 10 l.length).length - 1 + 1 = (lebB 10 l.length).length := by have := e l.length; omega
  have e4 : (lebB 10 (zg (l.getD 0 0)).toNat).length - 1 + 1 = (lebB 10 (zg (l.getD 0 0)).toNat).length := by have := e (zg (l.getD 0 0)).toNat; omega
  refine ⟨(lebB 10 y.S).length - 1, (lebB 10 y.M).length - 1, (lebB 10 l.length).length - 1, (lebB 10 (zg (l.getD 0 0)).toNat).length - 1, ?_, ?_, ?_, ?_, ?_⟩
  · have := lebB_leb [] (lebB 10 y.M ++ lebB 10 l.length ++ lebB 10 (zg (l.getD 0 0)).toNat ++ post) y.S hS
    rw [hp]
    simpa [Way.head] using this
  · have := lebB_leb (lebB 10 y.S) (lebB 10 l.length ++ lebB 10 (zg (l.getD 0 0)).toNat ++ post) y.M hM
    rw [hp, e1]
    simpa [Way.head] using this
  · have := lebB_leb (lebB 10 y.S ++ lebB 10 y.M) (lebB 10 (zg (l.getD 0 0)).toNat ++ post) l.length hl
    rw [hp, e1, Nat.add_assoc, e2]
    simpa [Way.head] using this
  · have := lebB_leb (lebB 10 y.S ++ lebB 10 y.M ++ lebB 10 l.length) post _ hz.2
    have ep : (lebB 10 y.S).length - 1 + 1 + ((lebB 10 y.M).length - 1) + 1 + ((lebB 10 l.length).length - 1) + 1 = (lebB 10 y.S ++ lebB 10 y.M ++ lebB 10 l.length).length := by simp only [List.length_append]; omega
    rw [hp, ep]
    rw [hz.1] at this
    simpa [Way.head, Nat.add_assoc] using this
  · simp only [Way.put, Way.head, List.length_append]
    omega
end Go.Proofs.YtdamippibpbjhaaGreatDoor

/-! The numbers of a part of a block, as they are added up and laid into their row. -/
namespace Go.Proofs.YtdamippibpbjhaaGreatDoor
open Go.RowKit

/-- Sums from a0 on. -/
def accR (a0 md : Int) (r : Nat → Nat) : Nat → Int
  | 0 => a0
  | j + 1 => IntKind.i64.wrap (accR a0 md r j + IntKind.i64.wrap (IntKind.i64.wrap (r j) + md))
theorem accR_bounds {a0 md : Int} {r : Nat → Nat} (h : -9223372036854775808 ≤ a0 ∧ a0 < 9223372036854775808) : ∀ j, -9223372036854775808 ≤ accR a0 md r j ∧ accR a0 md r j < 9223372036854775808
  | 0 => h
  | j + 1 => by rw [accR, IntKind.wrap_i64]; omega
theorem Lay.acc_accR {D : List Int} {y : Way} {l : List Int} (Y : Lay D y l) (hy : y.Wf) {k j : Nat} (hj : j < y.M) : ∀ i, i ≤ y.n → Y.acc (k * y.S + j * y.n + i) = accR (Y.acc (k * y.S + j * y.n)) (Y.least k) (Y.raw k j) i
  | 0, _ => rfl
  | i + 1, h => by
    rw [← Nat.add_assoc, Y.acc_succ hy hj (by omega), accR, Y.acc_accR hy hj i (by omega)]

/-- The block of unpacked numbers lies apart. -/
def FarOf (E : Env) (db mb dd x : Nat) : Prop := x ≠ E.b ∧ x ≠ E.rb ∧ x ≠ E.g ∧ x ≠ 2 ∧ x ≠ db ∧ x ≠ mb ∧ x ≠ dd
/-- The unpacked numbers' slice: none yet, or all of block x. -/
def MvIn (E : Env) (et : TypeId) (db mb dd vpm : Nat) (mv : Value) (w : World) : Prop :=
  mv = .slice none 0 0 ∨ ∃ x cs, mv = .slice (some ⟨x, 0, none⟩) vpm vpm ∧ w.heap[x]? = some (.cells cs et (0, 0)) ∧ cs.size = vpm ∧ FarOf E db mb dd x

def MOwn (v : Value) (b : Nat) : Prop := ∃ n c, v = .slice (some ⟨b, 0, none⟩) n c
/-- The numbers as they are packed: none yet, or all of a block. -/
def DbIn (E : Env) (db mb dd n : Nat) (dbv : Value) (w : World) : Prop :=
  dbv = .slice none 0 0 ∨ ∃ ob cs, dbv = .slice (some ⟨ob, 0, none⟩) n n ∧ w.heap[ob]? = some (.cells cs 45 (0, 0)) ∧ cs.size = n ∧ FarOf E db mb dd ob
theorem MvIn.keep {E : Env} {et : TypeId} {db mb dd n : Nat} {mv : Value} {S : Nat → Prop} {w w' : World} (h : MvIn E et db mb dd n mv w) (hk : Keep S w w') (hs : ∀ b, MOwn mv b → ¬ S b) : MvIn E et db mb dd n mv w' := by
  rcases h with h | ⟨x, cs, rfl, h1, h2⟩
  · exact .inl h
  · exact .inr ⟨x, cs, rfl, hk.blk h1 (hs x ⟨_, _, rfl⟩), h2⟩
theorem DbIn.keep {E : Env} {db mb dd n : Nat} {dbv : Value} {S : Nat → Prop} {w w' : World} (h : DbIn E db mb dd n dbv w) (hk : Keep S w w') (hs : ∀ b, MOwn dbv b → ¬ S b) : DbIn E db mb dd n dbv w' := by
  rcases h with h | ⟨x, cs, rfl, h1, h2⟩
  · exact .inl h
  · exact .inr ⟨x, cs, rfl, hk.blk h1 (hs x ⟨_, _, rfl⟩), h2⟩

theorem DbIn.apart {E : Env} {db mb dd n : Nat} {dbv : Value} {w : World} (h : DbIn E db mb dd n dbv w) {x : Nat} {cs : Array Value} {et : TypeId} {fr : Nat × Nat} (hx : w.heap[x]? = some (.cells cs et fr)) (het : et ≠ 45) : ∀ b, MOwn dbv b → ¬ (b = db ∨ b = x) := by
  rintro b ⟨n', c, hb⟩ hbb
  rcases h with h | ⟨ob, cs', h, h1, _, h2⟩
  · rw [h] at hb; cases hb
  · rw [h] at hb
    cases hb
    rcases hbb with rfl | rfl
    · exact h2.2.2.2.2.1 rfl
    · exact blk_ne h1 hx (fun e => het e.symm) rfl

/-- The sums up to number i are had, so many of them are in the row, of which the slice tells some. -/
structure Mini (E : Env) (T et : TypeId) (enc : Int → Value) (db mb m dd p x n : Nat) (d : DV) (mc : Array Value) (pos : Nat) (f : Nat → Int) (w0 : World) (i j r : Nat) (wr : World) : Prop where
  sd : SD E T db mb { d with lv := f i, mv := .slice (some ⟨x, 0, none⟩) j n } mc true pos wr
  wb : WBs E db mb m mc dd p m wr
  row : ∃ cs, wr.heap[x]? = some (.cells cs et (0, 0)) ∧ cs.size = n ∧ ∀ c, c < r → cs[c]? = some (enc (f (c + 1)))
  keep : Keep (fun b => b = db ∨ b = x) w0 wr

section
variable {E : Env} {T et : TypeId} {enc : Int → Value} {db mb m dd p x n : Nat} {d : DV} {mc : Array Value} {pos : Nat} {f : Nat → Int} {w0 : World} {i j r : Nat} {wr : World}
theorem Mini.same {w' : World} (h : Mini E T et enc db mb m dd p x n d mc pos f w0 i j r wr) (hk : Keep (fun _ => False) wr w') : Mini E T et enc db mb m dd p x n d mc pos f w0 i j r w' := by
  obtain ⟨cs, h1, h2, h3⟩ := h.row
  exact ⟨⟨h.sd.src.keep hk (fun h => h) (fun h => h) (fun h => h), h.sd.pos.keep hk (fun h => h), hk.blk h.sd.dec (fun h => h), hk.blk h.sd.buf (fun h => h)⟩, h.wb.keep hk (fun h => h), ⟨cs, hk.blk h1 (fun h => h), h2, h3⟩, h.keep.step hk (fun _ h => h.elim)⟩
theorem Mini.drewN (h : Mini E T et enc db mb m dd p x n d mc pos f w0 i j r wr) (k : Nat) : Mini E T et enc db mb m dd p x n d mc pos f w0 i j r (wr.drewN k) := h.same ((Keep.refl _ wr).drewN k)
theorem Mini.drew (h : Mini E T et enc db mb m dd p x n d mc pos f w0 i j r wr) : Mini E T et enc db mb m dd p x n d mc pos f w0 i j r wr.drew := h.drewN 1
theorem Mini.alloc (h : Mini E T et enc db mb m dd p x n d mc pos f w0 i j r wr) (o : Obj) : Mini E T et enc db mb m dd p x n d mc pos f w0 i j r (wr.alloc o) := h.same ((Keep.refl _ wr).alloc o)
theorem Mini.lv (hA : Apart E db mb) (hfar : FarOf E db mb dd x) (h : Mini E T et enc db mb m dd p x n d mc pos f w0 i j r wr) (i' : Nat) (u : Int) (hu : u = f i') : Mini E T et enc db mb m dd p x n d mc pos f w0 i' j r (wr.setCell ⟨db, 16, none⟩ (.int .i64 u)) := by
  subst hu
  have hk : Keep (fun b => b = db) wr (wr.setCell ⟨db, 16, none⟩ (.int .i64 (f i'))) := (Keep.refl (fun b => b = db) wr).setCell (p := ⟨db, 16, none⟩) (.inl rfl) _
  obtain ⟨cs, h1, h2, h3⟩ := h.row
  exact ⟨h.sd.set hA 16 _ rfl, h.wb.keep hk h.wb.2.2.2.2.2.2.1, ⟨cs, hk.blk h1 hfar.2.2.2.2.1, h2, h3⟩, h.keep.step hk (fun b hb => .inl (.inl hb))⟩
theorem Mini.mv (hA : Apart E db mb) (hfar : FarOf E db mb dd x) (h : Mini E T et enc db mb m dd p x n d mc pos f w0 i j r wr) (j' : Nat) : Mini E T et enc db mb m dd p x n d mc pos f w0 i j' r (wr.setCell ⟨db, 17, none⟩ (.slice (some ⟨x, 0, none⟩) j' n)) := by
  have hk : Keep (fun b => b = db) wr (wr.setCell ⟨db, 17, none⟩ (.slice (some ⟨x, 0, none⟩) j' n)) := (Keep.refl (fun b => b = db) wr).setCell (p := ⟨db, 17, none⟩) (.inl rfl) _
  obtain ⟨cs, h1, h2, h3⟩ := h.row
  exact ⟨h.sd.set hA 17 _ rfl, h.wb.keep hk h.wb.2.2.2.2.2.2.1, ⟨cs, hk.blk h1 hfar.2.2.2.2.1, h2, h3⟩, h.keep.step hk (fun b hb => .inl (.inl hb))⟩
theorem Mini.dbv (hA : Apart E db mb) (hfar : FarOf E db mb dd x) (h : Mini E T et enc db mb m dd p x n d mc pos f w0 i j r wr) (v : Value) : Mini E T et enc db mb m dd p x n { d with db := v } mc pos f w0 i j r (wr.setCell ⟨db, 18, none⟩ v) := by
  have hk : Keep (fun b => b = db) wr (wr.setCell ⟨db, 18, none⟩ v) := (Keep.refl (fun b => b = db) wr).setCell (p := ⟨db, 18, none⟩) (.inl rfl) _
  obtain ⟨cs, h1, h2, h3⟩ := h.row
  exact ⟨h.sd.set hA 18 _ rfl, h.wb.keep hk h.wb.2.2.2.2.2.2.1, ⟨cs, hk.blk h1 hfar.2.2.2.2.1, h2, h3⟩, h.keep.step hk (fun b hb => .inl (.inl hb))⟩
theorem Mini.put (hfar : FarOf E db mb dd x) (h : Mini E T et enc db mb m dd p x n d mc pos f w0 i j r wr) (hr : r < n) (v : Value) (hv : v = enc (f (r + 1))) : Mini E T et enc db mb m dd p x n d mc pos f w0 i j (r + 1) (wr.setCell ⟨x, r, none⟩ v) := by
  subst hv
  have hk : Keep (fun b => b = x) wr (wr.setCell ⟨x, r, none⟩ (enc (f (r + 1)))) := (Keep.refl (fun b => b = x) wr).setCell (p := ⟨x, r, none⟩) (.inl rfl) _
  obtain ⟨cs, h1, h2, h3⟩ := h.row
  obtain ⟨n1, n2, n3, n4, n5, n6, n7⟩ := hfar
  refine ⟨h.sd.far ⟨n1, n2, n3, n4, n5, n6⟩ hk, h.wb.keep hk (fun e => n7 e.symm), ⟨_, blk_set h1 r _, by simp [h2], fun c hc => ?_⟩, h.keep.step hk (fun b hb => .inl (.inr hb))⟩
  by_cases e : c = r
  · subst e
    rw [Array.getElem?_setIfInBounds_self_of_lt (by omega)]
  · rw [Array.getElem?_setIfInBounds_ne (by omega)]
    exact h3 c (by omega)
end

/-- A batch of numbers, and the place behind it. -/
theorem SD.batch {E : Env} {T : TypeId} {db mb : Nat} {d : DV} {mc : Array Value} {pos : Nat} {w : World} (hW : E.Wf) (hA : Apart E db mb) (h : SD E T db mb d mc true pos w) (n bits ob c : Nat) (cs : Array Value) (hn : 0 < n ∧ n % 32 = 0 ∧ n ≤ 1024) (hb : 1 ≤ bits ∧ bits ≤ 64)
    (hob : w.heap[ob]? = some (.cells cs 45 (0, 0))) (hsz : n ≤ cs.size) (o1 : ob ≠ E.b) (o2 : ob ≠ E.rb) (o3 : ob ≠ E.g) (o4 : ob ≠ 2) (o5 : ob ≠ db) (o6 : ob ≠ mb) (hlen : pos + n * bits / 8 ≤ E.D.length) :
    Calls Tryz.prog 132 #[.pointer (some ⟨E.b, 0, none⟩), .int .u64 bits, .slice (some ⟨ob, 0, none⟩) n c] w fun e w' => e = .returned (.tuple #[.int .i64 n, .nilIface]) ∧ Keep (fun k => k = E.b ∨ k = E.rb ∨ k = ob) w w' ∧
      SD E T db mb d mc true (pos + n * bits / 8) w' ∧ ∃ cs', w'.heap[ob]? = some (.cells cs' 45 (0, 0)) ∧ cs'.size = cs.size ∧ ∀ j, j < n → cs'[j]? = some (.int .u64 (bitsAt E.D (8 * pos + j * bits) bits : Nat)) := by
  obtain ⟨off, bo, buf, vb, h1, h2, h3, h4⟩ := h.pos
  obtain ⟨hbl, hp⟩ := h4 rfl
  have h8 : n * bits % 8 = 0 := by
    have : n % 8 = 0 := by omega
    rw [Nat.mul_mod, this]; simp
  refine (getBatch_any E w hW h.src off bo n bits hn.1 hn.2.1 hn.2.2 hb.1 hb.2 h2 hbl (by omega) ob 0 c cs 45 hob (by omega) o1 o2 o3 o4).mono ?_
  rintro e w' ⟨he, hk, hs, ⟨off', bo', hbl', hp', hbo'⟩, cs', hcs', hz, _, hin⟩
  refine ⟨he, hk, ⟨hs, ⟨off', bo', _, _, hbl', hbo', by omega, fun _ => ⟨hbl', by omega⟩⟩, hk.blk h.dec ?_, hk.blk h.buf ?_⟩, cs', hcs', hz, fun j hj => ?_⟩
  · rintro (e | e | e)
    · exact hA.db_b e
    · exact hA.db_rb e
    · exact o5 e.symm
  · rintro (e | e | e)
    · exact hA.mb_b e
    · exact hA.mb_rb e
    · exact o6 e.symm
  · have := hin j hj
    rw [Nat.zero_add, hp] at this
    exact this

/-- One number appended where there is room. -/
theorem wpList_append_room {P : Program} {w : World} {ops : Array Oper} {rest : List Oper} {o : Oper} {a : Act} {Q : Exit → Act → World → Prop} (hgd : o.guard = none) (s x : Operand) (t : TypeId)
    (ho : o.op = .call { callee := .builtin .append, args := #[s, x], argTypes := #[t, t] }) (e : TypeId) (ht : P.underlying t = some (.slice e)) (hi : (P.info? e).map (fun i => i.size) = some 1)
    (g n cap : Nat) (hs : a.eval s = .slice (some ⟨g, 0, none⟩) n cap) (ad : Nat) (c : Nat) (v : Value) (hx : a.eval x = .slice (some ⟨ad, 0, none⟩) 1 c) (hnew : w.cell? ⟨ad, 0, none⟩ = some v) (h1 : v.oneCell' = true)
    (hroom : n + 1 ≤ cap) (hc : (w.cell? ⟨g, n, none⟩).isSome = true) (hf : w.frozen? ⟨g, n, none⟩ = false)
    (h : wpList P ops Q rest (a.put o.dst (.slice (some ⟨g, 0, none⟩) (n + 1) cap)) (w.setCell ⟨g, n, none⟩ v)) : wpList P ops Q (o :: rest) a w := by
  refine wpList_plain hgd fun K hK' => ?_
  obtain ⟨i, hi, hsz⟩ := Option.map_eq_some_iff.1 hi
  have hrun := run_append_room_cells (P := P) w t o.type e i ht hi g 0 n cap ⟨ad, 0, none⟩ 1 c [v] (by simp [hsz]) (fun j u hj => by
      cases j with
      | zero => simp at hj; subst hj; simpa [Addr.add] using hnew
      | succ j => simp at hj) (by simpa using h1) hroom (fun j hj => by
      have : j = 0 := by simpa using hj
      subst this
      simp [hsz, hc]) (fun j hj => by
      have : j = 0 := by simpa using hj
      subst this
      simpa [hsz] using hf)
  simp only [hsz, Nat.mul_one, Nat.zero_add, World.setCells] at hrun
  unfold Oper.wp
  simp [execOp, ho, resolve, invoke, builtin, hs, hx, hrun, Result.andThen]
  exact hK' _ _ h
end Go.Proofs.YtdamippibpbjhaaGreatDoor

import Derived.Test.YtdamippibpbjhaaGreatDoorProg
import Derived.WalkKit
import Derived.Test.YtdamippibpbjhaaGreatDoorYa01
import Derived.Test.YtdamippibpbjhaaGreatDoorYa02
/-! The operations of the functions that unpack 32 numbers, each run once. -/
namespace Go.Proofs.YtdamippibpbjhaaGreatDoor
open Go.RowKit
variable (ρ : Operand → Value) (d : Option Tmp) (ty : TypeId) (pos : String) (aft : Array Edge) (g : Option (Nat × Bool)) (w : World)
theorem bits_or_u32 (m n : Nat) (hm : m < 2 ^ 32) (hn : n < 2 ^ 32) : bits .or .u32 (m : Int) n = ((m ||| n : Nat) : Int) := (bits_nat .u32 32 (by decide) (fun n h0 h1 => by rw [IntKind.wrap_u32]; omega) m n hm hn).2
theorem bits_and_u32 (m n : Nat) (hm : m < 2 ^ 32) (hn : n < 2 ^ 32) : bits .and .u32 (m : Int) n = ((m &&& n : Nat) : Int) := (bits_nat .u32 32 (by decide) (fun n h0 h1 => by rw [IntKind.wrap_u32]; omega) m n hm hn).1
theorem ux_shr (x y : Operand) (yt : TypeId) (k : IntKind) (m n : Nat) (hx : ρ x = .int .u32 m) (hy : ρ y = .int k n) (hn : n < 32) :
    (execOp ρ ⟨d, .binOp .shr 183 x y yt, ty, pos, aft, g⟩).run Tryz.prog w = .ok (.value (.int .u32 ((m / 2 ^ n : Nat) : Int))) w := by
  simp [go_sem, hx, hy]
theorem ux_rem (x y : Operand) (m n : Nat) (hx : ρ x = .int .u32 m) (hy : ρ y = .int .u32 n) (hn : n ≠ 0) :
    (execOp ρ ⟨d, .binOp .rem 183 x y 183, ty, pos, aft, g⟩).run Tryz.prog w = .ok (.value (.int .u32 ((m % n : Nat) : Int))) w := by
  simp [go_sem, hx, hy, hn, Int.tmod_eq_emod_of_nonneg]
theorem ux_or (x y : Operand) (m n : Nat) (hx : ρ x = .int .u32 m) (hy : ρ y = .int .u32 n) (hm : m < 2 ^ 32) (hn : n < 2 ^ 32) :
    (execOp ρ ⟨d, .binOp .or 183 x y 183, ty, pos, aft, g⟩).run Tryz.prog w = .ok (.value (.int .u32 ((m ||| n : Nat) : Int))) w := by
  simp [go_sem, hx, hy, bits_or_u32 m n hm hn]
theorem ux_and (x y : Operand) (m n : Nat) (hx : ρ x = .int .u32 m) (hy : ρ y = .int .u32 n) (hm : m < 2 ^ 32) (hn : n < 2 ^ 32) :
    (execOp ρ ⟨d, .binOp .and 183 x y 183, ty, pos, aft, g⟩).run Tryz.prog w = .ok (.value (.int .u32 ((m &&& n : Nat) : Int))) w := by
  simp [go_sem, hx, hy, bits_and_u32 m n hm hn]
theorem ux_shl (x y : Operand) (m n : Nat) (hx : ρ x = .int .u32 m) (hy : ρ y = .int .u64 n) (hn : n < 32) :
    (execOp ρ ⟨d, .binOp .shl 183 x y 167, ty, pos, aft, g⟩).run Tryz.prog w = .ok (.value (.int .u32 ((m * 2 ^ n % 4294967296 : Nat) : Int))) w := by
  simp [go_sem, hx, hy, IntKind.wrap_u32]
theorem ux_lss (x y : Operand) (m n : Nat) (hx : ρ x = .int .i64 m) (hy : ρ y = .int .i64 n) :
    (execOp ρ ⟨d, .binOp .lss 3 x y 3, ty, pos, aft, g⟩).run Tryz.prog w = .ok (.value (.bool (decide (m < n)))) w := by
  simp [go_sem, hx, hy]
theorem ux_add (x y : Operand) (m n : Nat) (hx : ρ x = .int .i64 m) (hy : ρ y = .int .i64 n) (hn : m + n < 9223372036854775808) :
    (execOp ρ ⟨d, .binOp .add 3 x y 3, ty, pos, aft, g⟩).run Tryz.prog w = .ok (.value (.int .i64 ((m + n : Nat) : Int))) w := by
  simp [go_sem, hx, hy]
  rw [IntKind.wrap_i64]; omega
theorem ux_mul (x y : Operand) (m n : Nat) (hx : ρ x = .int .i64 m) (hy : ρ y = .int .i64 n) (hn : m * n < 9223372036854775808) :
    (execOp ρ ⟨d, .binOp .mul 3 x y 3, ty, pos, aft, g⟩).run Tryz.prog w = .ok (.value (.int .i64 ((m * n : Nat) : Int))) w := by
  simp [go_sem, hx, hy]
  rw [IntKind.wrap_i64]; rw [← Int.natCast_mul]; omega
theorem ux_quo (x y : Operand) (m n : Nat) (hx : ρ x = .int .i64 m) (hy : ρ y = .int .i64 n) (hn : n ≠ 0) (hm : m < 9223372036854775808) :
    (execOp ρ ⟨d, .binOp .quo 3 x y 3, ty, pos, aft, g⟩).run Tryz.prog w = .ok (.value (.int .i64 ((m / n : Nat) : Int))) w := by
  simp [go_sem, hx, hy, hn]
  have h1 : ((m : Int) / n) = ((m / n : Nat) : Int) := by simp
  have h2 : m / n ≤ m := Nat.div_le_self m n
  rw [h1, IntKind.wrap_i64]
  generalize m / n = q at *
  omega
theorem ux_len (x : Operand) (a : Option Addr) (len cap : Nat) (hx : ρ x = .slice a len cap) :
    (execOp ρ ⟨d, .call { callee := .builtin .len, args := #[x], argTypes := #[293] }, ty, pos, aft, g⟩).run Tryz.prog w = .ok (.value (.int .i64 len)) w := by
  simp [go_sem, hx]
theorem ux_call (x y : Operand) (tys : Array TypeId) (hf : ρ (.func 222) = .func (.func 222) #[] #[]) : (execOp ρ ⟨d, .call { callee := .value (.func 222), args := #[x, y], argTypes := tys }, ty, pos, aft, g⟩).run Tryz.prog w = .ok (.enter 222 (#[ρ x, ρ y])) w := by
  simp [go_sem, hf]
theorem ux_slice32 (x : Operand) (b o len cap : Nat) (hx : ρ x = .slice (some ⟨b, o, none⟩) len cap) (hk : 32 ≤ cap) (hc : cap ≤ 9223372036854775807) (h32 : ρ (.const (.int .i64 32)) = .int .i64 32) :
    (execOp ρ ⟨d, .slice 293 x none (some (.const (.int .i64 32))) none, ty, pos, aft, g⟩).run Tryz.prog w = .ok (.value (.slice (some ⟨b, o, none⟩) 32 cap)) w := by
  simp [go_sem, hx, h32]
  intro h; omega
theorem ux_move (x : Operand) : (execOp ρ ⟨d, .move x, ty, pos, aft, g⟩).run Tryz.prog w = .ok (.value (ρ x)) w := by simp [go_sem]
theorem ux_assign (x : Operand) : (execOp ρ ⟨d, .assign x, ty, pos, aft, g⟩).run Tryz.prog w = .ok (.value (ρ x)) w := by simp [go_sem]
theorem ux_load (x : Operand) (a : Addr) (v : Value) (h : ρ x = .pointer (some a)) (hc : w.cell? a = some v) : (execOp ρ ⟨d, .load 183 x, ty, pos, aft, g⟩).run Tryz.prog w = .ok (.value v) w := by simp [go_sem, h, hc]
theorem ux_index (x y : Operand) (b o len cap : Nat) (k : Nat) (hx : ρ x = .slice (some ⟨b, o, none⟩) len cap) (hy : ρ y = .int .i64 k) (hk : k < len) :
    (execOp ρ ⟨d, .indexAddr 293 x y, ty, pos, aft, g⟩).run Tryz.prog w = .ok (.value (.pointer (some ⟨b, o + k, none⟩))) w := by
  simp [go_sem, hx, hy, hk]
theorem ux_store (x y : Operand) (a : Addr) (k : IntKind) (v : Int) (v0 : Value) (hx : ρ x = .pointer (some a)) (hy : ρ y = .int k v) (hc : w.cell? a = some v0) (hf : w.frozen? a = false) :
    (execOp ρ ⟨d, .store 183 x y, ty, pos, aft, g⟩).run Tryz.prog w = .ok .skip (w.setCell a (.int k v)) := by
  simp [go_sem, hx, hy, hc, hf]
theorem ux_alloc : (execOp ρ ⟨d, .alloc 183, ty, pos, aft, g⟩).run Tryz.prog w = .ok (.value (.pointer (some ⟨w.heap.size, 0, none⟩))) (w.alloc (.cells #[.int .u32 0] 183)) := by
  simp [go_sem]
end Go.Proofs.YtdamippibpbjhaaGreatDoor

/-! A run of the functions that unpack 32 numbers, over bits that are named by their places in the stream. -/
namespace Go.Proofs.YtdamippibpbjhaaGreatDoor
open Go.RowKit

abbrev Bits := List (Option Nat)
/-- The number of bits that stand at places of a stream (no place: 0). -/
def bval (D : List Int) : Bits → Nat
  | [] => 0
  | none :: l => 2 * bval D l
  | some i :: l => num D / 2 ^ i % 2 + 2 * bval D l
theorem bval_lt (D : List Int) : ∀ l : Bits, bval D l < 2 ^ l.length
  | [] => by simp [bval]
  | none :: l => by have := bval_lt D l; simp only [bval, List.length_cons, Nat.pow_succ]; omega
  | some i :: l => by have := bval_lt D l; simp only [bval, List.length_cons, Nat.pow_succ]; omega
theorem bval_drop (D : List Int) : ∀ (l : Bits) (k : Nat), bval D l / 2 ^ k = bval D (l.drop k)
  | l, 0 => by simp
  | [], k + 1 => by simp [bval]
  | none :: l, k + 1 => by
    rw [List.drop_succ_cons, ← bval_drop D l k, Nat.pow_succ, Nat.mul_comm, ← Nat.div_div_eq_div_mul]
    congr 1
    simp only [bval]; omega
  | some i :: l, k + 1 => by
    rw [List.drop_succ_cons, ← bval_drop D l k, Nat.pow_succ, Nat.mul_comm, ← Nat.div_div_eq_div_mul]
    congr 1
    simp only [bval]; omega
theorem bval_take (D : List Int) : ∀ (l : Bits) (k : Nat), bval D l % 2 ^ k = bval D (l.take k)
  | l, 0 => by simp [bval, Nat.mod_one]
  | [], k + 1 => by simp [bval]
  | none :: l, k + 1 => by
    rw [List.take_succ_cons]
    simp only [bval]
    rw [← bval_take D l k, Nat.pow_succ, Nat.mul_comm (2 ^ k), Nat.mul_mod_mul_left]
  | some i :: l, k + 1 => by
    rw [List.take_succ_cons]
    simp only [bval]
    rw [← bval_take D l k, Nat.pow_succ, Nat.mul_comm (2 ^ k), Nat.mod_mul]
    have h : num D / 2 ^ i % 2 < 2 := Nat.mod_lt _ (by decide)
    generalize num D / 2 ^ i % 2 = x at *
    rw [show (x + 2 * bval D l) / 2 = bval D l by omega, show (x + 2 * bval D l) % 2 = x by omega]
theorem bval_shl (D : List Int) (l : Bits) : ∀ k : Nat, bval D (List.replicate k none ++ l) = bval D l * 2 ^ k
  | 0 => by simp
  | k + 1 => by
    rw [List.replicate_succ, List.cons_append]
    simp only [bval]
    rw [bval_shl D l k, Nat.pow_succ, Nat.mul_comm (2 ^ k) 2, Nat.mul_left_comm]
/-- Bits laid over each other: at each place one of the two has none. -/
def bor : Bits → Bits → Option Bits
  | [], m => some m
  | l, [] => some l
  | none :: l, x :: m => (bor l m).map (x :: ·)
  | x :: l, none :: m => (bor l m).map (x :: ·)
  | some _ :: _, some _ :: _ => none
theorem or_double (a b x y : Nat) (hx : x < 2) (hy : y < 2) (h : x = 0 ∨ y = 0) : (x + 2 * a) ||| (y + 2 * b) = (x + y) + 2 * (a ||| b) := by
  apply Nat.eq_of_testBit_eq
  intro i
  cases i with
  | zero =>
    rw [Nat.testBit_or]
    simp only [Nat.testBit_zero]
    rcases h with rfl | rfl
    · rw [show (0 + 2 * a) % 2 = 0 by omega, show (y + 2 * b) % 2 = y by omega, show (0 + y + 2 * (a ||| b)) % 2 = y by omega]; simp
    · rw [show (x + 2 * a) % 2 = x by omega, show (0 + 2 * b) % 2 = 0 by omega, show (x + 0 + 2 * (a ||| b)) % 2 = x by omega]; simp
  | succ i =>
    rw [Nat.testBit_or, Nat.testBit_succ, Nat.testBit_succ, Nat.testBit_succ, show (x + 2 * a) / 2 = a by omega, show (y + 2 * b) / 2 = b by omega, show (x + y + 2 * (a ||| b)) / 2 = a ||| b by omega, Nat.testBit_or]
theorem bval_or (D : List Int) : ∀ (l m r : Bits), bor l m = some r → bval D l ||| bval D m = bval D r
  | [], m, r, h => by simp [bor] at h; subst h; simp [bval]
  | x :: l, [], r, h => by
    have : r = x :: l := by cases x <;> simp [bor] at h <;> exact h.symm
    subst this; simp [bval]
  | none :: l, none :: m, r, h => by
    simp only [bor, Option.map_eq_some_iff] at h
    obtain ⟨r', h1, rfl⟩ := h
    have := or_double (bval D l) (bval D m) 0 0 (by decide) (by decide) (.inl rfl)
    simp only [Nat.zero_add] at this
    simp only [bval]
    rw [this, bval_or D l m r' h1]
  | none :: l, some j :: m, r, h => by
    simp only [bor, Option.map_eq_some_iff] at h
    obtain ⟨r', h1, rfl⟩ := h
    have := or_double (bval D l) (bval D m) 0 (num D / 2 ^ j % 2) (by decide) (Nat.mod_lt _ (by decide)) (.inl rfl)
    simp only [Nat.zero_add] at this
    simp only [bval]
    rw [this, bval_or D l m r' h1]
  | some j :: l, none :: m, r, h => by
    simp only [bor, Option.map_eq_some_iff] at h
    obtain ⟨r', h1, rfl⟩ := h
    have := or_double (bval D l) (bval D m) (num D / 2 ^ j % 2) 0 (Nat.mod_lt _ (by decide)) (by decide) (.inr rfl)
    simp only [Nat.zero_add, Nat.add_zero] at this
    simp only [bval]
    rw [this, bval_or D l m r' h1]
  | some _ :: _, some _ :: _, r, h => by simp [bor] at h
theorem bor_length : ∀ (l m r : Bits), bor l m = some r → r.length ≤ max l.length m.length
  | [], m, r, h => by simp [bor] at h; subst h; simp
  | x :: l, [], r, h => by
    have : r = x :: l := by cases x <;> simp [bor] at h <;> exact h.symm
    subst this; simp
  | none :: l, x :: m, r, h => by
    simp only [bor, Option.map_eq_some_iff] at h
    obtain ⟨r', h1, rfl⟩ := h
    have := bor_length l m r' h1
    simp; omega
  | some j :: l, none :: m, r, h => by
    simp only [bor, Option.map_eq_some_iff] at h
    obtain ⟨r', h1, rfl⟩ := h
    have := bor_length l m r' h1
    simp; omega
  | some _ :: _, some _ :: _, r, h => by simp [bor] at h
/-- n bits of the stream from place p on. -/
def run (p n : Nat) : Bits := (List.range' p n).map some
theorem bval_run (D : List Int) : ∀ n p, bval D (run p n) = bitsAt D p n
  | 0, p => by simp [run, bval, bitsAt, Nat.mod_one]
  | n + 1, p => by
    have h := bval_run D n (p + 1)
    have e := bitsAt_add D p 1 n
    rw [show n + 1 = 1 + n by omega, e, ← h]
    simp only [run, show 1 + n = n + 1 by omega, List.range'_succ, List.map_cons, bval]
    simp [bitsAt]
end Go.Proofs.YtdamippibpbjhaaGreatDoor

/-! The run, and that the model's run follows it. -/
namespace Go.Proofs.YtdamippibpbjhaaGreatDoor
open Go.RowKit

inductive UV where
  | undef | unit | inp | out | out32 | cellp
  | outp (k : Nat)
  | lit (k : IntKind) (n : Nat)
  | bits (l : Bits)
  | bool (b : Bool)
structure UP where
  N : Nat
  rb : Nat
  pk : Nat
  cp : Nat
  D : List Int
  ob : Nat
  oo : Nat
  len : Nat
  cap : Nat
  ot : TypeId
  cs0 : Array Value
  w0 : World
structure UP.Wf (p : UP) : Prop where
  obrb : p.ob ≠ p.rb
  pkob : p.pk ≠ p.ob
  pkrb : p.pk ≠ p.rb
  obw : p.ob < p.w0.heap.size
  rbw : p.rb < p.w0.heap.size
  pkw : p.pk < p.w0.heap.size
  byte : Bytes p.D
  dlen : p.D.length = 4 * p.N
  dcap : p.D.length ≤ p.cp
  dmax : p.D.length ≤ 128
  len32 : 32 ≤ p.len
  lencap : p.len ≤ p.cap
  capm : p.cap ≤ 9223372036854775807
  oosz : p.oo + 32 ≤ p.cs0.size
def UV.den (p : UP) : UV → Value
  | .undef => Go.undef
  | .unit => .tuple #[]
  | .inp => .iface 208 (.pointer (some ⟨p.rb, 0, none⟩))
  | .out => .slice (some ⟨p.ob, p.oo, none⟩) p.len p.cap
  | .out32 => .slice (some ⟨p.ob, p.oo, none⟩) 32 p.cap
  | .cellp => .pointer (some ⟨p.w0.heap.size, 0, none⟩)
  | .outp k => .pointer (some ⟨p.ob, p.oo + k, none⟩)
  | .lit k n => .int k (n : Int)
  | .bits l => .int .u32 (bval p.D l : Nat)
  | .bool b => .bool b
structure US where
  tmps : List UV
  outs : List (Option Bits)
  inl : Option Bits
  fresh : Bool
  nr : Nat
def US.act (p : UP) (st : US) : Act := ⟨(st.tmps.map (UV.den p)).toArray, []⟩
def US.put (st : US) (d : Option Tmp) (v : UV) : US := match d with
  | some d => { st with tmps := st.tmps.set d v }
  | none => st
structure UR (p : UP) (st : US) (w : World) : Prop where
  keep : Keep (fun k => k = p.ob ∨ k = p.rb) p.w0 w
  outs : ∃ cs, w.heap[p.ob]? = some (.cells cs p.ot (0, 0)) ∧ cs.size = p.cs0.size ∧ (∀ j, j < p.oo ∨ p.oo + 32 ≤ j → cs[j]? = p.cs0[j]?) ∧
    (∀ k, k < 32 → ∃ x : Int, 0 ≤ x ∧ x < 4294967296 ∧ cs[p.oo + k]? = some (.int .u32 x)) ∧ (∀ k l, st.outs[k]? = some (some l) → k < 32 ∧ cs[p.oo + k]? = some (.int .u32 (bval p.D l : Nat)))
  rd : ∃ q : Int, w.heap[p.rb]? = some (.cells #[.slice (some ⟨p.pk, 0, none⟩) p.D.length p.cp, .int .i64 (4 * st.nr : Nat), .int .i64 q] 101 (0, 0))
  row : Row w .u8 p.pk 0 p.D
  cell : ∀ l, st.inl = some l → w.heap[p.w0.heap.size]? = some (.cells #[.int .u32 (bval p.D l : Nat)] 183 (0, 0))
  fresh : st.fresh = true → w.heap.size = p.w0.heap.size

def ueval (st : US) : Operand → Option UV
  | .tmp t => st.tmps[t]?
  | .const (.int k n) => if 0 ≤ n then some (.lit k n.toNat) else none
  | _ => none
theorem ueval_den {p : UP} {st : US} {x : Operand} {v : UV} (h : ueval st x = some v) : (st.act p).eval x = v.den p := by
  unfold ueval at h
  split at h
  · rename_i t
    simp [Act.eval, US.act, h]
  · rename_i k n
    split at h
    · cases h
      rename_i h0
      simp only [Act.eval, UV.den]
      rw [Int.toNat_of_nonneg h0]
    · cases h
  · cases h
/-- What an operation that only computes or reads yields. -/
def uval (st : US) : Op → Option UV
  | .move x | .assign x => ueval st x
  | .load 183 x => match ueval st x with
    | some .cellp => st.inl.map .bits
    | some (.outp k) => match st.outs[k]? with
      | some (some l) => some (.bits l)
      | _ => none
    | _ => none
  | .binOp .shr 183 x y _ => match ueval st x, ueval st y with
    | some (.bits l), some (.lit _ n) => if n < 32 then some (.bits (l.drop n)) else none
    | _, _ => none
  | .binOp .rem 183 x y 183 => match ueval st x, ueval st y with
    | some (.bits l), some (.lit .u32 n) => if n = 2 ^ n.log2 then some (.bits (l.take n.log2)) else none
    | _, _ => none
  | .binOp .and 183 x y 183 => match ueval st x, ueval st y with
    | some (.bits l), some (.lit .u32 1) => if l.length ≤ 32 then some (.bits (l.take 1)) else none
    | _, _ => none
  | .binOp .or 183 x y 183 => match ueval st x, ueval st y with
    | some (.bits l), some (.bits m) => if l.length ≤ 32 ∧ m.length ≤ 32 then (bor l m).map .bits else none
    | _, _ => none
  | .binOp .shl 183 x y 167 => match ueval st x, ueval st y with
    | some (.bits l), some (.lit .u64 n) => if n < 32 then some (.bits ((List.replicate n none ++ l).take 32)) else none
    | _, _ => none
  | .binOp .lss 3 x y 3 => match ueval st x, ueval st y with
    | some (.lit .i64 a), some (.lit .i64 b) => some (.bool (decide (a < b)))
    | _, _ => none
  | .binOp .add 3 x y 3 => match ueval st x, ueval st y with
    | some (.lit .i64 a), some (.lit .i64 b) => if a + b < 1000 then some (.lit .i64 (a + b)) else none
    | _, _ => none
  | .binOp .mul 3 x y 3 => match ueval st x, ueval st y with
    | some (.lit .i64 a), some (.lit .i64 b) => if a * b < 1000 then some (.lit .i64 (a * b)) else none
    | _, _ => none
  | .binOp .quo 3 x y 3 => match ueval st x, ueval st y with
    | some (.lit .i64 a), some (.lit .i64 b) => if b ≠ 0 ∧ a < 1000 then some (.lit .i64 (a / b)) else none
    | _, _ => none
  | .indexAddr 293 x y => match ueval st x, ueval st y with
    | some .out, some (.lit .i64 k) => if k < 32 then some (.outp k) else none
    | _, _ => none
  | .slice 293 x none (some (.const (.int .i64 32))) none => match ueval st x with
    | some .out => some .out32
    | _ => none
  | .call { callee := .builtin .len, args := ⟨[x]⟩, argTypes := ⟨[293]⟩ } => match ueval st x with
    | some .out32 => some (.lit .i64 32)
    | _ => none
  | _ => none
theorem uval_run {p : UP} {st : US} {w : World} (hp : p.Wf) (hR : UR p st w) {o : Oper} {v : UV} (hv : uval st o.op = some v) :
    (execOp (st.act p).eval o).run Tryz.prog w = .ok (.value (v.den p)) w := by
  obtain ⟨d, op, ty, pos, aft, g⟩ := o
  simp only at hv
  unfold uval at hv
  obtain ⟨cs, hcs, hsz, hfar, hu, ho⟩ := hR.outs
  split at hv
  · rw [ux_move, ueval_den hv]
  · rw [ux_assign, ueval_den hv]
  · rename_i x
    split at hv
    · rename_i hx
      cases hl : st.inl with
      | none => rw [hl] at hv; cases hv
      | some l =>
        rw [hl] at hv
        cases hv
        exact ux_load _ _ _ _ _ _ _ _ _ _ (ueval_den hx) (by rw [blk_cell (hR.cell l hl)]; rfl)
    · rename_i k hx
      split at hv
      · rename_i l hl
        cases hv
        exact ux_load _ _ _ _ _ _ _ _ _ _ (ueval_den hx) (by rw [blk_cell hcs]; exact (ho k l hl).2)
      · cases hv
    · cases hv
  · rename_i x y yt
    split at hv
    · rename_i l k n hx hy
      split at hv
      · rename_i hn
        cases hv
        rw [ux_shr _ _ _ _ _ _ _ x y yt k _ n (ueval_den hx) (ueval_den hy) hn, bval_drop]
        rfl
      · cases hv
    · cases hv
  · rename_i x y
    split at hv
    · rename_i l n hx hy
      split at hv
      · rename_i hn
        cases hv
        rw [ux_rem _ _ _ _ _ _ _ x y _ n (ueval_den hx) (ueval_den hy) (by rw [hn]; exact Nat.ne_of_gt (Nat.two_pow_pos _)), hn, bval_take, ← hn]
        rfl
      · cases hv
    · cases hv
  · rename_i x y
    split at hv
    · rename_i l hx hy
      split at hv
      · rename_i hl
        cases hv
        have hlt := Nat.lt_of_lt_of_le (bval_lt p.D l) (Nat.pow_le_pow_right (by decide) hl)
        rw [ux_and _ _ _ _ _ _ _ x y _ 1 (ueval_den hx) (ueval_den hy) hlt (by decide)]
        have : bval p.D l &&& 1 = bval p.D (l.take 1) := by rw [← bval_take]; exact Nat.and_two_pow_sub_one_eq_mod _ 1
        rw [this]
        rfl
      · cases hv
    · cases hv
  · rename_i x y
    split at hv
    · rename_i l m hx hy
      split at hv
      · rename_i hl
        simp only [Option.map_eq_some_iff] at hv
        obtain ⟨r, hr, rfl⟩ := hv
        have h1 := Nat.lt_of_lt_of_le (bval_lt p.D l) (Nat.pow_le_pow_right (by decide) hl.1)
        have h2 := Nat.lt_of_lt_of_le (bval_lt p.D m) (Nat.pow_le_pow_right (by decide) hl.2)
        rw [ux_or _ _ _ _ _ _ _ x y _ _ (ueval_den hx) (ueval_den hy) h1 h2, bval_or p.D l m r hr]
        rfl
      · cases hv
    · cases hv
  · rename_i x y
    split at hv
    · rename_i l n hx hy
      split at hv
      · rename_i hn
        cases hv
        rw [ux_shl _ _ _ _ _ _ _ x y _ n (ueval_den hx) (ueval_den hy) hn, ← bval_shl, show (4294967296 : Nat) = 2 ^ 32 from rfl, bval_take]
        rfl
      · cases hv
    · cases hv
  · rename_i x y
    split at hv
    · rename_i a b hx hy
      cases hv
      rw [ux_lss _ _ _ _ _ _ _ x y a b (ueval_den hx) (ueval_den hy)]
      rfl
    · cases hv
  · rename_i x y
    split at hv
    · rename_i a b hx hy
      split at hv
      · rename_i hn
        cases hv
        rw [ux_add _ _ _ _ _ _ _ x y a b (ueval_den hx) (ueval_den hy) (by omega)]
        rfl
      · cases hv
    · cases hv
  · rename_i x y
    split at hv
    · rename_i a b hx hy
      split at hv
      · rename_i hn
        cases hv
        rw [ux_mul _ _ _ _ _ _ _ x y a b (ueval_den hx) (ueval_den hy) (by omega)]
        rfl
      · cases hv
    · cases hv
  · rename_i x y
    split at hv
    · rename_i a b hx hy
      split at hv
      · rename_i hn
        cases hv
        rw [ux_quo _ _ _ _ _ _ _ x y a b (ueval_den hx) (ueval_den hy) hn.1 (by omega)]
        rfl
      · cases hv
    · cases hv
  · rename_i x y
    split at hv
    · rename_i k hx hy
      split at hv
      · rename_i hn
        cases hv
        exact ux_index _ _ _ _ _ _ _ x y p.ob p.oo p.len p.cap k (ueval_den hx) (ueval_den hy) (by have := hp.len32; omega)
      · cases hv
    · cases hv
  · rename_i x
    split at hv
    · rename_i hx
      cases hv
      exact ux_slice32 _ _ _ _ _ _ _ x p.ob p.oo p.len p.cap (ueval_den hx) (by have := hp.len32; have := hp.lencap; omega) hp.capm rfl
    · cases hv
  · rename_i x
    split at hv
    · rename_i hx
      cases hv
      exact ux_len _ _ _ _ _ _ _ x _ 32 p.cap (ueval_den hx)
    · cases hv
  · cases hv
end Go.Proofs.YtdamippibpbjhaaGreatDoor

/-! Regions and code of such functions. -/
namespace Go.Proofs.YtdamippibpbjhaaGreatDoor
open Go.RowKit

/-- What the reading of a word does. -/
def WordSaid : Prop := ∀ (rb pk cp tb to_ i : Nat) (D : List Int) (cs : Array Value) (t : TypeId) (q : Int) (w : World), Bytes D →
  w.heap[rb]? = some (.cells #[.slice (some ⟨pk, 0, none⟩) D.length cp, .int .i64 i, .int .i64 q] 101 (0, 0)) → Row w .u8 pk 0 D → w.heap[tb]? = some (.cells cs t (0, 0)) → to_ < cs.size →
  tb ≠ rb → pk ≠ tb → pk ≠ rb → i + 4 ≤ D.length → D.length ≤ cp → D.length ≤ 128 →
  Calls Tryz.prog 222 #[.iface 208 (.pointer (some ⟨rb, 0, none⟩)), .pointer (some ⟨tb, to_, none⟩)] w fun e w' => e = .returned (.tuple #[]) ∧ Keep (fun k => k = rb ∨ k = tb) w w' ∧
    (∃ q' : Int, w'.heap[rb]? = some (.cells #[.slice (some ⟨pk, 0, none⟩) D.length cp, .int .i64 (i + 4 : Nat), .int .i64 q'] 101 (0, 0))) ∧
    w'.heap[tb]? = some (.cells (cs.setIfInBounds to_ (.int .u32 (bitsAt D (8 * i) 32 : Nat))) t (0, 0))

theorem US.put_act (p : UP) (st : US) (d : Option Tmp) (v : UV) : (st.put d v).act p = (st.act p).put d (v.den p) := by
  cases d with
  | none => rfl
  | some d => simp [US.put, US.act, Act.put]
theorem UR.put {p : UP} {st : US} {w : World} (h : UR p st w) (d : Option Tmp) (v : UV) : UR p (st.put d v) w := by
  cases d <;> exact ⟨h.keep, h.outs, h.rd, h.row, h.cell, h.fresh⟩
theorem UR.drewN {p : UP} {st : US} {w : World} (h : UR p st w) (n : Nat) : UR p st (w.drewN n) :=
  ⟨h.keep.drewN n, h.outs, h.rd, h.row.keep ((Keep.refl (fun _ => False) w).drewN n) (fun h => h), h.cell, h.fresh⟩

/-- What an operation does that writes. -/
def ueff (N : Nat) (st : US) (o : Oper) : Option US :=
  match o.op with
  | .store 183 x y => match ueval st x, ueval st y, o.dst with
    | some (.outp k), some (.bits l), none => if k < 32 ∧ l.length ≤ 32 then some { st with outs := st.outs.set k (some l) } else none
    | _, _, _ => none
  | .alloc 183 => if st.fresh = true ∧ st.inl = none then some ({ st with inl := some [], fresh := false }.put o.dst .cellp) else none
  | .call { callee := .value (.func 222), args := ⟨[x, y]⟩, argTypes := _ } => if st.nr < N then
      match ueval st x, ueval st y with
      | some .inp, some .cellp => match st.inl with
        | some _ => some ({ st with inl := some (run (32 * st.nr) 32), nr := st.nr + 1, fresh := false }.put o.dst .unit)
        | none => none
      | some .inp, some (.outp k) => if k < 32 then some ({ st with outs := st.outs.set k (some (run (32 * st.nr) 32)), nr := st.nr + 1, fresh := false }.put o.dst .unit) else none
      | _, _ => none
    else none
  | _ => none

theorem outs_set {p : UP} {outs : List (Option Bits)} {cs : Array Value} (hoo : p.oo + 32 ≤ cs.size) {k : Nat} (hk : k < 32) (l : Bits) (hl : bval p.D l < 4294967296)
    (hsz : cs.size = p.cs0.size) (hfar : ∀ j, j < p.oo ∨ p.oo + 32 ≤ j → cs[j]? = p.cs0[j]?)
    (hu : ∀ k, k < 32 → ∃ x : Int, 0 ≤ x ∧ x < 4294967296 ∧ cs[p.oo + k]? = some (.int .u32 x)) (ho : ∀ k l, outs[k]? = some (some l) → k < 32 ∧ cs[p.oo + k]? = some (.int .u32 (bval p.D l : Nat))) :
    (cs.setIfInBounds (p.oo + k) (.int .u32 (bval p.D l : Nat))).size = p.cs0.size ∧
    (∀ j, j < p.oo ∨ p.oo + 32 ≤ j → (cs.setIfInBounds (p.oo + k) (.int .u32 (bval p.D l : Nat)))[j]? = p.cs0[j]?) ∧
    (∀ k', k' < 32 → ∃ x : Int, 0 ≤ x ∧ x < 4294967296 ∧ (cs.setIfInBounds (p.oo + k) (.int .u32 (bval p.D l : Nat)))[p.oo + k']? = some (.int .u32 x)) ∧
    (∀ k' l', (outs.set k (some l))[k']? = some (some l') → k' < 32 ∧ (cs.setIfInBounds (p.oo + k) (.int .u32 (bval p.D l : Nat)))[p.oo + k']? = some (.int .u32 (bval p.D l' : Nat))) := by
  refine ⟨by simp [hsz], fun j hj => ?_, fun k' hk' => ?_, fun k' l' h => ?_⟩
  · rw [Array.getElem?_setIfInBounds_ne (by omega)]; exact hfar j hj
  · by_cases e : k' = k
    · subst e
      exact ⟨((bval p.D l : Nat) : Int), by omega, by omega, by rw [Array.getElem?_setIfInBounds_self_of_lt (by omega)]⟩
    · rw [Array.getElem?_setIfInBounds_ne (by omega)]; exact hu k' hk'
  · by_cases e : k' = k
    · subst e
      rw [Array.getElem?_setIfInBounds_self_of_lt (by omega)]
      rw [List.getElem?_set] at h
      simp only [if_true] at h
      split at h
      · cases h; exact ⟨hk, rfl⟩
      · cases h
    · rw [Array.getElem?_setIfInBounds_ne (by omega)]
      rw [List.getElem?_set_ne (by omega)] at h
      exact ho k' l' h

theorem run_length (p n : Nat) : (run p n).length = n := by simp [run]

set_option maxRecDepth 100000 in
theorem ueff_wp (HW : WordSaid) {p : UP} {st st' : US} {w : World} (hp : p.Wf) (hR : UR p st w) {o : Oper} (hv : ueff p.N st o = some st')
    {K : Act → World → Prop} {Q : Exit → Act → World → Prop} (hK : ∀ w', UR p st' w' → K (st'.act p) w') : o.wp Tryz.prog (st.act p) w K Q := by
  obtain ⟨d, op, ty, pos, aft, g⟩ := o
  simp only [ueff] at hv
  obtain ⟨cs, hcs, hsz, hfar, hu, ho⟩ := hR.outs
  have hoo : p.oo + 32 ≤ cs.size := by rw [hsz]; exact hp.oosz
  split at hv
  · rename_i x y
    split at hv
    · rename_i k l hx hy
      split at hv
      · rename_i hkl
        obtain ⟨hk, hll⟩ := hkl
        cases hv
        obtain ⟨x0, _, _, hx0⟩ := hu k hk
        have hl := Nat.lt_of_lt_of_le (bval_lt p.D l) (Nat.pow_le_pow_right (by decide) hll)
        unfold Oper.wp
        rw [ux_store _ _ _ _ _ _ _ x y ⟨p.ob, p.oo + k, none⟩ .u32 _ _ (ueval_den hx) (ueval_den hy) (by rw [blk_cell hcs]; exact hx0) (blk_frozen hcs _)]
        refine hK _ ⟨hR.keep.setCell (.inl (.inl rfl)) _, ?_, ?_, ?_, fun l' hl' => ?_, fun hf => ?_⟩
        · obtain ⟨h1, h2, h3, h4⟩ := outs_set hoo hk l hl hsz hfar hu ho
          exact ⟨_, blk_set hcs _ _, h1, h2, h3, h4⟩
        · obtain ⟨q, hq⟩ := hR.rd
          exact ⟨q, blk_far hq (p := ⟨p.ob, p.oo + k, none⟩) hp.obrb _⟩
        · exact hR.row.keep ((Keep.refl (fun k => k = p.ob) w).setCell (p := ⟨p.ob, p.oo + k, none⟩) (.inl rfl) _) hp.pkob
        · exact blk_far (hR.cell l' hl') (p := ⟨p.ob, p.oo + k, none⟩) (by have := hp.obw; simp; omega) _
        · have := hR.fresh hf
          simpa [World.setCell] using this
      · cases hv
    · cases hv
  · split at hv
    · rename_i hfi
      cases hv
      unfold Oper.wp
      rw [ux_alloc]
      have hfr := hR.fresh hfi.1
      have e : (.pointer (some ⟨w.heap.size, 0, none⟩) : Value) = UV.den p .cellp := by rw [hfr]; rfl
      rw [e]
      show K ((st.act p).put d (UV.den p .cellp)) _
      have e2 : ({ st with inl := some [], fresh := false } : US).act p = st.act p := rfl
      rw [← e2, ← US.put_act]
      refine hK _ (UR.put ⟨hR.keep.alloc _, ?_, ?_, ?_, fun l' hl' => ?_, fun hf => by cases hf⟩ _ _)
      · exact ⟨cs, blk_alloc hcs _, hsz, hfar, hu, ho⟩
      · obtain ⟨q, hq⟩ := hR.rd
        exact ⟨q, blk_alloc hq _⟩
      · exact hR.row.keep ((Keep.refl (fun _ => False) w).alloc _) (fun h => h)
      · cases hl'
        rw [← hfr]
        exact blk_new w _
    · cases hv
  · rename_i x y tys
    split at hv
    · rename_i hnr
      have hword : bitsAt p.D (8 * (4 * st.nr)) 32 = bval p.D (run (32 * st.nr) 32) := by rw [bval_run]; congr 1; omega
      have hd := hp.dlen
      split at hv
      · rename_i hx hy
        split at hv
        · rename_i l hl
          cases hv
          obtain ⟨q, hq⟩ := hR.rd
          have hcell := hR.cell l hl
          unfold Oper.wp
          rw [ux_call _ _ _ _ _ _ _ x y tys rfl, ueval_den hx, ueval_den hy]
          refine (HW p.rb p.pk p.cp p.w0.heap.size 0 (4 * st.nr) p.D _ 183 q w hp.byte hq hR.row hcell (by simp) (by have := hp.rbw; omega) (by have := hp.pkw; omega) hp.pkrb (by omega) hp.dcap hp.dmax).mono ?_
          rintro e w' ⟨rfl, hk, ⟨q', hq'⟩, hc'⟩
          have e2 : ({ st with inl := some (run (32 * st.nr) 32), nr := st.nr + 1, fresh := false } : US).act p = st.act p := rfl
          show K ((st.act p).put d (.tuple #[])) w'
          rw [show (.tuple #[] : Value) = UV.den p .unit from rfl, ← e2, ← US.put_act]
          refine hK _ (UR.put ⟨hR.keep.step hk (fun i h => by rcases h with h | h; exact .inl (.inr h); right; omega), ?_, ⟨q', ?_⟩, ?_, fun l' hl' => ?_, fun hf => by cases hf⟩ _ _)
          · exact ⟨cs, hk.blk hcs (by rintro (h | h); exact hp.obrb h; have := hp.obw; omega), hsz, hfar, hu, ho⟩
          · rw [hq']; simp only [Nat.mul_add, Nat.mul_one]
          · exact hR.row.keep hk (by rintro (h | h); exact hp.pkrb h; have := hp.pkw; omega)
          · cases hl'
            rw [hc', hword]
            rfl
        · cases hv
      · rename_i k hx hy
        split at hv
        · rename_i hk32
          cases hv
          obtain ⟨q, hq⟩ := hR.rd
          unfold Oper.wp
          rw [ux_call _ _ _ _ _ _ _ x y tys rfl, ueval_den hx, ueval_den hy]
          refine (HW p.rb p.pk p.cp p.ob (p.oo + k) (4 * st.nr) p.D cs p.ot q w hp.byte hq hR.row hcs (by omega) hp.obrb hp.pkob hp.pkrb (by omega) hp.dcap hp.dmax).mono ?_
          rintro e w' ⟨rfl, hk, ⟨q', hq'⟩, hc'⟩
          rw [hword] at hc'
          have hl : bval p.D (run (32 * st.nr) 32) < 4294967296 := by have := bval_lt p.D (run (32 * st.nr) 32); rw [run_length] at this; simpa using this
          obtain ⟨h1, h2, h3, h4⟩ := outs_set hoo hk32 (run (32 * st.nr) 32) hl hsz hfar hu ho
          have e2 : ({ st with outs := st.outs.set k (some (run (32 * st.nr) 32)), nr := st.nr + 1, fresh := false } : US).act p = st.act p := rfl
          show K ((st.act p).put d (.tuple #[])) w'
          rw [show (.tuple #[] : Value) = UV.den p .unit from rfl, ← e2, ← US.put_act]
          refine hK _ (UR.put ⟨hR.keep.step hk (fun i h => by rcases h with h | h; exact .inl (.inr h); exact .inl (.inl h)), ?_, ⟨q', ?_⟩, ?_, fun l' hl' => ?_, fun hf => by cases hf⟩ _ _)
          · exact ⟨_, hc', h1, h2, h3, h4⟩
          · rw [hq']; simp only [Nat.mul_add, Nat.mul_one]
          · exact hR.row.keep hk (by rintro (h | h); exact hp.pkrb h; exact hp.pkob h)
          · exact hk.blk (hR.cell l' hl') (by have := hp.rbw; have := hp.obw; omega)
        · cases hv
      · cases hv
    · cases hv
  · cases hv

end Go.Proofs.YtdamippibpbjhaaGreatDoor

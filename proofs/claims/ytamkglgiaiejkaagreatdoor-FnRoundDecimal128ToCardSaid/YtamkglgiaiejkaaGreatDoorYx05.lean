import Derived.Test.YtamkglgiaiejkaaGreatDoorYx03
import Derived.Test.YtamkglgiaiejkaaGreatDoorYx04
import Derived.Test.YtamkglgiaiejkaaGreatDoorProg
import Derived.Laws.AppendOwnNone
import Derived.Lib.Hide
import Derived.Defers
import Derived.Recover
import Derived.KernelRfl
/-! Rows of one's own; small things. -/
namespace Go.Proofs.YtamkglgiaiejkaaGreatDoor
open Go.RowKit

theorem grown_keep {w w' : World} {row : Option Nat} (h : w.grownBy w' row) : Keep (fun b => row = some b) w w' := ⟨h.os, h.tape, h.output, h.size, fun k hk hn => h.block k hk (fun e => hn e.symm)⟩
theorem ownsRow_keep {S : Nat → Prop} {w w' : World} {base : Nat} {e : TypeId} {size : Nat} {v : Value} {n : Nat} {xs : List Value} (h : w.ownsRow base e size v n xs) (hk : Keep S w w') (hS : ∀ g, v.ownBlock = some g → ¬ S g) : w'.ownsRow base e size v n xs := by
  obtain ⟨h1, h2⟩ := h
  refine ⟨h1, ?_⟩
  rcases h2 with h2 | ⟨g, cap, cur, rfl, hb, hg, h3⟩
  · exact .inl h2
  · exact .inr ⟨g, cap, cur, rfl, hb, hk.blk hg (hS g rfl), h3⟩
theorem ownsRow_lt {w : World} {base : Nat} {e : TypeId} {size : Nat} {v : Value} {n : Nat} {xs : List Value} (h : w.ownsRow base e size v n xs) (g : Nat) (hg : v.ownBlock = some g) : g < w.heap.size ∧ base ≤ g := by
  rcases h.2 with ⟨rfl, _⟩ | ⟨g', cap, cur, rfl, hb, hg', _⟩
  · cases hg
  · cases hg
    exact ⟨blk_lt hg', hb⟩
theorem addr_add0 (b j : Nat) : (⟨b, 0, none⟩ : Addr).add j = ⟨b, j, none⟩ := by
  unfold Addr.add
  split
  · subst_vars; rfl
  · simp
theorem own_slice {w : World} {base n : Nat} {e : TypeId} {v : Value} {xs : List Value} (h : w.ownsRow base e 1 v n xs) : ∃ A c, v = .slice A n c := by
  rcases h.2 with ⟨rfl, h0⟩ | ⟨g, cap, cur, rfl, _⟩
  · exact ⟨none, 0, by rw [h0]⟩
  · exact ⟨_, _, rfl⟩
theorem own_cell {w : World} {base n : Nat} {e : TypeId} {A : Option Addr} {c : Nat} {xs : List Value} (h : w.ownsRow base e 1 (.slice A n c) n xs) (i : Nat) (hi : i < n) (v : Value) (hv : xs[i]? = some v) : ∃ g, A = some ⟨g, 0, none⟩ ∧ w.cell? ⟨g, i, none⟩ = some v := by
  rcases h.2 with ⟨e1, h0⟩ | ⟨g, cap, cur, e1, _, hg, _, _, hcs, ht⟩
  · omega
  · cases e1
    refine ⟨g, rfl, ?_⟩
    rw [blk_cell hg]
    have h1 := congrArg (fun z => z[i]?) ht
    simp only [Nat.mul_one] at h1
    rw [List.getElem?_take_of_lt hi, Array.getElem?_toList] at h1
    rw [h1, hv]
/-- Numbers of 64 bits that lie where a slice says. -/
def Ints (w : World) (A : Option Addr) (l : List Int) : Prop := 0 < l.length → ∃ g o, A = some ⟨g, o, none⟩ ∧ Row w .i64 g o l
/-- A bool comes back; if it is true, so much is known. -/
def Fit (P : Prop) (e : Ending) : Prop := ∃ b : Bool, e = .returned (.bool b) ∧ (b = true → P)
def natsI (l : List Nat) : List Int := l.map fun x => ((x : Nat) : Int)
/-- An append to a row of one's own of what may be nil. -/
theorem wpList_append_own_src {P : Program} {w : World} {ops : Array Oper} {rest : List Oper} {o : Oper} {a : Act} {Q : Exit → Act → World → Prop} (hgd : o.guard = none) (s x : Operand) (t : TypeId)
    (ho : o.op = .call { callee := .builtin .append, args := #[s, x], argTypes := #[t, t] })
    (base : Nat) (e : TypeId) (i : TypeInfo) (z : Value) (size bytes : Nat) (ht : P.underlying t = some (.slice e)) (hi : P.info? e = some i) (hz : i.zero = some z)
    (hsize : i.size = size) (hby : i.bytes = bytes) (hzs : z.cells.size = size) (hsz : 0 < size)
    (v : Value) (n : Nat) (xs : List Value) (hs : a.eval s = v) (hown : w.ownsRow base e size v n xs)
    (A : Option Addr) (m c : Nat) (news : List Value) (hx : a.eval x = .slice A m c) (hA : A = none → m = 0 ∧ c = 0) (hl : news.length = m * size) (hnews : ∀ ad, A = some ad → ∀ j u, news[j]? = some u → w.cell? (ad.add j) = some u) (h1 : ∀ u ∈ news, u.oneCell' = true)
    (h63 : n + m ≤ maxLen) (hbytes : (n + m) * bytes ≤ 140737488355328) (hbase : base ≤ w.heap.size)
    (h : ∀ v' w', w'.ownsRow base e size v' (n + m) (xs ++ news) → w.grownBy w' v.ownBlock → (v'.ownBlock = v.ownBlock ∨ v'.ownBlock = some w.heap.size) → wpList P ops Q rest (a.put o.dst v') w') :
    wpList P ops Q (o :: rest) a w := by
  cases A with
  | none =>
    obtain ⟨rfl, rfl⟩ := hA rfl
    have hn : news = [] := List.eq_nil_of_length_eq_zero (by omega)
    subst hn
    exact wpList_append_own_none hgd s x t ho base e i size ht hi v n xs hs hown hx (h v w (by rw [Nat.add_zero, List.append_nil]; exact hown) ⟨rfl, rfl, rfl, Nat.le_refl _, fun _ _ _ => rfl⟩ (.inl rfl))
  | some ad => exact wpList_append_own_at w hgd s x t ho base e i z size bytes ht hi hz hsize hby hzs hsz v n xs hs hown ad m c news hx hl (hnews ad rfl) h1 h63 hbytes hbase (fun v' w' a b _ d => h v' w' a b d)
theorem enters {f : FuncId} {fn : Func} (hf : Tryz.prog.funcs[f]? = some fn) (hn : (fn.name == "runtime.NumGoroutine") = false) (hb : fn.body.isNone = false) (args : Array Value) (w : World) :
    (callFunc f args).run Tryz.prog w = .ok (.enter f args) w := by
  have h1 : fn.name ≠ "runtime.NumGoroutine" := by simpa using hn
  have h2 : ¬ fn.body = none := fun e => by rw [e] at hb; cases hb
  simp [callFunc, go_sem, hf, h1, h2]
theorem leaves_tmps {P : Program} {fn : Func} {R : Ending → World → Prop} {tmps tmps' : Array Value} (hres : ∀ w, (results fn tmps).run P w = (results fn tmps').run P w) : ∀ (ds : List Deferred) (u : FrameMode) (w : World), Leaves P fn tmps R ds u w → Leaves P fn tmps' R ds u w
  | [], .run, _, h => h.elim
  | [], .returning, w, ⟨v, hr, hR⟩ => ⟨v, (hres w) ▸ hr, hR⟩
  | [], .panicking _, _, h => h
  | d :: ds, u, w, ⟨hrun, fv, cap, f, args, htar, hinv, hcall⟩ => ⟨hrun, fv, cap, f, args, htar, hinv, hcall.mono fun e u' w' he => by
      cases e with
      | returned v => exact leaves_tmps hres ds _ _ he
      | panicked chain => exact leaves_tmps hres ds _ _ he
      | outgrown => exact he⟩
theorem getD_put (a : Act) (d k : Nat) (v : Value) (h : d ≠ k) : (a.put (some d) v).tmps.getD k undef = a.tmps.getD k undef := by
  show (a.tmps.setIfInBounds d v).getD k undef = _
  simp only [Array.getD_eq_getD_getElem?]
  rw [Array.getElem?_setIfInBounds_ne h]
/-- Two results that are read out of variables. -/
theorem post_put2 {P : Program} {fn : Func} {R : Ending → World → Prop} {t1 t2 : TypeId} {k1 k2 : Nat} (hr : fn.results = #[.cell k1 t1, .cell k2 t2]) (d : Nat) (v : Value) (h1 : d ≠ k1) (h2 : d ≠ k2) (c : List PanicEntry) (a : Act) (w : World) (h : bodyPostD P fn R (.panic c) (a.put (some d) v) w) : bodyPostD P fn R (.panic c) a w := by
  refine leaves_tmps (fun w => ?_) _ _ _ h
  unfold results
  rw [hr]
  simp only [Array.mapM_eq_mapM_toList, List.mapM_cons, List.mapM_nil, getD_put a d k1 v h1, getD_put a d k2 v h2]
end Go.Proofs.YtamkglgiaiejkaaGreatDoor

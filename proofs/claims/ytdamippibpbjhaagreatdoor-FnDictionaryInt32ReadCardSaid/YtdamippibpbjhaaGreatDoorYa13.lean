import Derived.Test.YtdamippibpbjhaaGreatDoorYa09
import Derived.Test.YtdamippibpbjhaaGreatDoorYa10
import Derived.Test.YtdamippibpbjhaaGreatDoorYa11
import Derived.Test.YtdamippibpbjhaaGreatDoorYa12
/-! The 32 functions under one contract. -/
namespace Go.Proofs.YtdamippibpbjhaaGreatDoor
open Go.RowKit
theorem unpack_run : ∀ n, 1 ≤ n → n ≤ 32 → ∃ fn, Tryz.prog.funcs[183 + n]? = some fn ∧ fn.results = #[] ∧ runB n 400 fn = true
  | 0, h, _ => absurd h (by decide)
  | 1, _, _ => ⟨Tryz.f184, Tryz.func184, rfl, run1⟩
  | 2, _, _ => ⟨Tryz.f185, Tryz.func185, rfl, run2⟩
  | 3, _, _ => ⟨Tryz.f186, Tryz.func186, rfl, run3⟩
  | 4, _, _ => ⟨Tryz.f187, Tryz.func187, rfl, run4⟩
  | 5, _, _ => ⟨Tryz.f188, Tryz.func188, rfl, run5⟩
  | 6, _, _ => ⟨Tryz.f189, Tryz.func189, rfl, run6⟩
  | 7, _, _ => ⟨Tryz.f190, Tryz.func190, rfl, run7⟩
  | 8, _, _ => ⟨Tryz.f191, Tryz.func191, rfl, run8⟩
  | 9, _, _ => ⟨Tryz.f192, Tryz.func192, rfl, run9⟩
  | 10, _, _ => ⟨Tryz.f193, Tryz.func193, rfl, run10⟩
  | 11, _, _ => ⟨Tryz.f194, Tryz.func194, rfl, run11⟩
  | 12, _, _ => ⟨Tryz.f195, Tryz.func195, rfl, run12⟩
  | 13, _, _ => ⟨Tryz.f196, Tryz.func196, rfl, run13⟩
  | 14, _, _ => ⟨Tryz.f197, Tryz.func197, rfl, run14⟩
  | 15, _, _ => ⟨Tryz.f198, Tryz.func198, rfl, run15⟩
  | 16, _, _ => ⟨Tryz.f199, Tryz.func199, rfl, run16⟩
  | 17, _, _ => ⟨Tryz.f200, Tryz.func200, rfl, run17⟩
  | 18, _, _ => ⟨Tryz.f201, Tryz.func201, rfl, run18⟩
  | 19, _, _ => ⟨Tryz.f202, Tryz.func202, rfl, run19⟩
  | 20, _, _ => ⟨Tryz.f203, Tryz.func203, rfl, run20⟩
  | 21, _, _ => ⟨Tryz.f204, Tryz.func204, rfl, run21⟩
  | 22, _, _ => ⟨Tryz.f205, Tryz.func205, rfl, run22⟩
  | 23, _, _ => ⟨Tryz.f206, Tryz.func206, rfl, run23⟩
  | 24, _, _ => ⟨Tryz.f207, Tryz.func207, rfl, run24⟩
  | 25, _, _ => ⟨Tryz.f208, Tryz.func208, rfl, run25⟩
  | 26, _, _ => ⟨Tryz.f209, Tryz.func209, rfl, run26⟩
  | 27, _, _ => ⟨Tryz.f210, Tryz.func210, rfl, run27⟩
  | 28, _, _ => ⟨Tryz.f211, Tryz.func211, rfl, run28⟩
  | 29, _, _ => ⟨Tryz.f212, Tryz.func212, rfl, run29⟩
  | 30, _, _ => ⟨Tryz.f213, Tryz.func213, rfl, run30⟩
  | 31, _, _ => ⟨Tryz.f214, Tryz.func214, rfl, run31⟩
  | 32, _, _ => ⟨Tryz.f215, Tryz.func215, rfl, run32⟩
  | n + 33, _, h => absurd h (by omega)
end Go.Proofs.YtdamippibpbjhaaGreatDoor

/-! The 32 functions are entered. -/
namespace Go.Proofs.YtdamippibpbjhaaGreatDoor
open Go.RowKit
theorem enters {f : FuncId} {fn : Func} (hf : Tryz.prog.funcs[f]? = some fn) (hn : (fn.name == "runtime.NumGoroutine") = false) (hb : fn.body.isNone = false) (args : Array Value) (w : World) :
    (callFunc f args).run Tryz.prog w = .ok (.enter f args) w := by
  have h1 : fn.name ≠ "runtime.NumGoroutine" := by simpa using hn
  have h2 : ¬ fn.body = none := fun e => by rw [e] at hb; cases hb
  simp [callFunc, go_sem, hf, h1, h2]
theorem unpack_enters : ∀ n, 1 ≤ n → n ≤ 32 → ∀ (args : Array Value) (w : World), (callFunc (183 + n) args).run Tryz.prog w = .ok (.enter (183 + n) args) w
  | 0, h, _ => absurd h (by decide)
  | 1, _, _ => enters Tryz.func184 (by kernel_rfl) (by kernel_rfl)
  | 2, _, _ => enters Tryz.func185 (by kernel_rfl) (by kernel_rfl)
  | 3, _, _ => enters Tryz.func186 (by kernel_rfl) (by kernel_rfl)
  | 4, _, _ => enters Tryz.func187 (by kernel_rfl) (by kernel_rfl)
  | 5, _, _ => enters Tryz.func188 (by kernel_rfl) (by kernel_rfl)
  | 6, _, _ => enters Tryz.func189 (by kernel_rfl) (by kernel_rfl)
  | 7, _, _ => enters Tryz.func190 (by kernel_rfl) (by kernel_rfl)
  | 8, _, _ => enters Tryz.func191 (by kernel_rfl) (by kernel_rfl)
  | 9, _, _ => enters Tryz.func192 (by kernel_rfl) (by kernel_rfl)
  | 10, _, _ => enters Tryz.func193 (by kernel_rfl) (by kernel_rfl)
  | 11, _, _ => enters Tryz.func194 (by kernel_rfl) (by kernel_rfl)
  | 12, _, _ => enters Tryz.func195 (by kernel_rfl) (by kernel_rfl)
  | 13, _, _ => enters Tryz.func196 (by kernel_rfl) (by kernel_rfl)
  | 14, _, _ => enters Tryz.func197 (by kernel_rfl) (by kernel_rfl)
  | 15, _, _ => enters Tryz.func198 (by kernel_rfl) (by kernel_rfl)
  | 16, _, _ => enters Tryz.func199 (by kernel_rfl) (by kernel_rfl)
  | 17, _, _ => enters Tryz.func200 (by kernel_rfl) (by kernel_rfl)
  | 18, _, _ => enters Tryz.func201 (by kernel_rfl) (by kernel_rfl)
  | 19, _, _ => enters Tryz.func202 (by kernel_rfl) (by kernel_rfl)
  | 20, _, _ => enters Tryz.func203 (by kernel_rfl) (by kernel_rfl)
  | 21, _, _ => enters Tryz.func204 (by kernel_rfl) (by kernel_rfl)
  | 22, _, _ => enters Tryz.func205 (by kernel_rfl) (by kernel_rfl)
  | 23, _, _ => enters Tryz.func206 (by kernel_rfl) (by kernel_rfl)
  | 24, _, _ => enters Tryz.func207 (by kernel_rfl) (by kernel_rfl)
  | 25, _, _ => enters Tryz.func208 (by kernel_rfl) (by kernel_rfl)
  | 26, _, _ => enters Tryz.func209 (by kernel_rfl) (by kernel_rfl)
  | 27, _, _ => enters Tryz.func210 (by kernel_rfl) (by kernel_rfl)
  | 28, _, _ => enters Tryz.func211 (by kernel_rfl) (by kernel_rfl)
  | 29, _, _ => enters Tryz.func212 (by kernel_rfl) (by kernel_rfl)
  | 30, _, _ => enters Tryz.func213 (by kernel_rfl) (by kernel_rfl)
  | 31, _, _ => enters Tryz.func214 (by kernel_rfl) (by kernel_rfl)
  | 32, _, _ => enters Tryz.func215 (by kernel_rfl) (by kernel_rfl)
  | n + 33, _, h => absurd h (Nat.not_le_of_lt (Nat.lt_of_lt_of_le (by decide : 32 < 33) (Nat.le_add_left 33 n)))
end Go.Proofs.YtdamippibpbjhaaGreatDoor

import Derived.Test.YtdamippibpbjhaaGreatDoorYa08
/-! Runs in the kernel. -/
namespace Go.Proofs.YtdamippibpbjhaaGreatDoor
theorem run22 : runB 22 400 Tryz.f205 = true := by kernel_rfl
theorem run23 : runB 23 400 Tryz.f206 = true := by kernel_rfl
theorem run25 : runB 25 400 Tryz.f208 = true := by kernel_rfl
theorem run26 : runB 26 400 Tryz.f209 = true := by kernel_rfl
theorem run27 : runB 27 400 Tryz.f210 = true := by kernel_rfl
theorem run28 : runB 28 400 Tryz.f211 = true := by kernel_rfl
theorem run32 : runB 32 400 Tryz.f215 = true := by kernel_rfl
end Go.Proofs.YtdamippibpbjhaaGreatDoor

import Derived.Test.YtdamippibpbjhaaGreatDoorYa08
/-! Runs in the kernel. -/
namespace Go.Proofs.YtdamippibpbjhaaGreatDoor
theorem run13 : runB 13 400 Tryz.f196 = true := by kernel_rfl
theorem run14 : runB 14 400 Tryz.f197 = true := by kernel_rfl
theorem run15 : runB 15 400 Tryz.f198 = true := by kernel_rfl
theorem run17 : runB 17 400 Tryz.f200 = true := by kernel_rfl
theorem run18 : runB 18 400 Tryz.f201 = true := by kernel_rfl
theorem run19 : runB 19 400 Tryz.f202 = true := by kernel_rfl
theorem run20 : runB 20 400 Tryz.f203 = true := by kernel_rfl
theorem run21 : runB 21 400 Tryz.f204 = true := by kernel_rfl
end Go.Proofs.YtdamippibpbjhaaGreatDoor

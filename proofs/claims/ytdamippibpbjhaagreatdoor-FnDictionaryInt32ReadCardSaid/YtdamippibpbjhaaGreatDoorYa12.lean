import Derived.Test.YtdamippibpbjhaaGreatDoorYa08
/-! Runs in the kernel. -/
namespace Go.Proofs.YtdamippibpbjhaaGreatDoor
theorem run29 : runB 29 400 Tryz.f212 = true := by kernel_rfl
theorem run30 : runB 30 400 Tryz.f213 = true := by kernel_rfl
theorem run31 : runB 31 400 Tryz.f214 = true := by kernel_rfl
end Go.Proofs.YtdamippibpbjhaaGreatDoor

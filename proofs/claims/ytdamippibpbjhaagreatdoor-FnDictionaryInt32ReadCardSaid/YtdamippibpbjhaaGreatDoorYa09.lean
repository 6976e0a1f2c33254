import Derived.Test.YtdamippibpbjhaaGreatDoorYa08
/-! Runs in the kernel. -/
namespace Go.Proofs.YtdamippibpbjhaaGreatDoor
theorem run1 : runB 1 400 Tryz.f184 = true := by kernel_rfl
theorem run2 : runB 2 400 Tryz.f185 = true := by kernel_rfl
theorem run3 : runB 3 400 Tryz.f186 = true := by kernel_rfl
theorem run4 : runB 4 400 Tryz.f187 = true := by kernel_rfl
theorem run5 : runB 5 400 Tryz.f188 = true := by kernel_rfl
theorem run6 : runB 6 400 Tryz.f189 = true := by kernel_rfl
theorem run7 : runB 7 400 Tryz.f190 = true := by kernel_rfl
theorem run8 : runB 8 400 Tryz.f191 = true := by kernel_rfl
theorem run9 : runB 9 400 Tryz.f192 = true := by kernel_rfl
theorem run10 : runB 10 400 Tryz.f193 = true := by kernel_rfl
theorem run11 : runB 11 400 Tryz.f194 = true := by kernel_rfl
theorem run12 : runB 12 400 Tryz.f195 = true := by kernel_rfl
theorem run16 : runB 16 400 Tryz.f199 = true := by kernel_rfl
theorem run24 : runB 24 400 Tryz.f207 = true := by kernel_rfl
end Go.Proofs.YtdamippibpbjhaaGreatDoor

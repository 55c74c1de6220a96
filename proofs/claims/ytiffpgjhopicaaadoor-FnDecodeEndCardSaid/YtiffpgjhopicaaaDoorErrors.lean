/-
  What the rows' condition on the two listed variables gives a walk: each holds an error, a pointer that is not nil. Conditions: the variables read as the rows say.
-/
import Derived.Test.YtiffpgjhopicaaaDoorDoors
namespace Go.Proofs.YtiffpgjhopicaaaDoor
open Go.ChangeShapes Go.WideShapes Go.ChangeAt Go.RowKit

theorem starName : "*" ++ "errors.errorString" = "*errors.errorString" := by decide
theorem row87 (u : TypeId) (h : Tryd.prog.typeName? 3 u = some "*errors.errorString") : u = 87 :=
  typeName_ptr_named (nm := "errors.errorString") (by rw [starName]; kernel_rfl) (by kernel_rfl) (by decide) u (by rw [starName]; exact h)
theorem cells104 : Tryd.prog.cellsOf 104 = 1 := by kernel_rfl
theorem cells9 : Tryd.prog.cellsOf 9 = 1 := by kernel_rfl
theorem errs_of {W : World} (h : laidMetH Tryd.prog laidTwo W) : Errs W := by
  rw [MakeChecks.laidMetH_plain _ _ _ (by kernel_rfl)] at h
  obtain ⟨a0, s0, hv0, _, _, _⟩ := laid_sentinel h gShort tShort Tryd.underlying47 row87 Tryd.underlying87 Tryd.underlying104 rfl rfl Tryd.underlying9 cells104 cells9
  obtain ⟨a1, s1, hv1, _, _, _⟩ := laid_sentinel h.tail gUnknown tUnknown Tryd.underlying47 row87 Tryd.underlying87 Tryd.underlying104 rfl rfl Tryd.underlying9 cells104 cells9
  exact ⟨var?_lt gUnknown hv1, ⟨87, a0, by simpa using World.var?_cell gShort hv0 0⟩, ⟨87, a1, by simpa using World.var?_cell gUnknown hv1 0⟩⟩
end Go.Proofs.YtiffpgjhopicaaaDoor

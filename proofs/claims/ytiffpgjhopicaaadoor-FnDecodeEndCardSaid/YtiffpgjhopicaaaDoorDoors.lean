/-
  What all the rows share: the two listed variables as tokens and as errors, a start that meets the rows' condition. Conditions: none.
-/
import Derived.Test.YtiffpgjhopicaaaDoorRows
import Derived.Test.YtiffpgjhopicaaaDoorOut
import Derived.ProofKit
import Derived.LaidMore
import Derived.OpenShut
import Derived.Stop.Joined
import Derived.Stop.LaidErr
namespace Go.Proofs.YtiffpgjhopicaaaDoor
open Go.ChangeShapes Go.WideShapes Go.ChangeAt Go.RowKit

abbrev nameShort : String := "loop.example/pub-g03337/pub/loong64asm.errShort"
abbrev nameUnknown : String := "loop.example/pub-g03337/pub/loong64asm.errUnknown"
def laidTwo {H : Type} : List (String × DataW H) := [(nameShort, Rows.laid_loop_example_pub_g03337_pub_loong64asm_errShort), (nameUnknown, Rows.laid_loop_example_pub_g03337_pub_loong64asm_errUnknown)]
theorem own : ownKnob Tryd.prog.godebug = none := by kernel_rfl
theorem gShort : Tryd.prog.globalNamed nameShort = some 0 := by kernel_rfl
theorem gUnknown : Tryd.prog.globalNamed nameUnknown = some 1 := by kernel_rfl
theorem tShort : (Tryd.prog.globals[0]?).map (·.type) = some 47 := by kernel_rfl
theorem tUnknown : (Tryd.prog.globals[1]?).map (·.type) = some 47 := by kernel_rfl

/-- The door's own heap meets the condition. -/
theorem door_met (os : Os) (args : Array Value) : laidMetH Tryd.prog laidTwo ((World.doorLaid Tryd.prog 400 os).forCall (fun _ _ => 0) ⟨#[], args, []⟩).memory :=
  laidMetH_of_parts3 (fuel := 8) (laidMet_of_run' 8 (by kernel_rfl) (by kernel_rfl)) (by kernel_rfl) (by kernel_rfl)

theorem var?_under {B g : Nat} {W W' : World} {n : String} {cs : Array Value} (h : Below B W W') (hg : Tryd.prog.globalNamed n = some g) (hgB : g < B) (hv : W.var? Tryd.prog n = some cs) : W'.var? Tryd.prog n = some cs := by
  unfold World.var? at hv ⊢
  simp only [hg, Option.bind_some] at hv ⊢
  rw [h.block g hgB]
  exact hv
theorem var?_lt {g : Nat} {W : World} {n : String} {cs : Array Value} (hg : Tryd.prog.globalNamed n = some g) (hv : W.var? Tryd.prog n = some cs) : g < W.heap.size := by
  unfold World.var? at hv
  simp only [hg, Option.bind_some] at hv
  rcases Nat.lt_or_ge g W.heap.size with h' | h'
  · exact h'
  · simp [Array.getElem?_eq_none h'] at hv

theorem u32_bd {n : Int} (h : (Lit.int .u32 n).wf = true) : 0 ≤ n ∧ n ≤ 4294967295 := by
  have := range_u32 (zs := [n]) (fun z hz => by rw [List.mem_singleton.1 hz]; exact h) 0
  simpa using this
end Go.Proofs.YtiffpgjhopicaaaDoor

/-
  The walk of decodeArg at the kinds 16, 17, 18, 19, 20, 21, 22, 23, 24, 25, 26, 27, 28, 29, 30: what each kind reads off the word. Conditions: x is a number of 32 bits.
-/
import Derived.Test.YtiffpgjhopicaaaDoorFmt
import Derived.Test.YtiffpgjhopicaaaDoorDArgA
namespace Go.Proofs.YtiffpgjhopicaaaDoor
open Go.RowKit Go.BigFrame

set_option maxRecDepth 100000 in
theorem darg_16 (x : Int) (i : Nat) (op : Nat) (w : World) (hx : 0 ≤ x) (hx2 : x ≤ 4294967295) :
    Calls Tryd.prog 27 #[.int .u16 16, .int .u32 x, .int .i64 i] w fun e w' => e = .returned (valOf (Sp.darg 16 x op)) ∧ Below w.heap.size w w' := by
  go_enter Tryd.func27, Tryd.ntmps27
  go_wp2
  go_ret
  refine ⟨congrArg (fun n => Ending.returned (Value.iface 77 (Value.int IntKind.i16 n))) ?_, Below.refl _ _⟩
  simp [Sp.darg, Sp.field]
  first | (go_bits2; done) | (go_bits2; rw [wrap_i16]; omega)

set_option maxRecDepth 100000 in
theorem darg_17 (x : Int) (i : Nat) (op : Nat) (w : World) (hx : 0 ≤ x) (hx2 : x ≤ 4294967295) :
    Calls Tryd.prog 27 #[.int .u16 17, .int .u32 x, .int .i64 i] w fun e w' => e = .returned (valOf (Sp.darg 17 x op)) ∧ Below w.heap.size w w' := by
  go_enter Tryd.func27, Tryd.ntmps27
  go_wp2
  go_ret
  refine ⟨congrArg (fun n => Ending.returned (Value.iface 76 (Value.int IntKind.i16 n))) ?_, Below.refl _ _⟩
  simp [Sp.darg, Sp.field]
  first | (go_bits2; done) | (go_bits2; rw [wrap_i16]; omega)

set_option maxRecDepth 100000 in
theorem darg_18 (x : Int) (i : Nat) (op : Nat) (w : World) (hx : 0 ≤ x) (hx2 : x ≤ 4294967295) :
    Calls Tryd.prog 27 #[.int .u16 18, .int .u32 x, .int .i64 i] w fun e w' => e = .returned (valOf (Sp.darg 18 x op)) ∧ Below w.heap.size w w' := by
  go_enter Tryd.func27, Tryd.ntmps27
  go_wp2
  go_ret
  refine ⟨congrArg (fun n => Ending.returned (Value.iface 76 (Value.int IntKind.i16 n))) ?_, Below.refl _ _⟩
  simp [Sp.darg, Sp.field]
  first | (go_bits2; done) | (go_bits2; rw [wrap_i16]; omega)

set_option maxRecDepth 100000 in
theorem darg_19 (x : Int) (i : Nat) (op : Nat) (w : World) (hx : 0 ≤ x) (hx2 : x ≤ 4294967295) :
    Calls Tryd.prog 27 #[.int .u16 19, .int .u32 x, .int .i64 i] w fun e w' => e = .returned (valOf (Sp.darg 19 x op)) ∧ Below w.heap.size w w' := by
  go_enter Tryd.func27, Tryd.ntmps27
  go_wp2
  go_ret
  refine ⟨congrArg (fun n => Ending.returned (Value.iface 74 (Value.agg #[Value.int IntKind.u32 n, Value.bool false]))) ?_, Below.refl _ _⟩
  simp [Sp.darg, Sp.field]
  first | (go_bits2; done) | (go_bits2; rw [wrap_i16]; omega)

set_option maxRecDepth 100000 in
theorem darg_20 (x : Int) (i : Nat) (op : Nat) (w : World) (hx : 0 ≤ x) (hx2 : x ≤ 4294967295) :
    Calls Tryd.prog 27 #[.int .u16 20, .int .u32 x, .int .i64 i] w fun e w' => e = .returned (valOf (Sp.darg 20 x op)) ∧ Below w.heap.size w w' := by
  go_enter Tryd.func27, Tryd.ntmps27
  go_wp2
  go_ret
  refine ⟨congrArg (fun n => Ending.returned (Value.iface 74 (Value.agg #[Value.int IntKind.u32 n, Value.bool false]))) ?_, Below.refl _ _⟩
  simp [Sp.darg, Sp.field]
  first | (go_bits2; done) | (go_bits2; rw [wrap_i16]; omega)

set_option maxRecDepth 100000 in
theorem darg_21 (x : Int) (i : Nat) (op : Nat) (w : World) (hx : 0 ≤ x) (hx2 : x ≤ 4294967295) :
    Calls Tryd.prog 27 #[.int .u16 21, .int .u32 x, .int .i64 i] w fun e w' => e = .returned (valOf (Sp.darg 21 x op)) ∧ Below w.heap.size w w' := by
  go_enter Tryd.func27, Tryd.ntmps27
  go_wp2
  go_ret
  refine ⟨congrArg (fun n => Ending.returned (Value.iface 74 (Value.agg #[Value.int IntKind.u32 n, Value.bool false]))) ?_, Below.refl _ _⟩
  simp [Sp.darg, Sp.field]
  first | (go_bits2; done) | (go_bits2; rw [wrap_i16]; omega)

set_option maxRecDepth 100000 in
theorem darg_22 (x : Int) (i : Nat) (op : Nat) (w : World) (hx : 0 ≤ x) (hx2 : x ≤ 4294967295) :
    Calls Tryd.prog 27 #[.int .u16 22, .int .u32 x, .int .i64 i] w fun e w' => e = .returned (valOf (Sp.darg 22 x op)) ∧ Below w.heap.size w w' := by
  go_enter Tryd.func27, Tryd.ntmps27
  go_wp2
  go_ret
  refine ⟨congrArg (fun n => Ending.returned (Value.iface 74 (Value.agg #[Value.int IntKind.u32 n, Value.bool false]))) ?_, Below.refl _ _⟩
  simp [Sp.darg, Sp.field]
  first | (go_bits2; done) | (go_bits2; rw [wrap_i16]; omega)

set_option maxRecDepth 100000 in
theorem darg_23 (x : Int) (i : Nat) (op : Nat) (w : World) (hx : 0 ≤ x) (hx2 : x ≤ 4294967295) :
    Calls Tryd.prog 27 #[.int .u16 23, .int .u32 x, .int .i64 i] w fun e w' => e = .returned (valOf (Sp.darg 23 x op)) ∧ Below w.heap.size w w' := by
  go_enter Tryd.func27, Tryd.ntmps27
  go_wp2
  go_ret
  refine ⟨congrArg (fun n => Ending.returned (Value.iface 74 (Value.agg #[Value.int IntKind.u32 n, Value.bool false]))) ?_, Below.refl _ _⟩
  simp [Sp.darg, Sp.field]
  first | (go_bits2; done) | (go_bits2; rw [wrap_i16]; omega)

set_option maxRecDepth 100000 in
theorem darg_24 (x : Int) (i : Nat) (op : Nat) (w : World) (hx : 0 ≤ x) (hx2 : x ≤ 4294967295) :
    Calls Tryd.prog 27 #[.int .u16 24, .int .u32 x, .int .i64 i] w fun e w' => e = .returned (valOf (Sp.darg 24 x op)) ∧ Below w.heap.size w w' := by
  go_enter Tryd.func27, Tryd.ntmps27
  go_wp2
  go_ret
  refine ⟨congrArg (fun n => Ending.returned (Value.iface 74 (Value.agg #[Value.int IntKind.u32 n, Value.bool false]))) ?_, Below.refl _ _⟩
  simp [Sp.darg, Sp.field]
  first | (go_bits2; done) | (go_bits2; rw [wrap_i16]; omega)

set_option maxRecDepth 100000 in
theorem darg_25 (x : Int) (i : Nat) (op : Nat) (w : World) (hx : 0 ≤ x) (hx2 : x ≤ 4294967295) :
    Calls Tryd.prog 27 #[.int .u16 25, .int .u32 x, .int .i64 i] w fun e w' => e = .returned (valOf (Sp.darg 25 x op)) ∧ Below w.heap.size w w' := by
  go_enter Tryd.func27, Tryd.ntmps27
  go_wp2
  go_ret
  refine ⟨congrArg (fun n => Ending.returned (Value.iface 74 (Value.agg #[Value.int IntKind.u32 n, Value.bool false]))) ?_, Below.refl _ _⟩
  simp [Sp.darg, Sp.field]
  first | (go_bits2; done) | (go_bits2; rw [wrap_i16]; omega)

set_option maxRecDepth 100000 in
theorem darg_26 (x : Int) (i : Nat) (op : Nat) (w : World) (hx : 0 ≤ x) (hx2 : x ≤ 4294967295) :
    Calls Tryd.prog 27 #[.int .u16 26, .int .u32 x, .int .i64 i] w fun e w' => e = .returned (valOf (Sp.darg 26 x op)) ∧ Below w.heap.size w w' := by
  go_enter Tryd.func27, Tryd.ntmps27
  go_wp2
  go_ret
  refine ⟨congrArg (fun n => Ending.returned (Value.iface 74 (Value.agg #[Value.int IntKind.u32 n, Value.bool false]))) ?_, Below.refl _ _⟩
  simp [Sp.darg, Sp.field]
  first | (go_bits2; done) | (go_bits2; rw [wrap_i16]; omega)

set_option maxRecDepth 100000 in
theorem darg_27 (x : Int) (i : Nat) (op : Nat) (w : World) (hx : 0 ≤ x) (hx2 : x ≤ 4294967295) :
    Calls Tryd.prog 27 #[.int .u16 27, .int .u32 x, .int .i64 i] w fun e w' => e = .returned (valOf (Sp.darg 27 x op)) ∧ Below w.heap.size w w' := by
  go_enter Tryd.func27, Tryd.ntmps27
  go_wp2
  go_ret
  refine ⟨congrArg (fun n => Ending.returned (Value.iface 74 (Value.agg #[Value.int IntKind.u32 n, Value.bool false]))) ?_, Below.refl _ _⟩
  simp [Sp.darg, Sp.field]
  first | (go_bits2; done) | (go_bits2; rw [wrap_i16]; omega)

set_option maxRecDepth 100000 in
theorem darg_28 (x : Int) (i : Nat) (op : Nat) (w : World) (hx : 0 ≤ x) (hx2 : x ≤ 4294967295) :
    Calls Tryd.prog 27 #[.int .u16 28, .int .u32 x, .int .i64 i] w fun e w' => e = .returned (valOf (Sp.darg 28 x op)) ∧ Below w.heap.size w w' := by
  go_enter Tryd.func27, Tryd.ntmps27
  go_wp2
  go_ret
  refine ⟨congrArg (fun n => Ending.returned (Value.iface 74 (Value.agg #[Value.int IntKind.u32 n, Value.bool false]))) ?_, Below.refl _ _⟩
  simp [Sp.darg, Sp.field]
  first | (go_bits2; done) | (go_bits2; rw [wrap_i16]; omega)

set_option maxRecDepth 100000 in
theorem darg_29 (x : Int) (i : Nat) (op : Nat) (w : World) (hx : 0 ≤ x) (hx2 : x ≤ 4294967295) :
    Calls Tryd.prog 27 #[.int .u16 29, .int .u32 x, .int .i64 i] w fun e w' => e = .returned (valOf (Sp.darg 29 x op)) ∧ Below w.heap.size w w' := by
  go_enter Tryd.func27, Tryd.ntmps27
  go_wp2
  go_ret
  refine ⟨congrArg (fun n => Ending.returned (Value.iface 74 (Value.agg #[Value.int IntKind.u32 n, Value.bool false]))) ?_, Below.refl _ _⟩
  simp [Sp.darg, Sp.field]
  first | (go_bits2; done) | (go_bits2; rw [wrap_i16]; omega)

set_option maxRecDepth 100000 in
theorem darg_30 (x : Int) (i : Nat) (op : Nat) (w : World) (hx : 0 ≤ x) (hx2 : x ≤ 4294967295) :
    Calls Tryd.prog 27 #[.int .u16 30, .int .u32 x, .int .i64 i] w fun e w' => e = .returned (valOf (Sp.darg 30 x op)) ∧ Below w.heap.size w w' := by
  go_enter Tryd.func27, Tryd.ntmps27
  go_wp2
  go_ret
  refine ⟨congrArg (fun n => Ending.returned (Value.iface 74 (Value.agg #[Value.int IntKind.u32 n, Value.bool false]))) ?_, Below.refl _ _⟩
  simp [Sp.darg, Sp.field]
  first | (go_bits2; done) | (go_bits2; rw [wrap_i16]; omega)
end Go.Proofs.YtiffpgjhopicaaaDoor

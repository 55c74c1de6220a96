/-
  The walk of decodeArg at the kinds 1, 2, 3, 4, 5, 6, 7, 8, 9, 10, 11, 12, 13, 14: what each kind reads off the word. Conditions: x is a number of 32 bits.
-/
import Derived.Test.YtiffpgjhopicaaaDoorFmt
namespace Go.Proofs.YtiffpgjhopicaaaDoor
open Go.RowKit Go.BigFrame

/-- A decoded argument as a value of the program. -/
def valOf (d : Sp.D) : Value :=
  match d.ty with
  | 65 => .iface 65 (.int .u16 d.num)
  | 66 => .iface 66 (.int .u8 d.num)
  | 67 => .iface 67 (.int .u8 d.num)
  | 70 => .iface 70 (.agg #[.int .i16 d.num, .int .u8 d.wide])
  | 72 => .iface 72 (.agg #[.int .i32 d.num, .int .u8 d.wide])
  | 74 => .iface 74 (.agg #[.int .u32 d.num, .bool false])
  | 75 => .iface 75 (.agg #[.int .i32 d.num, .int .u8 d.wide])
  | 76 => .iface 76 (.int .i16 d.num)
  | 77 => .iface 77 (.int .i16 d.num)
  | _ => .nilIface
theorem wrap_i16 (n : Int) : IntKind.i16.wrap n = (n + 32768) % 65536 - 32768 := by simp only [IntKind.wrap, IntKind.bits, IntKind.signed]; simp; split <;> omega

set_option maxRecDepth 100000 in
theorem darg_1 (x : Int) (i : Nat) (op : Nat) (w : World) (hx : 0 ≤ x) (hx2 : x ≤ 4294967295) :
    Calls Tryd.prog 27 #[.int .u16 1, .int .u32 x, .int .i64 i] w fun e w' => e = .returned (valOf (Sp.darg 1 x op)) ∧ Below w.heap.size w w' := by
  go_enter Tryd.func27, Tryd.ntmps27
  go_wp2
  go_ret
  refine ⟨congrArg (fun n => Ending.returned (Value.iface 65 (Value.int IntKind.u16 n))) ?_, Below.refl _ _⟩
  simp [Sp.darg, Sp.field]
  first | (go_bits2; done) | (go_bits2; rw [wrap_i16]; omega)

set_option maxRecDepth 100000 in
theorem darg_2 (x : Int) (i : Nat) (op : Nat) (w : World) (hx : 0 ≤ x) (hx2 : x ≤ 4294967295) :
    Calls Tryd.prog 27 #[.int .u16 2, .int .u32 x, .int .i64 i] w fun e w' => e = .returned (valOf (Sp.darg 2 x op)) ∧ Below w.heap.size w w' := by
  go_enter Tryd.func27, Tryd.ntmps27
  go_wp2
  go_ret
  refine ⟨congrArg (fun n => Ending.returned (Value.iface 65 (Value.int IntKind.u16 n))) ?_, Below.refl _ _⟩
  simp [Sp.darg, Sp.field]
  first | (go_bits2; done) | (go_bits2; rw [wrap_i16]; omega)

set_option maxRecDepth 100000 in
theorem darg_3 (x : Int) (i : Nat) (op : Nat) (w : World) (hx : 0 ≤ x) (hx2 : x ≤ 4294967295) :
    Calls Tryd.prog 27 #[.int .u16 3, .int .u32 x, .int .i64 i] w fun e w' => e = .returned (valOf (Sp.darg 3 x op)) ∧ Below w.heap.size w w' := by
  go_enter Tryd.func27, Tryd.ntmps27
  go_wp2
  go_ret
  refine ⟨congrArg (fun n => Ending.returned (Value.iface 65 (Value.int IntKind.u16 n))) ?_, Below.refl _ _⟩
  simp [Sp.darg, Sp.field]
  first | (go_bits2; done) | (go_bits2; rw [wrap_i16]; omega)

set_option maxRecDepth 100000 in
theorem darg_4 (x : Int) (i : Nat) (op : Nat) (w : World) (hx : 0 ≤ x) (hx2 : x ≤ 4294967295) :
    Calls Tryd.prog 27 #[.int .u16 4, .int .u32 x, .int .i64 i] w fun e w' => e = .returned (valOf (Sp.darg 4 x op)) ∧ Below w.heap.size w w' := by
  go_enter Tryd.func27, Tryd.ntmps27
  go_wp2
  go_ret
  refine ⟨congrArg (fun n => Ending.returned (Value.iface 65 (Value.int IntKind.u16 n))) ?_, Below.refl _ _⟩
  simp [Sp.darg, Sp.field]
  first | (go_bits2; done) | (go_bits2; rw [wrap_i16]; omega)

set_option maxRecDepth 100000 in
theorem darg_5 (x : Int) (i : Nat) (op : Nat) (w : World) (hx : 0 ≤ x) (hx2 : x ≤ 4294967295) :
    Calls Tryd.prog 27 #[.int .u16 5, .int .u32 x, .int .i64 i] w fun e w' => e = .returned (valOf (Sp.darg 5 x op)) ∧ Below w.heap.size w w' := by
  go_enter Tryd.func27, Tryd.ntmps27
  go_wp2
  go_ret
  refine ⟨congrArg (fun n => Ending.returned (Value.iface 65 (Value.int IntKind.u16 n))) ?_, Below.refl _ _⟩
  simp [Sp.darg, Sp.field]
  first | (go_bits2; done) | (go_bits2; rw [wrap_i16]; omega)

set_option maxRecDepth 100000 in
theorem darg_6 (x : Int) (i : Nat) (op : Nat) (w : World) (hx : 0 ≤ x) (hx2 : x ≤ 4294967295) :
    Calls Tryd.prog 27 #[.int .u16 6, .int .u32 x, .int .i64 i] w fun e w' => e = .returned (valOf (Sp.darg 6 x op)) ∧ Below w.heap.size w w' := by
  go_enter Tryd.func27, Tryd.ntmps27
  go_wp2
  go_ret
  refine ⟨congrArg (fun n => Ending.returned (Value.iface 65 (Value.int IntKind.u16 n))) ?_, Below.refl _ _⟩
  simp [Sp.darg, Sp.field]
  first | (go_bits2; done) | (go_bits2; rw [wrap_i16]; omega)

set_option maxRecDepth 100000 in
theorem darg_7 (x : Int) (i : Nat) (op : Nat) (w : World) (hx : 0 ≤ x) (hx2 : x ≤ 4294967295) :
    Calls Tryd.prog 27 #[.int .u16 7, .int .u32 x, .int .i64 i] w fun e w' => e = .returned (valOf (Sp.darg 7 x op)) ∧ Below w.heap.size w w' := by
  go_enter Tryd.func27, Tryd.ntmps27
  go_wp2
  go_ret
  refine ⟨congrArg (fun n => Ending.returned (Value.iface 65 (Value.int IntKind.u16 n))) ?_, Below.refl _ _⟩
  simp [Sp.darg, Sp.field]
  first | (go_bits2; done) | (go_bits2; rw [wrap_i16]; omega)

set_option maxRecDepth 100000 in
theorem darg_8 (x : Int) (i : Nat) (op : Nat) (w : World) (hx : 0 ≤ x) (hx2 : x ≤ 4294967295) :
    Calls Tryd.prog 27 #[.int .u16 8, .int .u32 x, .int .i64 i] w fun e w' => e = .returned (valOf (Sp.darg 8 x op)) ∧ Below w.heap.size w w' := by
  go_enter Tryd.func27, Tryd.ntmps27
  go_wp2
  go_ret
  refine ⟨congrArg (fun n => Ending.returned (Value.iface 74 (Value.agg #[Value.int IntKind.u32 n, Value.bool false]))) ?_, Below.refl _ _⟩
  simp [Sp.darg, Sp.field]
  first | (go_bits2; done) | (go_bits2; rw [wrap_i16]; omega)

set_option maxRecDepth 100000 in
theorem darg_9 (x : Int) (i : Nat) (op : Nat) (w : World) (hx : 0 ≤ x) (hx2 : x ≤ 4294967295) :
    Calls Tryd.prog 27 #[.int .u16 9, .int .u32 x, .int .i64 i] w fun e w' => e = .returned (valOf (Sp.darg 9 x op)) ∧ Below w.heap.size w w' := by
  go_enter Tryd.func27, Tryd.ntmps27
  go_wp2
  go_ret
  refine ⟨congrArg (fun n => Ending.returned (Value.iface 67 (Value.int IntKind.u8 n))) ?_, Below.refl _ _⟩
  simp [Sp.darg, Sp.field]
  first | (go_bits2; done) | (go_bits2; rw [wrap_i16]; omega)

set_option maxRecDepth 100000 in
theorem darg_10 (x : Int) (i : Nat) (op : Nat) (w : World) (hx : 0 ≤ x) (hx2 : x ≤ 4294967295) :
    Calls Tryd.prog 27 #[.int .u16 10, .int .u32 x, .int .i64 i] w fun e w' => e = .returned (valOf (Sp.darg 10 x op)) ∧ Below w.heap.size w w' := by
  go_enter Tryd.func27, Tryd.ntmps27
  go_wp2
  go_ret
  refine ⟨congrArg (fun n => Ending.returned (Value.iface 67 (Value.int IntKind.u8 n))) ?_, Below.refl _ _⟩
  simp [Sp.darg, Sp.field]
  first | (go_bits2; done) | (go_bits2; rw [wrap_i16]; omega)

set_option maxRecDepth 100000 in
theorem darg_11 (x : Int) (i : Nat) (op : Nat) (w : World) (hx : 0 ≤ x) (hx2 : x ≤ 4294967295) :
    Calls Tryd.prog 27 #[.int .u16 11, .int .u32 x, .int .i64 i] w fun e w' => e = .returned (valOf (Sp.darg 11 x op)) ∧ Below w.heap.size w w' := by
  go_enter Tryd.func27, Tryd.ntmps27
  go_wp2
  go_ret
  refine ⟨congrArg (fun n => Ending.returned (Value.iface 74 (Value.agg #[Value.int IntKind.u32 n, Value.bool false]))) ?_, Below.refl _ _⟩
  simp [Sp.darg, Sp.field]
  first | (go_bits2; done) | (go_bits2; rw [wrap_i16]; omega)

set_option maxRecDepth 100000 in
theorem darg_12 (x : Int) (i : Nat) (op : Nat) (w : World) (hx : 0 ≤ x) (hx2 : x ≤ 4294967295) :
    Calls Tryd.prog 27 #[.int .u16 12, .int .u32 x, .int .i64 i] w fun e w' => e = .returned (valOf (Sp.darg 12 x op)) ∧ Below w.heap.size w w' := by
  go_enter Tryd.func27, Tryd.ntmps27
  go_wp2
  go_ret
  refine ⟨congrArg (fun n => Ending.returned (Value.iface 66 (Value.int IntKind.u8 n))) ?_, Below.refl _ _⟩
  simp [Sp.darg, Sp.field]
  first | (go_bits2; done) | (go_bits2; rw [wrap_i16]; omega)

set_option maxRecDepth 100000 in
theorem darg_13 (x : Int) (i : Nat) (op : Nat) (w : World) (hx : 0 ≤ x) (hx2 : x ≤ 4294967295) :
    Calls Tryd.prog 27 #[.int .u16 13, .int .u32 x, .int .i64 i] w fun e w' => e = .returned (valOf (Sp.darg 13 x op)) ∧ Below w.heap.size w w' := by
  go_enter Tryd.func27, Tryd.ntmps27
  go_wp2
  go_ret
  refine ⟨congrArg (fun n => Ending.returned (Value.iface 66 (Value.int IntKind.u8 n))) ?_, Below.refl _ _⟩
  simp [Sp.darg, Sp.field]
  first | (go_bits2; done) | (go_bits2; rw [wrap_i16]; omega)

set_option maxRecDepth 100000 in
theorem darg_14 (x : Int) (i : Nat) (op : Nat) (w : World) (hx : 0 ≤ x) (hx2 : x ≤ 4294967295) :
    Calls Tryd.prog 27 #[.int .u16 14, .int .u32 x, .int .i64 i] w fun e w' => e = .returned (valOf (Sp.darg 14 x op)) ∧ Below w.heap.size w w' := by
  go_enter Tryd.func27, Tryd.ntmps27
  go_wp2
  go_ret
  refine ⟨congrArg (fun n => Ending.returned (Value.iface 66 (Value.int IntKind.u8 n))) ?_, Below.refl _ _⟩
  simp [Sp.darg, Sp.field]
  first | (go_bits2; done) | (go_bits2; rw [wrap_i16]; omega)
end Go.Proofs.YtiffpgjhopicaaaDoor

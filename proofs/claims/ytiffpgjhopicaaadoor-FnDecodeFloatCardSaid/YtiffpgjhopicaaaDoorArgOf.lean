/-
  The walk of impl.argOf: an argument as three numbers. Conditions: the argument is one that decodeArg hands back.
-/
import Derived.Test.YtiffpgjhopicaaaDoorDArg
namespace Go.Proofs.YtiffpgjhopicaaaDoor
open Go.RowKit Go.BigFrame

set_option maxRecDepth 100000 in
set_option maxHeartbeats 1000000 in
theorem argOf_65 (n : Int) (w : World) (hb : -4294967296 ≤ n ∧ n ≤ 4294967296) :
    Calls Tryd.prog 22 #[.iface 65 (.int .u16 n)] w fun e w' => e = .returned (.agg #[.int .i64 1, .int .i64 n, .int .i64 0]) ∧ Below w.heap.size w w' := by
  have m65 : ∀ W : World, (Instr.typeAssert (.iface 65 (.int .u16 n)) 41 65 true).run Tryd.prog W = .ok (.tuple #[.int .u16 n, .bool true]) W := fun _ => by kernel_rfl
  go_enter Tryd.func22, Tryd.ntmps22
  go_wp2
  refine bodyPost_ret (v := .agg #[.int .i64 1, .int .i64 n, .int .i64 0]) (by simp [results, Tryd.results22, go_sem]) rfl ⟨rfl, ?_⟩
  repeat' (first | (with_reducible exact Below.refl _ _) | (with_reducible refine Below.alloc ?_ ?_ _) | (with_reducible refine Below.setCell ?_ ?_ _) | (with_reducible exact Nat.le_refl _) | (simp; done))
set_option maxRecDepth 100000 in
set_option maxHeartbeats 1000000 in
theorem argOf_66 (n : Int) (w : World) (hb : -4294967296 ≤ n ∧ n ≤ 4294967296) :
    Calls Tryd.prog 22 #[.iface 66 (.int .u8 n)] w fun e w' => e = .returned (.agg #[.int .i64 2, .int .i64 n, .int .i64 0]) ∧ Below w.heap.size w w' := by
  have m65 : ∀ W : World, (Instr.typeAssert (.iface 66 (.int .u8 n)) 41 65 true).run Tryd.prog W = .ok (.tuple #[.int .u16 0, .bool false]) W := fun _ => by kernel_rfl
  have m66 : ∀ W : World, (Instr.typeAssert (.iface 66 (.int .u8 n)) 41 66 true).run Tryd.prog W = .ok (.tuple #[.int .u8 n, .bool true]) W := fun _ => by kernel_rfl
  go_enter Tryd.func22, Tryd.ntmps22
  go_wp2
  refine bodyPost_ret (v := .agg #[.int .i64 2, .int .i64 n, .int .i64 0]) (by simp [results, Tryd.results22, go_sem]) rfl ⟨rfl, ?_⟩
  repeat' (first | (with_reducible exact Below.refl _ _) | (with_reducible refine Below.alloc ?_ ?_ _) | (with_reducible refine Below.setCell ?_ ?_ _) | (with_reducible exact Nat.le_refl _) | (simp; done))
set_option maxRecDepth 100000 in
set_option maxHeartbeats 1000000 in
theorem argOf_67 (n : Int) (w : World) (hb : -4294967296 ≤ n ∧ n ≤ 4294967296) :
    Calls Tryd.prog 22 #[.iface 67 (.int .u8 n)] w fun e w' => e = .returned (.agg #[.int .i64 3, .int .i64 n, .int .i64 0]) ∧ Below w.heap.size w w' := by
  have m65 : ∀ W : World, (Instr.typeAssert (.iface 67 (.int .u8 n)) 41 65 true).run Tryd.prog W = .ok (.tuple #[.int .u16 0, .bool false]) W := fun _ => by kernel_rfl
  have m66 : ∀ W : World, (Instr.typeAssert (.iface 67 (.int .u8 n)) 41 66 true).run Tryd.prog W = .ok (.tuple #[.int .u8 0, .bool false]) W := fun _ => by kernel_rfl
  have m67 : ∀ W : World, (Instr.typeAssert (.iface 67 (.int .u8 n)) 41 67 true).run Tryd.prog W = .ok (.tuple #[.int .u8 n, .bool true]) W := fun _ => by kernel_rfl
  go_enter Tryd.func22, Tryd.ntmps22
  go_wp2
  refine bodyPost_ret (v := .agg #[.int .i64 3, .int .i64 n, .int .i64 0]) (by simp [results, Tryd.results22, go_sem]) rfl ⟨rfl, ?_⟩
  repeat' (first | (with_reducible exact Below.refl _ _) | (with_reducible refine Below.alloc ?_ ?_ _) | (with_reducible refine Below.setCell ?_ ?_ _) | (with_reducible exact Nat.le_refl _) | (simp; done))
set_option maxRecDepth 100000 in
set_option maxHeartbeats 1000000 in
theorem argOf_70 (n wd : Int) (w : World) (hb : -4294967296 ≤ n ∧ n ≤ 4294967296) :
    Calls Tryd.prog 22 #[.iface 70 (.agg #[.int .i16 n, .int .u8 wd])] w fun e w' => e = .returned (.agg #[.int .i64 4, .int .i64 0, .int .i64 n]) ∧ Below w.heap.size w w' := by
  have m65 : ∀ W : World, (Instr.typeAssert (.iface 70 (.agg #[.int .i16 n, .int .u8 wd])) 41 65 true).run Tryd.prog W = .ok (.tuple #[.int .u16 0, .bool false]) W := fun _ => by kernel_rfl
  have m66 : ∀ W : World, (Instr.typeAssert (.iface 70 (.agg #[.int .i16 n, .int .u8 wd])) 41 66 true).run Tryd.prog W = .ok (.tuple #[.int .u8 0, .bool false]) W := fun _ => by kernel_rfl
  have m67 : ∀ W : World, (Instr.typeAssert (.iface 70 (.agg #[.int .i16 n, .int .u8 wd])) 41 67 true).run Tryd.prog W = .ok (.tuple #[.int .u8 0, .bool false]) W := fun _ => by kernel_rfl
  have m70 : ∀ W : World, (Instr.typeAssert (.iface 70 (.agg #[.int .i16 n, .int .u8 wd])) 41 70 true).run Tryd.prog W = .ok (.tuple #[.agg #[.int .i16 n, .int .u8 wd], .bool true]) W := fun _ => by kernel_rfl
  go_enter Tryd.func22, Tryd.ntmps22
  go_wp2
  refine bodyPost_ret (v := .agg #[.int .i64 4, .int .i64 0, .int .i64 n]) (by simp [results, Tryd.results22, go_sem]) rfl ⟨rfl, ?_⟩
  repeat' (first | (with_reducible exact Below.refl _ _) | (with_reducible refine Below.alloc ?_ ?_ _) | (with_reducible refine Below.setCell ?_ ?_ _) | (with_reducible exact Nat.le_refl _) | (simp; done))
set_option maxRecDepth 100000 in
set_option maxHeartbeats 1000000 in
theorem argOf_72 (n wd : Int) (w : World) (hb : -4294967296 ≤ n ∧ n ≤ 4294967296) :
    Calls Tryd.prog 22 #[.iface 72 (.agg #[.int .i32 n, .int .u8 wd])] w fun e w' => e = .returned (.agg #[.int .i64 4, .int .i64 0, .int .i64 n]) ∧ Below w.heap.size w w' := by
  have m65 : ∀ W : World, (Instr.typeAssert (.iface 72 (.agg #[.int .i32 n, .int .u8 wd])) 41 65 true).run Tryd.prog W = .ok (.tuple #[.int .u16 0, .bool false]) W := fun _ => by kernel_rfl
  have m66 : ∀ W : World, (Instr.typeAssert (.iface 72 (.agg #[.int .i32 n, .int .u8 wd])) 41 66 true).run Tryd.prog W = .ok (.tuple #[.int .u8 0, .bool false]) W := fun _ => by kernel_rfl
  have m67 : ∀ W : World, (Instr.typeAssert (.iface 72 (.agg #[.int .i32 n, .int .u8 wd])) 41 67 true).run Tryd.prog W = .ok (.tuple #[.int .u8 0, .bool false]) W := fun _ => by kernel_rfl
  have m70 : ∀ W : World, (Instr.typeAssert (.iface 72 (.agg #[.int .i32 n, .int .u8 wd])) 41 70 true).run Tryd.prog W = .ok (.tuple #[.agg #[.int .i16 0, .int .u8 0], .bool false]) W := fun _ => by kernel_rfl
  have m72 : ∀ W : World, (Instr.typeAssert (.iface 72 (.agg #[.int .i32 n, .int .u8 wd])) 41 72 true).run Tryd.prog W = .ok (.tuple #[.agg #[.int .i32 n, .int .u8 wd], .bool true]) W := fun _ => by kernel_rfl
  go_enter Tryd.func22, Tryd.ntmps22
  go_wp2
  refine bodyPost_ret (v := .agg #[.int .i64 4, .int .i64 0, .int .i64 n]) (by simp [results, Tryd.results22, go_sem]) rfl ⟨rfl, ?_⟩
  repeat' (first | (with_reducible exact Below.refl _ _) | (with_reducible refine Below.alloc ?_ ?_ _) | (with_reducible refine Below.setCell ?_ ?_ _) | (with_reducible exact Nat.le_refl _) | (simp; done))
set_option maxRecDepth 100000 in
set_option maxHeartbeats 1000000 in
theorem argOf_74 (n : Int) (w : World) (hb : -4294967296 ≤ n ∧ n ≤ 4294967296) :
    Calls Tryd.prog 22 #[.iface 74 (.agg #[.int .u32 n, .bool false])] w fun e w' => e = .returned (.agg #[.int .i64 5, .int .i64 0, .int .i64 n]) ∧ Below w.heap.size w w' := by
  have m65 : ∀ W : World, (Instr.typeAssert (.iface 74 (.agg #[.int .u32 n, .bool false])) 41 65 true).run Tryd.prog W = .ok (.tuple #[.int .u16 0, .bool false]) W := fun _ => by kernel_rfl
  have m66 : ∀ W : World, (Instr.typeAssert (.iface 74 (.agg #[.int .u32 n, .bool false])) 41 66 true).run Tryd.prog W = .ok (.tuple #[.int .u8 0, .bool false]) W := fun _ => by kernel_rfl
  have m67 : ∀ W : World, (Instr.typeAssert (.iface 74 (.agg #[.int .u32 n, .bool false])) 41 67 true).run Tryd.prog W = .ok (.tuple #[.int .u8 0, .bool false]) W := fun _ => by kernel_rfl
  have m70 : ∀ W : World, (Instr.typeAssert (.iface 74 (.agg #[.int .u32 n, .bool false])) 41 70 true).run Tryd.prog W = .ok (.tuple #[.agg #[.int .i16 0, .int .u8 0], .bool false]) W := fun _ => by kernel_rfl
  have m72 : ∀ W : World, (Instr.typeAssert (.iface 74 (.agg #[.int .u32 n, .bool false])) 41 72 true).run Tryd.prog W = .ok (.tuple #[.agg #[.int .i32 0, .int .u8 0], .bool false]) W := fun _ => by kernel_rfl
  have m74 : ∀ W : World, (Instr.typeAssert (.iface 74 (.agg #[.int .u32 n, .bool false])) 41 74 true).run Tryd.prog W = .ok (.tuple #[.agg #[.int .u32 n, .bool false], .bool true]) W := fun _ => by kernel_rfl
  go_enter Tryd.func22, Tryd.ntmps22
  go_wp2
  refine bodyPost_ret (v := .agg #[.int .i64 5, .int .i64 0, .int .i64 n]) (by simp [results, Tryd.results22, go_sem]) rfl ⟨rfl, ?_⟩
  repeat' (first | (with_reducible exact Below.refl _ _) | (with_reducible refine Below.alloc ?_ ?_ _) | (with_reducible refine Below.setCell ?_ ?_ _) | (with_reducible exact Nat.le_refl _) | (simp; done))
set_option maxRecDepth 100000 in
set_option maxHeartbeats 1000000 in
theorem argOf_75 (n wd : Int) (w : World) (hb : -4294967296 ≤ n ∧ n ≤ 4294967296) :
    Calls Tryd.prog 22 #[.iface 75 (.agg #[.int .i32 n, .int .u8 wd])] w fun e w' => e = .returned (.agg #[.int .i64 6, .int .i64 0, .int .i64 n]) ∧ Below w.heap.size w w' := by
  have m65 : ∀ W : World, (Instr.typeAssert (.iface 75 (.agg #[.int .i32 n, .int .u8 wd])) 41 65 true).run Tryd.prog W = .ok (.tuple #[.int .u16 0, .bool false]) W := fun _ => by kernel_rfl
  have m66 : ∀ W : World, (Instr.typeAssert (.iface 75 (.agg #[.int .i32 n, .int .u8 wd])) 41 66 true).run Tryd.prog W = .ok (.tuple #[.int .u8 0, .bool false]) W := fun _ => by kernel_rfl
  have m67 : ∀ W : World, (Instr.typeAssert (.iface 75 (.agg #[.int .i32 n, .int .u8 wd])) 41 67 true).run Tryd.prog W = .ok (.tuple #[.int .u8 0, .bool false]) W := fun _ => by kernel_rfl
  have m70 : ∀ W : World, (Instr.typeAssert (.iface 75 (.agg #[.int .i32 n, .int .u8 wd])) 41 70 true).run Tryd.prog W = .ok (.tuple #[.agg #[.int .i16 0, .int .u8 0], .bool false]) W := fun _ => by kernel_rfl
  have m72 : ∀ W : World, (Instr.typeAssert (.iface 75 (.agg #[.int .i32 n, .int .u8 wd])) 41 72 true).run Tryd.prog W = .ok (.tuple #[.agg #[.int .i32 0, .int .u8 0], .bool false]) W := fun _ => by kernel_rfl
  have m74 : ∀ W : World, (Instr.typeAssert (.iface 75 (.agg #[.int .i32 n, .int .u8 wd])) 41 74 true).run Tryd.prog W = .ok (.tuple #[.agg #[.int .u32 0, .bool false], .bool false]) W := fun _ => by kernel_rfl
  have m75 : ∀ W : World, (Instr.typeAssert (.iface 75 (.agg #[.int .i32 n, .int .u8 wd])) 41 75 true).run Tryd.prog W = .ok (.tuple #[.agg #[.int .i32 n, .int .u8 wd], .bool true]) W := fun _ => by kernel_rfl
  go_enter Tryd.func22, Tryd.ntmps22
  go_wp2
  refine bodyPost_ret (v := .agg #[.int .i64 6, .int .i64 0, .int .i64 n]) (by simp [results, Tryd.results22, go_sem]) rfl ⟨rfl, ?_⟩
  repeat' (first | (with_reducible exact Below.refl _ _) | (with_reducible refine Below.alloc ?_ ?_ _) | (with_reducible refine Below.setCell ?_ ?_ _) | (with_reducible exact Nat.le_refl _) | (simp; done))
set_option maxRecDepth 100000 in
set_option maxHeartbeats 1000000 in
theorem argOf_76 (n : Int) (w : World) (hb : -4294967296 ≤ n ∧ n ≤ 4294967296) :
    Calls Tryd.prog 22 #[.iface 76 (.int .i16 n)] w fun e w' => e = .returned (.agg #[.int .i64 7, .int .i64 0, .int .i64 n]) ∧ Below w.heap.size w w' := by
  have m65 : ∀ W : World, (Instr.typeAssert (.iface 76 (.int .i16 n)) 41 65 true).run Tryd.prog W = .ok (.tuple #[.int .u16 0, .bool false]) W := fun _ => by kernel_rfl
  have m66 : ∀ W : World, (Instr.typeAssert (.iface 76 (.int .i16 n)) 41 66 true).run Tryd.prog W = .ok (.tuple #[.int .u8 0, .bool false]) W := fun _ => by kernel_rfl
  have m67 : ∀ W : World, (Instr.typeAssert (.iface 76 (.int .i16 n)) 41 67 true).run Tryd.prog W = .ok (.tuple #[.int .u8 0, .bool false]) W := fun _ => by kernel_rfl
  have m70 : ∀ W : World, (Instr.typeAssert (.iface 76 (.int .i16 n)) 41 70 true).run Tryd.prog W = .ok (.tuple #[.agg #[.int .i16 0, .int .u8 0], .bool false]) W := fun _ => by kernel_rfl
  have m72 : ∀ W : World, (Instr.typeAssert (.iface 76 (.int .i16 n)) 41 72 true).run Tryd.prog W = .ok (.tuple #[.agg #[.int .i32 0, .int .u8 0], .bool false]) W := fun _ => by kernel_rfl
  have m74 : ∀ W : World, (Instr.typeAssert (.iface 76 (.int .i16 n)) 41 74 true).run Tryd.prog W = .ok (.tuple #[.agg #[.int .u32 0, .bool false], .bool false]) W := fun _ => by kernel_rfl
  have m75 : ∀ W : World, (Instr.typeAssert (.iface 76 (.int .i16 n)) 41 75 true).run Tryd.prog W = .ok (.tuple #[.agg #[.int .i32 0, .int .u8 0], .bool false]) W := fun _ => by kernel_rfl
  have m76 : ∀ W : World, (Instr.typeAssert (.iface 76 (.int .i16 n)) 41 76 true).run Tryd.prog W = .ok (.tuple #[.int .i16 n, .bool true]) W := fun _ => by kernel_rfl
  go_enter Tryd.func22, Tryd.ntmps22
  go_wp2
  refine bodyPost_ret (v := .agg #[.int .i64 7, .int .i64 0, .int .i64 n]) (by simp [results, Tryd.results22, go_sem]) rfl ⟨rfl, ?_⟩
  repeat' (first | (with_reducible exact Below.refl _ _) | (with_reducible refine Below.alloc ?_ ?_ _) | (with_reducible refine Below.setCell ?_ ?_ _) | (with_reducible exact Nat.le_refl _) | (simp; done))
set_option maxRecDepth 100000 in
set_option maxHeartbeats 1000000 in
theorem argOf_77 (n : Int) (w : World) (hb : -4294967296 ≤ n ∧ n ≤ 4294967296) :
    Calls Tryd.prog 22 #[.iface 77 (.int .i16 n)] w fun e w' => e = .returned (.agg #[.int .i64 8, .int .i64 0, .int .i64 n]) ∧ Below w.heap.size w w' := by
  have m65 : ∀ W : World, (Instr.typeAssert (.iface 77 (.int .i16 n)) 41 65 true).run Tryd.prog W = .ok (.tuple #[.int .u16 0, .bool false]) W := fun _ => by kernel_rfl
  have m66 : ∀ W : World, (Instr.typeAssert (.iface 77 (.int .i16 n)) 41 66 true).run Tryd.prog W = .ok (.tuple #[.int .u8 0, .bool false]) W := fun _ => by kernel_rfl
  have m67 : ∀ W : World, (Instr.typeAssert (.iface 77 (.int .i16 n)) 41 67 true).run Tryd.prog W = .ok (.tuple #[.int .u8 0, .bool false]) W := fun _ => by kernel_rfl
  have m70 : ∀ W : World, (Instr.typeAssert (.iface 77 (.int .i16 n)) 41 70 true).run Tryd.prog W = .ok (.tuple #[.agg #[.int .i16 0, .int .u8 0], .bool false]) W := fun _ => by kernel_rfl
  have m72 : ∀ W : World, (Instr.typeAssert (.iface 77 (.int .i16 n)) 41 72 true).run Tryd.prog W = .ok (.tuple #[.agg #[.int .i32 0, .int .u8 0], .bool false]) W := fun _ => by kernel_rfl
  have m74 : ∀ W : World, (Instr.typeAssert (.iface 77 (.int .i16 n)) 41 74 true).run Tryd.prog W = .ok (.tuple #[.agg #[.int .u32 0, .bool false], .bool false]) W := fun _ => by kernel_rfl
  have m75 : ∀ W : World, (Instr.typeAssert (.iface 77 (.int .i16 n)) 41 75 true).run Tryd.prog W = .ok (.tuple #[.agg #[.int .i32 0, .int .u8 0], .bool false]) W := fun _ => by kernel_rfl
  have m76 : ∀ W : World, (Instr.typeAssert (.iface 77 (.int .i16 n)) 41 76 true).run Tryd.prog W = .ok (.tuple #[.int .i16 0, .bool false]) W := fun _ => by kernel_rfl
  have m77 : ∀ W : World, (Instr.typeAssert (.iface 77 (.int .i16 n)) 41 77 true).run Tryd.prog W = .ok (.tuple #[.int .i16 n, .bool true]) W := fun _ => by kernel_rfl
  go_enter Tryd.func22, Tryd.ntmps22
  go_wp2
  refine bodyPost_ret (v := .agg #[.int .i64 8, .int .i64 0, .int .i64 n]) (by simp [results, Tryd.results22, go_sem]) rfl ⟨rfl, ?_⟩
  repeat' (first | (with_reducible exact Below.refl _ _) | (with_reducible refine Below.alloc ?_ ?_ _) | (with_reducible refine Below.setCell ?_ ?_ _) | (with_reducible exact Nat.le_refl _) | (simp; done))

theorem argOf_any (d : Sp.D) (w : World) (ht : d.ty ∈ types) (hb : -4294967296 ≤ d.num ∧ d.num ≤ 4294967296) :
    Calls Tryd.prog 22 #[.iface (ifT d) (ifV d)] w fun e w' => e = .returned (.agg #[.int .i64 (Sp.dA d).kind, .int .i64 (Sp.dA d).reg, .int .i64 (Sp.dA d).num]) ∧ Below w.heap.size w w' := by
  obtain ⟨t, n, wd⟩ := d
  simp only at hb
  simp only [types, List.mem_cons, List.not_mem_nil, or_false] at ht
  rcases ht with rfl | rfl | rfl | rfl | rfl | rfl | rfl | rfl | rfl
  · exact argOf_65 n w hb
  · exact argOf_66 n w hb
  · exact argOf_67 n w hb
  · exact argOf_70 n wd w hb
  · exact argOf_72 n wd w hb
  · exact argOf_74 n w hb
  · exact argOf_75 n wd w hb
  · exact argOf_76 n w hb
  · exact argOf_77 n w hb
end Go.Proofs.YtiffpgjhopicaaaDoor

/-
  The walk of decodeArg at every kind that the table holds. Conditions: x is a number of 32 bits, the index lies in the table.
-/
import Derived.Test.YtiffpgjhopicaaaDoorDArgB
import Derived.Test.YtiffpgjhopicaaaDoorDArgC
namespace Go.Proofs.YtiffpgjhopicaaaDoor
open Go.RowKit

/-- The dynamic type and the value inside of a decoded argument. -/
def ifT (d : Sp.D) : TypeId := d.ty
def ifV (d : Sp.D) : Value :=
  match d.ty with
  | 65 => .int .u16 d.num
  | 66 => .int .u8 d.num
  | 67 => .int .u8 d.num
  | 70 => .agg #[.int .i16 d.num, .int .u8 d.wide]
  | 72 => .agg #[.int .i32 d.num, .int .u8 d.wide]
  | 74 => .agg #[.int .u32 d.num, .bool false]
  | 75 => .agg #[.int .i32 d.num, .int .u8 d.wide]
  | 76 => .int .i16 d.num
  | 77 => .int .i16 d.num
  | _ => .nilIface
def types : List Nat := [65, 66, 67, 70, 72, 74, 75, 76, 77]
theorem valOf_eq {d : Sp.D} (h : d.ty ∈ types) : valOf d = .iface (ifT d) (ifV d) := by
  obtain ⟨t, n, w⟩ := d
  simp only [types, List.mem_cons, List.not_mem_nil, or_false] at h
  rcases h with rfl | rfl | rfl | rfl | rfl | rfl | rfl | rfl | rfl <;> rfl
theorem kinds {c : Nat} (h1 : 1 ≤ c) (h2 : c ≤ 37) : c = 1 ∨ c = 2 ∨ c = 3 ∨ c = 4 ∨ c = 5 ∨ c = 6 ∨ c = 7 ∨ c = 8 ∨ c = 9 ∨ c = 10 ∨ c = 11 ∨ c = 12 ∨ c = 13 ∨ c = 14 ∨ c = 15 ∨ c = 16 ∨ c = 17 ∨ c = 18 ∨ c = 19 ∨ c = 20 ∨ c = 21 ∨ c = 22 ∨ c = 23 ∨ c = 24 ∨ c = 25 ∨ c = 26 ∨ c = 27 ∨ c = 28 ∨ c = 29 ∨ c = 30 ∨ c = 31 ∨ c = 32 ∨ c = 33 ∨ c = 34 ∨ c = 35 ∨ c = 36 ∨ c = 37 := by omega
theorem darg_ty (c : Nat) (x : Int) (op : Nat) (h1 : 1 ≤ c) (h2 : c ≤ 37) : (Sp.darg c x op).ty ∈ types := by
  rcases kinds h1 h2 with rfl | rfl | rfl | rfl | rfl | rfl | rfl | rfl | rfl | rfl | rfl | rfl | rfl | rfl | rfl | rfl | rfl | rfl | rfl | rfl | rfl | rfl | rfl | rfl | rfl | rfl | rfl | rfl | rfl | rfl | rfl | rfl | rfl | rfl | rfl | rfl | rfl <;> simp only [Sp.darg] <;> decide
theorem darg_all (c : Nat) (x : Int) (i : Nat) (f : Sp.Fmt) (w : World) (hx : 0 ≤ x) (hx2 : x ≤ 4294967295) (hf : Sp.tab[i]? = some f) (h1 : 1 ≤ c) (h2 : c ≤ 37) :
    Calls Tryd.prog 27 #[.int .u16 (c : Int), .int .u32 x, .int .i64 i] w fun e w' => e = .returned (.iface (ifT (Sp.darg c x f.op)) (ifV (Sp.darg c x f.op))) ∧ Below w.heap.size w w' := by
  rw [← valOf_eq (darg_ty c x f.op h1 h2)]
  rcases kinds h1 h2 with rfl | rfl | rfl | rfl | rfl | rfl | rfl | rfl | rfl | rfl | rfl | rfl | rfl | rfl | rfl | rfl | rfl | rfl | rfl | rfl | rfl | rfl | rfl | rfl | rfl | rfl | rfl | rfl | rfl | rfl | rfl | rfl | rfl | rfl | rfl | rfl | rfl
  · exact darg_1 x i f.op w hx hx2
  · exact darg_2 x i f.op w hx hx2
  · exact darg_3 x i f.op w hx hx2
  · exact darg_4 x i f.op w hx hx2
  · exact darg_5 x i f.op w hx hx2
  · exact darg_6 x i f.op w hx hx2
  · exact darg_7 x i f.op w hx hx2
  · exact darg_8 x i f.op w hx hx2
  · exact darg_9 x i f.op w hx hx2
  · exact darg_10 x i f.op w hx hx2
  · exact darg_11 x i f.op w hx hx2
  · exact darg_12 x i f.op w hx hx2
  · exact darg_13 x i f.op w hx hx2
  · exact darg_14 x i f.op w hx hx2
  · exact darg_15 x i f w hx hx2 hf
  · exact darg_16 x i f.op w hx hx2
  · exact darg_17 x i f.op w hx hx2
  · exact darg_18 x i f.op w hx hx2
  · exact darg_19 x i f.op w hx hx2
  · exact darg_20 x i f.op w hx hx2
  · exact darg_21 x i f.op w hx hx2
  · exact darg_22 x i f.op w hx hx2
  · exact darg_23 x i f.op w hx hx2
  · exact darg_24 x i f.op w hx hx2
  · exact darg_25 x i f.op w hx hx2
  · exact darg_26 x i f.op w hx hx2
  · exact darg_27 x i f.op w hx hx2
  · exact darg_28 x i f.op w hx hx2
  · exact darg_29 x i f.op w hx hx2
  · exact darg_30 x i f.op w hx hx2
  · exact darg_31 x i f.op w hx hx2
  · exact darg_32 x i f.op w hx hx2
  · exact darg_33 x i f.op w hx hx2
  · exact darg_34 x i f.op w hx hx2
  · exact darg_35 x i f.op w hx hx2
  · exact darg_36 x i f.op w hx hx2
  · exact darg_37 x i f.op w hx hx2
end Go.Proofs.YtiffpgjhopicaaaDoor

/-
  The walk of decodeArg at the kinds 15, 31, 32, 33, 34, 35, 36, 37: what each kind reads off the word. Conditions: x is a number of 32 bits.
-/
import Derived.Test.YtiffpgjhopicaaaDoorFmt
import Derived.Test.YtiffpgjhopicaaaDoorDArgA
namespace Go.Proofs.YtiffpgjhopicaaaDoor
open Go.RowKit Go.BigFrame

theorem and16 (y : Int) (h0 : 0 ≤ y) (h1 : y ≤ 4294967295) : bits .and .u32 y 65535 = y % 65536 := by rw [u32_and y _ h0 (by omega) (by decide) (by decide)]; simp [nat_mask16]; omega
theorem and21 (y : Int) (h0 : 0 ≤ y) (h1 : y ≤ 4294967295) : bits .and .u32 y 2097151 = y % 2097152 := by rw [u32_and y _ h0 (by omega) (by decide) (by decide)]; simp [nat_mask21]; omega
theorem and26 (y : Int) (h0 : 0 ≤ y) (h1 : y ≤ 4294967295) : bits .and .u32 y 67108863 = y % 67108864 := by rw [u32_and y _ h0 (by omega) (by decide) (by decide)]; simp [nat_mask26]; omega
theorem or16 (a b : Int) (h0 : 0 ≤ a) (h1 : a ≤ 4294967295) (h2 : 0 ≤ b) (h3 : b < 65536) (h4 : a % 65536 = 0) : bits .or .u32 a b = a + b := by
  rw [u32_or a b h0 (by omega) h2 (by omega), nat_join16 _ _ (by omega) (by omega)]
  omega
theorem join21 (x : Int) (hx : 0 ≤ x) (hx2 : x ≤ 4294967295) : bits .and .u32 (bits .or .u32 (x * 65536 % 4294967296) (bits .and .u32 (x / 1024) 65535)) 2097151 = x % 32 * 65536 + x / 1024 % 65536 := by
  rw [and16 _ (by omega) (by omega), or16 _ _ (by omega) (by omega) (by omega) (by omega) (by omega), and21 _ (by omega) (by omega)]
  omega
theorem join26 (x : Int) (hx : 0 ≤ x) (hx2 : x ≤ 4294967295) : bits .and .u32 (bits .or .u32 (x * 65536 % 4294967296) (bits .and .u32 (x / 1024) 65535)) 67108863 = x % 1024 * 65536 + x / 1024 % 65536 := by
  rw [and16 _ (by omega) (by omega), or16 _ _ (by omega) (by omega) (by omega) (by omega) (by omega), and26 _ (by omega) (by omega)]
  omega
theorem off21_eq (x : Int) : Sp.off21 x = if 1048576 ≤ x % 32 * 65536 + x / 1024 % 65536 then x % 32 * 65536 + x / 1024 % 65536 - 2097152 else x % 32 * 65536 + x / 1024 % 65536 := by simp [Sp.off21, Sp.signed, Sp.field]
theorem off26_eq (x : Int) : Sp.off26 x = if 33554432 ≤ x % 1024 * 65536 + x / 1024 % 65536 then x % 1024 * 65536 + x / 1024 % 65536 - 67108864 else x % 1024 * 65536 + x / 1024 % 65536 := by simp [Sp.off26, Sp.signed, Sp.field]

set_option maxRecDepth 100000 in
theorem darg_15 (x : Int) (i : Nat) (f : Sp.Fmt) (w : World) (hx : 0 ≤ x) (hx2 : x ≤ 4294967295) (hf : Sp.tab[i]? = some f) :
    Calls Tryd.prog 27 #[.int .u16 15, .int .u32 x, .int .i64 i] w fun e w' => e = .returned (valOf (Sp.darg 15 x f.op)) ∧ Below w.heap.size w w' := by
  have HF := Lib.hid hf
  clear hf
  have hcase : ∀ b6 b7 b8 : Bool, ((f.op : Int) == 6) = b6 → ((f.op : Int) == 7) = b7 → ((f.op : Int) == 8) = b8 →
      Calls Tryd.prog 27 #[.int .u16 15, .int .u32 x, .int .i64 i] w fun e w' => e = .returned (.iface 77 (.int .i16 (Sp.field x 16 15 + if b6 || b7 || b8 then 1 else 0))) ∧ Below w.heap.size w w' := by
    intro b6 b7 b8 t6 t7 t8
    cases b6
    · cases b7
      · cases b8
        all_goals
          go_enter Tryd.func27, Tryd.ntmps27
          go_wp2_with (go_at_call 26; refine (inst_any _ _ HF.out _).mono ?_; rintro e w' ⟨rfl, rfl⟩; unfold fmtVal fmtCells)
          go_ret
          refine ⟨congrArg (fun n => Ending.returned (Value.iface 77 (Value.int IntKind.i16 n))) ?_, (by repeat' (first | exact Below.refl _ _ | (refine Below.alloc ?_ ?_ _) | (simp; done)))⟩
          simp [Sp.field]
          go_bits2
          (try simp only [wrap_i16])
          omega
      · go_enter Tryd.func27, Tryd.ntmps27
        go_wp2_with (go_at_call 26; refine (inst_any _ _ HF.out _).mono ?_; rintro e w' ⟨rfl, rfl⟩; unfold fmtVal fmtCells)
        go_ret
        refine ⟨congrArg (fun n => Ending.returned (Value.iface 77 (Value.int IntKind.i16 n))) ?_, (by repeat' (first | exact Below.refl _ _ | (refine Below.alloc ?_ ?_ _) | (simp; done)))⟩
        simp [Sp.field]
        go_bits2
        (try simp only [wrap_i16])
        omega
    · go_enter Tryd.func27, Tryd.ntmps27
      go_wp2_with (go_at_call 26; refine (inst_any _ _ HF.out _).mono ?_; rintro e w' ⟨rfl, rfl⟩; unfold fmtVal fmtCells)
      go_ret
      refine ⟨congrArg (fun n => Ending.returned (Value.iface 77 (Value.int IntKind.i16 n))) ?_, (by repeat' (first | exact Below.refl _ _ | (refine Below.alloc ?_ ?_ _) | (simp; done)))⟩
      simp [Sp.field]
      go_bits2
      (try simp only [wrap_i16])
      omega
  refine (hcase _ _ _ rfl rfl rfl).mono fun e w' ⟨he, hb⟩ => ⟨?_, hb⟩
  rw [he]
  have hq : (((f.op : Int) == 6) || ((f.op : Int) == 7) || ((f.op : Int) == 8)) = decide (f.op = 6 ∨ f.op = 7 ∨ f.op = 8) := by rw [Bool.eq_iff_iff]; simp; omega
  rw [hq]
  simp [Sp.darg, valOf]

set_option maxRecDepth 100000 in
theorem darg_31 (x : Int) (i : Nat) (op : Nat) (w : World) (hx : 0 ≤ x) (hx2 : x ≤ 4294967295) :
    Calls Tryd.prog 27 #[.int .u16 31, .int .u32 x, .int .i64 i] w fun e w' => e = .returned (valOf (Sp.darg 31 x op)) ∧ Below w.heap.size w w' := by
  have ht : bits .and .u32 x 2097152 = x / 2097152 % 2 * 2097152 := by rw [u32_and x _ hx (by omega) (by decide) (by decide)]; simp [nat_bit21]; omega
  by_cases hb : x / 2097152 % 2 = 1
  · have t : (bits .and .u32 x 2097152 == 2097152) = true := by rw [ht, hb]; rfl
    clear ht
    go_enter Tryd.func27, Tryd.ntmps27
    go_wp2
    go_ret
    refine ⟨congrArg (fun n => Ending.returned (Value.iface 70 (Value.agg #[Value.int IntKind.i16 n, Value.int IntKind.u8 12]))) ?_, (by repeat' (first | exact Below.refl _ _ | (refine Below.alloc ?_ ?_ _) | (simp; done)))⟩
    simp only [Sp.darg, Sp.field, Sp.signed]
    go_bits2
    (try simp only [wrap_i16])
    simp
    omega
  · have t : (bits .and .u32 x 2097152 == 2097152) = false := by rw [ht]; simp; omega
    clear ht
    go_enter Tryd.func27, Tryd.ntmps27
    go_wp2
    go_ret
    refine ⟨congrArg (fun n => Ending.returned (Value.iface 70 (Value.agg #[Value.int IntKind.i16 n, Value.int IntKind.u8 12]))) ?_, (by repeat' (first | exact Below.refl _ _ | (refine Below.alloc ?_ ?_ _) | (simp; done)))⟩
    simp only [Sp.darg, Sp.field, Sp.signed]
    go_bits2
    (try simp only [wrap_i16])
    simp
    omega

set_option maxRecDepth 100000 in
theorem darg_32 (x : Int) (i : Nat) (op : Nat) (w : World) (hx : 0 ≤ x) (hx2 : x ≤ 4294967295) :
    Calls Tryd.prog 27 #[.int .u16 32, .int .u32 x, .int .i64 i] w fun e w' => e = .returned (valOf (Sp.darg 32 x op)) ∧ Below w.heap.size w w' := by
  have ht : bits .and .u32 x 8388608 = x / 8388608 % 2 * 8388608 := by rw [u32_and x _ hx (by omega) (by decide) (by decide)]; simp [nat_bit23]; omega
  by_cases hb : x / 8388608 % 2 = 1
  · have t : (bits .and .u32 x 8388608 == 8388608) = true := by rw [ht, hb]; rfl
    clear ht
    go_enter Tryd.func27, Tryd.ntmps27
    go_wp2
    go_ret
    refine ⟨congrArg (fun n => Ending.returned (Value.iface 72 (Value.agg #[Value.int IntKind.i32 n, Value.int IntKind.u8 14]))) ?_, (by repeat' (first | exact Below.refl _ _ | (refine Below.alloc ?_ ?_ _) | (simp; done)))⟩
    simp only [Sp.darg, Sp.field, Sp.signed]
    go_bits2
    (try simp only [wrap32])
    simp
    omega
  · have t : (bits .and .u32 x 8388608 == 8388608) = false := by rw [ht]; simp; omega
    clear ht
    go_enter Tryd.func27, Tryd.ntmps27
    go_wp2
    go_ret
    refine ⟨congrArg (fun n => Ending.returned (Value.iface 72 (Value.agg #[Value.int IntKind.i32 n, Value.int IntKind.u8 14]))) ?_, (by repeat' (first | exact Below.refl _ _ | (refine Below.alloc ?_ ?_ _) | (simp; done)))⟩
    simp only [Sp.darg, Sp.field, Sp.signed]
    go_bits2
    (try simp only [wrap32])
    simp
    omega

set_option maxRecDepth 100000 in
theorem darg_33 (x : Int) (i : Nat) (op : Nat) (w : World) (hx : 0 ≤ x) (hx2 : x ≤ 4294967295) :
    Calls Tryd.prog 27 #[.int .u16 33, .int .u32 x, .int .i64 i] w fun e w' => e = .returned (valOf (Sp.darg 33 x op)) ∧ Below w.heap.size w w' := by
  have ht : bits .and .u32 x 33554432 = x / 33554432 % 2 * 33554432 := by rw [u32_and x _ hx (by omega) (by decide) (by decide)]; simp [nat_bit25]; omega
  by_cases hb : x / 33554432 % 2 = 1
  · have t : (bits .and .u32 x 33554432 == 33554432) = true := by rw [ht, hb]; rfl
    clear ht
    go_enter Tryd.func27, Tryd.ntmps27
    go_wp2
    go_ret
    refine ⟨congrArg (fun n => Ending.returned (Value.iface 72 (Value.agg #[Value.int IntKind.i32 n, Value.int IntKind.u8 16]))) ?_, (by repeat' (first | exact Below.refl _ _ | (refine Below.alloc ?_ ?_ _) | (simp; done)))⟩
    simp only [Sp.darg, Sp.field, Sp.signed]
    go_bits2
    (try simp only [wrap32])
    simp
    omega
  · have t : (bits .and .u32 x 33554432 == 33554432) = false := by rw [ht]; simp; omega
    clear ht
    go_enter Tryd.func27, Tryd.ntmps27
    go_wp2
    go_ret
    refine ⟨congrArg (fun n => Ending.returned (Value.iface 72 (Value.agg #[Value.int IntKind.i32 n, Value.int IntKind.u8 16]))) ?_, (by repeat' (first | exact Below.refl _ _ | (refine Below.alloc ?_ ?_ _) | (simp; done)))⟩
    simp only [Sp.darg, Sp.field, Sp.signed]
    go_bits2
    (try simp only [wrap32])
    simp
    omega

set_option maxRecDepth 100000 in
theorem darg_34 (x : Int) (i : Nat) (op : Nat) (w : World) (hx : 0 ≤ x) (hx2 : x ≤ 4294967295) :
    Calls Tryd.prog 27 #[.int .u16 34, .int .u32 x, .int .i64 i] w fun e w' => e = .returned (valOf (Sp.darg 34 x op)) ∧ Below w.heap.size w w' := by
  have ht : bits .and .u32 x 16777216 = x / 16777216 % 2 * 16777216 := by rw [u32_and x _ hx (by omega) (by decide) (by decide)]; simp [nat_bit24]; omega
  by_cases hb : x / 16777216 % 2 = 1
  · have t : (bits .and .u32 x 16777216 == 16777216) = true := by rw [ht, hb]; rfl
    clear ht
    go_enter Tryd.func27, Tryd.ntmps27
    go_wp2
    go_ret
    refine ⟨congrArg (fun n => Ending.returned (Value.iface 72 (Value.agg #[Value.int IntKind.i32 n, Value.int IntKind.u8 20]))) ?_, (by repeat' (first | exact Below.refl _ _ | (refine Below.alloc ?_ ?_ _) | (simp; done)))⟩
    simp only [Sp.darg, Sp.field, Sp.signed]
    go_bits2
    (try simp only [wrap32])
    simp
    omega
  · have t : (bits .and .u32 x 16777216 == 16777216) = false := by rw [ht]; simp; omega
    clear ht
    go_enter Tryd.func27, Tryd.ntmps27
    go_wp2
    go_ret
    refine ⟨congrArg (fun n => Ending.returned (Value.iface 72 (Value.agg #[Value.int IntKind.i32 n, Value.int IntKind.u8 20]))) ?_, (by repeat' (first | exact Below.refl _ _ | (refine Below.alloc ?_ ?_ _) | (simp; done)))⟩
    simp only [Sp.darg, Sp.field, Sp.signed]
    go_bits2
    (try simp only [wrap32])
    simp
    omega

set_option maxRecDepth 100000 in
theorem darg_35 (x : Int) (i : Nat) (op : Nat) (w : World) (hx : 0 ≤ x) (hx2 : x ≤ 4294967295) :
    Calls Tryd.prog 27 #[.int .u16 35, .int .u32 x, .int .i64 i] w fun e w' => e = .returned (valOf (Sp.darg 35 x op)) ∧ Below w.heap.size w w' := by
  have ht : bits .and .u32 x 16 = x / 16 % 2 * 16 := by rw [u32_and x _ hx (by omega) (by decide) (by decide)]; simp [nat_bit4]; omega
  by_cases hb : x / 16 % 2 = 1
  · have t : (bits .and .u32 x 16 == 16) = true := by rw [ht, hb]; rfl
    clear ht
    go_enter Tryd.func27, Tryd.ntmps27
    go_wp2
    go_ret
    refine ⟨congrArg (fun n => Ending.returned (Value.iface 75 (Value.agg #[Value.int IntKind.i32 n, Value.int IntKind.u8 21]))) ?_, (by repeat' (first | exact Below.refl _ _ | (refine Below.alloc ?_ ?_ _) | (simp; done)))⟩
    simp only [Sp.darg]
    rw [join21 x hx hx2, off21_eq]
    have hS : 0 ≤ x % 32 * 65536 + x / 1024 % 65536 ∧ x % 32 * 65536 + x / 1024 % 65536 < 2097152 ∧ 1048576 ≤ x % 32 * 65536 + x / 1024 % 65536 := by omega
    generalize x % 32 * 65536 + x / 1024 % 65536 = S at *
    rw [if_pos hS.2.2]
    go_bits2
    (try simp only [wrap32])
    omega
  · have t : (bits .and .u32 x 16 == 16) = false := by rw [ht]; simp; omega
    clear ht
    go_enter Tryd.func27, Tryd.ntmps27
    go_wp2
    go_ret
    refine ⟨congrArg (fun n => Ending.returned (Value.iface 75 (Value.agg #[Value.int IntKind.i32 n, Value.int IntKind.u8 21]))) ?_, (by repeat' (first | exact Below.refl _ _ | (refine Below.alloc ?_ ?_ _) | (simp; done)))⟩
    simp only [Sp.darg]
    rw [join21 x hx hx2, off21_eq]
    have hS : 0 ≤ x % 32 * 65536 + x / 1024 % 65536 ∧ x % 32 * 65536 + x / 1024 % 65536 < 2097152 ∧ ¬ 1048576 ≤ x % 32 * 65536 + x / 1024 % 65536 := by omega
    generalize x % 32 * 65536 + x / 1024 % 65536 = S at *
    rw [if_neg hS.2.2]
    go_bits2
    (try simp only [wrap32])
    omega

set_option maxRecDepth 100000 in
theorem darg_36 (x : Int) (i : Nat) (op : Nat) (w : World) (hx : 0 ≤ x) (hx2 : x ≤ 4294967295) :
    Calls Tryd.prog 27 #[.int .u16 36, .int .u32 x, .int .i64 i] w fun e w' => e = .returned (valOf (Sp.darg 36 x op)) ∧ Below w.heap.size w w' := by
  have ht : bits .and .u32 x 512 = x / 512 % 2 * 512 := by rw [u32_and x _ hx (by omega) (by decide) (by decide)]; simp [nat_bit9]; omega
  by_cases hb : x / 512 % 2 = 1
  · have t : (bits .and .u32 x 512 == 512) = true := by rw [ht, hb]; rfl
    clear ht
    go_enter Tryd.func27, Tryd.ntmps27
    go_wp2
    go_ret
    refine ⟨congrArg (fun n => Ending.returned (Value.iface 75 (Value.agg #[Value.int IntKind.i32 n, Value.int IntKind.u8 26]))) ?_, (by repeat' (first | exact Below.refl _ _ | (refine Below.alloc ?_ ?_ _) | (simp; done)))⟩
    simp only [Sp.darg]
    rw [join26 x hx hx2, off26_eq]
    have hS : 0 ≤ x % 1024 * 65536 + x / 1024 % 65536 ∧ x % 1024 * 65536 + x / 1024 % 65536 < 67108864 ∧ 33554432 ≤ x % 1024 * 65536 + x / 1024 % 65536 := by omega
    generalize x % 1024 * 65536 + x / 1024 % 65536 = S at *
    rw [if_pos hS.2.2]
    go_bits2
    (try simp only [wrap32])
    omega
  · have t : (bits .and .u32 x 512 == 512) = false := by rw [ht]; simp; omega
    clear ht
    go_enter Tryd.func27, Tryd.ntmps27
    go_wp2
    go_ret
    refine ⟨congrArg (fun n => Ending.returned (Value.iface 75 (Value.agg #[Value.int IntKind.i32 n, Value.int IntKind.u8 26]))) ?_, (by repeat' (first | exact Below.refl _ _ | (refine Below.alloc ?_ ?_ _) | (simp; done)))⟩
    simp only [Sp.darg]
    rw [join26 x hx hx2, off26_eq]
    have hS : 0 ≤ x % 1024 * 65536 + x / 1024 % 65536 ∧ x % 1024 * 65536 + x / 1024 % 65536 < 67108864 ∧ ¬ 33554432 ≤ x % 1024 * 65536 + x / 1024 % 65536 := by omega
    generalize x % 1024 * 65536 + x / 1024 % 65536 = S at *
    rw [if_neg hS.2.2]
    go_bits2
    (try simp only [wrap32])
    omega

set_option maxRecDepth 100000 in
theorem darg_37 (x : Int) (i : Nat) (op : Nat) (w : World) (hx : 0 ≤ x) (hx2 : x ≤ 4294967295) :
    Calls Tryd.prog 27 #[.int .u16 37, .int .u32 x, .int .i64 i] w fun e w' => e = .returned (valOf (Sp.darg 37 x op)) ∧ Below w.heap.size w w' := by
  have ht : bits .and .u32 x 33554432 = x / 33554432 % 2 * 33554432 := by rw [u32_and x _ hx (by omega) (by decide) (by decide)]; simp [nat_bit25]; omega
  by_cases hb : x / 33554432 % 2 = 1
  · have t : (bits .and .u32 x 33554432 == 33554432) = true := by rw [ht, hb]; rfl
    clear ht
    go_enter Tryd.func27, Tryd.ntmps27
    go_wp2
    go_ret
    refine ⟨congrArg (fun n => Ending.returned (Value.iface 75 (Value.agg #[Value.int IntKind.i32 n, Value.int IntKind.u8 16]))) ?_, (by repeat' (first | exact Below.refl _ _ | (refine Below.alloc ?_ ?_ _) | (simp; done)))⟩
    simp only [Sp.darg, Sp.field, Sp.signed, Sp.off16]
    go_bits2
    (try simp only [wrap32])
    simp
    omega
  · have t : (bits .and .u32 x 33554432 == 33554432) = false := by rw [ht]; simp; omega
    clear ht
    go_enter Tryd.func27, Tryd.ntmps27
    go_wp2
    go_ret
    refine ⟨congrArg (fun n => Ending.returned (Value.iface 75 (Value.agg #[Value.int IntKind.i32 n, Value.int IntKind.u8 16]))) ?_, (by repeat' (first | exact Below.refl _ _ | (refine Below.alloc ?_ ?_ _) | (simp; done)))⟩
    simp only [Sp.darg, Sp.field, Sp.signed, Sp.off16]
    go_bits2
    (try simp only [wrap32])
    simp
    omega
end Go.Proofs.YtiffpgjhopicaaaDoor

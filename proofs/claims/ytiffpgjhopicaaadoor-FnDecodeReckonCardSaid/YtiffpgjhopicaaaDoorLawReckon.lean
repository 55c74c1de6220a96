/-
  The walk of the law FnDecodeReckon: it answers true. Conditions: the two errors lie in their variables; the word has 32 bits.
-/
import Derived.Test.YtiffpgjhopicaaaDoorOut
namespace Go.Proofs.YtiffpgjhopicaaaDoor
open Go.RowKit Go.BigFrame

theorem goodReckon {r : Sp.Row} (h : r ∈ Sp.rowsReckon) : rowOk r = true := List.all_eq_true.1 rows_ok r (by simp [h])
set_option maxHeartbeats 4000000 in
theorem lawReckon_none (y i : Int) (w : World) (hi : i < 0 ∨ 97 ≤ i) : Calls Tryd.prog 4 #[.int .u32 y, .int .i64 i] w fun e w' => e = .returned (.bool true) ∧ Below w.heap.size w w' := by
  have HL := fun W => Lib.hid (listed_none y i (some ⟨w.heap.size, 0, none⟩) 97 97 W hi)
  clear hi
  go_enter Tryd.func4, Tryd.ntmps4
  go_wp2_with (fail)
  refine (rowsReckon_any _).mono ?_
  rintro e w1 ⟨rfl, rfl⟩
  have hb1 : Below w.heap.size w (w.alloc (.cells (Sp.rowsReckon.flatMap rowCells).toArray 24)) := (Below.refl _ _).alloc (Nat.le_refl _) _
  generalize (w.alloc (.cells (Sp.rowsReckon.flatMap rowCells).toArray 24)) = W1 at *
  go_wp2_with (fail)
  refine (HL W1).out.mono ?_
  rintro e w2 ⟨rfl, hb2⟩
  go_wp2
  go_ret
  exact ⟨rfl, (below_then hb2 hb1.size hb1).alloc (Nat.le_trans hb1.size hb2.size) _⟩

set_option maxHeartbeats 4000000 in
theorem lawReckon_some (y : Int) (k : Nat) (w : World) (hy : 0 ≤ y ∧ y ≤ 4294967295) (hk : k < 97) : Calls Tryd.prog 4 #[.int .u32 y, .int .i64 k] w fun e w' => e = .returned (.bool true) ∧ Below w.heap.size w w' := by
  obtain ⟨r, hr⟩ : ∃ r, Sp.rowsReckon[k]? = some r := ⟨_, List.getElem?_eq_getElem (by rw [lenReckon]; exact hk)⟩
  obtain ⟨f, x, hx, hx1, hx2, hf, hop, hlen, hs0, hs5, hl⟩ := row_law (goodReckon (List.mem_of_getElem? hr)) y hy
  have c0 := row_cell Sp.rowsReckon hr w 0 (by decide) (u := .int .i64 r.op) rfl
  have c1 := row_cell Sp.rowsReckon hr w 1 (by decide) (u := .int .u32 r.fixed) rfl
  have c2 := row_cell Sp.rowsReckon hr w 2 (by decide) (u := .int .u32 r.mask) rfl
  have c3 := row_cell Sp.rowsReckon hr w 3 (by decide) (u := .string (formOf r)) rfl
  have hb1 : Below w.heap.size w (w.alloc (.cells (Sp.rowsReckon.flatMap rowCells).toArray 24)) := (Below.refl _ _).alloc (Nat.le_refl _) _
  have hg : w.heap.size < (w.alloc (.cells (Sp.rowsReckon.flatMap rowCells).toArray 24)).heap.size := by simp
  have HR := Lib.hid (rowsReckon_any w)
  generalize (w.alloc (.cells (Sp.rowsReckon.flatMap rowCells).toArray 24)) = W1 at *
  have hl1 := listed_some y k w.heap.size 97 97 _ _ _ _ W1 hk hg c0 c1 c2 c3
  rw [hx] at hl1
  have HL1 := Lib.hid hl1
  have HL := Lib.hid hl
  have HB1 := Lib.hid hb1
  have HF := Lib.hid hf
  have HLEN := Lib.hid hlen
  clear hl1 hl hb1 hf hlen c0 c1 c2 c3 hx hr hg
  rw [← hop] at HL1
  generalize hS : formOf r = S at *
  clear hS
  generalize (r.fixed : Int) = rf at *
  generalize (r.mask : Int) = rm at *
  clear hop r
  go_enter Tryd.func4, Tryd.ntmps4
  go_wp2_with (fail)
  refine HR.out.mono ?_
  rintro e w1 ⟨rfl, rfl⟩
  go_wp2_with (fail)
  refine HL1.out.mono ?_
  rintro e w2 ⟨rfl, hb2⟩
  have HB2 := Lib.hid (below_then hb2 HB1.out.size HB1.out)
  clear hb2
  go_wp2_with (fail)
  have q0 : (w2.alloc (Obj.cells #[Value.int IntKind.i64 f.op, Value.int IntKind.u32 rf, Value.int IntKind.u32 rm, Value.string S] 24)).cell? ⟨w2.heap.size, 0, none⟩ = some (.int .i64 f.op) := by simp
  have q3 : (w2.alloc (Obj.cells #[Value.int IntKind.i64 f.op, Value.int IntKind.u32 rf, Value.int IntKind.u32 rm, Value.string S] 24)).cell? ⟨w2.heap.size, 3, none⟩ = some (.string S) := by simp
  have HB3 := Lib.hid (HB2.out.alloc HB2.out.size (Obj.cells #[Value.int IntKind.i64 f.op, Value.int IntKind.u32 rf, Value.int IntKind.u32 rm, Value.string S] 24))
  have hl2 : w2.heap.size < (w2.alloc (Obj.cells #[Value.int IntKind.i64 f.op, Value.int IntKind.u32 rf, Value.int IntKind.u32 rm, Value.string S] 24)).heap.size := by simp
  generalize (w2.alloc (Obj.cells #[Value.int IntKind.i64 f.op, Value.int IntKind.u32 rf, Value.int IntKind.u32 rm, Value.string S] 24)) = W2 at *
  generalize w2.heap.size = b2 at *
  refine (four_any x _ hx1 hx2).mono ?_
  rintro e w3 ⟨rfl, rfl⟩
  have hbl : Below W2.heap.size W2 (W2.alloc (.cells ((fourOf x).map (Value.int .u8)).toArray 5)) := (Below.refl _ _).alloc (Nat.le_refl _) _
  have Q0 := Lib.hid ((hbl.cell (p := ⟨b2, 0, none⟩) hl2).trans q0)
  have Q3 := Lib.hid ((hbl.cell (p := ⟨b2, 3, none⟩) hl2).trans q3)
  have hl3 : b2 < (W2.alloc (.cells ((fourOf x).map (Value.int .u8)).toArray 5)).heap.size := Nat.lt_of_lt_of_le hl2 hbl.size
  have HB4 := Lib.hid (below_then hbl HB3.out.size HB3.out)
  have HFB := Lib.hid (four_bytes x hx1 hx2 W2)
  clear hbl q0 q3
  generalize (W2.alloc (.cells ((fourOf x).map (Value.int .u8)).toArray 5)) = W3 at *
  generalize W2.heap.size = b3 at *
  have hi := impl_ok (.slice (some ⟨b3, 0, none⟩) 4 4) (fourOf x) W3 HFB.out (Nat.le_refl _) f (by rw [four_word]; exact HF.out)
  rw [four_word] at hi
  have HI := Lib.hid hi
  clear hi
  go_wp2_with (fail)
  refine HI.out.mono ?_
  rintro e w4 ⟨v', rfl, hown, hb4⟩
  have Q04 := (hb4.cell (p := ⟨b2, 0, none⟩) hl3).trans Q0.out
  have Q34 := (hb4.cell (p := ⟨b2, 3, none⟩) hl3).trans Q3.out
  have hB5 := below_then hb4 HB4.out.size HB4.out
  have HB5 := Lib.hid hB5
  obtain ⟨g0, cap, rfl, hq⟩ := (args_of hown).val
  obtain ⟨bb, rfl, hbb, _⟩ := hq 0 (by have := HLEN.out; omega)
  have HQ : Hid (∀ i, i < f.args.length → w4.cell? ⟨bb, i * 3, none⟩ = some (.int .i64 (kindF f x i)) ∧ w4.cell? ⟨bb, i * 3 + 1, none⟩ = some (.int .i64 (regF f x i)) ∧ w4.cell? ⟨bb, i * 3 + 2, none⟩ = some (.int .i64 (numF f x i))) := by
    intro i hi
    obtain ⟨b', e, _, h0, h1, h2⟩ := hq i hi
    obtain rfl : bb = b' := by simpa using e
    exact ⟨h0, h1, h2⟩
  clear hown hb4 hB5 hq
  rw [HLEN.out] at HQ ⊢
  have hare := are_true x S (kindF f x) (regF f x) (numF f x) bb cap w4 hx1 hx2 hs5 hbb (fun i hi => (HQ.out i hi).1) (fun i hi => (HQ.out i hi).2.1) (fun i hi => (HQ.out i hi).2.2) HL.out
  have HA := Lib.hid hare
  clear hare
  go_wp2_with (fail)
  refine HA.out.mono ?_
  rintro e w5 ⟨rfl, hb5⟩
  go_wp2
  go_ret
  exact ⟨rfl, below_then hb5 HB5.out.size HB5.out⟩

/-- The law's answer, for any input. -/
theorem lawReckon_any (y i : Int) (w : World) (hy : 0 ≤ y ∧ y ≤ 4294967295) : Calls Tryd.prog 4 #[.int .u32 y, .int .i64 i] w fun e w' => e = .returned (.bool true) ∧ Below w.heap.size w w' := by
  by_cases h : i < 0 ∨ 97 ≤ i
  · exact lawReckon_none y i w h
  · obtain ⟨k, rfl⟩ := Int.eq_ofNat_of_zero_le (a := i) (by omega)
    exact lawReckon_some y k w hy (by omega)
end Go.Proofs.YtiffpgjhopicaaaDoor

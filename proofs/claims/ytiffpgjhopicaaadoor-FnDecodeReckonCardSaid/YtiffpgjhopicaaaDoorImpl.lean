/-
  The walk of impl.Decode: its answer is the format that the word of the first four bytes meets first, and its arguments. Conditions: the bytes can be read; the two errors lie in their variables.
-/
import Derived.Test.YtiffpgjhopicaaaDoorDecA
import Derived.Test.YtiffpgjhopicaaaDoorArgOf
import Derived.Test.YtiffpgjhopicaaaDoorAre
namespace Go.Proofs.YtiffpgjhopicaaaDoor
open Go.RowKit Go.BigFrame

/-- The two errors lie in their variables. -/
structure Errs (w : World) : Prop where
  lt : 1 < w.heap.size
  e0 : ∃ T p, w.cell? ⟨0, 0, none⟩ = some (.iface T (.pointer (some p)))
  e1 : ∃ T p, w.cell? ⟨1, 0, none⟩ = some (.iface T (.pointer (some p)))
theorem Errs.on {w w' : World} (h : Errs w) (hb : Below w.heap.size w w') : Errs w' := by
  have l := h.lt
  refine ⟨Nat.lt_of_lt_of_le l hb.size, ?_, ?_⟩
  · obtain ⟨T, p, he⟩ := h.e0
    exact ⟨T, p, (hb.cell (p := ⟨0, 0, none⟩) (by show 0 < w.heap.size; omega)).trans he⟩
  · obtain ⟨T, p, he⟩ := h.e1
    exact ⟨T, p, (hb.cell (p := ⟨1, 0, none⟩) l).trans he⟩

/-- Nothing is decoded. -/
def Fails (w : World) (e : Ending) (w' : World) : Prop := e = .returned (.tuple #[.int .i64 0, .slice none 0 0, .int .u32 0, .bool false]) ∧ Below w.heap.size w w'
set_option maxHeartbeats 2000000 in
theorem impl_fail (v : Value) (zs : List Int) (w : World) (hv : BytesAt w v zs) (he : Errs w) (hn : zs.length < 4 ∨ findFmt (wordOf zs) = none) :
    Calls Tryd.prog 12 #[v] w (Fails w) := by
  have HV := Lib.hid hv
  have hdec : ∀ v1 w1, w1.ownsRow w.heap.size 5 1 v1 zs.length (zs.map (Value.int .u8)) → Below w.heap.size w w1 → ∃ T p, Calls Tryd.prog 20 #[v1] w1 fun e w' => e = .returned (.tuple #[zeroInst, .iface T (.pointer (some p))]) ∧ Below w1.heap.size w1 w' := by
    intro v1 w1 hown hb
    have h1 := he.on hb
    by_cases h4 : zs.length < 4
    · obtain ⟨T, p, hc⟩ := h1.e0
      exact ⟨T, p, decA_short hown h4 (by have := h1.lt; omega) hc⟩
    · obtain ⟨T, p, hc⟩ := h1.e1
      exact ⟨T, p, decA_none hown hv.fits hv.most (by omega) (hn.resolve_left h4) h1.lt hc⟩
  have HD := Lib.hid hdec
  clear hdec hv he hn
  go_enter Tryd.func12, Tryd.ntmps12
  go_wp2_with fail
  refine (clone_any _ _ _ HV.out).mono ?_
  rintro e w1 ⟨v1, rfl, hown, hb⟩
  obtain ⟨T, p, hd⟩ := HD.out v1 w1 hown hb
  have HDD := Lib.hid hd
  have HO := Lib.hid hown
  clear hd hown
  go_wp2_with (go_at_call 20; refine HDD.out.mono ?_; rintro e w2 ⟨rfl, hb2⟩; unfold zeroInst)
  refine bodyPost_ret (v := .tuple #[.int .i64 0, .slice none 0 0, .int .u32 0, .bool false]) (by simp [results, Tryd.results12, go_sem]) rfl ⟨rfl, ?_⟩
  exact (below_then hb2 hb.size hb).alloc (Nat.le_trans hb.size hb2.size) _

/-- The cells of the first k arguments. -/
def outCells (f : Sp.Fmt) (x : Int) (k : Nat) : List Value := (List.range k).flatMap fun i => [.int .i64 (Sp.dA (argD f x i)).kind, .int .i64 (Sp.dA (argD f x i)).reg, .int .i64 (Sp.dA (argD f x i)).num]
theorem outCells_succ (f : Sp.Fmt) (x : Int) (k : Nat) : outCells f x (k + 1) = outCells f x k ++ [.int .i64 (Sp.dA (argD f x k)).kind, .int .i64 (Sp.dA (argD f x k)).reg, .int .i64 (Sp.dA (argD f x k)).num] := by
  simp [outCells, List.range_succ]
theorem run_idx43 (c0 c1 c2 c3 c4 : Value) (j : Nat) (hj : j < 5) (W : World) : (Instr.index 43 (.agg #[c0, c1, c2, c3, c4]) (.int .i64 (j : Int))).run Tryd.prog W = .ok ([c0, c1, c2, c3, c4].getD j undef) W := by
  rcases (by omega : j = 0 ∨ j = 1 ∨ j = 2 ∨ j = 3 ∨ j = 4) with rfl | rfl | rfl | rfl | rfl <;> kernel_rfl
theorem below_kept {w w' : World} {base : Nat} {e : TypeId} {size : Nat} {v : Value} {n : Nat} {xs : List Value} (h : w.ownsRow base e size v n xs) (hb : Below w.heap.size w w') : w'.ownsRow base e size v n xs :=
  h.kept (row := none) ⟨hb.os, hb.tape, hb.output, hb.size, fun k hk _ => hb.block k hk⟩ (by cases v.ownBlock <;> simp)
theorem ownsRow_less {w : World} {base b2 : Nat} {e : TypeId} {size : Nat} {v : Value} {n : Nat} {xs : List Value} (h : w.ownsRow base e size v n xs) (hb : b2 ≤ base) : w.ownsRow b2 e size v n xs := by
  refine ⟨h.1, ?_⟩
  rcases h.2 with hn | ⟨g, cap, cur, h1, h2, h3⟩
  · exact .inl hn
  · exact .inr ⟨g, cap, cur, h1, Nat.le_trans hb h2, h3⟩
theorem info52 : (Tryd.prog.info? 52).map (fun i => (i.zero, i.size, i.bytes)) = some (some (.agg #[.int .i64 0, .int .i64 0, .int .i64 0]), 3, 24) := by kernel_rfl


theorem darg_bd (c : Nat) (x : Int) (op : Nat) (h1 : 1 ≤ c) (h2 : c ≤ 37) : -4294967296 ≤ (Sp.darg c x op).num ∧ (Sp.darg c x op).num ≤ 4294967296 := by
  have b1 := fun h l => field_bd x h l
  have c4 := field_bd' x 4 0 32 (by decide)
  have c9 := field_bd' x 9 5 32 (by decide)
  have c14 := field_bd' x 14 10 32 (by decide)
  have c19 := field_bd' x 19 15 32 (by decide)
  have c23 := field_bd' x 23 10 16384 (by decide)
  have c2 := field_bd' x 2 0 8 (by decide)
  have c7 := field_bd' x 7 5 8 (by decide)
  have c17 := field_bd' x 17 15 8 (by decide)
  have c16 := field_bd' x 16 15 4 (by decide)
  have d14 := field_bd' x 14 0 32768 (by decide)
  have d15 := field_bd' x 15 10 64 (by decide)
  have d21 := field_bd' x 21 10 4096 (by decide)
  have d20 := field_bd' x 20 16 32 (by decide)
  have e21 := field_bd' x 21 16 64 (by decide)
  have e17 := field_bd' x 17 10 256 (by decide)
  have e25 := field_bd' x 25 10 65536 (by decide)
  have e24 := field_bd' x 24 5 1048576 (by decide)
  have e9 := field_bd' x 9 0 1024 (by decide)
  have s12 : Sp.signed (Sp.field x 21 10) 12 = if 2048 ≤ Sp.field x 21 10 then Sp.field x 21 10 - 4096 else Sp.field x 21 10 := by simp [Sp.signed]
  have s14 : Sp.signed (Sp.field x 23 10) 14 = if 8192 ≤ Sp.field x 23 10 then Sp.field x 23 10 - 16384 else Sp.field x 23 10 := by simp [Sp.signed]
  have s16 : Sp.signed (Sp.field x 25 10) 16 = if 32768 ≤ Sp.field x 25 10 then Sp.field x 25 10 - 65536 else Sp.field x 25 10 := by simp [Sp.signed]
  have s20 : Sp.signed (Sp.field x 24 5) 20 = if 524288 ≤ Sp.field x 24 5 then Sp.field x 24 5 - 1048576 else Sp.field x 24 5 := by simp [Sp.signed]
  have s21 : Sp.off21 x = if 1048576 ≤ Sp.field x 4 0 * 65536 + Sp.field x 25 10 then Sp.field x 4 0 * 65536 + Sp.field x 25 10 - 2097152 else Sp.field x 4 0 * 65536 + Sp.field x 25 10 := by simp [Sp.off21, Sp.signed]
  have s26 : Sp.off26 x = if 33554432 ≤ Sp.field x 9 0 * 65536 + Sp.field x 25 10 then Sp.field x 9 0 * 65536 + Sp.field x 25 10 - 67108864 else Sp.field x 9 0 * 65536 + Sp.field x 25 10 := by simp [Sp.off26, Sp.signed]
  have s16' : Sp.off16 x = Sp.signed (Sp.field x 25 10) 16 := rfl
  clear b1
  rcases kinds h1 h2 with rfl | rfl | rfl | rfl | rfl | rfl | rfl | rfl | rfl | rfl | rfl | rfl | rfl | rfl | rfl | rfl | rfl | rfl | rfl | rfl | rfl | rfl | rfl | rfl | rfl | rfl | rfl | rfl | rfl | rfl | rfl | rfl | rfl | rfl | rfl | rfl | rfl <;> simp only [Sp.darg] <;> (try split) <;> (first | omega | (rw [s16', s16]; split <;> omega) | (rw [s12]; split <;> omega) | (rw [s14]; split <;> omega) | (rw [s16]; split <;> omega) | (rw [s20]; split <;> omega) | (rw [s21]; split <;> omega) | (rw [s26]; split <;> omega))
theorem tab_ops : Sp.tab.all (fun f => decide (f.op < 65536)) = true := by decide +kernel
theorem find_mem {x : Int} {f : Sp.Fmt} (h : findFmt x = some f) : f ∈ Sp.tab := List.mem_of_find?_eq_some h
theorem find_good {x : Int} {f : Sp.Fmt} (h : findFmt x = some f) : goodFmt f = true := List.all_eq_true.1 tab_good f (find_mem h)
theorem find_op {x : Int} {f : Sp.Fmt} (h : findFmt x = some f) : f.op < 65536 := by simpa using List.all_eq_true.1 tab_ops f (find_mem h)

set_option maxHeartbeats 4000000 in
theorem impl_ok0 (v : Value) (zs : List Int) (w : World) (hv : BytesAt w v zs) (hn : 4 ≤ zs.length) (f : Sp.Fmt) (hf : findFmt (wordOf zs) = some f) (hL : f.args.length = 0) :
    Calls Tryd.prog 12 #[v] w fun e w' => ∃ v', e = .returned (.tuple #[.int .i64 f.op, v', .int .u32 (wordOf zs), .bool true]) ∧ w'.ownsRow w.heap.size 52 3 v' 0 (outCells f (wordOf zs) 0) ∧ Below w.heap.size w w' := by
  have HV := Lib.hid hv
  obtain ⟨hx, hx2⟩ := word_bd hv.fits
  have hop := find_op hf
  have hgood := find_good hf
  obtain ⟨i52, hi, hz0, hz1, hz2⟩ := info_parts info52
  obtain ⟨T, hT⟩ : ∃ T : Nat → TypeId, T = fun i => ifT (argD f (wordOf zs) i) := ⟨_, rfl⟩
  obtain ⟨V, hV⟩ : ∃ V : Nat → Value, V = fun i => ifV (argD f (wordOf zs) i) := ⟨_, rfl⟩
  have HA : Hid (∀ j, j < 0 → ∀ W, Calls Tryd.prog 22 #[.iface (T j) (V j)] W fun e w' => e = .returned (.agg #[.int .i64 (Sp.dA (argD f (wordOf zs) j)).kind, .int .i64 (Sp.dA (argD f (wordOf zs) j)).reg, .int .i64 (Sp.dA (argD f (wordOf zs) j)).num]) ∧ Below W.heap.size W w') := by
    intro j hj W
    rw [hT, hV]
    obtain ⟨k1, k2⟩ := good_arg hgood (j := j) (by omega)
    exact argOf_any (argD f (wordOf zs) j) W (darg_ty _ _ _ k1 k2) (darg_bd _ _ _ k1 k2)
  have HI : instVal f (wordOf zs) = .agg #[.int .u16 f.op, .int .u32 (wordOf zs), .nilIface, .nilIface, .nilIface, .nilIface, .nilIface] := by simp [instVal, cellAt, hL]
  have HC : Hid (∀ j, outCells f (wordOf zs) (j + 1) = outCells f (wordOf zs) j ++ [.int .i64 (Sp.dA (argD f (wordOf zs) j)).kind, .int .i64 (Sp.dA (argD f (wordOf zs) j)).reg, .int .i64 (Sp.dA (argD f (wordOf zs) j)).num]) := fun j => outCells_succ _ _ _
  have HD : Hid (∀ v1 w1, w1.ownsRow w.heap.size 5 1 v1 zs.length (zs.map (Value.int .u8)) → Calls Tryd.prog 20 #[v1] w1 fun e w' => e = .returned (.tuple #[.agg #[.int .u16 f.op, .int .u32 (wordOf zs), .nilIface, .nilIface, .nilIface, .nilIface, .nilIface], .nilIface]) ∧ Below w1.heap.size w1 w') := by
    intro v1 w1 hown
    have h := decA_ok hown hv.fits hv.most hn hf
    rw [HI] at h
    exact h
  clear HI hT hV hgood hf hL hn hv
  obtain ⟨kf, hkf⟩ : ∃ kf : Nat → Int, kf = fun j => (Sp.dA (argD f (wordOf zs) j)).kind := ⟨_, rfl⟩
  obtain ⟨rf, hrf⟩ : ∃ rf : Nat → Int, rf = fun j => (Sp.dA (argD f (wordOf zs) j)).reg := ⟨_, rfl⟩
  obtain ⟨mf, hmf⟩ : ∃ mf : Nat → Int, mf = fun j => (Sp.dA (argD f (wordOf zs) j)).num := ⟨_, rfl⟩
  have HA2 : Hid (∀ j, j < 0 → ∀ W, Calls Tryd.prog 22 #[.iface (T j) (V j)] W fun e w' => e = .returned (.agg #[.int .i64 (kf j), .int .i64 (rf j), .int .i64 (mf j)]) ∧ Below W.heap.size W w') := by rw [hkf, hrf, hmf]; exact HA.out
  have HC2 : Hid (∀ j, outCells f (wordOf zs) (j + 1) = outCells f (wordOf zs) j ++ [.int .i64 (kf j), .int .i64 (rf j), .int .i64 (mf j)]) := by rw [hkf, hrf, hmf]; exact HC.out
  clear HA HC hkf hrf hmf
  generalize hxx : wordOf zs = x at *
  clear hxx
  obtain ⟨oc, hoc⟩ : ∃ oc : Nat → List Value, oc = outCells f x := ⟨_, rfl⟩
  have HOC := Lib.hid hoc
  have HC3 : Hid (∀ j, oc (j + 1) = oc j ++ [.int .i64 (kf j), .int .i64 (rf j), .int .i64 (mf j)]) := by rw [hoc]; exact HC2.out
  have HC0 : Hid (oc 0 = []) := by rw [hoc]; rfl
  clear hoc HC2
  obtain ⟨o, ho⟩ : ∃ o : Int, o = f.op := ⟨_, rfl⟩
  have ho1 : 0 ≤ o ∧ o ≤ 65535 := by omega
  rw [← ho, ← HOC.out]
  rw [← ho] at HD
  clear ho HOC hop
  go_enter Tryd.func12, Tryd.ntmps12
  go_wp2_with fail
  refine (clone_any _ _ _ HV.out).mono ?_
  rintro e w1 ⟨v1, rfl, hown, hb⟩
  have HDD := Lib.hid (HD.out v1 w1 hown)
  clear hown
  go_wp2_with (go_at_call 20; refine HDD.out.mono ?_; rintro e w2 ⟨rfl, hb2⟩)
  have q0 : (w2.alloc (Obj.cells #[Value.int IntKind.u16 o, Value.int IntKind.u32 x, Value.nilIface, Value.nilIface, Value.nilIface, Value.nilIface, Value.nilIface] 45)).cell? ⟨w2.heap.size, 0, none⟩ = some (.int .u16 o) := by simp
  have q1 : (w2.alloc (Obj.cells #[Value.int IntKind.u16 o, Value.int IntKind.u32 x, Value.nilIface, Value.nilIface, Value.nilIface, Value.nilIface, Value.nilIface] 45)).cell? ⟨w2.heap.size, 1, none⟩ = some (.int .u32 x) := by simp
  have qb : Below w.heap.size w (w2.alloc (Obj.cells #[Value.int IntKind.u16 o, Value.int IntKind.u32 x, Value.nilIface, Value.nilIface, Value.nilIface, Value.nilIface, Value.nilIface] 45)) := (below_then hb2 hb.size hb).alloc (Nat.le_trans hb.size hb2.size) _
  have ql : w2.heap.size < (w2.alloc (Obj.cells #[Value.int IntKind.u16 o, Value.int IntKind.u32 x, Value.nilIface, Value.nilIface, Value.nilIface, Value.nilIface, Value.nilIface] 45)).heap.size := by simp
  generalize (w2.alloc (Obj.cells #[Value.int IntKind.u16 o, Value.int IntKind.u32 x, Value.nilIface, Value.nilIface, Value.nilIface, Value.nilIface, Value.nilIface] 45)) = W at *
  generalize w2.heap.size = B6 at *
  have Q0 := Lib.hid q0
  have Q1 := Lib.hid q1
  have QB := Lib.hid qb
  clear q0 q1 qb hb hb2 HDD
  go_loopw [8, 21] (fun s i wr => ∃ j : Nat, j ≤ 5 ∧ i = .int .i64 j ∧ wr.ownsRow W.heap.size 52 3 s (min j 0) (oc (min j 0)) ∧ Below W.heap.size W wr) (fun _ i _ => 5 - (intOf i).toNat)
  case atStart => exact ⟨0, Nat.zero_le _, rfl, by rw [Nat.zero_min, HC0.out]; exact World.ownsRow_nil _ _ _ _, Below.refl _ _⟩
  case round =>
    obtain ⟨j, hj, rfl, hown, hbj⟩ := hrel
    by_cases h5 : j < 5
    · have t5 : (j : Int) < 5 := by omega
      have hix := fun W => run_idx43 (Value.nilIface) (Value.nilIface) (Value.nilIface) (Value.nilIface) (Value.nilIface) j h5 W
      · have hval : [Value.nilIface, Value.nilIface, Value.nilIface, Value.nilIface, Value.nilIface].getD j undef = .nilIface := by rcases (by omega : j = 0 ∨ j = 1 ∨ j = 2 ∨ j = 3 ∨ j = 4) with rfl | rfl | rfl | rfl | rfl <;> rfl
        simp only [hval] at hix
        have hm : min j 0 = 0 := by omega
        have hm1 : min (j + 1) 0 = 0 := by omega
        have HOW := Lib.hid hown
        have HM := Lib.hid hm
        have HM1 := Lib.hid hm1
        clear hown hm hm1 hval
        go_wp2
        go_roundw
        case rel => exact ⟨j + 1, by omega, by go_num, by rw [HM1.out]; have h := HOW.out; rw [HM.out] at h; exact h, hbj⟩
        case measure => simp [intOf]; omega
    · have t5 : decide ((j : Int) < 5) = false := by simp; omega
      have c0 : wr.cell? ⟨B6, 0, none⟩ = some (.int .u16 o) := (hbj.cell (p := ⟨B6, 0, none⟩) ql).trans Q0.out
      have c1 : wr.cell? ⟨B6, 1, none⟩ = some (.int .u32 x) := (hbj.cell (p := ⟨B6, 1, none⟩) ql).trans Q1.out
      have hm : min j 0 = 0 := by omega
      rw [hm] at hown
      have HOW := Lib.hid hown
      clear hown hm
      go_wp2
      go_quiet (fail)
      go_wp2
      refine bodyPost_ret (v := .tuple #[.int .i64 o, u8, .int .u32 x, .bool true]) (by simp [results, Tryd.results12, go_sem]) rfl ⟨u8, rfl, ?_, ?_⟩
      · exact ownsRow_less HOW.out QB.out.size
      · exact below_drewN (QB.out.trans (hbj.mono QB.out.size)) _
set_option maxHeartbeats 4000000 in
theorem impl_ok1 (v : Value) (zs : List Int) (w : World) (hv : BytesAt w v zs) (hn : 4 ≤ zs.length) (f : Sp.Fmt) (hf : findFmt (wordOf zs) = some f) (hL : f.args.length = 1) :
    Calls Tryd.prog 12 #[v] w fun e w' => ∃ v', e = .returned (.tuple #[.int .i64 f.op, v', .int .u32 (wordOf zs), .bool true]) ∧ w'.ownsRow w.heap.size 52 3 v' 1 (outCells f (wordOf zs) 1) ∧ Below w.heap.size w w' := by
  have HV := Lib.hid hv
  obtain ⟨hx, hx2⟩ := word_bd hv.fits
  have hop := find_op hf
  have hgood := find_good hf
  obtain ⟨i52, hi, hz0, hz1, hz2⟩ := info_parts info52
  obtain ⟨T, hT⟩ : ∃ T : Nat → TypeId, T = fun i => ifT (argD f (wordOf zs) i) := ⟨_, rfl⟩
  obtain ⟨V, hV⟩ : ∃ V : Nat → Value, V = fun i => ifV (argD f (wordOf zs) i) := ⟨_, rfl⟩
  have HA : Hid (∀ j, j < 1 → ∀ W, Calls Tryd.prog 22 #[.iface (T j) (V j)] W fun e w' => e = .returned (.agg #[.int .i64 (Sp.dA (argD f (wordOf zs) j)).kind, .int .i64 (Sp.dA (argD f (wordOf zs) j)).reg, .int .i64 (Sp.dA (argD f (wordOf zs) j)).num]) ∧ Below W.heap.size W w') := by
    intro j hj W
    rw [hT, hV]
    obtain ⟨k1, k2⟩ := good_arg hgood (j := j) (by omega)
    exact argOf_any (argD f (wordOf zs) j) W (darg_ty _ _ _ k1 k2) (darg_bd _ _ _ k1 k2)
  have HI : instVal f (wordOf zs) = .agg #[.int .u16 f.op, .int .u32 (wordOf zs), .iface (T 0) (V 0), .nilIface, .nilIface, .nilIface, .nilIface] := by rw [hT, hV]; simp [instVal, cellAt, hL]
  have HC : Hid (∀ j, outCells f (wordOf zs) (j + 1) = outCells f (wordOf zs) j ++ [.int .i64 (Sp.dA (argD f (wordOf zs) j)).kind, .int .i64 (Sp.dA (argD f (wordOf zs) j)).reg, .int .i64 (Sp.dA (argD f (wordOf zs) j)).num]) := fun j => outCells_succ _ _ _
  have HD : Hid (∀ v1 w1, w1.ownsRow w.heap.size 5 1 v1 zs.length (zs.map (Value.int .u8)) → Calls Tryd.prog 20 #[v1] w1 fun e w' => e = .returned (.tuple #[.agg #[.int .u16 f.op, .int .u32 (wordOf zs), .iface (T 0) (V 0), .nilIface, .nilIface, .nilIface, .nilIface], .nilIface]) ∧ Below w1.heap.size w1 w') := by
    intro v1 w1 hown
    have h := decA_ok hown hv.fits hv.most hn hf
    rw [HI] at h
    exact h
  clear HI hT hV hgood hf hL hn hv
  obtain ⟨kf, hkf⟩ : ∃ kf : Nat → Int, kf = fun j => (Sp.dA (argD f (wordOf zs) j)).kind := ⟨_, rfl⟩
  obtain ⟨rf, hrf⟩ : ∃ rf : Nat → Int, rf = fun j => (Sp.dA (argD f (wordOf zs) j)).reg := ⟨_, rfl⟩
  obtain ⟨mf, hmf⟩ : ∃ mf : Nat → Int, mf = fun j => (Sp.dA (argD f (wordOf zs) j)).num := ⟨_, rfl⟩
  have HA2 : Hid (∀ j, j < 1 → ∀ W, Calls Tryd.prog 22 #[.iface (T j) (V j)] W fun e w' => e = .returned (.agg #[.int .i64 (kf j), .int .i64 (rf j), .int .i64 (mf j)]) ∧ Below W.heap.size W w') := by rw [hkf, hrf, hmf]; exact HA.out
  have HC2 : Hid (∀ j, outCells f (wordOf zs) (j + 1) = outCells f (wordOf zs) j ++ [.int .i64 (kf j), .int .i64 (rf j), .int .i64 (mf j)]) := by rw [hkf, hrf, hmf]; exact HC.out
  clear HA HC hkf hrf hmf
  generalize hxx : wordOf zs = x at *
  clear hxx
  obtain ⟨oc, hoc⟩ : ∃ oc : Nat → List Value, oc = outCells f x := ⟨_, rfl⟩
  have HOC := Lib.hid hoc
  have HC3 : Hid (∀ j, oc (j + 1) = oc j ++ [.int .i64 (kf j), .int .i64 (rf j), .int .i64 (mf j)]) := by rw [hoc]; exact HC2.out
  have HC0 : Hid (oc 0 = []) := by rw [hoc]; rfl
  clear hoc HC2
  obtain ⟨o, ho⟩ : ∃ o : Int, o = f.op := ⟨_, rfl⟩
  have ho1 : 0 ≤ o ∧ o ≤ 65535 := by omega
  rw [← ho, ← HOC.out]
  rw [← ho] at HD
  clear ho HOC hop
  go_enter Tryd.func12, Tryd.ntmps12
  go_wp2_with fail
  refine (clone_any _ _ _ HV.out).mono ?_
  rintro e w1 ⟨v1, rfl, hown, hb⟩
  have HDD := Lib.hid (HD.out v1 w1 hown)
  clear hown
  go_wp2_with (go_at_call 20; refine HDD.out.mono ?_; rintro e w2 ⟨rfl, hb2⟩)
  have q0 : (w2.alloc (Obj.cells #[Value.int IntKind.u16 o, Value.int IntKind.u32 x, Value.iface (T 0) (V 0), Value.nilIface, Value.nilIface, Value.nilIface, Value.nilIface] 45)).cell? ⟨w2.heap.size, 0, none⟩ = some (.int .u16 o) := by simp
  have q1 : (w2.alloc (Obj.cells #[Value.int IntKind.u16 o, Value.int IntKind.u32 x, Value.iface (T 0) (V 0), Value.nilIface, Value.nilIface, Value.nilIface, Value.nilIface] 45)).cell? ⟨w2.heap.size, 1, none⟩ = some (.int .u32 x) := by simp
  have qb : Below w.heap.size w (w2.alloc (Obj.cells #[Value.int IntKind.u16 o, Value.int IntKind.u32 x, Value.iface (T 0) (V 0), Value.nilIface, Value.nilIface, Value.nilIface, Value.nilIface] 45)) := (below_then hb2 hb.size hb).alloc (Nat.le_trans hb.size hb2.size) _
  have ql : w2.heap.size < (w2.alloc (Obj.cells #[Value.int IntKind.u16 o, Value.int IntKind.u32 x, Value.iface (T 0) (V 0), Value.nilIface, Value.nilIface, Value.nilIface, Value.nilIface] 45)).heap.size := by simp
  generalize (w2.alloc (Obj.cells #[Value.int IntKind.u16 o, Value.int IntKind.u32 x, Value.iface (T 0) (V 0), Value.nilIface, Value.nilIface, Value.nilIface, Value.nilIface] 45)) = W at *
  generalize w2.heap.size = B6 at *
  have Q0 := Lib.hid q0
  have Q1 := Lib.hid q1
  have QB := Lib.hid qb
  clear q0 q1 qb hb hb2 HDD
  go_loopw [8, 21] (fun s i wr => ∃ j : Nat, j ≤ 5 ∧ i = .int .i64 j ∧ wr.ownsRow W.heap.size 52 3 s (min j 1) (oc (min j 1)) ∧ Below W.heap.size W wr) (fun _ i _ => 5 - (intOf i).toNat)
  case atStart => exact ⟨0, Nat.zero_le _, rfl, by rw [Nat.zero_min, HC0.out]; exact World.ownsRow_nil _ _ _ _, Below.refl _ _⟩
  case round =>
    obtain ⟨j, hj, rfl, hown, hbj⟩ := hrel
    by_cases h5 : j < 5
    · have t5 : (j : Int) < 5 := by omega
      have hix := fun W => run_idx43 (Value.iface (T 0) (V 0)) (Value.nilIface) (Value.nilIface) (Value.nilIface) (Value.nilIface) j h5 W
      by_cases hlt : j < 1
      · have hval : [Value.iface (T 0) (V 0), Value.nilIface, Value.nilIface, Value.nilIface, Value.nilIface].getD j undef = .iface (T j) (V j) := by rcases (by omega : j = 0) with rfl <;> rfl
        simp only [hval] at hix
        have hm : min j 1 = j := by omega
        have hm1 : min (j + 1) 1 = j + 1 := by omega
        rw [hm] at hown
        have HOW := Lib.hid hown
        have HM1 := Lib.hid hm1
        have HAJ := Lib.hid (HA2.out j hlt)
        clear hown hm hm1 hval
        go_wp2_with fail
        refine (HAJ.out _).mono ?_
        rintro e w3 ⟨rfl, hb3⟩
        have hown3 := Lib.hid ((below_kept HOW.out hb3).alloc (Obj.cells #[Value.int IntKind.i64 (kf j), Value.int IntKind.i64 (rf j), Value.int IntKind.i64 (mf j)] 52))
        have HB3 := Lib.hid hb3
        have HBJ := Lib.hid hbj
        clear hb3 hbj
        go_wp2_with (at_builtin; refine wpList_append_own _ rfl _ _ 29 rfl W.heap.size 52 i52 (.agg #[.int .i64 0, .int .i64 0, .int .i64 0]) 3 24 Tryd.underlying29 hi hz0 hz1 hz2 rfl (by decide) _ j (oc j) rfl hown3.out ⟨w3.heap.size, 0, none⟩ 1 1 [.int .i64 (kf j), .int .i64 (rf j), .int .i64 (mf j)] rfl rfl ?c1 ?c2 ?c3 ?c4 ?c5 ?_)
        case c1 =>
          intro k u hk
          rcases (by have := (List.getElem?_eq_some_iff.1 hk).1; simp at this; omega : k = 0 ∨ k = 1 ∨ k = 2) with rfl | rfl | rfl <;> simp at hk <;> subst hk <;> simp [Addr.add]
        case c2 =>
          intro u hu
          simp at hu
          rcases hu with rfl | rfl | rfl <;> rfl
        case c3 => unfold maxLen; omega
        case c4 => omega
        case c5 => exact Nat.le_trans HBJ.out.size (Nat.le_trans HB3.out.size (by simp))
        intro v' w4 hown4 hgrow _
        have hbn : Below W.heap.size W w4 := ((below_then HB3.out HBJ.out.size HBJ.out).alloc (Nat.le_trans HBJ.out.size HB3.out.size) _).grown hgrow (Nat.le_trans HBJ.out.size (Nat.le_trans HB3.out.size (by simp))) (fun k hk => (HOW.out.lt k hk).1)
        have HB4 := Lib.hid hbn
        have HO4 := Lib.hid hown4
        clear hbn hgrow hown4
        go_wp2
        go_roundw
        case rel => exact ⟨j + 1, by omega, by go_num, by rw [HM1.out, HC3.out]; exact HO4.out, HB4.out⟩
        case measure => simp [intOf]; omega
      · have hval : [Value.iface (T 0) (V 0), Value.nilIface, Value.nilIface, Value.nilIface, Value.nilIface].getD j undef = .nilIface := by rcases (by omega : j = 1 ∨ j = 2 ∨ j = 3 ∨ j = 4) with rfl | rfl | rfl | rfl <;> rfl
        simp only [hval] at hix
        have hm : min j 1 = 1 := by omega
        have hm1 : min (j + 1) 1 = 1 := by omega
        have HOW := Lib.hid hown
        have HM := Lib.hid hm
        have HM1 := Lib.hid hm1
        clear hown hm hm1 hval
        go_wp2
        go_roundw
        case rel => exact ⟨j + 1, by omega, by go_num, by rw [HM1.out]; have h := HOW.out; rw [HM.out] at h; exact h, hbj⟩
        case measure => simp [intOf]; omega
    · have t5 : decide ((j : Int) < 5) = false := by simp; omega
      have c0 : wr.cell? ⟨B6, 0, none⟩ = some (.int .u16 o) := (hbj.cell (p := ⟨B6, 0, none⟩) ql).trans Q0.out
      have c1 : wr.cell? ⟨B6, 1, none⟩ = some (.int .u32 x) := (hbj.cell (p := ⟨B6, 1, none⟩) ql).trans Q1.out
      have hm : min j 1 = 1 := by omega
      rw [hm] at hown
      have HOW := Lib.hid hown
      clear hown hm
      go_wp2
      go_quiet (fail)
      go_wp2
      refine bodyPost_ret (v := .tuple #[.int .i64 o, u8, .int .u32 x, .bool true]) (by simp [results, Tryd.results12, go_sem]) rfl ⟨u8, rfl, ?_, ?_⟩
      · exact ownsRow_less HOW.out QB.out.size
      · exact below_drewN (QB.out.trans (hbj.mono QB.out.size)) _
set_option maxHeartbeats 4000000 in
theorem impl_ok2 (v : Value) (zs : List Int) (w : World) (hv : BytesAt w v zs) (hn : 4 ≤ zs.length) (f : Sp.Fmt) (hf : findFmt (wordOf zs) = some f) (hL : f.args.length = 2) :
    Calls Tryd.prog 12 #[v] w fun e w' => ∃ v', e = .returned (.tuple #[.int .i64 f.op, v', .int .u32 (wordOf zs), .bool true]) ∧ w'.ownsRow w.heap.size 52 3 v' 2 (outCells f (wordOf zs) 2) ∧ Below w.heap.size w w' := by
  have HV := Lib.hid hv
  obtain ⟨hx, hx2⟩ := word_bd hv.fits
  have hop := find_op hf
  have hgood := find_good hf
  obtain ⟨i52, hi, hz0, hz1, hz2⟩ := info_parts info52
  obtain ⟨T, hT⟩ : ∃ T : Nat → TypeId, T = fun i => ifT (argD f (wordOf zs) i) := ⟨_, rfl⟩
  obtain ⟨V, hV⟩ : ∃ V : Nat → Value, V = fun i => ifV (argD f (wordOf zs) i) := ⟨_, rfl⟩
  have HA : Hid (∀ j, j < 2 → ∀ W, Calls Tryd.prog 22 #[.iface (T j) (V j)] W fun e w' => e = .returned (.agg #[.int .i64 (Sp.dA (argD f (wordOf zs) j)).kind, .int .i64 (Sp.dA (argD f (wordOf zs) j)).reg, .int .i64 (Sp.dA (argD f (wordOf zs) j)).num]) ∧ Below W.heap.size W w') := by
    intro j hj W
    rw [hT, hV]
    obtain ⟨k1, k2⟩ := good_arg hgood (j := j) (by omega)
    exact argOf_any (argD f (wordOf zs) j) W (darg_ty _ _ _ k1 k2) (darg_bd _ _ _ k1 k2)
  have HI : instVal f (wordOf zs) = .agg #[.int .u16 f.op, .int .u32 (wordOf zs), .iface (T 0) (V 0), .iface (T 1) (V 1), .nilIface, .nilIface, .nilIface] := by rw [hT, hV]; simp [instVal, cellAt, hL]
  have HC : Hid (∀ j, outCells f (wordOf zs) (j + 1) = outCells f (wordOf zs) j ++ [.int .i64 (Sp.dA (argD f (wordOf zs) j)).kind, .int .i64 (Sp.dA (argD f (wordOf zs) j)).reg, .int .i64 (Sp.dA (argD f (wordOf zs) j)).num]) := fun j => outCells_succ _ _ _
  have HD : Hid (∀ v1 w1, w1.ownsRow w.heap.size 5 1 v1 zs.length (zs.map (Value.int .u8)) → Calls Tryd.prog 20 #[v1] w1 fun e w' => e = .returned (.tuple #[.agg #[.int .u16 f.op, .int .u32 (wordOf zs), .iface (T 0) (V 0), .iface (T 1) (V 1), .nilIface, .nilIface, .nilIface], .nilIface]) ∧ Below w1.heap.size w1 w') := by
    intro v1 w1 hown
    have h := decA_ok hown hv.fits hv.most hn hf
    rw [HI] at h
    exact h
  clear HI hT hV hgood hf hL hn hv
  obtain ⟨kf, hkf⟩ : ∃ kf : Nat → Int, kf = fun j => (Sp.dA (argD f (wordOf zs) j)).kind := ⟨_, rfl⟩
  obtain ⟨rf, hrf⟩ : ∃ rf : Nat → Int, rf = fun j => (Sp.dA (argD f (wordOf zs) j)).reg := ⟨_, rfl⟩
  obtain ⟨mf, hmf⟩ : ∃ mf : Nat → Int, mf = fun j => (Sp.dA (argD f (wordOf zs) j)).num := ⟨_, rfl⟩
  have HA2 : Hid (∀ j, j < 2 → ∀ W, Calls Tryd.prog 22 #[.iface (T j) (V j)] W fun e w' => e = .returned (.agg #[.int .i64 (kf j), .int .i64 (rf j), .int .i64 (mf j)]) ∧ Below W.heap.size W w') := by rw [hkf, hrf, hmf]; exact HA.out
  have HC2 : Hid (∀ j, outCells f (wordOf zs) (j + 1) = outCells f (wordOf zs) j ++ [.int .i64 (kf j), .int .i64 (rf j), .int .i64 (mf j)]) := by rw [hkf, hrf, hmf]; exact HC.out
  clear HA HC hkf hrf hmf
  generalize hxx : wordOf zs = x at *
  clear hxx
  obtain ⟨oc, hoc⟩ : ∃ oc : Nat → List Value, oc = outCells f x := ⟨_, rfl⟩
  have HOC := Lib.hid hoc
  have HC3 : Hid (∀ j, oc (j + 1) = oc j ++ [.int .i64 (kf j), .int .i64 (rf j), .int .i64 (mf j)]) := by rw [hoc]; exact HC2.out
  have HC0 : Hid (oc 0 = []) := by rw [hoc]; rfl
  clear hoc HC2
  obtain ⟨o, ho⟩ : ∃ o : Int, o = f.op := ⟨_, rfl⟩
  have ho1 : 0 ≤ o ∧ o ≤ 65535 := by omega
  rw [← ho, ← HOC.out]
  rw [← ho] at HD
  clear ho HOC hop
  go_enter Tryd.func12, Tryd.ntmps12
  go_wp2_with fail
  refine (clone_any _ _ _ HV.out).mono ?_
  rintro e w1 ⟨v1, rfl, hown, hb⟩
  have HDD := Lib.hid (HD.out v1 w1 hown)
  clear hown
  go_wp2_with (go_at_call 20; refine HDD.out.mono ?_; rintro e w2 ⟨rfl, hb2⟩)
  have q0 : (w2.alloc (Obj.cells #[Value.int IntKind.u16 o, Value.int IntKind.u32 x, Value.iface (T 0) (V 0), Value.iface (T 1) (V 1), Value.nilIface, Value.nilIface, Value.nilIface] 45)).cell? ⟨w2.heap.size, 0, none⟩ = some (.int .u16 o) := by simp
  have q1 : (w2.alloc (Obj.cells #[Value.int IntKind.u16 o, Value.int IntKind.u32 x, Value.iface (T 0) (V 0), Value.iface (T 1) (V 1), Value.nilIface, Value.nilIface, Value.nilIface] 45)).cell? ⟨w2.heap.size, 1, none⟩ = some (.int .u32 x) := by simp
  have qb : Below w.heap.size w (w2.alloc (Obj.cells #[Value.int IntKind.u16 o, Value.int IntKind.u32 x, Value.iface (T 0) (V 0), Value.iface (T 1) (V 1), Value.nilIface, Value.nilIface, Value.nilIface] 45)) := (below_then hb2 hb.size hb).alloc (Nat.le_trans hb.size hb2.size) _
  have ql : w2.heap.size < (w2.alloc (Obj.cells #[Value.int IntKind.u16 o, Value.int IntKind.u32 x, Value.iface (T 0) (V 0), Value.iface (T 1) (V 1), Value.nilIface, Value.nilIface, Value.nilIface] 45)).heap.size := by simp
  generalize (w2.alloc (Obj.cells #[Value.int IntKind.u16 o, Value.int IntKind.u32 x, Value.iface (T 0) (V 0), Value.iface (T 1) (V 1), Value.nilIface, Value.nilIface, Value.nilIface] 45)) = W at *
  generalize w2.heap.size = B6 at *
  have Q0 := Lib.hid q0
  have Q1 := Lib.hid q1
  have QB := Lib.hid qb
  clear q0 q1 qb hb hb2 HDD
  go_loopw [8, 21] (fun s i wr => ∃ j : Nat, j ≤ 5 ∧ i = .int .i64 j ∧ wr.ownsRow W.heap.size 52 3 s (min j 2) (oc (min j 2)) ∧ Below W.heap.size W wr) (fun _ i _ => 5 - (intOf i).toNat)
  case atStart => exact ⟨0, Nat.zero_le _, rfl, by rw [Nat.zero_min, HC0.out]; exact World.ownsRow_nil _ _ _ _, Below.refl _ _⟩
  case round =>
    obtain ⟨j, hj, rfl, hown, hbj⟩ := hrel
    by_cases h5 : j < 5
    · have t5 : (j : Int) < 5 := by omega
      have hix := fun W => run_idx43 (Value.iface (T 0) (V 0)) (Value.iface (T 1) (V 1)) (Value.nilIface) (Value.nilIface) (Value.nilIface) j h5 W
      by_cases hlt : j < 2
      · have hval : [Value.iface (T 0) (V 0), Value.iface (T 1) (V 1), Value.nilIface, Value.nilIface, Value.nilIface].getD j undef = .iface (T j) (V j) := by rcases (by omega : j = 0 ∨ j = 1) with rfl | rfl <;> rfl
        simp only [hval] at hix
        have hm : min j 2 = j := by omega
        have hm1 : min (j + 1) 2 = j + 1 := by omega
        rw [hm] at hown
        have HOW := Lib.hid hown
        have HM1 := Lib.hid hm1
        have HAJ := Lib.hid (HA2.out j hlt)
        clear hown hm hm1 hval
        go_wp2_with fail
        refine (HAJ.out _).mono ?_
        rintro e w3 ⟨rfl, hb3⟩
        have hown3 := Lib.hid ((below_kept HOW.out hb3).alloc (Obj.cells #[Value.int IntKind.i64 (kf j), Value.int IntKind.i64 (rf j), Value.int IntKind.i64 (mf j)] 52))
        have HB3 := Lib.hid hb3
        have HBJ := Lib.hid hbj
        clear hb3 hbj
        go_wp2_with (at_builtin; refine wpList_append_own _ rfl _ _ 29 rfl W.heap.size 52 i52 (.agg #[.int .i64 0, .int .i64 0, .int .i64 0]) 3 24 Tryd.underlying29 hi hz0 hz1 hz2 rfl (by decide) _ j (oc j) rfl hown3.out ⟨w3.heap.size, 0, none⟩ 1 1 [.int .i64 (kf j), .int .i64 (rf j), .int .i64 (mf j)] rfl rfl ?c1 ?c2 ?c3 ?c4 ?c5 ?_)
        case c1 =>
          intro k u hk
          rcases (by have := (List.getElem?_eq_some_iff.1 hk).1; simp at this; omega : k = 0 ∨ k = 1 ∨ k = 2) with rfl | rfl | rfl <;> simp at hk <;> subst hk <;> simp [Addr.add]
        case c2 =>
          intro u hu
          simp at hu
          rcases hu with rfl | rfl | rfl <;> rfl
        case c3 => unfold maxLen; omega
        case c4 => omega
        case c5 => exact Nat.le_trans HBJ.out.size (Nat.le_trans HB3.out.size (by simp))
        intro v' w4 hown4 hgrow _
        have hbn : Below W.heap.size W w4 := ((below_then HB3.out HBJ.out.size HBJ.out).alloc (Nat.le_trans HBJ.out.size HB3.out.size) _).grown hgrow (Nat.le_trans HBJ.out.size (Nat.le_trans HB3.out.size (by simp))) (fun k hk => (HOW.out.lt k hk).1)
        have HB4 := Lib.hid hbn
        have HO4 := Lib.hid hown4
        clear hbn hgrow hown4
        go_wp2
        go_roundw
        case rel => exact ⟨j + 1, by omega, by go_num, by rw [HM1.out, HC3.out]; exact HO4.out, HB4.out⟩
        case measure => simp [intOf]; omega
      · have hval : [Value.iface (T 0) (V 0), Value.iface (T 1) (V 1), Value.nilIface, Value.nilIface, Value.nilIface].getD j undef = .nilIface := by rcases (by omega : j = 2 ∨ j = 3 ∨ j = 4) with rfl | rfl | rfl <;> rfl
        simp only [hval] at hix
        have hm : min j 2 = 2 := by omega
        have hm1 : min (j + 1) 2 = 2 := by omega
        have HOW := Lib.hid hown
        have HM := Lib.hid hm
        have HM1 := Lib.hid hm1
        clear hown hm hm1 hval
        go_wp2
        go_roundw
        case rel => exact ⟨j + 1, by omega, by go_num, by rw [HM1.out]; have h := HOW.out; rw [HM.out] at h; exact h, hbj⟩
        case measure => simp [intOf]; omega
    · have t5 : decide ((j : Int) < 5) = false := by simp; omega
      have c0 : wr.cell? ⟨B6, 0, none⟩ = some (.int .u16 o) := (hbj.cell (p := ⟨B6, 0, none⟩) ql).trans Q0.out
      have c1 : wr.cell? ⟨B6, 1, none⟩ = some (.int .u32 x) := (hbj.cell (p := ⟨B6, 1, none⟩) ql).trans Q1.out
      have hm : min j 2 = 2 := by omega
      rw [hm] at hown
      have HOW := Lib.hid hown
      clear hown hm
      go_wp2
      go_quiet (fail)
      go_wp2
      refine bodyPost_ret (v := .tuple #[.int .i64 o, u8, .int .u32 x, .bool true]) (by simp [results, Tryd.results12, go_sem]) rfl ⟨u8, rfl, ?_, ?_⟩
      · exact ownsRow_less HOW.out QB.out.size
      · exact below_drewN (QB.out.trans (hbj.mono QB.out.size)) _
set_option maxHeartbeats 4000000 in
theorem impl_ok3 (v : Value) (zs : List Int) (w : World) (hv : BytesAt w v zs) (hn : 4 ≤ zs.length) (f : Sp.Fmt) (hf : findFmt (wordOf zs) = some f) (hL : f.args.length = 3) :
    Calls Tryd.prog 12 #[v] w fun e w' => ∃ v', e = .returned (.tuple #[.int .i64 f.op, v', .int .u32 (wordOf zs), .bool true]) ∧ w'.ownsRow w.heap.size 52 3 v' 3 (outCells f (wordOf zs) 3) ∧ Below w.heap.size w w' := by
  have HV := Lib.hid hv
  obtain ⟨hx, hx2⟩ := word_bd hv.fits
  have hop := find_op hf
  have hgood := find_good hf
  obtain ⟨i52, hi, hz0, hz1, hz2⟩ := info_parts info52
  obtain ⟨T, hT⟩ : ∃ T : Nat → TypeId, T = fun i => ifT (argD f (wordOf zs) i) := ⟨_, rfl⟩
  obtain ⟨V, hV⟩ : ∃ V : Nat → Value, V = fun i => ifV (argD f (wordOf zs) i) := ⟨_, rfl⟩
  have HA : Hid (∀ j, j < 3 → ∀ W, Calls Tryd.prog 22 #[.iface (T j) (V j)] W fun e w' => e = .returned (.agg #[.int .i64 (Sp.dA (argD f (wordOf zs) j)).kind, .int .i64 (Sp.dA (argD f (wordOf zs) j)).reg, .int .i64 (Sp.dA (argD f (wordOf zs) j)).num]) ∧ Below W.heap.size W w') := by
    intro j hj W
    rw [hT, hV]
    obtain ⟨k1, k2⟩ := good_arg hgood (j := j) (by omega)
    exact argOf_any (argD f (wordOf zs) j) W (darg_ty _ _ _ k1 k2) (darg_bd _ _ _ k1 k2)
  have HI : instVal f (wordOf zs) = .agg #[.int .u16 f.op, .int .u32 (wordOf zs), .iface (T 0) (V 0), .iface (T 1) (V 1), .iface (T 2) (V 2), .nilIface, .nilIface] := by rw [hT, hV]; simp [instVal, cellAt, hL]
  have HC : Hid (∀ j, outCells f (wordOf zs) (j + 1) = outCells f (wordOf zs) j ++ [.int .i64 (Sp.dA (argD f (wordOf zs) j)).kind, .int .i64 (Sp.dA (argD f (wordOf zs) j)).reg, .int .i64 (Sp.dA (argD f (wordOf zs) j)).num]) := fun j => outCells_succ _ _ _
  have HD : Hid (∀ v1 w1, w1.ownsRow w.heap.size 5 1 v1 zs.length (zs.map (Value.int .u8)) → Calls Tryd.prog 20 #[v1] w1 fun e w' => e = .returned (.tuple #[.agg #[.int .u16 f.op, .int .u32 (wordOf zs), .iface (T 0) (V 0), .iface (T 1) (V 1), .iface (T 2) (V 2), .nilIface, .nilIface], .nilIface]) ∧ Below w1.heap.size w1 w') := by
    intro v1 w1 hown
    have h := decA_ok hown hv.fits hv.most hn hf
    rw [HI] at h
    exact h
  clear HI hT hV hgood hf hL hn hv
  obtain ⟨kf, hkf⟩ : ∃ kf : Nat → Int, kf = fun j => (Sp.dA (argD f (wordOf zs) j)).kind := ⟨_, rfl⟩
  obtain ⟨rf, hrf⟩ : ∃ rf : Nat → Int, rf = fun j => (Sp.dA (argD f (wordOf zs) j)).reg := ⟨_, rfl⟩
  obtain ⟨mf, hmf⟩ : ∃ mf : Nat → Int, mf = fun j => (Sp.dA (argD f (wordOf zs) j)).num := ⟨_, rfl⟩
  have HA2 : Hid (∀ j, j < 3 → ∀ W, Calls Tryd.prog 22 #[.iface (T j) (V j)] W fun e w' => e = .returned (.agg #[.int .i64 (kf j), .int .i64 (rf j), .int .i64 (mf j)]) ∧ Below W.heap.size W w') := by rw [hkf, hrf, hmf]; exact HA.out
  have HC2 : Hid (∀ j, outCells f (wordOf zs) (j + 1) = outCells f (wordOf zs) j ++ [.int .i64 (kf j), .int .i64 (rf j), .int .i64 (mf j)]) := by rw [hkf, hrf, hmf]; exact HC.out
  clear HA HC hkf hrf hmf
  generalize hxx : wordOf zs = x at *
  clear hxx
  obtain ⟨oc, hoc⟩ : ∃ oc : Nat → List Value, oc = outCells f x := ⟨_, rfl⟩
  have HOC := Lib.hid hoc
  have HC3 : Hid (∀ j, oc (j + 1) = oc j ++ [.int .i64 (kf j), .int .i64 (rf j), .int .i64 (mf j)]) := by rw [hoc]; exact HC2.out
  have HC0 : Hid (oc 0 = []) := by rw [hoc]; rfl
  clear hoc HC2
  obtain ⟨o, ho⟩ : ∃ o : Int, o = f.op := ⟨_, rfl⟩
  have ho1 : 0 ≤ o ∧ o ≤ 65535 := by omega
  rw [← ho, ← HOC.out]
  rw [← ho] at HD
  clear ho HOC hop
  go_enter Tryd.func12, Tryd.ntmps12
  go_wp2_with fail
  refine (clone_any _ _ _ HV.out).mono ?_
  rintro e w1 ⟨v1, rfl, hown, hb⟩
  have HDD := Lib.hid (HD.out v1 w1 hown)
  clear hown
  go_wp2_with (go_at_call 20; refine HDD.out.mono ?_; rintro e w2 ⟨rfl, hb2⟩)
  have q0 : (w2.alloc (Obj.cells #[Value.int IntKind.u16 o, Value.int IntKind.u32 x, Value.iface (T 0) (V 0), Value.iface (T 1) (V 1), Value.iface (T 2) (V 2), Value.nilIface, Value.nilIface] 45)).cell? ⟨w2.heap.size, 0, none⟩ = some (.int .u16 o) := by simp
  have q1 : (w2.alloc (Obj.cells #[Value.int IntKind.u16 o, Value.int IntKind.u32 x, Value.iface (T 0) (V 0), Value.iface (T 1) (V 1), Value.iface (T 2) (V 2), Value.nilIface, Value.nilIface] 45)).cell? ⟨w2.heap.size, 1, none⟩ = some (.int .u32 x) := by simp
  have qb : Below w.heap.size w (w2.alloc (Obj.cells #[Value.int IntKind.u16 o, Value.int IntKind.u32 x, Value.iface (T 0) (V 0), Value.iface (T 1) (V 1), Value.iface (T 2) (V 2), Value.nilIface, Value.nilIface] 45)) := (below_then hb2 hb.size hb).alloc (Nat.le_trans hb.size hb2.size) _
  have ql : w2.heap.size < (w2.alloc (Obj.cells #[Value.int IntKind.u16 o, Value.int IntKind.u32 x, Value.iface (T 0) (V 0), Value.iface (T 1) (V 1), Value.iface (T 2) (V 2), Value.nilIface, Value.nilIface] 45)).heap.size := by simp
  generalize (w2.alloc (Obj.cells #[Value.int IntKind.u16 o, Value.int IntKind.u32 x, Value.iface (T 0) (V 0), Value.iface (T 1) (V 1), Value.iface (T 2) (V 2), Value.nilIface, Value.nilIface] 45)) = W at *
  generalize w2.heap.size = B6 at *
  have Q0 := Lib.hid q0
  have Q1 := Lib.hid q1
  have QB := Lib.hid qb
  clear q0 q1 qb hb hb2 HDD
  go_loopw [8, 21] (fun s i wr => ∃ j : Nat, j ≤ 5 ∧ i = .int .i64 j ∧ wr.ownsRow W.heap.size 52 3 s (min j 3) (oc (min j 3)) ∧ Below W.heap.size W wr) (fun _ i _ => 5 - (intOf i).toNat)
  case atStart => exact ⟨0, Nat.zero_le _, rfl, by rw [Nat.zero_min, HC0.out]; exact World.ownsRow_nil _ _ _ _, Below.refl _ _⟩
  case round =>
    obtain ⟨j, hj, rfl, hown, hbj⟩ := hrel
    by_cases h5 : j < 5
    · have t5 : (j : Int) < 5 := by omega
      have hix := fun W => run_idx43 (Value.iface (T 0) (V 0)) (Value.iface (T 1) (V 1)) (Value.iface (T 2) (V 2)) (Value.nilIface) (Value.nilIface) j h5 W
      by_cases hlt : j < 3
      · have hval : [Value.iface (T 0) (V 0), Value.iface (T 1) (V 1), Value.iface (T 2) (V 2), Value.nilIface, Value.nilIface].getD j undef = .iface (T j) (V j) := by rcases (by omega : j = 0 ∨ j = 1 ∨ j = 2) with rfl | rfl | rfl <;> rfl
        simp only [hval] at hix
        have hm : min j 3 = j := by omega
        have hm1 : min (j + 1) 3 = j + 1 := by omega
        rw [hm] at hown
        have HOW := Lib.hid hown
        have HM1 := Lib.hid hm1
        have HAJ := Lib.hid (HA2.out j hlt)
        clear hown hm hm1 hval
        go_wp2_with fail
        refine (HAJ.out _).mono ?_
        rintro e w3 ⟨rfl, hb3⟩
        have hown3 := Lib.hid ((below_kept HOW.out hb3).alloc (Obj.cells #[Value.int IntKind.i64 (kf j), Value.int IntKind.i64 (rf j), Value.int IntKind.i64 (mf j)] 52))
        have HB3 := Lib.hid hb3
        have HBJ := Lib.hid hbj
        clear hb3 hbj
        go_wp2_with (at_builtin; refine wpList_append_own _ rfl _ _ 29 rfl W.heap.size 52 i52 (.agg #[.int .i64 0, .int .i64 0, .int .i64 0]) 3 24 Tryd.underlying29 hi hz0 hz1 hz2 rfl (by decide) _ j (oc j) rfl hown3.out ⟨w3.heap.size, 0, none⟩ 1 1 [.int .i64 (kf j), .int .i64 (rf j), .int .i64 (mf j)] rfl rfl ?c1 ?c2 ?c3 ?c4 ?c5 ?_)
        case c1 =>
          intro k u hk
          rcases (by have := (List.getElem?_eq_some_iff.1 hk).1; simp at this; omega : k = 0 ∨ k = 1 ∨ k = 2) with rfl | rfl | rfl <;> simp at hk <;> subst hk <;> simp [Addr.add]
        case c2 =>
          intro u hu
          simp at hu
          rcases hu with rfl | rfl | rfl <;> rfl
        case c3 => unfold maxLen; omega
        case c4 => omega
        case c5 => exact Nat.le_trans HBJ.out.size (Nat.le_trans HB3.out.size (by simp))
        intro v' w4 hown4 hgrow _
        have hbn : Below W.heap.size W w4 := ((below_then HB3.out HBJ.out.size HBJ.out).alloc (Nat.le_trans HBJ.out.size HB3.out.size) _).grown hgrow (Nat.le_trans HBJ.out.size (Nat.le_trans HB3.out.size (by simp))) (fun k hk => (HOW.out.lt k hk).1)
        have HB4 := Lib.hid hbn
        have HO4 := Lib.hid hown4
        clear hbn hgrow hown4
        go_wp2
        go_roundw
        case rel => exact ⟨j + 1, by omega, by go_num, by rw [HM1.out, HC3.out]; exact HO4.out, HB4.out⟩
        case measure => simp [intOf]; omega
      · have hval : [Value.iface (T 0) (V 0), Value.iface (T 1) (V 1), Value.iface (T 2) (V 2), Value.nilIface, Value.nilIface].getD j undef = .nilIface := by rcases (by omega : j = 3 ∨ j = 4) with rfl | rfl <;> rfl
        simp only [hval] at hix
        have hm : min j 3 = 3 := by omega
        have hm1 : min (j + 1) 3 = 3 := by omega
        have HOW := Lib.hid hown
        have HM := Lib.hid hm
        have HM1 := Lib.hid hm1
        clear hown hm hm1 hval
        go_wp2
        go_roundw
        case rel => exact ⟨j + 1, by omega, by go_num, by rw [HM1.out]; have h := HOW.out; rw [HM.out] at h; exact h, hbj⟩
        case measure => simp [intOf]; omega
    · have t5 : decide ((j : Int) < 5) = false := by simp; omega
      have c0 : wr.cell? ⟨B6, 0, none⟩ = some (.int .u16 o) := (hbj.cell (p := ⟨B6, 0, none⟩) ql).trans Q0.out
      have c1 : wr.cell? ⟨B6, 1, none⟩ = some (.int .u32 x) := (hbj.cell (p := ⟨B6, 1, none⟩) ql).trans Q1.out
      have hm : min j 3 = 3 := by omega
      rw [hm] at hown
      have HOW := Lib.hid hown
      clear hown hm
      go_wp2
      go_quiet (fail)
      go_wp2
      refine bodyPost_ret (v := .tuple #[.int .i64 o, u8, .int .u32 x, .bool true]) (by simp [results, Tryd.results12, go_sem]) rfl ⟨u8, rfl, ?_, ?_⟩
      · exact ownsRow_less HOW.out QB.out.size
      · exact below_drewN (QB.out.trans (hbj.mono QB.out.size)) _
set_option maxHeartbeats 4000000 in
theorem impl_ok4 (v : Value) (zs : List Int) (w : World) (hv : BytesAt w v zs) (hn : 4 ≤ zs.length) (f : Sp.Fmt) (hf : findFmt (wordOf zs) = some f) (hL : f.args.length = 4) :
    Calls Tryd.prog 12 #[v] w fun e w' => ∃ v', e = .returned (.tuple #[.int .i64 f.op, v', .int .u32 (wordOf zs), .bool true]) ∧ w'.ownsRow w.heap.size 52 3 v' 4 (outCells f (wordOf zs) 4) ∧ Below w.heap.size w w' := by
  have HV := Lib.hid hv
  obtain ⟨hx, hx2⟩ := word_bd hv.fits
  have hop := find_op hf
  have hgood := find_good hf
  obtain ⟨i52, hi, hz0, hz1, hz2⟩ := info_parts info52
  obtain ⟨T, hT⟩ : ∃ T : Nat → TypeId, T = fun i => ifT (argD f (wordOf zs) i) := ⟨_, rfl⟩
  obtain ⟨V, hV⟩ : ∃ V : Nat → Value, V = fun i => ifV (argD f (wordOf zs) i) := ⟨_, rfl⟩
  have HA : Hid (∀ j, j < 4 → ∀ W, Calls Tryd.prog 22 #[.iface (T j) (V j)] W fun e w' => e = .returned (.agg #[.int .i64 (Sp.dA (argD f (wordOf zs) j)).kind, .int .i64 (Sp.dA (argD f (wordOf zs) j)).reg, .int .i64 (Sp.dA (argD f (wordOf zs) j)).num]) ∧ Below W.heap.size W w') := by
    intro j hj W
    rw [hT, hV]
    obtain ⟨k1, k2⟩ := good_arg hgood (j := j) (by omega)
    exact argOf_any (argD f (wordOf zs) j) W (darg_ty _ _ _ k1 k2) (darg_bd _ _ _ k1 k2)
  have HI : instVal f (wordOf zs) = .agg #[.int .u16 f.op, .int .u32 (wordOf zs), .iface (T 0) (V 0), .iface (T 1) (V 1), .iface (T 2) (V 2), .iface (T 3) (V 3), .nilIface] := by rw [hT, hV]; simp [instVal, cellAt, hL]
  have HC : Hid (∀ j, outCells f (wordOf zs) (j + 1) = outCells f (wordOf zs) j ++ [.int .i64 (Sp.dA (argD f (wordOf zs) j)).kind, .int .i64 (Sp.dA (argD f (wordOf zs) j)).reg, .int .i64 (Sp.dA (argD f (wordOf zs) j)).num]) := fun j => outCells_succ _ _ _
  have HD : Hid (∀ v1 w1, w1.ownsRow w.heap.size 5 1 v1 zs.length (zs.map (Value.int .u8)) → Calls Tryd.prog 20 #[v1] w1 fun e w' => e = .returned (.tuple #[.agg #[.int .u16 f.op, .int .u32 (wordOf zs), .iface (T 0) (V 0), .iface (T 1) (V 1), .iface (T 2) (V 2), .iface (T 3) (V 3), .nilIface], .nilIface]) ∧ Below w1.heap.size w1 w') := by
    intro v1 w1 hown
    have h := decA_ok hown hv.fits hv.most hn hf
    rw [HI] at h
    exact h
  clear HI hT hV hgood hf hL hn hv
  obtain ⟨kf, hkf⟩ : ∃ kf : Nat → Int, kf = fun j => (Sp.dA (argD f (wordOf zs) j)).kind := ⟨_, rfl⟩
  obtain ⟨rf, hrf⟩ : ∃ rf : Nat → Int, rf = fun j => (Sp.dA (argD f (wordOf zs) j)).reg := ⟨_, rfl⟩
  obtain ⟨mf, hmf⟩ : ∃ mf : Nat → Int, mf = fun j => (Sp.dA (argD f (wordOf zs) j)).num := ⟨_, rfl⟩
  have HA2 : Hid (∀ j, j < 4 → ∀ W, Calls Tryd.prog 22 #[.iface (T j) (V j)] W fun e w' => e = .returned (.agg #[.int .i64 (kf j), .int .i64 (rf j), .int .i64 (mf j)]) ∧ Below W.heap.size W w') := by rw [hkf, hrf, hmf]; exact HA.out
  have HC2 : Hid (∀ j, outCells f (wordOf zs) (j + 1) = outCells f (wordOf zs) j ++ [.int .i64 (kf j), .int .i64 (rf j), .int .i64 (mf j)]) := by rw [hkf, hrf, hmf]; exact HC.out
  clear HA HC hkf hrf hmf
  generalize hxx : wordOf zs = x at *
  clear hxx
  obtain ⟨oc, hoc⟩ : ∃ oc : Nat → List Value, oc = outCells f x := ⟨_, rfl⟩
  have HOC := Lib.hid hoc
  have HC3 : Hid (∀ j, oc (j + 1) = oc j ++ [.int .i64 (kf j), .int .i64 (rf j), .int .i64 (mf j)]) := by rw [hoc]; exact HC2.out
  have HC0 : Hid (oc 0 = []) := by rw [hoc]; rfl
  clear hoc HC2
  obtain ⟨o, ho⟩ : ∃ o : Int, o = f.op := ⟨_, rfl⟩
  have ho1 : 0 ≤ o ∧ o ≤ 65535 := by omega
  rw [← ho, ← HOC.out]
  rw [← ho] at HD
  clear ho HOC hop
  go_enter Tryd.func12, Tryd.ntmps12
  go_wp2_with fail
  refine (clone_any _ _ _ HV.out).mono ?_
  rintro e w1 ⟨v1, rfl, hown, hb⟩
  have HDD := Lib.hid (HD.out v1 w1 hown)
  clear hown
  go_wp2_with (go_at_call 20; refine HDD.out.mono ?_; rintro e w2 ⟨rfl, hb2⟩)
  have q0 : (w2.alloc (Obj.cells #[Value.int IntKind.u16 o, Value.int IntKind.u32 x, Value.iface (T 0) (V 0), Value.iface (T 1) (V 1), Value.iface (T 2) (V 2), Value.iface (T 3) (V 3), Value.nilIface] 45)).cell? ⟨w2.heap.size, 0, none⟩ = some (.int .u16 o) := by simp
  have q1 : (w2.alloc (Obj.cells #[Value.int IntKind.u16 o, Value.int IntKind.u32 x, Value.iface (T 0) (V 0), Value.iface (T 1) (V 1), Value.iface (T 2) (V 2), Value.iface (T 3) (V 3), Value.nilIface] 45)).cell? ⟨w2.heap.size, 1, none⟩ = some (.int .u32 x) := by simp
  have qb : Below w.heap.size w (w2.alloc (Obj.cells #[Value.int IntKind.u16 o, Value.int IntKind.u32 x, Value.iface (T 0) (V 0), Value.iface (T 1) (V 1), Value.iface (T 2) (V 2), Value.iface (T 3) (V 3), Value.nilIface] 45)) := (below_then hb2 hb.size hb).alloc (Nat.le_trans hb.size hb2.size) _
  have ql : w2.heap.size < (w2.alloc (Obj.cells #[Value.int IntKind.u16 o, Value.int IntKind.u32 x, Value.iface (T 0) (V 0), Value.iface (T 1) (V 1), Value.iface (T 2) (V 2), Value.iface (T 3) (V 3), Value.nilIface] 45)).heap.size := by simp
  generalize (w2.alloc (Obj.cells #[Value.int IntKind.u16 o, Value.int IntKind.u32 x, Value.iface (T 0) (V 0), Value.iface (T 1) (V 1), Value.iface (T 2) (V 2), Value.iface (T 3) (V 3), Value.nilIface] 45)) = W at *
  generalize w2.heap.size = B6 at *
  have Q0 := Lib.hid q0
  have Q1 := Lib.hid q1
  have QB := Lib.hid qb
  clear q0 q1 qb hb hb2 HDD
  go_loopw [8, 21] (fun s i wr => ∃ j : Nat, j ≤ 5 ∧ i = .int .i64 j ∧ wr.ownsRow W.heap.size 52 3 s (min j 4) (oc (min j 4)) ∧ Below W.heap.size W wr) (fun _ i _ => 5 - (intOf i).toNat)
  case atStart => exact ⟨0, Nat.zero_le _, rfl, by rw [Nat.zero_min, HC0.out]; exact World.ownsRow_nil _ _ _ _, Below.refl _ _⟩
  case round =>
    obtain ⟨j, hj, rfl, hown, hbj⟩ := hrel
    by_cases h5 : j < 5
    · have t5 : (j : Int) < 5 := by omega
      have hix := fun W => run_idx43 (Value.iface (T 0) (V 0)) (Value.iface (T 1) (V 1)) (Value.iface (T 2) (V 2)) (Value.iface (T 3) (V 3)) (Value.nilIface) j h5 W
      by_cases hlt : j < 4
      · have hval : [Value.iface (T 0) (V 0), Value.iface (T 1) (V 1), Value.iface (T 2) (V 2), Value.iface (T 3) (V 3), Value.nilIface].getD j undef = .iface (T j) (V j) := by rcases (by omega : j = 0 ∨ j = 1 ∨ j = 2 ∨ j = 3) with rfl | rfl | rfl | rfl <;> rfl
        simp only [hval] at hix
        have hm : min j 4 = j := by omega
        have hm1 : min (j + 1) 4 = j + 1 := by omega
        rw [hm] at hown
        have HOW := Lib.hid hown
        have HM1 := Lib.hid hm1
        have HAJ := Lib.hid (HA2.out j hlt)
        clear hown hm hm1 hval
        go_wp2_with fail
        refine (HAJ.out _).mono ?_
        rintro e w3 ⟨rfl, hb3⟩
        have hown3 := Lib.hid ((below_kept HOW.out hb3).alloc (Obj.cells #[Value.int IntKind.i64 (kf j), Value.int IntKind.i64 (rf j), Value.int IntKind.i64 (mf j)] 52))
        have HB3 := Lib.hid hb3
        have HBJ := Lib.hid hbj
        clear hb3 hbj
        go_wp2_with (at_builtin; refine wpList_append_own _ rfl _ _ 29 rfl W.heap.size 52 i52 (.agg #[.int .i64 0, .int .i64 0, .int .i64 0]) 3 24 Tryd.underlying29 hi hz0 hz1 hz2 rfl (by decide) _ j (oc j) rfl hown3.out ⟨w3.heap.size, 0, none⟩ 1 1 [.int .i64 (kf j), .int .i64 (rf j), .int .i64 (mf j)] rfl rfl ?c1 ?c2 ?c3 ?c4 ?c5 ?_)
        case c1 =>
          intro k u hk
          rcases (by have := (List.getElem?_eq_some_iff.1 hk).1; simp at this; omega : k = 0 ∨ k = 1 ∨ k = 2) with rfl | rfl | rfl <;> simp at hk <;> subst hk <;> simp [Addr.add]
        case c2 =>
          intro u hu
          simp at hu
          rcases hu with rfl | rfl | rfl <;> rfl
        case c3 => unfold maxLen; omega
        case c4 => omega
        case c5 => exact Nat.le_trans HBJ.out.size (Nat.le_trans HB3.out.size (by simp))
        intro v' w4 hown4 hgrow _
        have hbn : Below W.heap.size W w4 := ((below_then HB3.out HBJ.out.size HBJ.out).alloc (Nat.le_trans HBJ.out.size HB3.out.size) _).grown hgrow (Nat.le_trans HBJ.out.size (Nat.le_trans HB3.out.size (by simp))) (fun k hk => (HOW.out.lt k hk).1)
        have HB4 := Lib.hid hbn
        have HO4 := Lib.hid hown4
        clear hbn hgrow hown4
        go_wp2
        go_roundw
        case rel => exact ⟨j + 1, by omega, by go_num, by rw [HM1.out, HC3.out]; exact HO4.out, HB4.out⟩
        case measure => simp [intOf]; omega
      · have hval : [Value.iface (T 0) (V 0), Value.iface (T 1) (V 1), Value.iface (T 2) (V 2), Value.iface (T 3) (V 3), Value.nilIface].getD j undef = .nilIface := by rcases (by omega : j = 4) with rfl <;> rfl
        simp only [hval] at hix
        have hm : min j 4 = 4 := by omega
        have hm1 : min (j + 1) 4 = 4 := by omega
        have HOW := Lib.hid hown
        have HM := Lib.hid hm
        have HM1 := Lib.hid hm1
        clear hown hm hm1 hval
        go_wp2
        go_roundw
        case rel => exact ⟨j + 1, by omega, by go_num, by rw [HM1.out]; have h := HOW.out; rw [HM.out] at h; exact h, hbj⟩
        case measure => simp [intOf]; omega
    · have t5 : decide ((j : Int) < 5) = false := by simp; omega
      have c0 : wr.cell? ⟨B6, 0, none⟩ = some (.int .u16 o) := (hbj.cell (p := ⟨B6, 0, none⟩) ql).trans Q0.out
      have c1 : wr.cell? ⟨B6, 1, none⟩ = some (.int .u32 x) := (hbj.cell (p := ⟨B6, 1, none⟩) ql).trans Q1.out
      have hm : min j 4 = 4 := by omega
      rw [hm] at hown
      have HOW := Lib.hid hown
      clear hown hm
      go_wp2
      go_quiet (fail)
      go_wp2
      refine bodyPost_ret (v := .tuple #[.int .i64 o, u8, .int .u32 x, .bool true]) (by simp [results, Tryd.results12, go_sem]) rfl ⟨u8, rfl, ?_, ?_⟩
      · exact ownsRow_less HOW.out QB.out.size
      · exact below_drewN (QB.out.trans (hbj.mono QB.out.size)) _
set_option maxHeartbeats 4000000 in
theorem impl_ok5 (v : Value) (zs : List Int) (w : World) (hv : BytesAt w v zs) (hn : 4 ≤ zs.length) (f : Sp.Fmt) (hf : findFmt (wordOf zs) = some f) (hL : f.args.length = 5) :
    Calls Tryd.prog 12 #[v] w fun e w' => ∃ v', e = .returned (.tuple #[.int .i64 f.op, v', .int .u32 (wordOf zs), .bool true]) ∧ w'.ownsRow w.heap.size 52 3 v' 5 (outCells f (wordOf zs) 5) ∧ Below w.heap.size w w' := by
  have HV := Lib.hid hv
  obtain ⟨hx, hx2⟩ := word_bd hv.fits
  have hop := find_op hf
  have hgood := find_good hf
  obtain ⟨i52, hi, hz0, hz1, hz2⟩ := info_parts info52
  obtain ⟨T, hT⟩ : ∃ T : Nat → TypeId, T = fun i => ifT (argD f (wordOf zs) i) := ⟨_, rfl⟩
  obtain ⟨V, hV⟩ : ∃ V : Nat → Value, V = fun i => ifV (argD f (wordOf zs) i) := ⟨_, rfl⟩
  have HA : Hid (∀ j, j < 5 → ∀ W, Calls Tryd.prog 22 #[.iface (T j) (V j)] W fun e w' => e = .returned (.agg #[.int .i64 (Sp.dA (argD f (wordOf zs) j)).kind, .int .i64 (Sp.dA (argD f (wordOf zs) j)).reg, .int .i64 (Sp.dA (argD f (wordOf zs) j)).num]) ∧ Below W.heap.size W w') := by
    intro j hj W
    rw [hT, hV]
    obtain ⟨k1, k2⟩ := good_arg hgood (j := j) (by omega)
    exact argOf_any (argD f (wordOf zs) j) W (darg_ty _ _ _ k1 k2) (darg_bd _ _ _ k1 k2)
  have HI : instVal f (wordOf zs) = .agg #[.int .u16 f.op, .int .u32 (wordOf zs), .iface (T 0) (V 0), .iface (T 1) (V 1), .iface (T 2) (V 2), .iface (T 3) (V 3), .iface (T 4) (V 4)] := by rw [hT, hV]; simp [instVal, cellAt, hL]
  have HC : Hid (∀ j, outCells f (wordOf zs) (j + 1) = outCells f (wordOf zs) j ++ [.int .i64 (Sp.dA (argD f (wordOf zs) j)).kind, .int .i64 (Sp.dA (argD f (wordOf zs) j)).reg, .int .i64 (Sp.dA (argD f (wordOf zs) j)).num]) := fun j => outCells_succ _ _ _
  have HD : Hid (∀ v1 w1, w1.ownsRow w.heap.size 5 1 v1 zs.length (zs.map (Value.int .u8)) → Calls Tryd.prog 20 #[v1] w1 fun e w' => e = .returned (.tuple #[.agg #[.int .u16 f.op, .int .u32 (wordOf zs), .iface (T 0) (V 0), .iface (T 1) (V 1), .iface (T 2) (V 2), .iface (T 3) (V 3), .iface (T 4) (V 4)], .nilIface]) ∧ Below w1.heap.size w1 w') := by
    intro v1 w1 hown
    have h := decA_ok hown hv.fits hv.most hn hf
    rw [HI] at h
    exact h
  clear HI hT hV hgood hf hL hn hv
  obtain ⟨kf, hkf⟩ : ∃ kf : Nat → Int, kf = fun j => (Sp.dA (argD f (wordOf zs) j)).kind := ⟨_, rfl⟩
  obtain ⟨rf, hrf⟩ : ∃ rf : Nat → Int, rf = fun j => (Sp.dA (argD f (wordOf zs) j)).reg := ⟨_, rfl⟩
  obtain ⟨mf, hmf⟩ : ∃ mf : Nat → Int, mf = fun j => (Sp.dA (argD f (wordOf zs) j)).num := ⟨_, rfl⟩
  have HA2 : Hid (∀ j, j < 5 → ∀ W, Calls Tryd.prog 22 #[.iface (T j) (V j)] W fun e w' => e = .returned (.agg #[.int .i64 (kf j), .int .i64 (rf j), .int .i64 (mf j)]) ∧ Below W.heap.size W w') := by rw [hkf, hrf, hmf]; exact HA.out
  have HC2 : Hid (∀ j, outCells f (wordOf zs) (j + 1) = outCells f (wordOf zs) j ++ [.int .i64 (kf j), .int .i64 (rf j), .int .i64 (mf j)]) := by rw [hkf, hrf, hmf]; exact HC.out
  clear HA HC hkf hrf hmf
  generalize hxx : wordOf zs = x at *
  clear hxx
  obtain ⟨oc, hoc⟩ : ∃ oc : Nat → List Value, oc = outCells f x := ⟨_, rfl⟩
  have HOC := Lib.hid hoc
  have HC3 : Hid (∀ j, oc (j + 1) = oc j ++ [.int .i64 (kf j), .int .i64 (rf j), .int .i64 (mf j)]) := by rw [hoc]; exact HC2.out
  have HC0 : Hid (oc 0 = []) := by rw [hoc]; rfl
  clear hoc HC2
  obtain ⟨o, ho⟩ : ∃ o : Int, o = f.op := ⟨_, rfl⟩
  have ho1 : 0 ≤ o ∧ o ≤ 65535 := by omega
  rw [← ho, ← HOC.out]
  rw [← ho] at HD
  clear ho HOC hop
  go_enter Tryd.func12, Tryd.ntmps12
  go_wp2_with fail
  refine (clone_any _ _ _ HV.out).mono ?_
  rintro e w1 ⟨v1, rfl, hown, hb⟩
  have HDD := Lib.hid (HD.out v1 w1 hown)
  clear hown
  go_wp2_with (go_at_call 20; refine HDD.out.mono ?_; rintro e w2 ⟨rfl, hb2⟩)
  have q0 : (w2.alloc (Obj.cells #[Value.int IntKind.u16 o, Value.int IntKind.u32 x, Value.iface (T 0) (V 0), Value.iface (T 1) (V 1), Value.iface (T 2) (V 2), Value.iface (T 3) (V 3), Value.iface (T 4) (V 4)] 45)).cell? ⟨w2.heap.size, 0, none⟩ = some (.int .u16 o) := by simp
  have q1 : (w2.alloc (Obj.cells #[Value.int IntKind.u16 o, Value.int IntKind.u32 x, Value.iface (T 0) (V 0), Value.iface (T 1) (V 1), Value.iface (T 2) (V 2), Value.iface (T 3) (V 3), Value.iface (T 4) (V 4)] 45)).cell? ⟨w2.heap.size, 1, none⟩ = some (.int .u32 x) := by simp
  have qb : Below w.heap.size w (w2.alloc (Obj.cells #[Value.int IntKind.u16 o, Value.int IntKind.u32 x, Value.iface (T 0) (V 0), Value.iface (T 1) (V 1), Value.iface (T 2) (V 2), Value.iface (T 3) (V 3), Value.iface (T 4) (V 4)] 45)) := (below_then hb2 hb.size hb).alloc (Nat.le_trans hb.size hb2.size) _
  have ql : w2.heap.size < (w2.alloc (Obj.cells #[Value.int IntKind.u16 o, Value.int IntKind.u32 x, Value.iface (T 0) (V 0), Value.iface (T 1) (V 1), Value.iface (T 2) (V 2), Value.iface (T 3) (V 3), Value.iface (T 4) (V 4)] 45)).heap.size := by simp
  generalize (w2.alloc (Obj.cells #[Value.int IntKind.u16 o, Value.int IntKind.u32 x, Value.iface (T 0) (V 0), Value.iface (T 1) (V 1), Value.iface (T 2) (V 2), Value.iface (T 3) (V 3), Value.iface (T 4) (V 4)] 45)) = W at *
  generalize w2.heap.size = B6 at *
  have Q0 := Lib.hid q0
  have Q1 := Lib.hid q1
  have QB := Lib.hid qb
  clear q0 q1 qb hb hb2 HDD
  go_loopw [8, 21] (fun s i wr => ∃ j : Nat, j ≤ 5 ∧ i = .int .i64 j ∧ wr.ownsRow W.heap.size 52 3 s (min j 5) (oc (min j 5)) ∧ Below W.heap.size W wr) (fun _ i _ => 5 - (intOf i).toNat)
  case atStart => exact ⟨0, Nat.zero_le _, rfl, by rw [Nat.zero_min, HC0.out]; exact World.ownsRow_nil _ _ _ _, Below.refl _ _⟩
  case round =>
    obtain ⟨j, hj, rfl, hown, hbj⟩ := hrel
    by_cases h5 : j < 5
    · have t5 : (j : Int) < 5 := by omega
      have hix := fun W => run_idx43 (Value.iface (T 0) (V 0)) (Value.iface (T 1) (V 1)) (Value.iface (T 2) (V 2)) (Value.iface (T 3) (V 3)) (Value.iface (T 4) (V 4)) j h5 W
      · have hlt : j < 5 := h5
        have hval : [Value.iface (T 0) (V 0), Value.iface (T 1) (V 1), Value.iface (T 2) (V 2), Value.iface (T 3) (V 3), Value.iface (T 4) (V 4)].getD j undef = .iface (T j) (V j) := by rcases (by omega : j = 0 ∨ j = 1 ∨ j = 2 ∨ j = 3 ∨ j = 4) with rfl | rfl | rfl | rfl | rfl <;> rfl
        simp only [hval] at hix
        have hm : min j 5 = j := by omega
        have hm1 : min (j + 1) 5 = j + 1 := by omega
        rw [hm] at hown
        have HOW := Lib.hid hown
        have HM1 := Lib.hid hm1
        have HAJ := Lib.hid (HA2.out j hlt)
        clear hown hm hm1 hval
        go_wp2_with fail
        refine (HAJ.out _).mono ?_
        rintro e w3 ⟨rfl, hb3⟩
        have hown3 := Lib.hid ((below_kept HOW.out hb3).alloc (Obj.cells #[Value.int IntKind.i64 (kf j), Value.int IntKind.i64 (rf j), Value.int IntKind.i64 (mf j)] 52))
        have HB3 := Lib.hid hb3
        have HBJ := Lib.hid hbj
        clear hb3 hbj
        go_wp2_with (at_builtin; refine wpList_append_own _ rfl _ _ 29 rfl W.heap.size 52 i52 (.agg #[.int .i64 0, .int .i64 0, .int .i64 0]) 3 24 Tryd.underlying29 hi hz0 hz1 hz2 rfl (by decide) _ j (oc j) rfl hown3.out ⟨w3.heap.size, 0, none⟩ 1 1 [.int .i64 (kf j), .int .i64 (rf j), .int .i64 (mf j)] rfl rfl ?c1 ?c2 ?c3 ?c4 ?c5 ?_)
        case c1 =>
          intro k u hk
          rcases (by have := (List.getElem?_eq_some_iff.1 hk).1; simp at this; omega : k = 0 ∨ k = 1 ∨ k = 2) with rfl | rfl | rfl <;> simp at hk <;> subst hk <;> simp [Addr.add]
        case c2 =>
          intro u hu
          simp at hu
          rcases hu with rfl | rfl | rfl <;> rfl
        case c3 => unfold maxLen; omega
        case c4 => omega
        case c5 => exact Nat.le_trans HBJ.out.size (Nat.le_trans HB3.out.size (by simp))
        intro v' w4 hown4 hgrow _
        have hbn : Below W.heap.size W w4 := ((below_then HB3.out HBJ.out.size HBJ.out).alloc (Nat.le_trans HBJ.out.size HB3.out.size) _).grown hgrow (Nat.le_trans HBJ.out.size (Nat.le_trans HB3.out.size (by simp))) (fun k hk => (HOW.out.lt k hk).1)
        have HB4 := Lib.hid hbn
        have HO4 := Lib.hid hown4
        clear hbn hgrow hown4
        go_wp2
        go_roundw
        case rel => exact ⟨j + 1, by omega, by go_num, by rw [HM1.out, HC3.out]; exact HO4.out, HB4.out⟩
        case measure => simp [intOf]; omega
    · have t5 : decide ((j : Int) < 5) = false := by simp; omega
      have c0 : wr.cell? ⟨B6, 0, none⟩ = some (.int .u16 o) := (hbj.cell (p := ⟨B6, 0, none⟩) ql).trans Q0.out
      have c1 : wr.cell? ⟨B6, 1, none⟩ = some (.int .u32 x) := (hbj.cell (p := ⟨B6, 1, none⟩) ql).trans Q1.out
      have hm : min j 5 = 5 := by omega
      rw [hm] at hown
      have HOW := Lib.hid hown
      clear hown hm
      go_wp2
      go_quiet (fail)
      go_wp2
      refine bodyPost_ret (v := .tuple #[.int .i64 o, u8, .int .u32 x, .bool true]) (by simp [results, Tryd.results12, go_sem]) rfl ⟨u8, rfl, ?_, ?_⟩
      · exact ownsRow_less HOW.out QB.out.size
      · exact below_drewN (QB.out.trans (hbj.mono QB.out.size)) _
end Go.Proofs.YtiffpgjhopicaaaDoor

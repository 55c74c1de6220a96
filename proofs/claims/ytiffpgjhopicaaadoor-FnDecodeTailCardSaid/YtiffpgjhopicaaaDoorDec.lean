/-
  The walk of loong64asm.Decode.
-/
import Derived.Test.YtiffpgjhopicaaaDoorLe
import Derived.Test.YtiffpgjhopicaaaDoorDArg
namespace Go.Proofs.YtiffpgjhopicaaaDoor
open Go.RowKit Go.BigFrame

/-- A format meets a word. -/
def meets (f : Sp.Fmt) (x : Int) : Bool := bits .and .u32 x f.mask == (f.value : Int)
theorem tab_size : Sp.tab.length = 399 := by decide +kernel
theorem tab_at (k : Nat) (hk : k < 399) : ∃ f, Sp.tab[k]? = some f := ⟨_, List.getElem?_eq_getElem (by rw [tab_size]; exact hk)⟩

def inst0 : Array Value := #[.int .u16 0, .int .u32 0, .nilIface, .nilIface, .nilIface, .nilIface, .nilIface]

/-- Every format's arguments: five at most, each of a kind that decodeArg knows. -/
def goodFmt (f : Sp.Fmt) : Bool := decide (f.args.length ≤ 5) && f.args.all (fun a => decide (1 ≤ a) && decide (a ≤ 37))
theorem tab_good : Sp.tab.all goodFmt = true := by decide +kernel
theorem good_of {m : Nat} {f : Sp.Fmt} (hf : Sp.tab[m]? = some f) : goodFmt f = true := List.all_eq_true.1 tab_good f (List.mem_of_getElem? hf)
theorem good_len {f : Sp.Fmt} (h : goodFmt f = true) : f.args.length ≤ 5 := by
  simp only [goodFmt, Bool.and_eq_true, decide_eq_true_eq] at h; exact h.1
theorem good_arg {f : Sp.Fmt} (h : goodFmt f = true) {j : Nat} (hj : j < f.args.length) : 1 ≤ f.args.getD j 0 ∧ f.args.getD j 0 ≤ 37 := by
  simp only [goodFmt, Bool.and_eq_true, List.all_eq_true, decide_eq_true_eq] at h
  have he : f.args.getD j 0 = f.args[j] := by simp [List.getD, hj]
  rw [he]
  exact h.2 _ (List.getElem_mem hj)

/-- The arguments' cells behind j rounds. -/
def argD (f : Sp.Fmt) (x : Int) (i : Nat) : Sp.D := Sp.darg (f.args.getD i 0) x f.op
def cellAt (f : Sp.Fmt) (x : Int) (j i : Nat) : Value := if i < j then .iface (ifT (argD f x i)) (ifV (argD f x i)) else .nilIface
theorem run_idx (a0 a1 a2 a3 a4 : Int) (j : Nat) (hj : j < 5) (W : World) :
    (Instr.index 60 (.agg #[.int .u16 a0, .int .u16 a1, .int .u16 a2, .int .u16 a3, .int .u16 a4]) (.int .i64 (j : Int))).run Tryd.prog W = .ok (.int .u16 ([a0, a1, a2, a3, a4].getD j 0)) W := by
  rcases (by omega : j = 0 ∨ j = 1 ∨ j = 2 ∨ j = 3 ∨ j = 4) with rfl | rfl | rfl | rfl | rfl <;> kernel_rfl

/-- What is known of the arguments' block behind j rounds. -/
structure ArgsIn (f : Sp.Fmt) (x : Int) (A j : Nat) (w : World) : Prop where
  cell : ∀ i, i < 5 → w.cell? ⟨A, i, none⟩ = some (cellAt f x j i)
  free : ∀ i, w.frozen? ⟨A, i, none⟩ = false
  lt : A < w.heap.size
theorem argsIn_next {f : Sp.Fmt} {x : Int} {A j : Nat} {w w2 : World} (h : ArgsIn f x A j w) (hb : Below w.heap.size w w2) (hj : j < 5) :
    ArgsIn f x A (j + 1) (w2.setCell ⟨A, j, none⟩ (.iface (ifT (argD f x j)) (ifV (argD f x j)))) := by
  have hlt : A < w2.heap.size := Nat.lt_of_lt_of_le h.lt hb.size
  have hw : ∀ i, i < 5 → w2.cell? ⟨A, i, none⟩ = some (cellAt f x j i) := fun i hi => (hb.cell (p := ⟨A, i, none⟩) h.lt).trans (h.cell i hi)
  refine ⟨fun i hi => ?_, fun i => ?_, by simpa [World.setCell] using hlt⟩
  · by_cases e : i = j
    · subst e
      have h0 := hw i hi
      unfold World.cell? at h0 ⊢
      unfold World.setCell
      simp only [Array.getElem?_modify, if_true] at h0 ⊢
      split at h0
      · rename_i c el fz hh
        rw [hh]
        simp only [Option.map_some, Option.isSome_none, Bool.false_eq_true, if_false] at h0 ⊢
        rw [Array.getElem?_setIfInBounds_self_of_lt (by obtain ⟨q, _⟩ := Array.getElem?_eq_some_iff.1 h0; exact q)]
        simp [cellAt]
      · cases h0
    · have h0 := hw i hi
      unfold World.cell? at h0 ⊢
      unfold World.setCell
      simp only [Array.getElem?_modify, if_true] at h0 ⊢
      split at h0
      · rename_i c el fz hh
        rw [hh]
        simp only [Option.map_some, Option.isSome_none, Bool.false_eq_true, if_false] at h0 ⊢
        rw [Array.getElem?_setIfInBounds_ne (Ne.symm e), h0]
        simp only [cellAt]
        by_cases g : i < j
        · rw [if_pos g, if_pos (by omega)]
        · rw [if_neg g, if_neg (by omega)]
      · cases h0
  · have h0 := (hb.frozen (p := ⟨A, i, none⟩) h.lt).trans (h.free i)
    unfold World.frozen? at h0 ⊢
    unfold World.setCell
    simp only [Array.getElem?_modify, if_true] at h0 ⊢
    cases hh : w2.heap[A]? with
    | none => simp
    | some o =>
      rw [hh] at h0
      cases o <;> simp_all

def instVal (f : Sp.Fmt) (x : Int) : Value := .agg #[.int .u16 f.op, .int .u32 x, cellAt f x f.args.length 0, cellAt f x f.args.length 1, cellAt f x f.args.length 2, cellAt f x f.args.length 3, cellAt f x f.args.length 4]
theorem set_same {W : World} {B i : Nat} {v : Value} (h : ∃ u, W.cell? ⟨B, i, none⟩ = some u) : (W.setCell ⟨B, i, none⟩ v).cell? ⟨B, i, none⟩ = some v := by
  obtain ⟨u, h0⟩ := h
  unfold World.cell? at h0 ⊢
  unfold World.setCell
  simp only [Array.getElem?_modify, if_true] at h0 ⊢
  split at h0
  · rename_i c el fz hh
    rw [hh]
    simp only [Option.map_some, Option.isSome_none, Bool.false_eq_true, if_false] at h0 ⊢
    rw [Array.getElem?_setIfInBounds_self_of_lt (by obtain ⟨q, _⟩ := Array.getElem?_eq_some_iff.1 h0; exact q)]
  · cases h0
theorem set_ne {W : World} {B i j : Nat} {v : Value} (e : j ≠ i) : (W.setCell ⟨B, i, none⟩ v).cell? ⟨B, j, none⟩ = W.cell? ⟨B, j, none⟩ := by
  unfold World.cell? World.setCell
  simp only [Array.getElem?_modify, if_true]
  cases hh : W.heap[B]? with
  | none => simp
  | some o =>
    cases o <;> simp
    rw [Array.getElem?_setIfInBounds_ne (Ne.symm e)]
/-- Stores into a block's cells from i on. -/
def storeL (W : World) (B : Nat) : Nat → List Value → World
  | _, [] => W
  | i, v :: vs => storeL (W.setCell ⟨B, i, none⟩ v) B (i + 1) vs
theorem storeL_cell {B : Nat} : ∀ (vs : List Value) (i : Nat) (W : World), (∀ j, j < i + vs.length → ∃ u, W.cell? ⟨B, j, none⟩ = some u) →
    (∀ j, j < i → (storeL W B i vs).cell? ⟨B, j, none⟩ = W.cell? ⟨B, j, none⟩) ∧ ∀ k (h : k < vs.length), (storeL W B i vs).cell? ⟨B, i + k, none⟩ = some vs[k]
  | [], _, _, _ => ⟨fun _ _ => rfl, fun k h => by simp at h⟩
  | v :: vs, i, W, hW => by
    have hW' : ∀ j, j < i + 1 + vs.length → ∃ u, (W.setCell ⟨B, i, none⟩ v).cell? ⟨B, j, none⟩ = some u := by
      intro j hj
      by_cases e : j = i
      · subst e; exact ⟨v, set_same (hW j (by simp))⟩
      · rw [set_ne e]; exact hW j (by simp; omega)
    obtain ⟨h1, h2⟩ := storeL_cell vs (i + 1) (W.setCell ⟨B, i, none⟩ v) hW'
    refine ⟨fun j hj => ?_, fun k hk => ?_⟩
    · rw [storeL, h1 j (by omega), set_ne (by omega)]
    · cases k with
      | zero =>
        have h0 := h1 i (by omega)
        rw [set_same (hW i (by simp))] at h0
        exact h0
      | succ k =>
        have := h2 k (by simpa using hk)
        rw [storeL, show i + (k + 1) = i + 1 + k from by omega, this]
        rfl
theorem storeL_all {W : World} {B : Nat} (vs : List Value) (h : ∀ j, j < vs.length → ∃ u, W.cell? ⟨B, j, none⟩ = some u) : ∀ k (hk : k < vs.length), (storeL W B 0 vs).cell? ⟨B, k, none⟩ = some vs[k] := by
  intro k hk
  have := (storeL_cell vs 0 W (fun j hj => h j (by omega))).2 k hk
  rwa [Nat.zero_add] at this
theorem below_storeL {B C : Nat} {a : World} (hC : C ≤ B) : ∀ (vs : List Value) (i : Nat) (W : World), Below C a W → Below C a (storeL W B i vs)
  | [], _, _, h => h
  | v :: vs, i, _, h => below_storeL hC vs (i + 1) _ (h.setCell hC v)
theorem results20 (tmps : Array Value) (W : World) (B : Nat) (v0 v1 v2 v3 v4 v5 v6 e : Value) (h2 : tmps.getD 2 undef = .pointer (some ⟨B, 0, none⟩)) (h3 : tmps.getD 3 undef = e)
    (h : ∀ k (hk : k < [v0, v1, v2, v3, v4, v5, v6].length), W.cell? ⟨B, k, none⟩ = some [v0, v1, v2, v3, v4, v5, v6][k]) :
    (results Tryd.f20 tmps).run Tryd.prog W = .ok (.tuple #[.agg #[v0, v1, v2, v3, v4, v5, v6], e]) W := by
  have c0 : W.cell? ⟨B, 0, none⟩ = some v0 := h 0 (by simp)
  have c1 : W.cell? ⟨B, 1, none⟩ = some v1 := h 1 (by simp)
  have c2 : W.cell? ⟨B, 2, none⟩ = some v2 := h 2 (by simp)
  have c3 : W.cell? ⟨B, 3, none⟩ = some v3 := h 3 (by simp)
  have c4 : W.cell? ⟨B, 4, none⟩ = some v4 := h 4 (by simp)
  have c5 : W.cell? ⟨B, 5, none⟩ = some v5 := h 5 (by simp)
  have c6 : W.cell? ⟨B, 6, none⟩ = some v6 := h 6 (by simp)
  have h2' : tmps[2]?.getD undef = .pointer (some ⟨B, 0, none⟩) := by simpa using h2
  have h3' : tmps[3]?.getD undef = e := by simpa using h3
  simp [results, Tryd.results20, go_sem, h2', h3', c0, c1, c2, c3, c4, c5, c6]

theorem argsIn_start (f : Sp.Fmt) (x : Int) (w : World) (o1 o2 : Obj) : ArgsIn f x (w.heap.size + 1 + 1) 0 (((w.alloc o1).alloc o2).alloc (Obj.cells #[Value.nilIface, Value.nilIface, Value.nilIface, Value.nilIface, Value.nilIface] 43)) := by
  have e : w.heap.size + 1 + 1 = ((w.alloc o1).alloc o2).heap.size := by simp
  rw [e]
  generalize (w.alloc o1).alloc o2 = W
  refine ⟨fun i hi => ?_, fun i => ?_, by simp⟩
  · rcases (by omega : i = 0 ∨ i = 1 ∨ i = 2 ∨ i = 3 ∨ i = 4) with rfl | rfl | rfl | rfl | rfl <;> simp [cellAt]
  · simp
theorem below_three {B : Nat} {a w : World} (h : Below B a w) (o1 o2 o3 : Obj) (hB : B ≤ w.heap.size) : Below B a (((w.alloc o1).alloc o2).alloc o3) :=
  ((h.alloc hB o1).alloc (by simp; omega) o2).alloc (by simp; omega) o3

set_option maxHeartbeats 2000000 in
theorem dec_found (g n cap : Nat) (w : World) (hn : 4 ≤ n) (x : Int) (hx : 0 ≤ x) (hx2 : x ≤ 4294967295)
    (hle : ∀ W : World, Below w.heap.size w W → Calls Tryd.prog 25 #[.slice (some ⟨g, 0, none⟩) n cap] W fun e w' => e = .returned (.int .u32 x) ∧ ∃ m, w' = W.drewN m)
    (m : Nat) (hm : m < 399) (f : Sp.Fmt) (hf : Sp.tab[m]? = some f) (hyes : meets f x = true) (hno : ∀ k h, k < m → Sp.tab[k]? = some h → meets h x = false) :
    Calls Tryd.prog 20 #[.slice (some ⟨g, 0, none⟩) n cap] w fun e w' => e = .returned (.tuple #[instVal f x, .nilIface]) ∧ Below w.heap.size w w' := by
  have HL := Lib.hid hle
  have HF := Lib.hid hf
  have HY := Lib.hid hyes
  have HN := Lib.hid hno
  clear hle hf hyes hno
  have t : decide ((n : Int) < 4) = false := by simp; omega
  go_enter Tryd.func20, Tryd.ntmps20
  go_wp2_with fail
  go_step3
  go_wp2_with (go_at_call 25; refine (HL.out _ ((Below.refl _ _).alloc (Nat.le_refl _) _)).mono ?_; rintro e w' ⟨rfl, nd, rfl⟩)
  go_step3
  go_wp2_with fail
  go_loopw [18] (fun i wr => ∃ k : Nat, k ≤ m ∧ i = .int .i64 k ∧ Below (w.heap.size + 1) (w.alloc (.cells inst0 45)) wr) (fun i _ => m - (intOf i).toNat)
  case atStart => exact ⟨0, Nat.zero_le _, rfl, below_drewN (Below.refl _ _) _⟩
  case round =>
    obtain ⟨k, hk, rfl, hb⟩ := hrel
    by_cases hlt : k < m
    · obtain ⟨h, hh⟩ := tab_at k (by omega)
      have hno := HN.out k h hlt hh
      have HH := Lib.hid hh
      clear hh
      have t2 : (bits .and .u32 x (h.mask : Int) != (h.value : Int)) = true := by unfold meets at hno; simp only [bne, hno, Bool.not_false]
      clear hno
      have t3 : (k : Int) < 399 := by omega
      go_wp2_with (go_at_call 26; refine (inst_any _ _ HH.out _).mono ?_; rintro e w' ⟨rfl, rfl⟩; unfold fmtVal fmtCells)
      go_roundw
      case rel =>
        refine ⟨k + 1, by omega, by go_num, ?_⟩
        have hs := hb.size
        simp at hs
        repeat' (first | exact hb | (refine Below.alloc ?_ ?_ _) | (simp; omega) | omega)
      case measure => simp [intOf]; omega
    · obtain rfl : k = m := by omega
      clear hlt
      have t3 : (k : Int) < 399 := by omega
      obtain ⟨mk, hmk⟩ : ∃ z : Int, z = f.mask := ⟨_, rfl⟩
      obtain ⟨vl, hvl⟩ : ∃ z : Int, z = f.value := ⟨_, rfl⟩
      obtain ⟨o, ho⟩ : ∃ z : Int, z = f.op := ⟨_, rfl⟩
      obtain ⟨a0, h0⟩ : ∃ z : Int, z = (f.args.getD 0 0 : Nat) := ⟨_, rfl⟩
      obtain ⟨a1, h1⟩ : ∃ z : Int, z = (f.args.getD 1 0 : Nat) := ⟨_, rfl⟩
      obtain ⟨a2, h2⟩ : ∃ z : Int, z = (f.args.getD 2 0 : Nat) := ⟨_, rfl⟩
      obtain ⟨a3, h3⟩ : ∃ z : Int, z = (f.args.getD 3 0 : Nat) := ⟨_, rfl⟩
      obtain ⟨a4, h4⟩ : ∃ z : Int, z = (f.args.getD 4 0 : Nat) := ⟨_, rfl⟩
      have HI : Hid (∀ W, Calls Tryd.prog 26 #[.int .i64 k] W fun e w' => e = .returned (.agg #[.int .u32 mk, .int .u32 vl, .int .u16 o, .int .u16 a0, .int .u16 a1, .int .u16 a2, .int .u16 a3, .int .u16 a4]) ∧ w' = W.alloc (.cells #[.int .u32 mk, .int .u32 vl, .int .u16 o, .int .u16 a0, .int .u16 a1, .int .u16 a2, .int .u16 a3, .int .u16 a4] 62)) := by
        intro W
        have h := inst_any k f HF.out W
        rw [hmk, hvl, ho, h0, h1, h2, h3, h4]
        exact h
      have t2 : (bits .and .u32 x mk != vl) = false := by have h := HY.out; unfold meets at h; rw [hmk, hvl]; simp only [bne, h, Bool.not_true]
      have HV : Hid (∀ j, j < 5 → [a0, a1, a2, a3, a4].getD j 0 = (f.args.getD j 0 : Nat)) := by
        intro j hj
        rw [h0, h1, h2, h3, h4]
        rcases (by omega : j = 0 ∨ j = 1 ∨ j = 2 ∨ j = 3 ∨ j = 4) with rfl | rfl | rfl | rfl | rfl <;> rfl
      have HO := Lib.hid ho
      clear hmk hvl ho h0 h1 h2 h3 h4
      go_wp2_with (go_at_call 26; refine (HI.out _).mono ?_; rintro e w' ⟨rfl, rfl⟩)
      have hA := argsIn_start f x wr (Obj.cells #[Value.int IntKind.u32 mk, Value.int IntKind.u32 vl, Value.int IntKind.u16 o, Value.int IntKind.u16 a0, Value.int IntKind.u16 a1, Value.int IntKind.u16 a2, Value.int IntKind.u16 a3, Value.int IntKind.u16 a4] 62) (Obj.cells #[Value.int IntKind.u32 mk, Value.int IntKind.u32 vl, Value.int IntKind.u16 o, Value.int IntKind.u16 a0, Value.int IntKind.u16 a1, Value.int IntKind.u16 a2, Value.int IntKind.u16 a3, Value.int IntKind.u16 a4] 62)
      have hB := below_three hb (Obj.cells #[Value.int IntKind.u32 mk, Value.int IntKind.u32 vl, Value.int IntKind.u16 o, Value.int IntKind.u16 a0, Value.int IntKind.u16 a1, Value.int IntKind.u16 a2, Value.int IntKind.u16 a3, Value.int IntKind.u16 a4] 62) (Obj.cells #[Value.int IntKind.u32 mk, Value.int IntKind.u32 vl, Value.int IntKind.u16 o, Value.int IntKind.u16 a0, Value.int IntKind.u16 a1, Value.int IntKind.u16 a2, Value.int IntKind.u16 a3, Value.int IntKind.u16 a4] 62) (Obj.cells #[Value.nilIface, Value.nilIface, Value.nilIface, Value.nilIface, Value.nilIface] 43) (by have := hb.size; simp at this; omega)
      have hP : (((wr.alloc (Obj.cells #[Value.int IntKind.u32 mk, Value.int IntKind.u32 vl, Value.int IntKind.u16 o, Value.int IntKind.u16 a0, Value.int IntKind.u16 a1, Value.int IntKind.u16 a2, Value.int IntKind.u16 a3, Value.int IntKind.u16 a4] 62)).alloc (Obj.cells #[Value.int IntKind.u32 mk, Value.int IntKind.u32 vl, Value.int IntKind.u16 o, Value.int IntKind.u16 a0, Value.int IntKind.u16 a1, Value.int IntKind.u16 a2, Value.int IntKind.u16 a3, Value.int IntKind.u16 a4] 62)).alloc (Obj.cells #[Value.nilIface, Value.nilIface, Value.nilIface, Value.nilIface, Value.nilIface] 43)).cell? ⟨wr.heap.size + 1, 2, none⟩ = some (.int .u16 o) := by go_simp
      generalize (((wr.alloc (Obj.cells #[Value.int IntKind.u32 mk, Value.int IntKind.u32 vl, Value.int IntKind.u16 o, Value.int IntKind.u16 a0, Value.int IntKind.u16 a1, Value.int IntKind.u16 a2, Value.int IntKind.u16 a3, Value.int IntKind.u16 a4] 62)).alloc (Obj.cells #[Value.int IntKind.u32 mk, Value.int IntKind.u32 vl, Value.int IntKind.u16 o, Value.int IntKind.u16 a0, Value.int IntKind.u16 a1, Value.int IntKind.u16 a2, Value.int IntKind.u16 a3, Value.int IntKind.u16 a4] 62)).alloc (Obj.cells #[Value.nilIface, Value.nilIface, Value.nilIface, Value.nilIface, Value.nilIface] 43)) = W at *
      have hF : w.heap.size < wr.heap.size + 1 := by have := hb.size; simp at this; omega
      clear hb
      have hP2 : wr.heap.size + 1 < W.heap.size := by have := hA.lt; omega
      generalize wr.heap.size + 1 = F at *
      have hgood := Lib.hid (good_of HF.out)
      have HA := Lib.hid hA
      have HB := Lib.hid hB
      have HP := Lib.hid hP
      clear hA hB hP
      go_loopw [32] (fun i wi => ∃ j : Nat, j ≤ f.args.length ∧ i = .int .i64 j ∧ ArgsIn f x (F + 1) j wi ∧ Below (F + 1) W wi) (fun i _ => f.args.length - (intOf i).toNat)
      case atStart => exact ⟨0, Nat.zero_le _, rfl, HA.out, Below.refl _ _⟩
      case round =>
        obtain ⟨j, hj, rfl, hin, hbi⟩ := hrel
        have hl5 := good_len hgood.out
        have c0 := hin.cell
        have fr := hin.free
        have lt := hin.lt
        have HC := Lib.hid c0
        by_cases hlt : j < f.args.length
        · obtain ⟨k1, k2⟩ := good_arg hgood.out hlt
          have hcj : wr.cell? ⟨F + 1, j, none⟩ = some Value.nilIface := by have := HC.out j (by omega); simpa [cellAt] using this
          have hidx := fun W => run_idx a0 a1 a2 a3 a4 j (by omega) W
          have hjj := Lib.hid (HV.out j (by omega))
          obtain ⟨c, hc⟩ : ∃ c : Int, c = (f.args.getD j 0 : Nat) := ⟨_, rfl⟩
          rw [hjj.out, ← hc] at hidx
          obtain ⟨T, hT⟩ : ∃ T, T = ifT (argD f x j) := ⟨_, rfl⟩
          obtain ⟨V, hV⟩ : ∃ V, V = ifV (argD f x j) := ⟨_, rfl⟩
          have HD : Hid (∀ W, Calls Tryd.prog 27 #[.int .u16 c, .int .u32 x, .int .i64 k] W fun e w' => e = .returned (.iface T V) ∧ Below W.heap.size W w') := by
            intro W
            rw [hc, hT, hV]
            exact darg_all _ x k f W hx hx2 HF.out k1 k2
          have hc1 : 1 ≤ c := by rw [hc]; exact_mod_cast k1
          have t5 : (c == 0) = false := by simp; omega
          have HT := Lib.hid hT
          have HVV := Lib.hid hV
          have t6 : (j : Int) < 5 := by omega
          clear hc hT hV c0 k1 k2
          go_wp2_with (go_at_call 27; refine (HD.out _).mono ?_; rintro e w2 ⟨rfl, hb2⟩; obtain ⟨hc2, hf2⟩ := bcell hb2; have hz2 : F + 1 < w2.heap.size := Nat.lt_of_lt_of_le lt hb2.size)
          go_roundw
          case rel => exact ⟨j + 1, by omega, by go_num, by rw [HT.out, HVV.out]; exact argsIn_next hin hb2 (by omega), (below_then hb2 (by omega) hbi).setCell (Nat.le_refl _) _⟩
          case measure => simp [intOf]; omega
        · obtain rfl : j = f.args.length := by omega
          have hbw := HB.out
          have e0 : ∀ i, wr.cell? ⟨w.heap.size, i, none⟩ = (w.alloc (.cells inst0 45)).cell? ⟨w.heap.size, i, none⟩ := fun i => (hbi.cell (p := ⟨w.heap.size, i, none⟩) (by show w.heap.size < F + 1; omega)).trans (hbw.cell (p := ⟨w.heap.size, i, none⟩) (by show w.heap.size < w.heap.size + 1; omega))
          have f0 : ∀ i, wr.frozen? ⟨w.heap.size, i, none⟩ = false := fun i => (hbi.frozen (p := ⟨w.heap.size, i, none⟩) (by show w.heap.size < F + 1; omega)).trans ((hbw.frozen (p := ⟨w.heap.size, i, none⟩) (by show w.heap.size < w.heap.size + 1; omega)).trans (by simp))
          have d0 : wr.cell? ⟨w.heap.size, 0, none⟩ = some (Value.int IntKind.u16 0) := (e0 0).trans (by simp [inst0])
          have d1 : wr.cell? ⟨w.heap.size, 1, none⟩ = some (Value.int IntKind.u32 0) := (e0 1).trans (by simp [inst0])
          have d2 : wr.cell? ⟨w.heap.size, 2, none⟩ = some Value.nilIface := (e0 2).trans (by simp [inst0])
          have d3 : wr.cell? ⟨w.heap.size, 3, none⟩ = some Value.nilIface := (e0 3).trans (by simp [inst0])
          have d4 : wr.cell? ⟨w.heap.size, 4, none⟩ = some Value.nilIface := (e0 4).trans (by simp [inst0])
          have d5 : wr.cell? ⟨w.heap.size, 5, none⟩ = some Value.nilIface := (e0 5).trans (by simp [inst0])
          have d6 : wr.cell? ⟨w.heap.size, 6, none⟩ = some Value.nilIface := (e0 6).trans (by simp [inst0])
          have p2 : wr.cell? ⟨F, 2, none⟩ = some (Value.int IntKind.u16 o) := (hbi.cell (p := ⟨F, 2, none⟩) (by show F < F + 1; omega)).trans HP.out
          have hz2 : w.heap.size < wr.heap.size := by omega
          have b0 := HC.out 0 (by omega)
          have b1 := HC.out 1 (by omega)
          have b2 := HC.out 2 (by omega)
          have b3 := HC.out 3 (by omega)
          have b4 := HC.out 4 (by omega)
          have hend : Below w.heap.size w wr := by
            exact (((Below.refl _ w).alloc (Nat.le_refl _) _).trans (hbw.mono (by omega))).trans (hbi.mono (by omega))
          have ex7 : ∀ j, j < 7 → ∃ u, wr.cell? ⟨w.heap.size, j, none⟩ = some u := by
            intro j hj
            rcases (by omega : j = 0 ∨ j = 1 ∨ j = 2 ∨ j = 3 ∨ j = 4 ∨ j = 5 ∨ j = 6) with rfl | rfl | rfl | rfl | rfl | rfl | rfl
            · exact ⟨_, d0⟩
            · exact ⟨_, d1⟩
            · exact ⟨_, d2⟩
            · exact ⟨_, d3⟩
            · exact ⟨_, d4⟩
            · exact ⟨_, d5⟩
            · exact ⟨_, d6⟩
          have EX := Lib.hid ex7
          clear e0 c0 hlt ex7
          rcases (by omega : f.args.length = 0 ∨ f.args.length = 1 ∨ f.args.length = 2 ∨ f.args.length = 3 ∨ f.args.length = 4 ∨ f.args.length = 5) with hL | hL | hL | hL | hL | hL
          · rw [hL] at b0 b1 b2 b3 b4
            simp [cellAt] at b0 b1 b2 b3 b4
            have HLL := Lib.hid hL
            have hidx := fun W => run_idx a0 a1 a2 a3 a4 f.args.length (by omega) W
            rw [HV.out f.args.length (by omega)] at hidx
            have hz : f.args.getD f.args.length 0 = 0 := by simp
            rw [hz] at hidx
            have t6 : (f.args.length : Int) < 5 := by omega
            clear hz
            clear hL
            go_wp2
            rw [Exit.noGoto_ret]
            have hcells := storeL_all (W := storeL wr w.heap.size 0 [.int .u16 o, .int .u32 x, .nilIface, .nilIface, .nilIface, .nilIface, .nilIface]) (B := w.heap.size) [.int .u16 o, .int .u32 x, .nilIface, .nilIface, .nilIface, .nilIface, .nilIface] (fun j hj => ⟨_, storeL_all (W := wr) (B := w.heap.size) [.int .u16 o, .int .u32 x, .nilIface, .nilIface, .nilIface, .nilIface, .nilIface] EX.out j hj⟩)
            refine bodyPost_ret (v := .tuple #[.agg #[.int .u16 o, .int .u32 x, .nilIface, .nilIface, .nilIface, .nilIface, .nilIface], .nilIface]) (results20 _ _ w.heap.size _ _ _ _ _ _ _ _ rfl rfl hcells) rfl ⟨?_, ?_⟩
            · rw [HO.out]; simp [instVal, HLL.out, cellAt]
            · exact below_storeL (Nat.le_refl _) [.int .u16 o, .int .u32 x, .nilIface, .nilIface, .nilIface, .nilIface, .nilIface] 0 _ (below_storeL (Nat.le_refl _) [.int .u16 o, .int .u32 x, .nilIface, .nilIface, .nilIface, .nilIface, .nilIface] 0 _ hend)
          · rw [hL] at b0 b1 b2 b3 b4
            simp [cellAt] at b0 b1 b2 b3 b4
            have HLL := Lib.hid hL
            have hidx := fun W => run_idx a0 a1 a2 a3 a4 f.args.length (by omega) W
            rw [HV.out f.args.length (by omega)] at hidx
            have hz : f.args.getD f.args.length 0 = 0 := by simp
            rw [hz] at hidx
            have t6 : (f.args.length : Int) < 5 := by omega
            clear hz
            clear hL
            go_wp2
            rw [Exit.noGoto_ret]
            have hcells := storeL_all (W := storeL wr w.heap.size 0 [.int .u16 o, .int .u32 x, .iface (ifT (argD f x 0)) (ifV (argD f x 0)), .nilIface, .nilIface, .nilIface, .nilIface]) (B := w.heap.size) [.int .u16 o, .int .u32 x, .iface (ifT (argD f x 0)) (ifV (argD f x 0)), .nilIface, .nilIface, .nilIface, .nilIface] (fun j hj => ⟨_, storeL_all (W := wr) (B := w.heap.size) [.int .u16 o, .int .u32 x, .iface (ifT (argD f x 0)) (ifV (argD f x 0)), .nilIface, .nilIface, .nilIface, .nilIface] EX.out j hj⟩)
            refine bodyPost_ret (v := .tuple #[.agg #[.int .u16 o, .int .u32 x, .iface (ifT (argD f x 0)) (ifV (argD f x 0)), .nilIface, .nilIface, .nilIface, .nilIface], .nilIface]) (results20 _ _ w.heap.size _ _ _ _ _ _ _ _ rfl rfl hcells) rfl ⟨?_, ?_⟩
            · rw [HO.out]; simp [instVal, HLL.out, cellAt]
            · exact below_storeL (Nat.le_refl _) [.int .u16 o, .int .u32 x, .iface (ifT (argD f x 0)) (ifV (argD f x 0)), .nilIface, .nilIface, .nilIface, .nilIface] 0 _ (below_storeL (Nat.le_refl _) [.int .u16 o, .int .u32 x, .iface (ifT (argD f x 0)) (ifV (argD f x 0)), .nilIface, .nilIface, .nilIface, .nilIface] 0 _ hend)
          · rw [hL] at b0 b1 b2 b3 b4
            simp [cellAt] at b0 b1 b2 b3 b4
            have HLL := Lib.hid hL
            have hidx := fun W => run_idx a0 a1 a2 a3 a4 f.args.length (by omega) W
            rw [HV.out f.args.length (by omega)] at hidx
            have hz : f.args.getD f.args.length 0 = 0 := by simp
            rw [hz] at hidx
            have t6 : (f.args.length : Int) < 5 := by omega
            clear hz
            clear hL
            go_wp2
            rw [Exit.noGoto_ret]
            have hcells := storeL_all (W := storeL wr w.heap.size 0 [.int .u16 o, .int .u32 x, .iface (ifT (argD f x 0)) (ifV (argD f x 0)), .iface (ifT (argD f x 1)) (ifV (argD f x 1)), .nilIface, .nilIface, .nilIface]) (B := w.heap.size) [.int .u16 o, .int .u32 x, .iface (ifT (argD f x 0)) (ifV (argD f x 0)), .iface (ifT (argD f x 1)) (ifV (argD f x 1)), .nilIface, .nilIface, .nilIface] (fun j hj => ⟨_, storeL_all (W := wr) (B := w.heap.size) [.int .u16 o, .int .u32 x, .iface (ifT (argD f x 0)) (ifV (argD f x 0)), .iface (ifT (argD f x 1)) (ifV (argD f x 1)), .nilIface, .nilIface, .nilIface] EX.out j hj⟩)
            refine bodyPost_ret (v := .tuple #[.agg #[.int .u16 o, .int .u32 x, .iface (ifT (argD f x 0)) (ifV (argD f x 0)), .iface (ifT (argD f x 1)) (ifV (argD f x 1)), .nilIface, .nilIface, .nilIface], .nilIface]) (results20 _ _ w.heap.size _ _ _ _ _ _ _ _ rfl rfl hcells) rfl ⟨?_, ?_⟩
            · rw [HO.out]; simp [instVal, HLL.out, cellAt]
            · exact below_storeL (Nat.le_refl _) [.int .u16 o, .int .u32 x, .iface (ifT (argD f x 0)) (ifV (argD f x 0)), .iface (ifT (argD f x 1)) (ifV (argD f x 1)), .nilIface, .nilIface, .nilIface] 0 _ (below_storeL (Nat.le_refl _) [.int .u16 o, .int .u32 x, .iface (ifT (argD f x 0)) (ifV (argD f x 0)), .iface (ifT (argD f x 1)) (ifV (argD f x 1)), .nilIface, .nilIface, .nilIface] 0 _ hend)
          · rw [hL] at b0 b1 b2 b3 b4
            simp [cellAt] at b0 b1 b2 b3 b4
            have HLL := Lib.hid hL
            have hidx := fun W => run_idx a0 a1 a2 a3 a4 f.args.length (by omega) W
            rw [HV.out f.args.length (by omega)] at hidx
            have hz : f.args.getD f.args.length 0 = 0 := by simp
            rw [hz] at hidx
            have t6 : (f.args.length : Int) < 5 := by omega
            clear hz
            clear hL
            go_wp2
            rw [Exit.noGoto_ret]
            have hcells := storeL_all (W := storeL wr w.heap.size 0 [.int .u16 o, .int .u32 x, .iface (ifT (argD f x 0)) (ifV (argD f x 0)), .iface (ifT (argD f x 1)) (ifV (argD f x 1)), .iface (ifT (argD f x 2)) (ifV (argD f x 2)), .nilIface, .nilIface]) (B := w.heap.size) [.int .u16 o, .int .u32 x, .iface (ifT (argD f x 0)) (ifV (argD f x 0)), .iface (ifT (argD f x 1)) (ifV (argD f x 1)), .iface (ifT (argD f x 2)) (ifV (argD f x 2)), .nilIface, .nilIface] (fun j hj => ⟨_, storeL_all (W := wr) (B := w.heap.size) [.int .u16 o, .int .u32 x, .iface (ifT (argD f x 0)) (ifV (argD f x 0)), .iface (ifT (argD f x 1)) (ifV (argD f x 1)), .iface (ifT (argD f x 2)) (ifV (argD f x 2)), .nilIface, .nilIface] EX.out j hj⟩)
            refine bodyPost_ret (v := .tuple #[.agg #[.int .u16 o, .int .u32 x, .iface (ifT (argD f x 0)) (ifV (argD f x 0)), .iface (ifT (argD f x 1)) (ifV (argD f x 1)), .iface (ifT (argD f x 2)) (ifV (argD f x 2)), .nilIface, .nilIface], .nilIface]) (results20 _ _ w.heap.size _ _ _ _ _ _ _ _ rfl rfl hcells) rfl ⟨?_, ?_⟩
            · rw [HO.out]; simp [instVal, HLL.out, cellAt]
            · exact below_storeL (Nat.le_refl _) [.int .u16 o, .int .u32 x, .iface (ifT (argD f x 0)) (ifV (argD f x 0)), .iface (ifT (argD f x 1)) (ifV (argD f x 1)), .iface (ifT (argD f x 2)) (ifV (argD f x 2)), .nilIface, .nilIface] 0 _ (below_storeL (Nat.le_refl _) [.int .u16 o, .int .u32 x, .iface (ifT (argD f x 0)) (ifV (argD f x 0)), .iface (ifT (argD f x 1)) (ifV (argD f x 1)), .iface (ifT (argD f x 2)) (ifV (argD f x 2)), .nilIface, .nilIface] 0 _ hend)
          · rw [hL] at b0 b1 b2 b3 b4
            simp [cellAt] at b0 b1 b2 b3 b4
            have HLL := Lib.hid hL
            have hidx := fun W => run_idx a0 a1 a2 a3 a4 f.args.length (by omega) W
            rw [HV.out f.args.length (by omega)] at hidx
            have hz : f.args.getD f.args.length 0 = 0 := by simp
            rw [hz] at hidx
            have t6 : (f.args.length : Int) < 5 := by omega
            clear hz
            clear hL
            go_wp2
            rw [Exit.noGoto_ret]
            have hcells := storeL_all (W := storeL wr w.heap.size 0 [.int .u16 o, .int .u32 x, .iface (ifT (argD f x 0)) (ifV (argD f x 0)), .iface (ifT (argD f x 1)) (ifV (argD f x 1)), .iface (ifT (argD f x 2)) (ifV (argD f x 2)), .iface (ifT (argD f x 3)) (ifV (argD f x 3)), .nilIface]) (B := w.heap.size) [.int .u16 o, .int .u32 x, .iface (ifT (argD f x 0)) (ifV (argD f x 0)), .iface (ifT (argD f x 1)) (ifV (argD f x 1)), .iface (ifT (argD f x 2)) (ifV (argD f x 2)), .iface (ifT (argD f x 3)) (ifV (argD f x 3)), .nilIface] (fun j hj => ⟨_, storeL_all (W := wr) (B := w.heap.size) [.int .u16 o, .int .u32 x, .iface (ifT (argD f x 0)) (ifV (argD f x 0)), .iface (ifT (argD f x 1)) (ifV (argD f x 1)), .iface (ifT (argD f x 2)) (ifV (argD f x 2)), .iface (ifT (argD f x 3)) (ifV (argD f x 3)), .nilIface] EX.out j hj⟩)
            refine bodyPost_ret (v := .tuple #[.agg #[.int .u16 o, .int .u32 x, .iface (ifT (argD f x 0)) (ifV (argD f x 0)), .iface (ifT (argD f x 1)) (ifV (argD f x 1)), .iface (ifT (argD f x 2)) (ifV (argD f x 2)), .iface (ifT (argD f x 3)) (ifV (argD f x 3)), .nilIface], .nilIface]) (results20 _ _ w.heap.size _ _ _ _ _ _ _ _ rfl rfl hcells) rfl ⟨?_, ?_⟩
            · rw [HO.out]; simp [instVal, HLL.out, cellAt]
            · exact below_storeL (Nat.le_refl _) [.int .u16 o, .int .u32 x, .iface (ifT (argD f x 0)) (ifV (argD f x 0)), .iface (ifT (argD f x 1)) (ifV (argD f x 1)), .iface (ifT (argD f x 2)) (ifV (argD f x 2)), .iface (ifT (argD f x 3)) (ifV (argD f x 3)), .nilIface] 0 _ (below_storeL (Nat.le_refl _) [.int .u16 o, .int .u32 x, .iface (ifT (argD f x 0)) (ifV (argD f x 0)), .iface (ifT (argD f x 1)) (ifV (argD f x 1)), .iface (ifT (argD f x 2)) (ifV (argD f x 2)), .iface (ifT (argD f x 3)) (ifV (argD f x 3)), .nilIface] 0 _ hend)
          · rw [hL] at b0 b1 b2 b3 b4
            simp [cellAt] at b0 b1 b2 b3 b4
            have HLL := Lib.hid hL
            have t6 : decide ((f.args.length : Int) < 5) = false := by simp; omega
            clear hL
            go_wp2
            rw [Exit.noGoto_ret]
            have hcells := storeL_all (W := storeL wr w.heap.size 0 [.int .u16 o, .int .u32 x, .iface (ifT (argD f x 0)) (ifV (argD f x 0)), .iface (ifT (argD f x 1)) (ifV (argD f x 1)), .iface (ifT (argD f x 2)) (ifV (argD f x 2)), .iface (ifT (argD f x 3)) (ifV (argD f x 3)), .iface (ifT (argD f x 4)) (ifV (argD f x 4))]) (B := w.heap.size) [.int .u16 o, .int .u32 x, .iface (ifT (argD f x 0)) (ifV (argD f x 0)), .iface (ifT (argD f x 1)) (ifV (argD f x 1)), .iface (ifT (argD f x 2)) (ifV (argD f x 2)), .iface (ifT (argD f x 3)) (ifV (argD f x 3)), .iface (ifT (argD f x 4)) (ifV (argD f x 4))] (fun j hj => ⟨_, storeL_all (W := wr) (B := w.heap.size) [.int .u16 o, .int .u32 x, .iface (ifT (argD f x 0)) (ifV (argD f x 0)), .iface (ifT (argD f x 1)) (ifV (argD f x 1)), .iface (ifT (argD f x 2)) (ifV (argD f x 2)), .iface (ifT (argD f x 3)) (ifV (argD f x 3)), .iface (ifT (argD f x 4)) (ifV (argD f x 4))] EX.out j hj⟩)
            refine bodyPost_ret (v := .tuple #[.agg #[.int .u16 o, .int .u32 x, .iface (ifT (argD f x 0)) (ifV (argD f x 0)), .iface (ifT (argD f x 1)) (ifV (argD f x 1)), .iface (ifT (argD f x 2)) (ifV (argD f x 2)), .iface (ifT (argD f x 3)) (ifV (argD f x 3)), .iface (ifT (argD f x 4)) (ifV (argD f x 4))], .nilIface]) (results20 _ _ w.heap.size _ _ _ _ _ _ _ _ rfl rfl hcells) rfl ⟨?_, ?_⟩
            · rw [HO.out]; simp [instVal, HLL.out, cellAt]
            · exact below_storeL (Nat.le_refl _) [.int .u16 o, .int .u32 x, .iface (ifT (argD f x 0)) (ifV (argD f x 0)), .iface (ifT (argD f x 1)) (ifV (argD f x 1)), .iface (ifT (argD f x 2)) (ifV (argD f x 2)), .iface (ifT (argD f x 3)) (ifV (argD f x 3)), .iface (ifT (argD f x 4)) (ifV (argD f x 4))] 0 _ (below_storeL (Nat.le_refl _) [.int .u16 o, .int .u32 x, .iface (ifT (argD f x 0)) (ifV (argD f x 0)), .iface (ifT (argD f x 1)) (ifV (argD f x 1)), .iface (ifT (argD f x 2)) (ifV (argD f x 2)), .iface (ifT (argD f x 3)) (ifV (argD f x 3)), .iface (ifT (argD f x 4)) (ifV (argD f x 4))] 0 _ hend)
end Go.Proofs.YtiffpgjhopicaaaDoor

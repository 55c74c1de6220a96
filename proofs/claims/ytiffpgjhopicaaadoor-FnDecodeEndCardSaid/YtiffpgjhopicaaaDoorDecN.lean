/-
  The walk of loong64asm.Decode where nothing is decoded: too few bytes, or a word that no format meets. Conditions: the two errors lie in their variables.
-/
import Derived.Test.YtiffpgjhopicaaaDoorDec
namespace Go.Proofs.YtiffpgjhopicaaaDoor
open Go.RowKit Go.BigFrame

theorem drew_cell {W : World} {p : Addr} : W.drew.cell? p = W.cell? p := rfl
def zeroInst : Value := .agg #[.int .u16 0, .int .u32 0, .nilIface, .nilIface, .nilIface, .nilIface, .nilIface]

set_option maxHeartbeats 2000000 in
theorem dec_short (a : Option Addr) (n cap : Nat) (w : World) (hn : n < 4) (T : TypeId) (p : Addr) (hw : 0 < w.heap.size) (he : w.cell? ⟨0, 0, none⟩ = some (.iface T (.pointer (some p)))) :
    Calls Tryd.prog 20 #[.slice a n cap] w fun e w' => e = .returned (.tuple #[zeroInst, .iface T (.pointer (some p))]) ∧ Below w.heap.size w w' := by
  have t : decide ((n : Int) < 4) = true := by simp; omega
  have e0 : ∀ o : Obj, (w.alloc o).cell? ⟨0, 0, none⟩ = some (.iface T (.pointer (some p))) := fun o => (((Below.refl w.heap.size w).alloc (Nat.le_refl _) o).cell (p := ⟨0, 0, none⟩) hw).trans he
  go_enter Tryd.func20, Tryd.ntmps20
  go_wp2_with fail
  go_step3
  go_wp2_with fail
  go_region
  all_goals
    go_wp2
    rw [Exit.noGoto_ret]
    refine bodyPost_ret (v := .tuple #[zeroInst, .iface T (.pointer (some p))]) (by simp [results, Tryd.results20, go_sem, zeroInst]) rfl ⟨rfl, ?_⟩
    repeat' (first | (with_reducible exact Below.refl _ _) | (with_reducible refine Below.alloc ?_ ?_ _) | (with_reducible refine Below.drew ?_) | (with_reducible refine Below.setCell ?_ ?_ _) | (with_reducible exact Nat.le_refl _) | (simp; done))

set_option maxHeartbeats 2000000 in
theorem dec_none (g n cap : Nat) (w : World) (hn : 4 ≤ n) (x : Int)
    (hle : ∀ W : World, Below w.heap.size w W → Calls Tryd.prog 25 #[.slice (some ⟨g, 0, none⟩) n cap] W fun e w' => e = .returned (.int .u32 x) ∧ ∃ m, w' = W.drewN m)
    (hno : ∀ (k : Nat) (h : Sp.Fmt), Sp.tab[k]? = some h → meets h x = false) (T : TypeId) (p : Addr) (hw : 1 < w.heap.size) (he : w.cell? ⟨1, 0, none⟩ = some (.iface T (.pointer (some p)))) :
    Calls Tryd.prog 20 #[.slice (some ⟨g, 0, none⟩) n cap] w fun e w' => e = .returned (.tuple #[zeroInst, .iface T (.pointer (some p))]) ∧ Below w.heap.size w w' := by
  have HL := Lib.hid hle
  have HN := Lib.hid hno
  have HE := Lib.hid he
  clear hle hno he
  have t : decide ((n : Int) < 4) = false := by simp; omega
  go_enter Tryd.func20, Tryd.ntmps20
  go_wp2_with fail
  go_step3
  go_wp2_with (go_at_call 25; refine (HL.out _ ((Below.refl _ _).alloc (Nat.le_refl _) _)).mono ?_; rintro e w' ⟨rfl, nd, rfl⟩)
  go_step3
  go_wp2_with fail
  go_loopw [18] (fun i wr => ∃ k : Nat, k ≤ 399 ∧ i = .int .i64 k ∧ Below (w.heap.size + 1) (w.alloc (.cells inst0 45)) wr) (fun i _ => 399 - (intOf i).toNat)
  case atStart => exact ⟨0, Nat.zero_le _, rfl, below_drewN (Below.refl _ _) _⟩
  case round =>
    obtain ⟨k, hk, rfl, hb⟩ := hrel
    by_cases hlt : k < 399
    · obtain ⟨h, hh⟩ := tab_at k (by omega)
      have hno := HN.out k h hh
      have HH := Lib.hid hh
      clear hh
      have t2 : (bits .and .u32 x (h.mask : Int) != (h.value : Int)) = true := by unfold meets at hno; simp only [bne, hno, Bool.not_false]
      clear hno
      have t3 : (k : Int) < 399 := by omega
      go_wp2_with (go_at_call 26; refine (inst_any _ _ HH.out _).mono ?_; rintro e w' ⟨rfl, rfl⟩; unfold fmtVal fmtCells)
      go_roundw
      case rel =>
        refine ⟨k + 1, by omega, by go_num, ?_⟩
        have hs := hb.size
        simp at hs
        repeat' (first | exact hb | (refine Below.alloc ?_ ?_ _) | (simp; omega) | omega)
      case measure => simp [intOf]; omega
    · have t3 : decide ((k : Int) < 399) = false := by simp; omega
      have e1 : wr.cell? ⟨1, 0, none⟩ = some (.iface T (.pointer (some p))) :=
        (hb.cell (p := ⟨1, 0, none⟩) (by show 1 < w.heap.size + 1; omega)).trans ((((Below.refl w.heap.size w).alloc (Nat.le_refl _) _).cell (p := ⟨1, 0, none⟩) hw).trans HE.out)
      have e0 : ∀ i, wr.cell? ⟨w.heap.size, i, none⟩ = (w.alloc (.cells inst0 45)).cell? ⟨w.heap.size, i, none⟩ := fun i => hb.cell (p := ⟨w.heap.size, i, none⟩) (by show w.heap.size < w.heap.size + 1; omega)
      have f0 : ∀ i, wr.frozen? ⟨w.heap.size, i, none⟩ = false := fun i => (hb.frozen (p := ⟨w.heap.size, i, none⟩) (by show w.heap.size < w.heap.size + 1; omega)).trans (by simp)
      have d0 : wr.cell? ⟨w.heap.size, 0, none⟩ = some (Value.int IntKind.u16 0) := (e0 0).trans (by simp [inst0])
      have d1 : wr.cell? ⟨w.heap.size, 1, none⟩ = some (Value.int IntKind.u32 0) := (e0 1).trans (by simp [inst0])
      have d2 : wr.cell? ⟨w.heap.size, 2, none⟩ = some Value.nilIface := (e0 2).trans (by simp [inst0])
      have d3 : wr.cell? ⟨w.heap.size, 3, none⟩ = some Value.nilIface := (e0 3).trans (by simp [inst0])
      have d4 : wr.cell? ⟨w.heap.size, 4, none⟩ = some Value.nilIface := (e0 4).trans (by simp [inst0])
      have d5 : wr.cell? ⟨w.heap.size, 5, none⟩ = some Value.nilIface := (e0 5).trans (by simp [inst0])
      have d6 : wr.cell? ⟨w.heap.size, 6, none⟩ = some Value.nilIface := (e0 6).trans (by simp [inst0])
      have hend : Below w.heap.size w wr := ((Below.refl _ w).alloc (Nat.le_refl _) _).trans (hb.mono (by omega))
      have hz2 : w.heap.size < wr.heap.size := by have := hb.size; simp at this; omega
      have ex7 : ∀ j, j < 7 → ∃ u, wr.cell? ⟨w.heap.size, j, none⟩ = some u := by
        intro j hj
        rcases (by omega : j = 0 ∨ j = 1 ∨ j = 2 ∨ j = 3 ∨ j = 4 ∨ j = 5 ∨ j = 6) with rfl | rfl | rfl | rfl | rfl | rfl | rfl
        · exact ⟨_, d0⟩
        · exact ⟨_, d1⟩
        · exact ⟨_, d2⟩
        · exact ⟨_, d3⟩
        · exact ⟨_, d4⟩
        · exact ⟨_, d5⟩
        · exact ⟨_, d6⟩
      have EX := Lib.hid ex7
      have HB := Lib.hid hb
      clear e0 hlt ex7 hb
      go_wp2_with fail
      go_region
      all_goals
        go_wp2
        rw [Exit.noGoto_ret]
        have hcells : ∀ k (hk : k < [Value.int IntKind.u16 0, Value.int IntKind.u32 0, Value.nilIface, Value.nilIface, Value.nilIface, Value.nilIface, Value.nilIface].length), ((storeL wr w.heap.size 0 [Value.int IntKind.u16 0, Value.int IntKind.u32 0, Value.nilIface, Value.nilIface, Value.nilIface, Value.nilIface, Value.nilIface]).drew).cell? ⟨w.heap.size, k, none⟩ = some [Value.int IntKind.u16 0, Value.int IntKind.u32 0, Value.nilIface, Value.nilIface, Value.nilIface, Value.nilIface, Value.nilIface][k] := fun k hk => drew_cell.trans (storeL_all (W := wr) (B := w.heap.size) [Value.int IntKind.u16 0, Value.int IntKind.u32 0, Value.nilIface, Value.nilIface, Value.nilIface, Value.nilIface, Value.nilIface] EX.out k hk)
        refine bodyPost_ret (v := .tuple #[zeroInst, .iface T (.pointer (some p))]) (results20 _ _ w.heap.size _ _ _ _ _ _ _ _ rfl rfl hcells) rfl ⟨rfl, ?_⟩
        exact (below_storeL (Nat.le_refl _) [Value.int IntKind.u16 0, Value.int IntKind.u32 0, Value.nilIface, Value.nilIface, Value.nilIface, Value.nilIface, Value.nilIface] 0 _ hend).drew
end Go.Proofs.YtiffpgjhopicaaaDoor

/-
  The walk of the reference's function listed: the word that keeps a row's fixed bits, and the row; or nothing, where there is no such row. Conditions: the row lies in memory as four values.
-/
import Derived.Test.YtiffpgjhopicaaaDoorIs
import Derived.BigRegion
namespace Go.Proofs.YtiffpgjhopicaaaDoor
open Go.RowKit Go.BigFrame

theorem listed_none (y i : Int) (g : Option Addr) (n cap : Nat) (w : World) (hi : i < 0 ∨ n ≤ i) :
    Calls Tryd.prog 10 #[.int .u32 y, .slice g n cap, .int .i64 i] w fun e w' => e = .returned (.tuple #[.int .u32 0, .agg #[.int .i64 0, .int .u32 0, .int .u32 0, .string ⟨#[]⟩], .bool false]) ∧ Below w.heap.size w w' := by
  by_cases h0 : i < 0
  · go_enter Tryd.func10, Tryd.ntmps10
    go_wp2
    refine bodyPost_ret (v := .tuple #[.int .u32 0, .agg #[.int .i64 0, .int .u32 0, .int .u32 0, .string ⟨#[]⟩], .bool false]) (by simp [results, Tryd.results10, go_sem]) rfl ⟨rfl, (Below.refl _ _).alloc (Nat.le_refl _) _⟩
  · have hi2 : (n : Int) ≤ i := by omega
    go_enter Tryd.func10, Tryd.ntmps10
    go_wp2
    refine bodyPost_ret (v := .tuple #[.int .u32 0, .agg #[.int .i64 0, .int .u32 0, .int .u32 0, .string ⟨#[]⟩], .bool false]) (by simp [results, Tryd.results10, go_sem]) rfl ⟨rfl, (Below.refl _ _).alloc (Nat.le_refl _) _⟩

set_option maxHeartbeats 4000000 in
theorem listed_some (y : Int) (i g n cap : Nat) (op f m : Int) (s : ByteArray) (w : World) (hi : i < n) (hg : g < w.heap.size)
    (c0 : w.cell? ⟨g, i * 4, none⟩ = some (.int .i64 op)) (c1 : w.cell? ⟨g, i * 4 + 1, none⟩ = some (.int .u32 f)) (c2 : w.cell? ⟨g, i * 4 + 2, none⟩ = some (.int .u32 m)) (c3 : w.cell? ⟨g, i * 4 + 3, none⟩ = some (.string s)) :
    Calls Tryd.prog 10 #[.int .u32 y, .slice (some ⟨g, 0, none⟩) n cap, .int .i64 i] w fun e w' => e = .returned (.tuple #[.int .u32 (bits .or .u32 (bits .andNot .u32 y m) f), .agg #[.int .i64 op, .int .u32 f, .int .u32 m, .string s], .bool true]) ∧ Below w.heap.size w w' := by
  have h0 : ¬ (i : Int) < 0 := by omega
  have h1 : (i : Int) < n := by omega
  go_enter Tryd.func10, Tryd.ntmps10
  go_wp2
  go_region
  go_wp2
  refine bodyPost_ret (v := .tuple #[.int .u32 (bits .or .u32 (bits .andNot .u32 y m) f), .agg #[.int .i64 op, .int .u32 f, .int .u32 m, .string s], .bool true]) (by simp [results, Tryd.results10, go_sem]) rfl ⟨rfl, ?_⟩
  exact ((Below.refl _ _).alloc (Nat.le_refl _) _).drew
end Go.Proofs.YtiffpgjhopicaaaDoor

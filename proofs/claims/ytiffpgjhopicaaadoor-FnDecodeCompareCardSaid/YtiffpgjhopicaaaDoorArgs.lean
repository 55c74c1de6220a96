/-
  The walks of the reference's functions on arguments: R, F, N, number, register, Like, Far, Is. Conditions: the numbers fit their kinds.
-/
import Derived.Test.YtiffpgjhopicaaaDoorNums
import Derived.StillTailTactics
namespace Go.Proofs.YtiffpgjhopicaaaDoor
open Go.RowKit

theorem n_any (k : Int) (w : World) :
    Calls Tryd.prog 31 #[.int .i64 k] w fun e w' => e = .returned (.agg #[.int .i64 4, .int .i64 0, .int .i64 k]) ∧ Below w.heap.size w w' := by
  go_enter Tryd.func31, Tryd.ntmps31
  go_wp2
  exact bodyPost_ret (v := .agg #[.int .i64 4, .int .i64 0, .int .i64 k]) (by simp [results, Tryd.results31, go_sem]) rfl ⟨rfl, (Below.refl _ _).alloc (Nat.le_refl _) _⟩
theorem r_any (k : Int) (w : World) :
    Calls Tryd.prog 33 #[.int .i64 k] w fun e w' => e = .returned (.agg #[.int .i64 1, .int .i64 k, .int .i64 0]) ∧ Below w.heap.size w w' := by
  go_enter Tryd.func33, Tryd.ntmps33
  go_wp2
  exact bodyPost_ret (v := .agg #[.int .i64 1, .int .i64 k, .int .i64 0]) (by simp [results, Tryd.results33, go_sem]) rfl ⟨rfl, (Below.refl _ _).alloc (Nat.le_refl _) _⟩
theorem f_any (k : Int) (w : World) (h0 : 0 ≤ k) (h1 : k ≤ 1000) :
    Calls Tryd.prog 35 #[.int .i64 k] w fun e w' => e = .returned (.agg #[.int .i64 1, .int .i64 (32 + k), .int .i64 0]) ∧ Below w.heap.size w w' := by
  go_enter Tryd.func35, Tryd.ntmps35
  go_wp2
  exact bodyPost_ret (v := .agg #[.int .i64 1, .int .i64 (32 + k), .int .i64 0]) (by simp [results, Tryd.results35, go_sem]) rfl ⟨rfl, (Below.refl _ _).alloc (Nat.le_refl _) _⟩
theorem ret_bool {a b : Bool} (h : a = b) : Ending.returned (.bool a) = .returned (.bool b) := by rw [h]
theorem number_any (k r m : Int) (w : World) :
    Calls Tryd.prog 32 #[.agg #[.int .i64 k, .int .i64 r, .int .i64 m]] w fun e w' => e = .returned (.bool (Sp.number ⟨k, r, m⟩)) ∧ Below w.heap.size w w' := by
  go_enter Tryd.func32, Tryd.ntmps32
  go_wp2
  all_goals (go_ret; exact ⟨ret_bool (by simp [Sp.number, *] <;> omega), (Below.refl _ _).alloc (Nat.le_refl _) _⟩)

theorem bcell {W w1 : World} (hb : Below W.heap.size W w1) : (∀ b o, b < W.heap.size → w1.cell? ⟨b, o, none⟩ = W.cell? ⟨b, o, none⟩) ∧ (∀ b o, b < W.heap.size → w1.frozen? ⟨b, o, none⟩ = W.frozen? ⟨b, o, none⟩) :=
  ⟨fun b o h => hb.cell (p := ⟨b, o, none⟩) h, fun b o h => hb.frozen (p := ⟨b, o, none⟩) h⟩

theorem below_then {B : Nat} {a w w1 : World} (h : Below w.heap.size w w1) (hB : B ≤ w.heap.size) (k : Below B a w) : Below B a w1 := k.trans (h.mono hB)
set_option maxHeartbeats 1000000 in
theorem like_any (k r m k2 r2 m2 : Int) (w : World) :
    Calls Tryd.prog 24 #[.agg #[.int .i64 k, .int .i64 r, .int .i64 m], .agg #[.int .i64 k2, .int .i64 r2, .int .i64 m2]] w fun e w' => e = .returned (.bool (Sp.like ⟨k, r, m⟩ ⟨k2, r2, m2⟩)) ∧ Below w.heap.size w w' := by
  go_enter Tryd.func24, Tryd.ntmps24
  go_wp2_with (first | (go_at_call 32; refine (number_any _ _ _ _).mono ?_; rintro e w1 ⟨rfl, hb⟩; obtain ⟨hc, hf⟩ := bcell hb; have hz : w.heap.size < w1.heap.size ∧ w.heap.size + 1 < w1.heap.size := by (have := hb.size; (try simp at this); omega)))
  all_goals
    go_ret
    refine ⟨ret_bool (by simp [Sp.like, Sp.eq, *] <;> rfl), ?_⟩
    repeat' (first | exact Below.refl _ _ | (refine below_then (by assumption) ?_ ?_) | (refine Below.alloc ?_ ?_ _) | (simp; done) | (simp; omega) | omega)

theorem far_c1 {a : Sp.A} {k : Int} (h : Sp.number a = true) (e : a.num = k) : true = Sp.far a k := by simp [Sp.far, h, e]
theorem far_c2 {a : Sp.A} {k : Int} (h : Sp.number a = true) (e : ¬ a.num = k) : (a.num == k || a.num == 4 * k) = Sp.far a k := by simp only [Sp.far, h, Bool.true_and]; rw [Bool.eq_iff_iff]; simp [e]
theorem far_c3 {a : Sp.A} {k : Int} (h : ¬ Sp.number a = true) : false = Sp.far a k := by simp [Sp.far, h]
set_option maxHeartbeats 1000000 in
theorem far_any (k r m q : Int) (w : World) (hq : -1000000000 ≤ q ∧ q ≤ 1000000000) :
    Calls Tryd.prog 29 #[.agg #[.int .i64 k, .int .i64 r, .int .i64 m], .int .i64 q] w fun e w' => e = .returned (.bool (Sp.far ⟨k, r, m⟩ q)) ∧ Below w.heap.size w w' := by
  go_enter Tryd.func29, Tryd.ntmps29
  go_wp2_with (first | (go_at_call 32; refine (number_any _ _ _ _).mono ?_; rintro e w1 ⟨rfl, hb⟩; obtain ⟨hc, hf⟩ := bcell hb; have hz : w.heap.size < w1.heap.size := by (have := hb.size; (try simp at this); omega)))
  all_goals
    go_ret
    refine ⟨ret_bool (by first | exact far_c1 ‹_› ‹_› | exact far_c2 ‹_› ‹_› | exact far_c3 ‹_›), ?_⟩
    repeat' (first | exact Below.refl _ _ | (refine below_then (by assumption) ?_ ?_) | (refine Below.alloc ?_ ?_ _) | (simp; done) | (simp; omega) | omega)

def regs : List Int := [68, 74, 75, 69, 71, 76, 77, 110]
set_option maxHeartbeats 8000000 in
theorem register_any (x c : Int) (w : World) (hx : 0 ≤ x) (hx2 : x ≤ 4294967295) (hc : c ∈ regs) :
    Calls Tryd.prog 28 #[.int .u32 x, .int .u8 c] w fun e w' => e = .returned (.tuple #[.agg #[.int .i64 (Sp.register x c).1.kind, .int .i64 (Sp.register x c).1.reg, .int .i64 (Sp.register x c).1.num], .bool true]) ∧ Below w.heap.size w w' := by
  have h1 := field_bd' x 4 0 32 (by decide)
  have h2 := field_bd' x 9 5 32 (by decide)
  have h3 := field_bd' x 14 10 32 (by decide)
  have h4 := field_bd' x 19 15 32 (by decide)
  simp only [regs, List.mem_cons, List.not_mem_nil, or_false] at hc
  rcases hc with rfl | rfl | rfl | rfl | rfl | rfl | rfl | rfl <;> (
    go_enter Tryd.func28, Tryd.ntmps28
    go_wp2_with (first | (go_at_call 34; refine (field_any _ _ _ _ hx hx2 (by decide)).mono ?_; rintro e w' ⟨rfl, n, rfl⟩) | (go_at_call 33; refine (r_any _ _).mono ?_; rintro e w1 ⟨rfl, hb⟩; obtain ⟨hc, hf⟩ := bcell hb; have hz : w.heap.size < w1.heap.size := by (have := hb.size; (try simp at this); omega)) | (go_at_call 35; refine (f_any _ _ (by omega) (by omega)).mono ?_; rintro e w1 ⟨rfl, hb⟩; obtain ⟨hc, hf⟩ := bcell hb; have hz : w.heap.size < w1.heap.size := by (have := hb.size; (try simp at this); omega)))
    refine bodyPost_ret (v := .tuple #[.agg #[.int .i64 _, .int .i64 _, .int .i64 _], .bool true]) (by first | (simp [results, Tryd.results28, go_sem, hc]; exact ⟨rfl, rfl, rfl⟩) | (simp [results, Tryd.results28, go_sem]; exact ⟨rfl, rfl, rfl⟩)) rfl ⟨by simp [Sp.register, Sp.r, Sp.f], ?_⟩
    repeat' (first | exact Below.refl _ _ | (refine below_then (by assumption) ?_ ?_) | (refine Below.alloc ?_ ?_ _) | (refine Below.setCell ?_ ?_ _) | (refine below_drewN ?_ _) | (simp; done) | (simp; omega) | omega))

set_option maxHeartbeats 8000000 in
theorem register_no (x c : Int) (w : World) (hc : c ∈ letters) :
    Calls Tryd.prog 28 #[.int .u32 x, .int .u8 c] w fun e w' => e = .returned (.tuple #[.agg #[.int .i64 0, .int .i64 0, .int .i64 0], .bool false]) ∧ Below w.heap.size w w' := by
  simp only [letters, List.mem_cons, List.not_mem_nil, or_false] at hc
  rcases hc with rfl | rfl | rfl | rfl | rfl | rfl | rfl | rfl | rfl | rfl | rfl | rfl | rfl <;> (
    go_enter Tryd.func28, Tryd.ntmps28
    go_wp2
    refine bodyPost_ret (v := .tuple #[.agg #[.int .i64 0, .int .i64 0, .int .i64 0], .bool false]) (by simp [results, Tryd.results28, go_sem]) rfl ⟨rfl, ?_⟩
    repeat' (first | exact Below.refl _ _ | (refine Below.alloc ?_ ?_ _) | (simp; done) | (simp; omega) | omega))
end Go.Proofs.YtiffpgjhopicaaaDoor

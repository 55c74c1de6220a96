/-
  The walks of the reference's functions on numbers: Field, Signed, Off16, Off21, Off26, numeral: each returns what the plain function of its name says. Conditions: x is a number of 32 bits; the bits asked for are those that the reference asks for.
-/
import Derived.Test.YtiffpgjhopicaaaDoorProg
import Derived.Test.YtiffpgjhopicaaaDoorSpec
import Derived.WalkKit
import Derived.WalkSpells
import Derived.WalkLawsBesides
import Derived.Deep.QuietTactic
import Derived.BigQuiet
namespace Go.Proofs.YtiffpgjhopicaaaDoor
open Go.RowKit
theorem ret_int {k : IntKind} {a b : Int} (h : a = b) : Ending.returned (.int k a) = .returned (.int k b) := by rw [h]

def pairs : List (Int × Int) := [(4, 0), (9, 5), (14, 10), (19, 15), (2, 0), (15, 10), (21, 10), (25, 10), (24, 5), (20, 16), (21, 16), (9, 0)]

set_option maxHeartbeats 4000000 in
theorem field_any (x h l : Int) (w : World) (hx : 0 ≤ x) (hx2 : x ≤ 4294967295) (hp : (h, l) ∈ pairs) :
    Calls Tryd.prog 34 #[.int .u32 x, .int .i64 h, .int .i64 l] w fun e w' => e = .returned (.int .i64 (Sp.field x h l)) ∧ ∃ n, w' = w.drewN n := by
  simp only [pairs, List.mem_cons, Prod.mk.injEq, List.not_mem_nil, or_false] at hp
  rcases hp with ⟨rfl, rfl⟩ | ⟨rfl, rfl⟩ | ⟨rfl, rfl⟩ | ⟨rfl, rfl⟩ | ⟨rfl, rfl⟩ | ⟨rfl, rfl⟩ | ⟨rfl, rfl⟩ | ⟨rfl, rfl⟩ | ⟨rfl, rfl⟩ | ⟨rfl, rfl⟩ | ⟨rfl, rfl⟩ | ⟨rfl, rfl⟩ <;> (
    go_enter Tryd.func34, Tryd.ntmps34
    go_wp2
    go_quiet (fail)
    go_wp2
    go_ret
    exact ⟨by simp [Sp.field], _, rfl⟩)

theorem signed_any (n b : Int) (w : World) (hn : 0 ≤ n) (hn2 : n ≤ 1099511627776) (hb : b ∈ ([12, 16, 20, 21, 26] : List Int)) :
    Calls Tryd.prog 36 #[.int .i64 n, .int .i64 b] w fun e w' => e = .returned (.int .i64 (Sp.signed n b)) ∧ w = w' := by
  simp only [List.mem_cons, List.not_mem_nil, or_false] at hb
  rcases hb with rfl | rfl | rfl | rfl | rfl <;> (
    go_enter Tryd.func36, Tryd.ntmps36
    go_wp2 <;> (go_ret; exact ⟨by simp [Sp.signed]; omega, rfl⟩))

theorem field_bd (x h l : Int) : 0 ≤ Sp.field x h l ∧ Sp.field x h l < 2 ^ (h - l + 1).toNat := by
  unfold Sp.field
  have hp : (0 : Int) < 2 ^ (h - l + 1).toNat := Int.pow_pos (by decide)
  exact ⟨Int.emod_nonneg _ (by omega), Int.emod_lt_of_pos _ hp⟩
theorem field_bd' (x h l : Int) (n : Int) (hn : (2 : Int) ^ (h - l + 1).toNat ≤ n) : 0 ≤ Sp.field x h l ∧ Sp.field x h l < n := by
  have := field_bd x h l; omega

theorem off16_any (x : Int) (w : World) (hx : 0 ≤ x) (hx2 : x ≤ 4294967295) :
    Calls Tryd.prog 37 #[.int .u32 x] w fun e w' => e = .returned (.int .i64 (Sp.off16 x)) ∧ ∃ n, w' = w.drewN n := by
  have h1 := field_bd' x 25 10 65536 (by decide)
  go_enter Tryd.func37, Tryd.ntmps37
  go_wp2_with (first | (go_at_call 34; refine (field_any _ _ _ _ hx hx2 (by decide)).mono ?_; rintro e w' ⟨rfl, n, rfl⟩) | (go_at_call 36; refine (signed_any _ _ _ (by omega) (by omega) (by decide)).mono ?_; rintro e w' ⟨rfl, rfl⟩))
  go_ret
  exact ⟨rfl, _, rfl⟩

theorem off21_any (x : Int) (w : World) (hx : 0 ≤ x) (hx2 : x ≤ 4294967295) :
    Calls Tryd.prog 38 #[.int .u32 x] w fun e w' => e = .returned (.int .i64 (Sp.off21 x)) ∧ ∃ n, w' = w.drewN n := by
  have h1 := field_bd' x 25 10 65536 (by decide)
  have h2 := field_bd' x 4 0 32 (by decide)
  go_enter Tryd.func38, Tryd.ntmps38
  go_wp2_with (first | (go_at_call 34; refine (field_any _ _ _ _ hx hx2 (by decide)).mono ?_; rintro e w' ⟨rfl, n, rfl⟩) | (go_at_call 36; refine (signed_any _ _ _ (by omega) (by omega) (by decide)).mono ?_; rintro e w' ⟨rfl, rfl⟩))
  go_ret
  exact ⟨rfl, _, rfl⟩

theorem off26_any (x : Int) (w : World) (hx : 0 ≤ x) (hx2 : x ≤ 4294967295) :
    Calls Tryd.prog 39 #[.int .u32 x] w fun e w' => e = .returned (.int .i64 (Sp.off26 x)) ∧ ∃ n, w' = w.drewN n := by
  have h1 := field_bd' x 25 10 65536 (by decide)
  have h2 := field_bd' x 9 0 1024 (by decide)
  go_enter Tryd.func39, Tryd.ntmps39
  go_wp2_with (first | (go_at_call 34; refine (field_any _ _ _ _ hx hx2 (by decide)).mono ?_; rintro e w' ⟨rfl, n, rfl⟩) | (go_at_call 36; refine (signed_any _ _ _ (by omega) (by omega) (by decide)).mono ?_; rintro e w' ⟨rfl, rfl⟩))
  go_ret
  exact ⟨rfl, _, rfl⟩

def letters : List Int := [53, 98, 54, 100, 117, 115, 104, 119, 97, 99, 111, 112, 113]
set_option maxHeartbeats 4000000 in
theorem numeral_any (x c : Int) (w : World) (hx : 0 ≤ x) (hx2 : x ≤ 4294967295) (hc : c ∈ letters) :
    Calls Tryd.prog 30 #[.int .u32 x, .int .u8 c] w fun e w' => e = .returned (.int .i64 (Sp.numeral x c)) ∧ ∃ n, w' = w.drewN n := by
  have h1 := field_bd' x 25 10 65536 (by decide)
  have h2 := field_bd' x 21 10 4096 (by decide)
  have h3 := field_bd' x 24 5 1048576 (by decide)
  simp only [letters, List.mem_cons, List.not_mem_nil, or_false] at hc
  rcases hc with rfl | rfl | rfl | rfl | rfl | rfl | rfl | rfl | rfl | rfl | rfl | rfl | rfl <;> (
    go_enter Tryd.func30, Tryd.ntmps30
    go_wp2_with (first | (go_at_call 34; refine (field_any _ _ _ _ hx hx2 (by decide)).mono ?_; rintro e w' ⟨rfl, n, rfl⟩) | (go_at_call 36; refine (signed_any _ _ _ (by omega) (by omega) (by decide)).mono ?_; rintro e w' ⟨rfl, rfl⟩) | (go_at_call 37; refine (off16_any _ _ hx hx2).mono ?_; rintro e w' ⟨rfl, n, rfl⟩) | (go_at_call 38; refine (off21_any _ _ hx hx2).mono ?_; rintro e w' ⟨rfl, n, rfl⟩) | (go_at_call 39; refine (off26_any _ _ hx hx2).mono ?_; rintro e w' ⟨rfl, n, rfl⟩))
    go_ret
    exact ⟨ret_int (by simp [Sp.numeral]), _, rfl⟩)
end Go.Proofs.YtiffpgjhopicaaaDoor

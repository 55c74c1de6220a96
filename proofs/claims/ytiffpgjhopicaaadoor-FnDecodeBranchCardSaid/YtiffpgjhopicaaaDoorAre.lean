/-
  The walks of the reference's functions Are and LikeAll, where they answer true. Conditions: the lists lie in memory as rows of three numbers an argument.
-/
import Derived.Test.YtiffpgjhopicaaaDoorIs
namespace Go.Proofs.YtiffpgjhopicaaaDoor
open Go.RowKit Go.BigFrame

set_option maxHeartbeats 1000000 in
theorem are_true (x : Int) (s : ByteArray) (kf rf mf : Nat → Int) (g cap : Nat) (w : World) (hx : 0 ≤ x) (hx2 : x ≤ 4294967295) (hs : s.size ≤ 5) (hg : g < w.heap.size)
    (h0 : ∀ i, i < s.size → w.cell? ⟨g, i * 3, none⟩ = some (.int .i64 (kf i))) (h1 : ∀ i, i < s.size → w.cell? ⟨g, i * 3 + 1, none⟩ = some (.int .i64 (rf i))) (h2 : ∀ i, i < s.size → w.cell? ⟨g, i * 3 + 2, none⟩ = some (.int .i64 (mf i)))
    (hl : ∀ i (h : i < s.size), ((s[i].toNat : Int) ∈ regs ∨ (s[i].toNat : Int) ∈ letters) ∧ Sp.isOf x s[i].toNat ⟨kf i, rf i, mf i⟩ = true) :
    Calls Tryd.prog 14 #[.int .u32 x, .string s, .slice (some ⟨g, 0, none⟩) s.size cap] w fun e w' => e = .returned (.bool true) ∧ Below w.heap.size w w' := by
  have HL := Lib.hid hl
  have H0 := Lib.hid h0
  have H1 := Lib.hid h1
  have H2 := Lib.hid h2
  clear hl h0 h1 h2
  go_enter Tryd.func14, Tryd.ntmps14
  go_wp2
  go_loopw [7] (fun i wr => ∃ k : Nat, k ≤ s.size ∧ i = .int .i64 k ∧ Below w.heap.size w wr) (fun i _ => s.size - (intOf i).toNat)
  case atStart => exact ⟨0, Nat.zero_le _, rfl, Below.refl _ _⟩
  case round =>
    obtain ⟨k, hk, rfl, hb⟩ := hrel
    by_cases hlt : k < s.size
    · have gz : g < wr.heap.size := Nat.lt_of_lt_of_le hg hb.size
      have G0 := ext_cell (W := wr) (p := ⟨g, k * 3, none⟩) gz ((hb.cell hg).trans (H0.out k hlt))
      have G1 := ext_cell (W := wr) (p := ⟨g, k * 3 + 1, none⟩) gz ((hb.cell hg).trans (H1.out k hlt))
      have G2 := ext_cell (W := wr) (p := ⟨g, k * 3 + 2, none⟩) gz ((hb.cell hg).trans (H2.out k hlt))
      have HC : Hid (∀ W, Calls Tryd.prog 23 #[.int .u32 x, .int .u8 (s[k].toNat : Int), .agg #[.int .i64 (kf k), .int .i64 (rf k), .int .i64 (mf k)]] W fun e w' => e = .returned (.bool true) ∧ Below W.heap.size W w') := by
        intro W
        have h := is_any x (s[k].toNat : Int) (kf k) (rf k) (mf k) W hx hx2 (HL.out k hlt).1
        rw [(HL.out k hlt).2] at h
        exact h
      go_wp2
      refine wp_region_ext (by kernel_rfl) (by kernel_rfl) ?_
      go_big_quiet_step (fail)
      go_big_quiet_step (fail)
      go_big_quiet_step (fail)
      go_big_quiet_step (fail)
      go_big_quiet_step (fail)
      go_big_quiet_step (fail)
      go_big_quiet_step (fail)
      go_big_quiet_step (fail)
      go_big_quiet_step (exact calls_ext (HC.out _))
      go_big_quiet_step (fail)
      refine wpQuiet_nil ?_
      rintro _ ⟨⟨w2, hb2⟩, rfl⟩
      go_wp2
      go_roundw
      case rel => exact ⟨k + 1, by omega, by go_num, below_then hb2 hb.size hb⟩
      case measure => simp [intOf]; omega
    · go_wp2
      go_ret
      exact ⟨rfl, hb⟩

/-- What a slice of arguments reads as: n arguments, three numbers each; where there are none, the slice may be nil. -/
structure ArgsAt (w : World) (v : Value) (n : Nat) (kf rf mf : Nat → Int) : Prop where
  val : ∃ g cap, v = .slice g n cap ∧ ∀ i, i < n → ∃ b, g = some ⟨b, 0, none⟩ ∧ b < w.heap.size ∧ w.cell? ⟨b, i * 3, none⟩ = some (.int .i64 (kf i)) ∧ w.cell? ⟨b, i * 3 + 1, none⟩ = some (.int .i64 (rf i)) ∧ w.cell? ⟨b, i * 3 + 2, none⟩ = some (.int .i64 (mf i))

set_option maxHeartbeats 1000000 in
theorem likeAll_true (kf rf mf kf2 rf2 mf2 : Nat → Int) (n : Nat) (v v2 : Value) (w : World) (hn : n ≤ 5)
    (ha : ArgsAt w v n kf rf mf) (ha2 : ArgsAt w v2 n kf2 rf2 mf2) (hl : ∀ i, i < n → Sp.like ⟨kf i, rf i, mf i⟩ ⟨kf2 i, rf2 i, mf2 i⟩ = true) :
    Calls Tryd.prog 16 #[v, v2] w fun e w' => e = .returned (.bool true) ∧ Below w.heap.size w w' := by
  obtain ⟨g, cap, rfl, hq⟩ := ha.val
  obtain ⟨g2, cap2, rfl, hq2⟩ := ha2.val
  have HL := Lib.hid hl
  have HA := Lib.hid hq
  have HA2 := Lib.hid hq2
  clear hl ha ha2 hq hq2
  go_enter Tryd.func16, Tryd.ntmps16
  go_wp2
  go_loopw [5] (fun i wr => ∃ k : Nat, k ≤ n ∧ i = .int .i64 k ∧ Below w.heap.size w wr) (fun i _ => n - (intOf i).toNat)
  case atStart => exact ⟨0, Nat.zero_le _, rfl, Below.refl _ _⟩
  case round =>
    obtain ⟨k, hk, rfl, hb⟩ := hrel
    by_cases hlt : k < n
    · obtain ⟨b, rfl, hg, c0, c1, c2⟩ := HA.out k hlt
      obtain ⟨b2, rfl, hg2, d0, d1, d2⟩ := HA2.out k hlt
      have gz : b < wr.heap.size := Nat.lt_of_lt_of_le hg hb.size
      have gz2 : b2 < wr.heap.size := Nat.lt_of_lt_of_le hg2 hb.size
      have G0 := ext_cell (W := wr) (p := ⟨b, k * 3, none⟩) gz ((hb.cell hg).trans c0)
      have G1 := ext_cell (W := wr) (p := ⟨b, k * 3 + 1, none⟩) gz ((hb.cell hg).trans c1)
      have G2 := ext_cell (W := wr) (p := ⟨b, k * 3 + 2, none⟩) gz ((hb.cell hg).trans c2)
      have D0 := ext_cell (W := wr) (p := ⟨b2, k * 3, none⟩) gz2 ((hb.cell hg2).trans d0)
      have D1 := ext_cell (W := wr) (p := ⟨b2, k * 3 + 1, none⟩) gz2 ((hb.cell hg2).trans d1)
      have D2 := ext_cell (W := wr) (p := ⟨b2, k * 3 + 2, none⟩) gz2 ((hb.cell hg2).trans d2)
      clear c0 c1 c2 d0 d1 d2
      have HC : Hid (∀ W, Calls Tryd.prog 24 #[.agg #[.int .i64 (kf k), .int .i64 (rf k), .int .i64 (mf k)], .agg #[.int .i64 (kf2 k), .int .i64 (rf2 k), .int .i64 (mf2 k)]] W fun e w' => e = .returned (.bool true) ∧ Below W.heap.size W w') := by
        intro W
        have h := like_any (kf k) (rf k) (mf k) (kf2 k) (rf2 k) (mf2 k) W
        rw [HL.out k hlt] at h
        exact h
      go_wp2
      refine wp_region_ext (by kernel_rfl) (by kernel_rfl) ?_
      go_big_quiet_step (fail)
      go_big_quiet_step (fail)
      go_big_quiet_step (fail)
      go_big_quiet_step (fail)
      go_big_quiet_step (fail)
      go_big_quiet_step (fail)
      go_big_quiet_step (fail)
      go_big_quiet_step (fail)
      go_big_quiet_step (exact calls_ext (HC.out _))
      go_big_quiet_step (fail)
      refine wpQuiet_nil ?_
      rintro _ ⟨⟨w2, hb2⟩, rfl⟩
      go_wp2
      go_roundw
      case rel => exact ⟨k + 1, by omega, by go_num, below_then hb2 hb.size hb⟩
      case measure => simp [intOf]; omega
    · go_wp2
      go_ret
      exact ⟨rfl, hb⟩
end Go.Proofs.YtiffpgjhopicaaaDoor

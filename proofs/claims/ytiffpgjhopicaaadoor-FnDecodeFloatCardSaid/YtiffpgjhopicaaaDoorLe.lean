/-
  The walks of le32, Four and Clone. Conditions: the bytes lie in memory.
-/
import Derived.Test.YtiffpgjhopicaaaDoorDArgB
import Derived.Test.YtiffpgjhopicaaaDoorDArgC
namespace Go.Proofs.YtiffpgjhopicaaaDoor
open Go.RowKit Go.BigFrame

theorem or_up8 (a b : Int) (h0 : 0 ≤ a) (h1 : a < 256) (h2 : 0 ≤ b) (h3 : b ≤ 4294967295) (h4 : b % 256 = 0) : bits .or .u32 a b = a + b := by
  rw [u32_or a b h0 (by omega) h2 (by omega), nat_join8' _ _ (by omega) (by omega)]; omega
theorem or_up16 (a b : Int) (h0 : 0 ≤ a) (h1 : a < 65536) (h2 : 0 ≤ b) (h3 : b ≤ 4294967295) (h4 : b % 65536 = 0) : bits .or .u32 a b = a + b := by
  rw [u32_or a b h0 (by omega) h2 (by omega), nat_join16' _ _ (by omega) (by omega)]; omega
theorem or_up24 (a b : Int) (h0 : 0 ≤ a) (h1 : a < 16777216) (h2 : 0 ≤ b) (h3 : b ≤ 4294967295) (h4 : b % 16777216 = 0) : bits .or .u32 a b = a + b := by
  rw [u32_or a b h0 (by omega) h2 (by omega), nat_join24' _ _ (by omega) (by omega)]; omega

set_option maxHeartbeats 1000000 in
theorem le32_any (b n cap : Nat) (b0 b1 b2 b3 : Int) (w : World) (hn : 4 ≤ n) (hn2 : n ≤ 9223372036854775807)
    (c0 : w.cell? ⟨b, 0, none⟩ = some (.int .u8 b0)) (c1 : w.cell? ⟨b, 1, none⟩ = some (.int .u8 b1)) (c2 : w.cell? ⟨b, 2, none⟩ = some (.int .u8 b2)) (c3 : w.cell? ⟨b, 3, none⟩ = some (.int .u8 b3))
    (h0 : 0 ≤ b0 ∧ b0 ≤ 255) (h1 : 0 ≤ b1 ∧ b1 ≤ 255) (h2 : 0 ≤ b2 ∧ b2 ≤ 255) (h3 : 0 ≤ b3 ∧ b3 ≤ 255) :
    Calls Tryd.prog 25 #[.slice (some ⟨b, 0, none⟩) n cap] w fun e w' => e = .returned (.int .u32 (b0 + b1 * 256 + b2 * 65536 + b3 * 16777216)) ∧ ∃ m, w' = w.drewN m := by
  have t0 : (0 : Int) < (n : Int) := by omega
  have t1 : (1 : Int) < (n : Int) := by omega
  have t2 : (2 : Int) < (n : Int) := by omega
  have t3 : (3 : Int) < (n : Int) := by omega
  clear hn2
  go_enter Tryd.func25, Tryd.ntmps25
  go_wp2
  go_quiet (fail)
  go_wp2
  go_ret
  refine ⟨congrArg (fun n => Ending.returned (Value.int IntKind.u32 n)) ?_, _, rfl⟩
  rw [or_up8 b0 (b1 * 256) (by omega) (by omega) (by omega) (by omega) (by omega), or_up16 (b0 + b1 * 256) (b2 * 65536) (by omega) (by omega) (by omega) (by omega) (by omega), or_up24 (b0 + b1 * 256 + b2 * 65536) (b3 * 16777216) (by omega) (by omega) (by omega) (by omega) (by omega)]

/-- The bytes of a word, the least first. -/
def fourOf (x : Int) : List Int := [x % 256, x / 256 % 256, x / 65536 % 256, x / 16777216]
set_option maxHeartbeats 1000000 in
theorem four_any (x : Int) (w : World) (hx : 0 ≤ x) (hx2 : x ≤ 4294967295) :
    Calls Tryd.prog 13 #[.int .u32 x] w fun e w' => e = .returned (.slice (some ⟨w.heap.size, 0, none⟩) 4 4) ∧ w' = w.alloc (.cells ((fourOf x).map (Value.int .u8)).toArray 5) := by
  go_enter Tryd.func13, Tryd.ntmps13
  go_wp2
  go_ret
  exact ⟨rfl, by simp [fourOf]⟩

/-- A slice of bytes that reads as a list; where it holds none it may be nil. -/
structure BytesAt (w : World) (v : Value) (zs : List Int) : Prop where
  val : ∃ g cap, v = .slice g zs.length cap ∧ (g = none → zs = [] ∧ cap = 0) ∧ ∀ i, i < zs.length → ∃ b o, g = some ⟨b, o, none⟩ ∧ b < w.heap.size ∧ w.cell? ⟨b, o + i, none⟩ = some (.int .u8 (zs.getD i 0))
  fits : ∀ z ∈ zs, 0 ≤ z ∧ z ≤ 255
  most : zs.length ≤ 140737488355328

theorem info5 : (Tryd.prog.info? 5).map (fun i => (i.zero, i.size, i.bytes)) = some (some (.int .u8 0), 1, 1) := by kernel_rfl

theorem bytes_news {w : World} {a : Addr} {zs : List Int} (h : ∀ i, i < zs.length → ∃ b o, some a = some (⟨b, o, none⟩ : Addr) ∧ b < w.heap.size ∧ w.cell? ⟨b, o + i, none⟩ = some (.int .u8 (zs.getD i 0))) (o : Obj) :
    ∀ j u, (zs.map (Value.int .u8))[j]? = some u → (w.alloc o).cell? (a.add j) = some u := by
  intro j u hu
  simp only [List.getElem?_map, Option.map_eq_some_iff] at hu
  obtain ⟨z, hz, rfl⟩ := hu
  obtain ⟨hj, hz⟩ := List.getElem?_eq_some_iff.1 hz
  obtain ⟨b, off, ha, hb, hc⟩ := h j hj
  obtain rfl := Option.some.inj ha
  rw [Addr.add_lit]
  have hd : zs.getD j 0 = z := by simp [List.getD, hj, hz]
  rw [hd] at hc
  exact ((Below.refl w.heap.size w).alloc (Nat.le_refl _) o).cell (p := ⟨b, off + j, none⟩) hb ▸ hc

set_option maxHeartbeats 2000000 in
theorem clone_any (v : Value) (zs : List Int) (w : World) (hv : BytesAt w v zs) :
    Calls Tryd.prog 21 #[v] w fun e w' => ∃ v', e = .returned v' ∧ w'.ownsRow w.heap.size 5 1 v' zs.length (zs.map (Value.int .u8)) ∧ Below w.heap.size w w' := by
  obtain ⟨g, cap, rfl, hg, hc⟩ := hv.val
  obtain ⟨i5, hi, hz0, hz1, hz2⟩ := info_parts info5
  have HC := Lib.hid hc
  have HG := Lib.hid hg
  have HM := Lib.hid hv.most
  clear hc hg hv
  have q := fun (w : World) (a : Option Addr) (n c n' c' : Nat) => Lib.run_eql_slice_nil (P := Tryd.prog) w 32 5 a n c n' c' Tryd.underlying32
  cases g with
  | none =>
    obtain ⟨rfl, rfl⟩ := HG.out rfl
    go_enter Tryd.func21, Tryd.ntmps21
    go_wp2
    go_ret
    exact ⟨_, rfl, World.ownsRow_nil _ _ _ _, Below.refl _ _⟩
  | some a =>
    go_enter Tryd.func21, Tryd.ntmps21
    have hown0 := Lib.hid (World.ownsRow_made (base := w.heap.size) (e := 5) (size := 1) w #[] 0 (Nat.le_refl _) (Nat.zero_le _) rfl)
    go_wp2_with (at_builtin; (refine wpList_append_own _ rfl _ _ 32 rfl w.heap.size 5 i5 (.int .u8 0) 1 1 Tryd.underlying32 hi hz0 hz1 hz2 rfl (by decide) _ 0 [] rfl hown0.out a zs.length cap (zs.map (Value.int .u8)) rfl (by simp) (bytes_news HC.out _) ?c1 ?c2 ?c3 ?c4 ?_))
    case c1 => intro u hu; obtain ⟨z, _, rfl⟩ := List.mem_map.1 hu; rfl
    case c2 => have := HM.out; simp only [maxLen]; omega
    case c3 => have := HM.out; omega
    case c4 => simp
    intro v' w1 hown hgrow _
    go_wp2
    go_ret
    refine ⟨_, rfl, hown, ?_⟩
    exact ((Below.refl _ _).alloc (Nat.le_refl _) _).grown hgrow (by simp) (fun k hk => by simp [Value.ownBlock] at hk; omega)
end Go.Proofs.YtiffpgjhopicaaaDoor

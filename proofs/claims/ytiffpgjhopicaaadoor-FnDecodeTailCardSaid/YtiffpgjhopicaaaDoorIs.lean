/-
  The walk of the reference's function Is. Conditions: x is a number of 32 bits, c is one of the letters of the listings.
-/
import Derived.Test.YtiffpgjhopicaaaDoorArgs
import Derived.Lib.Hide
namespace Go.Proofs.YtiffpgjhopicaaaDoor
open Go.RowKit Go.BigFrame

theorem reg_is {x c : Int} (hc : c ∈ regs) : (Sp.register x c).2 = true := by
  simp only [regs, List.mem_cons, List.not_mem_nil, or_false] at hc
  rcases hc with rfl | rfl | rfl | rfl | rfl | rfl | rfl | rfl <;> simp [Sp.register]
theorem reg_not {x c : Int} (hc : c ∈ letters) : (Sp.register x c).2 = false := by
  simp only [letters, List.mem_cons, List.not_mem_nil, or_false] at hc
  rcases hc with rfl | rfl | rfl | rfl | rfl | rfl | rfl | rfl | rfl | rfl | rfl | rfl | rfl <;> simp [Sp.register]
theorem isOf_reg {x c : Int} {a : Sp.A} (hc : c ∈ regs) : Sp.isOf x c a = Sp.eq a (Sp.register x c).1 := by simp [Sp.isOf, reg_is hc]
theorem isOf_far {x c : Int} {a : Sp.A} (hc : c ∈ letters) (h : c = 111 ∨ c = 112 ∨ c = 113) : Sp.isOf x c a = Sp.far a (Sp.numeral x c) := by simp [Sp.isOf, reg_not hc, h]
theorem isOf_like {x c : Int} {a : Sp.A} (hc : c ∈ letters) (h : ¬ (c = 111 ∨ c = 112 ∨ c = 113)) : Sp.isOf x c a = Sp.like a (Sp.n (Sp.numeral x c)) := by simp [Sp.isOf, reg_not hc, h]

theorem signed_bd (n b : Int) (h0 : 0 ≤ n) (h1 : n ≤ 1000000000) (hb : b ∈ ([12, 16, 20, 21, 26] : List Int)) : -1000000000 ≤ Sp.signed n b ∧ Sp.signed n b ≤ 1000000000 := by
  simp only [List.mem_cons, List.not_mem_nil, or_false] at hb
  rcases hb with rfl | rfl | rfl | rfl | rfl <;> (simp [Sp.signed]; split <;> omega)
theorem numeral_bd (x c : Int) (hc : c ∈ letters) : -1000000000 ≤ Sp.numeral x c ∧ Sp.numeral x c ≤ 1000000000 := by
  have h1 := field_bd' x 25 10 65536 (by decide)
  have h2 := field_bd' x 21 10 4096 (by decide)
  have h3 := field_bd' x 24 5 1048576 (by decide)
  have h4 := field_bd' x 14 10 32 (by decide)
  have h5 := field_bd' x 15 10 64 (by decide)
  have h6 := field_bd' x 20 16 32 (by decide)
  have h7 := field_bd' x 21 16 64 (by decide)
  have h8 := field_bd' x 4 0 32 (by decide)
  have h9 := field_bd' x 9 0 1024 (by decide)
  simp only [letters, List.mem_cons, List.not_mem_nil, or_false] at hc
  rcases hc with rfl | rfl | rfl | rfl | rfl | rfl | rfl | rfl | rfl | rfl | rfl | rfl | rfl <;> simp [Sp.numeral] <;>
    first | omega | exact signed_bd _ _ (by omega) (by omega) (by decide)
/-- A world that extends a world: what lay there lies there still. -/
structure Ext (W : World) where
  on : World
  below : Below W.heap.size W on
instance (W : World) : Nonempty (Ext W) := ⟨⟨W, Below.refl _ _⟩⟩
theorem calls_ext {P : Program} {f : FuncId} {args : Array Value} {W : World} {u : Ext W} {v : Value}
    (h : Calls P f args u.on fun e w' => e = .returned v ∧ Below u.on.heap.size u.on w') : Calls P f args u.on fun e w'' => e = .returned v ∧ ∃ u' : Ext W, w'' = u'.on :=
  h.mono fun _ w' ⟨he, hb⟩ => ⟨he, ⟨w', below_then hb u.below.size u.below⟩, rfl⟩
theorem calls_ext_draw {P : Program} {f : FuncId} {args : Array Value} {W : World} {u : Ext W} {v : Value}
    (h : Calls P f args u.on fun e w' => e = .returned v ∧ ∃ n, w' = u.on.drewN n) : Calls P f args u.on fun e w'' => e = .returned v ∧ ∃ u' : Ext W, w'' = u'.on :=
  h.mono fun _ w' ⟨he, n, hn⟩ => ⟨he, ⟨w', by rw [hn]; exact below_drewN u.below n⟩, rfl⟩
theorem ext_cell {W : World} {p : Addr} {v : Value} (hp : p.block < W.heap.size) (h : W.cell? p = some v) (u : Ext W) : u.on.cell? p = some v := by rw [u.below.cell hp, h]
theorem ext_first {W : World} : ∃ u : Ext W, { W with drawn := W.drawn + 1 } = u.on := ⟨⟨{ W with drawn := W.drawn + 1 }, rfl, rfl, rfl, Nat.le_refl _, fun _ _ => rfl⟩, rfl⟩

/-- A region that draws its order, whose operations read what lay there, whose calls make new memory at the most: one walk, in the order of the text. -/
theorem wp_region_ext {P : Program} {id : Nat} {Q : Exit → Act → World → Prop} {a : Act} {w : World} {l : List Oper} (hm : P.follows .mixedOrders = true) (hB : Region.lexB .any l.toArray = true)
    (h : wpQuiet P l.toArray (fun w' => ∃ u : Ext w, w' = u.on) (fun a' => ∀ w', (∃ u : Ext w, w' = u.on) → Q .normal a' w') l a) : (Code.region id l.toArray true).wp P Q a w :=
  wp_region_quiet (C := fun w' => ∃ u : Ext w, w' = u.on) hm hB ext_first h

set_option maxHeartbeats 1000000 in
theorem is_reg (x c k r m : Int) (w : World) (hx : 0 ≤ x) (hx2 : x ≤ 4294967295) (hc : c ∈ regs) :
    Calls Tryd.prog 23 #[.int .u32 x, .int .u8 c, .agg #[.int .i64 k, .int .i64 r, .int .i64 m]] w fun e w' => e = .returned (.bool (Sp.isOf x c ⟨k, r, m⟩)) ∧ Below w.heap.size w w' := by
  have HC := Lib.hid hc
  have HI := Lib.hid (isOf_reg (x := x) (a := ⟨k, r, m⟩) hc)
  clear hc
  go_enter Tryd.func23, Tryd.ntmps23
  go_wp2_with (first | (go_at_call 28; refine (register_any _ _ _ hx hx2 HC.out).mono ?_; rintro e w1 ⟨rfl, hb⟩; obtain ⟨hc, hf⟩ := bcell hb; have hz : w.heap.size < w1.heap.size := by (have := hb.size; (try simp at this); omega)))
  all_goals
    go_ret
    refine ⟨ret_bool (by rw [HI.out]; simp [Sp.eq, *] <;> rfl), ?_⟩
    repeat' (first | exact Below.refl _ _ | (refine below_then (by assumption) ?_ ?_) | (refine Below.alloc ?_ ?_ _) | (refine Below.setCell ?_ ?_ _) | (refine below_drewN ?_ _) | (simp; done) | (simp; omega) | omega)

set_option maxHeartbeats 1000000 in
theorem is_far (x c k r m : Int) (w : World) (hx : 0 ≤ x) (hx2 : x ≤ 4294967295) (hc : c ∈ letters) (hn : c = 111 ∨ c = 112 ∨ c = 113) :
    Calls Tryd.prog 23 #[.int .u32 x, .int .u8 c, .agg #[.int .i64 k, .int .i64 r, .int .i64 m]] w fun e w' => e = .returned (.bool (Sp.isOf x c ⟨k, r, m⟩)) ∧ Below w.heap.size w w' := by
  have HC := Lib.hid hc
  have HI := Lib.hid (isOf_far (x := x) (a := ⟨k, r, m⟩) hc hn)
  have HN := Lib.hid hn
  clear hc
  rcases hn with rfl | rfl | rfl <;> (
    go_enter Tryd.func23, Tryd.ntmps23
    go_wp2_with (first | (go_at_call 28; refine (register_no _ _ _ HC.out).mono ?_; rintro e w1 ⟨rfl, hb⟩; obtain ⟨hc, hf⟩ := bcell hb; have hz : w.heap.size < w1.heap.size := by (have := hb.size; (try simp at this); omega)))
    have g0 : (w1.alloc (Obj.cells #[Value.int IntKind.i64 0, Value.int IntKind.i64 0, Value.int IntKind.i64 0] 52)).cell? ⟨w.heap.size, 0, none⟩ = some (.int .i64 k) := by go_simp
    have g1 : (w1.alloc (Obj.cells #[Value.int IntKind.i64 0, Value.int IntKind.i64 0, Value.int IntKind.i64 0] 52)).cell? ⟨w.heap.size, 1, none⟩ = some (.int .i64 r) := by go_simp
    have g2 : (w1.alloc (Obj.cells #[Value.int IntKind.i64 0, Value.int IntKind.i64 0, Value.int IntKind.i64 0] 52)).cell? ⟨w.heap.size, 2, none⟩ = some (.int .i64 m) := by go_simp
    have gb : Below w.heap.size w (w1.alloc (Obj.cells #[Value.int IntKind.i64 0, Value.int IntKind.i64 0, Value.int IntKind.i64 0] 52)) := by
      repeat' (first | exact Below.refl _ _ | (refine below_then (by assumption) ?_ ?_) | (refine Below.alloc ?_ ?_ _) | (simp; done) | (simp; omega) | omega)
    have gz : w.heap.size < (w1.alloc (Obj.cells #[Value.int IntKind.i64 0, Value.int IntKind.i64 0, Value.int IntKind.i64 0] 52)).heap.size := by simp; omega
    generalize (w1.alloc (Obj.cells #[Value.int IntKind.i64 0, Value.int IntKind.i64 0, Value.int IntKind.i64 0] 52)) = W at *
    clear hc hf hz hb
    have G0 := ext_cell (p := ⟨w.heap.size, 0, none⟩) gz g0
    have G1 := ext_cell (p := ⟨w.heap.size, 1, none⟩) gz g1
    have G2 := ext_cell (p := ⟨w.heap.size, 2, none⟩) gz g2
    refine wp_region_ext (by kernel_rfl) (by kernel_rfl) ?_
    go_big_quiet_step (fail)
    go_big_quiet_step (fail)
    go_big_quiet_step (fail)
    go_big_quiet_step (exact calls_ext_draw (numeral_any _ _ _ hx hx2 HC.out))
    go_big_quiet_step (exact calls_ext (far_any _ _ _ _ _ (numeral_bd _ _ HC.out)))
    try go_big_quiet_step (fail)
    refine wpQuiet_nil ?_
    rintro _ ⟨⟨w2, hb2⟩, rfl⟩
    go_wp2
    go_ret
    exact ⟨ret_bool HI.out.symm, below_then hb2 gb.size gb⟩)

set_option maxHeartbeats 4000000 in
theorem is_like (x c k r m : Int) (w : World) (hx : 0 ≤ x) (hx2 : x ≤ 4294967295) (hc : c ∈ letters) (hn : ¬ (c = 111 ∨ c = 112 ∨ c = 113)) :
    Calls Tryd.prog 23 #[.int .u32 x, .int .u8 c, .agg #[.int .i64 k, .int .i64 r, .int .i64 m]] w fun e w' => e = .returned (.bool (Sp.isOf x c ⟨k, r, m⟩)) ∧ Below w.heap.size w w' := by
  have HC := Lib.hid hc
  have HI := Lib.hid (isOf_like (x := x) (a := ⟨k, r, m⟩) hc hn)
  have t1 : (c == 111) = false := by simp; omega
  have t2 : (c == 112) = false := by simp; omega
  have t3 : (c == 113) = false := by simp; omega
  clear hc hn
  go_enter Tryd.func23, Tryd.ntmps23
  go_wp2_with (first | (go_at_call 28; refine (register_no _ _ _ HC.out).mono ?_; rintro e w1 ⟨rfl, hb⟩; obtain ⟨hc, hf⟩ := bcell hb; have hz : w.heap.size < w1.heap.size := by (have := hb.size; (try simp at this); omega)))
  have g0 : (w1.alloc (Obj.cells #[Value.int IntKind.i64 0, Value.int IntKind.i64 0, Value.int IntKind.i64 0] 52)).cell? ⟨w.heap.size, 0, none⟩ = some (.int .i64 k) := by go_simp
  have g1 : (w1.alloc (Obj.cells #[Value.int IntKind.i64 0, Value.int IntKind.i64 0, Value.int IntKind.i64 0] 52)).cell? ⟨w.heap.size, 1, none⟩ = some (.int .i64 r) := by go_simp
  have g2 : (w1.alloc (Obj.cells #[Value.int IntKind.i64 0, Value.int IntKind.i64 0, Value.int IntKind.i64 0] 52)).cell? ⟨w.heap.size, 2, none⟩ = some (.int .i64 m) := by go_simp
  have gb : Below w.heap.size w (w1.alloc (Obj.cells #[Value.int IntKind.i64 0, Value.int IntKind.i64 0, Value.int IntKind.i64 0] 52)) := by
    repeat' (first | exact Below.refl _ _ | (refine below_then (by assumption) ?_ ?_) | (refine Below.alloc ?_ ?_ _) | (simp; done) | (simp; omega) | omega)
  have gz : w.heap.size < (w1.alloc (Obj.cells #[Value.int IntKind.i64 0, Value.int IntKind.i64 0, Value.int IntKind.i64 0] 52)).heap.size := by simp; omega
  generalize (w1.alloc (Obj.cells #[Value.int IntKind.i64 0, Value.int IntKind.i64 0, Value.int IntKind.i64 0] 52)) = W at *
  clear hc hf hz hb
  have G0 := ext_cell (p := ⟨w.heap.size, 0, none⟩) gz g0
  have G1 := ext_cell (p := ⟨w.heap.size, 1, none⟩) gz g1
  have G2 := ext_cell (p := ⟨w.heap.size, 2, none⟩) gz g2
  refine wp_region_ext (by kernel_rfl) (by kernel_rfl) ?_
  go_big_quiet_step (fail)
  go_big_quiet_step (fail)
  go_big_quiet_step (fail)
  go_big_quiet_step (exact calls_ext_draw (numeral_any _ _ _ hx hx2 HC.out))
  go_big_quiet_step (exact calls_ext (n_any _ _))
  go_big_quiet_step (exact calls_ext (like_any _ _ _ _ _ _ _))
  try go_big_quiet_step (fail)
  refine wpQuiet_nil ?_
  rintro _ ⟨⟨w2, hb2⟩, rfl⟩
  go_wp2
  go_ret
  exact ⟨ret_bool HI.out.symm, below_then hb2 gb.size gb⟩

theorem is_any (x c k r m : Int) (w : World) (hx : 0 ≤ x) (hx2 : x ≤ 4294967295) (hc : c ∈ regs ∨ c ∈ letters) :
    Calls Tryd.prog 23 #[.int .u32 x, .int .u8 c, .agg #[.int .i64 k, .int .i64 r, .int .i64 m]] w fun e w' => e = .returned (.bool (Sp.isOf x c ⟨k, r, m⟩)) ∧ Below w.heap.size w w' := by
  rcases hc with hc | hc
  · exact is_reg x c k r m w hx hx2 hc
  · by_cases hn : c = 111 ∨ c = 112 ∨ c = 113
    · exact is_far x c k r m w hx hx2 hc hn
    · exact is_like x c k r m w hx hx2 hc hn
end Go.Proofs.YtiffpgjhopicaaaDoor

/-
  The law in plain numbers: the word made of a row's fixed bits and any other bits meets first the format of the row's own operation, and that format's arguments are what the row's letters say. Conditions: the word has 32 bits.
-/
import Derived.Test.YtiffpgjhopicaaaDoorDecA
import Derived.Laws.BitsAllLaws
namespace Go.Proofs.YtiffpgjhopicaaaDoor

/-- A word that keeps a row's fixed bits. -/
def wordBits (y M F : Nat) : Nat := (y &&& (4294967295 - M)) ||| F
theorem wordBits_and {y M F : Nat} (hM : M < 4294967296) (hF : F &&& M = F) : wordBits y M F &&& M = F := by
  apply Nat.eq_of_testBit_eq
  intro i
  have hs : (4294967295 - M).testBit i = (decide (i < 32) && !M.testBit i) := by
    have h := Nat.testBit_two_pow_sub_succ (x := M) (n := 32) hM i
    rw [← h]
    congr 1
    omega
  have hf : F.testBit i = (F.testBit i && M.testBit i) := by rw [← Nat.testBit_and, hF]
  unfold wordBits
  rw [Nat.testBit_and, Nat.testBit_or, Nat.testBit_and, hs, hf]
  cases y.testBit i <;> cases M.testBit i <;> cases F.testBit i <;> cases decide (i < 32) <;> rfl
theorem wordBits_lt {y M F : Nat} (hF : F < 4294967296) : wordBits y M F < 4294967296 := by
  refine Nat.or_lt_two_pow (n := 32) (Nat.and_lt_two_pow _ (by omega)) hF

/-- Which kind of argument a letter of a row's form asks for. -/
def letterMap : List (Nat × Nat) := [(68, 5), (74, 6), (75, 7), (69, 1), (71, 2), (76, 3), (77, 4), (110, 12), (53, 19), (54, 20), (117, 21), (115, 31), (104, 33), (119, 34), (97, 23), (98, 22), (99, 25), (100, 24), (111, 37), (112, 35), (113, 36)]
/-- Some word that keeps the row's fixed bits meets this format. -/
def mayMeet (r : Sp.Row) (g : Sp.Fmt) : Bool := g.value &&& r.mask == r.fixed &&& g.mask
/-- What is asked of the row and its format. -/
def fits (r : Sp.Row) (f : Sp.Fmt) : Bool :=
  f.mask &&& r.mask == f.mask && (r.fixed &&& f.mask == f.value) && f.op == r.op && f.args.length == r.form.length && (r.form.zip f.args).all (fun p => letterMap.contains p) && decide (f.mask < 4294967296)
def rowOk (r : Sp.Row) : Bool :=
  decide (r.mask < 4294967296) && decide (r.fixed < 4294967296) && r.fixed &&& r.mask == r.fixed && decide (r.form.length ≤ 5) && decide (0 < r.form.length) && (match Sp.tab.find? (mayMeet r) with | some f => fits r f | none => false)
theorem rows_ok : (Sp.rowsMemory ++ Sp.rowsReckon ++ Sp.rowsFloat ++ Sp.rowsCompare ++ Sp.rowsBranch).all rowOk = true := by decide +kernel
theorem tab_bd : Sp.tab.all (fun f => decide (f.mask < 4294967296)) = true := by decide +kernel

theorem meets_nat {f : Sp.Fmt} {x : Nat} (hm : f.mask < 4294967296) (hx : x < 4294967296) : meets f (x : Int) = (x &&& f.mask == f.value) := by
  unfold meets
  rw [u32_and _ _ (by omega) (by omega) (by omega) (by omega)]
  rw [Bool.eq_iff_iff, beq_iff_eq, beq_iff_eq]
  simp only [Int.toNat_natCast]
  omega

theorem find_weaker {α : Type} {p q : α → Bool} : ∀ {l : List α} {f : α}, l.find? p = some f → q f = true → (∀ g ∈ l, q g = true → p g = true) → l.find? q = some f
  | [], _, h, _, _ => by cases h
  | g :: l, f, h, hf, hi => by
    rw [List.find?_cons] at h ⊢
    cases hp : p g with
    | true =>
      rw [hp] at h
      obtain rfl : g = f := by simpa using h
      rw [hf]
    | false =>
      rw [hp] at h
      cases hq : q g with
      | true => exact absurd (hi g (by simp) hq) (by rw [hp]; simp)
      | false => exact find_weaker h hf fun g' hg' => hi g' (by simp [hg'])

theorem row_finds {r : Sp.Row} (h : rowOk r = true) (y : Nat) : ∃ f, findFmt ((wordBits y r.mask r.fixed : Nat) : Int) = some f ∧ fits r f = true := by
  unfold rowOk at h
  simp only [Bool.and_eq_true, decide_eq_true_eq, beq_iff_eq] at h
  obtain ⟨⟨⟨⟨⟨hM, hF⟩, hFM⟩, _⟩, _⟩, hm⟩ := h
  split at hm
  case h_2 => cases hm
  rename_i f hf
  refine ⟨f, ?_, hm⟩
  have hx := wordBits_lt (y := y) (M := r.mask) hF
  have ha := wordBits_and (y := y) hM hFM
  have hbd : ∀ g ∈ Sp.tab, g.mask < 4294967296 := fun g hg => by simpa using List.all_eq_true.1 tab_bd g hg
  have hff := hm
  simp only [fits, Bool.and_eq_true, decide_eq_true_eq, beq_iff_eq] at hff
  obtain ⟨⟨⟨⟨⟨h1, h2⟩, _⟩, _⟩, _⟩, h6⟩ := hff
  refine find_weaker hf ?_ fun g hg hq => ?_
  · rw [meets_nat h6 hx, beq_iff_eq, ← h1, Nat.and_comm f.mask, ← Nat.and_assoc, ha]
    rw [h1] at *
    exact h2
  · rw [meets_nat (hbd g hg) hx, beq_iff_eq] at hq
    unfold mayMeet
    rw [beq_iff_eq, ← hq, Nat.and_assoc, Nat.and_comm g.mask, ← Nat.and_assoc, ha]

theorem like_refl (k : Int) (h : 4 ≤ k ∧ k ≤ 8) (n : Int) (m : Int) : Sp.like ⟨k, m, n⟩ (Sp.n n) = true := by
  simp [Sp.like, Sp.n, Sp.number, h]
theorem letter_ok {c a op : Nat} (h : (c, a) ∈ letterMap) (x : Int) : ((c : Int) ∈ regs ∨ (c : Int) ∈ letters) ∧ Sp.isOf x c (Sp.dA (Sp.darg a x op)) = true := by
  simp only [letterMap, List.mem_cons, Prod.mk.injEq, List.not_mem_nil, or_false] at h
  rcases h with ⟨rfl, rfl⟩ | ⟨rfl, rfl⟩ | ⟨rfl, rfl⟩ | ⟨rfl, rfl⟩ | ⟨rfl, rfl⟩ | ⟨rfl, rfl⟩ | ⟨rfl, rfl⟩ | ⟨rfl, rfl⟩ | ⟨rfl, rfl⟩ | ⟨rfl, rfl⟩ | ⟨rfl, rfl⟩ | ⟨rfl, rfl⟩ | ⟨rfl, rfl⟩ | ⟨rfl, rfl⟩ | ⟨rfl, rfl⟩ | ⟨rfl, rfl⟩ | ⟨rfl, rfl⟩ | ⟨rfl, rfl⟩ | ⟨rfl, rfl⟩ | ⟨rfl, rfl⟩ | ⟨rfl, rfl⟩ <;> refine ⟨by decide, ?_⟩ <;>
    simp [Sp.isOf, Sp.register, Sp.numeral, Sp.dA, Sp.darg, Sp.eq, Sp.r, Sp.f, Sp.far, Sp.number, Sp.like, Sp.n]
end Go.Proofs.YtiffpgjhopicaaaDoor

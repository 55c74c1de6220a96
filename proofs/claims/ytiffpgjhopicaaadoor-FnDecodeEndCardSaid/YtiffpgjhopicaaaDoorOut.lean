/-
  What the laws' walks lean on: the decoder's answer for any format, the arguments as the reference reads them, the four bytes of a word, the rows' cells. Conditions: as in the texts it joins.
-/
import Derived.Test.YtiffpgjhopicaaaDoorImpl
import Derived.Test.YtiffpgjhopicaaaDoorPlain
import Derived.Test.YtiffpgjhopicaaaDoorRowFns
import Derived.Test.YtiffpgjhopicaaaDoorListed
namespace Go.Proofs.YtiffpgjhopicaaaDoor
open Go.RowKit Go.BigFrame

theorem impl_ok (v : Value) (zs : List Int) (w : World) (hv : BytesAt w v zs) (hn : 4 ≤ zs.length) (f : Sp.Fmt) (hf : findFmt (wordOf zs) = some f) :
    Calls Tryd.prog 12 #[v] w fun e w' => ∃ v', e = .returned (.tuple #[.int .i64 f.op, v', .int .u32 (wordOf zs), .bool true]) ∧ w'.ownsRow w.heap.size 52 3 v' f.args.length (outCells f (wordOf zs) f.args.length) ∧ Below w.heap.size w w' := by
  have h5 := good_len (find_good hf)
  rcases (by omega : f.args.length = 0 ∨ f.args.length = 1 ∨ f.args.length = 2 ∨ f.args.length = 3 ∨ f.args.length = 4 ∨ f.args.length = 5) with h | h | h | h | h | h <;> rw [h]
  · exact impl_ok0 v zs w hv hn f hf h
  · exact impl_ok1 v zs w hv hn f hf h
  · exact impl_ok2 v zs w hv hn f hf h
  · exact impl_ok3 v zs w hv hn f hf h
  · exact impl_ok4 v zs w hv hn f hf h
  · exact impl_ok5 v zs w hv hn f hf h

theorem outCells_length (f : Sp.Fmt) (x : Int) : ∀ n, (outCells f x n).length = n * 3
  | 0 => rfl
  | n + 1 => by rw [outCells_succ, List.length_append, outCells_length f x n]; simp; omega
theorem outCells_at (f : Sp.Fmt) (x : Int) (i : Nat) : ∀ n, i < n → (outCells f x n)[i * 3]? = some (.int .i64 (Sp.dA (argD f x i)).kind) ∧ (outCells f x n)[i * 3 + 1]? = some (.int .i64 (Sp.dA (argD f x i)).reg) ∧ (outCells f x n)[i * 3 + 2]? = some (.int .i64 (Sp.dA (argD f x i)).num)
  | 0, h => by omega
  | n + 1, h => by
    rw [outCells_succ]
    have hl := outCells_length f x n
    by_cases hi : i < n
    · obtain ⟨h0, h1, h2⟩ := outCells_at f x i n hi
      refine ⟨?_, ?_, ?_⟩ <;> rw [List.getElem?_append_left (by omega)] <;> assumption
    · obtain rfl : i = n := by omega
      refine ⟨?_, ?_, ?_⟩ <;> rw [List.getElem?_append_right (by omega), hl]
      · simp
      · rw [show i * 3 + 1 - i * 3 = 1 by omega]; rfl
      · rw [show i * 3 + 2 - i * 3 = 2 by omega]; rfl

/-- The three numbers of a format's arguments. -/
def kindF (f : Sp.Fmt) (x : Int) (i : Nat) : Int := (Sp.dA (argD f x i)).kind
def regF (f : Sp.Fmt) (x : Int) (i : Nat) : Int := (Sp.dA (argD f x i)).reg
def numF (f : Sp.Fmt) (x : Int) (i : Nat) : Int := (Sp.dA (argD f x i)).num
theorem args_of {base n : Nat} {v : Value} {f : Sp.Fmt} {x : Int} {w : World} (h : w.ownsRow base 52 3 v n (outCells f x n)) : ArgsAt w v n (kindF f x) (regF f x) (numF f x) := by
  rcases h.2 with ⟨rfl, h0⟩ | ⟨g, cap, cur, rfl, hb, hg, _⟩
  · obtain rfl : n = 0 := h0
    exact ⟨none, 0, rfl, fun i hi => by omega⟩
  · refine ⟨_, cap, rfl, fun i hi => ⟨g, rfl, (Array.getElem?_eq_some_iff.1 hg).1, ?_, ?_, ?_⟩⟩
    · rw [h.cellAt _ (by omega)]; exact (outCells_at f x i n hi).1
    · rw [h.cellAt _ (by omega)]; exact (outCells_at f x i n hi).2.1
    · rw [h.cellAt _ (by omega)]; exact (outCells_at f x i n hi).2.2
theorem ArgsAt.on {w w' : World} {v : Value} {n : Nat} {kf rf mf : Nat → Int} (h : ArgsAt w v n kf rf mf) (hb : Below w.heap.size w w') : ArgsAt w' v n kf rf mf := by
  obtain ⟨g, cap, rfl, hq⟩ := h.val
  refine ⟨g, cap, rfl, fun i hi => ?_⟩
  obtain ⟨b, hg, hlt, h0, h1, h2⟩ := hq i hi
  exact ⟨b, hg, Nat.lt_of_lt_of_le hlt hb.size, (hb.cell hlt).trans h0, (hb.cell hlt).trans h1, (hb.cell hlt).trans h2⟩

theorem four_word (x : Int) : wordOf (fourOf x) = x := by
  simp [wordOf, fourOf]; omega
theorem four_fits (x : Int) (hx : 0 ≤ x) (hx2 : x ≤ 4294967295) : ∀ z ∈ fourOf x, 0 ≤ z ∧ z ≤ 255 := by
  intro z hz
  simp [fourOf] at hz
  rcases hz with rfl | rfl | rfl | rfl <;> omega
theorem four_bytes (x : Int) (hx : 0 ≤ x) (hx2 : x ≤ 4294967295) (w : World) : BytesAt (w.alloc (.cells ((fourOf x).map (Value.int .u8)).toArray 5)) (.slice (some ⟨w.heap.size, 0, none⟩) 4 4) (fourOf x) := by
  refine ⟨⟨_, 4, rfl, (fun h => by cases h), fun i hi => ⟨w.heap.size, 0, rfl, by simp, ?_⟩⟩, four_fits x hx hx2, by simp [fourOf]⟩
  have hi : i < 4 := hi
  rcases (by omega : i = 0 ∨ i = 1 ∨ i = 2 ∨ i = 3) with rfl | rfl | rfl | rfl <;> simp [fourOf]

theorem rowCells_at : ∀ (rows : List Sp.Row) (i k : Nat) (r : Sp.Row), rows[i]? = some r → k < 4 → (rows.flatMap rowCells)[i * 4 + k]? = (rowCells r)[k]?
  | [], _, _, _, h, _ => by simp at h
  | q :: rows, 0, k, r, h, hk => by
    obtain rfl : q = r := by simpa using h
    rw [List.flatMap_cons, List.getElem?_append_left (by simp [rowCells]; omega)]
    simp
  | q :: rows, i + 1, k, r, h, hk => by
    rw [List.flatMap_cons, List.getElem?_append_right (by simp [rowCells]; omega)]
    have e : (i + 1) * 4 + k - (rowCells q).length = i * 4 + k := by simp [rowCells]; omega
    rw [e]
    exact rowCells_at rows i k r (by simpa using h) hk
theorem row_cell (rows : List Sp.Row) {i : Nat} {r : Sp.Row} (h : rows[i]? = some r) (w : World) (k : Nat) (hk : k < 4) {u : Value} (hu : (rowCells r)[k]? = some u) : (w.alloc (.cells (rows.flatMap rowCells).toArray 24)).cell? ⟨w.heap.size, i * 4 + k, none⟩ = some u := by
  have e := (rowCells_at rows i k r h hk).trans hu
  simpa using e

theorem word_eq (y : Int) (hy : 0 ≤ y ∧ y ≤ 4294967295) (m f : Nat) (hm : m < 4294967296) (hf : f < 4294967296) : bits .or .u32 (bits .andNot .u32 y m) f = ((wordBits y.toNat m f : Nat) : Int) := by
  rw [u32_andNot y m (by omega) (by omega) (by omega) (by omega)]
  have h : y.toNat &&& (4294967295 - (m : Int).toNat) < 2 ^ 32 := Nat.and_lt_two_pow _ (by omega)
  rw [u32_or _ _ (by omega) (by omega) (by omega) (by omega)]
  simp [wordBits]

/-- What a good row and a word of it come to. -/
theorem row_law {r : Sp.Row} (h : rowOk r = true) (y : Int) (hy : 0 ≤ y ∧ y ≤ 4294967295) :
    ∃ f x, bits .or .u32 (bits .andNot .u32 y r.mask) r.fixed = x ∧ 0 ≤ x ∧ x ≤ 4294967295 ∧ findFmt x = some f ∧ f.op = r.op ∧ f.args.length = (formOf r).size ∧ 0 < (formOf r).size ∧ (formOf r).size ≤ 5 ∧
      ∀ i (hi : i < (formOf r).size), (((formOf r)[i].toNat : Int) ∈ regs ∨ ((formOf r)[i].toNat : Int) ∈ letters) ∧ Sp.isOf x (formOf r)[i].toNat ⟨kindF f x i, regF f x i, numF f x i⟩ = true := by
  obtain ⟨f, hf, hfit⟩ := row_finds h y.toNat
  unfold rowOk at h
  simp only [Bool.and_eq_true, decide_eq_true_eq, beq_iff_eq] at h
  obtain ⟨⟨⟨⟨⟨hM, hF⟩, hFM⟩, hl5⟩, hl0⟩, _⟩ := h
  simp only [fits, Bool.and_eq_true, decide_eq_true_eq, beq_iff_eq] at hfit
  obtain ⟨⟨⟨⟨⟨_, _⟩, hop⟩, hlen⟩, hall⟩, _⟩ := hfit
  have hsz : (formOf r).size = r.form.length := by simp [formOf, ByteArray.size]
  refine ⟨f, _, word_eq y hy r.mask r.fixed hM hF, by omega, by have := wordBits_lt (y := y.toNat) (M := r.mask) hF; omega, hf, hop, by omega, by omega, by omega, fun i hi => ?_⟩
  rw [hsz] at hi
  have hz : (r.form[i], f.args[i]'(by omega)) ∈ r.form.zip f.args := by
    rw [List.mem_iff_getElem]
    exact ⟨i, by simp; omega, by simp⟩
  have hmem := List.all_eq_true.1 hall _ hz
  have hmem' : (r.form[i], f.args[i]'(by omega)) ∈ letterMap := by simpa using hmem
  have hlt : r.form[i] < 256 := by
    have : ∀ p ∈ letterMap, p.1 < 256 := by decide
    exact this _ hmem'
  have hget : (formOf r)[i].toNat = r.form[i] := by
    have e : (formOf r)[i] = UInt8.ofNat r.form[i] := by
      show (formOf r).data[i] = _
      simp [formOf]
    rw [e]
    simp
    omega
  rw [hget]
  have hd : argD f ((wordBits y.toNat r.mask r.fixed : Nat) : Int) i = Sp.darg (f.args[i]'(by omega)) ((wordBits y.toNat r.mask r.fixed : Nat) : Int) f.op := by
    simp [argD, List.getD, show i < f.args.length by omega]
  unfold kindF regF numF
  rw [hd]
  exact letter_ok hmem' _
end Go.Proofs.YtiffpgjhopicaaaDoor

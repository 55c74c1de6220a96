/-
  The walks of the five functions of rows: each hands back a slice of its rows, in a new block. One lemma on a list of composites, by induction; that the code is such a list is asked of the kernel. Conditions: none.
-/
import Derived.Test.YtiffpgjhopicaaaDoorFmt
namespace Go.Proofs.YtiffpgjhopicaaaDoor
open Go.RowKit Go.BigFrame

/-- The letters of a form as the text of it. -/
def formOf (r : Sp.Row) : ByteArray := ⟨(r.form.map fun n => UInt8.ofNat n).toArray⟩
def rowCells (r : Sp.Row) : List Value := [.int .i64 r.op, .int .u32 r.fixed, .int .u32 r.mask, .string (formOf r)]
def rowVal (r : Sp.Row) : Value := .agg (rowCells r).toArray

def buildOk (d : Nat) (r : Sp.Row) : Oper → Bool
  | ⟨some d', .build 24 ps, _, _, _, none⟩ => d' == d && (match ps.toList with
    | [(0, .const (.int .i64 a)), (1, .const (.int .u32 b)), (2, .const (.int .u32 c)), (3, .const (.string s))] => a == (r.op : Int) && b == (r.fixed : Int) && c == (r.mask : Int) && s.data.toList == r.form.map (fun n => UInt8.ofNat n)
    | _ => false)
  | _ => false
def tmpsOk : Nat → Nat → List (Nat × Operand) → Bool
  | _, 0, [] => true
  | k, n + 1, (i, .tmp t) :: ps => i == k && t == k + 1 && tmpsOk (k + 1) n ps
  | _, _, _ => false
def lastOk (n d : Nat) : List Oper → Bool
  | [⟨some e, .buildSlice 27 m parts, _, _, _, none⟩, ⟨some 0, .assign (.tmp e'), _, _, _, none⟩] => e == d && e' == d && m == n && tmpsOk 0 n parts.toList
  | _ => false
def opsOk (n : Nat) : Nat → List Sp.Row → List Oper → Bool
  | d, [], os => lastOk n d os
  | d, r :: rs, o :: os => buildOk d r o && opsOk n (d + 1) rs os
  | _, _, _ => false
def rowsOk (rs : List Sp.Row) : Code → Bool
  | .seq (.region _ ops0 false) (.seq (.region _ ops1 false) .ret) => (match ops0.toList with | [⟨some 0, .assign (.const (.slice none 0 0)), _, _, _, none⟩] => true | _ => false) && opsOk rs.length 1 rs ops1.toList
  | _ => false

theorem run_build24 {a : Act} {d : Nat} {r : Sp.Row} {o : Oper} (h : buildOk d r o = true) (w : World) : o.guard = none ∧ o.dst = some d ∧ (execOp a.eval o).run Tryd.prog w = .ok (.value (rowVal r)) w := by
  unfold buildOk at h
  split at h
  case h_2 => cases h
  rename_i d' ps ty pos af
  simp only [Bool.and_eq_true, beq_iff_eq] at h
  obtain ⟨rfl, h⟩ := h
  split at h
  case h_2 => cases h
  rename_i x y z s hl
  simp only [Bool.and_eq_true, beq_iff_eq] at h
  obtain ⟨⟨⟨rfl, rfl⟩, rfl⟩, hs⟩ := h
  obtain ⟨pl⟩ := ps
  obtain rfl := hl
  obtain ⟨⟨sl⟩⟩ := s
  obtain rfl := hs
  refine ⟨rfl, rfl, ?_⟩
  have key : ∀ ev : Operand → Value, (∀ c, ev (.const c) = c) →
      (execOp ev ⟨some d', .build 24 #[(0, .const (.int .i64 r.op)), (1, .const (.int .u32 r.fixed)), (2, .const (.int .u32 r.mask)), (3, .const (.string (formOf r)))], ty, pos, af, none⟩).run Tryd.prog w = .ok (.value (rowVal r)) w := by
    intro ev h0
    simp [go_sem, execOp, h0, rowVal, rowCells]
  exact key a.eval fun _ => rfl

def partsOf : Nat → List Sp.Row → List (Nat × Value)
  | _, [] => []
  | k, r :: rs => (k, rowVal r) :: partsOf (k + 1) rs
theorem parts_eq {a : Act} : ∀ (rs : List Sp.Row) (k : Nat) (ps : List (Nat × Operand)), tmpsOk k rs.length ps = true → (∀ i r, rs[i]? = some r → a.tmps.getD (k + i + 1) undef = rowVal r) → ps.map (fun p => (p.1, a.eval p.2)) = partsOf k rs
  | [], _, [], _, _ => rfl
  | r :: rs, k, (i, .tmp t) :: ps, h, hv => by
    simp only [List.length_cons, tmpsOk, Bool.and_eq_true, beq_iff_eq] at h
    obtain ⟨⟨rfl, rfl⟩, h⟩ := h
    rw [List.map_cons, parts_eq rs (i + 1) ps h (fun j q hq => by rw [show i + 1 + j + 1 = i + (j + 1) + 1 by omega]; exact hv (j + 1) q (by simpa using hq))]
    have h0 : a.eval (.tmp (i + 1)) = rowVal r := hv 0 r rfl
    simp only [h0, partsOf]

section
variable {w : World} {Q : Exit → Act → World → Prop} {ops : Array Oper} {rows : List Sp.Row} {V : Value} {W : World}
theorem last_wp (HB : (Instr.buildSlice 27 rows.length (partsOf 0 rows).toArray).run Tryd.prog w = .ok V W) {os : List Oper} (h : lastOk rows.length (rows.length + 1) os = true) {a : Act} (hs : a.tmps.size = rows.length + 2)
    (hv : ∀ i r, rows[i]? = some r → a.tmps.getD (i + 1) undef = rowVal r) (hQ : ∀ a', a'.tmps.getD 0 undef = V → a'.defers = a.defers → Q .normal a' W) : wpList Tryd.prog ops Q os a w := by
  unfold lastOk at h
  split at h
  case h_2 => cases h
  rename_i e m parts ty pos af e' ty2 pos2 af2
  simp only [Bool.and_eq_true, beq_iff_eq] at h
  obtain ⟨⟨⟨rfl, rfl⟩, rfl⟩, hp⟩ := h
  have hpe := parts_eq rows 0 parts.toList hp (a := a) (fun i r hr => by rw [Nat.zero_add]; exact hv i r hr)
  have hpa : parts.map (fun p => (p.1, a.eval p.2)) = (partsOf 0 rows).toArray := by obtain ⟨pl⟩ := parts; rw [← hpe]; exact List.map_toArray.symm ▸ rfl
  refine wpList_val (v := V) (w' := W) rfl ?_ (wpList_val rfl (run_assign_tmp _ _ _ _ _ _) (wpList_nil (hQ _ ?_ ?_)))
  · show Sem.run Tryd.prog (do pure (Next.value (← Instr.buildSlice 27 rows.length (parts.map fun p => (p.1, a.eval p.2))))) w = _
    rw [hpa, Sem.run_bind, HB]
    rfl
  · rw [put_same (by rw [put_size, hs]; exact Nat.succ_pos _), put_same (by rw [hs]; exact Nat.lt_succ_self _)]
  · rw [put_defers, put_defers]
theorem ops_wp (HB : (Instr.buildSlice 27 rows.length (partsOf 0 rows).toArray).run Tryd.prog w = .ok V W) {dfr : List Deferred} (hQ : ∀ a', a'.tmps.getD 0 undef = V → a'.defers = dfr → Q .normal a' W) :
    ∀ (rs done : List Sp.Row) (os : List Oper), rows = done ++ rs → opsOk rows.length (done.length + 1) rs os = true → ∀ a : Act, a.tmps.size = rows.length + 2 → a.defers = dfr → (∀ i r, done[i]? = some r → a.tmps.getD (i + 1) undef = rowVal r) → wpList Tryd.prog ops Q os a w
  | [], done, os, he, h, a, hs, hd, hv => by
    obtain rfl : rows = done := by simpa using he
    exact last_wp HB h hs hv fun a' p q => hQ a' p (q.trans hd)
  | r :: rs, done, [], _, h, _, _, _, _ => by cases h
  | r :: rs, done, o :: os, he, h, a, hs, hd, hv => by
    have h' : (buildOk (done.length + 1) r o && opsOk rows.length (done.length + 1 + 1) rs os) = true := h
    rw [Bool.and_eq_true] at h'
    obtain ⟨hg, hdst, hrun⟩ := run_build24 (a := a) h'.1 w
    have hl : rows.length = done.length + (rs.length + 1) := by rw [he]; simp
    refine wpList_val hg hrun ?_
    rw [hdst]
    refine ops_wp HB hQ rs (done ++ [r]) os (by simp [he]) (by simpa using h'.2) _ (by rw [put_size, hs]) (by rw [put_defers, hd]) fun i q hq => ?_
    by_cases hi : i = done.length
    · subst hi
      obtain rfl : r = q := by simpa using hq
      exact put_same (by rw [hs, hl]; show done.length + 1 < done.length + (rs.length + 1) + 2; omega)
    · have hlt : i < done.length := by
        have := (List.getElem?_eq_some_iff.1 hq).1
        simp at this
        omega
      rw [put_other (by intro e; exact hi (Nat.succ.inj e))]
      exact hv i q (by rw [List.getElem?_append_left hlt] at hq; exact hq)
end
theorem rows_wp {rows : List Sp.Row} {c : Code} (h : rowsOk rows c = true) {a : Act} {w W : World} {V : Value} {Q : Exit → Act → World → Prop} (hs : a.tmps.size = rows.length + 2)
    (HB : (Instr.buildSlice 27 rows.length (partsOf 0 rows).toArray).run Tryd.prog w = .ok V W) (hQ : ∀ a', a'.tmps.getD 0 undef = V → a'.defers = a.defers → Q .ret a' W) : c.wp Tryd.prog Q a w := by
  unfold rowsOk at h
  split at h
  case h_2 => cases h
  rename_i id0 ops0 id1 ops1
  simp only [Bool.and_eq_true] at h
  obtain ⟨h0, h1⟩ := h
  split at h0
  case h_2 => cases h0
  rename_i l0
  refine wp_seq (wp_region_list ?_)
  rw [l0]
  refine wpList_val rfl (by simp [go_sem, Act.eval]; exact ⟨rfl, rfl⟩) (wpList_nil ?_)
  refine wp_seq (wp_region_list ?_)
  refine ops_wp HB (dfr := a.defers) ?_ rows [] _ rfl h1 _ (by rw [put_size, hs]) (by rw [put_defers]) (fun i r hr => by simp at hr)
  intro a' p q
  exact wp_ret (hQ a' p q)
noncomputable def code17 : Code := match Tryd.f17.body with | some c => c | none => .skip
theorem body17 : rowsOk Sp.rowsBranch code17 = true := by kernel_rfl
theorem lenBranch : Sp.rowsBranch.length = 11 := by decide +kernel
theorem sliceBranch (w : World) : (Instr.buildSlice 27 Sp.rowsBranch.length (partsOf 0 Sp.rowsBranch).toArray).run Tryd.prog w = .ok (.slice (some ⟨w.heap.size, 0, none⟩) 11 11) (w.alloc (.cells (Sp.rowsBranch.flatMap rowCells).toArray 24)) := by kernel_rfl
theorem rowsBranch_any (w : World) : Calls Tryd.prog 17 #[] w fun e w' => e = .returned (.slice (some ⟨w.heap.size, 0, none⟩) 11 11) ∧ w' = w.alloc (.cells (Sp.rowsBranch.flatMap rowCells).toArray 24) := by
  refine calls_of_wp (c := code17) Tryd.func17 rfl ?_
  refine rows_wp body17 ?_ (sliceBranch w) (fun a' h0 hd => ?_)
  · rw [lenBranch]; simp [Tryd.ntmps17]
  · refine ⟨hd, _, ?_, rfl, rfl⟩
    have k3 : a'.tmps[0]?.getD undef = .slice (some ⟨w.heap.size, 0, none⟩) 11 11 := by simpa using h0
    simp [results, Tryd.results17, go_sem, k3]
noncomputable def code18 : Code := match Tryd.f18.body with | some c => c | none => .skip
theorem body18 : rowsOk Sp.rowsCompare code18 = true := by kernel_rfl
theorem lenCompare : Sp.rowsCompare.length = 44 := by decide +kernel
theorem sliceCompare (w : World) : (Instr.buildSlice 27 Sp.rowsCompare.length (partsOf 0 Sp.rowsCompare).toArray).run Tryd.prog w = .ok (.slice (some ⟨w.heap.size, 0, none⟩) 44 44) (w.alloc (.cells (Sp.rowsCompare.flatMap rowCells).toArray 24)) := by kernel_rfl
theorem rowsCompare_any (w : World) : Calls Tryd.prog 18 #[] w fun e w' => e = .returned (.slice (some ⟨w.heap.size, 0, none⟩) 44 44) ∧ w' = w.alloc (.cells (Sp.rowsCompare.flatMap rowCells).toArray 24) := by
  refine calls_of_wp (c := code18) Tryd.func18 rfl ?_
  refine rows_wp body18 ?_ (sliceCompare w) (fun a' h0 hd => ?_)
  · rw [lenCompare]; simp [Tryd.ntmps18]
  · refine ⟨hd, _, ?_, rfl, rfl⟩
    have k3 : a'.tmps[0]?.getD undef = .slice (some ⟨w.heap.size, 0, none⟩) 44 44 := by simpa using h0
    simp [results, Tryd.results18, go_sem, k3]
noncomputable def code19 : Code := match Tryd.f19.body with | some c => c | none => .skip
theorem body19 : rowsOk Sp.rowsFloat code19 = true := by kernel_rfl
theorem lenFloat : Sp.rowsFloat.length = 56 := by decide +kernel
theorem sliceFloat (w : World) : (Instr.buildSlice 27 Sp.rowsFloat.length (partsOf 0 Sp.rowsFloat).toArray).run Tryd.prog w = .ok (.slice (some ⟨w.heap.size, 0, none⟩) 56 56) (w.alloc (.cells (Sp.rowsFloat.flatMap rowCells).toArray 24)) := by kernel_rfl
theorem rowsFloat_any (w : World) : Calls Tryd.prog 19 #[] w fun e w' => e = .returned (.slice (some ⟨w.heap.size, 0, none⟩) 56 56) ∧ w' = w.alloc (.cells (Sp.rowsFloat.flatMap rowCells).toArray 24) := by
  refine calls_of_wp (c := code19) Tryd.func19 rfl ?_
  refine rows_wp body19 ?_ (sliceFloat w) (fun a' h0 hd => ?_)
  · rw [lenFloat]; simp [Tryd.ntmps19]
  · refine ⟨hd, _, ?_, rfl, rfl⟩
    have k3 : a'.tmps[0]?.getD undef = .slice (some ⟨w.heap.size, 0, none⟩) 56 56 := by simpa using h0
    simp [results, Tryd.results19, go_sem, k3]
noncomputable def code11 : Code := match Tryd.f11.body with | some c => c | none => .skip
theorem body11 : rowsOk Sp.rowsMemory code11 = true := by kernel_rfl
theorem lenMemory : Sp.rowsMemory.length = 66 := by decide +kernel
theorem sliceMemory (w : World) : (Instr.buildSlice 27 Sp.rowsMemory.length (partsOf 0 Sp.rowsMemory).toArray).run Tryd.prog w = .ok (.slice (some ⟨w.heap.size, 0, none⟩) 66 66) (w.alloc (.cells (Sp.rowsMemory.flatMap rowCells).toArray 24)) := by kernel_rfl
theorem rowsMemory_any (w : World) : Calls Tryd.prog 11 #[] w fun e w' => e = .returned (.slice (some ⟨w.heap.size, 0, none⟩) 66 66) ∧ w' = w.alloc (.cells (Sp.rowsMemory.flatMap rowCells).toArray 24) := by
  refine calls_of_wp (c := code11) Tryd.func11 rfl ?_
  refine rows_wp body11 ?_ (sliceMemory w) (fun a' h0 hd => ?_)
  · rw [lenMemory]; simp [Tryd.ntmps11]
  · refine ⟨hd, _, ?_, rfl, rfl⟩
    have k3 : a'.tmps[0]?.getD undef = .slice (some ⟨w.heap.size, 0, none⟩) 66 66 := by simpa using h0
    simp [results, Tryd.results11, go_sem, k3]
noncomputable def code15 : Code := match Tryd.f15.body with | some c => c | none => .skip
theorem body15 : rowsOk Sp.rowsReckon code15 = true := by kernel_rfl
theorem lenReckon : Sp.rowsReckon.length = 97 := by decide +kernel
theorem sliceReckon (w : World) : (Instr.buildSlice 27 Sp.rowsReckon.length (partsOf 0 Sp.rowsReckon).toArray).run Tryd.prog w = .ok (.slice (some ⟨w.heap.size, 0, none⟩) 97 97) (w.alloc (.cells (Sp.rowsReckon.flatMap rowCells).toArray 24)) := by kernel_rfl
theorem rowsReckon_any (w : World) : Calls Tryd.prog 15 #[] w fun e w' => e = .returned (.slice (some ⟨w.heap.size, 0, none⟩) 97 97) ∧ w' = w.alloc (.cells (Sp.rowsReckon.flatMap rowCells).toArray 24) := by
  refine calls_of_wp (c := code15) Tryd.func15 rfl ?_
  refine rows_wp body15 ?_ (sliceReckon w) (fun a' h0 hd => ?_)
  · rw [lenReckon]; simp [Tryd.ntmps15]
  · refine ⟨hd, _, ?_, rfl, rfl⟩
    have k3 : a'.tmps[0]?.getD undef = .slice (some ⟨w.heap.size, 0, none⟩) 97 97 := by simpa using h0
    simp [results, Tryd.results15, go_sem, k3]
end Go.Proofs.YtiffpgjhopicaaaDoor

/-
  The walk of instFormatAt: at each index from 0 to 398 it hands back the format of that row of the table. One lemma on a chain of arms, by induction over the table; that the code is such a chain is asked of the kernel. Conditions: the index lies in the table.
-/
import Derived.Test.YtiffpgjhopicaaaDoorTab
import Derived.Test.YtiffpgjhopicaaaDoorIs
namespace Go.Proofs.YtiffpgjhopicaaaDoor
open Go.RowKit

/-- The numbers of a format's arguments, as parts of a composite from place i on. -/
def partsFrom : Nat → List Nat → List (Nat × Operand)
  | _, [] => []
  | i, a :: zs => (i, .const (.int .u16 (a : Int))) :: partsFrom (i + 1) zs
def partsOk : Nat → List Nat → List (Nat × Operand) → Bool
  | _, [], [] => true
  | i, a :: zs, (k, .const (.int .u16 n)) :: ps => k == i && n == (a : Int) && partsOk (i + 1) zs ps
  | _, _, _ => false
theorem partsOk_eq : ∀ (zs : List Nat) (i : Nat) (ps : List (Nat × Operand)), partsOk i zs ps = true → ps = partsFrom i zs
  | [], _, [], _ => rfl
  | a :: zs, i, (k, .const (.int .u16 n)) :: ps, h => by
    simp only [partsOk, Bool.and_eq_true, beq_iff_eq] at h
    obtain ⟨⟨rfl, rfl⟩, h⟩ := h
    rw [partsFrom, partsOk_eq zs _ ps h]

def fmtCells (f : Sp.Fmt) : Array Value := #[.int .u32 f.mask, .int .u32 f.value, .int .u16 f.op, .int .u16 (f.args.getD 0 0 : Nat), .int .u16 (f.args.getD 1 0 : Nat), .int .u16 (f.args.getD 2 0 : Nat), .int .u16 (f.args.getD 3 0 : Nat), .int .u16 (f.args.getD 4 0 : Nat)]
def fmtVal (f : Sp.Fmt) : Value := .agg (fmtCells f)
def argCells (f : Sp.Fmt) : Array Value := #[.int .u16 (f.args.getD 0 0 : Nat), .int .u16 (f.args.getD 1 0 : Nat), .int .u16 (f.args.getD 2 0 : Nat), .int .u16 (f.args.getD 3 0 : Nat), .int .u16 (f.args.getD 4 0 : Nat)]

/-- The arm of a format: two composites, a store into the result, a return. -/
def yesOk (f : Sp.Fmt) : Code → Bool
  | .seq (.region _ ops false) .ret => match ops.toList with
    | [⟨some d6, .build 60 ps, _, _, _, none⟩, ⟨some d7, .build 62 qs, _, _, _, none⟩, ⟨none, .store 62 (.tmp 2) (.tmp e7), _, _, _, none⟩] =>
      partsOk 0 f.args ps.toList && decide (f.args.length ≤ 5) && e7 == d7 && decide (3 < d6) && decide (3 < d7) && decide (d6 < 1601) && decide (d7 < 1601) && (match qs.toList with
        | [(0, .const (.int .u32 m)), (1, .const (.int .u32 v)), (2, .const (.int .u16 o)), (3, .tmp e6)] => m == (f.mask : Int) && v == (f.value : Int) && o == (f.op : Int) && e6 == d6
        | _ => false)
    | _ => false
  | _ => false
/-- A test of the chain, and its two ways. -/
def armOf (j : Nat) : Code → Option (Code × Code)
  | .seq (.region _ ops false) (.cond (.tmp h) yes no) => match ops.toList with
    | [⟨some d, .binOp .eql 3 (.tmp 3) (.const (.int .i64 k)) 3, _, _, _, none⟩, ⟨some h', .assign (.tmp d'), _, _, _, none⟩] =>
      if k == (j : Int) && d' == d && h' == h && decide (3 < d) && decide (3 < h) && decide (d < 1601) && decide (h < 1601) then some (yes, no) else none
    | _ => none
  | _ => none
def chainOk : Nat → List Sp.Fmt → Code → Bool
  | _, [], _ => true
  | j, f :: fs, c => match armOf j c with
    | some (yes, no) => yesOk f yes && chainOk (j + 1) fs no
    | none => false
def bodyOk (fs : List Sp.Fmt) : Code → Bool
  | .seq (.region _ ops0 false) (.seq (.seq (.region _ ops1 false) (.block _ c)) _) => (match ops0.toList with | [⟨some 2, .alloc 62, _, _, _, none⟩] => true | _ => false) && (match ops1.toList with | [⟨some 3, .move (.tmp 0), _, _, _, none⟩] => true | _ => false) && chainOk 0 fs c
  | _ => false
noncomputable def code26 : Code := match Tryd.f26.body with | some c => c | none => .skip
theorem body26 : bodyOk Sp.tab code26 = true := by kernel_rfl

section
variable {P : Program} {ops : Array Oper} {Q : Exit → Act → World → Prop} {a : Act} {w w' : World} {rest : List Oper} {o : Oper} {v : Value}
theorem wpList_val (hg : o.guard = none) (hr : (execOp a.eval o).run P w = .ok (.value v) w') (h : wpList P ops Q rest (a.put o.dst v) w') : wpList P ops Q (o :: rest) a w :=
  wpList_plain hg fun K hK => by unfold Oper.wp; rw [hr]; exact hK _ _ h
theorem wpList_void (hg : o.guard = none) (hr : (execOp a.eval o).run P w = .ok .skip w') (h : wpList P ops Q rest (a.put o.dst undef) w') : wpList P ops Q (o :: rest) a w :=
  wpList_plain hg fun K hK => by unfold Oper.wp; rw [hr]; exact hK _ _ h
end

theorem put_size {a : Act} {d : Option Tmp} {v : Value} : (a.put d v).tmps.size = a.tmps.size := by cases d <;> simp [Act.put]
theorem put_same {a : Act} {d : Tmp} {v : Value} (h : d < a.tmps.size) : (a.put (some d) v).tmps.getD d undef = v := by simp [Act.put, Array.getD, h]
theorem put_other {a : Act} {d e : Tmp} {v : Value} (h : e ≠ d) : (a.put (some d) v).tmps.getD e undef = a.tmps.getD e undef := by
  simp only [Act.put, Array.getD_eq_getD_getElem?, Array.getElem?_setIfInBounds]
  rw [if_neg (Ne.symm h)]
theorem put_none {a : Act} {v : Value} : a.put none v = a := rfl
theorem put_defers {a : Act} {d : Option Tmp} {v : Value} : (a.put d v).defers = a.defers := by cases d <;> rfl

theorem run_test {a : Act} (d : Option Tmp) (k v : Int) (ty : TypeId) (pos : String) (af : Array Edge) (w : World) (h : a.tmps.getD 3 undef = .int .i64 v) :
    (execOp a.eval ⟨d, .binOp .eql 3 (.tmp 3) (.const (.int .i64 k)) 3, ty, pos, af, none⟩).run Tryd.prog w = .ok (.value (.bool (v == k))) w := by
  simp [go_sem, Act.eval, h]
theorem run_assign_tmp {P : Program} {a : Act} (d : Option Tmp) (x : Tmp) (ty : TypeId) (pos : String) (af : Array Edge) (w : World) :
    (execOp a.eval ⟨d, .assign (.tmp x), ty, pos, af, none⟩).run P w = .ok (.value (a.tmps.getD x undef)) w := by
  simp [go_sem, Act.eval]
theorem run_build60 {a : Act} (f : Sp.Fmt) (hf : f.args.length ≤ 5) (d : Option Tmp) (ps : Array (Nat × Operand)) (hp : ps.toList = partsFrom 0 f.args) (ty : TypeId) (pos : String) (af : Array Edge) (w : World) :
    (execOp a.eval ⟨d, .build 60 ps, ty, pos, af, none⟩).run Tryd.prog w = .ok (.value (.agg (argCells f))) w := by
  obtain ⟨l⟩ := ps
  obtain rfl : l = partsFrom 0 f.args := hp
  obtain ⟨m, v, o, args⟩ := f
  simp only [argCells]
  simp only at hf
  rcases args with _ | ⟨a0, args⟩
  · kernel_rfl
  rcases args with _ | ⟨a1, args⟩
  · kernel_rfl
  rcases args with _ | ⟨a2, args⟩
  · kernel_rfl
  rcases args with _ | ⟨a3, args⟩
  · kernel_rfl
  rcases args with _ | ⟨a4, args⟩
  · kernel_rfl
  rcases args with _ | ⟨a5, args⟩
  · kernel_rfl
  · simp at hf
theorem run_build62 {a : Act} (f : Sp.Fmt) (d : Option Tmp) (e : Tmp) (he : a.tmps.getD e undef = .agg (argCells f)) (ty : TypeId) (pos : String) (af : Array Edge) (w : World) :
    (execOp a.eval ⟨d, .build 62 #[(0, .const (.int .u32 f.mask)), (1, .const (.int .u32 f.value)), (2, .const (.int .u16 f.op)), (3, .tmp e)], ty, pos, af, none⟩).run Tryd.prog w = .ok (.value (fmtVal f)) w := by
  have h : a.eval (.tmp e) = .agg (argCells f) := he
  have key : ∀ ev : Operand → Value, ev (.const (.int .u32 f.mask)) = .int .u32 f.mask → ev (.const (.int .u32 f.value)) = .int .u32 f.value → ev (.const (.int .u16 f.op)) = .int .u16 f.op → ev (.tmp e) = .agg (argCells f) →
      (execOp ev ⟨d, .build 62 #[(0, .const (.int .u32 f.mask)), (1, .const (.int .u32 f.value)), (2, .const (.int .u16 f.op)), (3, .tmp e)], ty, pos, af, none⟩).run Tryd.prog w = .ok (.value (fmtVal f)) w := by
    intro ev h0 h1 h2 h3
    simp [go_sem, execOp, h0, h1, h2, h3, argCells, fmtVal, fmtCells]
  exact key a.eval rfl rfl rfl h

def zeros8 : Array Value := #[.int .u32 0, .int .u32 0, .int .u16 0, .int .u16 0, .int .u16 0, .int .u16 0, .int .u16 0, .int .u16 0]
theorem run_store62 {a : Act} (f : Sp.Fmt) (w : World) (d : Option Tmp) (e : Tmp) (h2 : a.tmps.getD 2 undef = .pointer (some ⟨w.heap.size, 0, none⟩)) (he : a.tmps.getD e undef = fmtVal f) (ty : TypeId) (pos : String) (af : Array Edge) :
    (execOp a.eval ⟨d, .store 62 (.tmp 2) (.tmp e), ty, pos, af, none⟩).run Tryd.prog (w.alloc (.cells zeros8 62)) = .ok .skip (w.alloc (.cells (fmtCells f) 62)) := by
  have key : ∀ ev : Operand → Value, ev (.tmp 2) = .pointer (some ⟨w.heap.size, 0, none⟩) → ev (.tmp e) = fmtVal f →
      (execOp ev ⟨d, .store 62 (.tmp 2) (.tmp e), ty, pos, af, none⟩).run Tryd.prog (w.alloc (.cells zeros8 62)) = .ok .skip (w.alloc (.cells (fmtCells f) 62)) := by
    intro ev h0 h1
    simp [go_sem, execOp, h0, h1, fmtVal, fmtCells, zeros8]
  exact key a.eval h2 he

theorem yes_wp {f : Sp.Fmt} {c : Code} (hc : yesOk f c = true) {a : Act} {w : World} {Q : Exit → Act → World → Prop} (hs : a.tmps.size = 1601) (h2 : a.tmps.getD 2 undef = .pointer (some ⟨w.heap.size, 0, none⟩))
    (hQ : ∀ a', a'.tmps.getD 2 undef = .pointer (some ⟨w.heap.size, 0, none⟩) → a'.defers = a.defers → Q .ret a' (w.alloc (.cells (fmtCells f) 62))) : c.wp Tryd.prog Q a (w.alloc (.cells zeros8 62)) := by
  unfold yesOk at hc
  split at hc
  case h_2 => cases hc
  rename_i id ops
  split at hc
  case h_2 => cases hc
  rename_i hl
  rename_i d6 ps _ _ _ d7 qs _ _ _ e7 _ _ _
  simp only [Bool.and_eq_true, beq_iff_eq, decide_eq_true_eq] at hc
  obtain ⟨⟨⟨⟨⟨⟨⟨hp, hlen⟩, rfl⟩, g6⟩, g7⟩, s6⟩, s7⟩, hq⟩ := hc
  split at hq
  case h_2 => cases hq
  rename_i e6 hql
  simp only [Bool.and_eq_true, beq_iff_eq] at hq
  obtain ⟨⟨⟨rfl, rfl⟩, rfl⟩, rfl⟩ := hq
  obtain ⟨ql⟩ := qs
  simp only at hql
  subst hql
  refine wp_seq (wp_region_list ?_)
  rw [hl]
  have n26 : (2 : Tmp) ≠ e6 := fun e => by subst e; exact absurd g6 (by decide)
  have n27 : (2 : Tmp) ≠ e7 := fun e => by subst e; exact absurd g7 (by decide)
  refine wpList_val rfl (run_build60 f hlen _ ps (partsOk_eq _ _ _ hp) _ _ _ _) ?_
  refine wpList_val rfl (run_build62 f _ _ (put_same (by rw [hs]; exact s6)) _ _ _ _) ?_
  refine wpList_void rfl (run_store62 f w _ _ (by rw [put_other n27, put_other n26, h2]) (put_same (by rw [put_size, hs]; exact s7)) _ _ _) ?_
  exact wpList_nil (wp_ret (hQ _ (by rw [put_none, put_other n27, put_other n26, h2]) (by rw [put_defers, put_defers, put_defers])))

theorem arm_wp {j : Nat} {c yes no : Code} (hc : armOf j c = some (yes, no)) {a : Act} {w : World} {v : Int} {p : Value} {Q : Exit → Act → World → Prop} (hs : a.tmps.size = 1601) (h2 : a.tmps.getD 2 undef = p) (h3 : a.tmps.getD 3 undef = .int .i64 v)
    (hyes : v = j → ∀ a', a'.tmps.size = 1601 → a'.tmps.getD 2 undef = p → a'.tmps.getD 3 undef = .int .i64 v → a'.defers = a.defers → yes.wp Tryd.prog Q a' w)
    (hno : v ≠ j → ∀ a', a'.tmps.size = 1601 → a'.tmps.getD 2 undef = p → a'.tmps.getD 3 undef = .int .i64 v → a'.defers = a.defers → no.wp Tryd.prog Q a' w) : c.wp Tryd.prog Q a w := by
  unfold armOf at hc
  split at hc
  case h_2 => cases hc
  rename_i id ops h y n
  split at hc
  case h_2 => cases hc
  rename_i hl
  rename_i d k _ _ _ h' d' _ _ _
  split at hc
  case isFalse => cases hc
  rename_i hb
  simp only [Option.some.injEq, Prod.mk.injEq] at hc
  obtain ⟨rfl, rfl⟩ := hc
  simp only [Bool.and_eq_true, beq_iff_eq, decide_eq_true_eq] at hb
  obtain ⟨⟨⟨⟨⟨⟨rfl, rfl⟩, rfl⟩, gd⟩, gh⟩, sd⟩, sh⟩ := hb
  have n2d : (2 : Tmp) ≠ d' := fun e => by subst e; exact absurd gd (by decide)
  have n3d : (3 : Tmp) ≠ d' := fun e => by subst e; exact absurd gd (by decide)
  have n2h : (2 : Tmp) ≠ h' := fun e => by subst e; exact absurd gh (by decide)
  have n3h : (3 : Tmp) ≠ h' := fun e => by subst e; exact absurd gh (by decide)
  refine wp_seq (wp_region_list ?_)
  rw [hl]
  refine wpList_val rfl (run_test _ _ _ _ _ _ _ h3) ?_
  refine wpList_val rfl (run_assign_tmp _ _ _ _ _ _) (wpList_nil ?_)
  rw [put_same (by rw [hs]; exact sd)]
  refine wp_cond_split (t := v == j) (put_same (by rw [put_size, hs]; exact sh)) (fun e => ?_) (fun e => ?_)
  · exact hyes (by simpa using e) _ (by rw [put_size, put_size, hs]) (by rw [put_other n2h, put_other n2d, h2]) (by rw [put_other n3h, put_other n3d, h3]) (by rw [put_defers, put_defers])
  · exact hno (by simpa using e) _ (by rw [put_size, put_size, hs]) (by rw [put_other n2h, put_other n2d, h2]) (by rw [put_other n3h, put_other n3d, h3]) (by rw [put_defers, put_defers])

theorem chain_wp {Q : Exit → Act → World → Prop} {w : World} {dfr : List Deferred} {f : Sp.Fmt} (v : Int)
    (hQ : ∀ a', a'.tmps.getD 2 undef = .pointer (some ⟨w.heap.size, 0, none⟩) → a'.defers = dfr → Q .ret a' (w.alloc (.cells (fmtCells f) 62))) :
    ∀ (fs : List Sp.Fmt) (j n : Nat) (c : Code), chainOk j fs c = true → fs[n]? = some f → v = (j + n : Nat) → ∀ a : Act, a.tmps.size = 1601 → a.tmps.getD 2 undef = .pointer (some ⟨w.heap.size, 0, none⟩) → a.tmps.getD 3 undef = .int .i64 v → a.defers = dfr →
      c.wp Tryd.prog Q a (w.alloc (.cells zeros8 62))
  | [], _, _, _, _, hf, _, _, _, _, _, _ => by simp at hf
  | g :: fs, j, n, c, hc, hf, hv, a, hs, h2, h3, hd => by
    unfold chainOk at hc
    split at hc
    case h_2 => cases hc
    rename_i yes no harm
    simp only [Bool.and_eq_true] at hc
    refine arm_wp harm hs h2 h3 (fun e a' s' k2 k3 kd => ?_) (fun e a' s' k2 k3 kd => ?_)
    · obtain rfl : n = 0 := by omega
      simp only [List.getElem?_cons_zero, Option.some.injEq] at hf
      subst hf
      exact yes_wp hc.1 s' k2 (fun a'' p2 pd => hQ a'' p2 (by rw [pd, kd, hd]))
    · obtain ⟨m, rfl⟩ : ∃ m, n = m + 1 := ⟨n - 1, by omega⟩
      exact chain_wp v hQ fs (j + 1) m no hc.2 (by simpa using hf) (by omega) a' s' k2 k3 (by rw [kd, hd])

theorem run_alloc62 {a : Act} (w : World) (d : Option Tmp) (ty : TypeId) (pos : String) (af : Array Edge) :
    (execOp a.eval ⟨d, .alloc 62, ty, pos, af, none⟩).run Tryd.prog w = .ok (.value (.pointer (some ⟨w.heap.size, 0, none⟩))) (w.alloc (.cells zeros8 62)) := by
  simp [go_sem, execOp, zeros8]
theorem run_move_tmp {P : Program} {a : Act} (d : Option Tmp) (x : Tmp) (ty : TypeId) (pos : String) (af : Array Edge) (w : World) :
    (execOp a.eval ⟨d, .move (.tmp x), ty, pos, af, none⟩).run P w = .ok (.value (a.tmps.getD x undef)) w := by
  simp [go_sem, Act.eval]

theorem body_wp {fs : List Sp.Fmt} {c : Code} (hc : bodyOk fs c = true) {a : Act} {w : World} {n : Nat} {f : Sp.Fmt} {Q : Exit → Act → World → Prop} (hf : fs[n]? = some f) (hs : a.tmps.size = 1601) (h0 : a.tmps.getD 0 undef = .int .i64 n)
    (hQ : ∀ a', a'.tmps.getD 2 undef = .pointer (some ⟨w.heap.size, 0, none⟩) → a'.defers = a.defers → Q .ret a' (w.alloc (.cells (fmtCells f) 62))) : c.wp Tryd.prog Q a w := by
  unfold bodyOk at hc
  split at hc
  case h_2 => cases hc
  rename_i ops0 _ ops1 _ c _
  simp only [Bool.and_eq_true] at hc
  obtain ⟨⟨ha, hb⟩, hc⟩ := hc
  split at ha
  case h_2 => cases ha
  rename_i l0
  split at hb
  case h_2 => cases hb
  rename_i l1
  refine wp_seq (wp_region_list ?_)
  rw [l0]
  refine wpList_val rfl (run_alloc62 w _ _ _ _) (wpList_nil ?_)
  refine wp_seq (wp_seq (wp_region_list ?_))
  rw [l1]
  refine wpList_val rfl (run_move_tmp _ _ _ _ _ _) (wpList_nil ?_)
  refine wp_block ?_
  refine chain_wp (n : Int) (dfr := a.defers) (f := f) (w := w) ?_ fs 0 n c hc hf (by simp) _ (by rw [put_size, put_size, hs]) (by rw [put_other (by decide), put_same (by rw [hs]; decide)]) ?_ (by rw [put_defers, put_defers])
  · intro a' k2 kd
    exact hQ a' k2 kd
  · rw [put_same (by rw [put_size, hs]; decide), put_other (by decide), h0]

theorem inst_any (n : Nat) (f : Sp.Fmt) (hf : Sp.tab[n]? = some f) (w : World) :
    Calls Tryd.prog 26 #[.int .i64 n] w fun e w' => e = .returned (fmtVal f) ∧ w' = w.alloc (.cells (fmtCells f) 62) := by
  refine calls_of_wp (c := code26) Tryd.func26 rfl ?_
  refine body_wp body26 hf ?_ ?_ (fun a' k2 kd => ?_)
  · simp [Tryd.ntmps26]
  · simp
  · refine ⟨kd, fmtVal f, ?_, rfl, rfl⟩
    have k3 : a'.tmps[2]?.getD undef = .pointer (some ⟨w.heap.size, 0, none⟩) := by simpa using k2
    simp [results, Tryd.results26, go_sem, k3, fmtVal, fmtCells]
end Go.Proofs.YtiffpgjhopicaaaDoor

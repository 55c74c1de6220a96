/-
  The walk of the law FnDecodeEnd: it answers true. Conditions: the two errors lie in their variables; the word has 32 bits.
-/
import Derived.Test.YtiffpgjhopicaaaDoorOut
namespace Go.Proofs.YtiffpgjhopicaaaDoor
open Go.RowKit Go.BigFrame

def addRow : Sp.Row := ⟨5, 1048576, 4294934528, [68, 74, 75]⟩
theorem add_law (x : Int) (hx : 0 ≤ x ∧ x ≤ 4294967295) : ∃ f y, bits .or .u32 (bits .and .u32 x 32767) 1048576 = y ∧ 0 ≤ y ∧ y ≤ 4294967295 ∧ findFmt y = some f ∧ f.op = 5 := by
  obtain ⟨f, hf, hfit⟩ := row_finds (r := addRow) (by decide +kernel) x.toNat
  simp only [fits, Bool.and_eq_true, decide_eq_true_eq, beq_iff_eq] at hfit
  have hb := wordBits_lt (y := x.toNat) (M := 4294934528) (F := 1048576) (by decide)
  refine ⟨f, _, ?_, ?_, ?_, hf, hfit.1.1.1.2⟩
  · rw [u32_and x _ (by omega) (by omega) (by decide) (by decide)]
    have h : x.toNat &&& (32767 : Int).toNat < 2 ^ 32 := Nat.and_lt_two_pow _ (by decide)
    rw [u32_or _ _ (by omega) (by omega) (by decide) (by decide)]
    rfl
  · exact Int.natCast_nonneg _
  · show ((wordBits x.toNat 4294934528 1048576 : Nat) : Int) ≤ _
    omega

theorem bytes_of_own {base : Nat} {v : Value} {zs : List Int} {w : World} (h : w.ownsRow base 5 1 v zs.length (zs.map (Value.int .u8))) (hf : ∀ z ∈ zs, 0 ≤ z ∧ z ≤ 255) (hm : zs.length ≤ 140737488355328) : BytesAt w v zs := by
  refine ⟨?_, hf, hm⟩
  rcases h.2 with ⟨rfl, h0⟩ | ⟨g, cap, cur, rfl, hb, hg, _⟩
  · obtain rfl : zs = [] := List.length_eq_zero_iff.1 h0
    exact ⟨none, 0, rfl, fun _ => ⟨rfl, rfl⟩, fun i hi => by simp at hi⟩
  · refine ⟨_, cap, rfl, (fun e => by cases e), fun i hi => ⟨g, 0, rfl, (Array.getElem?_eq_some_iff.1 hg).1, ?_⟩⟩
    rw [Nat.zero_add, h.cellAt i (by omega)]
    simp [List.getD, hi]
theorem BytesAt.on {w w' : World} {v : Value} {zs : List Int} (h : BytesAt w v zs) (hb : Below w.heap.size w w') : BytesAt w' v zs := by
  refine ⟨?_, h.fits, h.most⟩
  obtain ⟨g, cap, rfl, hn, hc⟩ := h.val
  refine ⟨g, cap, rfl, hn, fun i hi => ?_⟩
  obtain ⟨b, o, e, hlt, h2⟩ := hc i hi
  exact ⟨b, o, e, Nat.lt_of_lt_of_le hlt hb.size, (hb.cell hlt).trans h2⟩
theorem bytes_take {w : World} {g cap : Nat} {zs : List Int} (h : BytesAt w (.slice (some ⟨g, 0, none⟩) zs.length cap) zs) (k : Nat) (hk : k ≤ zs.length) : BytesAt w (.slice (some ⟨g, 0, none⟩) k cap) (zs.take k) := by
  obtain ⟨g', c', e, _, hc⟩ := h.val
  simp only [Value.slice.injEq, true_and] at e
  obtain ⟨rfl, rfl⟩ := e
  have hl : (zs.take k).length = k := by simp; omega
  refine ⟨⟨_, cap, by rw [hl], (fun e => by cases e), fun i hi => ?_⟩, fun z hz => h.fits z (List.mem_of_mem_take hz), by rw [hl]; have := h.most; omega⟩
  rw [hl] at hi
  obtain ⟨b, o, e, hb, h2⟩ := hc i (by omega)
  refine ⟨b, o, e, hb, ?_⟩
  rw [h2]
  simp [List.getD, hi]

set_option maxHeartbeats 4000000 in
theorem lawEnd_out (x i : Int) (w : World) (hi : i < 0 ∨ 3 < i) : Calls Tryd.prog 8 #[.int .u32 x, .int .i64 i] w fun e w' => e = .returned (.bool true) ∧ Below w.heap.size w w' := by
  by_cases h0 : i < 0
  · go_enter Tryd.func8, Tryd.ntmps8
    go_wp2
    go_ret
    exact ⟨rfl, Below.refl _ _⟩
  · have h3 : 3 < i := by omega
    go_enter Tryd.func8, Tryd.ntmps8
    go_wp2
    go_ret
    exact ⟨rfl, Below.refl _ _⟩

set_option maxHeartbeats 4000000 in
theorem lawEnd_in (x : Int) (k : Nat) (w : World) (he : Errs w) (hx : 0 ≤ x ∧ x ≤ 4294967295) (hk : k < 4) : Calls Tryd.prog 8 #[.int .u32 x, .int .i64 k] w fun e w' => e = .returned (.bool true) ∧ Below w.heap.size w w' := by
  obtain ⟨f, y, hy, hy1, hy2, hf, hop⟩ := add_law x hx
  have hbl : Below w.heap.size w (w.alloc (.cells ((fourOf y).map (Value.int .u8)).toArray 5)) := (Below.refl _ _).alloc (Nat.le_refl _) _
  have hfour := four_any y w hy1 hy2
  have hfb := four_bytes y hy1 hy2 w
  have he1 := he.on hbl
  have h0 : ¬ (k : Int) < 0 := by omega
  have h3 : ¬ 3 < (k : Int) := by omega
  have h4 : k ≤ 4 := by omega
  generalize (w.alloc (.cells ((fourOf y).map (Value.int .u8)).toArray 5)) = W1 at *
  have htake := bytes_take (zs := fourOf y) hfb k h4
  have hfail := impl_fail _ _ W1 htake he1 (.inl (by simp; omega))
  have hok := fun (w2 : World) (hb : Below W1.heap.size W1 w2) => impl_ok (.slice (some ⟨w.heap.size, 0, none⟩) 4 4) (fourOf y) w2 (hfb.on hb) (Nat.le_refl _) f (by rw [four_word]; exact hf)
  rw [four_word, hop, show ((5 : Nat) : Int) = 5 from rfl] at hok
  have HF := Lib.hid hfail
  have HK := Lib.hid hok
  have HB := Lib.hid hbl
  have H4 := Lib.hid hfour
  clear hfail hok hbl hfour htake hfb he1 he hf hop
  go_enter Tryd.func8, Tryd.ntmps8
  go_wp2_with (fail)
  refine H4.out.mono ?_
  rintro e w2 ⟨rfl, rfl⟩
  go_wp2_with (fail)
  refine HF.out.mono ?_
  rintro e w3 ⟨rfl, hb3⟩
  have HB3 := Lib.hid hb3
  have HK3 := Lib.hid (HK.out _ hb3)
  clear hb3
  go_wp2_with (fail)
  refine HK3.out.mono ?_
  rintro e w4 ⟨v', rfl, _, hb4⟩
  go_wp2
  go_ret
  have h3 := below_then HB3.out HB.out.size HB.out
  exact ⟨rfl, below_then hb4 h3.size h3⟩

/-- The law's answer, for any input. -/
theorem lawEnd_any (x i : Int) (w : World) (he : Errs w) (hx : 0 ≤ x ∧ x ≤ 4294967295) : Calls Tryd.prog 8 #[.int .u32 x, .int .i64 i] w fun e w' => e = .returned (.bool true) ∧ Below w.heap.size w w' := by
  by_cases h : i < 0 ∨ 3 < i
  · exact lawEnd_out x i w h
  · obtain ⟨k, rfl⟩ := Int.eq_ofNat_of_zero_le (a := i) (by omega)
    exact lawEnd_in x k w he hx (by omega)
end Go.Proofs.YtiffpgjhopicaaaDoor
